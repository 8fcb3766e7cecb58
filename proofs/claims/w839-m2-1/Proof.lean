import JvmDerived
import JvmDerived.Pilot.@@N@@Statement
import JvmDerived.Pilot.@@N@@Code
set_option linter.unusedVariables false
set_option linter.unusedSimpArgs false
@@BLOCK:HandJ.lean.txt@@
@@BLOCK:SymMore.lean.txt@@
@@BLOCK:NumsL.lean.txt@@
@@BLOCK:Masks.lean.txt@@
namespace Jvm.Pilot.@@N@@
open Jvm Jvm.ClassFile Sem Op Lib Jvm.Free Jvm.Stand Jvm.LawKit Jvm.RoadKit Bundle Jvm.Pilot.@@N@@.Jvm.D
def own_G (tb : Tables) (e : Env) (below : List Frame) (En : Outcome → State → List Loc → Prop) (Q : Option Value → Heap → List Loc → Prop) (U : State) : Prop :=
  ∃ t o, Steps tb e below U t ∧ t.status = .running ∧ Ended t below o ∧ ∃ v L, o = .returned v ∧ Q v t.heap L ∧ En o t L
/-- the frame at the end, counted from s -/
def own_E (s : State) (nc ns : Nat) (o : Outcome) (t : State) (L : List Loc) : Prop := FrameEnd s o t L nc ns
theorem own_st {tb : Tables} {e : Env} {below : List Frame} {En : Outcome → State → List Loc → Prop} {Q : Option Value → Heap → List Loc → Prop} {U U' : State} (h : own_G tb e below En Q U') (st : ∀ t, Steps tb e below U' t → Steps tb e below U t) : own_G tb e below En Q U := by
  obtain ⟨t, o, h1, h2⟩ := h
  exact ⟨t, o, st t h1, h2⟩
section OwnRet
variable {p : Program} {l : Launch} {e : Env} {R : Room} {s : State} {m : MethodId} {args : Array Value} {below : List Frame} {meth : Method} {c : Code} {T : State} {locs : List Loc} {cells slots : Nat}
theorem own_retN (X : Stand p l e R s m args below meth c T locs cells slots) (hx : p.tables.exec = Jvm.exec) (hlk : meth.locks = false) {pc : Nat} {Ls : Array Slot} {z z' : Int32} {t : FieldType} {rest : List Value} (hret : meth.sig.returnType = some t) (ht : t = .boolean ∨ t = .byte ∨ t = .char ∨ t = .short)
    (hd : decode c.code pc = .ok (.ireturn, 1)) {Q : Option Value → Heap → List Loc → Prop} {nc ns : Nat} (hc : cells ≤ nc) (hs : slots ≤ ns) (hz : nar t z = z') (hQ : Q (some (.int z')) T.heap locs) : own_G p.tables e below (own_E s nc ns) Q (T.setTop (mkF m pc Ls (.int z :: rest))) := by
  subst hz
  obtain ⟨fs, hr, hrun, hended, hW, hsame⟩ := X.leave (v := some (.int (nar t z))) (fun h => by rw [hret] at h; cases h) hlk
  exact ⟨_, _, retN X hx hret ht hd hr, hrun, hended, _, _, rfl, hQ, ⟨_, rfl⟩, hW, hsame.mono hc hs⟩
theorem own_retI (X : Stand p l e R s m args below meth c T locs cells slots) (hx : p.tables.exec = Jvm.exec) (hlk : meth.locks = false) {pc : Nat} {Ls : Array Slot} {z : Int32} {rest : List Value} (hret : meth.sig.returnType = some .int)
    (hd : decode c.code pc = .ok (.ireturn, 1)) {Q : Option Value → Heap → List Loc → Prop} {nc ns : Nat} (hc : cells ≤ nc) (hs : slots ≤ ns) (hQ : Q (some (.int z)) T.heap locs) : own_G p.tables e below (own_E s nc ns) Q (T.setTop (mkF m pc Ls (.int z :: rest))) := by
  obtain ⟨fs, hr, hrun, hended, hW, hsame⟩ := X.leave (v := some (.int z)) (fun h => by rw [hret] at h; cases h) hlk
  exact ⟨_, _, retOut X hx hret rfl (Or.inl ⟨rfl, Or.inl rfl, _, rfl⟩) hd hr, hrun, hended, _, _, rfl, hQ, ⟨_, rfl⟩, hW, hsame.mono hc hs⟩
theorem own_retJ (X : Stand p l e R s m args below meth c T locs cells slots) (hx : p.tables.exec = Jvm.exec) (hlk : meth.locks = false) {pc : Nat} {Ls : Array Slot} {z : Int64} {rest : List Value} (hret : meth.sig.returnType = some .long)
    (hd : decode c.code pc = .ok (.lreturn, 1)) {Q : Option Value → Heap → List Loc → Prop} {nc ns : Nat} (hc : cells ≤ nc) (hs : slots ≤ ns) (hQ : Q (some (.long z)) T.heap locs) : own_G p.tables e below (own_E s nc ns) Q (T.setTop (mkF m pc Ls (.long z :: rest))) := by
  obtain ⟨fs, hr, hrun, hended, hW, hsame⟩ := X.leave (v := some (.long z)) (fun h => by rw [hret] at h; cases h) hlk
  exact ⟨_, _, retOut X hx hret rfl (Or.inr (Or.inl ⟨rfl, rfl, _, rfl⟩)) hd hr, hrun, hended, _, _, rfl, hQ, ⟨_, rfl⟩, hW, hsame.mono hc hs⟩
theorem own_retA (X : Stand p l e R s m args below meth c T locs cells slots) (hx : p.tables.exec = Jvm.exec) (hlk : meth.locks = false) {pc : Nat} {Ls : Array Slot} {z : Value} {t : FieldType} {rest : List Value} (hret : meth.sig.returnType = some t) (ht : t.isReference = true) (hn : narrow t z = z) (hv : z.isRef = true)
    (hd : decode c.code pc = .ok (.areturn, 1)) {Q : Option Value → Heap → List Loc → Prop} {nc ns : Nat} (hc : cells ≤ nc) (hs : slots ≤ ns) (hQ : Q (some z) T.heap locs) : own_G p.tables e below (own_E s nc ns) Q (T.setTop (mkF m pc Ls (z :: rest))) := by
  obtain ⟨fs, hr, hrun, hended, hW, hsame⟩ := X.leave (v := some z) (fun h => by rw [hret] at h; cases h) hlk
  exact ⟨_, _, retOut X hx hret hn (Or.inr (Or.inr (Or.inr (Or.inr ⟨rfl, ht, hv⟩)))) hd hr, hrun, hended, _, _, rfl, hQ, ⟨_, rfl⟩, hW, hsame.mono hc hs⟩
theorem own_retV (X : Stand p l e R s m args below meth c T locs cells slots) (hx : p.tables.exec = Jvm.exec) (hlk : meth.locks = false) {pc : Nat} {Ls : Array Slot} (hret : meth.sig.returnType = none)
    (hd : decode c.code pc = .ok (.return_, 1)) {Q : Option Value → Heap → List Loc → Prop} {nc ns : Nat} (hc : cells ≤ nc) (hs : slots ≤ ns) (hQ : Q none T.heap locs) : own_G p.tables e below (own_E s nc ns) Q (T.setTop (mkF m pc Ls [])) := by
  obtain ⟨fs, hr, hrun, hended, hW, hsame⟩ := X.leave (v := none) (fun _ => rfl) hlk
  exact ⟨_, _, X.returnOut hx hret hd hr, hrun, hended, _, _, rfl, hQ, ⟨_, rfl⟩, hW, hsame.mono hc hs⟩
/-- the wide frame at the end: Strings may have been interned -/
def own_EW (s : State) (nc ns : Nat) (o : Outcome) (t : State) (L : List Loc) : Prop := ReturnedEndW s o t L nc ns
theorem own_retNW {vm1 : Vm} (X : Stand p l e R (s.setVm vm1) m args below meth c T locs cells slots) (hx : p.tables.exec = Jvm.exec) (hlk : meth.locks = false) {k : Nat} (hS : s.Since vm1 k) (hk : k ≤ T.heap.size) {pc : Nat} {Ls : Array Slot} {z z' : Int32} {t : FieldType} {rest : List Value} (hret : meth.sig.returnType = some t) (ht : t = .boolean ∨ t = .byte ∨ t = .char ∨ t = .short)
    (hd : decode c.code pc = .ok (.ireturn, 1)) {Q : Option Value → Heap → List Loc → Prop} {nc ns : Nat} (hc : cells ≤ nc) (hs : slots ≤ ns) (hz : nar t z = z') (hQ : Q (some (.int z')) T.heap locs) : own_G p.tables e below (own_EW s nc ns) Q (T.setTop (mkF m pc Ls (.int z :: rest))) := by
  subst hz
  obtain ⟨fs, hr, hrun, hended, h1, h2, h3, h4⟩ := X.leaveW hS hk (v := some (.int (nar t z))) (fun h => by rw [hret] at h; cases h) hlk
  exact ⟨_, _, retN X hx hret ht hd hr, hrun, hended, _, _, rfl, hQ, h1, h2, h3, h4.mono hc hs⟩
theorem own_retVW {vm1 : Vm} (X : Stand p l e R (s.setVm vm1) m args below meth c T locs cells slots) (hx : p.tables.exec = Jvm.exec) (hlk : meth.locks = false) {k : Nat} (hS : s.Since vm1 k) (hk : k ≤ T.heap.size) {pc : Nat} {Ls : Array Slot} (hret : meth.sig.returnType = none)
    (hd : decode c.code pc = .ok (.return_, 1)) {Q : Option Value → Heap → List Loc → Prop} {nc ns : Nat} (hc : cells ≤ nc) (hs : slots ≤ ns) (hQ : Q none T.heap locs) : own_G p.tables e below (own_EW s nc ns) Q (T.setTop (mkF m pc Ls [])) := by
  obtain ⟨fs, hr, hrun, hended, h1, h2, h3, h4⟩ := X.leaveW hS hk (v := none) (fun _ => rfl) hlk
  exact ⟨_, _, X.returnOut hx hret hd hr, hrun, hended, _, _, rfl, hQ, h1, h2, h3, h4.mono hc hs⟩
end OwnRet
/-- it returns r; nothing old is written (own_QV: the heap is as it was) -/
def own_QL (r : Value) (n0 : Nat) (v : Option Value) (h : Heap) (L : List Loc) : Prop := v = some r ∧ Fr n0 L
def own_QN (h0 : Heap) (n0 : Nat) (v : Option Value) (h : Heap) (L : List Loc) : Prop := v = none ∧ Fr n0 L ∧ h = h0
def own_QV (r : Value) (h0 : Heap) (n0 : Nat) (v : Option Value) (h : Heap) (L : List Loc) : Prop := v = some r ∧ Fr n0 L ∧ h = h0
def own_upd (g : Nat → Int32) (j : Nat) (x : Int32) : Nat → Int32 := fun i => if i = j then x else g i
def own_lo (n : Nat) : Int32 := Int32.ofInt (n : Int)
def own_hi (n : Nat) : Int32 := Int32.ofInt (((n % 128 : Nat) : Int) - 128)
def own_len (n : Nat) : Nat := if h : n < 128 then 1 else own_len (n / 128) + 1
termination_by n
decreasing_by omega
def own_put (g : Nat → Int32) (l n : Nat) : Nat → Int32 := if h : n < 128 then own_upd g l (own_lo n) else own_put (own_upd g l (own_hi n)) (l + 1) (n / 128)
termination_by n
decreasing_by omega
def own_at (g : Nat → Int32) (l n : Nat) : Prop := if h : n < 128 then g l = own_lo n else g l = own_hi n ∧ own_at g (l + 1) (n / 128)
termination_by n
decreasing_by omega
theorem own_len_lo {n : Nat} (h : n < 128) : own_len n = 1 := by rw [own_len, dif_pos h]
theorem own_len_hi {n : Nat} (h : ¬ n < 128) : own_len n = own_len (n / 128) + 1 := by rw [own_len, dif_neg h]
theorem own_put_lo {g : Nat → Int32} {l n : Nat} (h : n < 128) : own_put g l n = own_upd g l (own_lo n) := by rw [own_put, dif_pos h]
theorem own_put_hi {g : Nat → Int32} {l n : Nat} (h : ¬ n < 128) : own_put g l n = own_put (own_upd g l (own_hi n)) (l + 1) (n / 128) := by rw [own_put, dif_neg h]
theorem own_at_lo {g : Nat → Int32} {l n : Nat} (h : n < 128) : own_at g l n ↔ g l = own_lo n := by rw [own_at, dif_pos h]
theorem own_at_hi {g : Nat → Int32} {l n : Nat} (h : ¬ n < 128) : own_at g l n ↔ g l = own_hi n ∧ own_at g (l + 1) (n / 128) := by rw [own_at, dif_neg h]
theorem own_len_le (k : Nat) : ∀ n, n < 128 ^ (k + 1) → own_len n ≤ k + 1 := by
  induction k with
  | zero => intro n h; rw [own_len_lo (by omega)]; exact Nat.le_refl _
  | succ k ih =>
    intro n h
    by_cases hn : n < 128
    · rw [own_len_lo hn]; omega
    · rw [own_len_hi hn]
      have := ih (n / 128) (by rw [Nat.pow_succ] at h; exact Nat.div_lt_of_lt_mul (by rw [Nat.mul_comm]; exact h))
      omega
theorem own_len9 {n : Nat} (h : n < 2 ^ 63) : own_len n ≤ 9 := own_len_le 8 n (Nat.lt_of_lt_of_le h (by decide))
theorem own_len_pos (n : Nat) : 1 ≤ own_len n := by
  by_cases h : n < 128
  · rw [own_len_lo h]; exact Nat.le_refl _
  · rw [own_len_hi h]; omega
theorem own_put_below (n : Nat) : ∀ (g : Nat → Int32) (l i : Nat), i < l → own_put g l n i = g i := by
  induction n using Nat.strongRecOn with
  | ind n ih =>
    intro g l i hi
    by_cases h : n < 128
    · rw [own_put_lo h, own_upd, if_neg (by omega)]
    · rw [own_put_hi h, ih (n / 128) (by omega) _ _ _ (by omega), own_upd, if_neg (by omega)]
theorem own_at_congr (n : Nat) : ∀ (g g' : Nat → Int32) (l : Nat), (∀ i, l ≤ i → i < l + own_len n → g' i = g i) → own_at g l n → own_at g' l n := by
  induction n using Nat.strongRecOn with
  | ind n ih =>
    intro g g' l hi h1
    by_cases h : n < 128
    · rw [own_at_lo h] at h1 ⊢
      rw [hi l (Nat.le_refl _) (by have := own_len_pos n; omega)]; exact h1
    · rw [own_at_hi h] at h1 ⊢
      have e := own_len_hi h
      exact ⟨by rw [hi l (Nat.le_refl _) (by omega)]; exact h1.1, ih (n / 128) (by omega) g g' (l + 1) (fun i a b => hi i (by omega) (by omega)) h1.2⟩
theorem own_at_put (n : Nat) : ∀ (g : Nat → Int32) (l : Nat), own_at (own_put g l n) l n := by
  induction n using Nat.strongRecOn with
  | ind n ih =>
    intro g l
    by_cases h : n < 128
    · rw [own_at_lo h, own_put_lo h, own_upd, if_pos rfl]
    · rw [own_at_hi h, own_put_hi h]
      exact ⟨by rw [own_put_below _ _ _ _ (by omega), own_upd, if_pos rfl], ih (n / 128) (by omega) _ _⟩
theorem own_two (g : Nat → Int32) (l n k : Nat) : own_at (own_put (own_put g l n) (l + own_len n) k) l n :=
  own_at_congr n _ _ l (fun i _ b => own_put_below k _ _ i b) (own_at_put n g l)
theorem own_toInt {n : Nat} (h : n < 2 ^ 31) : (Int32.ofInt (n : Int)).toInt = n := by rw [Int32.toInt_ofInt, Jvm.Kit.bmod32 (by omega) (by omega)]
theorem own_clamp {n : Nat} (h : n < 2 ^ 31) : (Int32.ofInt (n : Int)).toNatClampNeg = n := by rw [Int32.toNatClampNeg, own_toInt h]; rfl
theorem own_inc (n : Nat) : Int32.ofInt (n : Int) + (1 : Int32) = Int32.ofInt ((n + 1 : Nat) : Int) := by
  rw [show ((n + 1 : Nat) : Int) = (n : Int) + 1 from rfl, Int32.ofInt_add]; rfl
theorem own_inx {n k : Nat} (h : n < k) (hk : k < 2 ^ 31) : ¬ (Int32.ofInt (n : Int) < 0 ∨ k ≤ (Int32.ofInt (n : Int)).toNatClampNeg) := by
  have e0 : (0 : Int32).toInt = 0 := by decide
  rw [own_clamp (by omega), Int32.lt_iff_toInt_lt, own_toInt (by omega), e0]; omega
theorem own_nat64 {x : Int64} {n : Nat} (h : x.toInt = n) : x.toBitVec.toNat = n := by
  have q : x.toBitVec.toInt = n := h
  have hb := x.toBitVec.isLt
  rw [BitVec.toInt_eq_toNat_cond] at q
  split at q <;> omega
theorem own_int64 {x : Int64} {n : Nat} (h : x.toBitVec.toNat = n) (hn : n < 2 ^ 63) : x.toInt = n := by
  show x.toBitVec.toInt = n
  rw [BitVec.toInt_eq_toNat_cond, h, if_pos (by omega)]
theorem own_or64 {x y : Int64} {a c k : Nat} (hx : x.toInt = a) (hy : y.toInt = ((2 ^ k * c : Nat) : Int)) (ha : a < 2 ^ k) (hn : 2 ^ k * c + a < 2 ^ 63) : (x ||| y).toInt = ((2 ^ k * c + a : Nat) : Int) := by
  refine own_int64 ?_ hn
  rw [Int64.toBitVec_or, BitVec.toNat_or, own_nat64 hx, own_nat64 hy, Nat.or_comm, ← Nat.two_pow_add_eq_or_of_lt ha]
theorem own_lo_toInt {n : Nat} (h : n < 128) : (own_lo n).toInt = n := own_toInt (by omega)
theorem own_hi_toInt (n : Nat) : (own_hi n).toInt = ((n % 128 : Nat) : Int) - 128 := by
  unfold own_hi; rw [Int32.toInt_ofInt, Jvm.Kit.bmod32 (by omega) (by omega)]
theorem own_lo_byte {v : Int64} {n : Nat} (hv : v.toInt = n) (h : n < 128) : nar .byte (v.toInt32.toInt8.toInt32) = own_lo n := by
  refine Int32.toInt_inj.mp ?_
  show (v.toInt32.toInt8.toInt32.toInt8.toInt32).toInt = _
  rw [own_lo_toInt h, Int8.toInt_toInt32, Int32.toInt_toInt8, Int8.toInt_toInt32, Int32.toInt_toInt8, Int64.toInt_toInt32, hv, Jvm.Kit.bmod32 (by omega) (by omega)]
  have e : ((n : Int).bmod (2 ^ 8)) = n := by rw [Int.bmod_def]; omega
  rw [e, e]
theorem own_hi_byte {v : Int64} {n : Nat} (hv : v.toInt = n) : nar .byte (((v &&& (127 : Int64)) ||| (128 : Int64)).toInt32.toInt8.toInt32) = own_hi n := by
  have e1 : (v &&& (127 : Int64)).toInt = ((n % 128 : Nat) : Int) := by rw [Jvm.Kit.i64_mask v 127 (k := 7) (by decide) (by decide), hv]; omega
  have e2 : ((v &&& (127 : Int64)) ||| (128 : Int64)).toInt = ((2 ^ 7 * 1 + n % 128 : Nat) : Int) := own_or64 (k := 7) (c := 1) e1 (by decide) (by omega) (by omega)
  refine Int32.toInt_inj.mp ?_
  show (((v &&& (127 : Int64)) ||| (128 : Int64)).toInt32.toInt8.toInt32.toInt8.toInt32).toInt = _
  rw [own_hi_toInt, Int8.toInt_toInt32, Int32.toInt_toInt8, Int8.toInt_toInt32, Int32.toInt_toInt8, Int64.toInt_toInt32, e2, Jvm.Kit.bmod32 (by omega) (by omega)]
  have q : (((2 ^ 7 * 1 + n % 128 : Nat) : Int).bmod (2 ^ 8)) = ((n % 128 : Nat) : Int) - 128 := by rw [Int.bmod_def]; omega
  have q2 : (((n % 128 : Nat) : Int) - 128).bmod (2 ^ 8) = ((n % 128 : Nat) : Int) - 128 := by rw [Int.bmod_def]; omega
  rw [q, q2]
theorem own_shr7 {v : Int64} {n : Nat} (hv : v.toInt = n) : ((v.toUInt64 >>> ((7 : Int32) &&& 0x3f).toInt64.toUInt64).toInt64).toInt = ((n / 128 : Nat) : Int) := by
  rw [Jvm.Kit.i64_lushr (k := 7) (Jvm.Kit.i64_nonneg.mpr (by omega)) (by decide) (by decide), hv]; omega
theorem own_128 {v : Int64} {n : Nat} (hv : v.toInt = n) : lcmpW v (128 : Int64) < 0 ↔ n < 128 := by
  have e : (128 : Int64).toInt = 128 := by decide
  rw [lw_lt, Int64.lt_iff_toInt_lt, hv, e]; omega
theorem own_lo_and {n : Nat} (h : n < 128) : (own_lo n &&& (127 : Int32)).toInt = (n : Int) := by
  rw [Jvm.Kit.i32_mask _ 127 (k := 7) (by decide) (by decide), own_lo_toInt h]; omega
theorem own_hi_and (n : Nat) : (own_hi n &&& (127 : Int32)).toInt = ((n % 128 : Nat) : Int) := by
  rw [Jvm.Kit.i32_mask _ 127 (k := 7) (by decide) (by decide), own_hi_toInt]; omega
theorem own_lo_nn {n : Nat} (h : n < 128) : ¬ own_lo n < 0 := by
  have e0 : (0 : Int32).toInt = 0 := by decide
  rw [Int32.lt_iff_toInt_lt, own_lo_toInt h, e0]; omega
theorem own_hi_neg (n : Nat) : own_hi n < 0 := by
  have e0 : (0 : Int32).toInt = 0 := by decide
  rw [Int32.lt_iff_toInt_lt, own_hi_toInt, e0]; omega
theorem own_sh : ∀ i : Fin 9, ((((Int32.ofInt ((7 * i.1 : Nat) : Int)) &&& 0x3f).toInt64).toBitVec.smod 64).toNat = 7 * i.1 := by decide +kernel
theorem own_acc {A : Int64} {b : Int32} {a c i : Nat} (hA : A.toInt = a) (hb : (b &&& (127 : Int32)).toInt = (c : Int)) (ha : a < 2 ^ (7 * i)) (hi : i < 9) (hn : 2 ^ (7 * i) * c + a < 2 ^ 63) :
    (A ||| (((b &&& (127 : Int32)).toInt64) <<< ((Int32.ofInt ((7 * i : Nat) : Int)) &&& 0x3f).toInt64)).toInt = ((2 ^ (7 * i) * c + a : Nat) : Int) := by
  refine own_or64 hA ?_ ha hn
  have e : ((b &&& (127 : Int32)).toInt64).toInt = (c : Int) := by rw [Jvm.Kit.i64_of_i32]; exact hb
  have hm : (c : Int) * 2 ^ (7 * i) = ((2 ^ (7 * i) * c : Nat) : Int) := by rw [Int.natCast_mul, Int.natCast_pow, Int.mul_comm]; rfl
  have hs := own_sh ⟨i, hi⟩
  have hs' : ((((Int32.ofInt ((7 * i : Nat) : Int)) &&& 0x3f).toInt64).toBitVec.smod 64).toNat = 7 * i := hs
  rw [Jvm.Kit.i64_shl _ _ hs' (by rw [e, hm]; omega) (by rw [e, hm]; omega), e, hm]
theorem own_iinc (i : Nat) : Int32.ofInt ((7 * i : Nat) : Int) + (7 : Int32) = Int32.ofInt ((7 * (i + 1) : Nat) : Int) := by
  rw [show ((7 * (i + 1) : Nat) : Int) = ((7 * i : Nat) : Int) + 7 by omega, Int32.ofInt_add]; rfl
/-- a byte[] of 256 places that hold g -/
def own_M (Z : State) (h : Heap) (t : Addr) (g : Nat → Int32) : Prop := ∃ c : Cell, Arr Z h t c .byte ∧ c.slots.size = 256 ∧ ∀ i, i < 256 → c.slots[i]? = some (.int (g i))
theorem own_M_new {Z : State} {h : Heap} {t : Addr} {k : ClassId} (F : Arv Z h t k .byte 256 [] (defaultValue .byte)) : own_M Z h t (fun _ => 0) := by
  obtain ⟨c, A, -, S, -, H, -⟩ := F
  have S' : c.slots.size = 256 := S
  exact ⟨c, A, S', fun i hi => H i (by omega)⟩
theorem own_M_set {Z : State} {h h' : Heap} {t : Addr} {g : Nat → Int32} {j : Nat} {x y : Int32} (F : own_M Z h t g) (hj : j < 2 ^ 31) (W : Wr h h' t (Int32.ofInt (j : Int)).toNatClampNeg (.int x)) (e : x = y) : own_M Z h' t (own_upd g j y) := by
  subst e
  obtain ⟨c, A, S, G⟩ := F
  rw [own_clamp hj] at W
  refine ⟨c.setSlot j (.int x), A.same W, by rw [sz_set]; exact S, fun i hi => ?_⟩
  by_cases e : i = j
  · subst e; simp [Cell.setSlot, S, hi, own_upd]
  · rw [own_upd, if_neg e]; simp only [Cell.setSlot]; rw [Array.getElem?_setIfInBounds_ne (Ne.symm e)]; exact G i hi
theorem own_M_ext {Z : State} {h h' : Heap} {t : Addr} {g : Nat → Int32} (F : own_M Z h t g) (E : Ext h h') : own_M Z h' t g := by obtain ⟨c, A, r⟩ := F; exact ⟨c, A.ext E, r⟩
theorem own_M_keep {Z : State} {h h' : Heap} {t : Addr} {g : Nat → Int32} {ws : List Addr} (F : own_M Z h t g) (K : Keep h h' ws) (q : t ∉ ws) : own_M Z h' t g := by obtain ⟨c, A, r⟩ := F; exact ⟨c, ⟨K.2.1 t c A.1 q, A.2⟩, r⟩
theorem own_M_lt {Z : State} {h : Heap} {t : Addr} {g : Nat → Int32} (F : own_M Z h t g) : t < h.size := by obtain ⟨c, A, r⟩ := F; exact A.lt
theorem own_room {n : Nat} (h : n ≤ 246) : ¬ (0 : Int32) < lcmpW ((Int32.ofInt (n : Int)).toInt64 + (10 : Int64)) ((256 : Int32).toInt64) := by
  have a10 : (10 : Int64).toInt = 10 := by decide
  have a256 : ((256 : Int32).toInt64).toInt = 256 := by decide
  have e : ((Int32.ofInt (n : Int)).toInt64).toInt = n := by rw [Jvm.Kit.i64_of_i32, own_toInt (by omega)]
  rw [lw_gt, Int64.lt_iff_toInt_lt, a256, Jvm.Kit.i64_add (by rw [e, a10]; omega) (by rw [e, a10]; omega), e, a10]; omega
theorem own_nneg {q : Int64} {n : Nat} (h : q.toInt = n) : ¬ lcmpW q (0 : Int64) < 0 := by
  have e0 : (0 : Int64).toInt = 0 := by decide
  rw [lw_lt, Int64.lt_iff_toInt_lt, h, e0]; omega
def own_Qi (Z : State) (r : Addr) (h0 : Heap) (n0 : Nat) (v : Option Value) (h : Heap) (L : List Loc) : Prop := v = none ∧ Fr n0 L ∧ Keep h0 h [r] ∧ ∃ t : Addr, h0.size ≤ t ∧ r ≠ t ∧ Fld Z h r "com/example/termwright/termwright/Spool$Record" "bytes" "[B" (.ref t) ∧ Fld Z h r "com/example/termwright/termwright/Spool$Record" "length" "I" (.int (Int32.ofInt ((0 : Nat) : Int))) ∧ Fld Z h r "com/example/termwright/termwright/Spool$Record" "position" "I" (.int (Int32.ofInt ((0 : Nat) : Int))) ∧ own_M Z h t (fun _ => 0)
/-- the record r: bytes t, length l, position p, what t holds -/
def own_Rec (Z : State) (h : Heap) (r t : Addr) (l p : Nat) (g : Nat → Int32) : Prop := Fld Z h r "com/example/termwright/termwright/Spool$Record" "bytes" "[B" (.ref t) ∧ Fld Z h r "com/example/termwright/termwright/Spool$Record" "length" "I" (.int (Int32.ofInt (l : Int))) ∧ Fld Z h r "com/example/termwright/termwright/Spool$Record" "position" "I" (.int (Int32.ofInt (p : Int))) ∧ own_M Z h t g
def own_Qr (Z : State) (res : Option Value) (ws : List Addr) (r t : Addr) (l p : Nat) (g : Nat → Int32) (h0 : Heap) (n0 : Nat) (v : Option Value) (h : Heap) (L : List Loc) : Prop := v = res ∧ Fr n0 L ∧ Keep h0 h ws ∧ own_Rec Z h r t l p g

theorem d1_0 : decode prog_34_method_1_code 0 = .ok (.aload_n 0, 1) := by decide +kernel
theorem d1_1 : decode prog_34_method_1_code 1 = .ok (.invokespecial 1, 3) := by decide +kernel
theorem d1_4 : decode prog_34_method_1_code 4 = .ok (.aload_n 0, 1) := by decide +kernel
theorem d1_5 : decode prog_34_method_1_code 5 = .ok (.sipush 256, 3) := by decide +kernel
theorem d1_8 : decode prog_34_method_1_code 8 = .ok (.newarray .byte, 2) := by decide +kernel
theorem d1_10 : decode prog_34_method_1_code 10 = .ok (.putfield 7, 3) := by decide +kernel
theorem d1_13 : decode prog_34_method_1_code 13 = .ok (.return_, 1) := by decide +kernel
theorem pn_1 : plainName "com/example/termwright/termwright/Spool$Record" = true := by first | (simp [plainName, overriddenIn]; done) | decide +kernel
theorem ef_1 (m : MethodId) (a0 : Addr) : entryFrame m #[(.ref a0)] 1 = mkF m 0 #[.val (.ref a0)] [] := by first | (simp [entryFrame, mkF, argsToLocals, Value.category]; done) | rfl
set_option maxRecDepth 65536 in
set_option maxHeartbeats 40000000 in
theorem rm1 (l : Launch) (Z : State) (a0 : Array Value) (hw : ∀ d ∈ tables_1, d.before a0 Z = true) (ws : List Jvm.Cond) (a0 : Addr) (u1 : Value) (h0 : Heap) (n0 : Nat) (Z0 : n0 ≤ h0.size) (g_a0 : n0 ≤ a0) (E0 : Exa Z h0 a0 "com/example/termwright/termwright/Spool$Record") (Fb : Fld Z h0 a0 "com/example/termwright/termwright/Spool$Record" "bytes" "[B" u1) (Fl : Fld Z h0 a0 "com/example/termwright/termwright/Spool$Record" "length" "I" (.int (Int32.ofInt ((0 : Nat) : Int)))) (Fp : Fld Z h0 a0 "com/example/termwright/termwright/Spool$Record" "position" "I" (.int (Int32.ofInt ((0 : Nat) : Int)))) :
    MetFree l (⟨"com/example/termwright/termwright/Spool$Record", "<init>", "()V"⟩ : MethodName) (head1 (Jvm.Cond.code (⟨"com/example/termwright/termwright/Spool$Record", "<init>", "()V"⟩ : MethodName) prog_34_method_1_code 1 none :: ws) ({ frames := 1, cells := 1, slots := 256, locals := 12 } : Room)) (fun a U => a = #[(.ref a0)] ∧ Z.Warmed39 U.vm ∧ U.heap = h0) (fun _ _ _ _ _ => True) (fun _ U o U' => ∃ v L, o = .returned v ∧ own_Qi Z a0 h0 n0 v U'.heap L ∧ FrameEnd U o U' L ({ frames := 1, cells := 1, slots := 256, locals := 12 } : Room).cells ({ frames := 1, cells := 1, slots := 256, locals := 12 } : Room).slots) := by
  refine MetFree.of_bodySF (plainFor_of_name pn_1) hisR ?_
  intro p e s m args below meth c s₁ Bd hml0 hP hK
  obtain ⟨rfl, hZ, hh⟩ := hP
  have hx := Bd.exec
  have hby := Bd.bytes
  have hlk : meth.locks = false := BodyLoose.notSynchronized Bd
  have hret := Bd.returns
  have hml : c.maxLocals = 1 := hml0
  have hown : s.vm.findClass "com/example/termwright/termwright/Spool$Record" = some m.cls := findClass_of_methodNamed Bd.named
  have hnm := (name_of_methodNamed Bd.named Bd.method).1
  have X0 : Stand p l e ({ frames := 1, cells := 1, slots := 256, locals := 12 } : Room) s m #[(.ref a0)] below meth c s₁ [] 0 0 := Stand.of_body Bd
  have e0 : s₁.heap = h0 := by rw [← hh, Bd.state]; rfl
  have N0 := Fr.nil n0
  show own_G p.tables e below (own_E s ({ frames := 1, cells := 1, slots := 256, locals := 12 } : Room).cells ({ frames := 1, cells := 1, slots := 256, locals := 12 } : Room).slots) (own_Qi Z a0 h0 n0) (s₁.setTop (entryFrame m #[(.ref a0)] 1))
  refine own_st ?_ (fun t_ k_ => castTop (ef_1 m a0) k_)
  show own_G p.tables e below _ _ (s₁.setTop (mkF m 0 #[.val (.ref a0)] []))
  refine own_st ?_ (fun t_ k_ => XS.aloadN X0.here hx rfl (hb hby d1_0) rfl rfl k_)
  show own_G p.tables e below _ _ (s₁.setTop (mkF m 1 #[.val (.ref a0)] [(.ref a0)]))
  obtain ⟨T1, X1, e1, st1⟩ := initO X0 hx hZ hown (hw _ (List.mem_of_getElem? (i := 7) rfl)) (hw _ (List.mem_of_getElem? (i := 8) rfl)) (hw _ (List.mem_of_getElem? (i := 9) rfl)) e0 (g := (mkF m 1 #[.val (.ref a0)] [(.ref a0)])) rfl (by rw [hml]; rfl) rfl (hb hby d1_1) (by decide) (W := 0) (by show 2 * 0 + _ ≤ _; exact Nat.le_of_eq rfl) (by decide)
  refine own_st ?_ st1
  show own_G p.tables e below _ _ (T1.setTop (mkF m 4 #[.val (.ref a0)] []))
  refine own_st ?_ (fun t_ k_ => XS.aloadN X1.here hx rfl (hb hby d1_4) rfl rfl k_)
  show own_G p.tables e below _ _ (T1.setTop (mkF m 5 #[.val (.ref a0)] [(.ref a0)]))
  refine own_st ?_ (fun t_ k_ => XS.sipush X1.here hx rfl (hb hby d1_5) k_)
  show own_G p.tables e below _ _ (T1.setTop (mkF m 8 #[.val (.ref a0)] [(.int (256 : Int32)), (.ref a0)]))
  obtain ⟨T2, h2, k2, X2, e2, E2, A2, st2⟩ := newP X1 hx hZ (hw _ (List.mem_of_getElem? (i := 10) rfl)) e1 (g := (mkF m 8 #[.val (.ref a0)] [(.int (256 : Int32)), (.ref a0)])) rfl (hb hby d1_8) rfl (by decide) (cap := 256) (by decide) (by decide) (by decide) (by decide)
  obtain ⟨b2, gz2⟩ : ∃ z, z = h0.size := ⟨_, rfl⟩
  rw [← gz2] at A2 st2
  have ne_a0_b2 : a0 ≠ b2 := Nat.ne_of_lt (Nat.lt_of_lt_of_le E0.lt (Nat.le_of_eq gz2.symm))
  have g_b2 : n0 ≤ b2 := Nat.le_trans Z0 (Nat.le_of_eq gz2.symm)
  have sz_b2 : h0.size ≤ b2 := Nat.le_trans (Keep.refl h0 [a0]).1 (Nat.le_of_eq gz2.symm)
  have F3_E : Exa Z h2 a0 "com/example/termwright/termwright/Spool$Record" := E0.ext E2
  have F4_bytes : Fld Z h2 a0 "com/example/termwright/termwright/Spool$Record" "bytes" "[B" u1 := Fb.ext E2
  have F5_length : Fld Z h2 a0 "com/example/termwright/termwright/Spool$Record" "length" "I" (.int (Int32.ofInt ((0 : Nat) : Int))) := Fl.ext E2
  have F6_position : Fld Z h2 a0 "com/example/termwright/termwright/Spool$Record" "position" "I" (.int (Int32.ofInt ((0 : Nat) : Int))) := Fp.ext E2
  have Zs7 : n0 ≤ h2.size := Nat.le_trans Z0 E2.1
  have Kc8 : Keep h0 h2 [a0] := (Keep.refl h0 [a0]).ext E2
  have M_b2 : own_M Z h2 b2 (fun _ => 0) := own_M_new (Arv.new A2 (by decide))
  refine own_st ?_ st2
  show own_G p.tables e below _ _ (T2.setTop (mkF m 10 #[.val (.ref a0)] [(.ref b2), (.ref a0)]))
  obtain ⟨T9, h9, X9, e9, W9, st9⟩ := putF X2 hx hZ hown (host := "") (Or.inl (hw _ (List.mem_of_getElem? (i := 11) rfl))) Via.refl e2 F4_bytes F3_E (Or.inl (hw _ (List.mem_of_getElem? (i := 12) rfl))) (hw _ (List.mem_of_getElem? (i := 2) rfl)) (ty := (.array .byte)) (by decide) rfl rfl (g := (mkF m 10 #[.val (.ref a0)] [(.ref b2), (.ref a0)])) rfl rfl (hb hby d1_10)
  have N9 := Fr.snoc X9 N0 g_a0
  have F10_E : Exa Z h9 a0 "com/example/termwright/termwright/Spool$Record" := F3_E.wr W9
  have F11_bytes : Fld Z h9 a0 "com/example/termwright/termwright/Spool$Record" "bytes" "[B" (.ref b2) := F4_bytes.same W9
  have F12_length : Fld Z h9 a0 "com/example/termwright/termwright/Spool$Record" "length" "I" (.int (Int32.ofInt ((0 : Nat) : Int))) := F5_length.other W9 (Or.inr (slot_ne (Or.inl (hw _ (List.mem_of_getElem? (i := 24) rfl))) (Or.inl (hw _ (List.mem_of_getElem? (i := 12) rfl))) (by decide) (t := .int) (t' := (.array .byte)) (by decide) (by decide)))
  have F13_position : Fld Z h9 a0 "com/example/termwright/termwright/Spool$Record" "position" "I" (.int (Int32.ofInt ((0 : Nat) : Int))) := F6_position.other W9 (Or.inr (slot_ne (Or.inl (hw _ (List.mem_of_getElem? (i := 32) rfl))) (Or.inl (hw _ (List.mem_of_getElem? (i := 12) rfl))) (by decide) (t := .int) (t' := (.array .byte)) (by decide) (by decide)))
  have F14_P : own_M Z h9 b2 (fun _ => 0) := own_M_keep M_b2 (Keep.of_wr W9) (ninS (Ne.symm ne_a0_b2) nin0)
  have Zs15 : n0 ≤ h9.size := Nat.le_trans Zs7 (Keep.of_wr W9).1
  have Kc16 : Keep h0 h9 [a0] := Kc8.wr W9 (Or.inl (List.mem_of_getElem? (i := 0) rfl))
  refine own_st ?_ st9
  show own_G p.tables e below _ _ (T9.setTop (mkF m 13 #[.val (.ref a0)] []))
  refine own_retV X9 hx hlk hret (hb hby d1_13) (by decide) (by decide) ⟨rfl, N9, ?_⟩
  rw [e9]
  exact ⟨Kc16, b2, sz_b2, ne_a0_b2, F11_bytes, F12_length, F13_position, F14_P⟩
theorem d6_0 : decode prog_34_method_2_code 0 = .ok (.aload_n 0, 1) := by decide +kernel
theorem d6_1 : decode prog_34_method_2_code 1 = .ok (.iconst 0, 1) := by decide +kernel
theorem d6_2 : decode prog_34_method_2_code 2 = .ok (.putfield 13, 3) := by decide +kernel
theorem d6_5 : decode prog_34_method_2_code 5 = .ok (.aload_n 0, 1) := by decide +kernel
theorem d6_6 : decode prog_34_method_2_code 6 = .ok (.iconst 0, 1) := by decide +kernel
theorem d6_7 : decode prog_34_method_2_code 7 = .ok (.putfield 17, 3) := by decide +kernel
theorem d6_10 : decode prog_34_method_2_code 10 = .ok (.aload_n 0, 1) := by decide +kernel
theorem d6_11 : decode prog_34_method_2_code 11 = .ok (.areturn, 1) := by decide +kernel
theorem pn_6 : plainName "com/example/termwright/termwright/Spool$Record" = true := by first | (simp [plainName, overriddenIn]; done) | decide +kernel
theorem ef_6 (m : MethodId) (a0 : Addr) : entryFrame m #[(.ref a0)] 1 = mkF m 0 #[.val (.ref a0)] [] := by first | (simp [entryFrame, mkF, argsToLocals, Value.category]; done) | rfl
set_option maxRecDepth 65536 in
set_option maxHeartbeats 40000000 in
theorem rm6 (l : Launch) (Z : State) (a0 : Array Value) (hw : ∀ d ∈ tables_1, d.before a0 Z = true) (ws : List Jvm.Cond) (a0 : Addr) (t : Addr) (l1 : Nat) (p1 : Nat) (g1 : Nat → Int32) (h0 : Heap) (n0 : Nat) (Z0 : n0 ≤ h0.size) (g_a0 : n0 ≤ a0) (E0 : Exa Z h0 a0 "com/example/termwright/termwright/Spool$Record") (Fb : Fld Z h0 a0 "com/example/termwright/termwright/Spool$Record" "bytes" "[B" (.ref t)) (Fl : Fld Z h0 a0 "com/example/termwright/termwright/Spool$Record" "length" "I" (.int (Int32.ofInt ((l1 : Nat) : Int)))) (Fp : Fld Z h0 a0 "com/example/termwright/termwright/Spool$Record" "position" "I" (.int (Int32.ofInt ((p1 : Nat) : Int)))) (M0 : own_M Z h0 t g1) (hne : a0 ≠ t) :
    MetFree l (⟨"com/example/termwright/termwright/Spool$Record", "clear", "()Lcom/example/termwright/termwright/Spool$Record;"⟩ : MethodName) (head1 (Jvm.Cond.code (⟨"com/example/termwright/termwright/Spool$Record", "clear", "()Lcom/example/termwright/termwright/Spool$Record;"⟩ : MethodName) prog_34_method_2_code 1 (some (.object "com/example/termwright/termwright/Spool$Record")) :: ws) ({ frames := 0, cells := 0, slots := 0, locals := 0 } : Room)) (fun a U => a = #[(.ref a0)] ∧ Z.Warmed39 U.vm ∧ U.heap = h0) (fun _ _ _ _ _ => True) (fun _ U o U' => ∃ v L, o = .returned v ∧ own_Qr Z (some (.ref a0)) [a0] a0 t 0 0 g1 h0 n0 v U'.heap L ∧ FrameEnd U o U' L ({ frames := 0, cells := 0, slots := 0, locals := 0 } : Room).cells ({ frames := 0, cells := 0, slots := 0, locals := 0 } : Room).slots) := by
  refine MetFree.of_bodySF (plainFor_of_name pn_6) hisR ?_
  intro p e s m args below meth c s₁ Bd hml0 hP hK
  obtain ⟨rfl, hZ, hh⟩ := hP
  have hx := Bd.exec
  have hby := Bd.bytes
  have hlk : meth.locks = false := BodyLoose.notSynchronized Bd
  have hret := Bd.returns
  have hml : c.maxLocals = 1 := hml0
  have hown : s.vm.findClass "com/example/termwright/termwright/Spool$Record" = some m.cls := findClass_of_methodNamed Bd.named
  have hnm := (name_of_methodNamed Bd.named Bd.method).1
  have X0 : Stand p l e ({ frames := 0, cells := 0, slots := 0, locals := 0 } : Room) s m #[(.ref a0)] below meth c s₁ [] 0 0 := Stand.of_body Bd
  have e0 : s₁.heap = h0 := by rw [← hh, Bd.state]; rfl
  have N0 := Fr.nil n0
  show own_G p.tables e below (own_E s ({ frames := 0, cells := 0, slots := 0, locals := 0 } : Room).cells ({ frames := 0, cells := 0, slots := 0, locals := 0 } : Room).slots) (own_Qr Z (some (.ref a0)) [a0] a0 t 0 0 g1 h0 n0) (s₁.setTop (entryFrame m #[(.ref a0)] 1))
  refine own_st ?_ (fun t_ k_ => castTop (ef_6 m a0) k_)
  show own_G p.tables e below _ _ (s₁.setTop (mkF m 0 #[.val (.ref a0)] []))
  refine own_st ?_ (fun t_ k_ => XS.aloadN X0.here hx rfl (hb hby d6_0) rfl rfl k_)
  show own_G p.tables e below _ _ (s₁.setTop (mkF m 1 #[.val (.ref a0)] [(.ref a0)]))
  refine own_st ?_ (fun t_ k_ => XS.iconst X0.here hx rfl (hb hby d6_1) k_)
  show own_G p.tables e below _ _ (s₁.setTop (mkF m 2 #[.val (.ref a0)] [(.int (0 : Int32)), (.ref a0)]))
  obtain ⟨T1, h1, X1, e1, W1, st1⟩ := putF X0 hx hZ hown (host := "") (Or.inl (hw _ (List.mem_of_getElem? (i := 23) rfl))) Via.refl e0 Fl E0 (Or.inl (hw _ (List.mem_of_getElem? (i := 24) rfl))) (hw _ (List.mem_of_getElem? (i := 2) rfl)) (ty := .int) (by decide) rfl rfl (g := (mkF m 2 #[.val (.ref a0)] [(.int (0 : Int32)), (.ref a0)])) rfl rfl (hb hby d6_2)
  have N1 := Fr.snoc X1 N0 g_a0
  have F2_E : Exa Z h1 a0 "com/example/termwright/termwright/Spool$Record" := E0.wr W1
  have F3_bytes : Fld Z h1 a0 "com/example/termwright/termwright/Spool$Record" "bytes" "[B" (.ref t) := Fb.other W1 (Or.inr (slot_ne (Or.inl (hw _ (List.mem_of_getElem? (i := 12) rfl))) (Or.inl (hw _ (List.mem_of_getElem? (i := 24) rfl))) (by decide) (t := (.array .byte)) (t' := .int) (by decide) (by decide)))
  have F4_length : Fld Z h1 a0 "com/example/termwright/termwright/Spool$Record" "length" "I" (.int (0 : Int32)) := Fl.same W1
  have F5_position : Fld Z h1 a0 "com/example/termwright/termwright/Spool$Record" "position" "I" (.int (Int32.ofInt ((p1 : Nat) : Int))) := Fp.other W1 (Or.inr (slot_ne (Or.inl (hw _ (List.mem_of_getElem? (i := 32) rfl))) (Or.inl (hw _ (List.mem_of_getElem? (i := 24) rfl))) (by decide) (t := .int) (t' := .int) (by decide) (by decide)))
  have F6_P : own_M Z h1 t g1 := own_M_keep M0 (Keep.of_wr W1) (ninS (Ne.symm hne) nin0)
  have Zs7 : n0 ≤ h1.size := Nat.le_trans Z0 (Keep.of_wr W1).1
  have Kc8 : Keep h0 h1 [a0] := (Keep.refl h0 [a0]).wr W1 (Or.inl (List.mem_of_getElem? (i := 0) rfl))
  refine own_st ?_ st1
  show own_G p.tables e below _ _ (T1.setTop (mkF m 5 #[.val (.ref a0)] []))
  refine own_st ?_ (fun t_ k_ => XS.aloadN X1.here hx rfl (hb hby d6_5) rfl rfl k_)
  show own_G p.tables e below _ _ (T1.setTop (mkF m 6 #[.val (.ref a0)] [(.ref a0)]))
  refine own_st ?_ (fun t_ k_ => XS.iconst X1.here hx rfl (hb hby d6_6) k_)
  show own_G p.tables e below _ _ (T1.setTop (mkF m 7 #[.val (.ref a0)] [(.int (0 : Int32)), (.ref a0)]))
  obtain ⟨T9, h9, X9, e9, W9, st9⟩ := putF X1 hx hZ hown (host := "") (Or.inl (hw _ (List.mem_of_getElem? (i := 31) rfl))) Via.refl e1 F5_position F2_E (Or.inl (hw _ (List.mem_of_getElem? (i := 32) rfl))) (hw _ (List.mem_of_getElem? (i := 2) rfl)) (ty := .int) (by decide) rfl rfl (g := (mkF m 7 #[.val (.ref a0)] [(.int (0 : Int32)), (.ref a0)])) rfl rfl (hb hby d6_7)
  have N9 := Fr.snoc X9 N1 g_a0
  have F10_E : Exa Z h9 a0 "com/example/termwright/termwright/Spool$Record" := F2_E.wr W9
  have F11_bytes : Fld Z h9 a0 "com/example/termwright/termwright/Spool$Record" "bytes" "[B" (.ref t) := F3_bytes.other W9 (Or.inr (slot_ne (Or.inl (hw _ (List.mem_of_getElem? (i := 12) rfl))) (Or.inl (hw _ (List.mem_of_getElem? (i := 32) rfl))) (by decide) (t := (.array .byte)) (t' := .int) (by decide) (by decide)))
  have F12_length : Fld Z h9 a0 "com/example/termwright/termwright/Spool$Record" "length" "I" (.int (0 : Int32)) := F4_length.other W9 (Or.inr (slot_ne (Or.inl (hw _ (List.mem_of_getElem? (i := 24) rfl))) (Or.inl (hw _ (List.mem_of_getElem? (i := 32) rfl))) (by decide) (t := .int) (t' := .int) (by decide) (by decide)))
  have F13_position : Fld Z h9 a0 "com/example/termwright/termwright/Spool$Record" "position" "I" (.int (0 : Int32)) := F5_position.same W9
  have F14_P : own_M Z h9 t g1 := own_M_keep F6_P (Keep.of_wr W9) (ninS (Ne.symm hne) nin0)
  have Zs15 : n0 ≤ h9.size := Nat.le_trans Zs7 (Keep.of_wr W9).1
  have Kc16 : Keep h0 h9 [a0] := Kc8.wr W9 (Or.inl (List.mem_of_getElem? (i := 0) rfl))
  refine own_st ?_ st9
  show own_G p.tables e below _ _ (T9.setTop (mkF m 10 #[.val (.ref a0)] []))
  refine own_st ?_ (fun t_ k_ => XS.aloadN X9.here hx rfl (hb hby d6_10) rfl rfl k_)
  show own_G p.tables e below _ _ (T9.setTop (mkF m 11 #[.val (.ref a0)] [(.ref a0)]))
  refine own_retA X9 hx hlk hret rfl rfl rfl (hb hby d6_11) (by decide) (by decide) ⟨rfl, N9, ?_⟩
  rw [e9]
  exact ⟨Kc16, F11_bytes, F12_length, F13_position, F14_P⟩
theorem d4_0 : decode prog_34_method_7_code 0 = .ok (.aload_n 0, 1) := by decide +kernel
theorem d4_1 : decode prog_34_method_7_code 1 = .ok (.getfield 13, 3) := by decide +kernel
theorem d4_4 : decode prog_34_method_7_code 4 = .ok (.i2l, 1) := by decide +kernel
theorem d4_5 : decode prog_34_method_7_code 5 = .ok (.lload_n 1, 1) := by decide +kernel
theorem d4_6 : decode prog_34_method_7_code 6 = .ok (.ladd, 1) := by decide +kernel
theorem d4_7 : decode prog_34_method_7_code 7 = .ok (.lstore_n 3, 1) := by decide +kernel
theorem d4_8 : decode prog_34_method_7_code 8 = .ok (.lload_n 3, 1) := by decide +kernel
theorem d4_9 : decode prog_34_method_7_code 9 = .ok (.aload_n 0, 1) := by decide +kernel
theorem d4_10 : decode prog_34_method_7_code 10 = .ok (.getfield 7, 3) := by decide +kernel
theorem d4_13 : decode prog_34_method_7_code 13 = .ok (.arraylength, 1) := by decide +kernel
theorem d4_14 : decode prog_34_method_7_code 14 = .ok (.i2l, 1) := by decide +kernel
theorem d4_15 : decode prog_34_method_7_code 15 = .ok (.lcmp, 1) := by decide +kernel
theorem d4_16 : decode prog_34_method_7_code 16 = .ok (.ifCond .le 31, 3) := by decide +kernel
theorem d4_47 : decode prog_34_method_7_code 47 = .ok (.return_, 1) := by decide +kernel
theorem pn_4 : plainName "com/example/termwright/termwright/Spool$Record" = true := by first | (simp [plainName, overriddenIn]; done) | decide +kernel
theorem ef_4 (m : MethodId) (a0 : Addr) (q1 : Int64) : entryFrame m #[(.ref a0), (.long q1)] 5 = mkF m 0 #[.val (.ref a0), .val (.long q1), .second, .unset, .unset] [] := by first | (simp [entryFrame, mkF, argsToLocals, Value.category]; done) | rfl
set_option maxRecDepth 65536 in
set_option maxHeartbeats 40000000 in
theorem rm4 (l : Launch) (Z : State) (a0 : Array Value) (hw : ∀ d ∈ tables_1, d.before a0 Z = true) (ws : List Jvm.Cond) (a0 : Addr) (q1 : Int64) (t : Addr) (l1 : Nat) (p1 : Nat) (g1 : Nat → Int32) (h0 : Heap) (n0 : Nat) (Z0 : n0 ≤ h0.size) (E0 : Exa Z h0 a0 "com/example/termwright/termwright/Spool$Record") (Fb : Fld Z h0 a0 "com/example/termwright/termwright/Spool$Record" "bytes" "[B" (.ref t)) (Fl : Fld Z h0 a0 "com/example/termwright/termwright/Spool$Record" "length" "I" (.int (Int32.ofInt ((l1 : Nat) : Int)))) (Fp : Fld Z h0 a0 "com/example/termwright/termwright/Spool$Record" "position" "I" (.int (Int32.ofInt ((p1 : Nat) : Int)))) (M0 : own_M Z h0 t g1) (hl : l1 ≤ 246) (hq : q1 = (10 : Int64)) :
    MetFree l (⟨"com/example/termwright/termwright/Spool$Record", "room", "(J)V"⟩ : MethodName) (head1 (Jvm.Cond.code (⟨"com/example/termwright/termwright/Spool$Record", "room", "(J)V"⟩ : MethodName) prog_34_method_7_code 5 none :: ws) ({ frames := 0, cells := 0, slots := 0, locals := 0 } : Room)) (fun a U => a = #[(.ref a0), (.long q1)] ∧ Z.Warmed39 U.vm ∧ U.heap = h0) (fun _ _ _ _ _ => True) (fun _ U o U' => ∃ v L, o = .returned v ∧ own_QN h0 n0 v U'.heap L ∧ FrameEnd U o U' L ({ frames := 0, cells := 0, slots := 0, locals := 0 } : Room).cells ({ frames := 0, cells := 0, slots := 0, locals := 0 } : Room).slots) := by
  refine MetFree.of_bodySF (plainFor_of_name pn_4) hisR ?_
  intro p e s m args below meth c s₁ Bd hml0 hP hK
  obtain ⟨rfl, hZ, hh⟩ := hP
  have hx := Bd.exec
  have hby := Bd.bytes
  have hlk : meth.locks = false := BodyLoose.notSynchronized Bd
  have hret := Bd.returns
  have hml : c.maxLocals = 5 := hml0
  have hown : s.vm.findClass "com/example/termwright/termwright/Spool$Record" = some m.cls := findClass_of_methodNamed Bd.named
  have hnm := (name_of_methodNamed Bd.named Bd.method).1
  have X0 : Stand p l e ({ frames := 0, cells := 0, slots := 0, locals := 0 } : Room) s m #[(.ref a0), (.long q1)] below meth c s₁ [] 0 0 := Stand.of_body Bd
  have e0 : s₁.heap = h0 := by rw [← hh, Bd.state]; rfl
  have N0 := Fr.nil n0
  show own_G p.tables e below (own_E s ({ frames := 0, cells := 0, slots := 0, locals := 0 } : Room).cells ({ frames := 0, cells := 0, slots := 0, locals := 0 } : Room).slots) (own_QN h0 n0) (s₁.setTop (entryFrame m #[(.ref a0), (.long q1)] 5))
  refine own_st ?_ (fun t_ k_ => castTop (ef_4 m a0 q1) k_)
  show own_G p.tables e below _ _ (s₁.setTop (mkF m 0 #[.val (.ref a0), .val (.long q1), .second, .unset, .unset] []))
  refine own_st ?_ (fun t_ k_ => XS.aloadN X0.here hx rfl (hb hby d4_0) rfl rfl k_)
  show own_G p.tables e below _ _ (s₁.setTop (mkF m 1 #[.val (.ref a0), .val (.long q1), .second, .unset, .unset] [(.ref a0)]))
  obtain ⟨T1, X1, e1, st1⟩ := getF X0 hx hZ hown (host := "") (Or.inl (hw _ (List.mem_of_getElem? (i := 23) rfl))) Via.refl e0 Fl (g := (mkF m 1 #[.val (.ref a0), .val (.long q1), .second, .unset, .unset] [(.ref a0)])) rfl rfl (hb hby d4_1)
  refine own_st ?_ st1
  show own_G p.tables e below _ _ (T1.setTop (mkF m 4 #[.val (.ref a0), .val (.long q1), .second, .unset, .unset] [(.int (Int32.ofInt ((l1 : Nat) : Int)))]))
  refine own_st ?_ (fun t_ k_ => XS.i2l X1.here hx rfl (hb hby d4_4) rfl k_)
  show own_G p.tables e below _ _ (T1.setTop (mkF m 5 #[.val (.ref a0), .val (.long q1), .second, .unset, .unset] [(.long ((Int32.ofInt ((l1 : Nat) : Int)).toInt64))]))
  refine own_st ?_ (fun t_ k_ => XS.lloadN X1.here hx rfl (hb hby d4_5) rfl k_)
  show own_G p.tables e below _ _ (T1.setTop (mkF m 6 #[.val (.ref a0), .val (.long q1), .second, .unset, .unset] [(.long q1), (.long ((Int32.ofInt ((l1 : Nat) : Int)).toInt64))]))
  refine own_st ?_ (fun t_ k_ => XS.ladd X1.here hx rfl (hb hby d4_6) rfl k_)
  show own_G p.tables e below _ _ (T1.setTop (mkF m 7 #[.val (.ref a0), .val (.long q1), .second, .unset, .unset] [(.long (((Int32.ofInt ((l1 : Nat) : Int)).toInt64) + q1))]))
  refine own_st ?_ (fun t_ k_ => XS.lstoreN X1.here hx rfl (hb hby d4_7) rfl (l' := #[.val (.ref a0), .val (.long q1), .second, .val (.long (((Int32.ofInt ((l1 : Nat) : Int)).toInt64) + q1)), .second]) rfl k_)
  show own_G p.tables e below _ _ (T1.setTop (mkF m 8 #[.val (.ref a0), .val (.long q1), .second, .val (.long (((Int32.ofInt ((l1 : Nat) : Int)).toInt64) + q1)), .second] []))
  refine own_st ?_ (fun t_ k_ => XS.lloadN X1.here hx rfl (hb hby d4_8) rfl k_)
  show own_G p.tables e below _ _ (T1.setTop (mkF m 9 #[.val (.ref a0), .val (.long q1), .second, .val (.long (((Int32.ofInt ((l1 : Nat) : Int)).toInt64) + q1)), .second] [(.long (((Int32.ofInt ((l1 : Nat) : Int)).toInt64) + q1))]))
  refine own_st ?_ (fun t_ k_ => XS.aloadN X1.here hx rfl (hb hby d4_9) rfl rfl k_)
  show own_G p.tables e below _ _ (T1.setTop (mkF m 10 #[.val (.ref a0), .val (.long q1), .second, .val (.long (((Int32.ofInt ((l1 : Nat) : Int)).toInt64) + q1)), .second] [(.ref a0), (.long (((Int32.ofInt ((l1 : Nat) : Int)).toInt64) + q1))]))
  obtain ⟨T2, X2, e2, st2⟩ := getF X1 hx hZ hown (host := "") (Or.inl (hw _ (List.mem_of_getElem? (i := 11) rfl))) Via.refl e1 Fb (g := (mkF m 10 #[.val (.ref a0), .val (.long q1), .second, .val (.long (((Int32.ofInt ((l1 : Nat) : Int)).toInt64) + q1)), .second] [(.ref a0), (.long (((Int32.ofInt ((l1 : Nat) : Int)).toInt64) + q1))])) rfl rfl (hb hby d4_10)
  refine own_st ?_ st2
  show own_G p.tables e below _ _ (T2.setTop (mkF m 13 #[.val (.ref a0), .val (.long q1), .second, .val (.long (((Int32.ofInt ((l1 : Nat) : Int)).toInt64) + q1)), .second] [(.ref t), (.long (((Int32.ofInt ((l1 : Nat) : Int)).toInt64) + q1))]))
  obtain ⟨cl3, Ar3, S3, G3⟩ := M0
  refine own_st ?_ (X2.arraylength hx (by rw [e2]; exact Ar3.1) (State.isArrayOf_alike hZ.alike Ar3.2.1) (g := (mkF m 13 #[.val (.ref a0), .val (.long q1), .second, .val (.long (((Int32.ofInt ((l1 : Nat) : Int)).toInt64) + q1)), .second] [(.ref t), (.long (((Int32.ofInt ((l1 : Nat) : Int)).toInt64) + q1))])) rfl rfl (hb hby d4_13))
  rw [show cl3.slots.size.toInt32 = (256 : Int32) by rw [S3]; rfl]
  have M3 : own_M Z h0 t g1 := ⟨cl3, Ar3, S3, G3⟩
  show own_G p.tables e below _ _ (T2.setTop (mkF m 14 #[.val (.ref a0), .val (.long q1), .second, .val (.long (((Int32.ofInt ((l1 : Nat) : Int)).toInt64) + q1)), .second] [(.int (256 : Int32)), (.long (((Int32.ofInt ((l1 : Nat) : Int)).toInt64) + q1))]))
  refine own_st ?_ (fun t_ k_ => XS.i2l X2.here hx rfl (hb hby d4_14) rfl k_)
  show own_G p.tables e below _ _ (T2.setTop (mkF m 15 #[.val (.ref a0), .val (.long q1), .second, .val (.long (((Int32.ofInt ((l1 : Nat) : Int)).toInt64) + q1)), .second] [(.long ((256 : Int32).toInt64)), (.long (((Int32.ofInt ((l1 : Nat) : Int)).toInt64) + q1))]))
  refine own_st ?_ (fun t_ k_ => XS.lcmp X2.here hx rfl (hb hby d4_15) rfl k_)
  show own_G p.tables e below _ _ (T2.setTop (mkF m 16 #[.val (.ref a0), .val (.long q1), .second, .val (.long (((Int32.ofInt ((l1 : Nat) : Int)).toInt64) + q1)), .second] [(.int (lcmpW (((Int32.ofInt ((l1 : Nat) : Int)).toInt64) + q1) ((256 : Int32).toInt64)))]))
  refine own_st ?_ (fun t_ k_ => XS.ifYes X2.here hx rfl (pc0 := 16) (pc' := 47) rfl (hb hby d4_16) rfl ((if0 _ _).trans (flt (show ¬ ((0 : Int32) < (lcmpW (((Int32.ofInt ((l1 : Nat) : Int)).toInt64) + q1) ((256 : Int32).toInt64))) from by rw [hq]; exact own_room hl)).2.2.2) (by decide) (by decide) k_)
  show own_G p.tables e below _ _ (T2.setTop (mkF m 47 #[.val (.ref a0), .val (.long q1), .second, .val (.long (((Int32.ofInt ((l1 : Nat) : Int)).toInt64) + q1)), .second] []))
  exact own_retV X2 hx hlk hret (hb hby d4_47) (by decide) (by decide) ⟨rfl, N0, e2⟩
theorem own_sel {Z : State} {a0 : Array Value} (hw : ∀ d ∈ tables_1, d.before a0 Z = true) : (Jvm.Cond.selects "com/example/termwright/termwright/Spool$Record" ({ cls := "com/example/termwright/termwright/Spool$Record", name := "room", desc := "(J)V" } : Jvm.MethodName) ({ cls := "com/example/termwright/termwright/Spool$Record", name := "room", desc := "(J)V" } : Jvm.MethodName)).before a0 Z = true := Jvm.Kit.selects_private (y := (⟨"com/example/termwright/termwright/Spool$Record", "room", "(J)V"⟩ : MethodName)) (by decide) (hw _ (List.mem_of_getElem? (i := 2) rfl)) (hw _ (List.mem_of_getElem? (i := 21) rfl)) (hw _ (List.mem_of_getElem? (i := 20) rfl))
theorem pd_0 : parseMethodDescriptor "(J)V" = some ⟨[.long], none⟩ := by decide +kernel
theorem d3_0 : decode prog_34_method_3_code 0 = .ok (.lload_n 1, 1) := by decide +kernel
theorem d3_1 : decode prog_34_method_3_code 1 = .ok (.lconst 0, 1) := by decide +kernel
theorem d3_2 : decode prog_34_method_3_code 2 = .ok (.lcmp, 1) := by decide +kernel
theorem d3_3 : decode prog_34_method_3_code 3 = .ok (.ifCond .ge 17, 3) := by decide +kernel
theorem d3_20 : decode prog_34_method_3_code 20 = .ok (.aload_n 0, 1) := by decide +kernel
theorem d3_21 : decode prog_34_method_3_code 21 = .ok (.ldc2_w 29, 3) := by decide +kernel
theorem d3_24 : decode prog_34_method_3_code 24 = .ok (.invokevirtual 31, 3) := by decide +kernel
theorem d3_27 : decode prog_34_method_3_code 27 = .ok (.lload_n 1, 1) := by decide +kernel
theorem d3_28 : decode prog_34_method_3_code 28 = .ok (.lstore_n 3, 1) := by decide +kernel
theorem d3_29 : decode prog_34_method_3_code 29 = .ok (.lload_n 3, 1) := by decide +kernel
theorem d3_30 : decode prog_34_method_3_code 30 = .ok (.ldc2_w 35, 3) := by decide +kernel
theorem d3_33 : decode prog_34_method_3_code 33 = .ok (.lcmp, 1) := by decide +kernel
theorem d3_34 : decode prog_34_method_3_code 34 = .ok (.ifCond .lt 38, 3) := by decide +kernel
theorem d3_37 : decode prog_34_method_3_code 37 = .ok (.aload_n 0, 1) := by decide +kernel
theorem d3_38 : decode prog_34_method_3_code 38 = .ok (.getfield 7, 3) := by decide +kernel
theorem d3_41 : decode prog_34_method_3_code 41 = .ok (.aload_n 0, 1) := by decide +kernel
theorem d3_42 : decode prog_34_method_3_code 42 = .ok (.dup, 1) := by decide +kernel
theorem d3_43 : decode prog_34_method_3_code 43 = .ok (.getfield 13, 3) := by decide +kernel
theorem d3_46 : decode prog_34_method_3_code 46 = .ok (.dup_x1, 1) := by decide +kernel
theorem d3_47 : decode prog_34_method_3_code 47 = .ok (.iconst 1, 1) := by decide +kernel
theorem d3_48 : decode prog_34_method_3_code 48 = .ok (.iadd, 1) := by decide +kernel
theorem d3_49 : decode prog_34_method_3_code 49 = .ok (.putfield 13, 3) := by decide +kernel
theorem d3_52 : decode prog_34_method_3_code 52 = .ok (.lload_n 3, 1) := by decide +kernel
theorem d3_53 : decode prog_34_method_3_code 53 = .ok (.ldc2_w 37, 3) := by decide +kernel
theorem d3_56 : decode prog_34_method_3_code 56 = .ok (.land, 1) := by decide +kernel
theorem d3_57 : decode prog_34_method_3_code 57 = .ok (.ldc2_w 35, 3) := by decide +kernel
theorem d3_60 : decode prog_34_method_3_code 60 = .ok (.lor, 1) := by decide +kernel
theorem d3_61 : decode prog_34_method_3_code 61 = .ok (.l2i, 1) := by decide +kernel
theorem d3_62 : decode prog_34_method_3_code 62 = .ok (.i2b, 1) := by decide +kernel
theorem d3_63 : decode prog_34_method_3_code 63 = .ok (.bastore, 1) := by decide +kernel
theorem d3_64 : decode prog_34_method_3_code 64 = .ok (.lload_n 3, 1) := by decide +kernel
theorem d3_65 : decode prog_34_method_3_code 65 = .ok (.bipush 7, 2) := by decide +kernel
theorem d3_67 : decode prog_34_method_3_code 67 = .ok (.lushr, 1) := by decide +kernel
theorem d3_68 : decode prog_34_method_3_code 68 = .ok (.lstore_n 3, 1) := by decide +kernel
theorem d3_69 : decode prog_34_method_3_code 69 = .ok (.goto (-40), 3) := by decide +kernel
theorem d3_72 : decode prog_34_method_3_code 72 = .ok (.aload_n 0, 1) := by decide +kernel
theorem d3_73 : decode prog_34_method_3_code 73 = .ok (.getfield 7, 3) := by decide +kernel
theorem d3_76 : decode prog_34_method_3_code 76 = .ok (.aload_n 0, 1) := by decide +kernel
theorem d3_77 : decode prog_34_method_3_code 77 = .ok (.dup, 1) := by decide +kernel
theorem d3_78 : decode prog_34_method_3_code 78 = .ok (.getfield 13, 3) := by decide +kernel
theorem d3_81 : decode prog_34_method_3_code 81 = .ok (.dup_x1, 1) := by decide +kernel
theorem d3_82 : decode prog_34_method_3_code 82 = .ok (.iconst 1, 1) := by decide +kernel
theorem d3_83 : decode prog_34_method_3_code 83 = .ok (.iadd, 1) := by decide +kernel
theorem d3_84 : decode prog_34_method_3_code 84 = .ok (.putfield 13, 3) := by decide +kernel
theorem d3_87 : decode prog_34_method_3_code 87 = .ok (.lload_n 3, 1) := by decide +kernel
theorem d3_88 : decode prog_34_method_3_code 88 = .ok (.l2i, 1) := by decide +kernel
theorem d3_89 : decode prog_34_method_3_code 89 = .ok (.i2b, 1) := by decide +kernel
theorem d3_90 : decode prog_34_method_3_code 90 = .ok (.bastore, 1) := by decide +kernel
theorem d3_91 : decode prog_34_method_3_code 91 = .ok (.aload_n 0, 1) := by decide +kernel
theorem d3_92 : decode prog_34_method_3_code 92 = .ok (.areturn, 1) := by decide +kernel
theorem pn_3 : plainName "com/example/termwright/termwright/Spool$Record" = true := by first | (simp [plainName, overriddenIn]; done) | decide +kernel
set_option maxRecDepth 65536 in
set_option maxHeartbeats 40000000 in
theorem own_lp {p : Program} {l : Launch} {e : Env} {s : State} {m : MethodId} {args : Array Value} {below : List Frame} {meth : Method} {c : Code} {Z : State} {a0' : Array Value} {h0 : Heap} {n0 : Nat} {a0 t : Addr} (hx : p.tables.exec = Jvm.exec) (hlk : meth.locks = false) (hZ : Z.Warmed39 s.vm) (hw : ∀ d ∈ tables_1, d.before a0' Z = true) (hby : c.code = prog_34_method_3_code) (hml : c.maxLocals = 5) (hown : s.vm.findClass "com/example/termwright/termwright/Spool$Record" = some m.cls) (hret : meth.sig.returnType = (some (.object "com/example/termwright/termwright/Spool$Record"))) (g_a0 : n0 ≤ a0) (g_t : n0 ≤ t) (hne : a0 ≠ t) (n1 : Nat) : ∀ {T0 : State} {locs : List Loc} {h1 : Heap} {q1 v : Int64} {l1 p1 : Nat} {g1 : Nat → Int32} (X0 : Stand p l e ({ frames := 1, cells := 0, slots := 0, locals := 16 } : Room) s m args below meth c T0 locs 0 0) (N0 : Fr n0 locs) (e0 : T0.heap = h1) (hl : l1 + own_len n1 ≤ 256) (hv : v.toInt = (n1 : Int)) (hn : n1 < 2 ^ 63) (K0 : Keep h0 h1 [a0, t]) (E0 : Exa Z h1 a0 "com/example/termwright/termwright/Spool$Record") (Fb : Fld Z h1 a0 "com/example/termwright/termwright/Spool$Record" "bytes" "[B" (.ref t)) (Fl : Fld Z h1 a0 "com/example/termwright/termwright/Spool$Record" "length" "I" (.int (Int32.ofInt ((l1 : Nat) : Int)))) (Fp : Fld Z h1 a0 "com/example/termwright/termwright/Spool$Record" "position" "I" (.int (Int32.ofInt ((p1 : Nat) : Int)))) (M0 : own_M Z h1 t g1) (Z1 : n0 ≤ h1.size),
    own_G p.tables e below (own_E s 0 0) (own_Qr Z (some (.ref a0)) [a0, t] a0 t (l1 + own_len n1) p1 (own_put g1 l1 n1) h0 n0) (T0.setTop (mkF m 29 #[.val (.ref a0), .val (.long q1), .second, .val (.long v), .second] [])) := by
  induction n1 using Nat.strongRecOn with
  | ind n1 ih =>
    intro T0 locs h1 q1 v l1 p1 g1 X0 N0 e0 hl hv hn K0 E0 Fb Fl Fp M0 Z1
    have hpos := own_len_pos n1
    by_cases hlt : n1 < 128
    · refine own_st ?_ (fun t_ k_ => XS.lloadN X0.here hx rfl (hb hby d3_29) rfl k_)
      show own_G p.tables e below _ _ (T0.setTop (mkF m 30 #[.val (.ref a0), .val (.long q1), .second, .val (.long v), .second] [(.long v)]))
      refine own_st ?_ (X0.ldc2Long hx hown (mvT hZ (hw _ (List.mem_of_getElem? (i := 25) rfl))) (g := (mkF m 30 #[.val (.ref a0), .val (.long q1), .second, .val (.long v), .second] [(.long v)])) rfl (hb hby d3_30))
      show own_G p.tables e below _ _ (T0.setTop (mkF m 33 #[.val (.ref a0), .val (.long q1), .second, .val (.long v), .second] [(.long (128 : Int64)), (.long v)]))
      refine own_st ?_ (fun t_ k_ => XS.lcmp X0.here hx rfl (hb hby d3_33) rfl k_)
      show own_G p.tables e below _ _ (T0.setTop (mkF m 34 #[.val (.ref a0), .val (.long q1), .second, .val (.long v), .second] [(.int (lcmpW v (128 : Int64)))]))
      refine own_st ?_ (fun t_ k_ => XS.ifYes X0.here hx rfl (pc0 := 34) (pc' := 72) rfl (hb hby d3_34) rfl ((if0 _ _).trans (tlt ((own_128 hv).mpr hlt)).1) (by decide) (by decide) k_)
      show own_G p.tables e below _ _ (T0.setTop (mkF m 72 #[.val (.ref a0), .val (.long q1), .second, .val (.long v), .second] []))
      refine own_st ?_ (fun t_ k_ => XS.aloadN X0.here hx rfl (hb hby d3_72) rfl rfl k_)
      show own_G p.tables e below _ _ (T0.setTop (mkF m 73 #[.val (.ref a0), .val (.long q1), .second, .val (.long v), .second] [(.ref a0)]))
      obtain ⟨T1, X1, e1, st1⟩ := getF X0 hx hZ hown (host := "") (Or.inl (hw _ (List.mem_of_getElem? (i := 11) rfl))) Via.refl e0 Fb (g := (mkF m 73 #[.val (.ref a0), .val (.long q1), .second, .val (.long v), .second] [(.ref a0)])) rfl rfl (hb hby d3_73)
      refine own_st ?_ st1
      show own_G p.tables e below _ _ (T1.setTop (mkF m 76 #[.val (.ref a0), .val (.long q1), .second, .val (.long v), .second] [(.ref t)]))
      refine own_st ?_ (fun t_ k_ => XS.aloadN X1.here hx rfl (hb hby d3_76) rfl rfl k_)
      show own_G p.tables e below _ _ (T1.setTop (mkF m 77 #[.val (.ref a0), .val (.long q1), .second, .val (.long v), .second] [(.ref a0), (.ref t)]))
      refine own_st ?_ (fun t_ k_ => XS.dup X1.here hx rfl (hb hby d3_77) rfl rfl k_)
      show own_G p.tables e below _ _ (T1.setTop (mkF m 78 #[.val (.ref a0), .val (.long q1), .second, .val (.long v), .second] [(.ref a0), (.ref a0), (.ref t)]))
      obtain ⟨T2, X2, e2, st2⟩ := getF X1 hx hZ hown (host := "") (Or.inl (hw _ (List.mem_of_getElem? (i := 23) rfl))) Via.refl e1 Fl (g := (mkF m 78 #[.val (.ref a0), .val (.long q1), .second, .val (.long v), .second] [(.ref a0), (.ref a0), (.ref t)])) rfl rfl (hb hby d3_78)
      refine own_st ?_ st2
      show own_G p.tables e below _ _ (T2.setTop (mkF m 81 #[.val (.ref a0), .val (.long q1), .second, .val (.long v), .second] [(.int (Int32.ofInt ((l1 : Nat) : Int))), (.ref a0), (.ref t)]))
      refine own_st ?_ (fun t_ k_ => XS.dupX1 X2.here hx rfl (hb hby d3_81) rfl rfl rfl k_)
      show own_G p.tables e below _ _ (T2.setTop (mkF m 82 #[.val (.ref a0), .val (.long q1), .second, .val (.long v), .second] [(.int (Int32.ofInt ((l1 : Nat) : Int))), (.ref a0), (.int (Int32.ofInt ((l1 : Nat) : Int))), (.ref t)]))
      refine own_st ?_ (fun t_ k_ => XS.iconst X2.here hx rfl (hb hby d3_82) k_)
      show own_G p.tables e below _ _ (T2.setTop (mkF m 83 #[.val (.ref a0), .val (.long q1), .second, .val (.long v), .second] [(.int (1 : Int32)), (.int (Int32.ofInt ((l1 : Nat) : Int))), (.ref a0), (.int (Int32.ofInt ((l1 : Nat) : Int))), (.ref t)]))
      refine own_st ?_ (fun t_ k_ => XS.iadd X2.here hx rfl (hb hby d3_83) rfl k_)
      show own_G p.tables e below _ _ (T2.setTop (mkF m 84 #[.val (.ref a0), .val (.long q1), .second, .val (.long v), .second] [(.int ((Int32.ofInt ((l1 : Nat) : Int)) + (1 : Int32))), (.ref a0), (.int (Int32.ofInt ((l1 : Nat) : Int))), (.ref t)]))
      obtain ⟨T3, h3, X3, e3, W3, st3⟩ := putF X2 hx hZ hown (host := "") (Or.inl (hw _ (List.mem_of_getElem? (i := 23) rfl))) Via.refl e2 Fl E0 (Or.inl (hw _ (List.mem_of_getElem? (i := 24) rfl))) (hw _ (List.mem_of_getElem? (i := 2) rfl)) (ty := .int) (by decide) rfl rfl (g := (mkF m 84 #[.val (.ref a0), .val (.long q1), .second, .val (.long v), .second] [(.int ((Int32.ofInt ((l1 : Nat) : Int)) + (1 : Int32))), (.ref a0), (.int (Int32.ofInt ((l1 : Nat) : Int))), (.ref t)])) rfl rfl (hb hby d3_84)
      have N3 := Fr.snoc X3 N0 g_a0
      have F4_E : Exa Z h3 a0 "com/example/termwright/termwright/Spool$Record" := E0.wr W3
      have F5_bytes : Fld Z h3 a0 "com/example/termwright/termwright/Spool$Record" "bytes" "[B" (.ref t) := Fb.other W3 (Or.inr (slot_ne (Or.inl (hw _ (List.mem_of_getElem? (i := 12) rfl))) (Or.inl (hw _ (List.mem_of_getElem? (i := 24) rfl))) (by decide) (t := (.array .byte)) (t' := .int) (by decide) (by decide)))
      have F6_length : Fld Z h3 a0 "com/example/termwright/termwright/Spool$Record" "length" "I" (.int ((Int32.ofInt ((l1 : Nat) : Int)) + (1 : Int32))) := Fl.same W3
      have F7_position : Fld Z h3 a0 "com/example/termwright/termwright/Spool$Record" "position" "I" (.int (Int32.ofInt ((p1 : Nat) : Int))) := Fp.other W3 (Or.inr (slot_ne (Or.inl (hw _ (List.mem_of_getElem? (i := 32) rfl))) (Or.inl (hw _ (List.mem_of_getElem? (i := 24) rfl))) (by decide) (t := .int) (t' := .int) (by decide) (by decide)))
      have F8_P : own_M Z h3 t g1 := own_M_keep M0 (Keep.of_wr W3) (ninS (Ne.symm hne) nin0)
      have Zs9 : n0 ≤ h3.size := Nat.le_trans Z1 (Keep.of_wr W3).1
      have Kc10 : Keep h0 h3 [a0, t] := K0.wr W3 (Or.inl (List.mem_of_getElem? (i := 0) rfl))
      refine own_st ?_ st3
      show own_G p.tables e below _ _ (T3.setTop (mkF m 87 #[.val (.ref a0), .val (.long q1), .second, .val (.long v), .second] [(.int (Int32.ofInt ((l1 : Nat) : Int))), (.ref t)]))
      refine own_st ?_ (fun t_ k_ => XS.lloadN X3.here hx rfl (hb hby d3_87) rfl k_)
      show own_G p.tables e below _ _ (T3.setTop (mkF m 88 #[.val (.ref a0), .val (.long q1), .second, .val (.long v), .second] [(.long v), (.int (Int32.ofInt ((l1 : Nat) : Int))), (.ref t)]))
      refine own_st ?_ (fun t_ k_ => XS.l2i X3.here hx rfl (hb hby d3_88) rfl k_)
      show own_G p.tables e below _ _ (T3.setTop (mkF m 89 #[.val (.ref a0), .val (.long q1), .second, .val (.long v), .second] [(.int (v.toInt32)), (.int (Int32.ofInt ((l1 : Nat) : Int))), (.ref t)]))
      refine own_st ?_ (fun t_ k_ => XS.i2b X3.here hx rfl (hb hby d3_89) rfl k_)
      show own_G p.tables e below _ _ (T3.setTop (mkF m 90 #[.val (.ref a0), .val (.long q1), .second, .val (.long v), .second] [(.int ((v.toInt32).toInt8.toInt32)), (.int (Int32.ofInt ((l1 : Nat) : Int))), (.ref t)]))
      obtain ⟨cl11, Ar11, S11, G11⟩ := F8_P
      have hin11 : ¬ ((Int32.ofInt ((l1 : Nat) : Int)) < 0 ∨ cl11.slots.size ≤ ((Int32.ofInt ((l1 : Nat) : Int))).toNatClampNeg) := by rw [S11]; exact own_inx (by omega) (by decide)
      obtain ⟨T11, h11, X11, e11, W11, st11⟩ := stB X3 hx hZ e3 Ar11 (j := (Int32.ofInt ((l1 : Nat) : Int))) hin11 (g := (mkF m 90 #[.val (.ref a0), .val (.long q1), .second, .val (.long v), .second] [(.int ((v.toInt32).toInt8.toInt32)), (.int (Int32.ofInt ((l1 : Nat) : Int))), (.ref t)])) rfl rfl (hb hby d3_90)
      have N11 := Fr.snoc X11 N3 g_t
      have F12_E : Exa Z h11 a0 "com/example/termwright/termwright/Spool$Record" := F4_E.wr W11
      have F13_bytes : Fld Z h11 a0 "com/example/termwright/termwright/Spool$Record" "bytes" "[B" (.ref t) := F5_bytes.other W11 (Or.inl hne)
      have F14_length : Fld Z h11 a0 "com/example/termwright/termwright/Spool$Record" "length" "I" (.int ((Int32.ofInt ((l1 : Nat) : Int)) + (1 : Int32))) := F6_length.other W11 (Or.inl hne)
      have F15_position : Fld Z h11 a0 "com/example/termwright/termwright/Spool$Record" "position" "I" (.int (Int32.ofInt ((p1 : Nat) : Int))) := F7_position.other W11 (Or.inl hne)
      have Zs16 : n0 ≤ h11.size := Nat.le_trans Zs9 (Keep.of_wr W11).1
      have Kc17 : Keep h0 h11 [a0, t] := Kc10.wr W11 (Or.inl (List.mem_of_getElem? (i := 1) rfl))
      have M11 : own_M Z h11 t (own_upd g1 l1 (own_lo n1)) := own_M_set ⟨cl11, Ar11, S11, G11⟩ (by omega) W11 (own_lo_byte hv hlt)
      refine own_st ?_ st11
      show own_G p.tables e below _ _ (T11.setTop (mkF m 91 #[.val (.ref a0), .val (.long q1), .second, .val (.long v), .second] []))
      refine own_st ?_ (fun t_ k_ => XS.aloadN X11.here hx rfl (hb hby d3_91) rfl rfl k_)
      show own_G p.tables e below _ _ (T11.setTop (mkF m 92 #[.val (.ref a0), .val (.long q1), .second, .val (.long v), .second] [(.ref a0)]))
      refine own_retA X11 hx hlk hret rfl rfl rfl (hb hby d3_92) (by decide) (by decide) ⟨rfl, N11, ?_⟩
      rw [e11, own_len_lo hlt, own_put_lo hlt]
      exact ⟨Kc17, F13_bytes, by rw [← own_inc]; exact F14_length, F15_position, M11⟩
    · refine own_st ?_ (fun t_ k_ => XS.lloadN X0.here hx rfl (hb hby d3_29) rfl k_)
      show own_G p.tables e below _ _ (T0.setTop (mkF m 30 #[.val (.ref a0), .val (.long q1), .second, .val (.long v), .second] [(.long v)]))
      refine own_st ?_ (X0.ldc2Long hx hown (mvT hZ (hw _ (List.mem_of_getElem? (i := 25) rfl))) (g := (mkF m 30 #[.val (.ref a0), .val (.long q1), .second, .val (.long v), .second] [(.long v)])) rfl (hb hby d3_30))
      show own_G p.tables e below _ _ (T0.setTop (mkF m 33 #[.val (.ref a0), .val (.long q1), .second, .val (.long v), .second] [(.long (128 : Int64)), (.long v)]))
      refine own_st ?_ (fun t_ k_ => XS.lcmp X0.here hx rfl (hb hby d3_33) rfl k_)
      show own_G p.tables e below _ _ (T0.setTop (mkF m 34 #[.val (.ref a0), .val (.long q1), .second, .val (.long v), .second] [(.int (lcmpW v (128 : Int64)))]))
      refine own_st ?_ (fun t_ k_ => XS.ifNo X0.here hx rfl (hb hby d3_34) rfl ((if0 _ _).trans (flt (fun q => hlt ((own_128 hv).mp q))).1) k_)
      show own_G p.tables e below _ _ (T0.setTop (mkF m 37 #[.val (.ref a0), .val (.long q1), .second, .val (.long v), .second] []))
      refine own_st ?_ (fun t_ k_ => XS.aloadN X0.here hx rfl (hb hby d3_37) rfl rfl k_)
      show own_G p.tables e below _ _ (T0.setTop (mkF m 38 #[.val (.ref a0), .val (.long q1), .second, .val (.long v), .second] [(.ref a0)]))
      obtain ⟨T18, X18, e18, st18⟩ := getF X0 hx hZ hown (host := "") (Or.inl (hw _ (List.mem_of_getElem? (i := 11) rfl))) Via.refl e0 Fb (g := (mkF m 38 #[.val (.ref a0), .val (.long q1), .second, .val (.long v), .second] [(.ref a0)])) rfl rfl (hb hby d3_38)
      refine own_st ?_ st18
      show own_G p.tables e below _ _ (T18.setTop (mkF m 41 #[.val (.ref a0), .val (.long q1), .second, .val (.long v), .second] [(.ref t)]))
      refine own_st ?_ (fun t_ k_ => XS.aloadN X18.here hx rfl (hb hby d3_41) rfl rfl k_)
      show own_G p.tables e below _ _ (T18.setTop (mkF m 42 #[.val (.ref a0), .val (.long q1), .second, .val (.long v), .second] [(.ref a0), (.ref t)]))
      refine own_st ?_ (fun t_ k_ => XS.dup X18.here hx rfl (hb hby d3_42) rfl rfl k_)
      show own_G p.tables e below _ _ (T18.setTop (mkF m 43 #[.val (.ref a0), .val (.long q1), .second, .val (.long v), .second] [(.ref a0), (.ref a0), (.ref t)]))
      obtain ⟨T19, X19, e19, st19⟩ := getF X18 hx hZ hown (host := "") (Or.inl (hw _ (List.mem_of_getElem? (i := 23) rfl))) Via.refl e18 Fl (g := (mkF m 43 #[.val (.ref a0), .val (.long q1), .second, .val (.long v), .second] [(.ref a0), (.ref a0), (.ref t)])) rfl rfl (hb hby d3_43)
      refine own_st ?_ st19
      show own_G p.tables e below _ _ (T19.setTop (mkF m 46 #[.val (.ref a0), .val (.long q1), .second, .val (.long v), .second] [(.int (Int32.ofInt ((l1 : Nat) : Int))), (.ref a0), (.ref t)]))
      refine own_st ?_ (fun t_ k_ => XS.dupX1 X19.here hx rfl (hb hby d3_46) rfl rfl rfl k_)
      show own_G p.tables e below _ _ (T19.setTop (mkF m 47 #[.val (.ref a0), .val (.long q1), .second, .val (.long v), .second] [(.int (Int32.ofInt ((l1 : Nat) : Int))), (.ref a0), (.int (Int32.ofInt ((l1 : Nat) : Int))), (.ref t)]))
      refine own_st ?_ (fun t_ k_ => XS.iconst X19.here hx rfl (hb hby d3_47) k_)
      show own_G p.tables e below _ _ (T19.setTop (mkF m 48 #[.val (.ref a0), .val (.long q1), .second, .val (.long v), .second] [(.int (1 : Int32)), (.int (Int32.ofInt ((l1 : Nat) : Int))), (.ref a0), (.int (Int32.ofInt ((l1 : Nat) : Int))), (.ref t)]))
      refine own_st ?_ (fun t_ k_ => XS.iadd X19.here hx rfl (hb hby d3_48) rfl k_)
      show own_G p.tables e below _ _ (T19.setTop (mkF m 49 #[.val (.ref a0), .val (.long q1), .second, .val (.long v), .second] [(.int ((Int32.ofInt ((l1 : Nat) : Int)) + (1 : Int32))), (.ref a0), (.int (Int32.ofInt ((l1 : Nat) : Int))), (.ref t)]))
      obtain ⟨T20, h20, X20, e20, W20, st20⟩ := putF X19 hx hZ hown (host := "") (Or.inl (hw _ (List.mem_of_getElem? (i := 23) rfl))) Via.refl e19 Fl E0 (Or.inl (hw _ (List.mem_of_getElem? (i := 24) rfl))) (hw _ (List.mem_of_getElem? (i := 2) rfl)) (ty := .int) (by decide) rfl rfl (g := (mkF m 49 #[.val (.ref a0), .val (.long q1), .second, .val (.long v), .second] [(.int ((Int32.ofInt ((l1 : Nat) : Int)) + (1 : Int32))), (.ref a0), (.int (Int32.ofInt ((l1 : Nat) : Int))), (.ref t)])) rfl rfl (hb hby d3_49)
      have N20 := Fr.snoc X20 N0 g_a0
      have F21_E : Exa Z h20 a0 "com/example/termwright/termwright/Spool$Record" := E0.wr W20
      have F22_bytes : Fld Z h20 a0 "com/example/termwright/termwright/Spool$Record" "bytes" "[B" (.ref t) := Fb.other W20 (Or.inr (slot_ne (Or.inl (hw _ (List.mem_of_getElem? (i := 12) rfl))) (Or.inl (hw _ (List.mem_of_getElem? (i := 24) rfl))) (by decide) (t := (.array .byte)) (t' := .int) (by decide) (by decide)))
      have F23_length : Fld Z h20 a0 "com/example/termwright/termwright/Spool$Record" "length" "I" (.int ((Int32.ofInt ((l1 : Nat) : Int)) + (1 : Int32))) := Fl.same W20
      have F24_position : Fld Z h20 a0 "com/example/termwright/termwright/Spool$Record" "position" "I" (.int (Int32.ofInt ((p1 : Nat) : Int))) := Fp.other W20 (Or.inr (slot_ne (Or.inl (hw _ (List.mem_of_getElem? (i := 32) rfl))) (Or.inl (hw _ (List.mem_of_getElem? (i := 24) rfl))) (by decide) (t := .int) (t' := .int) (by decide) (by decide)))
      have F25_P : own_M Z h20 t g1 := own_M_keep M0 (Keep.of_wr W20) (ninS (Ne.symm hne) nin0)
      have Zs26 : n0 ≤ h20.size := Nat.le_trans Z1 (Keep.of_wr W20).1
      have Kc27 : Keep h0 h20 [a0, t] := K0.wr W20 (Or.inl (List.mem_of_getElem? (i := 0) rfl))
      refine own_st ?_ st20
      show own_G p.tables e below _ _ (T20.setTop (mkF m 52 #[.val (.ref a0), .val (.long q1), .second, .val (.long v), .second] [(.int (Int32.ofInt ((l1 : Nat) : Int))), (.ref t)]))
      refine own_st ?_ (fun t_ k_ => XS.lloadN X20.here hx rfl (hb hby d3_52) rfl k_)
      show own_G p.tables e below _ _ (T20.setTop (mkF m 53 #[.val (.ref a0), .val (.long q1), .second, .val (.long v), .second] [(.long v), (.int (Int32.ofInt ((l1 : Nat) : Int))), (.ref t)]))
      refine own_st ?_ (X20.ldc2Long hx hown (mvT hZ (hw _ (List.mem_of_getElem? (i := 38) rfl))) (g := (mkF m 53 #[.val (.ref a0), .val (.long q1), .second, .val (.long v), .second] [(.long v), (.int (Int32.ofInt ((l1 : Nat) : Int))), (.ref t)])) rfl (hb hby d3_53))
      show own_G p.tables e below _ _ (T20.setTop (mkF m 56 #[.val (.ref a0), .val (.long q1), .second, .val (.long v), .second] [(.long (127 : Int64)), (.long v), (.int (Int32.ofInt ((l1 : Nat) : Int))), (.ref t)]))
      refine own_st ?_ (fun t_ k_ => XS.land X20.here hx rfl (hb hby d3_56) rfl k_)
      show own_G p.tables e below _ _ (T20.setTop (mkF m 57 #[.val (.ref a0), .val (.long q1), .second, .val (.long v), .second] [(.long (v &&& (127 : Int64))), (.int (Int32.ofInt ((l1 : Nat) : Int))), (.ref t)]))
      refine own_st ?_ (X20.ldc2Long hx hown (mvT hZ (hw _ (List.mem_of_getElem? (i := 25) rfl))) (g := (mkF m 57 #[.val (.ref a0), .val (.long q1), .second, .val (.long v), .second] [(.long (v &&& (127 : Int64))), (.int (Int32.ofInt ((l1 : Nat) : Int))), (.ref t)])) rfl (hb hby d3_57))
      show own_G p.tables e below _ _ (T20.setTop (mkF m 60 #[.val (.ref a0), .val (.long q1), .second, .val (.long v), .second] [(.long (128 : Int64)), (.long (v &&& (127 : Int64))), (.int (Int32.ofInt ((l1 : Nat) : Int))), (.ref t)]))
      refine own_st ?_ (fun t_ k_ => XS.lor X20.here hx rfl (hb hby d3_60) rfl k_)
      show own_G p.tables e below _ _ (T20.setTop (mkF m 61 #[.val (.ref a0), .val (.long q1), .second, .val (.long v), .second] [(.long ((v &&& (127 : Int64)) ||| (128 : Int64))), (.int (Int32.ofInt ((l1 : Nat) : Int))), (.ref t)]))
      refine own_st ?_ (fun t_ k_ => XS.l2i X20.here hx rfl (hb hby d3_61) rfl k_)
      show own_G p.tables e below _ _ (T20.setTop (mkF m 62 #[.val (.ref a0), .val (.long q1), .second, .val (.long v), .second] [(.int (((v &&& (127 : Int64)) ||| (128 : Int64)).toInt32)), (.int (Int32.ofInt ((l1 : Nat) : Int))), (.ref t)]))
      refine own_st ?_ (fun t_ k_ => XS.i2b X20.here hx rfl (hb hby d3_62) rfl k_)
      show own_G p.tables e below _ _ (T20.setTop (mkF m 63 #[.val (.ref a0), .val (.long q1), .second, .val (.long v), .second] [(.int ((((v &&& (127 : Int64)) ||| (128 : Int64)).toInt32).toInt8.toInt32)), (.int (Int32.ofInt ((l1 : Nat) : Int))), (.ref t)]))
      obtain ⟨cl28, Ar28, S28, G28⟩ := F25_P
      have hin28 : ¬ ((Int32.ofInt ((l1 : Nat) : Int)) < 0 ∨ cl28.slots.size ≤ ((Int32.ofInt ((l1 : Nat) : Int))).toNatClampNeg) := by rw [S28]; exact own_inx (by omega) (by decide)
      obtain ⟨T28, h28, X28, e28, W28, st28⟩ := stB X20 hx hZ e20 Ar28 (j := (Int32.ofInt ((l1 : Nat) : Int))) hin28 (g := (mkF m 63 #[.val (.ref a0), .val (.long q1), .second, .val (.long v), .second] [(.int ((((v &&& (127 : Int64)) ||| (128 : Int64)).toInt32).toInt8.toInt32)), (.int (Int32.ofInt ((l1 : Nat) : Int))), (.ref t)])) rfl rfl (hb hby d3_63)
      have N28 := Fr.snoc X28 N20 g_t
      have F29_E : Exa Z h28 a0 "com/example/termwright/termwright/Spool$Record" := F21_E.wr W28
      have F30_bytes : Fld Z h28 a0 "com/example/termwright/termwright/Spool$Record" "bytes" "[B" (.ref t) := F22_bytes.other W28 (Or.inl hne)
      have F31_length : Fld Z h28 a0 "com/example/termwright/termwright/Spool$Record" "length" "I" (.int ((Int32.ofInt ((l1 : Nat) : Int)) + (1 : Int32))) := F23_length.other W28 (Or.inl hne)
      have F32_position : Fld Z h28 a0 "com/example/termwright/termwright/Spool$Record" "position" "I" (.int (Int32.ofInt ((p1 : Nat) : Int))) := F24_position.other W28 (Or.inl hne)
      have Zs33 : n0 ≤ h28.size := Nat.le_trans Zs26 (Keep.of_wr W28).1
      have Kc34 : Keep h0 h28 [a0, t] := Kc27.wr W28 (Or.inl (List.mem_of_getElem? (i := 1) rfl))
      have M28 : own_M Z h28 t (own_upd g1 l1 (own_hi n1)) := own_M_set ⟨cl28, Ar28, S28, G28⟩ (by omega) W28 (own_hi_byte hv)
      refine own_st ?_ st28
      show own_G p.tables e below _ _ (T28.setTop (mkF m 64 #[.val (.ref a0), .val (.long q1), .second, .val (.long v), .second] []))
      refine own_st ?_ (fun t_ k_ => XS.lloadN X28.here hx rfl (hb hby d3_64) rfl k_)
      show own_G p.tables e below _ _ (T28.setTop (mkF m 65 #[.val (.ref a0), .val (.long q1), .second, .val (.long v), .second] [(.long v)]))
      refine own_st ?_ (fun t_ k_ => XS.bipush X28.here hx rfl (hb hby d3_65) k_)
      show own_G p.tables e below _ _ (T28.setTop (mkF m 67 #[.val (.ref a0), .val (.long q1), .second, .val (.long v), .second] [(.int (7 : Int32)), (.long v)]))
      refine own_st ?_ (fun t_ k_ => XS.lushr X28.here hx rfl (hb hby d3_67) rfl k_)
      show own_G p.tables e below _ _ (T28.setTop (mkF m 68 #[.val (.ref a0), .val (.long q1), .second, .val (.long v), .second] [(.long ((v.toUInt64 >>> ((7 : Int32) &&& 0x3f).toInt64.toUInt64).toInt64))]))
      refine own_st ?_ (fun t_ k_ => XS.lstoreN X28.here hx rfl (hb hby d3_68) rfl (l' := #[.val (.ref a0), .val (.long q1), .second, .val (.long ((v.toUInt64 >>> ((7 : Int32) &&& 0x3f).toInt64.toUInt64).toInt64)), .second]) rfl k_)
      show own_G p.tables e below _ _ (T28.setTop (mkF m 69 #[.val (.ref a0), .val (.long q1), .second, .val (.long ((v.toUInt64 >>> ((7 : Int32) &&& 0x3f).toInt64.toUInt64).toInt64)), .second] []))
      refine own_st ?_ (fun t_ k_ => XS.goto X28.here hx rfl (pc0 := 69) (pc' := 29) rfl (hb hby d3_69) (by decide) (by decide) k_)
      show own_G p.tables e below _ _ (T28.setTop (mkF m 29 #[.val (.ref a0), .val (.long q1), .second, .val (.long ((v.toUInt64 >>> ((7 : Int32) &&& 0x3f).toInt64.toUInt64).toInt64)), .second] []))
      have Fl35 : Fld Z h28 a0 "com/example/termwright/termwright/Spool$Record" "length" "I" (.int (Int32.ofInt ((l1 + 1 : Nat) : Int))) := by rw [← own_inc]; exact F31_length
      have ih35 := ih (n1 / 128) (by omega) (q1 := q1) (v := ((v.toUInt64 >>> ((7 : Int32) &&& 0x3f).toInt64.toUInt64).toInt64)) X28 N28 e28 (by have := own_len_hi hlt; omega) (own_shr7 hv) (by omega) Kc34 F29_E F30_bytes Fl35 F32_position M28 Zs33
      rw [own_len_hi hlt, own_put_hi hlt, show l1 + (own_len (n1 / 128) + 1) = l1 + 1 + own_len (n1 / 128) by omega]
      exact ih35
theorem ef_3 (m : MethodId) (a0 : Addr) (q1 : Int64) : entryFrame m #[(.ref a0), (.long q1)] 5 = mkF m 0 #[.val (.ref a0), .val (.long q1), .second, .unset, .unset] [] := by first | (simp [entryFrame, mkF, argsToLocals, Value.category]; done) | rfl
set_option maxRecDepth 65536 in
set_option maxHeartbeats 40000000 in
theorem rm3 (l : Launch) (Z : State) (a0 : Array Value) (hw : ∀ d ∈ tables_1, d.before a0 Z = true) (ws : List Jvm.Cond) (a0 : Addr) (q1 : Int64) (t : Addr) (l1 : Nat) (p1 : Nat) (g1 : Nat → Int32) (n1 : Nat) (h0 : Heap) (n0 : Nat) (Z0 : n0 ≤ h0.size) (g_a0 : n0 ≤ a0) (g_t : n0 ≤ t) (E0 : Exa Z h0 a0 "com/example/termwright/termwright/Spool$Record") (Fb : Fld Z h0 a0 "com/example/termwright/termwright/Spool$Record" "bytes" "[B" (.ref t)) (Fl : Fld Z h0 a0 "com/example/termwright/termwright/Spool$Record" "length" "I" (.int (Int32.ofInt ((l1 : Nat) : Int)))) (Fp : Fld Z h0 a0 "com/example/termwright/termwright/Spool$Record" "position" "I" (.int (Int32.ofInt ((p1 : Nat) : Int)))) (M0 : own_M Z h0 t g1) (hne : a0 ≠ t) (hq : q1.toInt = (n1 : Int)) (hn : n1 < 2 ^ 63) (hl : l1 ≤ 246) :
    MetFree l (⟨"com/example/termwright/termwright/Spool$Record", "putNumber", "(J)Lcom/example/termwright/termwright/Spool$Record;"⟩ : MethodName) (head1 (Jvm.Cond.code (⟨"com/example/termwright/termwright/Spool$Record", "putNumber", "(J)Lcom/example/termwright/termwright/Spool$Record;"⟩ : MethodName) prog_34_method_3_code 5 (some (.object "com/example/termwright/termwright/Spool$Record")) :: ws) ({ frames := 1, cells := 0, slots := 0, locals := 16 } : Room)) (fun a U => a = #[(.ref a0), (.long q1)] ∧ Z.Warmed39 U.vm ∧ U.heap = h0) (fun _ _ _ _ _ => True) (fun _ U o U' => ∃ v L, o = .returned v ∧ own_Qr Z (some (.ref a0)) [a0, t] a0 t (l1 + own_len n1) p1 (own_put g1 l1 n1) h0 n0 v U'.heap L ∧ FrameEnd U o U' L ({ frames := 1, cells := 0, slots := 0, locals := 16 } : Room).cells ({ frames := 1, cells := 0, slots := 0, locals := 16 } : Room).slots) := by
  refine MetFree.of_bodySF (plainFor_of_name pn_3) hisR ?_
  intro p e s m args below meth c s₁ Bd hml0 hP hK
  obtain ⟨rfl, hZ, hh⟩ := hP
  have hx := Bd.exec
  have hby := Bd.bytes
  have hlk : meth.locks = false := BodyLoose.notSynchronized Bd
  have hret := Bd.returns
  have hml : c.maxLocals = 5 := hml0
  have hown : s.vm.findClass "com/example/termwright/termwright/Spool$Record" = some m.cls := findClass_of_methodNamed Bd.named
  have hnm := (name_of_methodNamed Bd.named Bd.method).1
  have X0 : Stand p l e ({ frames := 1, cells := 0, slots := 0, locals := 16 } : Room) s m #[(.ref a0), (.long q1)] below meth c s₁ [] 0 0 := Stand.of_body Bd
  have e0 : s₁.heap = h0 := by rw [← hh, Bd.state]; rfl
  have N0 := Fr.nil n0
  show own_G p.tables e below (own_E s ({ frames := 1, cells := 0, slots := 0, locals := 16 } : Room).cells ({ frames := 1, cells := 0, slots := 0, locals := 16 } : Room).slots) (own_Qr Z (some (.ref a0)) [a0, t] a0 t (l1 + own_len n1) p1 (own_put g1 l1 n1) h0 n0) (s₁.setTop (entryFrame m #[(.ref a0), (.long q1)] 5))
  refine own_st ?_ (fun t_ k_ => castTop (ef_3 m a0 q1) k_)
  show own_G p.tables e below _ _ (s₁.setTop (mkF m 0 #[.val (.ref a0), .val (.long q1), .second, .unset, .unset] []))
  refine own_st ?_ (fun t_ k_ => XS.lloadN X0.here hx rfl (hb hby d3_0) rfl k_)
  show own_G p.tables e below _ _ (s₁.setTop (mkF m 1 #[.val (.ref a0), .val (.long q1), .second, .unset, .unset] [(.long q1)]))
  refine own_st ?_ (fun t_ k_ => XS.lconst X0.here hx rfl (hb hby d3_1) k_)
  show own_G p.tables e below _ _ (s₁.setTop (mkF m 2 #[.val (.ref a0), .val (.long q1), .second, .unset, .unset] [(.long (0 : Int64)), (.long q1)]))
  refine own_st ?_ (fun t_ k_ => XS.lcmp X0.here hx rfl (hb hby d3_2) rfl k_)
  show own_G p.tables e below _ _ (s₁.setTop (mkF m 3 #[.val (.ref a0), .val (.long q1), .second, .unset, .unset] [(.int (lcmpW q1 (0 : Int64)))]))
  refine own_st ?_ (fun t_ k_ => XS.ifYes X0.here hx rfl (pc0 := 3) (pc' := 20) rfl (hb hby d3_3) rfl ((if0 _ _).trans (flt (own_nneg hq)).2.1) (by decide) (by decide) k_)
  show own_G p.tables e below _ _ (s₁.setTop (mkF m 20 #[.val (.ref a0), .val (.long q1), .second, .unset, .unset] []))
  refine own_st ?_ (fun t_ k_ => XS.aloadN X0.here hx rfl (hb hby d3_20) rfl rfl k_)
  show own_G p.tables e below _ _ (s₁.setTop (mkF m 21 #[.val (.ref a0), .val (.long q1), .second, .unset, .unset] [(.ref a0)]))
  refine own_st ?_ (X0.ldc2Long hx hown (mvT hZ (hw _ (List.mem_of_getElem? (i := 18) rfl))) (g := (mkF m 21 #[.val (.ref a0), .val (.long q1), .second, .unset, .unset] [(.ref a0)])) rfl (hb hby d3_21))
  show own_G p.tables e below _ _ (s₁.setTop (mkF m 24 #[.val (.ref a0), .val (.long q1), .second, .unset, .unset] [(.long (10 : Int64)), (.ref a0)]))
  obtain ⟨cq1, qp1, qp1'⟩ := E0.cell
  obtain ⟨_, _, ⟨T1, L1, k1, n1⟩, -, X1, ⟨Lc1, hQ1, l1, y1, z1⟩, st1⟩ := X0.privateBack hx (y := (⟨"com/example/termwright/termwright/Spool$Record", "room", "(J)V"⟩ : MethodName)) hown (mvT hZ (hw _ (List.mem_of_getElem? (i := 19) rfl))) (mvT hZ (hw _ (List.mem_of_getElem? (i := 20) rfl))) (mvT hZ (own_sel hw)) (Cond.privateMethod_at (mvP hZ (hw _ (List.mem_of_getElem? (i := 21) rfl)) (args := #[]))) (mvT hZ (hw _ (List.mem_of_getElem? (i := 22) rfl))) (by decide) (backOf (W := 0) (rm4 l Z _ hw [] a0 (10 : Int64) t l1 p1 g1 h0 n0 Z0 E0 Fb Fl Fp M0 hl rfl) hZ (hw _ (List.mem_of_getElem? (i := 22) rfl)) (hw _ (List.mem_of_getElem? (i := 3) rfl)) (by decide) (by decide)) (g := (mkF m 24 #[.val (.ref a0), .val (.long q1), .second, .unset, .unset] [(.long (10 : Int64)), (.ref a0)])) rfl (by rw [hml]; rfl) (Steps.refl _) (a := a0) (by rw [e0]; exact qp1) qp1' (argsL := [(.long (10 : Int64))]) (rest := []) (lenOf pd_0 rfl) rfl (by show 2 * 0 + _ ≤ _; exact Nat.le_of_eq rfl) (hb hby d3_24) (fun _ _ => ⟨rfl, e0, (by decide : 0 + 0 ≤ _), (by decide : 0 + 0 ≤ _)⟩)
  dsimp only [Pt.U, Pt.locs, Pt.cells, Pt.slots] at X1 l1 y1 z1 st1 hQ1
  subst l1 y1 z1
  obtain ⟨rfl, N1q, e1⟩ := hQ1
  have N1 := Fr.app N0 N1q
  refine own_st ?_ (fun t_ k_ => st1.trans k_)
  show own_G p.tables e below _ _ (T1.setTop (mkF m 27 #[.val (.ref a0), .val (.long q1), .second, .unset, .unset] []))
  refine own_st ?_ (fun t_ k_ => XS.lloadN X1.here hx rfl (hb hby d3_27) rfl k_)
  show own_G p.tables e below _ _ (T1.setTop (mkF m 28 #[.val (.ref a0), .val (.long q1), .second, .unset, .unset] [(.long q1)]))
  refine own_st ?_ (fun t_ k_ => XS.lstoreN X1.here hx rfl (hb hby d3_28) rfl (l' := #[.val (.ref a0), .val (.long q1), .second, .val (.long q1), .second]) rfl k_)
  show own_G p.tables e below _ _ (T1.setTop (mkF m 29 #[.val (.ref a0), .val (.long q1), .second, .val (.long q1), .second] []))
  exact own_lp hx hlk hZ hw hby hml hown hret g_a0 g_t hne n1 X1 N1 e1 (by have := own_len9 hn; omega) hq hn (Keep.refl _ _) E0 Fb Fl Fp M0 Z0
theorem own_k9 {n k a : Nat} (h : ¬ n < 128) (hq : 2 ^ (7 * k) * n + a < 2 ^ 63) : k + 1 < 9 := by
  refine Nat.lt_of_not_le fun hk => ?_
  have h1 : 2 ^ (7 * 8) ≤ 2 ^ (7 * k) := Nat.pow_le_pow_right (by decide) (by omega)
  have h2 : 2 ^ (7 * 8) * 128 ≤ 2 ^ (7 * k) * n := Nat.mul_le_mul h1 (by omega)
  have h3 : 2 ^ (7 * 8) * 128 = 2 ^ 63 := by decide
  omega
theorem d5_0 : decode prog_34_method_5_code 0 = .ok (.lconst 0, 1) := by decide +kernel
theorem d5_1 : decode prog_34_method_5_code 1 = .ok (.lstore_n 1, 1) := by decide +kernel
theorem d5_2 : decode prog_34_method_5_code 2 = .ok (.iconst 0, 1) := by decide +kernel
theorem d5_3 : decode prog_34_method_5_code 3 = .ok (.istore_n 3, 1) := by decide +kernel
theorem d5_4 : decode prog_34_method_5_code 4 = .ok (.aload_n 0, 1) := by decide +kernel
theorem d5_5 : decode prog_34_method_5_code 5 = .ok (.getfield 7, 3) := by decide +kernel
theorem d5_8 : decode prog_34_method_5_code 8 = .ok (.aload_n 0, 1) := by decide +kernel
theorem d5_9 : decode prog_34_method_5_code 9 = .ok (.dup, 1) := by decide +kernel
theorem d5_10 : decode prog_34_method_5_code 10 = .ok (.getfield 17, 3) := by decide +kernel
theorem d5_13 : decode prog_34_method_5_code 13 = .ok (.dup_x1, 1) := by decide +kernel
theorem d5_14 : decode prog_34_method_5_code 14 = .ok (.iconst 1, 1) := by decide +kernel
theorem d5_15 : decode prog_34_method_5_code 15 = .ok (.iadd, 1) := by decide +kernel
theorem d5_16 : decode prog_34_method_5_code 16 = .ok (.putfield 17, 3) := by decide +kernel
theorem d5_19 : decode prog_34_method_5_code 19 = .ok (.baload, 1) := by decide +kernel
theorem d5_20 : decode prog_34_method_5_code 20 = .ok (.istore 4, 2) := by decide +kernel
theorem d5_22 : decode prog_34_method_5_code 22 = .ok (.lload_n 1, 1) := by decide +kernel
theorem d5_23 : decode prog_34_method_5_code 23 = .ok (.iload 4, 2) := by decide +kernel
theorem d5_25 : decode prog_34_method_5_code 25 = .ok (.bipush 127, 2) := by decide +kernel
theorem d5_27 : decode prog_34_method_5_code 27 = .ok (.iand, 1) := by decide +kernel
theorem d5_28 : decode prog_34_method_5_code 28 = .ok (.i2l, 1) := by decide +kernel
theorem d5_29 : decode prog_34_method_5_code 29 = .ok (.iload_n 3, 1) := by decide +kernel
theorem d5_30 : decode prog_34_method_5_code 30 = .ok (.lshl, 1) := by decide +kernel
theorem d5_31 : decode prog_34_method_5_code 31 = .ok (.lor, 1) := by decide +kernel
theorem d5_32 : decode prog_34_method_5_code 32 = .ok (.lstore_n 1, 1) := by decide +kernel
theorem d5_33 : decode prog_34_method_5_code 33 = .ok (.iload 4, 2) := by decide +kernel
theorem d5_35 : decode prog_34_method_5_code 35 = .ok (.ifCond .lt 5, 3) := by decide +kernel
theorem d5_38 : decode prog_34_method_5_code 38 = .ok (.lload_n 1, 1) := by decide +kernel
theorem d5_39 : decode prog_34_method_5_code 39 = .ok (.lreturn, 1) := by decide +kernel
theorem d5_40 : decode prog_34_method_5_code 40 = .ok (.iinc 3 7, 3) := by decide +kernel
theorem d5_43 : decode prog_34_method_5_code 43 = .ok (.goto (-39), 3) := by decide +kernel
theorem pn_5 : plainName "com/example/termwright/termwright/Spool$Record" = true := by first | (simp [plainName, overriddenIn]; done) | decide +kernel
set_option maxRecDepth 65536 in
set_option maxHeartbeats 40000000 in
theorem own_ln {p : Program} {l : Launch} {e : Env} {s : State} {m : MethodId} {args : Array Value} {below : List Frame} {meth : Method} {c : Code} {Z : State} {a0' : Array Value} {h0 : Heap} {n0 : Nat} {a0 t : Addr} (hx : p.tables.exec = Jvm.exec) (hlk : meth.locks = false) (hZ : Z.Warmed39 s.vm) (hw : ∀ d ∈ tables_1, d.before a0' Z = true) (hby : c.code = prog_34_method_5_code) (hml : c.maxLocals = 5) (hown : s.vm.findClass "com/example/termwright/termwright/Spool$Record" = some m.cls) (hret : meth.sig.returnType = (some .long)) (g_a0 : n0 ≤ a0) (g_t : n0 ≤ t) (hne : a0 ≠ t) {q : Int64} (n1 : Nat) : ∀ {T0 : State} {locs : List Loc} {h1 : Heap} {A : Int64} {k a : Nat} {s4 : Slot} {l1 p1 : Nat} {g1 : Nat → Int32} (X0 : Stand p l e ({ frames := 0, cells := 0, slots := 0, locals := 0 } : Room) s m args below meth c T0 locs 0 0) (N0 : Fr n0 locs) (e0 : T0.heap = h1) (hp : p1 + own_len n1 ≤ 256) (hA : A.toInt = (a : Int)) (hk : k < 9) (ha : a < 2 ^ (7 * k)) (hq : q.toInt = ((2 ^ (7 * k) * n1 + a : Nat) : Int)) (hn : 2 ^ (7 * k) * n1 + a < 2 ^ 63) (o_s4 : s4 = .unset ∨ ∃ w, s4 = .val w ∧ w.category = 1) (hat : own_at g1 p1 n1) (K0 : Keep h0 h1 [a0]) (E0 : Exa Z h1 a0 "com/example/termwright/termwright/Spool$Record") (Fb : Fld Z h1 a0 "com/example/termwright/termwright/Spool$Record" "bytes" "[B" (.ref t)) (Fl : Fld Z h1 a0 "com/example/termwright/termwright/Spool$Record" "length" "I" (.int (Int32.ofInt ((l1 : Nat) : Int)))) (Fp : Fld Z h1 a0 "com/example/termwright/termwright/Spool$Record" "position" "I" (.int (Int32.ofInt ((p1 : Nat) : Int)))) (M0 : own_M Z h1 t g1) (Z1 : n0 ≤ h1.size),
    own_G p.tables e below (own_E s 0 0) (own_Qr Z (some (.long q)) [a0] a0 t l1 (p1 + own_len n1) g1 h0 n0) (T0.setTop (mkF m 4 #[.val (.ref a0), .val (.long A), .second, .val (.int (Int32.ofInt ((7 * k : Nat) : Int))), s4] [])) := by
  induction n1 using Nat.strongRecOn with
  | ind n1 ih =>
    intro T0 locs h1 A k a s4 l1 p1 g1 X0 N0 e0 hp hA hk ha hq hn o_s4 hat K0 E0 Fb Fl Fp M0 Z1
    have hpos := own_len_pos n1
    by_cases hlt : n1 < 128
    · obtain ⟨b0, hb0⟩ : ∃ z, g1 p1 = z := ⟨_, rfl⟩
      have hb1 : b0 = own_lo n1 := hb0.symm.trans ((own_at_lo hlt).mp hat)
      have hbi : (b0 &&& (127 : Int32)).toInt = ((n1 : Nat) : Int) := by rw [hb1]; exact own_lo_and hlt
      refine own_st ?_ (fun t_ k_ => XS.aloadN X0.here hx rfl (hb hby d5_4) rfl rfl k_)
      show own_G p.tables e below _ _ (T0.setTop (mkF m 5 #[.val (.ref a0), .val (.long A), .second, .val (.int (Int32.ofInt ((7 * k : Nat) : Int))), s4] [(.ref a0)]))
      obtain ⟨T1, X1, e1, st1⟩ := getF X0 hx hZ hown (host := "") (Or.inl (hw _ (List.mem_of_getElem? (i := 11) rfl))) Via.refl e0 Fb (g := (mkF m 5 #[.val (.ref a0), .val (.long A), .second, .val (.int (Int32.ofInt ((7 * k : Nat) : Int))), s4] [(.ref a0)])) rfl rfl (hb hby d5_5)
      refine own_st ?_ st1
      show own_G p.tables e below _ _ (T1.setTop (mkF m 8 #[.val (.ref a0), .val (.long A), .second, .val (.int (Int32.ofInt ((7 * k : Nat) : Int))), s4] [(.ref t)]))
      refine own_st ?_ (fun t_ k_ => XS.aloadN X1.here hx rfl (hb hby d5_8) rfl rfl k_)
      show own_G p.tables e below _ _ (T1.setTop (mkF m 9 #[.val (.ref a0), .val (.long A), .second, .val (.int (Int32.ofInt ((7 * k : Nat) : Int))), s4] [(.ref a0), (.ref t)]))
      refine own_st ?_ (fun t_ k_ => XS.dup X1.here hx rfl (hb hby d5_9) rfl rfl k_)
      show own_G p.tables e below _ _ (T1.setTop (mkF m 10 #[.val (.ref a0), .val (.long A), .second, .val (.int (Int32.ofInt ((7 * k : Nat) : Int))), s4] [(.ref a0), (.ref a0), (.ref t)]))
      obtain ⟨T2, X2, e2, st2⟩ := getF X1 hx hZ hown (host := "") (Or.inl (hw _ (List.mem_of_getElem? (i := 31) rfl))) Via.refl e1 Fp (g := (mkF m 10 #[.val (.ref a0), .val (.long A), .second, .val (.int (Int32.ofInt ((7 * k : Nat) : Int))), s4] [(.ref a0), (.ref a0), (.ref t)])) rfl rfl (hb hby d5_10)
      refine own_st ?_ st2
      show own_G p.tables e below _ _ (T2.setTop (mkF m 13 #[.val (.ref a0), .val (.long A), .second, .val (.int (Int32.ofInt ((7 * k : Nat) : Int))), s4] [(.int (Int32.ofInt ((p1 : Nat) : Int))), (.ref a0), (.ref t)]))
      refine own_st ?_ (fun t_ k_ => XS.dupX1 X2.here hx rfl (hb hby d5_13) rfl rfl rfl k_)
      show own_G p.tables e below _ _ (T2.setTop (mkF m 14 #[.val (.ref a0), .val (.long A), .second, .val (.int (Int32.ofInt ((7 * k : Nat) : Int))), s4] [(.int (Int32.ofInt ((p1 : Nat) : Int))), (.ref a0), (.int (Int32.ofInt ((p1 : Nat) : Int))), (.ref t)]))
      refine own_st ?_ (fun t_ k_ => XS.iconst X2.here hx rfl (hb hby d5_14) k_)
      show own_G p.tables e below _ _ (T2.setTop (mkF m 15 #[.val (.ref a0), .val (.long A), .second, .val (.int (Int32.ofInt ((7 * k : Nat) : Int))), s4] [(.int (1 : Int32)), (.int (Int32.ofInt ((p1 : Nat) : Int))), (.ref a0), (.int (Int32.ofInt ((p1 : Nat) : Int))), (.ref t)]))
      refine own_st ?_ (fun t_ k_ => XS.iadd X2.here hx rfl (hb hby d5_15) rfl k_)
      show own_G p.tables e below _ _ (T2.setTop (mkF m 16 #[.val (.ref a0), .val (.long A), .second, .val (.int (Int32.ofInt ((7 * k : Nat) : Int))), s4] [(.int ((Int32.ofInt ((p1 : Nat) : Int)) + (1 : Int32))), (.ref a0), (.int (Int32.ofInt ((p1 : Nat) : Int))), (.ref t)]))
      obtain ⟨T3, h3, X3, e3, W3, st3⟩ := putF X2 hx hZ hown (host := "") (Or.inl (hw _ (List.mem_of_getElem? (i := 31) rfl))) Via.refl e2 Fp E0 (Or.inl (hw _ (List.mem_of_getElem? (i := 32) rfl))) (hw _ (List.mem_of_getElem? (i := 2) rfl)) (ty := .int) (by decide) rfl rfl (g := (mkF m 16 #[.val (.ref a0), .val (.long A), .second, .val (.int (Int32.ofInt ((7 * k : Nat) : Int))), s4] [(.int ((Int32.ofInt ((p1 : Nat) : Int)) + (1 : Int32))), (.ref a0), (.int (Int32.ofInt ((p1 : Nat) : Int))), (.ref t)])) rfl rfl (hb hby d5_16)
      have N3 := Fr.snoc X3 N0 g_a0
      have F4_E : Exa Z h3 a0 "com/example/termwright/termwright/Spool$Record" := E0.wr W3
      have F5_bytes : Fld Z h3 a0 "com/example/termwright/termwright/Spool$Record" "bytes" "[B" (.ref t) := Fb.other W3 (Or.inr (slot_ne (Or.inl (hw _ (List.mem_of_getElem? (i := 12) rfl))) (Or.inl (hw _ (List.mem_of_getElem? (i := 32) rfl))) (by decide) (t := (.array .byte)) (t' := .int) (by decide) (by decide)))
      have F6_length : Fld Z h3 a0 "com/example/termwright/termwright/Spool$Record" "length" "I" (.int (Int32.ofInt ((l1 : Nat) : Int))) := Fl.other W3 (Or.inr (slot_ne (Or.inl (hw _ (List.mem_of_getElem? (i := 24) rfl))) (Or.inl (hw _ (List.mem_of_getElem? (i := 32) rfl))) (by decide) (t := .int) (t' := .int) (by decide) (by decide)))
      have F7_position : Fld Z h3 a0 "com/example/termwright/termwright/Spool$Record" "position" "I" (.int ((Int32.ofInt ((p1 : Nat) : Int)) + (1 : Int32))) := Fp.same W3
      have F8_P : own_M Z h3 t g1 := own_M_keep M0 (Keep.of_wr W3) (ninS (Ne.symm hne) nin0)
      have Zs9 : n0 ≤ h3.size := Nat.le_trans Z1 (Keep.of_wr W3).1
      have Kc10 : Keep h0 h3 [a0] := K0.wr W3 (Or.inl (List.mem_of_getElem? (i := 0) rfl))
      refine own_st ?_ st3
      show own_G p.tables e below _ _ (T3.setTop (mkF m 19 #[.val (.ref a0), .val (.long A), .second, .val (.int (Int32.ofInt ((7 * k : Nat) : Int))), s4] [(.int (Int32.ofInt ((p1 : Nat) : Int))), (.ref t)]))
      obtain ⟨cl11, Ar11, S11, G11⟩ := F8_P
      have hin11 : ¬ ((Int32.ofInt ((p1 : Nat) : Int)) < 0 ∨ cl11.slots.size ≤ ((Int32.ofInt ((p1 : Nat) : Int))).toNatClampNeg) := by rw [S11]; exact own_inx (by omega) (by decide)
      have hat11 : cl11.slots[((Int32.ofInt ((p1 : Nat) : Int))).toNatClampNeg]? = some (.int b0) := by rw [own_clamp (by omega), ← hb0]; exact G11 _ (by omega)
      refine own_st ?_ (X3.baloadBytes hx (j := (Int32.ofInt ((p1 : Nat) : Int))) (v := (.int b0)) (by rw [e3]; exact Ar11.1) (State.isArrayOf_alike hZ.alike Ar11.2.1) Ar11.2.2 hin11 hat11 (g := (mkF m 19 #[.val (.ref a0), .val (.long A), .second, .val (.int (Int32.ofInt ((7 * k : Nat) : Int))), s4] [(.int (Int32.ofInt ((p1 : Nat) : Int))), (.ref t)])) rfl rfl (hb hby d5_19))
      have M11 : own_M Z h3 t g1 := ⟨cl11, Ar11, S11, G11⟩
      show own_G p.tables e below _ _ (T3.setTop (mkF m 20 #[.val (.ref a0), .val (.long A), .second, .val (.int (Int32.ofInt ((7 * k : Nat) : Int))), s4] [(.int b0)]))
      refine own_st ?_ (fun t_ k_ => XS.istoreS X3.here hx rfl (hb hby d5_20) rfl (o := s4) rfl o_s4 k_)
      show own_G p.tables e below _ _ (T3.setTop (mkF m 22 #[.val (.ref a0), .val (.long A), .second, .val (.int (Int32.ofInt ((7 * k : Nat) : Int))), .val (.int b0)] []))
      refine own_st ?_ (fun t_ k_ => XS.lloadN X3.here hx rfl (hb hby d5_22) rfl k_)
      show own_G p.tables e below _ _ (T3.setTop (mkF m 23 #[.val (.ref a0), .val (.long A), .second, .val (.int (Int32.ofInt ((7 * k : Nat) : Int))), .val (.int b0)] [(.long A)]))
      refine own_st ?_ (fun t_ k_ => XS.iload X3.here hx rfl (hb hby d5_23) rfl k_)
      show own_G p.tables e below _ _ (T3.setTop (mkF m 25 #[.val (.ref a0), .val (.long A), .second, .val (.int (Int32.ofInt ((7 * k : Nat) : Int))), .val (.int b0)] [(.int b0), (.long A)]))
      refine own_st ?_ (fun t_ k_ => XS.bipush X3.here hx rfl (hb hby d5_25) k_)
      show own_G p.tables e below _ _ (T3.setTop (mkF m 27 #[.val (.ref a0), .val (.long A), .second, .val (.int (Int32.ofInt ((7 * k : Nat) : Int))), .val (.int b0)] [(.int (127 : Int32)), (.int b0), (.long A)]))
      refine own_st ?_ (fun t_ k_ => XS.iand X3.here hx rfl (hb hby d5_27) rfl k_)
      show own_G p.tables e below _ _ (T3.setTop (mkF m 28 #[.val (.ref a0), .val (.long A), .second, .val (.int (Int32.ofInt ((7 * k : Nat) : Int))), .val (.int b0)] [(.int (b0 &&& (127 : Int32))), (.long A)]))
      refine own_st ?_ (fun t_ k_ => XS.i2l X3.here hx rfl (hb hby d5_28) rfl k_)
      show own_G p.tables e below _ _ (T3.setTop (mkF m 29 #[.val (.ref a0), .val (.long A), .second, .val (.int (Int32.ofInt ((7 * k : Nat) : Int))), .val (.int b0)] [(.long ((b0 &&& (127 : Int32)).toInt64)), (.long A)]))
      refine own_st ?_ (fun t_ k_ => XS.iloadN X3.here hx rfl (hb hby d5_29) rfl k_)
      show own_G p.tables e below _ _ (T3.setTop (mkF m 30 #[.val (.ref a0), .val (.long A), .second, .val (.int (Int32.ofInt ((7 * k : Nat) : Int))), .val (.int b0)] [(.int (Int32.ofInt ((7 * k : Nat) : Int))), (.long ((b0 &&& (127 : Int32)).toInt64)), (.long A)]))
      refine own_st ?_ (fun t_ k_ => XS.lshl X3.here hx rfl (hb hby d5_30) rfl k_)
      show own_G p.tables e below _ _ (T3.setTop (mkF m 31 #[.val (.ref a0), .val (.long A), .second, .val (.int (Int32.ofInt ((7 * k : Nat) : Int))), .val (.int b0)] [(.long (((b0 &&& (127 : Int32)).toInt64) <<< ((Int32.ofInt ((7 * k : Nat) : Int)) &&& 0x3f).toInt64)), (.long A)]))
      refine own_st ?_ (fun t_ k_ => XS.lor X3.here hx rfl (hb hby d5_31) rfl k_)
      show own_G p.tables e below _ _ (T3.setTop (mkF m 32 #[.val (.ref a0), .val (.long A), .second, .val (.int (Int32.ofInt ((7 * k : Nat) : Int))), .val (.int b0)] [(.long (A ||| (((b0 &&& (127 : Int32)).toInt64) <<< ((Int32.ofInt ((7 * k : Nat) : Int)) &&& 0x3f).toInt64)))]))
      refine own_st ?_ (fun t_ k_ => XS.lstoreN X3.here hx rfl (hb hby d5_32) rfl (l' := #[.val (.ref a0), .val (.long (A ||| (((b0 &&& (127 : Int32)).toInt64) <<< ((Int32.ofInt ((7 * k : Nat) : Int)) &&& 0x3f).toInt64))), .second, .val (.int (Int32.ofInt ((7 * k : Nat) : Int))), .val (.int b0)]) rfl k_)
      show own_G p.tables e below _ _ (T3.setTop (mkF m 33 #[.val (.ref a0), .val (.long (A ||| (((b0 &&& (127 : Int32)).toInt64) <<< ((Int32.ofInt ((7 * k : Nat) : Int)) &&& 0x3f).toInt64))), .second, .val (.int (Int32.ofInt ((7 * k : Nat) : Int))), .val (.int b0)] []))
      refine own_st ?_ (fun t_ k_ => XS.iload X3.here hx rfl (hb hby d5_33) rfl k_)
      show own_G p.tables e below _ _ (T3.setTop (mkF m 35 #[.val (.ref a0), .val (.long (A ||| (((b0 &&& (127 : Int32)).toInt64) <<< ((Int32.ofInt ((7 * k : Nat) : Int)) &&& 0x3f).toInt64))), .second, .val (.int (Int32.ofInt ((7 * k : Nat) : Int))), .val (.int b0)] [(.int b0)]))
      refine own_st ?_ (fun t_ k_ => XS.ifNo X3.here hx rfl (hb hby d5_35) rfl ((if0 _ _).trans (flt (show ¬ (b0 < (0 : Int32)) from by rw [hb1]; exact own_lo_nn hlt)).1) k_)
      show own_G p.tables e below _ _ (T3.setTop (mkF m 38 #[.val (.ref a0), .val (.long (A ||| (((b0 &&& (127 : Int32)).toInt64) <<< ((Int32.ofInt ((7 * k : Nat) : Int)) &&& 0x3f).toInt64))), .second, .val (.int (Int32.ofInt ((7 * k : Nat) : Int))), .val (.int b0)] []))
      refine own_st ?_ (fun t_ k_ => XS.lloadN X3.here hx rfl (hb hby d5_38) rfl k_)
      show own_G p.tables e below _ _ (T3.setTop (mkF m 39 #[.val (.ref a0), .val (.long (A ||| (((b0 &&& (127 : Int32)).toInt64) <<< ((Int32.ofInt ((7 * k : Nat) : Int)) &&& 0x3f).toInt64))), .second, .val (.int (Int32.ofInt ((7 * k : Nat) : Int))), .val (.int b0)] [(.long (A ||| (((b0 &&& (127 : Int32)).toInt64) <<< ((Int32.ofInt ((7 * k : Nat) : Int)) &&& 0x3f).toInt64)))]))
      have hres : (A ||| (((b0 &&& (127 : Int32)).toInt64) <<< ((Int32.ofInt ((7 * k : Nat) : Int)) &&& 0x3f).toInt64)) = q := Int64.toInt_inj.mp (by rw [own_acc (i := k) hA hbi ha hk (by omega), hq])
      refine own_retJ X3 hx hlk hret (hb hby d5_39) (by decide) (by decide) ⟨by rw [hres], N3, ?_⟩
      rw [e3, own_len_lo hlt]
      exact ⟨Kc10, F5_bytes, F6_length, by rw [← own_inc]; exact F7_position, M11⟩
    · obtain ⟨b0, hb0⟩ : ∃ z, g1 p1 = z := ⟨_, rfl⟩
      have hb1 : b0 = own_hi n1 := hb0.symm.trans ((own_at_hi hlt).mp hat).1
      have hbi : (b0 &&& (127 : Int32)).toInt = ((n1 % 128 : Nat) : Int) := by rw [hb1]; exact own_hi_and n1
      refine own_st ?_ (fun t_ k_ => XS.aloadN X0.here hx rfl (hb hby d5_4) rfl rfl k_)
      show own_G p.tables e below _ _ (T0.setTop (mkF m 5 #[.val (.ref a0), .val (.long A), .second, .val (.int (Int32.ofInt ((7 * k : Nat) : Int))), s4] [(.ref a0)]))
      obtain ⟨T12, X12, e12, st12⟩ := getF X0 hx hZ hown (host := "") (Or.inl (hw _ (List.mem_of_getElem? (i := 11) rfl))) Via.refl e0 Fb (g := (mkF m 5 #[.val (.ref a0), .val (.long A), .second, .val (.int (Int32.ofInt ((7 * k : Nat) : Int))), s4] [(.ref a0)])) rfl rfl (hb hby d5_5)
      refine own_st ?_ st12
      show own_G p.tables e below _ _ (T12.setTop (mkF m 8 #[.val (.ref a0), .val (.long A), .second, .val (.int (Int32.ofInt ((7 * k : Nat) : Int))), s4] [(.ref t)]))
      refine own_st ?_ (fun t_ k_ => XS.aloadN X12.here hx rfl (hb hby d5_8) rfl rfl k_)
      show own_G p.tables e below _ _ (T12.setTop (mkF m 9 #[.val (.ref a0), .val (.long A), .second, .val (.int (Int32.ofInt ((7 * k : Nat) : Int))), s4] [(.ref a0), (.ref t)]))
      refine own_st ?_ (fun t_ k_ => XS.dup X12.here hx rfl (hb hby d5_9) rfl rfl k_)
      show own_G p.tables e below _ _ (T12.setTop (mkF m 10 #[.val (.ref a0), .val (.long A), .second, .val (.int (Int32.ofInt ((7 * k : Nat) : Int))), s4] [(.ref a0), (.ref a0), (.ref t)]))
      obtain ⟨T13, X13, e13, st13⟩ := getF X12 hx hZ hown (host := "") (Or.inl (hw _ (List.mem_of_getElem? (i := 31) rfl))) Via.refl e12 Fp (g := (mkF m 10 #[.val (.ref a0), .val (.long A), .second, .val (.int (Int32.ofInt ((7 * k : Nat) : Int))), s4] [(.ref a0), (.ref a0), (.ref t)])) rfl rfl (hb hby d5_10)
      refine own_st ?_ st13
      show own_G p.tables e below _ _ (T13.setTop (mkF m 13 #[.val (.ref a0), .val (.long A), .second, .val (.int (Int32.ofInt ((7 * k : Nat) : Int))), s4] [(.int (Int32.ofInt ((p1 : Nat) : Int))), (.ref a0), (.ref t)]))
      refine own_st ?_ (fun t_ k_ => XS.dupX1 X13.here hx rfl (hb hby d5_13) rfl rfl rfl k_)
      show own_G p.tables e below _ _ (T13.setTop (mkF m 14 #[.val (.ref a0), .val (.long A), .second, .val (.int (Int32.ofInt ((7 * k : Nat) : Int))), s4] [(.int (Int32.ofInt ((p1 : Nat) : Int))), (.ref a0), (.int (Int32.ofInt ((p1 : Nat) : Int))), (.ref t)]))
      refine own_st ?_ (fun t_ k_ => XS.iconst X13.here hx rfl (hb hby d5_14) k_)
      show own_G p.tables e below _ _ (T13.setTop (mkF m 15 #[.val (.ref a0), .val (.long A), .second, .val (.int (Int32.ofInt ((7 * k : Nat) : Int))), s4] [(.int (1 : Int32)), (.int (Int32.ofInt ((p1 : Nat) : Int))), (.ref a0), (.int (Int32.ofInt ((p1 : Nat) : Int))), (.ref t)]))
      refine own_st ?_ (fun t_ k_ => XS.iadd X13.here hx rfl (hb hby d5_15) rfl k_)
      show own_G p.tables e below _ _ (T13.setTop (mkF m 16 #[.val (.ref a0), .val (.long A), .second, .val (.int (Int32.ofInt ((7 * k : Nat) : Int))), s4] [(.int ((Int32.ofInt ((p1 : Nat) : Int)) + (1 : Int32))), (.ref a0), (.int (Int32.ofInt ((p1 : Nat) : Int))), (.ref t)]))
      obtain ⟨T14, h14, X14, e14, W14, st14⟩ := putF X13 hx hZ hown (host := "") (Or.inl (hw _ (List.mem_of_getElem? (i := 31) rfl))) Via.refl e13 Fp E0 (Or.inl (hw _ (List.mem_of_getElem? (i := 32) rfl))) (hw _ (List.mem_of_getElem? (i := 2) rfl)) (ty := .int) (by decide) rfl rfl (g := (mkF m 16 #[.val (.ref a0), .val (.long A), .second, .val (.int (Int32.ofInt ((7 * k : Nat) : Int))), s4] [(.int ((Int32.ofInt ((p1 : Nat) : Int)) + (1 : Int32))), (.ref a0), (.int (Int32.ofInt ((p1 : Nat) : Int))), (.ref t)])) rfl rfl (hb hby d5_16)
      have N14 := Fr.snoc X14 N0 g_a0
      have F15_E : Exa Z h14 a0 "com/example/termwright/termwright/Spool$Record" := E0.wr W14
      have F16_bytes : Fld Z h14 a0 "com/example/termwright/termwright/Spool$Record" "bytes" "[B" (.ref t) := Fb.other W14 (Or.inr (slot_ne (Or.inl (hw _ (List.mem_of_getElem? (i := 12) rfl))) (Or.inl (hw _ (List.mem_of_getElem? (i := 32) rfl))) (by decide) (t := (.array .byte)) (t' := .int) (by decide) (by decide)))
      have F17_length : Fld Z h14 a0 "com/example/termwright/termwright/Spool$Record" "length" "I" (.int (Int32.ofInt ((l1 : Nat) : Int))) := Fl.other W14 (Or.inr (slot_ne (Or.inl (hw _ (List.mem_of_getElem? (i := 24) rfl))) (Or.inl (hw _ (List.mem_of_getElem? (i := 32) rfl))) (by decide) (t := .int) (t' := .int) (by decide) (by decide)))
      have F18_position : Fld Z h14 a0 "com/example/termwright/termwright/Spool$Record" "position" "I" (.int ((Int32.ofInt ((p1 : Nat) : Int)) + (1 : Int32))) := Fp.same W14
      have F19_P : own_M Z h14 t g1 := own_M_keep M0 (Keep.of_wr W14) (ninS (Ne.symm hne) nin0)
      have Zs20 : n0 ≤ h14.size := Nat.le_trans Z1 (Keep.of_wr W14).1
      have Kc21 : Keep h0 h14 [a0] := K0.wr W14 (Or.inl (List.mem_of_getElem? (i := 0) rfl))
      refine own_st ?_ st14
      show own_G p.tables e below _ _ (T14.setTop (mkF m 19 #[.val (.ref a0), .val (.long A), .second, .val (.int (Int32.ofInt ((7 * k : Nat) : Int))), s4] [(.int (Int32.ofInt ((p1 : Nat) : Int))), (.ref t)]))
      obtain ⟨cl22, Ar22, S22, G22⟩ := F19_P
      have hin22 : ¬ ((Int32.ofInt ((p1 : Nat) : Int)) < 0 ∨ cl22.slots.size ≤ ((Int32.ofInt ((p1 : Nat) : Int))).toNatClampNeg) := by rw [S22]; exact own_inx (by omega) (by decide)
      have hat22 : cl22.slots[((Int32.ofInt ((p1 : Nat) : Int))).toNatClampNeg]? = some (.int b0) := by rw [own_clamp (by omega), ← hb0]; exact G22 _ (by omega)
      refine own_st ?_ (X14.baloadBytes hx (j := (Int32.ofInt ((p1 : Nat) : Int))) (v := (.int b0)) (by rw [e14]; exact Ar22.1) (State.isArrayOf_alike hZ.alike Ar22.2.1) Ar22.2.2 hin22 hat22 (g := (mkF m 19 #[.val (.ref a0), .val (.long A), .second, .val (.int (Int32.ofInt ((7 * k : Nat) : Int))), s4] [(.int (Int32.ofInt ((p1 : Nat) : Int))), (.ref t)])) rfl rfl (hb hby d5_19))
      have M22 : own_M Z h14 t g1 := ⟨cl22, Ar22, S22, G22⟩
      show own_G p.tables e below _ _ (T14.setTop (mkF m 20 #[.val (.ref a0), .val (.long A), .second, .val (.int (Int32.ofInt ((7 * k : Nat) : Int))), s4] [(.int b0)]))
      refine own_st ?_ (fun t_ k_ => XS.istoreS X14.here hx rfl (hb hby d5_20) rfl (o := s4) rfl o_s4 k_)
      show own_G p.tables e below _ _ (T14.setTop (mkF m 22 #[.val (.ref a0), .val (.long A), .second, .val (.int (Int32.ofInt ((7 * k : Nat) : Int))), .val (.int b0)] []))
      refine own_st ?_ (fun t_ k_ => XS.lloadN X14.here hx rfl (hb hby d5_22) rfl k_)
      show own_G p.tables e below _ _ (T14.setTop (mkF m 23 #[.val (.ref a0), .val (.long A), .second, .val (.int (Int32.ofInt ((7 * k : Nat) : Int))), .val (.int b0)] [(.long A)]))
      refine own_st ?_ (fun t_ k_ => XS.iload X14.here hx rfl (hb hby d5_23) rfl k_)
      show own_G p.tables e below _ _ (T14.setTop (mkF m 25 #[.val (.ref a0), .val (.long A), .second, .val (.int (Int32.ofInt ((7 * k : Nat) : Int))), .val (.int b0)] [(.int b0), (.long A)]))
      refine own_st ?_ (fun t_ k_ => XS.bipush X14.here hx rfl (hb hby d5_25) k_)
      show own_G p.tables e below _ _ (T14.setTop (mkF m 27 #[.val (.ref a0), .val (.long A), .second, .val (.int (Int32.ofInt ((7 * k : Nat) : Int))), .val (.int b0)] [(.int (127 : Int32)), (.int b0), (.long A)]))
      refine own_st ?_ (fun t_ k_ => XS.iand X14.here hx rfl (hb hby d5_27) rfl k_)
      show own_G p.tables e below _ _ (T14.setTop (mkF m 28 #[.val (.ref a0), .val (.long A), .second, .val (.int (Int32.ofInt ((7 * k : Nat) : Int))), .val (.int b0)] [(.int (b0 &&& (127 : Int32))), (.long A)]))
      refine own_st ?_ (fun t_ k_ => XS.i2l X14.here hx rfl (hb hby d5_28) rfl k_)
      show own_G p.tables e below _ _ (T14.setTop (mkF m 29 #[.val (.ref a0), .val (.long A), .second, .val (.int (Int32.ofInt ((7 * k : Nat) : Int))), .val (.int b0)] [(.long ((b0 &&& (127 : Int32)).toInt64)), (.long A)]))
      refine own_st ?_ (fun t_ k_ => XS.iloadN X14.here hx rfl (hb hby d5_29) rfl k_)
      show own_G p.tables e below _ _ (T14.setTop (mkF m 30 #[.val (.ref a0), .val (.long A), .second, .val (.int (Int32.ofInt ((7 * k : Nat) : Int))), .val (.int b0)] [(.int (Int32.ofInt ((7 * k : Nat) : Int))), (.long ((b0 &&& (127 : Int32)).toInt64)), (.long A)]))
      refine own_st ?_ (fun t_ k_ => XS.lshl X14.here hx rfl (hb hby d5_30) rfl k_)
      show own_G p.tables e below _ _ (T14.setTop (mkF m 31 #[.val (.ref a0), .val (.long A), .second, .val (.int (Int32.ofInt ((7 * k : Nat) : Int))), .val (.int b0)] [(.long (((b0 &&& (127 : Int32)).toInt64) <<< ((Int32.ofInt ((7 * k : Nat) : Int)) &&& 0x3f).toInt64)), (.long A)]))
      refine own_st ?_ (fun t_ k_ => XS.lor X14.here hx rfl (hb hby d5_31) rfl k_)
      show own_G p.tables e below _ _ (T14.setTop (mkF m 32 #[.val (.ref a0), .val (.long A), .second, .val (.int (Int32.ofInt ((7 * k : Nat) : Int))), .val (.int b0)] [(.long (A ||| (((b0 &&& (127 : Int32)).toInt64) <<< ((Int32.ofInt ((7 * k : Nat) : Int)) &&& 0x3f).toInt64)))]))
      refine own_st ?_ (fun t_ k_ => XS.lstoreN X14.here hx rfl (hb hby d5_32) rfl (l' := #[.val (.ref a0), .val (.long (A ||| (((b0 &&& (127 : Int32)).toInt64) <<< ((Int32.ofInt ((7 * k : Nat) : Int)) &&& 0x3f).toInt64))), .second, .val (.int (Int32.ofInt ((7 * k : Nat) : Int))), .val (.int b0)]) rfl k_)
      show own_G p.tables e below _ _ (T14.setTop (mkF m 33 #[.val (.ref a0), .val (.long (A ||| (((b0 &&& (127 : Int32)).toInt64) <<< ((Int32.ofInt ((7 * k : Nat) : Int)) &&& 0x3f).toInt64))), .second, .val (.int (Int32.ofInt ((7 * k : Nat) : Int))), .val (.int b0)] []))
      refine own_st ?_ (fun t_ k_ => XS.iload X14.here hx rfl (hb hby d5_33) rfl k_)
      show own_G p.tables e below _ _ (T14.setTop (mkF m 35 #[.val (.ref a0), .val (.long (A ||| (((b0 &&& (127 : Int32)).toInt64) <<< ((Int32.ofInt ((7 * k : Nat) : Int)) &&& 0x3f).toInt64))), .second, .val (.int (Int32.ofInt ((7 * k : Nat) : Int))), .val (.int b0)] [(.int b0)]))
      refine own_st ?_ (fun t_ k_ => XS.ifYes X14.here hx rfl (pc0 := 35) (pc' := 40) rfl (hb hby d5_35) rfl ((if0 _ _).trans (tlt (show b0 < (0 : Int32) from by rw [hb1]; exact own_hi_neg n1)).1) (by decide) (by decide) k_)
      show own_G p.tables e below _ _ (T14.setTop (mkF m 40 #[.val (.ref a0), .val (.long (A ||| (((b0 &&& (127 : Int32)).toInt64) <<< ((Int32.ofInt ((7 * k : Nat) : Int)) &&& 0x3f).toInt64))), .second, .val (.int (Int32.ofInt ((7 * k : Nat) : Int))), .val (.int b0)] []))
      refine own_st ?_ (fun t_ k_ => XS.iinc X14.here hx rfl (hb hby d5_40) rfl (l' := #[.val (.ref a0), .val (.long (A ||| (((b0 &&& (127 : Int32)).toInt64) <<< ((Int32.ofInt ((7 * k : Nat) : Int)) &&& 0x3f).toInt64))), .second, .val (.int ((Int32.ofInt ((7 * k : Nat) : Int)) + (7 : Int32))), .val (.int b0)]) rfl k_)
      show own_G p.tables e below _ _ (T14.setTop (mkF m 43 #[.val (.ref a0), .val (.long (A ||| (((b0 &&& (127 : Int32)).toInt64) <<< ((Int32.ofInt ((7 * k : Nat) : Int)) &&& 0x3f).toInt64))), .second, .val (.int ((Int32.ofInt ((7 * k : Nat) : Int)) + (7 : Int32))), .val (.int b0)] []))
      refine own_st ?_ (fun t_ k_ => XS.goto X14.here hx rfl (pc0 := 43) (pc' := 4) rfl (hb hby d5_43) (by decide) (by decide) k_)
      show own_G p.tables e below _ _ (T14.setTop (mkF m 4 #[.val (.ref a0), .val (.long (A ||| (((b0 &&& (127 : Int32)).toInt64) <<< ((Int32.ofInt ((7 * k : Nat) : Int)) &&& 0x3f).toInt64))), .second, .val (.int ((Int32.ofInt ((7 * k : Nat) : Int)) + (7 : Int32))), .val (.int b0)] []))
      have Fp23 : Fld Z h14 a0 "com/example/termwright/termwright/Spool$Record" "position" "I" (.int (Int32.ofInt ((p1 + 1 : Nat) : Int))) := by rw [← own_inc]; exact F18_position
      have hk23 : 2 ^ (7 * (k + 1)) = 2 ^ (7 * k) * 128 := by rw [show 7 * (k + 1) = 7 * k + 7 by omega, Nat.pow_add]
      have hd23 : 2 ^ (7 * k) * n1 = 2 ^ (7 * k) * 128 * (n1 / 128) + 2 ^ (7 * k) * (n1 % 128) := by rw [Nat.mul_assoc, ← Nat.mul_add, Nat.div_add_mod]
      have hle23 : 2 ^ (7 * k) * (n1 % 128) + 2 ^ (7 * k) ≤ 2 ^ (7 * k) * 128 := by rw [← Nat.mul_succ]; exact Nat.mul_le_mul_left _ (by omega)
      have hsm23 : 2 ^ (7 * k) * (n1 % 128) ≤ 2 ^ (7 * k) * n1 := Nat.mul_le_mul_left _ (Nat.mod_le _ _)
      have hacc23 := own_acc (i := k) hA hbi ha hk (by omega)
      have hk923 : k + 1 < 9 := own_k9 hlt hn
      have ih23 := ih (n1 / 128) (by omega) (A := (A ||| (((b0 &&& (127 : Int32)).toInt64) <<< ((Int32.ofInt ((7 * k : Nat) : Int)) &&& 0x3f).toInt64))) (k := k + 1) (a := 2 ^ (7 * k) * (n1 % 128) + a) (s4 := .val (.int b0)) X14 N14 e14 (by have := own_len_hi hlt; omega) hacc23 hk923 (by rw [hk23]; omega) (by rw [hk23]; rw [hq]; omega) (by rw [hk23]; omega) (Or.inr ⟨_, rfl, rfl⟩) ((own_at_hi hlt).mp hat).2 Kc21 F15_E F16_bytes F17_length Fp23 M22 Zs20
      rw [own_len_hi hlt, show p1 + (own_len (n1 / 128) + 1) = p1 + 1 + own_len (n1 / 128) by omega]
      rw [← own_iinc] at ih23
      exact ih23
theorem ef_5 (m : MethodId) (a0 : Addr) : entryFrame m #[(.ref a0)] 5 = mkF m 0 #[.val (.ref a0), .unset, .unset, .unset, .unset] [] := by first | (simp [entryFrame, mkF, argsToLocals, Value.category]; done) | rfl
set_option maxRecDepth 65536 in
set_option maxHeartbeats 40000000 in
theorem rm5 (l : Launch) (Z : State) (a0 : Array Value) (hw : ∀ d ∈ tables_1, d.before a0 Z = true) (ws : List Jvm.Cond) (a0 : Addr) (t : Addr) (l1 : Nat) (p1 : Nat) (g1 : Nat → Int32) (n1 : Nat) (q : Int64) (h0 : Heap) (n0 : Nat) (Z0 : n0 ≤ h0.size) (g_a0 : n0 ≤ a0) (g_t : n0 ≤ t) (E0 : Exa Z h0 a0 "com/example/termwright/termwright/Spool$Record") (Fb : Fld Z h0 a0 "com/example/termwright/termwright/Spool$Record" "bytes" "[B" (.ref t)) (Fl : Fld Z h0 a0 "com/example/termwright/termwright/Spool$Record" "length" "I" (.int (Int32.ofInt ((l1 : Nat) : Int)))) (Fp : Fld Z h0 a0 "com/example/termwright/termwright/Spool$Record" "position" "I" (.int (Int32.ofInt ((p1 : Nat) : Int)))) (M0 : own_M Z h0 t g1) (hne : a0 ≠ t) (hq : q.toInt = (n1 : Int)) (hn : n1 < 2 ^ 63) (hp : p1 + own_len n1 ≤ 256) (hat : own_at g1 p1 n1) :
    MetFree l (⟨"com/example/termwright/termwright/Spool$Record", "number", "()J"⟩ : MethodName) (head1 (Jvm.Cond.code (⟨"com/example/termwright/termwright/Spool$Record", "number", "()J"⟩ : MethodName) prog_34_method_5_code 5 (some .long) :: ws) ({ frames := 0, cells := 0, slots := 0, locals := 0 } : Room)) (fun a U => a = #[(.ref a0)] ∧ Z.Warmed39 U.vm ∧ U.heap = h0) (fun _ _ _ _ _ => True) (fun _ U o U' => ∃ v L, o = .returned v ∧ own_Qr Z (some (.long q)) [a0] a0 t l1 (p1 + own_len n1) g1 h0 n0 v U'.heap L ∧ FrameEnd U o U' L ({ frames := 0, cells := 0, slots := 0, locals := 0 } : Room).cells ({ frames := 0, cells := 0, slots := 0, locals := 0 } : Room).slots) := by
  refine MetFree.of_bodySF (plainFor_of_name pn_5) hisR ?_
  intro p e s m args below meth c s₁ Bd hml0 hP hK
  obtain ⟨rfl, hZ, hh⟩ := hP
  have hx := Bd.exec
  have hby := Bd.bytes
  have hlk : meth.locks = false := BodyLoose.notSynchronized Bd
  have hret := Bd.returns
  have hml : c.maxLocals = 5 := hml0
  have hown : s.vm.findClass "com/example/termwright/termwright/Spool$Record" = some m.cls := findClass_of_methodNamed Bd.named
  have hnm := (name_of_methodNamed Bd.named Bd.method).1
  have X0 : Stand p l e ({ frames := 0, cells := 0, slots := 0, locals := 0 } : Room) s m #[(.ref a0)] below meth c s₁ [] 0 0 := Stand.of_body Bd
  have e0 : s₁.heap = h0 := by rw [← hh, Bd.state]; rfl
  have N0 := Fr.nil n0
  show own_G p.tables e below (own_E s ({ frames := 0, cells := 0, slots := 0, locals := 0 } : Room).cells ({ frames := 0, cells := 0, slots := 0, locals := 0 } : Room).slots) (own_Qr Z (some (.long q)) [a0] a0 t l1 (p1 + own_len n1) g1 h0 n0) (s₁.setTop (entryFrame m #[(.ref a0)] 5))
  refine own_st ?_ (fun t_ k_ => castTop (ef_5 m a0) k_)
  show own_G p.tables e below _ _ (s₁.setTop (mkF m 0 #[.val (.ref a0), .unset, .unset, .unset, .unset] []))
  refine own_st ?_ (fun t_ k_ => XS.lconst X0.here hx rfl (hb hby d5_0) k_)
  show own_G p.tables e below _ _ (s₁.setTop (mkF m 1 #[.val (.ref a0), .unset, .unset, .unset, .unset] [(.long (0 : Int64))]))
  refine own_st ?_ (fun t_ k_ => XS.lstoreN X0.here hx rfl (hb hby d5_1) rfl (l' := #[.val (.ref a0), .val (.long (0 : Int64)), .second, .unset, .unset]) rfl k_)
  show own_G p.tables e below _ _ (s₁.setTop (mkF m 2 #[.val (.ref a0), .val (.long (0 : Int64)), .second, .unset, .unset] []))
  refine own_st ?_ (fun t_ k_ => XS.iconst X0.here hx rfl (hb hby d5_2) k_)
  show own_G p.tables e below _ _ (s₁.setTop (mkF m 3 #[.val (.ref a0), .val (.long (0 : Int64)), .second, .unset, .unset] [(.int (0 : Int32))]))
  refine own_st ?_ (fun t_ k_ => XS.istoreN X0.here hx rfl (hb hby d5_3) rfl (l' := #[.val (.ref a0), .val (.long (0 : Int64)), .second, .val (.int (0 : Int32)), .unset]) rfl k_)
  show own_G p.tables e below _ _ (s₁.setTop (mkF m 4 #[.val (.ref a0), .val (.long (0 : Int64)), .second, .val (.int (0 : Int32)), .unset] []))
  exact own_ln hx hlk hZ hw hby hml hown hret g_a0 g_t hne (q := q) n1 (A := (0 : Int64)) (k := 0) (a := 0) (s4 := .unset) X0 N0 e0 hp (by decide) (by decide) (by decide) (by rw [hq]; simp) (by simpa using hn) (Or.inl rfl) hat (Keep.refl _ _) E0 Fb Fl Fp M0 Z0
theorem own_arg (x : Int64) : ∃ n : Nat, n < 2 ^ 63 ∧ (x &&& (9223372036854775807 : Int64)).toInt = (n : Int) := by
  have h := Jvm.Kit.i64_mask x 9223372036854775807 (k := 63) (by decide) (by decide)
  exact ⟨(x &&& (9223372036854775807 : Int64)).toInt.toNat, by omega, by omega⟩
theorem pd_4 : parseMethodDescriptor "()J" = some ⟨[], some .long⟩ := by decide +kernel
theorem pd_2 : parseMethodDescriptor "()Lcom/example/termwright/termwright/Spool$Record;" = some ⟨[], some (.object "com/example/termwright/termwright/Spool$Record")⟩ := by decide +kernel
theorem pd_1 : parseMethodDescriptor "()V" = some ⟨[], none⟩ := by decide +kernel
theorem pd_3 : parseMethodDescriptor "(J)Lcom/example/termwright/termwright/Spool$Record;" = some ⟨[.long], some (.object "com/example/termwright/termwright/Spool$Record")⟩ := by decide +kernel
theorem pn_0 : plainName "com/example/termwright/termwright/RecordClearPinLaw" = true := by first | (simp [plainName, overriddenIn]; done) | decide +kernel
theorem ef_0 (m : MethodId) (q0 : Int64) (q1 : Int64) (q2 : Int64) (q3 : Int64) (p4 : Int32) : entryFrame m #[(.long q0), (.long q1), (.long q2), (.long q3), (.int p4)] maxLocals = mkF m 0 #[.val (.long q0), .second, .val (.long q1), .second, .val (.long q2), .second, .val (.long q3), .second, .val (.int p4), .unset, .unset, .unset, .unset, .unset, .unset, .unset, .unset, .unset, .unset, .unset, .unset, .unset, .unset, .unset] [] := by first | (simp [entryFrame, mkF, argsToLocals, Value.category, maxLocals]; done) | rfl
set_option maxRecDepth 65536 in
set_option maxHeartbeats 40000000 in
theorem rm0 (l : Launch) (Z : State) (a0 : Array Value) (hw : ∀ d ∈ tables_1, d.before a0 Z = true) (ws : List Jvm.Cond) (q0 : Int64) (q1 : Int64) (q2 : Int64) (q3 : Int64) (p4 : Int32) (h0 : Heap) (n0 : Nat) (Z0 : n0 ≤ h0.size) :
    MetFree l x (head1 (Jvm.Cond.code x code maxLocals ret :: ws) room_1) (fun a U => a = #[(.long q0), (.long q1), (.long q2), (.long q3), (.int p4)] ∧ Z.Warmed39 U.vm ∧ U.heap = h0) (fun _ _ _ _ _ => True) (fun _ U o U' => ∃ v L, o = .returned v ∧ own_QL (.int 1) n0 v U'.heap L ∧ FrameEnd U o U' L room_1.cells room_1.slots) := by
  refine MetFree.of_bodySF (plainFor_of_name pn_0) hisR ?_
  intro p e s m args below meth c s₁ Bd hml0 hP hK
  obtain ⟨rfl, hZ, hh⟩ := hP
  have hx := Bd.exec
  have hby := Bd.bytes
  have hlk : meth.locks = false := BodyLoose.notSynchronized Bd
  have hret := Bd.returns
  have hml : c.maxLocals = 24 := hml0
  have hown : s.vm.findClass "com/example/termwright/termwright/RecordClearPinLaw" = some m.cls := findClass_of_methodNamed Bd.named
  have hnm := (name_of_methodNamed Bd.named Bd.method).1
  have X0 : Stand p l e room_1 s m #[(.long q0), (.long q1), (.long q2), (.long q3), (.int p4)] below meth c s₁ [] 0 0 := Stand.of_body Bd
  have e0 : s₁.heap = h0 := by rw [← hh, Bd.state]; rfl
  have N0 := Fr.nil n0
  show own_G p.tables e below (own_E s room_1.cells room_1.slots) (own_QL (.int 1) n0) (s₁.setTop (entryFrame m #[(.long q0), (.long q1), (.long q2), (.long q3), (.int p4)] maxLocals))
  refine own_st ?_ (fun t_ k_ => castTop (ef_0 m q0 q1 q2 q3 p4) k_)
  show own_G p.tables e below _ _ (s₁.setTop (mkF m 0 #[.val (.long q0), .second, .val (.long q1), .second, .val (.long q2), .second, .val (.long q3), .second, .val (.int p4), .unset, .unset, .unset, .unset, .unset, .unset, .unset, .unset, .unset, .unset, .unset, .unset, .unset, .unset, .unset] []))
  obtain ⟨nA, hA63, hA⟩ := own_arg q0
  obtain ⟨nB, hB63, hB⟩ := own_arg q1
  obtain ⟨nC, hC63, hC⟩ := own_arg q2
  obtain ⟨nD, hD63, hD⟩ := own_arg q3
  refine own_st ?_ (fun t_ k_ => XS.lloadN X0.here hx rfl (hb hby at_0) rfl k_)
  show own_G p.tables e below _ _ (s₁.setTop (mkF m 1 #[.val (.long q0), .second, .val (.long q1), .second, .val (.long q2), .second, .val (.long q3), .second, .val (.int p4), .unset, .unset, .unset, .unset, .unset, .unset, .unset, .unset, .unset, .unset, .unset, .unset, .unset, .unset, .unset] [(.long q0)]))
  refine own_st ?_ (X0.ldc2Long hx hown (mvT hZ (hw _ (List.mem_of_getElem? (i := 0) rfl))) (g := (mkF m 1 #[.val (.long q0), .second, .val (.long q1), .second, .val (.long q2), .second, .val (.long q3), .second, .val (.int p4), .unset, .unset, .unset, .unset, .unset, .unset, .unset, .unset, .unset, .unset, .unset, .unset, .unset, .unset, .unset] [(.long q0)])) rfl (hb hby at_1))
  show own_G p.tables e below _ _ (s₁.setTop (mkF m 4 #[.val (.long q0), .second, .val (.long q1), .second, .val (.long q2), .second, .val (.long q3), .second, .val (.int p4), .unset, .unset, .unset, .unset, .unset, .unset, .unset, .unset, .unset, .unset, .unset, .unset, .unset, .unset, .unset] [(.long (9223372036854775807 : Int64)), (.long q0)]))
  refine own_st ?_ (fun t_ k_ => XS.land X0.here hx rfl (hb hby at_4) rfl k_)
  show own_G p.tables e below _ _ (s₁.setTop (mkF m 5 #[.val (.long q0), .second, .val (.long q1), .second, .val (.long q2), .second, .val (.long q3), .second, .val (.int p4), .unset, .unset, .unset, .unset, .unset, .unset, .unset, .unset, .unset, .unset, .unset, .unset, .unset, .unset, .unset] [(.long (q0 &&& (9223372036854775807 : Int64)))]))
  refine own_st ?_ (fun t_ k_ => XS.lstore X0.here hx rfl (hb hby at_5) rfl (l' := #[.val (.long q0), .second, .val (.long q1), .second, .val (.long q2), .second, .val (.long q3), .second, .val (.int p4), .val (.long (q0 &&& (9223372036854775807 : Int64))), .second, .unset, .unset, .unset, .unset, .unset, .unset, .unset, .unset, .unset, .unset, .unset, .unset, .unset]) rfl k_)
  show own_G p.tables e below _ _ (s₁.setTop (mkF m 7 #[.val (.long q0), .second, .val (.long q1), .second, .val (.long q2), .second, .val (.long q3), .second, .val (.int p4), .val (.long (q0 &&& (9223372036854775807 : Int64))), .second, .unset, .unset, .unset, .unset, .unset, .unset, .unset, .unset, .unset, .unset, .unset, .unset, .unset] []))
  refine own_st ?_ (fun t_ k_ => XS.lloadN X0.here hx rfl (hb hby at_7) rfl k_)
  show own_G p.tables e below _ _ (s₁.setTop (mkF m 8 #[.val (.long q0), .second, .val (.long q1), .second, .val (.long q2), .second, .val (.long q3), .second, .val (.int p4), .val (.long (q0 &&& (9223372036854775807 : Int64))), .second, .unset, .unset, .unset, .unset, .unset, .unset, .unset, .unset, .unset, .unset, .unset, .unset, .unset] [(.long q1)]))
  refine own_st ?_ (X0.ldc2Long hx hown (mvT hZ (hw _ (List.mem_of_getElem? (i := 0) rfl))) (g := (mkF m 8 #[.val (.long q0), .second, .val (.long q1), .second, .val (.long q2), .second, .val (.long q3), .second, .val (.int p4), .val (.long (q0 &&& (9223372036854775807 : Int64))), .second, .unset, .unset, .unset, .unset, .unset, .unset, .unset, .unset, .unset, .unset, .unset, .unset, .unset] [(.long q1)])) rfl (hb hby at_8))
  show own_G p.tables e below _ _ (s₁.setTop (mkF m 11 #[.val (.long q0), .second, .val (.long q1), .second, .val (.long q2), .second, .val (.long q3), .second, .val (.int p4), .val (.long (q0 &&& (9223372036854775807 : Int64))), .second, .unset, .unset, .unset, .unset, .unset, .unset, .unset, .unset, .unset, .unset, .unset, .unset, .unset] [(.long (9223372036854775807 : Int64)), (.long q1)]))
  refine own_st ?_ (fun t_ k_ => XS.land X0.here hx rfl (hb hby at_11) rfl k_)
  show own_G p.tables e below _ _ (s₁.setTop (mkF m 12 #[.val (.long q0), .second, .val (.long q1), .second, .val (.long q2), .second, .val (.long q3), .second, .val (.int p4), .val (.long (q0 &&& (9223372036854775807 : Int64))), .second, .unset, .unset, .unset, .unset, .unset, .unset, .unset, .unset, .unset, .unset, .unset, .unset, .unset] [(.long (q1 &&& (9223372036854775807 : Int64)))]))
  refine own_st ?_ (fun t_ k_ => XS.lstore X0.here hx rfl (hb hby at_12) rfl (l' := #[.val (.long q0), .second, .val (.long q1), .second, .val (.long q2), .second, .val (.long q3), .second, .val (.int p4), .val (.long (q0 &&& (9223372036854775807 : Int64))), .second, .val (.long (q1 &&& (9223372036854775807 : Int64))), .second, .unset, .unset, .unset, .unset, .unset, .unset, .unset, .unset, .unset, .unset, .unset]) rfl k_)
  show own_G p.tables e below _ _ (s₁.setTop (mkF m 14 #[.val (.long q0), .second, .val (.long q1), .second, .val (.long q2), .second, .val (.long q3), .second, .val (.int p4), .val (.long (q0 &&& (9223372036854775807 : Int64))), .second, .val (.long (q1 &&& (9223372036854775807 : Int64))), .second, .unset, .unset, .unset, .unset, .unset, .unset, .unset, .unset, .unset, .unset, .unset] []))
  refine own_st ?_ (fun t_ k_ => XS.lload X0.here hx rfl (hb hby at_14) rfl k_)
  show own_G p.tables e below _ _ (s₁.setTop (mkF m 16 #[.val (.long q0), .second, .val (.long q1), .second, .val (.long q2), .second, .val (.long q3), .second, .val (.int p4), .val (.long (q0 &&& (9223372036854775807 : Int64))), .second, .val (.long (q1 &&& (9223372036854775807 : Int64))), .second, .unset, .unset, .unset, .unset, .unset, .unset, .unset, .unset, .unset, .unset, .unset] [(.long q2)]))
  refine own_st ?_ (X0.ldc2Long hx hown (mvT hZ (hw _ (List.mem_of_getElem? (i := 0) rfl))) (g := (mkF m 16 #[.val (.long q0), .second, .val (.long q1), .second, .val (.long q2), .second, .val (.long q3), .second, .val (.int p4), .val (.long (q0 &&& (9223372036854775807 : Int64))), .second, .val (.long (q1 &&& (9223372036854775807 : Int64))), .second, .unset, .unset, .unset, .unset, .unset, .unset, .unset, .unset, .unset, .unset, .unset] [(.long q2)])) rfl (hb hby at_16))
  show own_G p.tables e below _ _ (s₁.setTop (mkF m 19 #[.val (.long q0), .second, .val (.long q1), .second, .val (.long q2), .second, .val (.long q3), .second, .val (.int p4), .val (.long (q0 &&& (9223372036854775807 : Int64))), .second, .val (.long (q1 &&& (9223372036854775807 : Int64))), .second, .unset, .unset, .unset, .unset, .unset, .unset, .unset, .unset, .unset, .unset, .unset] [(.long (9223372036854775807 : Int64)), (.long q2)]))
  refine own_st ?_ (fun t_ k_ => XS.land X0.here hx rfl (hb hby at_19) rfl k_)
  show own_G p.tables e below _ _ (s₁.setTop (mkF m 20 #[.val (.long q0), .second, .val (.long q1), .second, .val (.long q2), .second, .val (.long q3), .second, .val (.int p4), .val (.long (q0 &&& (9223372036854775807 : Int64))), .second, .val (.long (q1 &&& (9223372036854775807 : Int64))), .second, .unset, .unset, .unset, .unset, .unset, .unset, .unset, .unset, .unset, .unset, .unset] [(.long (q2 &&& (9223372036854775807 : Int64)))]))
  refine own_st ?_ (fun t_ k_ => XS.lstore X0.here hx rfl (hb hby at_20) rfl (l' := #[.val (.long q0), .second, .val (.long q1), .second, .val (.long q2), .second, .val (.long q3), .second, .val (.int p4), .val (.long (q0 &&& (9223372036854775807 : Int64))), .second, .val (.long (q1 &&& (9223372036854775807 : Int64))), .second, .val (.long (q2 &&& (9223372036854775807 : Int64))), .second, .unset, .unset, .unset, .unset, .unset, .unset, .unset, .unset, .unset]) rfl k_)
  show own_G p.tables e below _ _ (s₁.setTop (mkF m 22 #[.val (.long q0), .second, .val (.long q1), .second, .val (.long q2), .second, .val (.long q3), .second, .val (.int p4), .val (.long (q0 &&& (9223372036854775807 : Int64))), .second, .val (.long (q1 &&& (9223372036854775807 : Int64))), .second, .val (.long (q2 &&& (9223372036854775807 : Int64))), .second, .unset, .unset, .unset, .unset, .unset, .unset, .unset, .unset, .unset] []))
  refine own_st ?_ (fun t_ k_ => XS.lload X0.here hx rfl (hb hby at_22) rfl k_)
  show own_G p.tables e below _ _ (s₁.setTop (mkF m 24 #[.val (.long q0), .second, .val (.long q1), .second, .val (.long q2), .second, .val (.long q3), .second, .val (.int p4), .val (.long (q0 &&& (9223372036854775807 : Int64))), .second, .val (.long (q1 &&& (9223372036854775807 : Int64))), .second, .val (.long (q2 &&& (9223372036854775807 : Int64))), .second, .unset, .unset, .unset, .unset, .unset, .unset, .unset, .unset, .unset] [(.long q3)]))
  refine own_st ?_ (X0.ldc2Long hx hown (mvT hZ (hw _ (List.mem_of_getElem? (i := 0) rfl))) (g := (mkF m 24 #[.val (.long q0), .second, .val (.long q1), .second, .val (.long q2), .second, .val (.long q3), .second, .val (.int p4), .val (.long (q0 &&& (9223372036854775807 : Int64))), .second, .val (.long (q1 &&& (9223372036854775807 : Int64))), .second, .val (.long (q2 &&& (9223372036854775807 : Int64))), .second, .unset, .unset, .unset, .unset, .unset, .unset, .unset, .unset, .unset] [(.long q3)])) rfl (hb hby at_24))
  show own_G p.tables e below _ _ (s₁.setTop (mkF m 27 #[.val (.long q0), .second, .val (.long q1), .second, .val (.long q2), .second, .val (.long q3), .second, .val (.int p4), .val (.long (q0 &&& (9223372036854775807 : Int64))), .second, .val (.long (q1 &&& (9223372036854775807 : Int64))), .second, .val (.long (q2 &&& (9223372036854775807 : Int64))), .second, .unset, .unset, .unset, .unset, .unset, .unset, .unset, .unset, .unset] [(.long (9223372036854775807 : Int64)), (.long q3)]))
  refine own_st ?_ (fun t_ k_ => XS.land X0.here hx rfl (hb hby at_27) rfl k_)
  show own_G p.tables e below _ _ (s₁.setTop (mkF m 28 #[.val (.long q0), .second, .val (.long q1), .second, .val (.long q2), .second, .val (.long q3), .second, .val (.int p4), .val (.long (q0 &&& (9223372036854775807 : Int64))), .second, .val (.long (q1 &&& (9223372036854775807 : Int64))), .second, .val (.long (q2 &&& (9223372036854775807 : Int64))), .second, .unset, .unset, .unset, .unset, .unset, .unset, .unset, .unset, .unset] [(.long (q3 &&& (9223372036854775807 : Int64)))]))
  refine own_st ?_ (fun t_ k_ => XS.lstore X0.here hx rfl (hb hby at_28) rfl (l' := #[.val (.long q0), .second, .val (.long q1), .second, .val (.long q2), .second, .val (.long q3), .second, .val (.int p4), .val (.long (q0 &&& (9223372036854775807 : Int64))), .second, .val (.long (q1 &&& (9223372036854775807 : Int64))), .second, .val (.long (q2 &&& (9223372036854775807 : Int64))), .second, .val (.long (q3 &&& (9223372036854775807 : Int64))), .second, .unset, .unset, .unset, .unset, .unset, .unset, .unset]) rfl k_)
  show own_G p.tables e below _ _ (s₁.setTop (mkF m 30 #[.val (.long q0), .second, .val (.long q1), .second, .val (.long q2), .second, .val (.long q3), .second, .val (.int p4), .val (.long (q0 &&& (9223372036854775807 : Int64))), .second, .val (.long (q1 &&& (9223372036854775807 : Int64))), .second, .val (.long (q2 &&& (9223372036854775807 : Int64))), .second, .val (.long (q3 &&& (9223372036854775807 : Int64))), .second, .unset, .unset, .unset, .unset, .unset, .unset, .unset] []))
  obtain ⟨T1, h1, X1, e1, E1, A1, D1, -, st1⟩ := newO X0 hx hZ hown (hw _ (List.mem_of_getElem? (i := 1) rfl)) (hw _ (List.mem_of_getElem? (i := 2) rfl)) (hw _ (List.mem_of_getElem? (i := 3) rfl)) e0 (g := (mkF m 30 #[.val (.long q0), .second, .val (.long q1), .second, .val (.long q2), .second, .val (.long q3), .second, .val (.int p4), .val (.long (q0 &&& (9223372036854775807 : Int64))), .second, .val (.long (q1 &&& (9223372036854775807 : Int64))), .second, .val (.long (q2 &&& (9223372036854775807 : Int64))), .second, .val (.long (q3 &&& (9223372036854775807 : Int64))), .second, .unset, .unset, .unset, .unset, .unset, .unset, .unset] [])) rfl (hb hby at_30) (by decide) (by decide)
  obtain ⟨b1, gz1⟩ : ∃ z, z = h0.size := ⟨_, rfl⟩
  rw [← gz1] at A1 D1 st1
  have g_b1 : n0 ≤ b1 := Nat.le_trans Z0 (Nat.le_of_eq gz1.symm)
  have Zs2 : n0 ≤ h1.size := Nat.le_trans Z0 E1.1
  have F_bytes_b1 : Fld Z h1 b1 "com/example/termwright/termwright/Spool$Record" "bytes" "[B" .null := D1 (Or.inl (hw _ (List.mem_of_getElem? (i := 12) rfl))) (ty := (.array .byte)) (by decide)
  have F_length_b1 : Fld Z h1 b1 "com/example/termwright/termwright/Spool$Record" "length" "I" (.int (0 : Int32)) := D1 (Or.inl (hw _ (List.mem_of_getElem? (i := 24) rfl))) (ty := .int) (by decide)
  have F_position_b1 : Fld Z h1 b1 "com/example/termwright/termwright/Spool$Record" "position" "I" (.int (0 : Int32)) := D1 (Or.inl (hw _ (List.mem_of_getElem? (i := 32) rfl))) (ty := .int) (by decide)
  refine own_st ?_ st1
  show own_G p.tables e below _ _ (T1.setTop (mkF m 33 #[.val (.long q0), .second, .val (.long q1), .second, .val (.long q2), .second, .val (.long q3), .second, .val (.int p4), .val (.long (q0 &&& (9223372036854775807 : Int64))), .second, .val (.long (q1 &&& (9223372036854775807 : Int64))), .second, .val (.long (q2 &&& (9223372036854775807 : Int64))), .second, .val (.long (q3 &&& (9223372036854775807 : Int64))), .second, .unset, .unset, .unset, .unset, .unset, .unset, .unset] [(.ref b1)]))
  refine own_st ?_ (fun t_ k_ => XS.dup X1.here hx rfl (hb hby at_33) rfl rfl k_)
  show own_G p.tables e below _ _ (T1.setTop (mkF m 34 #[.val (.long q0), .second, .val (.long q1), .second, .val (.long q2), .second, .val (.long q3), .second, .val (.int p4), .val (.long (q0 &&& (9223372036854775807 : Int64))), .second, .val (.long (q1 &&& (9223372036854775807 : Int64))), .second, .val (.long (q2 &&& (9223372036854775807 : Int64))), .second, .val (.long (q3 &&& (9223372036854775807 : Int64))), .second, .unset, .unset, .unset, .unset, .unset, .unset, .unset] [(.ref b1), (.ref b1)]))
  obtain ⟨_, _, ⟨T3, L3, k3, n3⟩, -, X3, ⟨Lc3, hQ3, l3, y3, z3⟩, st3⟩ := X1.specialBack hx (y := (⟨"com/example/termwright/termwright/Spool$Record", "<init>", "()V"⟩ : MethodName)) rfl hown (mvT hZ (hw _ (List.mem_of_getElem? (i := 4) rfl))) (mvT hZ (hw _ (List.mem_of_getElem? (i := 5) rfl))) (mvT hZ (hw _ (List.mem_of_getElem? (i := 6) rfl))) (by decide) (backOf (W := 1) (rm1 l Z _ hw [] b1 .null h1 n0 Zs2 g_b1 A1 F_bytes_b1 F_length_b1 F_position_b1) hZ (hw _ (List.mem_of_getElem? (i := 6) rfl)) (hw _ (List.mem_of_getElem? (i := 3) rfl)) (by decide) (by decide)) (g := (mkF m 34 #[.val (.long q0), .second, .val (.long q1), .second, .val (.long q2), .second, .val (.long q3), .second, .val (.int p4), .val (.long (q0 &&& (9223372036854775807 : Int64))), .second, .val (.long (q1 &&& (9223372036854775807 : Int64))), .second, .val (.long (q2 &&& (9223372036854775807 : Int64))), .second, .val (.long (q3 &&& (9223372036854775807 : Int64))), .second, .unset, .unset, .unset, .unset, .unset, .unset, .unset] [(.ref b1), (.ref b1)])) rfl (by rw [hml]; rfl) (Steps.refl _) (a := b1) (argsL := []) (rest := [(.ref b1)]) (lenOf pd_1 rfl) rfl (by show 2 * 0 + _ ≤ _; exact Nat.le_of_eq rfl) (hb hby at_34) (fun _ _ => ⟨rfl, e1, (by decide : 1 + 1 ≤ _), (by decide : 3 + 256 ≤ _)⟩)
  dsimp only [Pt.U, Pt.locs, Pt.cells, Pt.slots] at X3 l3 y3 z3 st3 hQ3
  subst l3 y3 z3
  obtain ⟨rfl, N3q, hq3⟩ := hQ3
  have N3 := Fr.app N0 N3q
  obtain ⟨K3, t3, hs3, hne3, Fb3, Fl3, Fp3, M3⟩ := hq3
  have g_t3 : n0 ≤ t3 := Nat.le_trans Zs2 hs3
  have F4_E : Exa Z T3.heap b1 "com/example/termwright/termwright/Spool$Record" := A1.keep K3
  have Zs5 : n0 ≤ T3.heap.size := Nat.le_trans Zs2 K3.1
  refine own_st ?_ (fun t_ k_ => st3.trans k_)
  show own_G p.tables e below _ _ (T3.setTop (mkF m 37 #[.val (.long q0), .second, .val (.long q1), .second, .val (.long q2), .second, .val (.long q3), .second, .val (.int p4), .val (.long (q0 &&& (9223372036854775807 : Int64))), .second, .val (.long (q1 &&& (9223372036854775807 : Int64))), .second, .val (.long (q2 &&& (9223372036854775807 : Int64))), .second, .val (.long (q3 &&& (9223372036854775807 : Int64))), .second, .unset, .unset, .unset, .unset, .unset, .unset, .unset] [(.ref b1)]))
  refine own_st ?_ (fun t_ k_ => XS.astore X3.here hx rfl (hb hby at_37) rfl rfl (l' := #[.val (.long q0), .second, .val (.long q1), .second, .val (.long q2), .second, .val (.long q3), .second, .val (.int p4), .val (.long (q0 &&& (9223372036854775807 : Int64))), .second, .val (.long (q1 &&& (9223372036854775807 : Int64))), .second, .val (.long (q2 &&& (9223372036854775807 : Int64))), .second, .val (.long (q3 &&& (9223372036854775807 : Int64))), .second, .val (.ref b1), .unset, .unset, .unset, .unset, .unset, .unset]) rfl k_)
  show own_G p.tables e below _ _ (T3.setTop (mkF m 39 #[.val (.long q0), .second, .val (.long q1), .second, .val (.long q2), .second, .val (.long q3), .second, .val (.int p4), .val (.long (q0 &&& (9223372036854775807 : Int64))), .second, .val (.long (q1 &&& (9223372036854775807 : Int64))), .second, .val (.long (q2 &&& (9223372036854775807 : Int64))), .second, .val (.long (q3 &&& (9223372036854775807 : Int64))), .second, .val (.ref b1), .unset, .unset, .unset, .unset, .unset, .unset] []))
  refine own_st ?_ (fun t_ k_ => XS.iload X3.here hx rfl (hb hby at_39) rfl k_)
  show own_G p.tables e below _ _ (T3.setTop (mkF m 41 #[.val (.long q0), .second, .val (.long q1), .second, .val (.long q2), .second, .val (.long q3), .second, .val (.int p4), .val (.long (q0 &&& (9223372036854775807 : Int64))), .second, .val (.long (q1 &&& (9223372036854775807 : Int64))), .second, .val (.long (q2 &&& (9223372036854775807 : Int64))), .second, .val (.long (q3 &&& (9223372036854775807 : Int64))), .second, .val (.ref b1), .unset, .unset, .unset, .unset, .unset, .unset] [(.int p4)]))
  refine own_st ?_ (fun t_ k_ => XS.iconst X3.here hx rfl (hb hby at_41) k_)
  show own_G p.tables e below _ _ (T3.setTop (mkF m 42 #[.val (.long q0), .second, .val (.long q1), .second, .val (.long q2), .second, .val (.long q3), .second, .val (.int p4), .val (.long (q0 &&& (9223372036854775807 : Int64))), .second, .val (.long (q1 &&& (9223372036854775807 : Int64))), .second, .val (.long (q2 &&& (9223372036854775807 : Int64))), .second, .val (.long (q3 &&& (9223372036854775807 : Int64))), .second, .val (.ref b1), .unset, .unset, .unset, .unset, .unset, .unset] [(.int (1 : Int32)), (.int p4)]))
  refine own_st ?_ (fun t_ k_ => XS.iand X3.here hx rfl (hb hby at_42) rfl k_)
  show own_G p.tables e below _ _ (T3.setTop (mkF m 43 #[.val (.long q0), .second, .val (.long q1), .second, .val (.long q2), .second, .val (.long q3), .second, .val (.int p4), .val (.long (q0 &&& (9223372036854775807 : Int64))), .second, .val (.long (q1 &&& (9223372036854775807 : Int64))), .second, .val (.long (q2 &&& (9223372036854775807 : Int64))), .second, .val (.long (q3 &&& (9223372036854775807 : Int64))), .second, .val (.ref b1), .unset, .unset, .unset, .unset, .unset, .unset] [(.int (p4 &&& (1 : Int32)))]))
  by_cases hc43 : (p4 &&& (1 : Int32)) = (0 : Int32)
  · refine own_st ?_ (fun t_ k_ => XS.ifYes X3.here hx rfl (pc0 := 43) (pc' := 62) rfl (hb hby at_43) rfl ((if0 _ _).trans (teq hc43).1) (by decide) (by decide) k_)
    show own_G p.tables e below _ _ (T3.setTop (mkF m 62 #[.val (.long q0), .second, .val (.long q1), .second, .val (.long q2), .second, .val (.long q3), .second, .val (.int p4), .val (.long (q0 &&& (9223372036854775807 : Int64))), .second, .val (.long (q1 &&& (9223372036854775807 : Int64))), .second, .val (.long (q2 &&& (9223372036854775807 : Int64))), .second, .val (.long (q3 &&& (9223372036854775807 : Int64))), .second, .val (.ref b1), .unset, .unset, .unset, .unset, .unset, .unset] []))
    refine own_st ?_ (fun t_ k_ => XS.iload X3.here hx rfl (hb hby at_62) rfl k_)
    show own_G p.tables e below _ _ (T3.setTop (mkF m 64 #[.val (.long q0), .second, .val (.long q1), .second, .val (.long q2), .second, .val (.long q3), .second, .val (.int p4), .val (.long (q0 &&& (9223372036854775807 : Int64))), .second, .val (.long (q1 &&& (9223372036854775807 : Int64))), .second, .val (.long (q2 &&& (9223372036854775807 : Int64))), .second, .val (.long (q3 &&& (9223372036854775807 : Int64))), .second, .val (.ref b1), .unset, .unset, .unset, .unset, .unset, .unset] [(.int p4)]))
    refine own_st ?_ (fun t_ k_ => XS.iconst X3.here hx rfl (hb hby at_64) k_)
    show own_G p.tables e below _ _ (T3.setTop (mkF m 65 #[.val (.long q0), .second, .val (.long q1), .second, .val (.long q2), .second, .val (.long q3), .second, .val (.int p4), .val (.long (q0 &&& (9223372036854775807 : Int64))), .second, .val (.long (q1 &&& (9223372036854775807 : Int64))), .second, .val (.long (q2 &&& (9223372036854775807 : Int64))), .second, .val (.long (q3 &&& (9223372036854775807 : Int64))), .second, .val (.ref b1), .unset, .unset, .unset, .unset, .unset, .unset] [(.int (2 : Int32)), (.int p4)]))
    refine own_st ?_ (fun t_ k_ => XS.iand X3.here hx rfl (hb hby at_65) rfl k_)
    show own_G p.tables e below _ _ (T3.setTop (mkF m 66 #[.val (.long q0), .second, .val (.long q1), .second, .val (.long q2), .second, .val (.long q3), .second, .val (.int p4), .val (.long (q0 &&& (9223372036854775807 : Int64))), .second, .val (.long (q1 &&& (9223372036854775807 : Int64))), .second, .val (.long (q2 &&& (9223372036854775807 : Int64))), .second, .val (.long (q3 &&& (9223372036854775807 : Int64))), .second, .val (.ref b1), .unset, .unset, .unset, .unset, .unset, .unset] [(.int (p4 &&& (2 : Int32)))]))
    by_cases hc66 : (p4 &&& (2 : Int32)) = (0 : Int32)
    · refine own_st ?_ (fun t_ k_ => XS.ifYes X3.here hx rfl (pc0 := 66) (pc' := 75) rfl (hb hby at_66) rfl ((if0 _ _).trans (teq hc66).1) (by decide) (by decide) k_)
      show own_G p.tables e below _ _ (T3.setTop (mkF m 75 #[.val (.long q0), .second, .val (.long q1), .second, .val (.long q2), .second, .val (.long q3), .second, .val (.int p4), .val (.long (q0 &&& (9223372036854775807 : Int64))), .second, .val (.long (q1 &&& (9223372036854775807 : Int64))), .second, .val (.long (q2 &&& (9223372036854775807 : Int64))), .second, .val (.long (q3 &&& (9223372036854775807 : Int64))), .second, .val (.ref b1), .unset, .unset, .unset, .unset, .unset, .unset] []))
      refine own_st ?_ (fun t_ k_ => XS.aload X3.here hx rfl (hb hby at_75) rfl rfl k_)
      show own_G p.tables e below _ _ (T3.setTop (mkF m 77 #[.val (.long q0), .second, .val (.long q1), .second, .val (.long q2), .second, .val (.long q3), .second, .val (.int p4), .val (.long (q0 &&& (9223372036854775807 : Int64))), .second, .val (.long (q1 &&& (9223372036854775807 : Int64))), .second, .val (.long (q2 &&& (9223372036854775807 : Int64))), .second, .val (.long (q3 &&& (9223372036854775807 : Int64))), .second, .val (.ref b1), .unset, .unset, .unset, .unset, .unset, .unset] [(.ref b1)]))
      obtain ⟨cq6, kq6, q6a, q6b, q6c⟩ := isOf hZ rfl F4_E
      obtain ⟨_, _, ⟨T6, L6, k6, n6⟩, -, X6, ⟨Lc6, hQ6, l6, y6, z6⟩, st6⟩ := X3.virtualBack hx (y := (⟨"com/example/termwright/termwright/Spool$Record", "clear", "()Lcom/example/termwright/termwright/Spool$Record;"⟩ : MethodName)) (z := (⟨"com/example/termwright/termwright/Spool$Record", "clear", "()Lcom/example/termwright/termwright/Spool$Record;"⟩ : MethodName)) hown (mvT hZ (hw _ (List.mem_of_getElem? (i := 33) rfl))) (mvT hZ (hw _ (List.mem_of_getElem? (i := 34) rfl))) (notFace_of_selects (args := #[]) (mvT hZ (hw _ (List.mem_of_getElem? (i := 36) rfl)))) (mvT hZ (hw _ (List.mem_of_getElem? (i := 36) rfl))) (mvT hZ (hw _ (List.mem_of_getElem? (i := 35) rfl))) (by decide) (backOf (W := 0) (rm6 l Z _ hw [] b1 t3 (0) (0) (fun _ => 0) T3.heap n0 Zs5 g_b1 F4_E Fb3 Fl3 Fp3 M3 hne3) hZ (hw _ (List.mem_of_getElem? (i := 37) rfl)) (hw _ (List.mem_of_getElem? (i := 3) rfl)) (by decide) (by decide)) q6a q6c (g := (mkF m 77 #[.val (.long q0), .second, .val (.long q1), .second, .val (.long q2), .second, .val (.long q3), .second, .val (.int p4), .val (.long (q0 &&& (9223372036854775807 : Int64))), .second, .val (.long (q1 &&& (9223372036854775807 : Int64))), .second, .val (.long (q2 &&& (9223372036854775807 : Int64))), .second, .val (.long (q3 &&& (9223372036854775807 : Int64))), .second, .val (.ref b1), .unset, .unset, .unset, .unset, .unset, .unset] [(.ref b1)])) rfl (by rw [hml]; rfl) (Steps.refl _) (argsL := []) (rest := []) (lenOf pd_2 rfl) rfl (by show 2 * 0 + _ ≤ _; exact Nat.le_of_eq rfl) (hb hby at_77) (fun _ _ => ⟨rfl, rfl, (by decide : 2 + 0 ≤ _), (by decide : 259 + 0 ≤ _)⟩)
      dsimp only [Pt.U, Pt.locs, Pt.cells, Pt.slots] at X6 l6 y6 z6 st6 hQ6
      subst l6 y6 z6
      obtain ⟨rfl, N6q, hq6⟩ := hQ6
      have N6 := Fr.app N3 N6q
      obtain ⟨K6, Fb6, Fl6, Fp6, M6⟩ := hq6
      have F7_E : Exa Z T6.heap b1 "com/example/termwright/termwright/Spool$Record" := F4_E.keep K6
      have F8_P : own_M Z T6.heap t3 (fun _ => 0) := own_M_keep M3 K6 (ninS (Ne.symm hne3) nin0)
      have Zs9 : n0 ≤ T6.heap.size := Nat.le_trans Zs5 K6.1
      refine own_st ?_ (fun t_ k_ => st6.trans k_)
      show own_G p.tables e below _ _ (T6.setTop (mkF m 80 #[.val (.long q0), .second, .val (.long q1), .second, .val (.long q2), .second, .val (.long q3), .second, .val (.int p4), .val (.long (q0 &&& (9223372036854775807 : Int64))), .second, .val (.long (q1 &&& (9223372036854775807 : Int64))), .second, .val (.long (q2 &&& (9223372036854775807 : Int64))), .second, .val (.long (q3 &&& (9223372036854775807 : Int64))), .second, .val (.ref b1), .unset, .unset, .unset, .unset, .unset, .unset] [(.ref b1)]))
      refine own_st ?_ (fun t_ k_ => XS.astore X6.here hx rfl (hb hby at_80) rfl rfl (l' := #[.val (.long q0), .second, .val (.long q1), .second, .val (.long q2), .second, .val (.long q3), .second, .val (.int p4), .val (.long (q0 &&& (9223372036854775807 : Int64))), .second, .val (.long (q1 &&& (9223372036854775807 : Int64))), .second, .val (.long (q2 &&& (9223372036854775807 : Int64))), .second, .val (.long (q3 &&& (9223372036854775807 : Int64))), .second, .val (.ref b1), .val (.ref b1), .unset, .unset, .unset, .unset, .unset]) rfl k_)
      show own_G p.tables e below _ _ (T6.setTop (mkF m 82 #[.val (.long q0), .second, .val (.long q1), .second, .val (.long q2), .second, .val (.long q3), .second, .val (.int p4), .val (.long (q0 &&& (9223372036854775807 : Int64))), .second, .val (.long (q1 &&& (9223372036854775807 : Int64))), .second, .val (.long (q2 &&& (9223372036854775807 : Int64))), .second, .val (.long (q3 &&& (9223372036854775807 : Int64))), .second, .val (.ref b1), .val (.ref b1), .unset, .unset, .unset, .unset, .unset] []))
      refine own_st ?_ (fun t_ k_ => XS.aload X6.here hx rfl (hb hby at_82) rfl rfl k_)
      show own_G p.tables e below _ _ (T6.setTop (mkF m 84 #[.val (.long q0), .second, .val (.long q1), .second, .val (.long q2), .second, .val (.long q3), .second, .val (.int p4), .val (.long (q0 &&& (9223372036854775807 : Int64))), .second, .val (.long (q1 &&& (9223372036854775807 : Int64))), .second, .val (.long (q2 &&& (9223372036854775807 : Int64))), .second, .val (.long (q3 &&& (9223372036854775807 : Int64))), .second, .val (.ref b1), .val (.ref b1), .unset, .unset, .unset, .unset, .unset] [(.ref b1)]))
      refine own_st ?_ (fun t_ k_ => XS.aload X6.here hx rfl (hb hby at_84) rfl rfl k_)
      show own_G p.tables e below _ _ (T6.setTop (mkF m 86 #[.val (.long q0), .second, .val (.long q1), .second, .val (.long q2), .second, .val (.long q3), .second, .val (.int p4), .val (.long (q0 &&& (9223372036854775807 : Int64))), .second, .val (.long (q1 &&& (9223372036854775807 : Int64))), .second, .val (.long (q2 &&& (9223372036854775807 : Int64))), .second, .val (.long (q3 &&& (9223372036854775807 : Int64))), .second, .val (.ref b1), .val (.ref b1), .unset, .unset, .unset, .unset, .unset] [(.ref b1), (.ref b1)]))
      refine own_st ?_ (fun t_ k_ => Jvm.RoadKit.acmp (g := (mkF m 86 #[.val (.long q0), .second, .val (.long q1), .second, .val (.long q2), .second, .val (.long q3), .second, .val (.int p4), .val (.long (q0 &&& (9223372036854775807 : Int64))), .second, .val (.long (q1 &&& (9223372036854775807 : Int64))), .second, .val (.long (q2 &&& (9223372036854775807 : Int64))), .second, .val (.long (q3 &&& (9223372036854775807 : Int64))), .second, .val (.ref b1), .val (.ref b1), .unset, .unset, .unset, .unset, .unset] [(.ref b1), (.ref b1)])) X6 hx rfl rfl rfl (pc0 := 86) (pc' := 89) (same := true) rfl (hb hby at_86) rfl (decide_eq_true rfl) (by decide) (by decide) k_)
      show own_G p.tables e below _ _ (T6.setTop (mkF m 89 #[.val (.long q0), .second, .val (.long q1), .second, .val (.long q2), .second, .val (.long q3), .second, .val (.int p4), .val (.long (q0 &&& (9223372036854775807 : Int64))), .second, .val (.long (q1 &&& (9223372036854775807 : Int64))), .second, .val (.long (q2 &&& (9223372036854775807 : Int64))), .second, .val (.long (q3 &&& (9223372036854775807 : Int64))), .second, .val (.ref b1), .val (.ref b1), .unset, .unset, .unset, .unset, .unset] []))
      refine own_st ?_ (fun t_ k_ => XS.iconst X6.here hx rfl (hb hby at_89) k_)
      show own_G p.tables e below _ _ (T6.setTop (mkF m 90 #[.val (.long q0), .second, .val (.long q1), .second, .val (.long q2), .second, .val (.long q3), .second, .val (.int p4), .val (.long (q0 &&& (9223372036854775807 : Int64))), .second, .val (.long (q1 &&& (9223372036854775807 : Int64))), .second, .val (.long (q2 &&& (9223372036854775807 : Int64))), .second, .val (.long (q3 &&& (9223372036854775807 : Int64))), .second, .val (.ref b1), .val (.ref b1), .unset, .unset, .unset, .unset, .unset] [(.int (1 : Int32))]))
      refine own_st ?_ (fun t_ k_ => XS.goto X6.here hx rfl (pc0 := 90) (pc' := 94) rfl (hb hby at_90) (by decide) (by decide) k_)
      show own_G p.tables e below _ _ (T6.setTop (mkF m 94 #[.val (.long q0), .second, .val (.long q1), .second, .val (.long q2), .second, .val (.long q3), .second, .val (.int p4), .val (.long (q0 &&& (9223372036854775807 : Int64))), .second, .val (.long (q1 &&& (9223372036854775807 : Int64))), .second, .val (.long (q2 &&& (9223372036854775807 : Int64))), .second, .val (.long (q3 &&& (9223372036854775807 : Int64))), .second, .val (.ref b1), .val (.ref b1), .unset, .unset, .unset, .unset, .unset] [(.int (1 : Int32))]))
      refine own_st ?_ (fun t_ k_ => XS.istore X6.here hx rfl (hb hby at_94) rfl (l' := #[.val (.long q0), .second, .val (.long q1), .second, .val (.long q2), .second, .val (.long q3), .second, .val (.int p4), .val (.long (q0 &&& (9223372036854775807 : Int64))), .second, .val (.long (q1 &&& (9223372036854775807 : Int64))), .second, .val (.long (q2 &&& (9223372036854775807 : Int64))), .second, .val (.long (q3 &&& (9223372036854775807 : Int64))), .second, .val (.ref b1), .val (.ref b1), .val (.int (1 : Int32)), .unset, .unset, .unset, .unset]) rfl k_)
      show own_G p.tables e below _ _ (T6.setTop (mkF m 96 #[.val (.long q0), .second, .val (.long q1), .second, .val (.long q2), .second, .val (.long q3), .second, .val (.int p4), .val (.long (q0 &&& (9223372036854775807 : Int64))), .second, .val (.long (q1 &&& (9223372036854775807 : Int64))), .second, .val (.long (q2 &&& (9223372036854775807 : Int64))), .second, .val (.long (q3 &&& (9223372036854775807 : Int64))), .second, .val (.ref b1), .val (.ref b1), .val (.int (1 : Int32)), .unset, .unset, .unset, .unset] []))
      refine own_st ?_ (fun t_ k_ => XS.aload X6.here hx rfl (hb hby at_96) rfl rfl k_)
      show own_G p.tables e below _ _ (T6.setTop (mkF m 98 #[.val (.long q0), .second, .val (.long q1), .second, .val (.long q2), .second, .val (.long q3), .second, .val (.int p4), .val (.long (q0 &&& (9223372036854775807 : Int64))), .second, .val (.long (q1 &&& (9223372036854775807 : Int64))), .second, .val (.long (q2 &&& (9223372036854775807 : Int64))), .second, .val (.long (q3 &&& (9223372036854775807 : Int64))), .second, .val (.ref b1), .val (.ref b1), .val (.int (1 : Int32)), .unset, .unset, .unset, .unset] [(.ref b1)]))
      refine own_st ?_ (fun t_ k_ => XS.lload X6.here hx rfl (hb hby at_98) rfl k_)
      show own_G p.tables e below _ _ (T6.setTop (mkF m 100 #[.val (.long q0), .second, .val (.long q1), .second, .val (.long q2), .second, .val (.long q3), .second, .val (.int p4), .val (.long (q0 &&& (9223372036854775807 : Int64))), .second, .val (.long (q1 &&& (9223372036854775807 : Int64))), .second, .val (.long (q2 &&& (9223372036854775807 : Int64))), .second, .val (.long (q3 &&& (9223372036854775807 : Int64))), .second, .val (.ref b1), .val (.ref b1), .val (.int (1 : Int32)), .unset, .unset, .unset, .unset] [(.long (q2 &&& (9223372036854775807 : Int64))), (.ref b1)]))
      obtain ⟨cq10, kq10, q10a, q10b, q10c⟩ := isOf hZ rfl F7_E
      obtain ⟨_, _, ⟨T10, L10, k10, n10⟩, -, X10, ⟨Lc10, hQ10, l10, y10, z10⟩, st10⟩ := X6.virtualBack hx (y := (⟨"com/example/termwright/termwright/Spool$Record", "putNumber", "(J)Lcom/example/termwright/termwright/Spool$Record;"⟩ : MethodName)) (z := (⟨"com/example/termwright/termwright/Spool$Record", "putNumber", "(J)Lcom/example/termwright/termwright/Spool$Record;"⟩ : MethodName)) hown (mvT hZ (hw _ (List.mem_of_getElem? (i := 13) rfl))) (mvT hZ (hw _ (List.mem_of_getElem? (i := 14) rfl))) (notFace_of_selects (args := #[]) (mvT hZ (hw _ (List.mem_of_getElem? (i := 16) rfl)))) (mvT hZ (hw _ (List.mem_of_getElem? (i := 16) rfl))) (mvT hZ (hw _ (List.mem_of_getElem? (i := 15) rfl))) (by decide) (backOf (W := 0) (rm3 l Z _ hw [] b1 (q2 &&& (9223372036854775807 : Int64)) t3 (0) (0) (fun _ => 0) nC T6.heap n0 Zs9 g_b1 g_t3 F7_E Fb6 Fl6 Fp6 M6 hne3 hC hC63 (by decide)) hZ (hw _ (List.mem_of_getElem? (i := 17) rfl)) (hw _ (List.mem_of_getElem? (i := 3) rfl)) (by decide) (by decide)) q10a q10c (g := (mkF m 100 #[.val (.long q0), .second, .val (.long q1), .second, .val (.long q2), .second, .val (.long q3), .second, .val (.int p4), .val (.long (q0 &&& (9223372036854775807 : Int64))), .second, .val (.long (q1 &&& (9223372036854775807 : Int64))), .second, .val (.long (q2 &&& (9223372036854775807 : Int64))), .second, .val (.long (q3 &&& (9223372036854775807 : Int64))), .second, .val (.ref b1), .val (.ref b1), .val (.int (1 : Int32)), .unset, .unset, .unset, .unset] [(.long (q2 &&& (9223372036854775807 : Int64))), (.ref b1)])) rfl (by rw [hml]; rfl) (Steps.refl _) (argsL := [(.long (q2 &&& (9223372036854775807 : Int64)))]) (rest := []) (lenOf pd_3 rfl) rfl (by show 2 * 0 + _ ≤ _; exact Nat.le_of_eq rfl) (hb hby at_100) (fun _ _ => ⟨rfl, rfl, (by decide : 2 + 0 ≤ _), (by decide : 259 + 0 ≤ _)⟩)
      dsimp only [Pt.U, Pt.locs, Pt.cells, Pt.slots] at X10 l10 y10 z10 st10 hQ10
      subst l10 y10 z10
      obtain ⟨rfl, N10q, hq10⟩ := hQ10
      have N10 := Fr.app N6 N10q
      obtain ⟨K10, Fb10, Fl10, Fp10, M10⟩ := hq10
      have F11_E : Exa Z T10.heap b1 "com/example/termwright/termwright/Spool$Record" := F7_E.keep K10
      have Zs12 : n0 ≤ T10.heap.size := Nat.le_trans Zs9 K10.1
      refine own_st ?_ (fun t_ k_ => st10.trans k_)
      show own_G p.tables e below _ _ (T10.setTop (mkF m 103 #[.val (.long q0), .second, .val (.long q1), .second, .val (.long q2), .second, .val (.long q3), .second, .val (.int p4), .val (.long (q0 &&& (9223372036854775807 : Int64))), .second, .val (.long (q1 &&& (9223372036854775807 : Int64))), .second, .val (.long (q2 &&& (9223372036854775807 : Int64))), .second, .val (.long (q3 &&& (9223372036854775807 : Int64))), .second, .val (.ref b1), .val (.ref b1), .val (.int (1 : Int32)), .unset, .unset, .unset, .unset] [(.ref b1)]))
      refine own_st ?_ (fun t_ k_ => XS.pop X10.here hx rfl (hb hby at_103) rfl rfl k_)
      show own_G p.tables e below _ _ (T10.setTop (mkF m 104 #[.val (.long q0), .second, .val (.long q1), .second, .val (.long q2), .second, .val (.long q3), .second, .val (.int p4), .val (.long (q0 &&& (9223372036854775807 : Int64))), .second, .val (.long (q1 &&& (9223372036854775807 : Int64))), .second, .val (.long (q2 &&& (9223372036854775807 : Int64))), .second, .val (.long (q3 &&& (9223372036854775807 : Int64))), .second, .val (.ref b1), .val (.ref b1), .val (.int (1 : Int32)), .unset, .unset, .unset, .unset] []))
      refine own_st ?_ (fun t_ k_ => XS.aload X10.here hx rfl (hb hby at_104) rfl rfl k_)
      show own_G p.tables e below _ _ (T10.setTop (mkF m 106 #[.val (.long q0), .second, .val (.long q1), .second, .val (.long q2), .second, .val (.long q3), .second, .val (.int p4), .val (.long (q0 &&& (9223372036854775807 : Int64))), .second, .val (.long (q1 &&& (9223372036854775807 : Int64))), .second, .val (.long (q2 &&& (9223372036854775807 : Int64))), .second, .val (.long (q3 &&& (9223372036854775807 : Int64))), .second, .val (.ref b1), .val (.ref b1), .val (.int (1 : Int32)), .unset, .unset, .unset, .unset] [(.ref b1)]))
      refine own_st ?_ (fun t_ k_ => XS.lload X10.here hx rfl (hb hby at_106) rfl k_)
      show own_G p.tables e below _ _ (T10.setTop (mkF m 108 #[.val (.long q0), .second, .val (.long q1), .second, .val (.long q2), .second, .val (.long q3), .second, .val (.int p4), .val (.long (q0 &&& (9223372036854775807 : Int64))), .second, .val (.long (q1 &&& (9223372036854775807 : Int64))), .second, .val (.long (q2 &&& (9223372036854775807 : Int64))), .second, .val (.long (q3 &&& (9223372036854775807 : Int64))), .second, .val (.ref b1), .val (.ref b1), .val (.int (1 : Int32)), .unset, .unset, .unset, .unset] [(.long (q3 &&& (9223372036854775807 : Int64))), (.ref b1)]))
      obtain ⟨cq13, kq13, q13a, q13b, q13c⟩ := isOf hZ rfl F11_E
      obtain ⟨_, _, ⟨T13, L13, k13, n13⟩, -, X13, ⟨Lc13, hQ13, l13, y13, z13⟩, st13⟩ := X10.virtualBack hx (y := (⟨"com/example/termwright/termwright/Spool$Record", "putNumber", "(J)Lcom/example/termwright/termwright/Spool$Record;"⟩ : MethodName)) (z := (⟨"com/example/termwright/termwright/Spool$Record", "putNumber", "(J)Lcom/example/termwright/termwright/Spool$Record;"⟩ : MethodName)) hown (mvT hZ (hw _ (List.mem_of_getElem? (i := 13) rfl))) (mvT hZ (hw _ (List.mem_of_getElem? (i := 14) rfl))) (notFace_of_selects (args := #[]) (mvT hZ (hw _ (List.mem_of_getElem? (i := 16) rfl)))) (mvT hZ (hw _ (List.mem_of_getElem? (i := 16) rfl))) (mvT hZ (hw _ (List.mem_of_getElem? (i := 15) rfl))) (by decide) (backOf (W := 0) (rm3 l Z _ hw [] b1 (q3 &&& (9223372036854775807 : Int64)) t3 (0 + own_len nC) (0) (own_put (fun _ => 0) (0) nC) nD T10.heap n0 Zs12 g_b1 g_t3 F11_E Fb10 Fl10 Fp10 M10 hne3 hD hD63 (by have := own_len9 hC63; omega)) hZ (hw _ (List.mem_of_getElem? (i := 17) rfl)) (hw _ (List.mem_of_getElem? (i := 3) rfl)) (by decide) (by decide)) q13a q13c (g := (mkF m 108 #[.val (.long q0), .second, .val (.long q1), .second, .val (.long q2), .second, .val (.long q3), .second, .val (.int p4), .val (.long (q0 &&& (9223372036854775807 : Int64))), .second, .val (.long (q1 &&& (9223372036854775807 : Int64))), .second, .val (.long (q2 &&& (9223372036854775807 : Int64))), .second, .val (.long (q3 &&& (9223372036854775807 : Int64))), .second, .val (.ref b1), .val (.ref b1), .val (.int (1 : Int32)), .unset, .unset, .unset, .unset] [(.long (q3 &&& (9223372036854775807 : Int64))), (.ref b1)])) rfl (by rw [hml]; rfl) (Steps.refl _) (argsL := [(.long (q3 &&& (9223372036854775807 : Int64)))]) (rest := []) (lenOf pd_3 rfl) rfl (by show 2 * 0 + _ ≤ _; exact Nat.le_of_eq rfl) (hb hby at_108) (fun _ _ => ⟨rfl, rfl, (by decide : 2 + 0 ≤ _), (by decide : 259 + 0 ≤ _)⟩)
      dsimp only [Pt.U, Pt.locs, Pt.cells, Pt.slots] at X13 l13 y13 z13 st13 hQ13
      subst l13 y13 z13
      obtain ⟨rfl, N13q, hq13⟩ := hQ13
      have N13 := Fr.app N10 N13q
      obtain ⟨K13, Fb13, Fl13, Fp13, M13⟩ := hq13
      have F14_E : Exa Z T13.heap b1 "com/example/termwright/termwright/Spool$Record" := F11_E.keep K13
      have Zs15 : n0 ≤ T13.heap.size := Nat.le_trans Zs12 K13.1
      refine own_st ?_ (fun t_ k_ => st13.trans k_)
      show own_G p.tables e below _ _ (T13.setTop (mkF m 111 #[.val (.long q0), .second, .val (.long q1), .second, .val (.long q2), .second, .val (.long q3), .second, .val (.int p4), .val (.long (q0 &&& (9223372036854775807 : Int64))), .second, .val (.long (q1 &&& (9223372036854775807 : Int64))), .second, .val (.long (q2 &&& (9223372036854775807 : Int64))), .second, .val (.long (q3 &&& (9223372036854775807 : Int64))), .second, .val (.ref b1), .val (.ref b1), .val (.int (1 : Int32)), .unset, .unset, .unset, .unset] [(.ref b1)]))
      refine own_st ?_ (fun t_ k_ => XS.pop X13.here hx rfl (hb hby at_111) rfl rfl k_)
      show own_G p.tables e below _ _ (T13.setTop (mkF m 112 #[.val (.long q0), .second, .val (.long q1), .second, .val (.long q2), .second, .val (.long q3), .second, .val (.int p4), .val (.long (q0 &&& (9223372036854775807 : Int64))), .second, .val (.long (q1 &&& (9223372036854775807 : Int64))), .second, .val (.long (q2 &&& (9223372036854775807 : Int64))), .second, .val (.long (q3 &&& (9223372036854775807 : Int64))), .second, .val (.ref b1), .val (.ref b1), .val (.int (1 : Int32)), .unset, .unset, .unset, .unset] []))
      refine own_st ?_ (fun t_ k_ => XS.aload X13.here hx rfl (hb hby at_112) rfl rfl k_)
      show own_G p.tables e below _ _ (T13.setTop (mkF m 114 #[.val (.long q0), .second, .val (.long q1), .second, .val (.long q2), .second, .val (.long q3), .second, .val (.int p4), .val (.long (q0 &&& (9223372036854775807 : Int64))), .second, .val (.long (q1 &&& (9223372036854775807 : Int64))), .second, .val (.long (q2 &&& (9223372036854775807 : Int64))), .second, .val (.long (q3 &&& (9223372036854775807 : Int64))), .second, .val (.ref b1), .val (.ref b1), .val (.int (1 : Int32)), .unset, .unset, .unset, .unset] [(.ref b1)]))
      obtain ⟨cq16, kq16, q16a, q16b, q16c⟩ := isOf hZ rfl F14_E
      obtain ⟨_, _, ⟨T16, L16, k16, n16⟩, -, X16, ⟨Lc16, hQ16, l16, y16, z16⟩, st16⟩ := X13.virtualBack hx (y := (⟨"com/example/termwright/termwright/Spool$Record", "number", "()J"⟩ : MethodName)) (z := (⟨"com/example/termwright/termwright/Spool$Record", "number", "()J"⟩ : MethodName)) hown (mvT hZ (hw _ (List.mem_of_getElem? (i := 26) rfl))) (mvT hZ (hw _ (List.mem_of_getElem? (i := 27) rfl))) (notFace_of_selects (args := #[]) (mvT hZ (hw _ (List.mem_of_getElem? (i := 29) rfl)))) (mvT hZ (hw _ (List.mem_of_getElem? (i := 29) rfl))) (mvT hZ (hw _ (List.mem_of_getElem? (i := 28) rfl))) (by decide) (backOf (W := 0) (rm5 l Z _ hw [] b1 t3 (0 + own_len nC + own_len nD) (0) (own_put (own_put (fun _ => 0) (0) nC) (0 + own_len nC) nD) nC (q2 &&& (9223372036854775807 : Int64)) T13.heap n0 Zs15 g_b1 g_t3 F14_E Fb13 Fl13 Fp13 M13 hne3 hC hC63 (by have := own_len9 hC63; omega) (own_two _ 0 nC nD)) hZ (hw _ (List.mem_of_getElem? (i := 30) rfl)) (hw _ (List.mem_of_getElem? (i := 3) rfl)) (by decide) (by decide)) q16a q16c (g := (mkF m 114 #[.val (.long q0), .second, .val (.long q1), .second, .val (.long q2), .second, .val (.long q3), .second, .val (.int p4), .val (.long (q0 &&& (9223372036854775807 : Int64))), .second, .val (.long (q1 &&& (9223372036854775807 : Int64))), .second, .val (.long (q2 &&& (9223372036854775807 : Int64))), .second, .val (.long (q3 &&& (9223372036854775807 : Int64))), .second, .val (.ref b1), .val (.ref b1), .val (.int (1 : Int32)), .unset, .unset, .unset, .unset] [(.ref b1)])) rfl (by rw [hml]; rfl) (Steps.refl _) (argsL := []) (rest := []) (lenOf pd_4 rfl) rfl (by show 2 * 0 + _ ≤ _; exact Nat.le_of_eq rfl) (hb hby at_114) (fun _ _ => ⟨rfl, rfl, (by decide : 2 + 0 ≤ _), (by decide : 259 + 0 ≤ _)⟩)
      dsimp only [Pt.U, Pt.locs, Pt.cells, Pt.slots] at X16 l16 y16 z16 st16 hQ16
      subst l16 y16 z16
      obtain ⟨rfl, N16q, hq16⟩ := hQ16
      have N16 := Fr.app N13 N16q
      obtain ⟨K16, Fb16, Fl16, Fp16, M16⟩ := hq16
      have F17_E : Exa Z T16.heap b1 "com/example/termwright/termwright/Spool$Record" := F14_E.keep K16
      have F18_P : own_M Z T16.heap t3 (own_put (own_put (fun _ => 0) (0) nC) (0 + own_len nC) nD) := own_M_keep M13 K16 (ninS (Ne.symm hne3) nin0)
      have Zs19 : n0 ≤ T16.heap.size := Nat.le_trans Zs15 K16.1
      refine own_st ?_ (fun t_ k_ => st16.trans k_)
      show own_G p.tables e below _ _ (T16.setTop (mkF m 117 #[.val (.long q0), .second, .val (.long q1), .second, .val (.long q2), .second, .val (.long q3), .second, .val (.int p4), .val (.long (q0 &&& (9223372036854775807 : Int64))), .second, .val (.long (q1 &&& (9223372036854775807 : Int64))), .second, .val (.long (q2 &&& (9223372036854775807 : Int64))), .second, .val (.long (q3 &&& (9223372036854775807 : Int64))), .second, .val (.ref b1), .val (.ref b1), .val (.int (1 : Int32)), .unset, .unset, .unset, .unset] [(.long (q2 &&& (9223372036854775807 : Int64)))]))
      refine own_st ?_ (fun t_ k_ => XS.lstore X16.here hx rfl (hb hby at_117) rfl (l' := #[.val (.long q0), .second, .val (.long q1), .second, .val (.long q2), .second, .val (.long q3), .second, .val (.int p4), .val (.long (q0 &&& (9223372036854775807 : Int64))), .second, .val (.long (q1 &&& (9223372036854775807 : Int64))), .second, .val (.long (q2 &&& (9223372036854775807 : Int64))), .second, .val (.long (q3 &&& (9223372036854775807 : Int64))), .second, .val (.ref b1), .val (.ref b1), .val (.int (1 : Int32)), .val (.long (q2 &&& (9223372036854775807 : Int64))), .second, .unset, .unset]) rfl k_)
      show own_G p.tables e below _ _ (T16.setTop (mkF m 119 #[.val (.long q0), .second, .val (.long q1), .second, .val (.long q2), .second, .val (.long q3), .second, .val (.int p4), .val (.long (q0 &&& (9223372036854775807 : Int64))), .second, .val (.long (q1 &&& (9223372036854775807 : Int64))), .second, .val (.long (q2 &&& (9223372036854775807 : Int64))), .second, .val (.long (q3 &&& (9223372036854775807 : Int64))), .second, .val (.ref b1), .val (.ref b1), .val (.int (1 : Int32)), .val (.long (q2 &&& (9223372036854775807 : Int64))), .second, .unset, .unset] []))
      refine own_st ?_ (fun t_ k_ => XS.aload X16.here hx rfl (hb hby at_119) rfl rfl k_)
      show own_G p.tables e below _ _ (T16.setTop (mkF m 121 #[.val (.long q0), .second, .val (.long q1), .second, .val (.long q2), .second, .val (.long q3), .second, .val (.int p4), .val (.long (q0 &&& (9223372036854775807 : Int64))), .second, .val (.long (q1 &&& (9223372036854775807 : Int64))), .second, .val (.long (q2 &&& (9223372036854775807 : Int64))), .second, .val (.long (q3 &&& (9223372036854775807 : Int64))), .second, .val (.ref b1), .val (.ref b1), .val (.int (1 : Int32)), .val (.long (q2 &&& (9223372036854775807 : Int64))), .second, .unset, .unset] [(.ref b1)]))
      obtain ⟨cq20, kq20, q20a, q20b, q20c⟩ := isOf hZ rfl F17_E
      obtain ⟨_, _, ⟨T20, L20, k20, n20⟩, -, X20, ⟨Lc20, hQ20, l20, y20, z20⟩, st20⟩ := X16.virtualBack hx (y := (⟨"com/example/termwright/termwright/Spool$Record", "number", "()J"⟩ : MethodName)) (z := (⟨"com/example/termwright/termwright/Spool$Record", "number", "()J"⟩ : MethodName)) hown (mvT hZ (hw _ (List.mem_of_getElem? (i := 26) rfl))) (mvT hZ (hw _ (List.mem_of_getElem? (i := 27) rfl))) (notFace_of_selects (args := #[]) (mvT hZ (hw _ (List.mem_of_getElem? (i := 29) rfl)))) (mvT hZ (hw _ (List.mem_of_getElem? (i := 29) rfl))) (mvT hZ (hw _ (List.mem_of_getElem? (i := 28) rfl))) (by decide) (backOf (W := 0) (rm5 l Z _ hw [] b1 t3 (0 + own_len nC + own_len nD) (0 + own_len nC) (own_put (own_put (fun _ => 0) (0) nC) (0 + own_len nC) nD) nD (q3 &&& (9223372036854775807 : Int64)) T16.heap n0 Zs19 g_b1 g_t3 F17_E Fb16 Fl16 Fp16 M16 hne3 hD hD63 (by have := own_len9 hC63; have := own_len9 hD63; omega) (own_at_put nD _ _)) hZ (hw _ (List.mem_of_getElem? (i := 30) rfl)) (hw _ (List.mem_of_getElem? (i := 3) rfl)) (by decide) (by decide)) q20a q20c (g := (mkF m 121 #[.val (.long q0), .second, .val (.long q1), .second, .val (.long q2), .second, .val (.long q3), .second, .val (.int p4), .val (.long (q0 &&& (9223372036854775807 : Int64))), .second, .val (.long (q1 &&& (9223372036854775807 : Int64))), .second, .val (.long (q2 &&& (9223372036854775807 : Int64))), .second, .val (.long (q3 &&& (9223372036854775807 : Int64))), .second, .val (.ref b1), .val (.ref b1), .val (.int (1 : Int32)), .val (.long (q2 &&& (9223372036854775807 : Int64))), .second, .unset, .unset] [(.ref b1)])) rfl (by rw [hml]; rfl) (Steps.refl _) (argsL := []) (rest := []) (lenOf pd_4 rfl) rfl (by show 2 * 0 + _ ≤ _; exact Nat.le_of_eq rfl) (hb hby at_121) (fun _ _ => ⟨rfl, rfl, (by decide : 2 + 0 ≤ _), (by decide : 259 + 0 ≤ _)⟩)
      dsimp only [Pt.U, Pt.locs, Pt.cells, Pt.slots] at X20 l20 y20 z20 st20 hQ20
      subst l20 y20 z20
      obtain ⟨rfl, N20q, hq20⟩ := hQ20
      have N20 := Fr.app N16 N20q
      obtain ⟨K20, Fb20, Fl20, Fp20, M20⟩ := hq20
      have F21_E : Exa Z T20.heap b1 "com/example/termwright/termwright/Spool$Record" := F17_E.keep K20
      have F22_P : own_M Z T20.heap t3 (own_put (own_put (fun _ => 0) (0) nC) (0 + own_len nC) nD) := own_M_keep M16 K20 (ninS (Ne.symm hne3) nin0)
      have Zs23 : n0 ≤ T20.heap.size := Nat.le_trans Zs19 K20.1
      refine own_st ?_ (fun t_ k_ => st20.trans k_)
      show own_G p.tables e below _ _ (T20.setTop (mkF m 124 #[.val (.long q0), .second, .val (.long q1), .second, .val (.long q2), .second, .val (.long q3), .second, .val (.int p4), .val (.long (q0 &&& (9223372036854775807 : Int64))), .second, .val (.long (q1 &&& (9223372036854775807 : Int64))), .second, .val (.long (q2 &&& (9223372036854775807 : Int64))), .second, .val (.long (q3 &&& (9223372036854775807 : Int64))), .second, .val (.ref b1), .val (.ref b1), .val (.int (1 : Int32)), .val (.long (q2 &&& (9223372036854775807 : Int64))), .second, .unset, .unset] [(.long (q3 &&& (9223372036854775807 : Int64)))]))
      refine own_st ?_ (fun t_ k_ => XS.lstore X20.here hx rfl (hb hby at_124) rfl (l' := #[.val (.long q0), .second, .val (.long q1), .second, .val (.long q2), .second, .val (.long q3), .second, .val (.int p4), .val (.long (q0 &&& (9223372036854775807 : Int64))), .second, .val (.long (q1 &&& (9223372036854775807 : Int64))), .second, .val (.long (q2 &&& (9223372036854775807 : Int64))), .second, .val (.long (q3 &&& (9223372036854775807 : Int64))), .second, .val (.ref b1), .val (.ref b1), .val (.int (1 : Int32)), .val (.long (q2 &&& (9223372036854775807 : Int64))), .second, .val (.long (q3 &&& (9223372036854775807 : Int64))), .second]) rfl k_)
      show own_G p.tables e below _ _ (T20.setTop (mkF m 126 #[.val (.long q0), .second, .val (.long q1), .second, .val (.long q2), .second, .val (.long q3), .second, .val (.int p4), .val (.long (q0 &&& (9223372036854775807 : Int64))), .second, .val (.long (q1 &&& (9223372036854775807 : Int64))), .second, .val (.long (q2 &&& (9223372036854775807 : Int64))), .second, .val (.long (q3 &&& (9223372036854775807 : Int64))), .second, .val (.ref b1), .val (.ref b1), .val (.int (1 : Int32)), .val (.long (q2 &&& (9223372036854775807 : Int64))), .second, .val (.long (q3 &&& (9223372036854775807 : Int64))), .second] []))
      refine own_st ?_ (fun t_ k_ => XS.iload X20.here hx rfl (hb hby at_126) rfl k_)
      show own_G p.tables e below _ _ (T20.setTop (mkF m 128 #[.val (.long q0), .second, .val (.long q1), .second, .val (.long q2), .second, .val (.long q3), .second, .val (.int p4), .val (.long (q0 &&& (9223372036854775807 : Int64))), .second, .val (.long (q1 &&& (9223372036854775807 : Int64))), .second, .val (.long (q2 &&& (9223372036854775807 : Int64))), .second, .val (.long (q3 &&& (9223372036854775807 : Int64))), .second, .val (.ref b1), .val (.ref b1), .val (.int (1 : Int32)), .val (.long (q2 &&& (9223372036854775807 : Int64))), .second, .val (.long (q3 &&& (9223372036854775807 : Int64))), .second] [(.int (1 : Int32))]))
      refine own_st ?_ (fun t_ k_ => XS.ifNo X20.here hx rfl (hb hby at_128) rfl ((if0 _ _).trans (feq (by decide : ¬ ((1 : Int32) = (0 : Int32)))).1) k_)
      show own_G p.tables e below _ _ (T20.setTop (mkF m 131 #[.val (.long q0), .second, .val (.long q1), .second, .val (.long q2), .second, .val (.long q3), .second, .val (.int p4), .val (.long (q0 &&& (9223372036854775807 : Int64))), .second, .val (.long (q1 &&& (9223372036854775807 : Int64))), .second, .val (.long (q2 &&& (9223372036854775807 : Int64))), .second, .val (.long (q3 &&& (9223372036854775807 : Int64))), .second, .val (.ref b1), .val (.ref b1), .val (.int (1 : Int32)), .val (.long (q2 &&& (9223372036854775807 : Int64))), .second, .val (.long (q3 &&& (9223372036854775807 : Int64))), .second] []))
      refine own_st ?_ (fun t_ k_ => XS.lload X20.here hx rfl (hb hby at_131) rfl k_)
      show own_G p.tables e below _ _ (T20.setTop (mkF m 133 #[.val (.long q0), .second, .val (.long q1), .second, .val (.long q2), .second, .val (.long q3), .second, .val (.int p4), .val (.long (q0 &&& (9223372036854775807 : Int64))), .second, .val (.long (q1 &&& (9223372036854775807 : Int64))), .second, .val (.long (q2 &&& (9223372036854775807 : Int64))), .second, .val (.long (q3 &&& (9223372036854775807 : Int64))), .second, .val (.ref b1), .val (.ref b1), .val (.int (1 : Int32)), .val (.long (q2 &&& (9223372036854775807 : Int64))), .second, .val (.long (q3 &&& (9223372036854775807 : Int64))), .second] [(.long (q2 &&& (9223372036854775807 : Int64)))]))
      refine own_st ?_ (fun t_ k_ => XS.lload X20.here hx rfl (hb hby at_133) rfl k_)
      show own_G p.tables e below _ _ (T20.setTop (mkF m 135 #[.val (.long q0), .second, .val (.long q1), .second, .val (.long q2), .second, .val (.long q3), .second, .val (.int p4), .val (.long (q0 &&& (9223372036854775807 : Int64))), .second, .val (.long (q1 &&& (9223372036854775807 : Int64))), .second, .val (.long (q2 &&& (9223372036854775807 : Int64))), .second, .val (.long (q3 &&& (9223372036854775807 : Int64))), .second, .val (.ref b1), .val (.ref b1), .val (.int (1 : Int32)), .val (.long (q2 &&& (9223372036854775807 : Int64))), .second, .val (.long (q3 &&& (9223372036854775807 : Int64))), .second] [(.long (q2 &&& (9223372036854775807 : Int64))), (.long (q2 &&& (9223372036854775807 : Int64)))]))
      refine own_st ?_ (fun t_ k_ => XS.lcmp X20.here hx rfl (hb hby at_135) rfl k_)
      show own_G p.tables e below _ _ (T20.setTop (mkF m 136 #[.val (.long q0), .second, .val (.long q1), .second, .val (.long q2), .second, .val (.long q3), .second, .val (.int p4), .val (.long (q0 &&& (9223372036854775807 : Int64))), .second, .val (.long (q1 &&& (9223372036854775807 : Int64))), .second, .val (.long (q2 &&& (9223372036854775807 : Int64))), .second, .val (.long (q3 &&& (9223372036854775807 : Int64))), .second, .val (.ref b1), .val (.ref b1), .val (.int (1 : Int32)), .val (.long (q2 &&& (9223372036854775807 : Int64))), .second, .val (.long (q3 &&& (9223372036854775807 : Int64))), .second] [(.int (lcmpW (q2 &&& (9223372036854775807 : Int64)) (q2 &&& (9223372036854775807 : Int64))))]))
      refine own_st ?_ (fun t_ k_ => XS.ifNo X20.here hx rfl (hb hby at_136) rfl ((if0 _ _).trans (teq ((lw_eq _ _).mpr rfl)).2) k_)
      show own_G p.tables e below _ _ (T20.setTop (mkF m 139 #[.val (.long q0), .second, .val (.long q1), .second, .val (.long q2), .second, .val (.long q3), .second, .val (.int p4), .val (.long (q0 &&& (9223372036854775807 : Int64))), .second, .val (.long (q1 &&& (9223372036854775807 : Int64))), .second, .val (.long (q2 &&& (9223372036854775807 : Int64))), .second, .val (.long (q3 &&& (9223372036854775807 : Int64))), .second, .val (.ref b1), .val (.ref b1), .val (.int (1 : Int32)), .val (.long (q2 &&& (9223372036854775807 : Int64))), .second, .val (.long (q3 &&& (9223372036854775807 : Int64))), .second] []))
      refine own_st ?_ (fun t_ k_ => XS.lload X20.here hx rfl (hb hby at_139) rfl k_)
      show own_G p.tables e below _ _ (T20.setTop (mkF m 141 #[.val (.long q0), .second, .val (.long q1), .second, .val (.long q2), .second, .val (.long q3), .second, .val (.int p4), .val (.long (q0 &&& (9223372036854775807 : Int64))), .second, .val (.long (q1 &&& (9223372036854775807 : Int64))), .second, .val (.long (q2 &&& (9223372036854775807 : Int64))), .second, .val (.long (q3 &&& (9223372036854775807 : Int64))), .second, .val (.ref b1), .val (.ref b1), .val (.int (1 : Int32)), .val (.long (q2 &&& (9223372036854775807 : Int64))), .second, .val (.long (q3 &&& (9223372036854775807 : Int64))), .second] [(.long (q3 &&& (9223372036854775807 : Int64)))]))
      refine own_st ?_ (fun t_ k_ => XS.lload X20.here hx rfl (hb hby at_141) rfl k_)
      show own_G p.tables e below _ _ (T20.setTop (mkF m 143 #[.val (.long q0), .second, .val (.long q1), .second, .val (.long q2), .second, .val (.long q3), .second, .val (.int p4), .val (.long (q0 &&& (9223372036854775807 : Int64))), .second, .val (.long (q1 &&& (9223372036854775807 : Int64))), .second, .val (.long (q2 &&& (9223372036854775807 : Int64))), .second, .val (.long (q3 &&& (9223372036854775807 : Int64))), .second, .val (.ref b1), .val (.ref b1), .val (.int (1 : Int32)), .val (.long (q2 &&& (9223372036854775807 : Int64))), .second, .val (.long (q3 &&& (9223372036854775807 : Int64))), .second] [(.long (q3 &&& (9223372036854775807 : Int64))), (.long (q3 &&& (9223372036854775807 : Int64)))]))
      refine own_st ?_ (fun t_ k_ => XS.lcmp X20.here hx rfl (hb hby at_143) rfl k_)
      show own_G p.tables e below _ _ (T20.setTop (mkF m 144 #[.val (.long q0), .second, .val (.long q1), .second, .val (.long q2), .second, .val (.long q3), .second, .val (.int p4), .val (.long (q0 &&& (9223372036854775807 : Int64))), .second, .val (.long (q1 &&& (9223372036854775807 : Int64))), .second, .val (.long (q2 &&& (9223372036854775807 : Int64))), .second, .val (.long (q3 &&& (9223372036854775807 : Int64))), .second, .val (.ref b1), .val (.ref b1), .val (.int (1 : Int32)), .val (.long (q2 &&& (9223372036854775807 : Int64))), .second, .val (.long (q3 &&& (9223372036854775807 : Int64))), .second] [(.int (lcmpW (q3 &&& (9223372036854775807 : Int64)) (q3 &&& (9223372036854775807 : Int64))))]))
      refine own_st ?_ (fun t_ k_ => XS.ifNo X20.here hx rfl (hb hby at_144) rfl ((if0 _ _).trans (teq ((lw_eq _ _).mpr rfl)).2) k_)
      show own_G p.tables e below _ _ (T20.setTop (mkF m 147 #[.val (.long q0), .second, .val (.long q1), .second, .val (.long q2), .second, .val (.long q3), .second, .val (.int p4), .val (.long (q0 &&& (9223372036854775807 : Int64))), .second, .val (.long (q1 &&& (9223372036854775807 : Int64))), .second, .val (.long (q2 &&& (9223372036854775807 : Int64))), .second, .val (.long (q3 &&& (9223372036854775807 : Int64))), .second, .val (.ref b1), .val (.ref b1), .val (.int (1 : Int32)), .val (.long (q2 &&& (9223372036854775807 : Int64))), .second, .val (.long (q3 &&& (9223372036854775807 : Int64))), .second] []))
      refine own_st ?_ (fun t_ k_ => XS.iconst X20.here hx rfl (hb hby at_147) k_)
      show own_G p.tables e below _ _ (T20.setTop (mkF m 148 #[.val (.long q0), .second, .val (.long q1), .second, .val (.long q2), .second, .val (.long q3), .second, .val (.int p4), .val (.long (q0 &&& (9223372036854775807 : Int64))), .second, .val (.long (q1 &&& (9223372036854775807 : Int64))), .second, .val (.long (q2 &&& (9223372036854775807 : Int64))), .second, .val (.long (q3 &&& (9223372036854775807 : Int64))), .second, .val (.ref b1), .val (.ref b1), .val (.int (1 : Int32)), .val (.long (q2 &&& (9223372036854775807 : Int64))), .second, .val (.long (q3 &&& (9223372036854775807 : Int64))), .second] [(.int (1 : Int32))]))
      refine own_st ?_ (fun t_ k_ => XS.goto X20.here hx rfl (pc0 := 148) (pc' := 152) rfl (hb hby at_148) (by decide) (by decide) k_)
      show own_G p.tables e below _ _ (T20.setTop (mkF m 152 #[.val (.long q0), .second, .val (.long q1), .second, .val (.long q2), .second, .val (.long q3), .second, .val (.int p4), .val (.long (q0 &&& (9223372036854775807 : Int64))), .second, .val (.long (q1 &&& (9223372036854775807 : Int64))), .second, .val (.long (q2 &&& (9223372036854775807 : Int64))), .second, .val (.long (q3 &&& (9223372036854775807 : Int64))), .second, .val (.ref b1), .val (.ref b1), .val (.int (1 : Int32)), .val (.long (q2 &&& (9223372036854775807 : Int64))), .second, .val (.long (q3 &&& (9223372036854775807 : Int64))), .second] [(.int (1 : Int32))]))
      exact own_retN X20 hx hlk (t := .boolean) hret (by simp) (hb hby at_152) (by decide) (by decide) (z' := (1 : Int32)) rfl ⟨rfl, N20⟩
    · refine own_st ?_ (fun t_ k_ => XS.ifNo X3.here hx rfl (hb hby at_66) rfl ((if0 _ _).trans (feq hc66).1) k_)
      show own_G p.tables e below _ _ (T3.setTop (mkF m 69 #[.val (.long q0), .second, .val (.long q1), .second, .val (.long q2), .second, .val (.long q3), .second, .val (.int p4), .val (.long (q0 &&& (9223372036854775807 : Int64))), .second, .val (.long (q1 &&& (9223372036854775807 : Int64))), .second, .val (.long (q2 &&& (9223372036854775807 : Int64))), .second, .val (.long (q3 &&& (9223372036854775807 : Int64))), .second, .val (.ref b1), .unset, .unset, .unset, .unset, .unset, .unset] []))
      refine own_st ?_ (fun t_ k_ => XS.aload X3.here hx rfl (hb hby at_69) rfl rfl k_)
      show own_G p.tables e below _ _ (T3.setTop (mkF m 71 #[.val (.long q0), .second, .val (.long q1), .second, .val (.long q2), .second, .val (.long q3), .second, .val (.int p4), .val (.long (q0 &&& (9223372036854775807 : Int64))), .second, .val (.long (q1 &&& (9223372036854775807 : Int64))), .second, .val (.long (q2 &&& (9223372036854775807 : Int64))), .second, .val (.long (q3 &&& (9223372036854775807 : Int64))), .second, .val (.ref b1), .unset, .unset, .unset, .unset, .unset, .unset] [(.ref b1)]))
      obtain ⟨cq24, kq24, q24a, q24b, q24c⟩ := isOf hZ rfl F4_E
      obtain ⟨_, _, ⟨T24, L24, k24, n24⟩, -, X24, ⟨Lc24, hQ24, l24, y24, z24⟩, st24⟩ := X3.virtualBack hx (y := (⟨"com/example/termwright/termwright/Spool$Record", "number", "()J"⟩ : MethodName)) (z := (⟨"com/example/termwright/termwright/Spool$Record", "number", "()J"⟩ : MethodName)) hown (mvT hZ (hw _ (List.mem_of_getElem? (i := 26) rfl))) (mvT hZ (hw _ (List.mem_of_getElem? (i := 27) rfl))) (notFace_of_selects (args := #[]) (mvT hZ (hw _ (List.mem_of_getElem? (i := 29) rfl)))) (mvT hZ (hw _ (List.mem_of_getElem? (i := 29) rfl))) (mvT hZ (hw _ (List.mem_of_getElem? (i := 28) rfl))) (by decide) (backOf (W := 0) (rm5 l Z _ hw [] b1 t3 (0) (0) (fun _ => 0) 0 (0 : Int64) T3.heap n0 Zs5 g_b1 g_t3 F4_E Fb3 Fl3 Fp3 M3 hne3 (by decide) (by decide) (by have := own_len9 (n := 0) (by decide); omega) ((own_at_lo (by decide)).mpr rfl)) hZ (hw _ (List.mem_of_getElem? (i := 30) rfl)) (hw _ (List.mem_of_getElem? (i := 3) rfl)) (by decide) (by decide)) q24a q24c (g := (mkF m 71 #[.val (.long q0), .second, .val (.long q1), .second, .val (.long q2), .second, .val (.long q3), .second, .val (.int p4), .val (.long (q0 &&& (9223372036854775807 : Int64))), .second, .val (.long (q1 &&& (9223372036854775807 : Int64))), .second, .val (.long (q2 &&& (9223372036854775807 : Int64))), .second, .val (.long (q3 &&& (9223372036854775807 : Int64))), .second, .val (.ref b1), .unset, .unset, .unset, .unset, .unset, .unset] [(.ref b1)])) rfl (by rw [hml]; rfl) (Steps.refl _) (argsL := []) (rest := []) (lenOf pd_4 rfl) rfl (by show 2 * 0 + _ ≤ _; exact Nat.le_of_eq rfl) (hb hby at_71) (fun _ _ => ⟨rfl, rfl, (by decide : 2 + 0 ≤ _), (by decide : 259 + 0 ≤ _)⟩)
      dsimp only [Pt.U, Pt.locs, Pt.cells, Pt.slots] at X24 l24 y24 z24 st24 hQ24
      subst l24 y24 z24
      obtain ⟨rfl, N24q, hq24⟩ := hQ24
      have N24 := Fr.app N3 N24q
      obtain ⟨K24, Fb24, Fl24, Fp24, M24⟩ := hq24
      have F25_E : Exa Z T24.heap b1 "com/example/termwright/termwright/Spool$Record" := F4_E.keep K24
      have F26_P : own_M Z T24.heap t3 (fun _ => 0) := own_M_keep M3 K24 (ninS (Ne.symm hne3) nin0)
      have Zs27 : n0 ≤ T24.heap.size := Nat.le_trans Zs5 K24.1
      refine own_st ?_ (fun t_ k_ => st24.trans k_)
      show own_G p.tables e below _ _ (T24.setTop (mkF m 74 #[.val (.long q0), .second, .val (.long q1), .second, .val (.long q2), .second, .val (.long q3), .second, .val (.int p4), .val (.long (q0 &&& (9223372036854775807 : Int64))), .second, .val (.long (q1 &&& (9223372036854775807 : Int64))), .second, .val (.long (q2 &&& (9223372036854775807 : Int64))), .second, .val (.long (q3 &&& (9223372036854775807 : Int64))), .second, .val (.ref b1), .unset, .unset, .unset, .unset, .unset, .unset] [(.long (0 : Int64))]))
      refine own_st ?_ (fun t_ k_ => by jvm_step X24.here [X24.here.top, hx, (hb hby at_74), Value.category]; exact k_)
      show own_G p.tables e below _ _ (T24.setTop (mkF m 75 #[.val (.long q0), .second, .val (.long q1), .second, .val (.long q2), .second, .val (.long q3), .second, .val (.int p4), .val (.long (q0 &&& (9223372036854775807 : Int64))), .second, .val (.long (q1 &&& (9223372036854775807 : Int64))), .second, .val (.long (q2 &&& (9223372036854775807 : Int64))), .second, .val (.long (q3 &&& (9223372036854775807 : Int64))), .second, .val (.ref b1), .unset, .unset, .unset, .unset, .unset, .unset] []))
      refine own_st ?_ (fun t_ k_ => XS.aload X24.here hx rfl (hb hby at_75) rfl rfl k_)
      show own_G p.tables e below _ _ (T24.setTop (mkF m 77 #[.val (.long q0), .second, .val (.long q1), .second, .val (.long q2), .second, .val (.long q3), .second, .val (.int p4), .val (.long (q0 &&& (9223372036854775807 : Int64))), .second, .val (.long (q1 &&& (9223372036854775807 : Int64))), .second, .val (.long (q2 &&& (9223372036854775807 : Int64))), .second, .val (.long (q3 &&& (9223372036854775807 : Int64))), .second, .val (.ref b1), .unset, .unset, .unset, .unset, .unset, .unset] [(.ref b1)]))
      obtain ⟨cq28, kq28, q28a, q28b, q28c⟩ := isOf hZ rfl F25_E
      obtain ⟨_, _, ⟨T28, L28, k28, n28⟩, -, X28, ⟨Lc28, hQ28, l28, y28, z28⟩, st28⟩ := X24.virtualBack hx (y := (⟨"com/example/termwright/termwright/Spool$Record", "clear", "()Lcom/example/termwright/termwright/Spool$Record;"⟩ : MethodName)) (z := (⟨"com/example/termwright/termwright/Spool$Record", "clear", "()Lcom/example/termwright/termwright/Spool$Record;"⟩ : MethodName)) hown (mvT hZ (hw _ (List.mem_of_getElem? (i := 33) rfl))) (mvT hZ (hw _ (List.mem_of_getElem? (i := 34) rfl))) (notFace_of_selects (args := #[]) (mvT hZ (hw _ (List.mem_of_getElem? (i := 36) rfl)))) (mvT hZ (hw _ (List.mem_of_getElem? (i := 36) rfl))) (mvT hZ (hw _ (List.mem_of_getElem? (i := 35) rfl))) (by decide) (backOf (W := 0) (rm6 l Z _ hw [] b1 t3 (0) (0 + own_len 0) (fun _ => 0) T24.heap n0 Zs27 g_b1 F25_E Fb24 Fl24 Fp24 M24 hne3) hZ (hw _ (List.mem_of_getElem? (i := 37) rfl)) (hw _ (List.mem_of_getElem? (i := 3) rfl)) (by decide) (by decide)) q28a q28c (g := (mkF m 77 #[.val (.long q0), .second, .val (.long q1), .second, .val (.long q2), .second, .val (.long q3), .second, .val (.int p4), .val (.long (q0 &&& (9223372036854775807 : Int64))), .second, .val (.long (q1 &&& (9223372036854775807 : Int64))), .second, .val (.long (q2 &&& (9223372036854775807 : Int64))), .second, .val (.long (q3 &&& (9223372036854775807 : Int64))), .second, .val (.ref b1), .unset, .unset, .unset, .unset, .unset, .unset] [(.ref b1)])) rfl (by rw [hml]; rfl) (Steps.refl _) (argsL := []) (rest := []) (lenOf pd_2 rfl) rfl (by show 2 * 0 + _ ≤ _; exact Nat.le_of_eq rfl) (hb hby at_77) (fun _ _ => ⟨rfl, rfl, (by decide : 2 + 0 ≤ _), (by decide : 259 + 0 ≤ _)⟩)
      dsimp only [Pt.U, Pt.locs, Pt.cells, Pt.slots] at X28 l28 y28 z28 st28 hQ28
      subst l28 y28 z28
      obtain ⟨rfl, N28q, hq28⟩ := hQ28
      have N28 := Fr.app N24 N28q
      obtain ⟨K28, Fb28, Fl28, Fp28, M28⟩ := hq28
      have F29_E : Exa Z T28.heap b1 "com/example/termwright/termwright/Spool$Record" := F25_E.keep K28
      have F30_P : own_M Z T28.heap t3 (fun _ => 0) := own_M_keep M24 K28 (ninS (Ne.symm hne3) nin0)
      have Zs31 : n0 ≤ T28.heap.size := Nat.le_trans Zs27 K28.1
      refine own_st ?_ (fun t_ k_ => st28.trans k_)
      show own_G p.tables e below _ _ (T28.setTop (mkF m 80 #[.val (.long q0), .second, .val (.long q1), .second, .val (.long q2), .second, .val (.long q3), .second, .val (.int p4), .val (.long (q0 &&& (9223372036854775807 : Int64))), .second, .val (.long (q1 &&& (9223372036854775807 : Int64))), .second, .val (.long (q2 &&& (9223372036854775807 : Int64))), .second, .val (.long (q3 &&& (9223372036854775807 : Int64))), .second, .val (.ref b1), .unset, .unset, .unset, .unset, .unset, .unset] [(.ref b1)]))
      refine own_st ?_ (fun t_ k_ => XS.astore X28.here hx rfl (hb hby at_80) rfl rfl (l' := #[.val (.long q0), .second, .val (.long q1), .second, .val (.long q2), .second, .val (.long q3), .second, .val (.int p4), .val (.long (q0 &&& (9223372036854775807 : Int64))), .second, .val (.long (q1 &&& (9223372036854775807 : Int64))), .second, .val (.long (q2 &&& (9223372036854775807 : Int64))), .second, .val (.long (q3 &&& (9223372036854775807 : Int64))), .second, .val (.ref b1), .val (.ref b1), .unset, .unset, .unset, .unset, .unset]) rfl k_)
      show own_G p.tables e below _ _ (T28.setTop (mkF m 82 #[.val (.long q0), .second, .val (.long q1), .second, .val (.long q2), .second, .val (.long q3), .second, .val (.int p4), .val (.long (q0 &&& (9223372036854775807 : Int64))), .second, .val (.long (q1 &&& (9223372036854775807 : Int64))), .second, .val (.long (q2 &&& (9223372036854775807 : Int64))), .second, .val (.long (q3 &&& (9223372036854775807 : Int64))), .second, .val (.ref b1), .val (.ref b1), .unset, .unset, .unset, .unset, .unset] []))
      refine own_st ?_ (fun t_ k_ => XS.aload X28.here hx rfl (hb hby at_82) rfl rfl k_)
      show own_G p.tables e below _ _ (T28.setTop (mkF m 84 #[.val (.long q0), .second, .val (.long q1), .second, .val (.long q2), .second, .val (.long q3), .second, .val (.int p4), .val (.long (q0 &&& (9223372036854775807 : Int64))), .second, .val (.long (q1 &&& (9223372036854775807 : Int64))), .second, .val (.long (q2 &&& (9223372036854775807 : Int64))), .second, .val (.long (q3 &&& (9223372036854775807 : Int64))), .second, .val (.ref b1), .val (.ref b1), .unset, .unset, .unset, .unset, .unset] [(.ref b1)]))
      refine own_st ?_ (fun t_ k_ => XS.aload X28.here hx rfl (hb hby at_84) rfl rfl k_)
      show own_G p.tables e below _ _ (T28.setTop (mkF m 86 #[.val (.long q0), .second, .val (.long q1), .second, .val (.long q2), .second, .val (.long q3), .second, .val (.int p4), .val (.long (q0 &&& (9223372036854775807 : Int64))), .second, .val (.long (q1 &&& (9223372036854775807 : Int64))), .second, .val (.long (q2 &&& (9223372036854775807 : Int64))), .second, .val (.long (q3 &&& (9223372036854775807 : Int64))), .second, .val (.ref b1), .val (.ref b1), .unset, .unset, .unset, .unset, .unset] [(.ref b1), (.ref b1)]))
      refine own_st ?_ (fun t_ k_ => Jvm.RoadKit.acmp (g := (mkF m 86 #[.val (.long q0), .second, .val (.long q1), .second, .val (.long q2), .second, .val (.long q3), .second, .val (.int p4), .val (.long (q0 &&& (9223372036854775807 : Int64))), .second, .val (.long (q1 &&& (9223372036854775807 : Int64))), .second, .val (.long (q2 &&& (9223372036854775807 : Int64))), .second, .val (.long (q3 &&& (9223372036854775807 : Int64))), .second, .val (.ref b1), .val (.ref b1), .unset, .unset, .unset, .unset, .unset] [(.ref b1), (.ref b1)])) X28 hx rfl rfl rfl (pc0 := 86) (pc' := 89) (same := true) rfl (hb hby at_86) rfl (decide_eq_true rfl) (by decide) (by decide) k_)
      show own_G p.tables e below _ _ (T28.setTop (mkF m 89 #[.val (.long q0), .second, .val (.long q1), .second, .val (.long q2), .second, .val (.long q3), .second, .val (.int p4), .val (.long (q0 &&& (9223372036854775807 : Int64))), .second, .val (.long (q1 &&& (9223372036854775807 : Int64))), .second, .val (.long (q2 &&& (9223372036854775807 : Int64))), .second, .val (.long (q3 &&& (9223372036854775807 : Int64))), .second, .val (.ref b1), .val (.ref b1), .unset, .unset, .unset, .unset, .unset] []))
      refine own_st ?_ (fun t_ k_ => XS.iconst X28.here hx rfl (hb hby at_89) k_)
      show own_G p.tables e below _ _ (T28.setTop (mkF m 90 #[.val (.long q0), .second, .val (.long q1), .second, .val (.long q2), .second, .val (.long q3), .second, .val (.int p4), .val (.long (q0 &&& (9223372036854775807 : Int64))), .second, .val (.long (q1 &&& (9223372036854775807 : Int64))), .second, .val (.long (q2 &&& (9223372036854775807 : Int64))), .second, .val (.long (q3 &&& (9223372036854775807 : Int64))), .second, .val (.ref b1), .val (.ref b1), .unset, .unset, .unset, .unset, .unset] [(.int (1 : Int32))]))
      refine own_st ?_ (fun t_ k_ => XS.goto X28.here hx rfl (pc0 := 90) (pc' := 94) rfl (hb hby at_90) (by decide) (by decide) k_)
      show own_G p.tables e below _ _ (T28.setTop (mkF m 94 #[.val (.long q0), .second, .val (.long q1), .second, .val (.long q2), .second, .val (.long q3), .second, .val (.int p4), .val (.long (q0 &&& (9223372036854775807 : Int64))), .second, .val (.long (q1 &&& (9223372036854775807 : Int64))), .second, .val (.long (q2 &&& (9223372036854775807 : Int64))), .second, .val (.long (q3 &&& (9223372036854775807 : Int64))), .second, .val (.ref b1), .val (.ref b1), .unset, .unset, .unset, .unset, .unset] [(.int (1 : Int32))]))
      refine own_st ?_ (fun t_ k_ => XS.istore X28.here hx rfl (hb hby at_94) rfl (l' := #[.val (.long q0), .second, .val (.long q1), .second, .val (.long q2), .second, .val (.long q3), .second, .val (.int p4), .val (.long (q0 &&& (9223372036854775807 : Int64))), .second, .val (.long (q1 &&& (9223372036854775807 : Int64))), .second, .val (.long (q2 &&& (9223372036854775807 : Int64))), .second, .val (.long (q3 &&& (9223372036854775807 : Int64))), .second, .val (.ref b1), .val (.ref b1), .val (.int (1 : Int32)), .unset, .unset, .unset, .unset]) rfl k_)
      show own_G p.tables e below _ _ (T28.setTop (mkF m 96 #[.val (.long q0), .second, .val (.long q1), .second, .val (.long q2), .second, .val (.long q3), .second, .val (.int p4), .val (.long (q0 &&& (9223372036854775807 : Int64))), .second, .val (.long (q1 &&& (9223372036854775807 : Int64))), .second, .val (.long (q2 &&& (9223372036854775807 : Int64))), .second, .val (.long (q3 &&& (9223372036854775807 : Int64))), .second, .val (.ref b1), .val (.ref b1), .val (.int (1 : Int32)), .unset, .unset, .unset, .unset] []))
      refine own_st ?_ (fun t_ k_ => XS.aload X28.here hx rfl (hb hby at_96) rfl rfl k_)
      show own_G p.tables e below _ _ (T28.setTop (mkF m 98 #[.val (.long q0), .second, .val (.long q1), .second, .val (.long q2), .second, .val (.long q3), .second, .val (.int p4), .val (.long (q0 &&& (9223372036854775807 : Int64))), .second, .val (.long (q1 &&& (9223372036854775807 : Int64))), .second, .val (.long (q2 &&& (9223372036854775807 : Int64))), .second, .val (.long (q3 &&& (9223372036854775807 : Int64))), .second, .val (.ref b1), .val (.ref b1), .val (.int (1 : Int32)), .unset, .unset, .unset, .unset] [(.ref b1)]))
      refine own_st ?_ (fun t_ k_ => XS.lload X28.here hx rfl (hb hby at_98) rfl k_)
      show own_G p.tables e below _ _ (T28.setTop (mkF m 100 #[.val (.long q0), .second, .val (.long q1), .second, .val (.long q2), .second, .val (.long q3), .second, .val (.int p4), .val (.long (q0 &&& (9223372036854775807 : Int64))), .second, .val (.long (q1 &&& (9223372036854775807 : Int64))), .second, .val (.long (q2 &&& (9223372036854775807 : Int64))), .second, .val (.long (q3 &&& (9223372036854775807 : Int64))), .second, .val (.ref b1), .val (.ref b1), .val (.int (1 : Int32)), .unset, .unset, .unset, .unset] [(.long (q2 &&& (9223372036854775807 : Int64))), (.ref b1)]))
      obtain ⟨cq32, kq32, q32a, q32b, q32c⟩ := isOf hZ rfl F29_E
      obtain ⟨_, _, ⟨T32, L32, k32, n32⟩, -, X32, ⟨Lc32, hQ32, l32, y32, z32⟩, st32⟩ := X28.virtualBack hx (y := (⟨"com/example/termwright/termwright/Spool$Record", "putNumber", "(J)Lcom/example/termwright/termwright/Spool$Record;"⟩ : MethodName)) (z := (⟨"com/example/termwright/termwright/Spool$Record", "putNumber", "(J)Lcom/example/termwright/termwright/Spool$Record;"⟩ : MethodName)) hown (mvT hZ (hw _ (List.mem_of_getElem? (i := 13) rfl))) (mvT hZ (hw _ (List.mem_of_getElem? (i := 14) rfl))) (notFace_of_selects (args := #[]) (mvT hZ (hw _ (List.mem_of_getElem? (i := 16) rfl)))) (mvT hZ (hw _ (List.mem_of_getElem? (i := 16) rfl))) (mvT hZ (hw _ (List.mem_of_getElem? (i := 15) rfl))) (by decide) (backOf (W := 0) (rm3 l Z _ hw [] b1 (q2 &&& (9223372036854775807 : Int64)) t3 (0) (0) (fun _ => 0) nC T28.heap n0 Zs31 g_b1 g_t3 F29_E Fb28 Fl28 Fp28 M28 hne3 hC hC63 (by decide)) hZ (hw _ (List.mem_of_getElem? (i := 17) rfl)) (hw _ (List.mem_of_getElem? (i := 3) rfl)) (by decide) (by decide)) q32a q32c (g := (mkF m 100 #[.val (.long q0), .second, .val (.long q1), .second, .val (.long q2), .second, .val (.long q3), .second, .val (.int p4), .val (.long (q0 &&& (9223372036854775807 : Int64))), .second, .val (.long (q1 &&& (9223372036854775807 : Int64))), .second, .val (.long (q2 &&& (9223372036854775807 : Int64))), .second, .val (.long (q3 &&& (9223372036854775807 : Int64))), .second, .val (.ref b1), .val (.ref b1), .val (.int (1 : Int32)), .unset, .unset, .unset, .unset] [(.long (q2 &&& (9223372036854775807 : Int64))), (.ref b1)])) rfl (by rw [hml]; rfl) (Steps.refl _) (argsL := [(.long (q2 &&& (9223372036854775807 : Int64)))]) (rest := []) (lenOf pd_3 rfl) rfl (by show 2 * 0 + _ ≤ _; exact Nat.le_of_eq rfl) (hb hby at_100) (fun _ _ => ⟨rfl, rfl, (by decide : 2 + 0 ≤ _), (by decide : 259 + 0 ≤ _)⟩)
      dsimp only [Pt.U, Pt.locs, Pt.cells, Pt.slots] at X32 l32 y32 z32 st32 hQ32
      subst l32 y32 z32
      obtain ⟨rfl, N32q, hq32⟩ := hQ32
      have N32 := Fr.app N28 N32q
      obtain ⟨K32, Fb32, Fl32, Fp32, M32⟩ := hq32
      have F33_E : Exa Z T32.heap b1 "com/example/termwright/termwright/Spool$Record" := F29_E.keep K32
      have Zs34 : n0 ≤ T32.heap.size := Nat.le_trans Zs31 K32.1
      refine own_st ?_ (fun t_ k_ => st32.trans k_)
      show own_G p.tables e below _ _ (T32.setTop (mkF m 103 #[.val (.long q0), .second, .val (.long q1), .second, .val (.long q2), .second, .val (.long q3), .second, .val (.int p4), .val (.long (q0 &&& (9223372036854775807 : Int64))), .second, .val (.long (q1 &&& (9223372036854775807 : Int64))), .second, .val (.long (q2 &&& (9223372036854775807 : Int64))), .second, .val (.long (q3 &&& (9223372036854775807 : Int64))), .second, .val (.ref b1), .val (.ref b1), .val (.int (1 : Int32)), .unset, .unset, .unset, .unset] [(.ref b1)]))
      refine own_st ?_ (fun t_ k_ => XS.pop X32.here hx rfl (hb hby at_103) rfl rfl k_)
      show own_G p.tables e below _ _ (T32.setTop (mkF m 104 #[.val (.long q0), .second, .val (.long q1), .second, .val (.long q2), .second, .val (.long q3), .second, .val (.int p4), .val (.long (q0 &&& (9223372036854775807 : Int64))), .second, .val (.long (q1 &&& (9223372036854775807 : Int64))), .second, .val (.long (q2 &&& (9223372036854775807 : Int64))), .second, .val (.long (q3 &&& (9223372036854775807 : Int64))), .second, .val (.ref b1), .val (.ref b1), .val (.int (1 : Int32)), .unset, .unset, .unset, .unset] []))
      refine own_st ?_ (fun t_ k_ => XS.aload X32.here hx rfl (hb hby at_104) rfl rfl k_)
      show own_G p.tables e below _ _ (T32.setTop (mkF m 106 #[.val (.long q0), .second, .val (.long q1), .second, .val (.long q2), .second, .val (.long q3), .second, .val (.int p4), .val (.long (q0 &&& (9223372036854775807 : Int64))), .second, .val (.long (q1 &&& (9223372036854775807 : Int64))), .second, .val (.long (q2 &&& (9223372036854775807 : Int64))), .second, .val (.long (q3 &&& (9223372036854775807 : Int64))), .second, .val (.ref b1), .val (.ref b1), .val (.int (1 : Int32)), .unset, .unset, .unset, .unset] [(.ref b1)]))
      refine own_st ?_ (fun t_ k_ => XS.lload X32.here hx rfl (hb hby at_106) rfl k_)
      show own_G p.tables e below _ _ (T32.setTop (mkF m 108 #[.val (.long q0), .second, .val (.long q1), .second, .val (.long q2), .second, .val (.long q3), .second, .val (.int p4), .val (.long (q0 &&& (9223372036854775807 : Int64))), .second, .val (.long (q1 &&& (9223372036854775807 : Int64))), .second, .val (.long (q2 &&& (9223372036854775807 : Int64))), .second, .val (.long (q3 &&& (9223372036854775807 : Int64))), .second, .val (.ref b1), .val (.ref b1), .val (.int (1 : Int32)), .unset, .unset, .unset, .unset] [(.long (q3 &&& (9223372036854775807 : Int64))), (.ref b1)]))
      obtain ⟨cq35, kq35, q35a, q35b, q35c⟩ := isOf hZ rfl F33_E
      obtain ⟨_, _, ⟨T35, L35, k35, n35⟩, -, X35, ⟨Lc35, hQ35, l35, y35, z35⟩, st35⟩ := X32.virtualBack hx (y := (⟨"com/example/termwright/termwright/Spool$Record", "putNumber", "(J)Lcom/example/termwright/termwright/Spool$Record;"⟩ : MethodName)) (z := (⟨"com/example/termwright/termwright/Spool$Record", "putNumber", "(J)Lcom/example/termwright/termwright/Spool$Record;"⟩ : MethodName)) hown (mvT hZ (hw _ (List.mem_of_getElem? (i := 13) rfl))) (mvT hZ (hw _ (List.mem_of_getElem? (i := 14) rfl))) (notFace_of_selects (args := #[]) (mvT hZ (hw _ (List.mem_of_getElem? (i := 16) rfl)))) (mvT hZ (hw _ (List.mem_of_getElem? (i := 16) rfl))) (mvT hZ (hw _ (List.mem_of_getElem? (i := 15) rfl))) (by decide) (backOf (W := 0) (rm3 l Z _ hw [] b1 (q3 &&& (9223372036854775807 : Int64)) t3 (0 + own_len nC) (0) (own_put (fun _ => 0) (0) nC) nD T32.heap n0 Zs34 g_b1 g_t3 F33_E Fb32 Fl32 Fp32 M32 hne3 hD hD63 (by have := own_len9 hC63; omega)) hZ (hw _ (List.mem_of_getElem? (i := 17) rfl)) (hw _ (List.mem_of_getElem? (i := 3) rfl)) (by decide) (by decide)) q35a q35c (g := (mkF m 108 #[.val (.long q0), .second, .val (.long q1), .second, .val (.long q2), .second, .val (.long q3), .second, .val (.int p4), .val (.long (q0 &&& (9223372036854775807 : Int64))), .second, .val (.long (q1 &&& (9223372036854775807 : Int64))), .second, .val (.long (q2 &&& (9223372036854775807 : Int64))), .second, .val (.long (q3 &&& (9223372036854775807 : Int64))), .second, .val (.ref b1), .val (.ref b1), .val (.int (1 : Int32)), .unset, .unset, .unset, .unset] [(.long (q3 &&& (9223372036854775807 : Int64))), (.ref b1)])) rfl (by rw [hml]; rfl) (Steps.refl _) (argsL := [(.long (q3 &&& (9223372036854775807 : Int64)))]) (rest := []) (lenOf pd_3 rfl) rfl (by show 2 * 0 + _ ≤ _; exact Nat.le_of_eq rfl) (hb hby at_108) (fun _ _ => ⟨rfl, rfl, (by decide : 2 + 0 ≤ _), (by decide : 259 + 0 ≤ _)⟩)
      dsimp only [Pt.U, Pt.locs, Pt.cells, Pt.slots] at X35 l35 y35 z35 st35 hQ35
      subst l35 y35 z35
      obtain ⟨rfl, N35q, hq35⟩ := hQ35
      have N35 := Fr.app N32 N35q
      obtain ⟨K35, Fb35, Fl35, Fp35, M35⟩ := hq35
      have F36_E : Exa Z T35.heap b1 "com/example/termwright/termwright/Spool$Record" := F33_E.keep K35
      have Zs37 : n0 ≤ T35.heap.size := Nat.le_trans Zs34 K35.1
      refine own_st ?_ (fun t_ k_ => st35.trans k_)
      show own_G p.tables e below _ _ (T35.setTop (mkF m 111 #[.val (.long q0), .second, .val (.long q1), .second, .val (.long q2), .second, .val (.long q3), .second, .val (.int p4), .val (.long (q0 &&& (9223372036854775807 : Int64))), .second, .val (.long (q1 &&& (9223372036854775807 : Int64))), .second, .val (.long (q2 &&& (9223372036854775807 : Int64))), .second, .val (.long (q3 &&& (9223372036854775807 : Int64))), .second, .val (.ref b1), .val (.ref b1), .val (.int (1 : Int32)), .unset, .unset, .unset, .unset] [(.ref b1)]))
      refine own_st ?_ (fun t_ k_ => XS.pop X35.here hx rfl (hb hby at_111) rfl rfl k_)
      show own_G p.tables e below _ _ (T35.setTop (mkF m 112 #[.val (.long q0), .second, .val (.long q1), .second, .val (.long q2), .second, .val (.long q3), .second, .val (.int p4), .val (.long (q0 &&& (9223372036854775807 : Int64))), .second, .val (.long (q1 &&& (9223372036854775807 : Int64))), .second, .val (.long (q2 &&& (9223372036854775807 : Int64))), .second, .val (.long (q3 &&& (9223372036854775807 : Int64))), .second, .val (.ref b1), .val (.ref b1), .val (.int (1 : Int32)), .unset, .unset, .unset, .unset] []))
      refine own_st ?_ (fun t_ k_ => XS.aload X35.here hx rfl (hb hby at_112) rfl rfl k_)
      show own_G p.tables e below _ _ (T35.setTop (mkF m 114 #[.val (.long q0), .second, .val (.long q1), .second, .val (.long q2), .second, .val (.long q3), .second, .val (.int p4), .val (.long (q0 &&& (9223372036854775807 : Int64))), .second, .val (.long (q1 &&& (9223372036854775807 : Int64))), .second, .val (.long (q2 &&& (9223372036854775807 : Int64))), .second, .val (.long (q3 &&& (9223372036854775807 : Int64))), .second, .val (.ref b1), .val (.ref b1), .val (.int (1 : Int32)), .unset, .unset, .unset, .unset] [(.ref b1)]))
      obtain ⟨cq38, kq38, q38a, q38b, q38c⟩ := isOf hZ rfl F36_E
      obtain ⟨_, _, ⟨T38, L38, k38, n38⟩, -, X38, ⟨Lc38, hQ38, l38, y38, z38⟩, st38⟩ := X35.virtualBack hx (y := (⟨"com/example/termwright/termwright/Spool$Record", "number", "()J"⟩ : MethodName)) (z := (⟨"com/example/termwright/termwright/Spool$Record", "number", "()J"⟩ : MethodName)) hown (mvT hZ (hw _ (List.mem_of_getElem? (i := 26) rfl))) (mvT hZ (hw _ (List.mem_of_getElem? (i := 27) rfl))) (notFace_of_selects (args := #[]) (mvT hZ (hw _ (List.mem_of_getElem? (i := 29) rfl)))) (mvT hZ (hw _ (List.mem_of_getElem? (i := 29) rfl))) (mvT hZ (hw _ (List.mem_of_getElem? (i := 28) rfl))) (by decide) (backOf (W := 0) (rm5 l Z _ hw [] b1 t3 (0 + own_len nC + own_len nD) (0) (own_put (own_put (fun _ => 0) (0) nC) (0 + own_len nC) nD) nC (q2 &&& (9223372036854775807 : Int64)) T35.heap n0 Zs37 g_b1 g_t3 F36_E Fb35 Fl35 Fp35 M35 hne3 hC hC63 (by have := own_len9 hC63; omega) (own_two _ 0 nC nD)) hZ (hw _ (List.mem_of_getElem? (i := 30) rfl)) (hw _ (List.mem_of_getElem? (i := 3) rfl)) (by decide) (by decide)) q38a q38c (g := (mkF m 114 #[.val (.long q0), .second, .val (.long q1), .second, .val (.long q2), .second, .val (.long q3), .second, .val (.int p4), .val (.long (q0 &&& (9223372036854775807 : Int64))), .second, .val (.long (q1 &&& (9223372036854775807 : Int64))), .second, .val (.long (q2 &&& (9223372036854775807 : Int64))), .second, .val (.long (q3 &&& (9223372036854775807 : Int64))), .second, .val (.ref b1), .val (.ref b1), .val (.int (1 : Int32)), .unset, .unset, .unset, .unset] [(.ref b1)])) rfl (by rw [hml]; rfl) (Steps.refl _) (argsL := []) (rest := []) (lenOf pd_4 rfl) rfl (by show 2 * 0 + _ ≤ _; exact Nat.le_of_eq rfl) (hb hby at_114) (fun _ _ => ⟨rfl, rfl, (by decide : 2 + 0 ≤ _), (by decide : 259 + 0 ≤ _)⟩)
      dsimp only [Pt.U, Pt.locs, Pt.cells, Pt.slots] at X38 l38 y38 z38 st38 hQ38
      subst l38 y38 z38
      obtain ⟨rfl, N38q, hq38⟩ := hQ38
      have N38 := Fr.app N35 N38q
      obtain ⟨K38, Fb38, Fl38, Fp38, M38⟩ := hq38
      have F39_E : Exa Z T38.heap b1 "com/example/termwright/termwright/Spool$Record" := F36_E.keep K38
      have F40_P : own_M Z T38.heap t3 (own_put (own_put (fun _ => 0) (0) nC) (0 + own_len nC) nD) := own_M_keep M35 K38 (ninS (Ne.symm hne3) nin0)
      have Zs41 : n0 ≤ T38.heap.size := Nat.le_trans Zs37 K38.1
      refine own_st ?_ (fun t_ k_ => st38.trans k_)
      show own_G p.tables e below _ _ (T38.setTop (mkF m 117 #[.val (.long q0), .second, .val (.long q1), .second, .val (.long q2), .second, .val (.long q3), .second, .val (.int p4), .val (.long (q0 &&& (9223372036854775807 : Int64))), .second, .val (.long (q1 &&& (9223372036854775807 : Int64))), .second, .val (.long (q2 &&& (9223372036854775807 : Int64))), .second, .val (.long (q3 &&& (9223372036854775807 : Int64))), .second, .val (.ref b1), .val (.ref b1), .val (.int (1 : Int32)), .unset, .unset, .unset, .unset] [(.long (q2 &&& (9223372036854775807 : Int64)))]))
      refine own_st ?_ (fun t_ k_ => XS.lstore X38.here hx rfl (hb hby at_117) rfl (l' := #[.val (.long q0), .second, .val (.long q1), .second, .val (.long q2), .second, .val (.long q3), .second, .val (.int p4), .val (.long (q0 &&& (9223372036854775807 : Int64))), .second, .val (.long (q1 &&& (9223372036854775807 : Int64))), .second, .val (.long (q2 &&& (9223372036854775807 : Int64))), .second, .val (.long (q3 &&& (9223372036854775807 : Int64))), .second, .val (.ref b1), .val (.ref b1), .val (.int (1 : Int32)), .val (.long (q2 &&& (9223372036854775807 : Int64))), .second, .unset, .unset]) rfl k_)
      show own_G p.tables e below _ _ (T38.setTop (mkF m 119 #[.val (.long q0), .second, .val (.long q1), .second, .val (.long q2), .second, .val (.long q3), .second, .val (.int p4), .val (.long (q0 &&& (9223372036854775807 : Int64))), .second, .val (.long (q1 &&& (9223372036854775807 : Int64))), .second, .val (.long (q2 &&& (9223372036854775807 : Int64))), .second, .val (.long (q3 &&& (9223372036854775807 : Int64))), .second, .val (.ref b1), .val (.ref b1), .val (.int (1 : Int32)), .val (.long (q2 &&& (9223372036854775807 : Int64))), .second, .unset, .unset] []))
      refine own_st ?_ (fun t_ k_ => XS.aload X38.here hx rfl (hb hby at_119) rfl rfl k_)
      show own_G p.tables e below _ _ (T38.setTop (mkF m 121 #[.val (.long q0), .second, .val (.long q1), .second, .val (.long q2), .second, .val (.long q3), .second, .val (.int p4), .val (.long (q0 &&& (9223372036854775807 : Int64))), .second, .val (.long (q1 &&& (9223372036854775807 : Int64))), .second, .val (.long (q2 &&& (9223372036854775807 : Int64))), .second, .val (.long (q3 &&& (9223372036854775807 : Int64))), .second, .val (.ref b1), .val (.ref b1), .val (.int (1 : Int32)), .val (.long (q2 &&& (9223372036854775807 : Int64))), .second, .unset, .unset] [(.ref b1)]))
      obtain ⟨cq42, kq42, q42a, q42b, q42c⟩ := isOf hZ rfl F39_E
      obtain ⟨_, _, ⟨T42, L42, k42, n42⟩, -, X42, ⟨Lc42, hQ42, l42, y42, z42⟩, st42⟩ := X38.virtualBack hx (y := (⟨"com/example/termwright/termwright/Spool$Record", "number", "()J"⟩ : MethodName)) (z := (⟨"com/example/termwright/termwright/Spool$Record", "number", "()J"⟩ : MethodName)) hown (mvT hZ (hw _ (List.mem_of_getElem? (i := 26) rfl))) (mvT hZ (hw _ (List.mem_of_getElem? (i := 27) rfl))) (notFace_of_selects (args := #[]) (mvT hZ (hw _ (List.mem_of_getElem? (i := 29) rfl)))) (mvT hZ (hw _ (List.mem_of_getElem? (i := 29) rfl))) (mvT hZ (hw _ (List.mem_of_getElem? (i := 28) rfl))) (by decide) (backOf (W := 0) (rm5 l Z _ hw [] b1 t3 (0 + own_len nC + own_len nD) (0 + own_len nC) (own_put (own_put (fun _ => 0) (0) nC) (0 + own_len nC) nD) nD (q3 &&& (9223372036854775807 : Int64)) T38.heap n0 Zs41 g_b1 g_t3 F39_E Fb38 Fl38 Fp38 M38 hne3 hD hD63 (by have := own_len9 hC63; have := own_len9 hD63; omega) (own_at_put nD _ _)) hZ (hw _ (List.mem_of_getElem? (i := 30) rfl)) (hw _ (List.mem_of_getElem? (i := 3) rfl)) (by decide) (by decide)) q42a q42c (g := (mkF m 121 #[.val (.long q0), .second, .val (.long q1), .second, .val (.long q2), .second, .val (.long q3), .second, .val (.int p4), .val (.long (q0 &&& (9223372036854775807 : Int64))), .second, .val (.long (q1 &&& (9223372036854775807 : Int64))), .second, .val (.long (q2 &&& (9223372036854775807 : Int64))), .second, .val (.long (q3 &&& (9223372036854775807 : Int64))), .second, .val (.ref b1), .val (.ref b1), .val (.int (1 : Int32)), .val (.long (q2 &&& (9223372036854775807 : Int64))), .second, .unset, .unset] [(.ref b1)])) rfl (by rw [hml]; rfl) (Steps.refl _) (argsL := []) (rest := []) (lenOf pd_4 rfl) rfl (by show 2 * 0 + _ ≤ _; exact Nat.le_of_eq rfl) (hb hby at_121) (fun _ _ => ⟨rfl, rfl, (by decide : 2 + 0 ≤ _), (by decide : 259 + 0 ≤ _)⟩)
      dsimp only [Pt.U, Pt.locs, Pt.cells, Pt.slots] at X42 l42 y42 z42 st42 hQ42
      subst l42 y42 z42
      obtain ⟨rfl, N42q, hq42⟩ := hQ42
      have N42 := Fr.app N38 N42q
      obtain ⟨K42, Fb42, Fl42, Fp42, M42⟩ := hq42
      have F43_E : Exa Z T42.heap b1 "com/example/termwright/termwright/Spool$Record" := F39_E.keep K42
      have F44_P : own_M Z T42.heap t3 (own_put (own_put (fun _ => 0) (0) nC) (0 + own_len nC) nD) := own_M_keep M38 K42 (ninS (Ne.symm hne3) nin0)
      have Zs45 : n0 ≤ T42.heap.size := Nat.le_trans Zs41 K42.1
      refine own_st ?_ (fun t_ k_ => st42.trans k_)
      show own_G p.tables e below _ _ (T42.setTop (mkF m 124 #[.val (.long q0), .second, .val (.long q1), .second, .val (.long q2), .second, .val (.long q3), .second, .val (.int p4), .val (.long (q0 &&& (9223372036854775807 : Int64))), .second, .val (.long (q1 &&& (9223372036854775807 : Int64))), .second, .val (.long (q2 &&& (9223372036854775807 : Int64))), .second, .val (.long (q3 &&& (9223372036854775807 : Int64))), .second, .val (.ref b1), .val (.ref b1), .val (.int (1 : Int32)), .val (.long (q2 &&& (9223372036854775807 : Int64))), .second, .unset, .unset] [(.long (q3 &&& (9223372036854775807 : Int64)))]))
      refine own_st ?_ (fun t_ k_ => XS.lstore X42.here hx rfl (hb hby at_124) rfl (l' := #[.val (.long q0), .second, .val (.long q1), .second, .val (.long q2), .second, .val (.long q3), .second, .val (.int p4), .val (.long (q0 &&& (9223372036854775807 : Int64))), .second, .val (.long (q1 &&& (9223372036854775807 : Int64))), .second, .val (.long (q2 &&& (9223372036854775807 : Int64))), .second, .val (.long (q3 &&& (9223372036854775807 : Int64))), .second, .val (.ref b1), .val (.ref b1), .val (.int (1 : Int32)), .val (.long (q2 &&& (9223372036854775807 : Int64))), .second, .val (.long (q3 &&& (9223372036854775807 : Int64))), .second]) rfl k_)
      show own_G p.tables e below _ _ (T42.setTop (mkF m 126 #[.val (.long q0), .second, .val (.long q1), .second, .val (.long q2), .second, .val (.long q3), .second, .val (.int p4), .val (.long (q0 &&& (9223372036854775807 : Int64))), .second, .val (.long (q1 &&& (9223372036854775807 : Int64))), .second, .val (.long (q2 &&& (9223372036854775807 : Int64))), .second, .val (.long (q3 &&& (9223372036854775807 : Int64))), .second, .val (.ref b1), .val (.ref b1), .val (.int (1 : Int32)), .val (.long (q2 &&& (9223372036854775807 : Int64))), .second, .val (.long (q3 &&& (9223372036854775807 : Int64))), .second] []))
      refine own_st ?_ (fun t_ k_ => XS.iload X42.here hx rfl (hb hby at_126) rfl k_)
      show own_G p.tables e below _ _ (T42.setTop (mkF m 128 #[.val (.long q0), .second, .val (.long q1), .second, .val (.long q2), .second, .val (.long q3), .second, .val (.int p4), .val (.long (q0 &&& (9223372036854775807 : Int64))), .second, .val (.long (q1 &&& (9223372036854775807 : Int64))), .second, .val (.long (q2 &&& (9223372036854775807 : Int64))), .second, .val (.long (q3 &&& (9223372036854775807 : Int64))), .second, .val (.ref b1), .val (.ref b1), .val (.int (1 : Int32)), .val (.long (q2 &&& (9223372036854775807 : Int64))), .second, .val (.long (q3 &&& (9223372036854775807 : Int64))), .second] [(.int (1 : Int32))]))
      refine own_st ?_ (fun t_ k_ => XS.ifNo X42.here hx rfl (hb hby at_128) rfl ((if0 _ _).trans (feq (by decide : ¬ ((1 : Int32) = (0 : Int32)))).1) k_)
      show own_G p.tables e below _ _ (T42.setTop (mkF m 131 #[.val (.long q0), .second, .val (.long q1), .second, .val (.long q2), .second, .val (.long q3), .second, .val (.int p4), .val (.long (q0 &&& (9223372036854775807 : Int64))), .second, .val (.long (q1 &&& (9223372036854775807 : Int64))), .second, .val (.long (q2 &&& (9223372036854775807 : Int64))), .second, .val (.long (q3 &&& (9223372036854775807 : Int64))), .second, .val (.ref b1), .val (.ref b1), .val (.int (1 : Int32)), .val (.long (q2 &&& (9223372036854775807 : Int64))), .second, .val (.long (q3 &&& (9223372036854775807 : Int64))), .second] []))
      refine own_st ?_ (fun t_ k_ => XS.lload X42.here hx rfl (hb hby at_131) rfl k_)
      show own_G p.tables e below _ _ (T42.setTop (mkF m 133 #[.val (.long q0), .second, .val (.long q1), .second, .val (.long q2), .second, .val (.long q3), .second, .val (.int p4), .val (.long (q0 &&& (9223372036854775807 : Int64))), .second, .val (.long (q1 &&& (9223372036854775807 : Int64))), .second, .val (.long (q2 &&& (9223372036854775807 : Int64))), .second, .val (.long (q3 &&& (9223372036854775807 : Int64))), .second, .val (.ref b1), .val (.ref b1), .val (.int (1 : Int32)), .val (.long (q2 &&& (9223372036854775807 : Int64))), .second, .val (.long (q3 &&& (9223372036854775807 : Int64))), .second] [(.long (q2 &&& (9223372036854775807 : Int64)))]))
      refine own_st ?_ (fun t_ k_ => XS.lload X42.here hx rfl (hb hby at_133) rfl k_)
      show own_G p.tables e below _ _ (T42.setTop (mkF m 135 #[.val (.long q0), .second, .val (.long q1), .second, .val (.long q2), .second, .val (.long q3), .second, .val (.int p4), .val (.long (q0 &&& (9223372036854775807 : Int64))), .second, .val (.long (q1 &&& (9223372036854775807 : Int64))), .second, .val (.long (q2 &&& (9223372036854775807 : Int64))), .second, .val (.long (q3 &&& (9223372036854775807 : Int64))), .second, .val (.ref b1), .val (.ref b1), .val (.int (1 : Int32)), .val (.long (q2 &&& (9223372036854775807 : Int64))), .second, .val (.long (q3 &&& (9223372036854775807 : Int64))), .second] [(.long (q2 &&& (9223372036854775807 : Int64))), (.long (q2 &&& (9223372036854775807 : Int64)))]))
      refine own_st ?_ (fun t_ k_ => XS.lcmp X42.here hx rfl (hb hby at_135) rfl k_)
      show own_G p.tables e below _ _ (T42.setTop (mkF m 136 #[.val (.long q0), .second, .val (.long q1), .second, .val (.long q2), .second, .val (.long q3), .second, .val (.int p4), .val (.long (q0 &&& (9223372036854775807 : Int64))), .second, .val (.long (q1 &&& (9223372036854775807 : Int64))), .second, .val (.long (q2 &&& (9223372036854775807 : Int64))), .second, .val (.long (q3 &&& (9223372036854775807 : Int64))), .second, .val (.ref b1), .val (.ref b1), .val (.int (1 : Int32)), .val (.long (q2 &&& (9223372036854775807 : Int64))), .second, .val (.long (q3 &&& (9223372036854775807 : Int64))), .second] [(.int (lcmpW (q2 &&& (9223372036854775807 : Int64)) (q2 &&& (9223372036854775807 : Int64))))]))
      refine own_st ?_ (fun t_ k_ => XS.ifNo X42.here hx rfl (hb hby at_136) rfl ((if0 _ _).trans (teq ((lw_eq _ _).mpr rfl)).2) k_)
      show own_G p.tables e below _ _ (T42.setTop (mkF m 139 #[.val (.long q0), .second, .val (.long q1), .second, .val (.long q2), .second, .val (.long q3), .second, .val (.int p4), .val (.long (q0 &&& (9223372036854775807 : Int64))), .second, .val (.long (q1 &&& (9223372036854775807 : Int64))), .second, .val (.long (q2 &&& (9223372036854775807 : Int64))), .second, .val (.long (q3 &&& (9223372036854775807 : Int64))), .second, .val (.ref b1), .val (.ref b1), .val (.int (1 : Int32)), .val (.long (q2 &&& (9223372036854775807 : Int64))), .second, .val (.long (q3 &&& (9223372036854775807 : Int64))), .second] []))
      refine own_st ?_ (fun t_ k_ => XS.lload X42.here hx rfl (hb hby at_139) rfl k_)
      show own_G p.tables e below _ _ (T42.setTop (mkF m 141 #[.val (.long q0), .second, .val (.long q1), .second, .val (.long q2), .second, .val (.long q3), .second, .val (.int p4), .val (.long (q0 &&& (9223372036854775807 : Int64))), .second, .val (.long (q1 &&& (9223372036854775807 : Int64))), .second, .val (.long (q2 &&& (9223372036854775807 : Int64))), .second, .val (.long (q3 &&& (9223372036854775807 : Int64))), .second, .val (.ref b1), .val (.ref b1), .val (.int (1 : Int32)), .val (.long (q2 &&& (9223372036854775807 : Int64))), .second, .val (.long (q3 &&& (9223372036854775807 : Int64))), .second] [(.long (q3 &&& (9223372036854775807 : Int64)))]))
      refine own_st ?_ (fun t_ k_ => XS.lload X42.here hx rfl (hb hby at_141) rfl k_)
      show own_G p.tables e below _ _ (T42.setTop (mkF m 143 #[.val (.long q0), .second, .val (.long q1), .second, .val (.long q2), .second, .val (.long q3), .second, .val (.int p4), .val (.long (q0 &&& (9223372036854775807 : Int64))), .second, .val (.long (q1 &&& (9223372036854775807 : Int64))), .second, .val (.long (q2 &&& (9223372036854775807 : Int64))), .second, .val (.long (q3 &&& (9223372036854775807 : Int64))), .second, .val (.ref b1), .val (.ref b1), .val (.int (1 : Int32)), .val (.long (q2 &&& (9223372036854775807 : Int64))), .second, .val (.long (q3 &&& (9223372036854775807 : Int64))), .second] [(.long (q3 &&& (9223372036854775807 : Int64))), (.long (q3 &&& (9223372036854775807 : Int64)))]))
      refine own_st ?_ (fun t_ k_ => XS.lcmp X42.here hx rfl (hb hby at_143) rfl k_)
      show own_G p.tables e below _ _ (T42.setTop (mkF m 144 #[.val (.long q0), .second, .val (.long q1), .second, .val (.long q2), .second, .val (.long q3), .second, .val (.int p4), .val (.long (q0 &&& (9223372036854775807 : Int64))), .second, .val (.long (q1 &&& (9223372036854775807 : Int64))), .second, .val (.long (q2 &&& (9223372036854775807 : Int64))), .second, .val (.long (q3 &&& (9223372036854775807 : Int64))), .second, .val (.ref b1), .val (.ref b1), .val (.int (1 : Int32)), .val (.long (q2 &&& (9223372036854775807 : Int64))), .second, .val (.long (q3 &&& (9223372036854775807 : Int64))), .second] [(.int (lcmpW (q3 &&& (9223372036854775807 : Int64)) (q3 &&& (9223372036854775807 : Int64))))]))
      refine own_st ?_ (fun t_ k_ => XS.ifNo X42.here hx rfl (hb hby at_144) rfl ((if0 _ _).trans (teq ((lw_eq _ _).mpr rfl)).2) k_)
      show own_G p.tables e below _ _ (T42.setTop (mkF m 147 #[.val (.long q0), .second, .val (.long q1), .second, .val (.long q2), .second, .val (.long q3), .second, .val (.int p4), .val (.long (q0 &&& (9223372036854775807 : Int64))), .second, .val (.long (q1 &&& (9223372036854775807 : Int64))), .second, .val (.long (q2 &&& (9223372036854775807 : Int64))), .second, .val (.long (q3 &&& (9223372036854775807 : Int64))), .second, .val (.ref b1), .val (.ref b1), .val (.int (1 : Int32)), .val (.long (q2 &&& (9223372036854775807 : Int64))), .second, .val (.long (q3 &&& (9223372036854775807 : Int64))), .second] []))
      refine own_st ?_ (fun t_ k_ => XS.iconst X42.here hx rfl (hb hby at_147) k_)
      show own_G p.tables e below _ _ (T42.setTop (mkF m 148 #[.val (.long q0), .second, .val (.long q1), .second, .val (.long q2), .second, .val (.long q3), .second, .val (.int p4), .val (.long (q0 &&& (9223372036854775807 : Int64))), .second, .val (.long (q1 &&& (9223372036854775807 : Int64))), .second, .val (.long (q2 &&& (9223372036854775807 : Int64))), .second, .val (.long (q3 &&& (9223372036854775807 : Int64))), .second, .val (.ref b1), .val (.ref b1), .val (.int (1 : Int32)), .val (.long (q2 &&& (9223372036854775807 : Int64))), .second, .val (.long (q3 &&& (9223372036854775807 : Int64))), .second] [(.int (1 : Int32))]))
      refine own_st ?_ (fun t_ k_ => XS.goto X42.here hx rfl (pc0 := 148) (pc' := 152) rfl (hb hby at_148) (by decide) (by decide) k_)
      show own_G p.tables e below _ _ (T42.setTop (mkF m 152 #[.val (.long q0), .second, .val (.long q1), .second, .val (.long q2), .second, .val (.long q3), .second, .val (.int p4), .val (.long (q0 &&& (9223372036854775807 : Int64))), .second, .val (.long (q1 &&& (9223372036854775807 : Int64))), .second, .val (.long (q2 &&& (9223372036854775807 : Int64))), .second, .val (.long (q3 &&& (9223372036854775807 : Int64))), .second, .val (.ref b1), .val (.ref b1), .val (.int (1 : Int32)), .val (.long (q2 &&& (9223372036854775807 : Int64))), .second, .val (.long (q3 &&& (9223372036854775807 : Int64))), .second] [(.int (1 : Int32))]))
      exact own_retN X42 hx hlk (t := .boolean) hret (by simp) (hb hby at_152) (by decide) (by decide) (z' := (1 : Int32)) rfl ⟨rfl, N42⟩
  · refine own_st ?_ (fun t_ k_ => XS.ifNo X3.here hx rfl (hb hby at_43) rfl ((if0 _ _).trans (feq hc43).1) k_)
    show own_G p.tables e below _ _ (T3.setTop (mkF m 46 #[.val (.long q0), .second, .val (.long q1), .second, .val (.long q2), .second, .val (.long q3), .second, .val (.int p4), .val (.long (q0 &&& (9223372036854775807 : Int64))), .second, .val (.long (q1 &&& (9223372036854775807 : Int64))), .second, .val (.long (q2 &&& (9223372036854775807 : Int64))), .second, .val (.long (q3 &&& (9223372036854775807 : Int64))), .second, .val (.ref b1), .unset, .unset, .unset, .unset, .unset, .unset] []))
    refine own_st ?_ (fun t_ k_ => XS.aload X3.here hx rfl (hb hby at_46) rfl rfl k_)
    show own_G p.tables e below _ _ (T3.setTop (mkF m 48 #[.val (.long q0), .second, .val (.long q1), .second, .val (.long q2), .second, .val (.long q3), .second, .val (.int p4), .val (.long (q0 &&& (9223372036854775807 : Int64))), .second, .val (.long (q1 &&& (9223372036854775807 : Int64))), .second, .val (.long (q2 &&& (9223372036854775807 : Int64))), .second, .val (.long (q3 &&& (9223372036854775807 : Int64))), .second, .val (.ref b1), .unset, .unset, .unset, .unset, .unset, .unset] [(.ref b1)]))
    refine own_st ?_ (fun t_ k_ => XS.lload X3.here hx rfl (hb hby at_48) rfl k_)
    show own_G p.tables e below _ _ (T3.setTop (mkF m 50 #[.val (.long q0), .second, .val (.long q1), .second, .val (.long q2), .second, .val (.long q3), .second, .val (.int p4), .val (.long (q0 &&& (9223372036854775807 : Int64))), .second, .val (.long (q1 &&& (9223372036854775807 : Int64))), .second, .val (.long (q2 &&& (9223372036854775807 : Int64))), .second, .val (.long (q3 &&& (9223372036854775807 : Int64))), .second, .val (.ref b1), .unset, .unset, .unset, .unset, .unset, .unset] [(.long (q0 &&& (9223372036854775807 : Int64))), (.ref b1)]))
    obtain ⟨cq46, kq46, q46a, q46b, q46c⟩ := isOf hZ rfl F4_E
    obtain ⟨_, _, ⟨T46, L46, k46, n46⟩, -, X46, ⟨Lc46, hQ46, l46, y46, z46⟩, st46⟩ := X3.virtualBack hx (y := (⟨"com/example/termwright/termwright/Spool$Record", "putNumber", "(J)Lcom/example/termwright/termwright/Spool$Record;"⟩ : MethodName)) (z := (⟨"com/example/termwright/termwright/Spool$Record", "putNumber", "(J)Lcom/example/termwright/termwright/Spool$Record;"⟩ : MethodName)) hown (mvT hZ (hw _ (List.mem_of_getElem? (i := 13) rfl))) (mvT hZ (hw _ (List.mem_of_getElem? (i := 14) rfl))) (notFace_of_selects (args := #[]) (mvT hZ (hw _ (List.mem_of_getElem? (i := 16) rfl)))) (mvT hZ (hw _ (List.mem_of_getElem? (i := 16) rfl))) (mvT hZ (hw _ (List.mem_of_getElem? (i := 15) rfl))) (by decide) (backOf (W := 0) (rm3 l Z _ hw [] b1 (q0 &&& (9223372036854775807 : Int64)) t3 (0) (0) (fun _ => 0) nA T3.heap n0 Zs5 g_b1 g_t3 F4_E Fb3 Fl3 Fp3 M3 hne3 hA hA63 (by decide)) hZ (hw _ (List.mem_of_getElem? (i := 17) rfl)) (hw _ (List.mem_of_getElem? (i := 3) rfl)) (by decide) (by decide)) q46a q46c (g := (mkF m 50 #[.val (.long q0), .second, .val (.long q1), .second, .val (.long q2), .second, .val (.long q3), .second, .val (.int p4), .val (.long (q0 &&& (9223372036854775807 : Int64))), .second, .val (.long (q1 &&& (9223372036854775807 : Int64))), .second, .val (.long (q2 &&& (9223372036854775807 : Int64))), .second, .val (.long (q3 &&& (9223372036854775807 : Int64))), .second, .val (.ref b1), .unset, .unset, .unset, .unset, .unset, .unset] [(.long (q0 &&& (9223372036854775807 : Int64))), (.ref b1)])) rfl (by rw [hml]; rfl) (Steps.refl _) (argsL := [(.long (q0 &&& (9223372036854775807 : Int64)))]) (rest := []) (lenOf pd_3 rfl) rfl (by show 2 * 0 + _ ≤ _; exact Nat.le_of_eq rfl) (hb hby at_50) (fun _ _ => ⟨rfl, rfl, (by decide : 2 + 0 ≤ _), (by decide : 259 + 0 ≤ _)⟩)
    dsimp only [Pt.U, Pt.locs, Pt.cells, Pt.slots] at X46 l46 y46 z46 st46 hQ46
    subst l46 y46 z46
    obtain ⟨rfl, N46q, hq46⟩ := hQ46
    have N46 := Fr.app N3 N46q
    obtain ⟨K46, Fb46, Fl46, Fp46, M46⟩ := hq46
    have F47_E : Exa Z T46.heap b1 "com/example/termwright/termwright/Spool$Record" := F4_E.keep K46
    have Zs48 : n0 ≤ T46.heap.size := Nat.le_trans Zs5 K46.1
    refine own_st ?_ (fun t_ k_ => st46.trans k_)
    show own_G p.tables e below _ _ (T46.setTop (mkF m 53 #[.val (.long q0), .second, .val (.long q1), .second, .val (.long q2), .second, .val (.long q3), .second, .val (.int p4), .val (.long (q0 &&& (9223372036854775807 : Int64))), .second, .val (.long (q1 &&& (9223372036854775807 : Int64))), .second, .val (.long (q2 &&& (9223372036854775807 : Int64))), .second, .val (.long (q3 &&& (9223372036854775807 : Int64))), .second, .val (.ref b1), .unset, .unset, .unset, .unset, .unset, .unset] [(.ref b1)]))
    refine own_st ?_ (fun t_ k_ => XS.pop X46.here hx rfl (hb hby at_53) rfl rfl k_)
    show own_G p.tables e below _ _ (T46.setTop (mkF m 54 #[.val (.long q0), .second, .val (.long q1), .second, .val (.long q2), .second, .val (.long q3), .second, .val (.int p4), .val (.long (q0 &&& (9223372036854775807 : Int64))), .second, .val (.long (q1 &&& (9223372036854775807 : Int64))), .second, .val (.long (q2 &&& (9223372036854775807 : Int64))), .second, .val (.long (q3 &&& (9223372036854775807 : Int64))), .second, .val (.ref b1), .unset, .unset, .unset, .unset, .unset, .unset] []))
    refine own_st ?_ (fun t_ k_ => XS.aload X46.here hx rfl (hb hby at_54) rfl rfl k_)
    show own_G p.tables e below _ _ (T46.setTop (mkF m 56 #[.val (.long q0), .second, .val (.long q1), .second, .val (.long q2), .second, .val (.long q3), .second, .val (.int p4), .val (.long (q0 &&& (9223372036854775807 : Int64))), .second, .val (.long (q1 &&& (9223372036854775807 : Int64))), .second, .val (.long (q2 &&& (9223372036854775807 : Int64))), .second, .val (.long (q3 &&& (9223372036854775807 : Int64))), .second, .val (.ref b1), .unset, .unset, .unset, .unset, .unset, .unset] [(.ref b1)]))
    refine own_st ?_ (fun t_ k_ => XS.lload X46.here hx rfl (hb hby at_56) rfl k_)
    show own_G p.tables e below _ _ (T46.setTop (mkF m 58 #[.val (.long q0), .second, .val (.long q1), .second, .val (.long q2), .second, .val (.long q3), .second, .val (.int p4), .val (.long (q0 &&& (9223372036854775807 : Int64))), .second, .val (.long (q1 &&& (9223372036854775807 : Int64))), .second, .val (.long (q2 &&& (9223372036854775807 : Int64))), .second, .val (.long (q3 &&& (9223372036854775807 : Int64))), .second, .val (.ref b1), .unset, .unset, .unset, .unset, .unset, .unset] [(.long (q1 &&& (9223372036854775807 : Int64))), (.ref b1)]))
    obtain ⟨cq49, kq49, q49a, q49b, q49c⟩ := isOf hZ rfl F47_E
    obtain ⟨_, _, ⟨T49, L49, k49, n49⟩, -, X49, ⟨Lc49, hQ49, l49, y49, z49⟩, st49⟩ := X46.virtualBack hx (y := (⟨"com/example/termwright/termwright/Spool$Record", "putNumber", "(J)Lcom/example/termwright/termwright/Spool$Record;"⟩ : MethodName)) (z := (⟨"com/example/termwright/termwright/Spool$Record", "putNumber", "(J)Lcom/example/termwright/termwright/Spool$Record;"⟩ : MethodName)) hown (mvT hZ (hw _ (List.mem_of_getElem? (i := 13) rfl))) (mvT hZ (hw _ (List.mem_of_getElem? (i := 14) rfl))) (notFace_of_selects (args := #[]) (mvT hZ (hw _ (List.mem_of_getElem? (i := 16) rfl)))) (mvT hZ (hw _ (List.mem_of_getElem? (i := 16) rfl))) (mvT hZ (hw _ (List.mem_of_getElem? (i := 15) rfl))) (by decide) (backOf (W := 0) (rm3 l Z _ hw [] b1 (q1 &&& (9223372036854775807 : Int64)) t3 (0 + own_len nA) (0) (own_put (fun _ => 0) (0) nA) nB T46.heap n0 Zs48 g_b1 g_t3 F47_E Fb46 Fl46 Fp46 M46 hne3 hB hB63 (by have := own_len9 hA63; omega)) hZ (hw _ (List.mem_of_getElem? (i := 17) rfl)) (hw _ (List.mem_of_getElem? (i := 3) rfl)) (by decide) (by decide)) q49a q49c (g := (mkF m 58 #[.val (.long q0), .second, .val (.long q1), .second, .val (.long q2), .second, .val (.long q3), .second, .val (.int p4), .val (.long (q0 &&& (9223372036854775807 : Int64))), .second, .val (.long (q1 &&& (9223372036854775807 : Int64))), .second, .val (.long (q2 &&& (9223372036854775807 : Int64))), .second, .val (.long (q3 &&& (9223372036854775807 : Int64))), .second, .val (.ref b1), .unset, .unset, .unset, .unset, .unset, .unset] [(.long (q1 &&& (9223372036854775807 : Int64))), (.ref b1)])) rfl (by rw [hml]; rfl) (Steps.refl _) (argsL := [(.long (q1 &&& (9223372036854775807 : Int64)))]) (rest := []) (lenOf pd_3 rfl) rfl (by show 2 * 0 + _ ≤ _; exact Nat.le_of_eq rfl) (hb hby at_58) (fun _ _ => ⟨rfl, rfl, (by decide : 2 + 0 ≤ _), (by decide : 259 + 0 ≤ _)⟩)
    dsimp only [Pt.U, Pt.locs, Pt.cells, Pt.slots] at X49 l49 y49 z49 st49 hQ49
    subst l49 y49 z49
    obtain ⟨rfl, N49q, hq49⟩ := hQ49
    have N49 := Fr.app N46 N49q
    obtain ⟨K49, Fb49, Fl49, Fp49, M49⟩ := hq49
    have F50_E : Exa Z T49.heap b1 "com/example/termwright/termwright/Spool$Record" := F47_E.keep K49
    have Zs51 : n0 ≤ T49.heap.size := Nat.le_trans Zs48 K49.1
    refine own_st ?_ (fun t_ k_ => st49.trans k_)
    show own_G p.tables e below _ _ (T49.setTop (mkF m 61 #[.val (.long q0), .second, .val (.long q1), .second, .val (.long q2), .second, .val (.long q3), .second, .val (.int p4), .val (.long (q0 &&& (9223372036854775807 : Int64))), .second, .val (.long (q1 &&& (9223372036854775807 : Int64))), .second, .val (.long (q2 &&& (9223372036854775807 : Int64))), .second, .val (.long (q3 &&& (9223372036854775807 : Int64))), .second, .val (.ref b1), .unset, .unset, .unset, .unset, .unset, .unset] [(.ref b1)]))
    refine own_st ?_ (fun t_ k_ => XS.pop X49.here hx rfl (hb hby at_61) rfl rfl k_)
    show own_G p.tables e below _ _ (T49.setTop (mkF m 62 #[.val (.long q0), .second, .val (.long q1), .second, .val (.long q2), .second, .val (.long q3), .second, .val (.int p4), .val (.long (q0 &&& (9223372036854775807 : Int64))), .second, .val (.long (q1 &&& (9223372036854775807 : Int64))), .second, .val (.long (q2 &&& (9223372036854775807 : Int64))), .second, .val (.long (q3 &&& (9223372036854775807 : Int64))), .second, .val (.ref b1), .unset, .unset, .unset, .unset, .unset, .unset] []))
    refine own_st ?_ (fun t_ k_ => XS.iload X49.here hx rfl (hb hby at_62) rfl k_)
    show own_G p.tables e below _ _ (T49.setTop (mkF m 64 #[.val (.long q0), .second, .val (.long q1), .second, .val (.long q2), .second, .val (.long q3), .second, .val (.int p4), .val (.long (q0 &&& (9223372036854775807 : Int64))), .second, .val (.long (q1 &&& (9223372036854775807 : Int64))), .second, .val (.long (q2 &&& (9223372036854775807 : Int64))), .second, .val (.long (q3 &&& (9223372036854775807 : Int64))), .second, .val (.ref b1), .unset, .unset, .unset, .unset, .unset, .unset] [(.int p4)]))
    refine own_st ?_ (fun t_ k_ => XS.iconst X49.here hx rfl (hb hby at_64) k_)
    show own_G p.tables e below _ _ (T49.setTop (mkF m 65 #[.val (.long q0), .second, .val (.long q1), .second, .val (.long q2), .second, .val (.long q3), .second, .val (.int p4), .val (.long (q0 &&& (9223372036854775807 : Int64))), .second, .val (.long (q1 &&& (9223372036854775807 : Int64))), .second, .val (.long (q2 &&& (9223372036854775807 : Int64))), .second, .val (.long (q3 &&& (9223372036854775807 : Int64))), .second, .val (.ref b1), .unset, .unset, .unset, .unset, .unset, .unset] [(.int (2 : Int32)), (.int p4)]))
    refine own_st ?_ (fun t_ k_ => XS.iand X49.here hx rfl (hb hby at_65) rfl k_)
    show own_G p.tables e below _ _ (T49.setTop (mkF m 66 #[.val (.long q0), .second, .val (.long q1), .second, .val (.long q2), .second, .val (.long q3), .second, .val (.int p4), .val (.long (q0 &&& (9223372036854775807 : Int64))), .second, .val (.long (q1 &&& (9223372036854775807 : Int64))), .second, .val (.long (q2 &&& (9223372036854775807 : Int64))), .second, .val (.long (q3 &&& (9223372036854775807 : Int64))), .second, .val (.ref b1), .unset, .unset, .unset, .unset, .unset, .unset] [(.int (p4 &&& (2 : Int32)))]))
    by_cases hc66 : (p4 &&& (2 : Int32)) = (0 : Int32)
    · refine own_st ?_ (fun t_ k_ => XS.ifYes X49.here hx rfl (pc0 := 66) (pc' := 75) rfl (hb hby at_66) rfl ((if0 _ _).trans (teq hc66).1) (by decide) (by decide) k_)
      show own_G p.tables e below _ _ (T49.setTop (mkF m 75 #[.val (.long q0), .second, .val (.long q1), .second, .val (.long q2), .second, .val (.long q3), .second, .val (.int p4), .val (.long (q0 &&& (9223372036854775807 : Int64))), .second, .val (.long (q1 &&& (9223372036854775807 : Int64))), .second, .val (.long (q2 &&& (9223372036854775807 : Int64))), .second, .val (.long (q3 &&& (9223372036854775807 : Int64))), .second, .val (.ref b1), .unset, .unset, .unset, .unset, .unset, .unset] []))
      refine own_st ?_ (fun t_ k_ => XS.aload X49.here hx rfl (hb hby at_75) rfl rfl k_)
      show own_G p.tables e below _ _ (T49.setTop (mkF m 77 #[.val (.long q0), .second, .val (.long q1), .second, .val (.long q2), .second, .val (.long q3), .second, .val (.int p4), .val (.long (q0 &&& (9223372036854775807 : Int64))), .second, .val (.long (q1 &&& (9223372036854775807 : Int64))), .second, .val (.long (q2 &&& (9223372036854775807 : Int64))), .second, .val (.long (q3 &&& (9223372036854775807 : Int64))), .second, .val (.ref b1), .unset, .unset, .unset, .unset, .unset, .unset] [(.ref b1)]))
      obtain ⟨cq52, kq52, q52a, q52b, q52c⟩ := isOf hZ rfl F50_E
      obtain ⟨_, _, ⟨T52, L52, k52, n52⟩, -, X52, ⟨Lc52, hQ52, l52, y52, z52⟩, st52⟩ := X49.virtualBack hx (y := (⟨"com/example/termwright/termwright/Spool$Record", "clear", "()Lcom/example/termwright/termwright/Spool$Record;"⟩ : MethodName)) (z := (⟨"com/example/termwright/termwright/Spool$Record", "clear", "()Lcom/example/termwright/termwright/Spool$Record;"⟩ : MethodName)) hown (mvT hZ (hw _ (List.mem_of_getElem? (i := 33) rfl))) (mvT hZ (hw _ (List.mem_of_getElem? (i := 34) rfl))) (notFace_of_selects (args := #[]) (mvT hZ (hw _ (List.mem_of_getElem? (i := 36) rfl)))) (mvT hZ (hw _ (List.mem_of_getElem? (i := 36) rfl))) (mvT hZ (hw _ (List.mem_of_getElem? (i := 35) rfl))) (by decide) (backOf (W := 0) (rm6 l Z _ hw [] b1 t3 (0 + own_len nA + own_len nB) (0) (own_put (own_put (fun _ => 0) (0) nA) (0 + own_len nA) nB) T49.heap n0 Zs51 g_b1 F50_E Fb49 Fl49 Fp49 M49 hne3) hZ (hw _ (List.mem_of_getElem? (i := 37) rfl)) (hw _ (List.mem_of_getElem? (i := 3) rfl)) (by decide) (by decide)) q52a q52c (g := (mkF m 77 #[.val (.long q0), .second, .val (.long q1), .second, .val (.long q2), .second, .val (.long q3), .second, .val (.int p4), .val (.long (q0 &&& (9223372036854775807 : Int64))), .second, .val (.long (q1 &&& (9223372036854775807 : Int64))), .second, .val (.long (q2 &&& (9223372036854775807 : Int64))), .second, .val (.long (q3 &&& (9223372036854775807 : Int64))), .second, .val (.ref b1), .unset, .unset, .unset, .unset, .unset, .unset] [(.ref b1)])) rfl (by rw [hml]; rfl) (Steps.refl _) (argsL := []) (rest := []) (lenOf pd_2 rfl) rfl (by show 2 * 0 + _ ≤ _; exact Nat.le_of_eq rfl) (hb hby at_77) (fun _ _ => ⟨rfl, rfl, (by decide : 2 + 0 ≤ _), (by decide : 259 + 0 ≤ _)⟩)
      dsimp only [Pt.U, Pt.locs, Pt.cells, Pt.slots] at X52 l52 y52 z52 st52 hQ52
      subst l52 y52 z52
      obtain ⟨rfl, N52q, hq52⟩ := hQ52
      have N52 := Fr.app N49 N52q
      obtain ⟨K52, Fb52, Fl52, Fp52, M52⟩ := hq52
      have F53_E : Exa Z T52.heap b1 "com/example/termwright/termwright/Spool$Record" := F50_E.keep K52
      have F54_P : own_M Z T52.heap t3 (own_put (own_put (fun _ => 0) (0) nA) (0 + own_len nA) nB) := own_M_keep M49 K52 (ninS (Ne.symm hne3) nin0)
      have Zs55 : n0 ≤ T52.heap.size := Nat.le_trans Zs51 K52.1
      refine own_st ?_ (fun t_ k_ => st52.trans k_)
      show own_G p.tables e below _ _ (T52.setTop (mkF m 80 #[.val (.long q0), .second, .val (.long q1), .second, .val (.long q2), .second, .val (.long q3), .second, .val (.int p4), .val (.long (q0 &&& (9223372036854775807 : Int64))), .second, .val (.long (q1 &&& (9223372036854775807 : Int64))), .second, .val (.long (q2 &&& (9223372036854775807 : Int64))), .second, .val (.long (q3 &&& (9223372036854775807 : Int64))), .second, .val (.ref b1), .unset, .unset, .unset, .unset, .unset, .unset] [(.ref b1)]))
      refine own_st ?_ (fun t_ k_ => XS.astore X52.here hx rfl (hb hby at_80) rfl rfl (l' := #[.val (.long q0), .second, .val (.long q1), .second, .val (.long q2), .second, .val (.long q3), .second, .val (.int p4), .val (.long (q0 &&& (9223372036854775807 : Int64))), .second, .val (.long (q1 &&& (9223372036854775807 : Int64))), .second, .val (.long (q2 &&& (9223372036854775807 : Int64))), .second, .val (.long (q3 &&& (9223372036854775807 : Int64))), .second, .val (.ref b1), .val (.ref b1), .unset, .unset, .unset, .unset, .unset]) rfl k_)
      show own_G p.tables e below _ _ (T52.setTop (mkF m 82 #[.val (.long q0), .second, .val (.long q1), .second, .val (.long q2), .second, .val (.long q3), .second, .val (.int p4), .val (.long (q0 &&& (9223372036854775807 : Int64))), .second, .val (.long (q1 &&& (9223372036854775807 : Int64))), .second, .val (.long (q2 &&& (9223372036854775807 : Int64))), .second, .val (.long (q3 &&& (9223372036854775807 : Int64))), .second, .val (.ref b1), .val (.ref b1), .unset, .unset, .unset, .unset, .unset] []))
      refine own_st ?_ (fun t_ k_ => XS.aload X52.here hx rfl (hb hby at_82) rfl rfl k_)
      show own_G p.tables e below _ _ (T52.setTop (mkF m 84 #[.val (.long q0), .second, .val (.long q1), .second, .val (.long q2), .second, .val (.long q3), .second, .val (.int p4), .val (.long (q0 &&& (9223372036854775807 : Int64))), .second, .val (.long (q1 &&& (9223372036854775807 : Int64))), .second, .val (.long (q2 &&& (9223372036854775807 : Int64))), .second, .val (.long (q3 &&& (9223372036854775807 : Int64))), .second, .val (.ref b1), .val (.ref b1), .unset, .unset, .unset, .unset, .unset] [(.ref b1)]))
      refine own_st ?_ (fun t_ k_ => XS.aload X52.here hx rfl (hb hby at_84) rfl rfl k_)
      show own_G p.tables e below _ _ (T52.setTop (mkF m 86 #[.val (.long q0), .second, .val (.long q1), .second, .val (.long q2), .second, .val (.long q3), .second, .val (.int p4), .val (.long (q0 &&& (9223372036854775807 : Int64))), .second, .val (.long (q1 &&& (9223372036854775807 : Int64))), .second, .val (.long (q2 &&& (9223372036854775807 : Int64))), .second, .val (.long (q3 &&& (9223372036854775807 : Int64))), .second, .val (.ref b1), .val (.ref b1), .unset, .unset, .unset, .unset, .unset] [(.ref b1), (.ref b1)]))
      refine own_st ?_ (fun t_ k_ => Jvm.RoadKit.acmp (g := (mkF m 86 #[.val (.long q0), .second, .val (.long q1), .second, .val (.long q2), .second, .val (.long q3), .second, .val (.int p4), .val (.long (q0 &&& (9223372036854775807 : Int64))), .second, .val (.long (q1 &&& (9223372036854775807 : Int64))), .second, .val (.long (q2 &&& (9223372036854775807 : Int64))), .second, .val (.long (q3 &&& (9223372036854775807 : Int64))), .second, .val (.ref b1), .val (.ref b1), .unset, .unset, .unset, .unset, .unset] [(.ref b1), (.ref b1)])) X52 hx rfl rfl rfl (pc0 := 86) (pc' := 89) (same := true) rfl (hb hby at_86) rfl (decide_eq_true rfl) (by decide) (by decide) k_)
      show own_G p.tables e below _ _ (T52.setTop (mkF m 89 #[.val (.long q0), .second, .val (.long q1), .second, .val (.long q2), .second, .val (.long q3), .second, .val (.int p4), .val (.long (q0 &&& (9223372036854775807 : Int64))), .second, .val (.long (q1 &&& (9223372036854775807 : Int64))), .second, .val (.long (q2 &&& (9223372036854775807 : Int64))), .second, .val (.long (q3 &&& (9223372036854775807 : Int64))), .second, .val (.ref b1), .val (.ref b1), .unset, .unset, .unset, .unset, .unset] []))
      refine own_st ?_ (fun t_ k_ => XS.iconst X52.here hx rfl (hb hby at_89) k_)
      show own_G p.tables e below _ _ (T52.setTop (mkF m 90 #[.val (.long q0), .second, .val (.long q1), .second, .val (.long q2), .second, .val (.long q3), .second, .val (.int p4), .val (.long (q0 &&& (9223372036854775807 : Int64))), .second, .val (.long (q1 &&& (9223372036854775807 : Int64))), .second, .val (.long (q2 &&& (9223372036854775807 : Int64))), .second, .val (.long (q3 &&& (9223372036854775807 : Int64))), .second, .val (.ref b1), .val (.ref b1), .unset, .unset, .unset, .unset, .unset] [(.int (1 : Int32))]))
      refine own_st ?_ (fun t_ k_ => XS.goto X52.here hx rfl (pc0 := 90) (pc' := 94) rfl (hb hby at_90) (by decide) (by decide) k_)
      show own_G p.tables e below _ _ (T52.setTop (mkF m 94 #[.val (.long q0), .second, .val (.long q1), .second, .val (.long q2), .second, .val (.long q3), .second, .val (.int p4), .val (.long (q0 &&& (9223372036854775807 : Int64))), .second, .val (.long (q1 &&& (9223372036854775807 : Int64))), .second, .val (.long (q2 &&& (9223372036854775807 : Int64))), .second, .val (.long (q3 &&& (9223372036854775807 : Int64))), .second, .val (.ref b1), .val (.ref b1), .unset, .unset, .unset, .unset, .unset] [(.int (1 : Int32))]))
      refine own_st ?_ (fun t_ k_ => XS.istore X52.here hx rfl (hb hby at_94) rfl (l' := #[.val (.long q0), .second, .val (.long q1), .second, .val (.long q2), .second, .val (.long q3), .second, .val (.int p4), .val (.long (q0 &&& (9223372036854775807 : Int64))), .second, .val (.long (q1 &&& (9223372036854775807 : Int64))), .second, .val (.long (q2 &&& (9223372036854775807 : Int64))), .second, .val (.long (q3 &&& (9223372036854775807 : Int64))), .second, .val (.ref b1), .val (.ref b1), .val (.int (1 : Int32)), .unset, .unset, .unset, .unset]) rfl k_)
      show own_G p.tables e below _ _ (T52.setTop (mkF m 96 #[.val (.long q0), .second, .val (.long q1), .second, .val (.long q2), .second, .val (.long q3), .second, .val (.int p4), .val (.long (q0 &&& (9223372036854775807 : Int64))), .second, .val (.long (q1 &&& (9223372036854775807 : Int64))), .second, .val (.long (q2 &&& (9223372036854775807 : Int64))), .second, .val (.long (q3 &&& (9223372036854775807 : Int64))), .second, .val (.ref b1), .val (.ref b1), .val (.int (1 : Int32)), .unset, .unset, .unset, .unset] []))
      refine own_st ?_ (fun t_ k_ => XS.aload X52.here hx rfl (hb hby at_96) rfl rfl k_)
      show own_G p.tables e below _ _ (T52.setTop (mkF m 98 #[.val (.long q0), .second, .val (.long q1), .second, .val (.long q2), .second, .val (.long q3), .second, .val (.int p4), .val (.long (q0 &&& (9223372036854775807 : Int64))), .second, .val (.long (q1 &&& (9223372036854775807 : Int64))), .second, .val (.long (q2 &&& (9223372036854775807 : Int64))), .second, .val (.long (q3 &&& (9223372036854775807 : Int64))), .second, .val (.ref b1), .val (.ref b1), .val (.int (1 : Int32)), .unset, .unset, .unset, .unset] [(.ref b1)]))
      refine own_st ?_ (fun t_ k_ => XS.lload X52.here hx rfl (hb hby at_98) rfl k_)
      show own_G p.tables e below _ _ (T52.setTop (mkF m 100 #[.val (.long q0), .second, .val (.long q1), .second, .val (.long q2), .second, .val (.long q3), .second, .val (.int p4), .val (.long (q0 &&& (9223372036854775807 : Int64))), .second, .val (.long (q1 &&& (9223372036854775807 : Int64))), .second, .val (.long (q2 &&& (9223372036854775807 : Int64))), .second, .val (.long (q3 &&& (9223372036854775807 : Int64))), .second, .val (.ref b1), .val (.ref b1), .val (.int (1 : Int32)), .unset, .unset, .unset, .unset] [(.long (q2 &&& (9223372036854775807 : Int64))), (.ref b1)]))
      obtain ⟨cq56, kq56, q56a, q56b, q56c⟩ := isOf hZ rfl F53_E
      obtain ⟨_, _, ⟨T56, L56, k56, n56⟩, -, X56, ⟨Lc56, hQ56, l56, y56, z56⟩, st56⟩ := X52.virtualBack hx (y := (⟨"com/example/termwright/termwright/Spool$Record", "putNumber", "(J)Lcom/example/termwright/termwright/Spool$Record;"⟩ : MethodName)) (z := (⟨"com/example/termwright/termwright/Spool$Record", "putNumber", "(J)Lcom/example/termwright/termwright/Spool$Record;"⟩ : MethodName)) hown (mvT hZ (hw _ (List.mem_of_getElem? (i := 13) rfl))) (mvT hZ (hw _ (List.mem_of_getElem? (i := 14) rfl))) (notFace_of_selects (args := #[]) (mvT hZ (hw _ (List.mem_of_getElem? (i := 16) rfl)))) (mvT hZ (hw _ (List.mem_of_getElem? (i := 16) rfl))) (mvT hZ (hw _ (List.mem_of_getElem? (i := 15) rfl))) (by decide) (backOf (W := 0) (rm3 l Z _ hw [] b1 (q2 &&& (9223372036854775807 : Int64)) t3 (0) (0) (own_put (own_put (fun _ => 0) (0) nA) (0 + own_len nA) nB) nC T52.heap n0 Zs55 g_b1 g_t3 F53_E Fb52 Fl52 Fp52 M52 hne3 hC hC63 (by decide)) hZ (hw _ (List.mem_of_getElem? (i := 17) rfl)) (hw _ (List.mem_of_getElem? (i := 3) rfl)) (by decide) (by decide)) q56a q56c (g := (mkF m 100 #[.val (.long q0), .second, .val (.long q1), .second, .val (.long q2), .second, .val (.long q3), .second, .val (.int p4), .val (.long (q0 &&& (9223372036854775807 : Int64))), .second, .val (.long (q1 &&& (9223372036854775807 : Int64))), .second, .val (.long (q2 &&& (9223372036854775807 : Int64))), .second, .val (.long (q3 &&& (9223372036854775807 : Int64))), .second, .val (.ref b1), .val (.ref b1), .val (.int (1 : Int32)), .unset, .unset, .unset, .unset] [(.long (q2 &&& (9223372036854775807 : Int64))), (.ref b1)])) rfl (by rw [hml]; rfl) (Steps.refl _) (argsL := [(.long (q2 &&& (9223372036854775807 : Int64)))]) (rest := []) (lenOf pd_3 rfl) rfl (by show 2 * 0 + _ ≤ _; exact Nat.le_of_eq rfl) (hb hby at_100) (fun _ _ => ⟨rfl, rfl, (by decide : 2 + 0 ≤ _), (by decide : 259 + 0 ≤ _)⟩)
      dsimp only [Pt.U, Pt.locs, Pt.cells, Pt.slots] at X56 l56 y56 z56 st56 hQ56
      subst l56 y56 z56
      obtain ⟨rfl, N56q, hq56⟩ := hQ56
      have N56 := Fr.app N52 N56q
      obtain ⟨K56, Fb56, Fl56, Fp56, M56⟩ := hq56
      have F57_E : Exa Z T56.heap b1 "com/example/termwright/termwright/Spool$Record" := F53_E.keep K56
      have Zs58 : n0 ≤ T56.heap.size := Nat.le_trans Zs55 K56.1
      refine own_st ?_ (fun t_ k_ => st56.trans k_)
      show own_G p.tables e below _ _ (T56.setTop (mkF m 103 #[.val (.long q0), .second, .val (.long q1), .second, .val (.long q2), .second, .val (.long q3), .second, .val (.int p4), .val (.long (q0 &&& (9223372036854775807 : Int64))), .second, .val (.long (q1 &&& (9223372036854775807 : Int64))), .second, .val (.long (q2 &&& (9223372036854775807 : Int64))), .second, .val (.long (q3 &&& (9223372036854775807 : Int64))), .second, .val (.ref b1), .val (.ref b1), .val (.int (1 : Int32)), .unset, .unset, .unset, .unset] [(.ref b1)]))
      refine own_st ?_ (fun t_ k_ => XS.pop X56.here hx rfl (hb hby at_103) rfl rfl k_)
      show own_G p.tables e below _ _ (T56.setTop (mkF m 104 #[.val (.long q0), .second, .val (.long q1), .second, .val (.long q2), .second, .val (.long q3), .second, .val (.int p4), .val (.long (q0 &&& (9223372036854775807 : Int64))), .second, .val (.long (q1 &&& (9223372036854775807 : Int64))), .second, .val (.long (q2 &&& (9223372036854775807 : Int64))), .second, .val (.long (q3 &&& (9223372036854775807 : Int64))), .second, .val (.ref b1), .val (.ref b1), .val (.int (1 : Int32)), .unset, .unset, .unset, .unset] []))
      refine own_st ?_ (fun t_ k_ => XS.aload X56.here hx rfl (hb hby at_104) rfl rfl k_)
      show own_G p.tables e below _ _ (T56.setTop (mkF m 106 #[.val (.long q0), .second, .val (.long q1), .second, .val (.long q2), .second, .val (.long q3), .second, .val (.int p4), .val (.long (q0 &&& (9223372036854775807 : Int64))), .second, .val (.long (q1 &&& (9223372036854775807 : Int64))), .second, .val (.long (q2 &&& (9223372036854775807 : Int64))), .second, .val (.long (q3 &&& (9223372036854775807 : Int64))), .second, .val (.ref b1), .val (.ref b1), .val (.int (1 : Int32)), .unset, .unset, .unset, .unset] [(.ref b1)]))
      refine own_st ?_ (fun t_ k_ => XS.lload X56.here hx rfl (hb hby at_106) rfl k_)
      show own_G p.tables e below _ _ (T56.setTop (mkF m 108 #[.val (.long q0), .second, .val (.long q1), .second, .val (.long q2), .second, .val (.long q3), .second, .val (.int p4), .val (.long (q0 &&& (9223372036854775807 : Int64))), .second, .val (.long (q1 &&& (9223372036854775807 : Int64))), .second, .val (.long (q2 &&& (9223372036854775807 : Int64))), .second, .val (.long (q3 &&& (9223372036854775807 : Int64))), .second, .val (.ref b1), .val (.ref b1), .val (.int (1 : Int32)), .unset, .unset, .unset, .unset] [(.long (q3 &&& (9223372036854775807 : Int64))), (.ref b1)]))
      obtain ⟨cq59, kq59, q59a, q59b, q59c⟩ := isOf hZ rfl F57_E
      obtain ⟨_, _, ⟨T59, L59, k59, n59⟩, -, X59, ⟨Lc59, hQ59, l59, y59, z59⟩, st59⟩ := X56.virtualBack hx (y := (⟨"com/example/termwright/termwright/Spool$Record", "putNumber", "(J)Lcom/example/termwright/termwright/Spool$Record;"⟩ : MethodName)) (z := (⟨"com/example/termwright/termwright/Spool$Record", "putNumber", "(J)Lcom/example/termwright/termwright/Spool$Record;"⟩ : MethodName)) hown (mvT hZ (hw _ (List.mem_of_getElem? (i := 13) rfl))) (mvT hZ (hw _ (List.mem_of_getElem? (i := 14) rfl))) (notFace_of_selects (args := #[]) (mvT hZ (hw _ (List.mem_of_getElem? (i := 16) rfl)))) (mvT hZ (hw _ (List.mem_of_getElem? (i := 16) rfl))) (mvT hZ (hw _ (List.mem_of_getElem? (i := 15) rfl))) (by decide) (backOf (W := 0) (rm3 l Z _ hw [] b1 (q3 &&& (9223372036854775807 : Int64)) t3 (0 + own_len nC) (0) (own_put (own_put (own_put (fun _ => 0) (0) nA) (0 + own_len nA) nB) (0) nC) nD T56.heap n0 Zs58 g_b1 g_t3 F57_E Fb56 Fl56 Fp56 M56 hne3 hD hD63 (by have := own_len9 hC63; omega)) hZ (hw _ (List.mem_of_getElem? (i := 17) rfl)) (hw _ (List.mem_of_getElem? (i := 3) rfl)) (by decide) (by decide)) q59a q59c (g := (mkF m 108 #[.val (.long q0), .second, .val (.long q1), .second, .val (.long q2), .second, .val (.long q3), .second, .val (.int p4), .val (.long (q0 &&& (9223372036854775807 : Int64))), .second, .val (.long (q1 &&& (9223372036854775807 : Int64))), .second, .val (.long (q2 &&& (9223372036854775807 : Int64))), .second, .val (.long (q3 &&& (9223372036854775807 : Int64))), .second, .val (.ref b1), .val (.ref b1), .val (.int (1 : Int32)), .unset, .unset, .unset, .unset] [(.long (q3 &&& (9223372036854775807 : Int64))), (.ref b1)])) rfl (by rw [hml]; rfl) (Steps.refl _) (argsL := [(.long (q3 &&& (9223372036854775807 : Int64)))]) (rest := []) (lenOf pd_3 rfl) rfl (by show 2 * 0 + _ ≤ _; exact Nat.le_of_eq rfl) (hb hby at_108) (fun _ _ => ⟨rfl, rfl, (by decide : 2 + 0 ≤ _), (by decide : 259 + 0 ≤ _)⟩)
      dsimp only [Pt.U, Pt.locs, Pt.cells, Pt.slots] at X59 l59 y59 z59 st59 hQ59
      subst l59 y59 z59
      obtain ⟨rfl, N59q, hq59⟩ := hQ59
      have N59 := Fr.app N56 N59q
      obtain ⟨K59, Fb59, Fl59, Fp59, M59⟩ := hq59
      have F60_E : Exa Z T59.heap b1 "com/example/termwright/termwright/Spool$Record" := F57_E.keep K59
      have Zs61 : n0 ≤ T59.heap.size := Nat.le_trans Zs58 K59.1
      refine own_st ?_ (fun t_ k_ => st59.trans k_)
      show own_G p.tables e below _ _ (T59.setTop (mkF m 111 #[.val (.long q0), .second, .val (.long q1), .second, .val (.long q2), .second, .val (.long q3), .second, .val (.int p4), .val (.long (q0 &&& (9223372036854775807 : Int64))), .second, .val (.long (q1 &&& (9223372036854775807 : Int64))), .second, .val (.long (q2 &&& (9223372036854775807 : Int64))), .second, .val (.long (q3 &&& (9223372036854775807 : Int64))), .second, .val (.ref b1), .val (.ref b1), .val (.int (1 : Int32)), .unset, .unset, .unset, .unset] [(.ref b1)]))
      refine own_st ?_ (fun t_ k_ => XS.pop X59.here hx rfl (hb hby at_111) rfl rfl k_)
      show own_G p.tables e below _ _ (T59.setTop (mkF m 112 #[.val (.long q0), .second, .val (.long q1), .second, .val (.long q2), .second, .val (.long q3), .second, .val (.int p4), .val (.long (q0 &&& (9223372036854775807 : Int64))), .second, .val (.long (q1 &&& (9223372036854775807 : Int64))), .second, .val (.long (q2 &&& (9223372036854775807 : Int64))), .second, .val (.long (q3 &&& (9223372036854775807 : Int64))), .second, .val (.ref b1), .val (.ref b1), .val (.int (1 : Int32)), .unset, .unset, .unset, .unset] []))
      refine own_st ?_ (fun t_ k_ => XS.aload X59.here hx rfl (hb hby at_112) rfl rfl k_)
      show own_G p.tables e below _ _ (T59.setTop (mkF m 114 #[.val (.long q0), .second, .val (.long q1), .second, .val (.long q2), .second, .val (.long q3), .second, .val (.int p4), .val (.long (q0 &&& (9223372036854775807 : Int64))), .second, .val (.long (q1 &&& (9223372036854775807 : Int64))), .second, .val (.long (q2 &&& (9223372036854775807 : Int64))), .second, .val (.long (q3 &&& (9223372036854775807 : Int64))), .second, .val (.ref b1), .val (.ref b1), .val (.int (1 : Int32)), .unset, .unset, .unset, .unset] [(.ref b1)]))
      obtain ⟨cq62, kq62, q62a, q62b, q62c⟩ := isOf hZ rfl F60_E
      obtain ⟨_, _, ⟨T62, L62, k62, n62⟩, -, X62, ⟨Lc62, hQ62, l62, y62, z62⟩, st62⟩ := X59.virtualBack hx (y := (⟨"com/example/termwright/termwright/Spool$Record", "number", "()J"⟩ : MethodName)) (z := (⟨"com/example/termwright/termwright/Spool$Record", "number", "()J"⟩ : MethodName)) hown (mvT hZ (hw _ (List.mem_of_getElem? (i := 26) rfl))) (mvT hZ (hw _ (List.mem_of_getElem? (i := 27) rfl))) (notFace_of_selects (args := #[]) (mvT hZ (hw _ (List.mem_of_getElem? (i := 29) rfl)))) (mvT hZ (hw _ (List.mem_of_getElem? (i := 29) rfl))) (mvT hZ (hw _ (List.mem_of_getElem? (i := 28) rfl))) (by decide) (backOf (W := 0) (rm5 l Z _ hw [] b1 t3 (0 + own_len nC + own_len nD) (0) (own_put (own_put (own_put (own_put (fun _ => 0) (0) nA) (0 + own_len nA) nB) (0) nC) (0 + own_len nC) nD) nC (q2 &&& (9223372036854775807 : Int64)) T59.heap n0 Zs61 g_b1 g_t3 F60_E Fb59 Fl59 Fp59 M59 hne3 hC hC63 (by have := own_len9 hC63; omega) (own_two _ 0 nC nD)) hZ (hw _ (List.mem_of_getElem? (i := 30) rfl)) (hw _ (List.mem_of_getElem? (i := 3) rfl)) (by decide) (by decide)) q62a q62c (g := (mkF m 114 #[.val (.long q0), .second, .val (.long q1), .second, .val (.long q2), .second, .val (.long q3), .second, .val (.int p4), .val (.long (q0 &&& (9223372036854775807 : Int64))), .second, .val (.long (q1 &&& (9223372036854775807 : Int64))), .second, .val (.long (q2 &&& (9223372036854775807 : Int64))), .second, .val (.long (q3 &&& (9223372036854775807 : Int64))), .second, .val (.ref b1), .val (.ref b1), .val (.int (1 : Int32)), .unset, .unset, .unset, .unset] [(.ref b1)])) rfl (by rw [hml]; rfl) (Steps.refl _) (argsL := []) (rest := []) (lenOf pd_4 rfl) rfl (by show 2 * 0 + _ ≤ _; exact Nat.le_of_eq rfl) (hb hby at_114) (fun _ _ => ⟨rfl, rfl, (by decide : 2 + 0 ≤ _), (by decide : 259 + 0 ≤ _)⟩)
      dsimp only [Pt.U, Pt.locs, Pt.cells, Pt.slots] at X62 l62 y62 z62 st62 hQ62
      subst l62 y62 z62
      obtain ⟨rfl, N62q, hq62⟩ := hQ62
      have N62 := Fr.app N59 N62q
      obtain ⟨K62, Fb62, Fl62, Fp62, M62⟩ := hq62
      have F63_E : Exa Z T62.heap b1 "com/example/termwright/termwright/Spool$Record" := F60_E.keep K62
      have F64_P : own_M Z T62.heap t3 (own_put (own_put (own_put (own_put (fun _ => 0) (0) nA) (0 + own_len nA) nB) (0) nC) (0 + own_len nC) nD) := own_M_keep M59 K62 (ninS (Ne.symm hne3) nin0)
      have Zs65 : n0 ≤ T62.heap.size := Nat.le_trans Zs61 K62.1
      refine own_st ?_ (fun t_ k_ => st62.trans k_)
      show own_G p.tables e below _ _ (T62.setTop (mkF m 117 #[.val (.long q0), .second, .val (.long q1), .second, .val (.long q2), .second, .val (.long q3), .second, .val (.int p4), .val (.long (q0 &&& (9223372036854775807 : Int64))), .second, .val (.long (q1 &&& (9223372036854775807 : Int64))), .second, .val (.long (q2 &&& (9223372036854775807 : Int64))), .second, .val (.long (q3 &&& (9223372036854775807 : Int64))), .second, .val (.ref b1), .val (.ref b1), .val (.int (1 : Int32)), .unset, .unset, .unset, .unset] [(.long (q2 &&& (9223372036854775807 : Int64)))]))
      refine own_st ?_ (fun t_ k_ => XS.lstore X62.here hx rfl (hb hby at_117) rfl (l' := #[.val (.long q0), .second, .val (.long q1), .second, .val (.long q2), .second, .val (.long q3), .second, .val (.int p4), .val (.long (q0 &&& (9223372036854775807 : Int64))), .second, .val (.long (q1 &&& (9223372036854775807 : Int64))), .second, .val (.long (q2 &&& (9223372036854775807 : Int64))), .second, .val (.long (q3 &&& (9223372036854775807 : Int64))), .second, .val (.ref b1), .val (.ref b1), .val (.int (1 : Int32)), .val (.long (q2 &&& (9223372036854775807 : Int64))), .second, .unset, .unset]) rfl k_)
      show own_G p.tables e below _ _ (T62.setTop (mkF m 119 #[.val (.long q0), .second, .val (.long q1), .second, .val (.long q2), .second, .val (.long q3), .second, .val (.int p4), .val (.long (q0 &&& (9223372036854775807 : Int64))), .second, .val (.long (q1 &&& (9223372036854775807 : Int64))), .second, .val (.long (q2 &&& (9223372036854775807 : Int64))), .second, .val (.long (q3 &&& (9223372036854775807 : Int64))), .second, .val (.ref b1), .val (.ref b1), .val (.int (1 : Int32)), .val (.long (q2 &&& (9223372036854775807 : Int64))), .second, .unset, .unset] []))
      refine own_st ?_ (fun t_ k_ => XS.aload X62.here hx rfl (hb hby at_119) rfl rfl k_)
      show own_G p.tables e below _ _ (T62.setTop (mkF m 121 #[.val (.long q0), .second, .val (.long q1), .second, .val (.long q2), .second, .val (.long q3), .second, .val (.int p4), .val (.long (q0 &&& (9223372036854775807 : Int64))), .second, .val (.long (q1 &&& (9223372036854775807 : Int64))), .second, .val (.long (q2 &&& (9223372036854775807 : Int64))), .second, .val (.long (q3 &&& (9223372036854775807 : Int64))), .second, .val (.ref b1), .val (.ref b1), .val (.int (1 : Int32)), .val (.long (q2 &&& (9223372036854775807 : Int64))), .second, .unset, .unset] [(.ref b1)]))
      obtain ⟨cq66, kq66, q66a, q66b, q66c⟩ := isOf hZ rfl F63_E
      obtain ⟨_, _, ⟨T66, L66, k66, n66⟩, -, X66, ⟨Lc66, hQ66, l66, y66, z66⟩, st66⟩ := X62.virtualBack hx (y := (⟨"com/example/termwright/termwright/Spool$Record", "number", "()J"⟩ : MethodName)) (z := (⟨"com/example/termwright/termwright/Spool$Record", "number", "()J"⟩ : MethodName)) hown (mvT hZ (hw _ (List.mem_of_getElem? (i := 26) rfl))) (mvT hZ (hw _ (List.mem_of_getElem? (i := 27) rfl))) (notFace_of_selects (args := #[]) (mvT hZ (hw _ (List.mem_of_getElem? (i := 29) rfl)))) (mvT hZ (hw _ (List.mem_of_getElem? (i := 29) rfl))) (mvT hZ (hw _ (List.mem_of_getElem? (i := 28) rfl))) (by decide) (backOf (W := 0) (rm5 l Z _ hw [] b1 t3 (0 + own_len nC + own_len nD) (0 + own_len nC) (own_put (own_put (own_put (own_put (fun _ => 0) (0) nA) (0 + own_len nA) nB) (0) nC) (0 + own_len nC) nD) nD (q3 &&& (9223372036854775807 : Int64)) T62.heap n0 Zs65 g_b1 g_t3 F63_E Fb62 Fl62 Fp62 M62 hne3 hD hD63 (by have := own_len9 hC63; have := own_len9 hD63; omega) (own_at_put nD _ _)) hZ (hw _ (List.mem_of_getElem? (i := 30) rfl)) (hw _ (List.mem_of_getElem? (i := 3) rfl)) (by decide) (by decide)) q66a q66c (g := (mkF m 121 #[.val (.long q0), .second, .val (.long q1), .second, .val (.long q2), .second, .val (.long q3), .second, .val (.int p4), .val (.long (q0 &&& (9223372036854775807 : Int64))), .second, .val (.long (q1 &&& (9223372036854775807 : Int64))), .second, .val (.long (q2 &&& (9223372036854775807 : Int64))), .second, .val (.long (q3 &&& (9223372036854775807 : Int64))), .second, .val (.ref b1), .val (.ref b1), .val (.int (1 : Int32)), .val (.long (q2 &&& (9223372036854775807 : Int64))), .second, .unset, .unset] [(.ref b1)])) rfl (by rw [hml]; rfl) (Steps.refl _) (argsL := []) (rest := []) (lenOf pd_4 rfl) rfl (by show 2 * 0 + _ ≤ _; exact Nat.le_of_eq rfl) (hb hby at_121) (fun _ _ => ⟨rfl, rfl, (by decide : 2 + 0 ≤ _), (by decide : 259 + 0 ≤ _)⟩)
      dsimp only [Pt.U, Pt.locs, Pt.cells, Pt.slots] at X66 l66 y66 z66 st66 hQ66
      subst l66 y66 z66
      obtain ⟨rfl, N66q, hq66⟩ := hQ66
      have N66 := Fr.app N62 N66q
      obtain ⟨K66, Fb66, Fl66, Fp66, M66⟩ := hq66
      have F67_E : Exa Z T66.heap b1 "com/example/termwright/termwright/Spool$Record" := F63_E.keep K66
      have F68_P : own_M Z T66.heap t3 (own_put (own_put (own_put (own_put (fun _ => 0) (0) nA) (0 + own_len nA) nB) (0) nC) (0 + own_len nC) nD) := own_M_keep M62 K66 (ninS (Ne.symm hne3) nin0)
      have Zs69 : n0 ≤ T66.heap.size := Nat.le_trans Zs65 K66.1
      refine own_st ?_ (fun t_ k_ => st66.trans k_)
      show own_G p.tables e below _ _ (T66.setTop (mkF m 124 #[.val (.long q0), .second, .val (.long q1), .second, .val (.long q2), .second, .val (.long q3), .second, .val (.int p4), .val (.long (q0 &&& (9223372036854775807 : Int64))), .second, .val (.long (q1 &&& (9223372036854775807 : Int64))), .second, .val (.long (q2 &&& (9223372036854775807 : Int64))), .second, .val (.long (q3 &&& (9223372036854775807 : Int64))), .second, .val (.ref b1), .val (.ref b1), .val (.int (1 : Int32)), .val (.long (q2 &&& (9223372036854775807 : Int64))), .second, .unset, .unset] [(.long (q3 &&& (9223372036854775807 : Int64)))]))
      refine own_st ?_ (fun t_ k_ => XS.lstore X66.here hx rfl (hb hby at_124) rfl (l' := #[.val (.long q0), .second, .val (.long q1), .second, .val (.long q2), .second, .val (.long q3), .second, .val (.int p4), .val (.long (q0 &&& (9223372036854775807 : Int64))), .second, .val (.long (q1 &&& (9223372036854775807 : Int64))), .second, .val (.long (q2 &&& (9223372036854775807 : Int64))), .second, .val (.long (q3 &&& (9223372036854775807 : Int64))), .second, .val (.ref b1), .val (.ref b1), .val (.int (1 : Int32)), .val (.long (q2 &&& (9223372036854775807 : Int64))), .second, .val (.long (q3 &&& (9223372036854775807 : Int64))), .second]) rfl k_)
      show own_G p.tables e below _ _ (T66.setTop (mkF m 126 #[.val (.long q0), .second, .val (.long q1), .second, .val (.long q2), .second, .val (.long q3), .second, .val (.int p4), .val (.long (q0 &&& (9223372036854775807 : Int64))), .second, .val (.long (q1 &&& (9223372036854775807 : Int64))), .second, .val (.long (q2 &&& (9223372036854775807 : Int64))), .second, .val (.long (q3 &&& (9223372036854775807 : Int64))), .second, .val (.ref b1), .val (.ref b1), .val (.int (1 : Int32)), .val (.long (q2 &&& (9223372036854775807 : Int64))), .second, .val (.long (q3 &&& (9223372036854775807 : Int64))), .second] []))
      refine own_st ?_ (fun t_ k_ => XS.iload X66.here hx rfl (hb hby at_126) rfl k_)
      show own_G p.tables e below _ _ (T66.setTop (mkF m 128 #[.val (.long q0), .second, .val (.long q1), .second, .val (.long q2), .second, .val (.long q3), .second, .val (.int p4), .val (.long (q0 &&& (9223372036854775807 : Int64))), .second, .val (.long (q1 &&& (9223372036854775807 : Int64))), .second, .val (.long (q2 &&& (9223372036854775807 : Int64))), .second, .val (.long (q3 &&& (9223372036854775807 : Int64))), .second, .val (.ref b1), .val (.ref b1), .val (.int (1 : Int32)), .val (.long (q2 &&& (9223372036854775807 : Int64))), .second, .val (.long (q3 &&& (9223372036854775807 : Int64))), .second] [(.int (1 : Int32))]))
      refine own_st ?_ (fun t_ k_ => XS.ifNo X66.here hx rfl (hb hby at_128) rfl ((if0 _ _).trans (feq (by decide : ¬ ((1 : Int32) = (0 : Int32)))).1) k_)
      show own_G p.tables e below _ _ (T66.setTop (mkF m 131 #[.val (.long q0), .second, .val (.long q1), .second, .val (.long q2), .second, .val (.long q3), .second, .val (.int p4), .val (.long (q0 &&& (9223372036854775807 : Int64))), .second, .val (.long (q1 &&& (9223372036854775807 : Int64))), .second, .val (.long (q2 &&& (9223372036854775807 : Int64))), .second, .val (.long (q3 &&& (9223372036854775807 : Int64))), .second, .val (.ref b1), .val (.ref b1), .val (.int (1 : Int32)), .val (.long (q2 &&& (9223372036854775807 : Int64))), .second, .val (.long (q3 &&& (9223372036854775807 : Int64))), .second] []))
      refine own_st ?_ (fun t_ k_ => XS.lload X66.here hx rfl (hb hby at_131) rfl k_)
      show own_G p.tables e below _ _ (T66.setTop (mkF m 133 #[.val (.long q0), .second, .val (.long q1), .second, .val (.long q2), .second, .val (.long q3), .second, .val (.int p4), .val (.long (q0 &&& (9223372036854775807 : Int64))), .second, .val (.long (q1 &&& (9223372036854775807 : Int64))), .second, .val (.long (q2 &&& (9223372036854775807 : Int64))), .second, .val (.long (q3 &&& (9223372036854775807 : Int64))), .second, .val (.ref b1), .val (.ref b1), .val (.int (1 : Int32)), .val (.long (q2 &&& (9223372036854775807 : Int64))), .second, .val (.long (q3 &&& (9223372036854775807 : Int64))), .second] [(.long (q2 &&& (9223372036854775807 : Int64)))]))
      refine own_st ?_ (fun t_ k_ => XS.lload X66.here hx rfl (hb hby at_133) rfl k_)
      show own_G p.tables e below _ _ (T66.setTop (mkF m 135 #[.val (.long q0), .second, .val (.long q1), .second, .val (.long q2), .second, .val (.long q3), .second, .val (.int p4), .val (.long (q0 &&& (9223372036854775807 : Int64))), .second, .val (.long (q1 &&& (9223372036854775807 : Int64))), .second, .val (.long (q2 &&& (9223372036854775807 : Int64))), .second, .val (.long (q3 &&& (9223372036854775807 : Int64))), .second, .val (.ref b1), .val (.ref b1), .val (.int (1 : Int32)), .val (.long (q2 &&& (9223372036854775807 : Int64))), .second, .val (.long (q3 &&& (9223372036854775807 : Int64))), .second] [(.long (q2 &&& (9223372036854775807 : Int64))), (.long (q2 &&& (9223372036854775807 : Int64)))]))
      refine own_st ?_ (fun t_ k_ => XS.lcmp X66.here hx rfl (hb hby at_135) rfl k_)
      show own_G p.tables e below _ _ (T66.setTop (mkF m 136 #[.val (.long q0), .second, .val (.long q1), .second, .val (.long q2), .second, .val (.long q3), .second, .val (.int p4), .val (.long (q0 &&& (9223372036854775807 : Int64))), .second, .val (.long (q1 &&& (9223372036854775807 : Int64))), .second, .val (.long (q2 &&& (9223372036854775807 : Int64))), .second, .val (.long (q3 &&& (9223372036854775807 : Int64))), .second, .val (.ref b1), .val (.ref b1), .val (.int (1 : Int32)), .val (.long (q2 &&& (9223372036854775807 : Int64))), .second, .val (.long (q3 &&& (9223372036854775807 : Int64))), .second] [(.int (lcmpW (q2 &&& (9223372036854775807 : Int64)) (q2 &&& (9223372036854775807 : Int64))))]))
      refine own_st ?_ (fun t_ k_ => XS.ifNo X66.here hx rfl (hb hby at_136) rfl ((if0 _ _).trans (teq ((lw_eq _ _).mpr rfl)).2) k_)
      show own_G p.tables e below _ _ (T66.setTop (mkF m 139 #[.val (.long q0), .second, .val (.long q1), .second, .val (.long q2), .second, .val (.long q3), .second, .val (.int p4), .val (.long (q0 &&& (9223372036854775807 : Int64))), .second, .val (.long (q1 &&& (9223372036854775807 : Int64))), .second, .val (.long (q2 &&& (9223372036854775807 : Int64))), .second, .val (.long (q3 &&& (9223372036854775807 : Int64))), .second, .val (.ref b1), .val (.ref b1), .val (.int (1 : Int32)), .val (.long (q2 &&& (9223372036854775807 : Int64))), .second, .val (.long (q3 &&& (9223372036854775807 : Int64))), .second] []))
      refine own_st ?_ (fun t_ k_ => XS.lload X66.here hx rfl (hb hby at_139) rfl k_)
      show own_G p.tables e below _ _ (T66.setTop (mkF m 141 #[.val (.long q0), .second, .val (.long q1), .second, .val (.long q2), .second, .val (.long q3), .second, .val (.int p4), .val (.long (q0 &&& (9223372036854775807 : Int64))), .second, .val (.long (q1 &&& (9223372036854775807 : Int64))), .second, .val (.long (q2 &&& (9223372036854775807 : Int64))), .second, .val (.long (q3 &&& (9223372036854775807 : Int64))), .second, .val (.ref b1), .val (.ref b1), .val (.int (1 : Int32)), .val (.long (q2 &&& (9223372036854775807 : Int64))), .second, .val (.long (q3 &&& (9223372036854775807 : Int64))), .second] [(.long (q3 &&& (9223372036854775807 : Int64)))]))
      refine own_st ?_ (fun t_ k_ => XS.lload X66.here hx rfl (hb hby at_141) rfl k_)
      show own_G p.tables e below _ _ (T66.setTop (mkF m 143 #[.val (.long q0), .second, .val (.long q1), .second, .val (.long q2), .second, .val (.long q3), .second, .val (.int p4), .val (.long (q0 &&& (9223372036854775807 : Int64))), .second, .val (.long (q1 &&& (9223372036854775807 : Int64))), .second, .val (.long (q2 &&& (9223372036854775807 : Int64))), .second, .val (.long (q3 &&& (9223372036854775807 : Int64))), .second, .val (.ref b1), .val (.ref b1), .val (.int (1 : Int32)), .val (.long (q2 &&& (9223372036854775807 : Int64))), .second, .val (.long (q3 &&& (9223372036854775807 : Int64))), .second] [(.long (q3 &&& (9223372036854775807 : Int64))), (.long (q3 &&& (9223372036854775807 : Int64)))]))
      refine own_st ?_ (fun t_ k_ => XS.lcmp X66.here hx rfl (hb hby at_143) rfl k_)
      show own_G p.tables e below _ _ (T66.setTop (mkF m 144 #[.val (.long q0), .second, .val (.long q1), .second, .val (.long q2), .second, .val (.long q3), .second, .val (.int p4), .val (.long (q0 &&& (9223372036854775807 : Int64))), .second, .val (.long (q1 &&& (9223372036854775807 : Int64))), .second, .val (.long (q2 &&& (9223372036854775807 : Int64))), .second, .val (.long (q3 &&& (9223372036854775807 : Int64))), .second, .val (.ref b1), .val (.ref b1), .val (.int (1 : Int32)), .val (.long (q2 &&& (9223372036854775807 : Int64))), .second, .val (.long (q3 &&& (9223372036854775807 : Int64))), .second] [(.int (lcmpW (q3 &&& (9223372036854775807 : Int64)) (q3 &&& (9223372036854775807 : Int64))))]))
      refine own_st ?_ (fun t_ k_ => XS.ifNo X66.here hx rfl (hb hby at_144) rfl ((if0 _ _).trans (teq ((lw_eq _ _).mpr rfl)).2) k_)
      show own_G p.tables e below _ _ (T66.setTop (mkF m 147 #[.val (.long q0), .second, .val (.long q1), .second, .val (.long q2), .second, .val (.long q3), .second, .val (.int p4), .val (.long (q0 &&& (9223372036854775807 : Int64))), .second, .val (.long (q1 &&& (9223372036854775807 : Int64))), .second, .val (.long (q2 &&& (9223372036854775807 : Int64))), .second, .val (.long (q3 &&& (9223372036854775807 : Int64))), .second, .val (.ref b1), .val (.ref b1), .val (.int (1 : Int32)), .val (.long (q2 &&& (9223372036854775807 : Int64))), .second, .val (.long (q3 &&& (9223372036854775807 : Int64))), .second] []))
      refine own_st ?_ (fun t_ k_ => XS.iconst X66.here hx rfl (hb hby at_147) k_)
      show own_G p.tables e below _ _ (T66.setTop (mkF m 148 #[.val (.long q0), .second, .val (.long q1), .second, .val (.long q2), .second, .val (.long q3), .second, .val (.int p4), .val (.long (q0 &&& (9223372036854775807 : Int64))), .second, .val (.long (q1 &&& (9223372036854775807 : Int64))), .second, .val (.long (q2 &&& (9223372036854775807 : Int64))), .second, .val (.long (q3 &&& (9223372036854775807 : Int64))), .second, .val (.ref b1), .val (.ref b1), .val (.int (1 : Int32)), .val (.long (q2 &&& (9223372036854775807 : Int64))), .second, .val (.long (q3 &&& (9223372036854775807 : Int64))), .second] [(.int (1 : Int32))]))
      refine own_st ?_ (fun t_ k_ => XS.goto X66.here hx rfl (pc0 := 148) (pc' := 152) rfl (hb hby at_148) (by decide) (by decide) k_)
      show own_G p.tables e below _ _ (T66.setTop (mkF m 152 #[.val (.long q0), .second, .val (.long q1), .second, .val (.long q2), .second, .val (.long q3), .second, .val (.int p4), .val (.long (q0 &&& (9223372036854775807 : Int64))), .second, .val (.long (q1 &&& (9223372036854775807 : Int64))), .second, .val (.long (q2 &&& (9223372036854775807 : Int64))), .second, .val (.long (q3 &&& (9223372036854775807 : Int64))), .second, .val (.ref b1), .val (.ref b1), .val (.int (1 : Int32)), .val (.long (q2 &&& (9223372036854775807 : Int64))), .second, .val (.long (q3 &&& (9223372036854775807 : Int64))), .second] [(.int (1 : Int32))]))
      exact own_retN X66 hx hlk (t := .boolean) hret (by simp) (hb hby at_152) (by decide) (by decide) (z' := (1 : Int32)) rfl ⟨rfl, N66⟩
    · refine own_st ?_ (fun t_ k_ => XS.ifNo X49.here hx rfl (hb hby at_66) rfl ((if0 _ _).trans (feq hc66).1) k_)
      show own_G p.tables e below _ _ (T49.setTop (mkF m 69 #[.val (.long q0), .second, .val (.long q1), .second, .val (.long q2), .second, .val (.long q3), .second, .val (.int p4), .val (.long (q0 &&& (9223372036854775807 : Int64))), .second, .val (.long (q1 &&& (9223372036854775807 : Int64))), .second, .val (.long (q2 &&& (9223372036854775807 : Int64))), .second, .val (.long (q3 &&& (9223372036854775807 : Int64))), .second, .val (.ref b1), .unset, .unset, .unset, .unset, .unset, .unset] []))
      refine own_st ?_ (fun t_ k_ => XS.aload X49.here hx rfl (hb hby at_69) rfl rfl k_)
      show own_G p.tables e below _ _ (T49.setTop (mkF m 71 #[.val (.long q0), .second, .val (.long q1), .second, .val (.long q2), .second, .val (.long q3), .second, .val (.int p4), .val (.long (q0 &&& (9223372036854775807 : Int64))), .second, .val (.long (q1 &&& (9223372036854775807 : Int64))), .second, .val (.long (q2 &&& (9223372036854775807 : Int64))), .second, .val (.long (q3 &&& (9223372036854775807 : Int64))), .second, .val (.ref b1), .unset, .unset, .unset, .unset, .unset, .unset] [(.ref b1)]))
      obtain ⟨cq70, kq70, q70a, q70b, q70c⟩ := isOf hZ rfl F50_E
      obtain ⟨_, _, ⟨T70, L70, k70, n70⟩, -, X70, ⟨Lc70, hQ70, l70, y70, z70⟩, st70⟩ := X49.virtualBack hx (y := (⟨"com/example/termwright/termwright/Spool$Record", "number", "()J"⟩ : MethodName)) (z := (⟨"com/example/termwright/termwright/Spool$Record", "number", "()J"⟩ : MethodName)) hown (mvT hZ (hw _ (List.mem_of_getElem? (i := 26) rfl))) (mvT hZ (hw _ (List.mem_of_getElem? (i := 27) rfl))) (notFace_of_selects (args := #[]) (mvT hZ (hw _ (List.mem_of_getElem? (i := 29) rfl)))) (mvT hZ (hw _ (List.mem_of_getElem? (i := 29) rfl))) (mvT hZ (hw _ (List.mem_of_getElem? (i := 28) rfl))) (by decide) (backOf (W := 0) (rm5 l Z _ hw [] b1 t3 (0 + own_len nA + own_len nB) (0) (own_put (own_put (fun _ => 0) (0) nA) (0 + own_len nA) nB) nA (q0 &&& (9223372036854775807 : Int64)) T49.heap n0 Zs51 g_b1 g_t3 F50_E Fb49 Fl49 Fp49 M49 hne3 hA hA63 (by have := own_len9 hA63; omega) (own_two _ 0 nA nB)) hZ (hw _ (List.mem_of_getElem? (i := 30) rfl)) (hw _ (List.mem_of_getElem? (i := 3) rfl)) (by decide) (by decide)) q70a q70c (g := (mkF m 71 #[.val (.long q0), .second, .val (.long q1), .second, .val (.long q2), .second, .val (.long q3), .second, .val (.int p4), .val (.long (q0 &&& (9223372036854775807 : Int64))), .second, .val (.long (q1 &&& (9223372036854775807 : Int64))), .second, .val (.long (q2 &&& (9223372036854775807 : Int64))), .second, .val (.long (q3 &&& (9223372036854775807 : Int64))), .second, .val (.ref b1), .unset, .unset, .unset, .unset, .unset, .unset] [(.ref b1)])) rfl (by rw [hml]; rfl) (Steps.refl _) (argsL := []) (rest := []) (lenOf pd_4 rfl) rfl (by show 2 * 0 + _ ≤ _; exact Nat.le_of_eq rfl) (hb hby at_71) (fun _ _ => ⟨rfl, rfl, (by decide : 2 + 0 ≤ _), (by decide : 259 + 0 ≤ _)⟩)
      dsimp only [Pt.U, Pt.locs, Pt.cells, Pt.slots] at X70 l70 y70 z70 st70 hQ70
      subst l70 y70 z70
      obtain ⟨rfl, N70q, hq70⟩ := hQ70
      have N70 := Fr.app N49 N70q
      obtain ⟨K70, Fb70, Fl70, Fp70, M70⟩ := hq70
      have F71_E : Exa Z T70.heap b1 "com/example/termwright/termwright/Spool$Record" := F50_E.keep K70
      have F72_P : own_M Z T70.heap t3 (own_put (own_put (fun _ => 0) (0) nA) (0 + own_len nA) nB) := own_M_keep M49 K70 (ninS (Ne.symm hne3) nin0)
      have Zs73 : n0 ≤ T70.heap.size := Nat.le_trans Zs51 K70.1
      refine own_st ?_ (fun t_ k_ => st70.trans k_)
      show own_G p.tables e below _ _ (T70.setTop (mkF m 74 #[.val (.long q0), .second, .val (.long q1), .second, .val (.long q2), .second, .val (.long q3), .second, .val (.int p4), .val (.long (q0 &&& (9223372036854775807 : Int64))), .second, .val (.long (q1 &&& (9223372036854775807 : Int64))), .second, .val (.long (q2 &&& (9223372036854775807 : Int64))), .second, .val (.long (q3 &&& (9223372036854775807 : Int64))), .second, .val (.ref b1), .unset, .unset, .unset, .unset, .unset, .unset] [(.long (q0 &&& (9223372036854775807 : Int64)))]))
      refine own_st ?_ (fun t_ k_ => by jvm_step X70.here [X70.here.top, hx, (hb hby at_74), Value.category]; exact k_)
      show own_G p.tables e below _ _ (T70.setTop (mkF m 75 #[.val (.long q0), .second, .val (.long q1), .second, .val (.long q2), .second, .val (.long q3), .second, .val (.int p4), .val (.long (q0 &&& (9223372036854775807 : Int64))), .second, .val (.long (q1 &&& (9223372036854775807 : Int64))), .second, .val (.long (q2 &&& (9223372036854775807 : Int64))), .second, .val (.long (q3 &&& (9223372036854775807 : Int64))), .second, .val (.ref b1), .unset, .unset, .unset, .unset, .unset, .unset] []))
      refine own_st ?_ (fun t_ k_ => XS.aload X70.here hx rfl (hb hby at_75) rfl rfl k_)
      show own_G p.tables e below _ _ (T70.setTop (mkF m 77 #[.val (.long q0), .second, .val (.long q1), .second, .val (.long q2), .second, .val (.long q3), .second, .val (.int p4), .val (.long (q0 &&& (9223372036854775807 : Int64))), .second, .val (.long (q1 &&& (9223372036854775807 : Int64))), .second, .val (.long (q2 &&& (9223372036854775807 : Int64))), .second, .val (.long (q3 &&& (9223372036854775807 : Int64))), .second, .val (.ref b1), .unset, .unset, .unset, .unset, .unset, .unset] [(.ref b1)]))
      obtain ⟨cq74, kq74, q74a, q74b, q74c⟩ := isOf hZ rfl F71_E
      obtain ⟨_, _, ⟨T74, L74, k74, n74⟩, -, X74, ⟨Lc74, hQ74, l74, y74, z74⟩, st74⟩ := X70.virtualBack hx (y := (⟨"com/example/termwright/termwright/Spool$Record", "clear", "()Lcom/example/termwright/termwright/Spool$Record;"⟩ : MethodName)) (z := (⟨"com/example/termwright/termwright/Spool$Record", "clear", "()Lcom/example/termwright/termwright/Spool$Record;"⟩ : MethodName)) hown (mvT hZ (hw _ (List.mem_of_getElem? (i := 33) rfl))) (mvT hZ (hw _ (List.mem_of_getElem? (i := 34) rfl))) (notFace_of_selects (args := #[]) (mvT hZ (hw _ (List.mem_of_getElem? (i := 36) rfl)))) (mvT hZ (hw _ (List.mem_of_getElem? (i := 36) rfl))) (mvT hZ (hw _ (List.mem_of_getElem? (i := 35) rfl))) (by decide) (backOf (W := 0) (rm6 l Z _ hw [] b1 t3 (0 + own_len nA + own_len nB) (0 + own_len nA) (own_put (own_put (fun _ => 0) (0) nA) (0 + own_len nA) nB) T70.heap n0 Zs73 g_b1 F71_E Fb70 Fl70 Fp70 M70 hne3) hZ (hw _ (List.mem_of_getElem? (i := 37) rfl)) (hw _ (List.mem_of_getElem? (i := 3) rfl)) (by decide) (by decide)) q74a q74c (g := (mkF m 77 #[.val (.long q0), .second, .val (.long q1), .second, .val (.long q2), .second, .val (.long q3), .second, .val (.int p4), .val (.long (q0 &&& (9223372036854775807 : Int64))), .second, .val (.long (q1 &&& (9223372036854775807 : Int64))), .second, .val (.long (q2 &&& (9223372036854775807 : Int64))), .second, .val (.long (q3 &&& (9223372036854775807 : Int64))), .second, .val (.ref b1), .unset, .unset, .unset, .unset, .unset, .unset] [(.ref b1)])) rfl (by rw [hml]; rfl) (Steps.refl _) (argsL := []) (rest := []) (lenOf pd_2 rfl) rfl (by show 2 * 0 + _ ≤ _; exact Nat.le_of_eq rfl) (hb hby at_77) (fun _ _ => ⟨rfl, rfl, (by decide : 2 + 0 ≤ _), (by decide : 259 + 0 ≤ _)⟩)
      dsimp only [Pt.U, Pt.locs, Pt.cells, Pt.slots] at X74 l74 y74 z74 st74 hQ74
      subst l74 y74 z74
      obtain ⟨rfl, N74q, hq74⟩ := hQ74
      have N74 := Fr.app N70 N74q
      obtain ⟨K74, Fb74, Fl74, Fp74, M74⟩ := hq74
      have F75_E : Exa Z T74.heap b1 "com/example/termwright/termwright/Spool$Record" := F71_E.keep K74
      have F76_P : own_M Z T74.heap t3 (own_put (own_put (fun _ => 0) (0) nA) (0 + own_len nA) nB) := own_M_keep M70 K74 (ninS (Ne.symm hne3) nin0)
      have Zs77 : n0 ≤ T74.heap.size := Nat.le_trans Zs73 K74.1
      refine own_st ?_ (fun t_ k_ => st74.trans k_)
      show own_G p.tables e below _ _ (T74.setTop (mkF m 80 #[.val (.long q0), .second, .val (.long q1), .second, .val (.long q2), .second, .val (.long q3), .second, .val (.int p4), .val (.long (q0 &&& (9223372036854775807 : Int64))), .second, .val (.long (q1 &&& (9223372036854775807 : Int64))), .second, .val (.long (q2 &&& (9223372036854775807 : Int64))), .second, .val (.long (q3 &&& (9223372036854775807 : Int64))), .second, .val (.ref b1), .unset, .unset, .unset, .unset, .unset, .unset] [(.ref b1)]))
      refine own_st ?_ (fun t_ k_ => XS.astore X74.here hx rfl (hb hby at_80) rfl rfl (l' := #[.val (.long q0), .second, .val (.long q1), .second, .val (.long q2), .second, .val (.long q3), .second, .val (.int p4), .val (.long (q0 &&& (9223372036854775807 : Int64))), .second, .val (.long (q1 &&& (9223372036854775807 : Int64))), .second, .val (.long (q2 &&& (9223372036854775807 : Int64))), .second, .val (.long (q3 &&& (9223372036854775807 : Int64))), .second, .val (.ref b1), .val (.ref b1), .unset, .unset, .unset, .unset, .unset]) rfl k_)
      show own_G p.tables e below _ _ (T74.setTop (mkF m 82 #[.val (.long q0), .second, .val (.long q1), .second, .val (.long q2), .second, .val (.long q3), .second, .val (.int p4), .val (.long (q0 &&& (9223372036854775807 : Int64))), .second, .val (.long (q1 &&& (9223372036854775807 : Int64))), .second, .val (.long (q2 &&& (9223372036854775807 : Int64))), .second, .val (.long (q3 &&& (9223372036854775807 : Int64))), .second, .val (.ref b1), .val (.ref b1), .unset, .unset, .unset, .unset, .unset] []))
      refine own_st ?_ (fun t_ k_ => XS.aload X74.here hx rfl (hb hby at_82) rfl rfl k_)
      show own_G p.tables e below _ _ (T74.setTop (mkF m 84 #[.val (.long q0), .second, .val (.long q1), .second, .val (.long q2), .second, .val (.long q3), .second, .val (.int p4), .val (.long (q0 &&& (9223372036854775807 : Int64))), .second, .val (.long (q1 &&& (9223372036854775807 : Int64))), .second, .val (.long (q2 &&& (9223372036854775807 : Int64))), .second, .val (.long (q3 &&& (9223372036854775807 : Int64))), .second, .val (.ref b1), .val (.ref b1), .unset, .unset, .unset, .unset, .unset] [(.ref b1)]))
      refine own_st ?_ (fun t_ k_ => XS.aload X74.here hx rfl (hb hby at_84) rfl rfl k_)
      show own_G p.tables e below _ _ (T74.setTop (mkF m 86 #[.val (.long q0), .second, .val (.long q1), .second, .val (.long q2), .second, .val (.long q3), .second, .val (.int p4), .val (.long (q0 &&& (9223372036854775807 : Int64))), .second, .val (.long (q1 &&& (9223372036854775807 : Int64))), .second, .val (.long (q2 &&& (9223372036854775807 : Int64))), .second, .val (.long (q3 &&& (9223372036854775807 : Int64))), .second, .val (.ref b1), .val (.ref b1), .unset, .unset, .unset, .unset, .unset] [(.ref b1), (.ref b1)]))
      refine own_st ?_ (fun t_ k_ => Jvm.RoadKit.acmp (g := (mkF m 86 #[.val (.long q0), .second, .val (.long q1), .second, .val (.long q2), .second, .val (.long q3), .second, .val (.int p4), .val (.long (q0 &&& (9223372036854775807 : Int64))), .second, .val (.long (q1 &&& (9223372036854775807 : Int64))), .second, .val (.long (q2 &&& (9223372036854775807 : Int64))), .second, .val (.long (q3 &&& (9223372036854775807 : Int64))), .second, .val (.ref b1), .val (.ref b1), .unset, .unset, .unset, .unset, .unset] [(.ref b1), (.ref b1)])) X74 hx rfl rfl rfl (pc0 := 86) (pc' := 89) (same := true) rfl (hb hby at_86) rfl (decide_eq_true rfl) (by decide) (by decide) k_)
      show own_G p.tables e below _ _ (T74.setTop (mkF m 89 #[.val (.long q0), .second, .val (.long q1), .second, .val (.long q2), .second, .val (.long q3), .second, .val (.int p4), .val (.long (q0 &&& (9223372036854775807 : Int64))), .second, .val (.long (q1 &&& (9223372036854775807 : Int64))), .second, .val (.long (q2 &&& (9223372036854775807 : Int64))), .second, .val (.long (q3 &&& (9223372036854775807 : Int64))), .second, .val (.ref b1), .val (.ref b1), .unset, .unset, .unset, .unset, .unset] []))
      refine own_st ?_ (fun t_ k_ => XS.iconst X74.here hx rfl (hb hby at_89) k_)
      show own_G p.tables e below _ _ (T74.setTop (mkF m 90 #[.val (.long q0), .second, .val (.long q1), .second, .val (.long q2), .second, .val (.long q3), .second, .val (.int p4), .val (.long (q0 &&& (9223372036854775807 : Int64))), .second, .val (.long (q1 &&& (9223372036854775807 : Int64))), .second, .val (.long (q2 &&& (9223372036854775807 : Int64))), .second, .val (.long (q3 &&& (9223372036854775807 : Int64))), .second, .val (.ref b1), .val (.ref b1), .unset, .unset, .unset, .unset, .unset] [(.int (1 : Int32))]))
      refine own_st ?_ (fun t_ k_ => XS.goto X74.here hx rfl (pc0 := 90) (pc' := 94) rfl (hb hby at_90) (by decide) (by decide) k_)
      show own_G p.tables e below _ _ (T74.setTop (mkF m 94 #[.val (.long q0), .second, .val (.long q1), .second, .val (.long q2), .second, .val (.long q3), .second, .val (.int p4), .val (.long (q0 &&& (9223372036854775807 : Int64))), .second, .val (.long (q1 &&& (9223372036854775807 : Int64))), .second, .val (.long (q2 &&& (9223372036854775807 : Int64))), .second, .val (.long (q3 &&& (9223372036854775807 : Int64))), .second, .val (.ref b1), .val (.ref b1), .unset, .unset, .unset, .unset, .unset] [(.int (1 : Int32))]))
      refine own_st ?_ (fun t_ k_ => XS.istore X74.here hx rfl (hb hby at_94) rfl (l' := #[.val (.long q0), .second, .val (.long q1), .second, .val (.long q2), .second, .val (.long q3), .second, .val (.int p4), .val (.long (q0 &&& (9223372036854775807 : Int64))), .second, .val (.long (q1 &&& (9223372036854775807 : Int64))), .second, .val (.long (q2 &&& (9223372036854775807 : Int64))), .second, .val (.long (q3 &&& (9223372036854775807 : Int64))), .second, .val (.ref b1), .val (.ref b1), .val (.int (1 : Int32)), .unset, .unset, .unset, .unset]) rfl k_)
      show own_G p.tables e below _ _ (T74.setTop (mkF m 96 #[.val (.long q0), .second, .val (.long q1), .second, .val (.long q2), .second, .val (.long q3), .second, .val (.int p4), .val (.long (q0 &&& (9223372036854775807 : Int64))), .second, .val (.long (q1 &&& (9223372036854775807 : Int64))), .second, .val (.long (q2 &&& (9223372036854775807 : Int64))), .second, .val (.long (q3 &&& (9223372036854775807 : Int64))), .second, .val (.ref b1), .val (.ref b1), .val (.int (1 : Int32)), .unset, .unset, .unset, .unset] []))
      refine own_st ?_ (fun t_ k_ => XS.aload X74.here hx rfl (hb hby at_96) rfl rfl k_)
      show own_G p.tables e below _ _ (T74.setTop (mkF m 98 #[.val (.long q0), .second, .val (.long q1), .second, .val (.long q2), .second, .val (.long q3), .second, .val (.int p4), .val (.long (q0 &&& (9223372036854775807 : Int64))), .second, .val (.long (q1 &&& (9223372036854775807 : Int64))), .second, .val (.long (q2 &&& (9223372036854775807 : Int64))), .second, .val (.long (q3 &&& (9223372036854775807 : Int64))), .second, .val (.ref b1), .val (.ref b1), .val (.int (1 : Int32)), .unset, .unset, .unset, .unset] [(.ref b1)]))
      refine own_st ?_ (fun t_ k_ => XS.lload X74.here hx rfl (hb hby at_98) rfl k_)
      show own_G p.tables e below _ _ (T74.setTop (mkF m 100 #[.val (.long q0), .second, .val (.long q1), .second, .val (.long q2), .second, .val (.long q3), .second, .val (.int p4), .val (.long (q0 &&& (9223372036854775807 : Int64))), .second, .val (.long (q1 &&& (9223372036854775807 : Int64))), .second, .val (.long (q2 &&& (9223372036854775807 : Int64))), .second, .val (.long (q3 &&& (9223372036854775807 : Int64))), .second, .val (.ref b1), .val (.ref b1), .val (.int (1 : Int32)), .unset, .unset, .unset, .unset] [(.long (q2 &&& (9223372036854775807 : Int64))), (.ref b1)]))
      obtain ⟨cq78, kq78, q78a, q78b, q78c⟩ := isOf hZ rfl F75_E
      obtain ⟨_, _, ⟨T78, L78, k78, n78⟩, -, X78, ⟨Lc78, hQ78, l78, y78, z78⟩, st78⟩ := X74.virtualBack hx (y := (⟨"com/example/termwright/termwright/Spool$Record", "putNumber", "(J)Lcom/example/termwright/termwright/Spool$Record;"⟩ : MethodName)) (z := (⟨"com/example/termwright/termwright/Spool$Record", "putNumber", "(J)Lcom/example/termwright/termwright/Spool$Record;"⟩ : MethodName)) hown (mvT hZ (hw _ (List.mem_of_getElem? (i := 13) rfl))) (mvT hZ (hw _ (List.mem_of_getElem? (i := 14) rfl))) (notFace_of_selects (args := #[]) (mvT hZ (hw _ (List.mem_of_getElem? (i := 16) rfl)))) (mvT hZ (hw _ (List.mem_of_getElem? (i := 16) rfl))) (mvT hZ (hw _ (List.mem_of_getElem? (i := 15) rfl))) (by decide) (backOf (W := 0) (rm3 l Z _ hw [] b1 (q2 &&& (9223372036854775807 : Int64)) t3 (0) (0) (own_put (own_put (fun _ => 0) (0) nA) (0 + own_len nA) nB) nC T74.heap n0 Zs77 g_b1 g_t3 F75_E Fb74 Fl74 Fp74 M74 hne3 hC hC63 (by decide)) hZ (hw _ (List.mem_of_getElem? (i := 17) rfl)) (hw _ (List.mem_of_getElem? (i := 3) rfl)) (by decide) (by decide)) q78a q78c (g := (mkF m 100 #[.val (.long q0), .second, .val (.long q1), .second, .val (.long q2), .second, .val (.long q3), .second, .val (.int p4), .val (.long (q0 &&& (9223372036854775807 : Int64))), .second, .val (.long (q1 &&& (9223372036854775807 : Int64))), .second, .val (.long (q2 &&& (9223372036854775807 : Int64))), .second, .val (.long (q3 &&& (9223372036854775807 : Int64))), .second, .val (.ref b1), .val (.ref b1), .val (.int (1 : Int32)), .unset, .unset, .unset, .unset] [(.long (q2 &&& (9223372036854775807 : Int64))), (.ref b1)])) rfl (by rw [hml]; rfl) (Steps.refl _) (argsL := [(.long (q2 &&& (9223372036854775807 : Int64)))]) (rest := []) (lenOf pd_3 rfl) rfl (by show 2 * 0 + _ ≤ _; exact Nat.le_of_eq rfl) (hb hby at_100) (fun _ _ => ⟨rfl, rfl, (by decide : 2 + 0 ≤ _), (by decide : 259 + 0 ≤ _)⟩)
      dsimp only [Pt.U, Pt.locs, Pt.cells, Pt.slots] at X78 l78 y78 z78 st78 hQ78
      subst l78 y78 z78
      obtain ⟨rfl, N78q, hq78⟩ := hQ78
      have N78 := Fr.app N74 N78q
      obtain ⟨K78, Fb78, Fl78, Fp78, M78⟩ := hq78
      have F79_E : Exa Z T78.heap b1 "com/example/termwright/termwright/Spool$Record" := F75_E.keep K78
      have Zs80 : n0 ≤ T78.heap.size := Nat.le_trans Zs77 K78.1
      refine own_st ?_ (fun t_ k_ => st78.trans k_)
      show own_G p.tables e below _ _ (T78.setTop (mkF m 103 #[.val (.long q0), .second, .val (.long q1), .second, .val (.long q2), .second, .val (.long q3), .second, .val (.int p4), .val (.long (q0 &&& (9223372036854775807 : Int64))), .second, .val (.long (q1 &&& (9223372036854775807 : Int64))), .second, .val (.long (q2 &&& (9223372036854775807 : Int64))), .second, .val (.long (q3 &&& (9223372036854775807 : Int64))), .second, .val (.ref b1), .val (.ref b1), .val (.int (1 : Int32)), .unset, .unset, .unset, .unset] [(.ref b1)]))
      refine own_st ?_ (fun t_ k_ => XS.pop X78.here hx rfl (hb hby at_103) rfl rfl k_)
      show own_G p.tables e below _ _ (T78.setTop (mkF m 104 #[.val (.long q0), .second, .val (.long q1), .second, .val (.long q2), .second, .val (.long q3), .second, .val (.int p4), .val (.long (q0 &&& (9223372036854775807 : Int64))), .second, .val (.long (q1 &&& (9223372036854775807 : Int64))), .second, .val (.long (q2 &&& (9223372036854775807 : Int64))), .second, .val (.long (q3 &&& (9223372036854775807 : Int64))), .second, .val (.ref b1), .val (.ref b1), .val (.int (1 : Int32)), .unset, .unset, .unset, .unset] []))
      refine own_st ?_ (fun t_ k_ => XS.aload X78.here hx rfl (hb hby at_104) rfl rfl k_)
      show own_G p.tables e below _ _ (T78.setTop (mkF m 106 #[.val (.long q0), .second, .val (.long q1), .second, .val (.long q2), .second, .val (.long q3), .second, .val (.int p4), .val (.long (q0 &&& (9223372036854775807 : Int64))), .second, .val (.long (q1 &&& (9223372036854775807 : Int64))), .second, .val (.long (q2 &&& (9223372036854775807 : Int64))), .second, .val (.long (q3 &&& (9223372036854775807 : Int64))), .second, .val (.ref b1), .val (.ref b1), .val (.int (1 : Int32)), .unset, .unset, .unset, .unset] [(.ref b1)]))
      refine own_st ?_ (fun t_ k_ => XS.lload X78.here hx rfl (hb hby at_106) rfl k_)
      show own_G p.tables e below _ _ (T78.setTop (mkF m 108 #[.val (.long q0), .second, .val (.long q1), .second, .val (.long q2), .second, .val (.long q3), .second, .val (.int p4), .val (.long (q0 &&& (9223372036854775807 : Int64))), .second, .val (.long (q1 &&& (9223372036854775807 : Int64))), .second, .val (.long (q2 &&& (9223372036854775807 : Int64))), .second, .val (.long (q3 &&& (9223372036854775807 : Int64))), .second, .val (.ref b1), .val (.ref b1), .val (.int (1 : Int32)), .unset, .unset, .unset, .unset] [(.long (q3 &&& (9223372036854775807 : Int64))), (.ref b1)]))
      obtain ⟨cq81, kq81, q81a, q81b, q81c⟩ := isOf hZ rfl F79_E
      obtain ⟨_, _, ⟨T81, L81, k81, n81⟩, -, X81, ⟨Lc81, hQ81, l81, y81, z81⟩, st81⟩ := X78.virtualBack hx (y := (⟨"com/example/termwright/termwright/Spool$Record", "putNumber", "(J)Lcom/example/termwright/termwright/Spool$Record;"⟩ : MethodName)) (z := (⟨"com/example/termwright/termwright/Spool$Record", "putNumber", "(J)Lcom/example/termwright/termwright/Spool$Record;"⟩ : MethodName)) hown (mvT hZ (hw _ (List.mem_of_getElem? (i := 13) rfl))) (mvT hZ (hw _ (List.mem_of_getElem? (i := 14) rfl))) (notFace_of_selects (args := #[]) (mvT hZ (hw _ (List.mem_of_getElem? (i := 16) rfl)))) (mvT hZ (hw _ (List.mem_of_getElem? (i := 16) rfl))) (mvT hZ (hw _ (List.mem_of_getElem? (i := 15) rfl))) (by decide) (backOf (W := 0) (rm3 l Z _ hw [] b1 (q3 &&& (9223372036854775807 : Int64)) t3 (0 + own_len nC) (0) (own_put (own_put (own_put (fun _ => 0) (0) nA) (0 + own_len nA) nB) (0) nC) nD T78.heap n0 Zs80 g_b1 g_t3 F79_E Fb78 Fl78 Fp78 M78 hne3 hD hD63 (by have := own_len9 hC63; omega)) hZ (hw _ (List.mem_of_getElem? (i := 17) rfl)) (hw _ (List.mem_of_getElem? (i := 3) rfl)) (by decide) (by decide)) q81a q81c (g := (mkF m 108 #[.val (.long q0), .second, .val (.long q1), .second, .val (.long q2), .second, .val (.long q3), .second, .val (.int p4), .val (.long (q0 &&& (9223372036854775807 : Int64))), .second, .val (.long (q1 &&& (9223372036854775807 : Int64))), .second, .val (.long (q2 &&& (9223372036854775807 : Int64))), .second, .val (.long (q3 &&& (9223372036854775807 : Int64))), .second, .val (.ref b1), .val (.ref b1), .val (.int (1 : Int32)), .unset, .unset, .unset, .unset] [(.long (q3 &&& (9223372036854775807 : Int64))), (.ref b1)])) rfl (by rw [hml]; rfl) (Steps.refl _) (argsL := [(.long (q3 &&& (9223372036854775807 : Int64)))]) (rest := []) (lenOf pd_3 rfl) rfl (by show 2 * 0 + _ ≤ _; exact Nat.le_of_eq rfl) (hb hby at_108) (fun _ _ => ⟨rfl, rfl, (by decide : 2 + 0 ≤ _), (by decide : 259 + 0 ≤ _)⟩)
      dsimp only [Pt.U, Pt.locs, Pt.cells, Pt.slots] at X81 l81 y81 z81 st81 hQ81
      subst l81 y81 z81
      obtain ⟨rfl, N81q, hq81⟩ := hQ81
      have N81 := Fr.app N78 N81q
      obtain ⟨K81, Fb81, Fl81, Fp81, M81⟩ := hq81
      have F82_E : Exa Z T81.heap b1 "com/example/termwright/termwright/Spool$Record" := F79_E.keep K81
      have Zs83 : n0 ≤ T81.heap.size := Nat.le_trans Zs80 K81.1
      refine own_st ?_ (fun t_ k_ => st81.trans k_)
      show own_G p.tables e below _ _ (T81.setTop (mkF m 111 #[.val (.long q0), .second, .val (.long q1), .second, .val (.long q2), .second, .val (.long q3), .second, .val (.int p4), .val (.long (q0 &&& (9223372036854775807 : Int64))), .second, .val (.long (q1 &&& (9223372036854775807 : Int64))), .second, .val (.long (q2 &&& (9223372036854775807 : Int64))), .second, .val (.long (q3 &&& (9223372036854775807 : Int64))), .second, .val (.ref b1), .val (.ref b1), .val (.int (1 : Int32)), .unset, .unset, .unset, .unset] [(.ref b1)]))
      refine own_st ?_ (fun t_ k_ => XS.pop X81.here hx rfl (hb hby at_111) rfl rfl k_)
      show own_G p.tables e below _ _ (T81.setTop (mkF m 112 #[.val (.long q0), .second, .val (.long q1), .second, .val (.long q2), .second, .val (.long q3), .second, .val (.int p4), .val (.long (q0 &&& (9223372036854775807 : Int64))), .second, .val (.long (q1 &&& (9223372036854775807 : Int64))), .second, .val (.long (q2 &&& (9223372036854775807 : Int64))), .second, .val (.long (q3 &&& (9223372036854775807 : Int64))), .second, .val (.ref b1), .val (.ref b1), .val (.int (1 : Int32)), .unset, .unset, .unset, .unset] []))
      refine own_st ?_ (fun t_ k_ => XS.aload X81.here hx rfl (hb hby at_112) rfl rfl k_)
      show own_G p.tables e below _ _ (T81.setTop (mkF m 114 #[.val (.long q0), .second, .val (.long q1), .second, .val (.long q2), .second, .val (.long q3), .second, .val (.int p4), .val (.long (q0 &&& (9223372036854775807 : Int64))), .second, .val (.long (q1 &&& (9223372036854775807 : Int64))), .second, .val (.long (q2 &&& (9223372036854775807 : Int64))), .second, .val (.long (q3 &&& (9223372036854775807 : Int64))), .second, .val (.ref b1), .val (.ref b1), .val (.int (1 : Int32)), .unset, .unset, .unset, .unset] [(.ref b1)]))
      obtain ⟨cq84, kq84, q84a, q84b, q84c⟩ := isOf hZ rfl F82_E
      obtain ⟨_, _, ⟨T84, L84, k84, n84⟩, -, X84, ⟨Lc84, hQ84, l84, y84, z84⟩, st84⟩ := X81.virtualBack hx (y := (⟨"com/example/termwright/termwright/Spool$Record", "number", "()J"⟩ : MethodName)) (z := (⟨"com/example/termwright/termwright/Spool$Record", "number", "()J"⟩ : MethodName)) hown (mvT hZ (hw _ (List.mem_of_getElem? (i := 26) rfl))) (mvT hZ (hw _ (List.mem_of_getElem? (i := 27) rfl))) (notFace_of_selects (args := #[]) (mvT hZ (hw _ (List.mem_of_getElem? (i := 29) rfl)))) (mvT hZ (hw _ (List.mem_of_getElem? (i := 29) rfl))) (mvT hZ (hw _ (List.mem_of_getElem? (i := 28) rfl))) (by decide) (backOf (W := 0) (rm5 l Z _ hw [] b1 t3 (0 + own_len nC + own_len nD) (0) (own_put (own_put (own_put (own_put (fun _ => 0) (0) nA) (0 + own_len nA) nB) (0) nC) (0 + own_len nC) nD) nC (q2 &&& (9223372036854775807 : Int64)) T81.heap n0 Zs83 g_b1 g_t3 F82_E Fb81 Fl81 Fp81 M81 hne3 hC hC63 (by have := own_len9 hC63; omega) (own_two _ 0 nC nD)) hZ (hw _ (List.mem_of_getElem? (i := 30) rfl)) (hw _ (List.mem_of_getElem? (i := 3) rfl)) (by decide) (by decide)) q84a q84c (g := (mkF m 114 #[.val (.long q0), .second, .val (.long q1), .second, .val (.long q2), .second, .val (.long q3), .second, .val (.int p4), .val (.long (q0 &&& (9223372036854775807 : Int64))), .second, .val (.long (q1 &&& (9223372036854775807 : Int64))), .second, .val (.long (q2 &&& (9223372036854775807 : Int64))), .second, .val (.long (q3 &&& (9223372036854775807 : Int64))), .second, .val (.ref b1), .val (.ref b1), .val (.int (1 : Int32)), .unset, .unset, .unset, .unset] [(.ref b1)])) rfl (by rw [hml]; rfl) (Steps.refl _) (argsL := []) (rest := []) (lenOf pd_4 rfl) rfl (by show 2 * 0 + _ ≤ _; exact Nat.le_of_eq rfl) (hb hby at_114) (fun _ _ => ⟨rfl, rfl, (by decide : 2 + 0 ≤ _), (by decide : 259 + 0 ≤ _)⟩)
      dsimp only [Pt.U, Pt.locs, Pt.cells, Pt.slots] at X84 l84 y84 z84 st84 hQ84
      subst l84 y84 z84
      obtain ⟨rfl, N84q, hq84⟩ := hQ84
      have N84 := Fr.app N81 N84q
      obtain ⟨K84, Fb84, Fl84, Fp84, M84⟩ := hq84
      have F85_E : Exa Z T84.heap b1 "com/example/termwright/termwright/Spool$Record" := F82_E.keep K84
      have F86_P : own_M Z T84.heap t3 (own_put (own_put (own_put (own_put (fun _ => 0) (0) nA) (0 + own_len nA) nB) (0) nC) (0 + own_len nC) nD) := own_M_keep M81 K84 (ninS (Ne.symm hne3) nin0)
      have Zs87 : n0 ≤ T84.heap.size := Nat.le_trans Zs83 K84.1
      refine own_st ?_ (fun t_ k_ => st84.trans k_)
      show own_G p.tables e below _ _ (T84.setTop (mkF m 117 #[.val (.long q0), .second, .val (.long q1), .second, .val (.long q2), .second, .val (.long q3), .second, .val (.int p4), .val (.long (q0 &&& (9223372036854775807 : Int64))), .second, .val (.long (q1 &&& (9223372036854775807 : Int64))), .second, .val (.long (q2 &&& (9223372036854775807 : Int64))), .second, .val (.long (q3 &&& (9223372036854775807 : Int64))), .second, .val (.ref b1), .val (.ref b1), .val (.int (1 : Int32)), .unset, .unset, .unset, .unset] [(.long (q2 &&& (9223372036854775807 : Int64)))]))
      refine own_st ?_ (fun t_ k_ => XS.lstore X84.here hx rfl (hb hby at_117) rfl (l' := #[.val (.long q0), .second, .val (.long q1), .second, .val (.long q2), .second, .val (.long q3), .second, .val (.int p4), .val (.long (q0 &&& (9223372036854775807 : Int64))), .second, .val (.long (q1 &&& (9223372036854775807 : Int64))), .second, .val (.long (q2 &&& (9223372036854775807 : Int64))), .second, .val (.long (q3 &&& (9223372036854775807 : Int64))), .second, .val (.ref b1), .val (.ref b1), .val (.int (1 : Int32)), .val (.long (q2 &&& (9223372036854775807 : Int64))), .second, .unset, .unset]) rfl k_)
      show own_G p.tables e below _ _ (T84.setTop (mkF m 119 #[.val (.long q0), .second, .val (.long q1), .second, .val (.long q2), .second, .val (.long q3), .second, .val (.int p4), .val (.long (q0 &&& (9223372036854775807 : Int64))), .second, .val (.long (q1 &&& (9223372036854775807 : Int64))), .second, .val (.long (q2 &&& (9223372036854775807 : Int64))), .second, .val (.long (q3 &&& (9223372036854775807 : Int64))), .second, .val (.ref b1), .val (.ref b1), .val (.int (1 : Int32)), .val (.long (q2 &&& (9223372036854775807 : Int64))), .second, .unset, .unset] []))
      refine own_st ?_ (fun t_ k_ => XS.aload X84.here hx rfl (hb hby at_119) rfl rfl k_)
      show own_G p.tables e below _ _ (T84.setTop (mkF m 121 #[.val (.long q0), .second, .val (.long q1), .second, .val (.long q2), .second, .val (.long q3), .second, .val (.int p4), .val (.long (q0 &&& (9223372036854775807 : Int64))), .second, .val (.long (q1 &&& (9223372036854775807 : Int64))), .second, .val (.long (q2 &&& (9223372036854775807 : Int64))), .second, .val (.long (q3 &&& (9223372036854775807 : Int64))), .second, .val (.ref b1), .val (.ref b1), .val (.int (1 : Int32)), .val (.long (q2 &&& (9223372036854775807 : Int64))), .second, .unset, .unset] [(.ref b1)]))
      obtain ⟨cq88, kq88, q88a, q88b, q88c⟩ := isOf hZ rfl F85_E
      obtain ⟨_, _, ⟨T88, L88, k88, n88⟩, -, X88, ⟨Lc88, hQ88, l88, y88, z88⟩, st88⟩ := X84.virtualBack hx (y := (⟨"com/example/termwright/termwright/Spool$Record", "number", "()J"⟩ : MethodName)) (z := (⟨"com/example/termwright/termwright/Spool$Record", "number", "()J"⟩ : MethodName)) hown (mvT hZ (hw _ (List.mem_of_getElem? (i := 26) rfl))) (mvT hZ (hw _ (List.mem_of_getElem? (i := 27) rfl))) (notFace_of_selects (args := #[]) (mvT hZ (hw _ (List.mem_of_getElem? (i := 29) rfl)))) (mvT hZ (hw _ (List.mem_of_getElem? (i := 29) rfl))) (mvT hZ (hw _ (List.mem_of_getElem? (i := 28) rfl))) (by decide) (backOf (W := 0) (rm5 l Z _ hw [] b1 t3 (0 + own_len nC + own_len nD) (0 + own_len nC) (own_put (own_put (own_put (own_put (fun _ => 0) (0) nA) (0 + own_len nA) nB) (0) nC) (0 + own_len nC) nD) nD (q3 &&& (9223372036854775807 : Int64)) T84.heap n0 Zs87 g_b1 g_t3 F85_E Fb84 Fl84 Fp84 M84 hne3 hD hD63 (by have := own_len9 hC63; have := own_len9 hD63; omega) (own_at_put nD _ _)) hZ (hw _ (List.mem_of_getElem? (i := 30) rfl)) (hw _ (List.mem_of_getElem? (i := 3) rfl)) (by decide) (by decide)) q88a q88c (g := (mkF m 121 #[.val (.long q0), .second, .val (.long q1), .second, .val (.long q2), .second, .val (.long q3), .second, .val (.int p4), .val (.long (q0 &&& (9223372036854775807 : Int64))), .second, .val (.long (q1 &&& (9223372036854775807 : Int64))), .second, .val (.long (q2 &&& (9223372036854775807 : Int64))), .second, .val (.long (q3 &&& (9223372036854775807 : Int64))), .second, .val (.ref b1), .val (.ref b1), .val (.int (1 : Int32)), .val (.long (q2 &&& (9223372036854775807 : Int64))), .second, .unset, .unset] [(.ref b1)])) rfl (by rw [hml]; rfl) (Steps.refl _) (argsL := []) (rest := []) (lenOf pd_4 rfl) rfl (by show 2 * 0 + _ ≤ _; exact Nat.le_of_eq rfl) (hb hby at_121) (fun _ _ => ⟨rfl, rfl, (by decide : 2 + 0 ≤ _), (by decide : 259 + 0 ≤ _)⟩)
      dsimp only [Pt.U, Pt.locs, Pt.cells, Pt.slots] at X88 l88 y88 z88 st88 hQ88
      subst l88 y88 z88
      obtain ⟨rfl, N88q, hq88⟩ := hQ88
      have N88 := Fr.app N84 N88q
      obtain ⟨K88, Fb88, Fl88, Fp88, M88⟩ := hq88
      have F89_E : Exa Z T88.heap b1 "com/example/termwright/termwright/Spool$Record" := F85_E.keep K88
      have F90_P : own_M Z T88.heap t3 (own_put (own_put (own_put (own_put (fun _ => 0) (0) nA) (0 + own_len nA) nB) (0) nC) (0 + own_len nC) nD) := own_M_keep M84 K88 (ninS (Ne.symm hne3) nin0)
      have Zs91 : n0 ≤ T88.heap.size := Nat.le_trans Zs87 K88.1
      refine own_st ?_ (fun t_ k_ => st88.trans k_)
      show own_G p.tables e below _ _ (T88.setTop (mkF m 124 #[.val (.long q0), .second, .val (.long q1), .second, .val (.long q2), .second, .val (.long q3), .second, .val (.int p4), .val (.long (q0 &&& (9223372036854775807 : Int64))), .second, .val (.long (q1 &&& (9223372036854775807 : Int64))), .second, .val (.long (q2 &&& (9223372036854775807 : Int64))), .second, .val (.long (q3 &&& (9223372036854775807 : Int64))), .second, .val (.ref b1), .val (.ref b1), .val (.int (1 : Int32)), .val (.long (q2 &&& (9223372036854775807 : Int64))), .second, .unset, .unset] [(.long (q3 &&& (9223372036854775807 : Int64)))]))
      refine own_st ?_ (fun t_ k_ => XS.lstore X88.here hx rfl (hb hby at_124) rfl (l' := #[.val (.long q0), .second, .val (.long q1), .second, .val (.long q2), .second, .val (.long q3), .second, .val (.int p4), .val (.long (q0 &&& (9223372036854775807 : Int64))), .second, .val (.long (q1 &&& (9223372036854775807 : Int64))), .second, .val (.long (q2 &&& (9223372036854775807 : Int64))), .second, .val (.long (q3 &&& (9223372036854775807 : Int64))), .second, .val (.ref b1), .val (.ref b1), .val (.int (1 : Int32)), .val (.long (q2 &&& (9223372036854775807 : Int64))), .second, .val (.long (q3 &&& (9223372036854775807 : Int64))), .second]) rfl k_)
      show own_G p.tables e below _ _ (T88.setTop (mkF m 126 #[.val (.long q0), .second, .val (.long q1), .second, .val (.long q2), .second, .val (.long q3), .second, .val (.int p4), .val (.long (q0 &&& (9223372036854775807 : Int64))), .second, .val (.long (q1 &&& (9223372036854775807 : Int64))), .second, .val (.long (q2 &&& (9223372036854775807 : Int64))), .second, .val (.long (q3 &&& (9223372036854775807 : Int64))), .second, .val (.ref b1), .val (.ref b1), .val (.int (1 : Int32)), .val (.long (q2 &&& (9223372036854775807 : Int64))), .second, .val (.long (q3 &&& (9223372036854775807 : Int64))), .second] []))
      refine own_st ?_ (fun t_ k_ => XS.iload X88.here hx rfl (hb hby at_126) rfl k_)
      show own_G p.tables e below _ _ (T88.setTop (mkF m 128 #[.val (.long q0), .second, .val (.long q1), .second, .val (.long q2), .second, .val (.long q3), .second, .val (.int p4), .val (.long (q0 &&& (9223372036854775807 : Int64))), .second, .val (.long (q1 &&& (9223372036854775807 : Int64))), .second, .val (.long (q2 &&& (9223372036854775807 : Int64))), .second, .val (.long (q3 &&& (9223372036854775807 : Int64))), .second, .val (.ref b1), .val (.ref b1), .val (.int (1 : Int32)), .val (.long (q2 &&& (9223372036854775807 : Int64))), .second, .val (.long (q3 &&& (9223372036854775807 : Int64))), .second] [(.int (1 : Int32))]))
      refine own_st ?_ (fun t_ k_ => XS.ifNo X88.here hx rfl (hb hby at_128) rfl ((if0 _ _).trans (feq (by decide : ¬ ((1 : Int32) = (0 : Int32)))).1) k_)
      show own_G p.tables e below _ _ (T88.setTop (mkF m 131 #[.val (.long q0), .second, .val (.long q1), .second, .val (.long q2), .second, .val (.long q3), .second, .val (.int p4), .val (.long (q0 &&& (9223372036854775807 : Int64))), .second, .val (.long (q1 &&& (9223372036854775807 : Int64))), .second, .val (.long (q2 &&& (9223372036854775807 : Int64))), .second, .val (.long (q3 &&& (9223372036854775807 : Int64))), .second, .val (.ref b1), .val (.ref b1), .val (.int (1 : Int32)), .val (.long (q2 &&& (9223372036854775807 : Int64))), .second, .val (.long (q3 &&& (9223372036854775807 : Int64))), .second] []))
      refine own_st ?_ (fun t_ k_ => XS.lload X88.here hx rfl (hb hby at_131) rfl k_)
      show own_G p.tables e below _ _ (T88.setTop (mkF m 133 #[.val (.long q0), .second, .val (.long q1), .second, .val (.long q2), .second, .val (.long q3), .second, .val (.int p4), .val (.long (q0 &&& (9223372036854775807 : Int64))), .second, .val (.long (q1 &&& (9223372036854775807 : Int64))), .second, .val (.long (q2 &&& (9223372036854775807 : Int64))), .second, .val (.long (q3 &&& (9223372036854775807 : Int64))), .second, .val (.ref b1), .val (.ref b1), .val (.int (1 : Int32)), .val (.long (q2 &&& (9223372036854775807 : Int64))), .second, .val (.long (q3 &&& (9223372036854775807 : Int64))), .second] [(.long (q2 &&& (9223372036854775807 : Int64)))]))
      refine own_st ?_ (fun t_ k_ => XS.lload X88.here hx rfl (hb hby at_133) rfl k_)
      show own_G p.tables e below _ _ (T88.setTop (mkF m 135 #[.val (.long q0), .second, .val (.long q1), .second, .val (.long q2), .second, .val (.long q3), .second, .val (.int p4), .val (.long (q0 &&& (9223372036854775807 : Int64))), .second, .val (.long (q1 &&& (9223372036854775807 : Int64))), .second, .val (.long (q2 &&& (9223372036854775807 : Int64))), .second, .val (.long (q3 &&& (9223372036854775807 : Int64))), .second, .val (.ref b1), .val (.ref b1), .val (.int (1 : Int32)), .val (.long (q2 &&& (9223372036854775807 : Int64))), .second, .val (.long (q3 &&& (9223372036854775807 : Int64))), .second] [(.long (q2 &&& (9223372036854775807 : Int64))), (.long (q2 &&& (9223372036854775807 : Int64)))]))
      refine own_st ?_ (fun t_ k_ => XS.lcmp X88.here hx rfl (hb hby at_135) rfl k_)
      show own_G p.tables e below _ _ (T88.setTop (mkF m 136 #[.val (.long q0), .second, .val (.long q1), .second, .val (.long q2), .second, .val (.long q3), .second, .val (.int p4), .val (.long (q0 &&& (9223372036854775807 : Int64))), .second, .val (.long (q1 &&& (9223372036854775807 : Int64))), .second, .val (.long (q2 &&& (9223372036854775807 : Int64))), .second, .val (.long (q3 &&& (9223372036854775807 : Int64))), .second, .val (.ref b1), .val (.ref b1), .val (.int (1 : Int32)), .val (.long (q2 &&& (9223372036854775807 : Int64))), .second, .val (.long (q3 &&& (9223372036854775807 : Int64))), .second] [(.int (lcmpW (q2 &&& (9223372036854775807 : Int64)) (q2 &&& (9223372036854775807 : Int64))))]))
      refine own_st ?_ (fun t_ k_ => XS.ifNo X88.here hx rfl (hb hby at_136) rfl ((if0 _ _).trans (teq ((lw_eq _ _).mpr rfl)).2) k_)
      show own_G p.tables e below _ _ (T88.setTop (mkF m 139 #[.val (.long q0), .second, .val (.long q1), .second, .val (.long q2), .second, .val (.long q3), .second, .val (.int p4), .val (.long (q0 &&& (9223372036854775807 : Int64))), .second, .val (.long (q1 &&& (9223372036854775807 : Int64))), .second, .val (.long (q2 &&& (9223372036854775807 : Int64))), .second, .val (.long (q3 &&& (9223372036854775807 : Int64))), .second, .val (.ref b1), .val (.ref b1), .val (.int (1 : Int32)), .val (.long (q2 &&& (9223372036854775807 : Int64))), .second, .val (.long (q3 &&& (9223372036854775807 : Int64))), .second] []))
      refine own_st ?_ (fun t_ k_ => XS.lload X88.here hx rfl (hb hby at_139) rfl k_)
      show own_G p.tables e below _ _ (T88.setTop (mkF m 141 #[.val (.long q0), .second, .val (.long q1), .second, .val (.long q2), .second, .val (.long q3), .second, .val (.int p4), .val (.long (q0 &&& (9223372036854775807 : Int64))), .second, .val (.long (q1 &&& (9223372036854775807 : Int64))), .second, .val (.long (q2 &&& (9223372036854775807 : Int64))), .second, .val (.long (q3 &&& (9223372036854775807 : Int64))), .second, .val (.ref b1), .val (.ref b1), .val (.int (1 : Int32)), .val (.long (q2 &&& (9223372036854775807 : Int64))), .second, .val (.long (q3 &&& (9223372036854775807 : Int64))), .second] [(.long (q3 &&& (9223372036854775807 : Int64)))]))
      refine own_st ?_ (fun t_ k_ => XS.lload X88.here hx rfl (hb hby at_141) rfl k_)
      show own_G p.tables e below _ _ (T88.setTop (mkF m 143 #[.val (.long q0), .second, .val (.long q1), .second, .val (.long q2), .second, .val (.long q3), .second, .val (.int p4), .val (.long (q0 &&& (9223372036854775807 : Int64))), .second, .val (.long (q1 &&& (9223372036854775807 : Int64))), .second, .val (.long (q2 &&& (9223372036854775807 : Int64))), .second, .val (.long (q3 &&& (9223372036854775807 : Int64))), .second, .val (.ref b1), .val (.ref b1), .val (.int (1 : Int32)), .val (.long (q2 &&& (9223372036854775807 : Int64))), .second, .val (.long (q3 &&& (9223372036854775807 : Int64))), .second] [(.long (q3 &&& (9223372036854775807 : Int64))), (.long (q3 &&& (9223372036854775807 : Int64)))]))
      refine own_st ?_ (fun t_ k_ => XS.lcmp X88.here hx rfl (hb hby at_143) rfl k_)
      show own_G p.tables e below _ _ (T88.setTop (mkF m 144 #[.val (.long q0), .second, .val (.long q1), .second, .val (.long q2), .second, .val (.long q3), .second, .val (.int p4), .val (.long (q0 &&& (9223372036854775807 : Int64))), .second, .val (.long (q1 &&& (9223372036854775807 : Int64))), .second, .val (.long (q2 &&& (9223372036854775807 : Int64))), .second, .val (.long (q3 &&& (9223372036854775807 : Int64))), .second, .val (.ref b1), .val (.ref b1), .val (.int (1 : Int32)), .val (.long (q2 &&& (9223372036854775807 : Int64))), .second, .val (.long (q3 &&& (9223372036854775807 : Int64))), .second] [(.int (lcmpW (q3 &&& (9223372036854775807 : Int64)) (q3 &&& (9223372036854775807 : Int64))))]))
      refine own_st ?_ (fun t_ k_ => XS.ifNo X88.here hx rfl (hb hby at_144) rfl ((if0 _ _).trans (teq ((lw_eq _ _).mpr rfl)).2) k_)
      show own_G p.tables e below _ _ (T88.setTop (mkF m 147 #[.val (.long q0), .second, .val (.long q1), .second, .val (.long q2), .second, .val (.long q3), .second, .val (.int p4), .val (.long (q0 &&& (9223372036854775807 : Int64))), .second, .val (.long (q1 &&& (9223372036854775807 : Int64))), .second, .val (.long (q2 &&& (9223372036854775807 : Int64))), .second, .val (.long (q3 &&& (9223372036854775807 : Int64))), .second, .val (.ref b1), .val (.ref b1), .val (.int (1 : Int32)), .val (.long (q2 &&& (9223372036854775807 : Int64))), .second, .val (.long (q3 &&& (9223372036854775807 : Int64))), .second] []))
      refine own_st ?_ (fun t_ k_ => XS.iconst X88.here hx rfl (hb hby at_147) k_)
      show own_G p.tables e below _ _ (T88.setTop (mkF m 148 #[.val (.long q0), .second, .val (.long q1), .second, .val (.long q2), .second, .val (.long q3), .second, .val (.int p4), .val (.long (q0 &&& (9223372036854775807 : Int64))), .second, .val (.long (q1 &&& (9223372036854775807 : Int64))), .second, .val (.long (q2 &&& (9223372036854775807 : Int64))), .second, .val (.long (q3 &&& (9223372036854775807 : Int64))), .second, .val (.ref b1), .val (.ref b1), .val (.int (1 : Int32)), .val (.long (q2 &&& (9223372036854775807 : Int64))), .second, .val (.long (q3 &&& (9223372036854775807 : Int64))), .second] [(.int (1 : Int32))]))
      refine own_st ?_ (fun t_ k_ => XS.goto X88.here hx rfl (pc0 := 148) (pc' := 152) rfl (hb hby at_148) (by decide) (by decide) k_)
      show own_G p.tables e below _ _ (T88.setTop (mkF m 152 #[.val (.long q0), .second, .val (.long q1), .second, .val (.long q2), .second, .val (.long q3), .second, .val (.int p4), .val (.long (q0 &&& (9223372036854775807 : Int64))), .second, .val (.long (q1 &&& (9223372036854775807 : Int64))), .second, .val (.long (q2 &&& (9223372036854775807 : Int64))), .second, .val (.long (q3 &&& (9223372036854775807 : Int64))), .second, .val (.ref b1), .val (.ref b1), .val (.int (1 : Int32)), .val (.long (q2 &&& (9223372036854775807 : Int64))), .second, .val (.long (q3 &&& (9223372036854775807 : Int64))), .second] [(.int (1 : Int32))]))
      exact own_retN X88 hx hlk (t := .boolean) hret (by simp) (hb hby at_152) (by decide) (by decide) (z' := (1 : Int32)) rfl ⟨rfl, N88⟩
set_option maxRecDepth 65536 in
set_option maxHeartbeats 40000000 in
theorem comes_1 {Post : Tables → Env → Array Value → State → Outcome → State → Prop} (hpost : ∀ tb e args s v u, (limb_1_1.after args s (.returned v) u = true ∧ limb_1_2.after args s (.returned v) u = true ∧ True) → FrameEnd s (.returned v) u (Jvm.fieldLocs frame_1_writes args s ++ Jvm.arrayLocs frame_1_arrays args s ++ Jvm.staticLocs frame_1_statics s) 16 640 → Post tb e args s (.returned v) u) :
    ArmFor flags0 classFile x code maxLocals ret World_1 tables_1 room_1 Calls_1 rest_1 Pre_1 Post := by
  intro l hfl _ _ p e ha hc hk s m args below hf hA hF happ hP
  obtain ⟨hcalls, hrest, hpre⟩ := hP
  obtain ⟨-, -, -, hnamed, -, -, -, hat⟩ := (Spec.applies_iff hf).mp happ
  obtain ⟨hg, hn⟩ := and_e (Cond.before_iff.mp (show (Jvm.Cond.and given_1 narrow_1).before args s = true from hpre))
  obtain ⟨hcount, hgs0⟩ := and_e hg
  obtain ⟨w0, w1, w2, w3, w4, rfl⟩ : ∃ w0 w1 w2 w3 w4 : Value, args = #[w0, w1, w2, w3, w4] := by
    have hs : args.size = 5 := by simpa [Cond.value, given_1] using hcount
    obtain ⟨L⟩ := args
    match L, hs with
    | [w0, w1, w2, w3, w4], _ => exact ⟨w0, w1, w2, w3, w4, rfl⟩
  have hw := fun d (hd : d ∈ tables_1) => atoms_spec (ws := Jvm.Cond.code x code maxLocals ret :: tables_1) hat d (List.mem_cons_of_mem _ hd)
  obtain ⟨hv0, hgs1⟩ := and_e hgs0
  obtain ⟨i0, ei0⟩ := isL_v hv0
  obtain rfl : w0 = (.long i0) := Option.some.inj ei0
  obtain ⟨hv1, hgs2⟩ := and_e hgs1
  obtain ⟨i1, ei1⟩ := isL_v hv1
  obtain rfl : w1 = (.long i1) := Option.some.inj ei1
  obtain ⟨hv2, hgs3⟩ := and_e hgs2
  obtain ⟨i2, ei2⟩ := isL_v hv2
  obtain rfl : w2 = (.long i2) := Option.some.inj ei2
  obtain ⟨hv3, hgs4⟩ := and_e hgs3
  obtain ⟨i3, ei3⟩ := isL_v hv3
  obtain rfl : w3 = (.long i3) := Option.some.inj ei3
  have hv4 := hgs4
  obtain ⟨i4, ei4⟩ := is_v hv4
  obtain rfl : w4 = (.int i4) := Option.some.inj ei4
  obtain ⟨n, o, h1, h2, h3, _, L, rfl, ⟨rfl, N⟩, hq⟩ := rm0 l s _ hw tables_1 i0 i1 i2 i3 i4  s.heap s.heap.size (Nat.le_refl _)  p e ha hc hk s m _ below hf ((Spec.applies_iff_loose hf).mp happ).1 ⟨rfl, State.Warmed39.refl s, rfl⟩ trivial
  skip
  refine ⟨n, _, h1, h2, h3, hpost _ _ _ _ _ _ ⟨Cond.after_iff.mpr rfl, Cond.after_iff.mpr (eq_i res_at (Term.int_eval (1)) rfl), trivial⟩ ⟨⟨_, rfl⟩, hq.2.1, (hq.2.2.sift fun y hy => Or.inr (N y hy)).mono (by decide) (by decide)⟩⟩
theorem main_1_1 : Claimed_1_1 := comes_1 fun _ _ _ _ _ _ h hF => ⟨h.1, hF⟩
theorem main_1_2 : Claimed_1_2 := comes_1 fun _ _ _ _ _ _ h hF => ⟨h.2.1, hF⟩
end Jvm.Pilot.@@N@@
namespace Jvm.Pilot.@@N@@
open Jvm Jvm.ClassFile Sem Op Lib Jvm.Free Jvm.Stand Jvm.Pilot.@@N@@.Jvm.D
/-! MADE BY PROGRAM (witnessworld.py) out of the Statement's table words and the real class files: 9 classes; the members and pool entries that the words name. The judged class is class 1, her method 1. -/
namespace start1
open Jvm.ClassFile
def u (s : String) : CpInfo := .utf8 (stringToUtf16 s)
/-- a pool by its gaps: so many unusable entries, then the entry; so many at the end -/
def gap : Nat → List CpInfo → List CpInfo
  | 0, r => r
  | n + 1, r => .unusable :: gap n r
def poolList (es : List (Nat × CpInfo)) (last : Nat) : List CpInfo := es.foldr (fun e r => gap e.1 (e.2 :: r)) (gap last [])
def pool (es : List (Nat × CpInfo)) (last : Nat) : Array CpInfo := ⟨poolList es last⟩
def fileOf (pool : Array CpInfo) (this : Nat) (attrs : Array Attribute := #[]) (ms : Array MethodInfo := #[]) (fl : Nat := 33) (sup : Nat := 0) (ifs : Array Nat := #[]) (fds : Array FieldInfo := #[]) : ClassFile where
  minorVersion := 0
  majorVersion := 65
  constantPool := pool
  accessFlags := fl
  thisClass := this
  superClass := sup
  interfaces := ifs
  fields := fds
  methods := ms
  attributes := attrs
def plain (name : String) (sup : Option ClassId) : Class where
  name := name
  kind := .ordinary
  loader := none
  accessFlags := 33
  super := sup
  interfaces := #[]
  cf := none
  fields := #[]
  methods := #[]
  instanceTypes := #[]
  staticTypes := #[]
  resolved := #[]
  callSites := []
  init := .initialized
  statics := none
  mirror := none

def pool0 : Array CpInfo := pool [(5, u "<init>"), (0, u "()V"), (1, .class_ 10), (1, u "java/lang/Object")] 113

def k0c0 : Code := { maxStack := 0, maxLocals := 1, code := object_method_1_code, exceptionTable := #[], attributes := #[] }
def k0m0 : Method := { name := "<init>", desc := "()V", sig := { parameters := [], returnType := none }, accessFlags := 1, code := some k0c0 }
/-- java/lang/Object -/
def k0 : Class := { plain "java/lang/Object" none with
  accessFlags := 33
  interfaces := #[]
  cf := some (fileOf pool0 8 #[] #[{ accessFlags := 1, nameIndex := 5, descriptorIndex := 6, attributes := #[] }] 33 0 #[] #[])
  fields := #[]
  methods := #[k0m0]
  instanceTypes := #[]
  staticTypes := #[]
  resolved := Array.replicate 124 none
  statics := none }

def pool1 : Array CpInfo := pool [(2, .class_ 4), (0, .nameAndType 5 6), (0, u "java/lang/Object"), (0, u "<init>"), (0, u "()V"), (2, .long 9223372036854775807), (1, .class_ 12), (0, u "com/example/termwright/termwright/Spool$Record"), (0, .methodref 11 3), (0, .methodref 11 15), (0, .nameAndType 16 17), (0, u "putNumber"), (0, u "(J)Lcom/example/termwright/termwright/Spool$Record;"), (0, .methodref 11 19), (0, .nameAndType 20 21), (0, u "number"), (0, u "()J"), (0, .methodref 11 23), (0, .nameAndType 24 25), (0, u "clear"), (0, u "()Lcom/example/termwright/termwright/Spool$Record;"), (0, .class_ 27), (0, u "com/example/termwright/termwright/RecordClearPinLaw"), (2, u "law"), (0, u "(JJJJI)Z")] 7

def k1m0 : Method := { name := "<init>", desc := "()V", sig := { parameters := [], returnType := none }, accessFlags := 1, code := none }
def k1c1 : Code := { maxStack := 4, maxLocals := 24, code := code, exceptionTable := #[], attributes := #[] }
def k1m1 : Method := { name := "law", desc := "(JJJJI)Z", sig := { parameters := [.long, .long, .long, .long, .int], returnType := some .boolean }, accessFlags := 9, code := some k1c1 }
/-- com/example/termwright/termwright/RecordClearPinLaw -/
def k1 : Class := { plain "com/example/termwright/termwright/RecordClearPinLaw" (some 0) with
  accessFlags := 49
  interfaces := #[]
  cf := some (fileOf pool1 26 #[] #[{ accessFlags := 1, nameIndex := 5, descriptorIndex := 6, attributes := #[] }, { accessFlags := 9, nameIndex := 30, descriptorIndex := 31, attributes := #[] }] 49 2 #[] #[])
  fields := #[]
  methods := #[k1m0, k1m1]
  instanceTypes := #[]
  staticTypes := #[]
  resolved := Array.replicate 39 none
  statics := none }

def pool2 : Array CpInfo := pool [(1, .methodref 2 3), (0, .class_ 4), (0, .nameAndType 5 6), (0, u "java/lang/Object"), (0, u "<init>"), (0, u "()V"), (0, .fieldref 8 9), (0, .class_ 10), (0, .nameAndType 11 12), (0, u "com/example/termwright/termwright/Spool$Record"), (0, u "bytes"), (0, u "[B"), (0, .fieldref 8 14), (0, .nameAndType 15 16), (0, u "length"), (0, u "I"), (0, .fieldref 8 18), (0, .nameAndType 19 16), (0, u "position"), (9, .long 10), (1, .methodref 8 32), (0, .nameAndType 33 34), (0, u "room"), (0, u "(J)V"), (0, .long 128), (1, .long 127), (8, u "putNumber"), (0, u "(J)Lcom/example/termwright/termwright/Spool$Record;"), (8, u "number"), (0, u "()J"), (9, .long 2), (13, u "clear"), (0, u "()Lcom/example/termwright/termwright/Spool$Record;"), (10, .class_ 94), (0, u "com/example/termwright/termwright/Spool")] 16

def k2c0 : Code := { maxStack := 2, maxLocals := 1, code := prog_34_method_1_code, exceptionTable := #[], attributes := #[] }
def k2m0 : Method := { name := "<init>", desc := "()V", sig := { parameters := [], returnType := none }, accessFlags := 0, code := some k2c0 }
def k2c1 : Code := { maxStack := 2, maxLocals := 1, code := prog_34_method_2_code, exceptionTable := #[], attributes := #[] }
def k2m1 : Method := { name := "clear", desc := "()Lcom/example/termwright/termwright/Spool$Record;", sig := { parameters := [], returnType := some (.object "com/example/termwright/termwright/Spool$Record") }, accessFlags := 0, code := some k2c1 }
def k2c2 : Code := { maxStack := 6, maxLocals := 5, code := prog_34_method_3_code, exceptionTable := #[], attributes := #[] }
def k2m2 : Method := { name := "putNumber", desc := "(J)Lcom/example/termwright/termwright/Spool$Record;", sig := { parameters := [.long], returnType := some (.object "com/example/termwright/termwright/Spool$Record") }, accessFlags := 0, code := some k2c2 }
def k2c3 : Code := { maxStack := 5, maxLocals := 5, code := prog_34_method_5_code, exceptionTable := #[], attributes := #[] }
def k2m3 : Method := { name := "number", desc := "()J", sig := { parameters := [], returnType := some .long }, accessFlags := 0, code := some k2c3 }
def k2c4 : Code := { maxStack := 8, maxLocals := 5, code := prog_34_method_7_code, exceptionTable := #[], attributes := #[] }
def k2m4 : Method := { name := "room", desc := "(J)V", sig := { parameters := [.long], returnType := none }, accessFlags := 2, code := some k2c4 }
/-- com/example/termwright/termwright/Spool$Record -/
def k2 : Class := { plain "com/example/termwright/termwright/Spool$Record" (some 0) with
  accessFlags := 48
  interfaces := #[]
  cf := some (fileOf pool2 8 #[.nestHost 93] #[{ accessFlags := 0, nameIndex := 5, descriptorIndex := 6, attributes := #[] }, { accessFlags := 0, nameIndex := 81, descriptorIndex := 82, attributes := #[] }, { accessFlags := 0, nameIndex := 46, descriptorIndex := 47, attributes := #[] }, { accessFlags := 0, nameIndex := 56, descriptorIndex := 57, attributes := #[] }, { accessFlags := 2, nameIndex := 33, descriptorIndex := 34, attributes := #[] }] 48 2 #[] #[{ accessFlags := 2, nameIndex := 11, descriptorIndex := 12, attributes := #[] }, { accessFlags := 2, nameIndex := 15, descriptorIndex := 16, attributes := #[] }, { accessFlags := 2, nameIndex := 19, descriptorIndex := 16, attributes := #[] }])
  fields := #[{ name := "bytes", type := (.array .byte), accessFlags := 2, slot := 0, constantValue := 0 }, { name := "length", type := .int, accessFlags := 2, slot := 1, constantValue := 0 }, { name := "position", type := .int, accessFlags := 2, slot := 2, constantValue := 0 }]
  methods := #[k2m0, k2m1, k2m2, k2m3, k2m4]
  instanceTypes := #[(.array .byte), .int, .int]
  staticTypes := #[]
  resolved := Array.replicate 111 none
  statics := none }

def pool3 : Array CpInfo := pool [(1, u "java/lang/Cloneable"), (0, .class_ 1), (0, u "java/lang/Object"), (0, .class_ 3)] 3

/-- java/lang/Cloneable -/
def k3 : Class := { plain "java/lang/Cloneable" (some 0) with
  accessFlags := 1537
  interfaces := #[]
  cf := some (fileOf pool3 2 #[] #[] 1537 4 #[] #[])
  fields := #[]
  methods := #[]
  instanceTypes := #[]
  staticTypes := #[]
  resolved := Array.replicate 8 none
  statics := none }

def pool4 : Array CpInfo := pool [(1, u "java/io/Serializable"), (0, .class_ 1), (0, u "java/lang/Object"), (0, .class_ 3)] 3

/-- java/io/Serializable -/
def k4 : Class := { plain "java/io/Serializable" (some 0) with
  accessFlags := 1537
  interfaces := #[]
  cf := some (fileOf pool4 2 #[] #[] 1537 4 #[] #[])
  fields := #[]
  methods := #[]
  instanceTypes := #[]
  staticTypes := #[]
  resolved := Array.replicate 8 none
  statics := none }

/-- the primitive byte -/
def k5 : Class := { plain "byte" none with kind := .primitive 'B', accessFlags := 0x411 }
/-- [B -/
def k6 : Class := { plain "[B" (some 0) with kind := .array 5 .byte, interfaces := #[3, 4], accessFlags := 1041 }

/-- the primitive int -/
def k7 : Class := { plain "int" none with kind := .primitive 'I', accessFlags := 0x411 }
/-- [I -/
def k8 : Class := { plain "[I" (some 0) with kind := .array 7 .int, interfaces := #[3, 4], accessFlags := 1041 }

def heap : Heap := #[]
def classes : Array Class := #[k0, k1, k2, k3, k4, k5, k6, k7, k8]
def interned : List (Array UInt16 × Addr) := []
def slotsUsed : Nat := 0
def theMethod : MethodId := ⟨1, 1⟩
def args0 : Array Value := #[.long 5, .long 300, .long 7, .long 1000, .int 3]
def aboutOver (below : List Frame) : State where
  vm := { classes := classes, interned := interned.toArray }
  heap := heap
  slotsUsed := slotsUsed
  threads := #[{ frames := .invoking theMethod args0 :: below }]
def below0 : List Frame := [.native { method := ⟨0, 0⟩, args := #[] }]
def about1 : State := aboutOver below0
def p0 : Program := .bare "" "" ""
def e0 : Env := launch0.env 0 0 0
theorem w_frames : about1.frames = Frame.invoking theMethod args0 :: below0 := rfl
set_option maxRecDepth 65536 in
theorem w_args : argsFit about1.vm theMethod args0 = true := by decide +kernel
set_option maxRecDepth 65536 in
theorem w_heap : heapFits about1 = true := by decide +kernel
set_option maxRecDepth 65536 in
theorem w_runnable : about1.curStatus? = some .runnable := by decide +kernel
set_option maxRecDepth 65536 in
theorem w_alone : about1.alone = true := by decide +kernel
set_option maxRecDepth 65536 in
theorem w_named : about1.methodNamed? x = some theMethod := by decide +kernel
set_option maxRecDepth 65536 in
theorem w_hears : about1.hears theMethod below0 = true := by decide +kernel
set_option maxRecDepth 65536 in
theorem w_ripe : about1.ripe theMethod args0 below0 = true := by decide +kernel
theorem w_running : about1.status = .running := rfl
set_option maxRecDepth 65536 in
theorem w_room : about1.hasRoom e0.platform room_1 = true :=
  launch0.hasRoom_least _ room_1 (by decide +kernel) (by decide +kernel) (by decide +kernel) (by decide +kernel) (by decide +kernel) (by decide +kernel)
theorem allAtoms_all (ts : List Jvm.Cond) (a : Array Jvm.Value) (st : Jvm.State) : (allAtoms ts).before a st = ts.all (fun c => c.before a st) := by
  induction ts with
  | nil => rfl
  | cons c t ih =>
    show (Jvm.Cond.and c (allAtoms t)).before a st = _
    rw [Jvm.Cond.before_and, ih, List.all_cons]
def words1 : List Jvm.Cond := Jvm.Cond.code x code maxLocals ret :: tables_1
/-- a 'code' word, met by the world's own term for the bytes: nothing is compared byte by byte -/
theorem code_word {y : MethodName} {bytes : ByteArray} {mx : Nat} {rt : Option FieldType} {a : Array Value} {s : State} {m : MethodId} {meth : Method} {c : Code} (h1 : s.methodNamed? y = some m) (h2 : s.vm.method? m = some meth) (h3 : meth.code = some c) (h4 : c.code = bytes)
    (h5 : (c.maxLocals == mx && c.exceptionTable.isEmpty && decide (c.maxStack ≤ mostOperands) && decide (meth.sig.returnType = rt) && !meth.locks && decide (parseMethodDescriptor y.desc = some meth.sig)) = true) : (Jvm.Cond.code y bytes mx rt).before a s = true := by
  simp only [Bool.and_eq_true, beq_iff_eq, Bool.not_eq_true', decide_eq_true_eq] at h5
  obtain ⟨⟨⟨⟨⟨g1, g2⟩, g3⟩, g4⟩, g5⟩, g6⟩ := h5
  simp [Cond.before, Cond.holds, Cond.value, h1, h2, h3, h4, g1, g2, g3, g4, g5, g6]
def isCode : Jvm.Cond → Bool
  | .code _ _ _ _ => true
  | _ => false
theorem all_split {L : List Jvm.Cond} {P : Jvm.Cond → Bool} (h1 : L.all (fun c => isCode c || P c) = true) (h2 : ∀ c ∈ L.filter isCode, P c = true) : L.all P = true := by
  refine List.all_eq_true.mpr fun c hc => ?_
  have h := List.all_eq_true.mp h1 c hc
  rcases Bool.eq_false_or_eq_true (isCode c) with hi | hi
  · exact h2 c (List.mem_filter.mpr ⟨hc, hi⟩)
  · simpa [hi] using h
set_option maxRecDepth 65536 in
theorem w_c0 : (Jvm.Cond.code x code maxLocals ret).before args0 about1 = true := code_word (m := ⟨1, 1⟩) (meth := k1m1) (c := k1c1) (by decide +kernel) rfl rfl rfl (by decide +kernel)
set_option maxRecDepth 65536 in
theorem w_c1 : (Jvm.Cond.code ({ cls := "com/example/termwright/termwright/Spool$Record", name := "<init>", desc := "()V" } : Jvm.MethodName) prog_34_method_1_code (1 : Nat) (Option.none : Option Jvm.ClassFile.FieldType)).before args0 about1 = true := code_word (m := ⟨2, 0⟩) (meth := k2m0) (c := k2c0) (by decide +kernel) rfl rfl rfl (by decide +kernel)
set_option maxRecDepth 65536 in
theorem w_c2 : (Jvm.Cond.code ({ cls := "java/lang/Object", name := "<init>", desc := "()V" } : Jvm.MethodName) object_method_1_code (1 : Nat) (Option.none : Option Jvm.ClassFile.FieldType)).before args0 about1 = true := code_word (m := ⟨0, 0⟩) (meth := k0m0) (c := k0c0) (by decide +kernel) rfl rfl rfl (by decide +kernel)
set_option maxRecDepth 65536 in
theorem w_c3 : (Jvm.Cond.code ({ cls := "com/example/termwright/termwright/Spool$Record", name := "putNumber", desc := "(J)Lcom/example/termwright/termwright/Spool$Record;" } : Jvm.MethodName) prog_34_method_3_code (5 : Nat) (Option.some (Jvm.ClassFile.FieldType.object "com/example/termwright/termwright/Spool$Record"))).before args0 about1 = true := code_word (m := ⟨2, 2⟩) (meth := k2m2) (c := k2c2) (by decide +kernel) rfl rfl rfl (by decide +kernel)
set_option maxRecDepth 65536 in
theorem w_c4 : (Jvm.Cond.code ({ cls := "com/example/termwright/termwright/Spool$Record", name := "room", desc := "(J)V" } : Jvm.MethodName) prog_34_method_7_code (5 : Nat) (Option.none : Option Jvm.ClassFile.FieldType)).before args0 about1 = true := code_word (m := ⟨2, 4⟩) (meth := k2m4) (c := k2c4) (by decide +kernel) rfl rfl rfl (by decide +kernel)
set_option maxRecDepth 65536 in
theorem w_c5 : (Jvm.Cond.code ({ cls := "com/example/termwright/termwright/Spool$Record", name := "number", desc := "()J" } : Jvm.MethodName) prog_34_method_5_code (5 : Nat) (Option.some Jvm.ClassFile.FieldType.long)).before args0 about1 = true := code_word (m := ⟨2, 3⟩) (meth := k2m3) (c := k2c3) (by decide +kernel) rfl rfl rfl (by decide +kernel)
set_option maxRecDepth 65536 in
theorem w_c6 : (Jvm.Cond.code ({ cls := "com/example/termwright/termwright/Spool$Record", name := "clear", desc := "()Lcom/example/termwright/termwright/Spool$Record;" } : Jvm.MethodName) prog_34_method_2_code (1 : Nat) (Option.some (Jvm.ClassFile.FieldType.object "com/example/termwright/termwright/Spool$Record"))).before args0 about1 = true := code_word (m := ⟨2, 1⟩) (meth := k2m1) (c := k2c1) (by decide +kernel) rfl rfl rfl (by decide +kernel)
def codes1 : List Jvm.Cond := [Jvm.Cond.code x code maxLocals ret, Jvm.Cond.code ({ cls := "com/example/termwright/termwright/Spool$Record", name := "<init>", desc := "()V" } : Jvm.MethodName) prog_34_method_1_code (1 : Nat) (Option.none : Option Jvm.ClassFile.FieldType), Jvm.Cond.code ({ cls := "java/lang/Object", name := "<init>", desc := "()V" } : Jvm.MethodName) object_method_1_code (1 : Nat) (Option.none : Option Jvm.ClassFile.FieldType), Jvm.Cond.code ({ cls := "com/example/termwright/termwright/Spool$Record", name := "putNumber", desc := "(J)Lcom/example/termwright/termwright/Spool$Record;" } : Jvm.MethodName) prog_34_method_3_code (5 : Nat) (Option.some (Jvm.ClassFile.FieldType.object "com/example/termwright/termwright/Spool$Record")), Jvm.Cond.code ({ cls := "com/example/termwright/termwright/Spool$Record", name := "room", desc := "(J)V" } : Jvm.MethodName) prog_34_method_7_code (5 : Nat) (Option.none : Option Jvm.ClassFile.FieldType), Jvm.Cond.code ({ cls := "com/example/termwright/termwright/Spool$Record", name := "number", desc := "()J" } : Jvm.MethodName) prog_34_method_5_code (5 : Nat) (Option.some Jvm.ClassFile.FieldType.long), Jvm.Cond.code ({ cls := "com/example/termwright/termwright/Spool$Record", name := "clear", desc := "()Lcom/example/termwright/termwright/Spool$Record;" } : Jvm.MethodName) prog_34_method_2_code (1 : Nat) (Option.some (Jvm.ClassFile.FieldType.object "com/example/termwright/termwright/Spool$Record"))]
set_option maxRecDepth 65536 in
theorem codes_eq : words1.filter isCode = codes1 := rfl
theorem w_codes : ∀ c ∈ words1.filter isCode, c.before args0 about1 = true := by
  rw [codes_eq]
  intro c hc
  simp only [codes1, List.mem_cons, List.not_mem_nil, or_false] at hc
  rcases hc with rfl | rfl | rfl | rfl | rfl | rfl | rfl
  · exact w_c0
  · exact w_c1
  · exact w_c2
  · exact w_c3
  · exact w_c4
  · exact w_c5
  · exact w_c6
set_option maxRecDepth 65536 in
theorem w_t1 : (words1.take 24).all (fun c => isCode c || c.before args0 about1) = true := by decide +kernel
set_option maxRecDepth 65536 in
theorem w_t2 : (words1.drop 24).all (fun c => isCode c || c.before args0 about1) = true := by decide +kernel
theorem w_tables : (allAtoms (Jvm.Cond.code x code maxLocals ret :: tables_1)).before args0 about1 = true := by
  rw [allAtoms_all]
  show words1.all (fun c => c.before args0 about1) = true
  refine all_split ?_ w_codes
  rw [← List.take_append_drop 24 words1, List.all_append, w_t1, w_t2]
  rfl
set_option maxRecDepth 65536 in
theorem w_case : (Jvm.Cond.and given_1 narrow_1).before args0 about1 = true := by decide +kernel
theorem w_applies : (headSpec (Jvm.Cond.code x code maxLocals ret :: tables_1) room_1).applies x e0.platform about1 = true :=
  (Spec.applies_iff w_frames).mpr ⟨w_running, w_runnable, w_alone, w_named, w_hears, w_ripe, w_room, w_tables⟩
theorem atStart : AtStart classFile x code maxLocals ret World_1 tables_1 room_1 Calls_1 rest_1 Pre_1 launch0 p0 e0 about1 theMethod args0 below0 :=
  ⟨lists_1, trivial, launch0.admits_env _ _ _, launch0.least_env, fairChoices_fair.cas, fairChoices_fair.clock, w_frames, w_args, w_heap, w_applies, trivial, trivial, w_case⟩
end start1
theorem witness_1 : WitnessClaimed_1 := ⟨start1.p0, start1.e0, start1.about1, start1.theMethod, start1.args0, start1.below0, start1.atStart⟩
end Jvm.Pilot.@@N@@
