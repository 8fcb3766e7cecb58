import JvmDerived
import JvmDerived.Pilot.@@N@@Statement
import JvmDerived.Pilot.@@N@@Code
set_option linter.unusedVariables false
set_option linter.unusedSimpArgs false
@@BLOCK:NumsL.lean.txt@@
@@BLOCK:Masks.lean.txt@@
namespace Jvm.Pilot.@@N@@
open Jvm Jvm.ClassFile Sem Op Lib Jvm.Free Jvm.Stand Jvm.LawKit Jvm.RoadKit Bundle Jvm.Pilot.@@N@@.Jvm.D
def own_G (tb : Tables) (e : Env) (below : List Frame) (En : Outcome → State → List Loc → Prop) (Q : Option Value → Heap → List Loc → Prop) (U : State) : Prop :=
  ∃ t o, Steps tb e below U t ∧ t.status = .running ∧ Ended t below o ∧ ∃ v L, o = .returned v ∧ Q v t.heap L ∧ En o t L
/-- the frame at the end, counted from s -/
def own_E (s : State) (nc ns : Nat) (o : Outcome) (t : State) (L : List Loc) : Prop := FrameEnd s o t L nc ns
theorem own_st {tb : Tables} {e : Env} {below : List Frame} {En : Outcome → State → List Loc → Prop} {Q : Option Value → Heap → List Loc → Prop} {U U' : State} (h : own_G tb e below En Q U') (st : ∀ t, Steps tb e below U' t → Steps tb e below U t) : own_G tb e below En Q U := by
  obtain ⟨t, o, h1, h2⟩ := h
  exact ⟨t, o, st t h1, h2⟩
section OwnRet
variable {p : Program} {l : Launch} {e : Env} {R : Room} {s : State} {m : MethodId} {args : Array Value} {below : List Frame} {meth : Method} {c : Code} {T : State} {locs : List Loc} {cells slots : Nat}
theorem own_retN (X : Stand p l e R s m args below meth c T locs cells slots) (hx : p.tables.exec = Jvm.exec) (hlk : meth.locks = false) {pc : Nat} {Ls : Array Slot} {z z' : Int32} {t : FieldType} {rest : List Value} (hret : meth.sig.returnType = some t) (ht : t = .boolean ∨ t = .byte ∨ t = .char ∨ t = .short)
    (hd : decode c.code pc = .ok (.ireturn, 1)) {Q : Option Value → Heap → List Loc → Prop} {nc ns : Nat} (hc : cells ≤ nc) (hs : slots ≤ ns) (hz : nar t z = z') (hQ : Q (some (.int z')) T.heap locs) : own_G p.tables e below (own_E s nc ns) Q (T.setTop (mkF m pc Ls (.int z :: rest))) := by
  subst hz
  obtain ⟨fs, hr, hrun, hended, hW, hsame⟩ := X.leave (v := some (.int (nar t z))) (fun h => by rw [hret] at h; cases h) hlk
  exact ⟨_, _, retN X hx hret ht hd hr, hrun, hended, _, _, rfl, hQ, ⟨_, rfl⟩, hW, hsame.mono hc hs⟩
theorem own_retI (X : Stand p l e R s m args below meth c T locs cells slots) (hx : p.tables.exec = Jvm.exec) (hlk : meth.locks = false) {pc : Nat} {Ls : Array Slot} {z : Int32} {rest : List Value} (hret : meth.sig.returnType = some .int)
    (hd : decode c.code pc = .ok (.ireturn, 1)) {Q : Option Value → Heap → List Loc → Prop} {nc ns : Nat} (hc : cells ≤ nc) (hs : slots ≤ ns) (hQ : Q (some (.int z)) T.heap locs) : own_G p.tables e below (own_E s nc ns) Q (T.setTop (mkF m pc Ls (.int z :: rest))) := by
  obtain ⟨fs, hr, hrun, hended, hW, hsame⟩ := X.leave (v := some (.int z)) (fun h => by rw [hret] at h; cases h) hlk
  exact ⟨_, _, retOut X hx hret rfl (Or.inl ⟨rfl, Or.inl rfl, _, rfl⟩) hd hr, hrun, hended, _, _, rfl, hQ, ⟨_, rfl⟩, hW, hsame.mono hc hs⟩
theorem own_retJ (X : Stand p l e R s m args below meth c T locs cells slots) (hx : p.tables.exec = Jvm.exec) (hlk : meth.locks = false) {pc : Nat} {Ls : Array Slot} {z : Int64} {rest : List Value} (hret : meth.sig.returnType = some .long)
    (hd : decode c.code pc = .ok (.lreturn, 1)) {Q : Option Value → Heap → List Loc → Prop} {nc ns : Nat} (hc : cells ≤ nc) (hs : slots ≤ ns) (hQ : Q (some (.long z)) T.heap locs) : own_G p.tables e below (own_E s nc ns) Q (T.setTop (mkF m pc Ls (.long z :: rest))) := by
  obtain ⟨fs, hr, hrun, hended, hW, hsame⟩ := X.leave (v := some (.long z)) (fun h => by rw [hret] at h; cases h) hlk
  exact ⟨_, _, retOut X hx hret rfl (Or.inr (Or.inl ⟨rfl, rfl, _, rfl⟩)) hd hr, hrun, hended, _, _, rfl, hQ, ⟨_, rfl⟩, hW, hsame.mono hc hs⟩
theorem own_retA (X : Stand p l e R s m args below meth c T locs cells slots) (hx : p.tables.exec = Jvm.exec) (hlk : meth.locks = false) {pc : Nat} {Ls : Array Slot} {z : Value} {t : FieldType} {rest : List Value} (hret : meth.sig.returnType = some t) (ht : t.isReference = true) (hn : narrow t z = z) (hv : z.isRef = true)
    (hd : decode c.code pc = .ok (.areturn, 1)) {Q : Option Value → Heap → List Loc → Prop} {nc ns : Nat} (hc : cells ≤ nc) (hs : slots ≤ ns) (hQ : Q (some z) T.heap locs) : own_G p.tables e below (own_E s nc ns) Q (T.setTop (mkF m pc Ls (z :: rest))) := by
  obtain ⟨fs, hr, hrun, hended, hW, hsame⟩ := X.leave (v := some z) (fun h => by rw [hret] at h; cases h) hlk
  exact ⟨_, _, retOut X hx hret hn (Or.inr (Or.inr (Or.inr (Or.inr ⟨rfl, ht, hv⟩)))) hd hr, hrun, hended, _, _, rfl, hQ, ⟨_, rfl⟩, hW, hsame.mono hc hs⟩
theorem own_retV (X : Stand p l e R s m args below meth c T locs cells slots) (hx : p.tables.exec = Jvm.exec) (hlk : meth.locks = false) {pc : Nat} {Ls : Array Slot} (hret : meth.sig.returnType = none)
    (hd : decode c.code pc = .ok (.return_, 1)) {Q : Option Value → Heap → List Loc → Prop} {nc ns : Nat} (hc : cells ≤ nc) (hs : slots ≤ ns) (hQ : Q none T.heap locs) : own_G p.tables e below (own_E s nc ns) Q (T.setTop (mkF m pc Ls [])) := by
  obtain ⟨fs, hr, hrun, hended, hW, hsame⟩ := X.leave (v := none) (fun _ => rfl) hlk
  exact ⟨_, _, X.returnOut hx hret hd hr, hrun, hended, _, _, rfl, hQ, ⟨_, rfl⟩, hW, hsame.mono hc hs⟩
/-- the wide frame at the end: Strings may have been interned -/
def own_EW (s : State) (nc ns : Nat) (o : Outcome) (t : State) (L : List Loc) : Prop := ReturnedEndW s o t L nc ns
theorem own_retNW {vm1 : Vm} (X : Stand p l e R (s.setVm vm1) m args below meth c T locs cells slots) (hx : p.tables.exec = Jvm.exec) (hlk : meth.locks = false) {k : Nat} (hS : s.Since vm1 k) (hk : k ≤ T.heap.size) {pc : Nat} {Ls : Array Slot} {z z' : Int32} {t : FieldType} {rest : List Value} (hret : meth.sig.returnType = some t) (ht : t = .boolean ∨ t = .byte ∨ t = .char ∨ t = .short)
    (hd : decode c.code pc = .ok (.ireturn, 1)) {Q : Option Value → Heap → List Loc → Prop} {nc ns : Nat} (hc : cells ≤ nc) (hs : slots ≤ ns) (hz : nar t z = z') (hQ : Q (some (.int z')) T.heap locs) : own_G p.tables e below (own_EW s nc ns) Q (T.setTop (mkF m pc Ls (.int z :: rest))) := by
  subst hz
  obtain ⟨fs, hr, hrun, hended, h1, h2, h3, h4⟩ := X.leaveW hS hk (v := some (.int (nar t z))) (fun h => by rw [hret] at h; cases h) hlk
  exact ⟨_, _, retN X hx hret ht hd hr, hrun, hended, _, _, rfl, hQ, h1, h2, h3, h4.mono hc hs⟩
end OwnRet
/-- it returns r; nothing old is written (own_QV: the heap is as it was) -/
def own_QL (r : Value) (n0 : Nat) (v : Option Value) (h : Heap) (L : List Loc) : Prop := v = some r ∧ Fr n0 L
def own_QN (h0 : Heap) (n0 : Nat) (v : Option Value) (h : Heap) (L : List Loc) : Prop := v = none ∧ Fr n0 L ∧ h = h0
def own_QV (r : Value) (h0 : Heap) (n0 : Nat) (v : Option Value) (h : Heap) (L : List Loc) : Prop := v = some r ∧ Fr n0 L ∧ h = h0
theorem own_strs : ∀ a ∈ Bundle.stringAtoms, a ∈ tables_1 := by decide +kernel
theorem own_frs {n0 : Nat} {h0 : Heap} {s : State} {L : List Loc} (N : Fr n0 L) (e : n0 = h0.size) (hh : s.heap = h0) : Fr s.heap.size L := by rw [hh, ← e]; exact N
/-- the text that the sheet's i-th word names, its signs as signed bytes, what place j of them holds -/
def own_text (i : Nat) : String := match tables_1[i]? with
  | some (.stringLink _ _ t) => t
  | _ => ""
def own_bs (i : Nat) : List Int32 := (own_text i).toList.map fun c => Jvm.Lit.byteI c.toNat.toUInt16
def own_g (i j : Nat) : Int32 := (own_bs i).getD j 0
def own_vs (i : Nat) : List Value := (own_bs i).map Value.int
/-- a byte[] of n places that hold g -/
def own_C (Z : State) (h : Heap) (t : Addr) (n : Nat) (g : Nat → Int32) : Prop := ∃ c : Cell, Arr Z h t c .byte ∧ c.slots.size = n ∧ ∀ i, i < n → c.slots[i]? = some (.int (g i))
theorem own_C_ext {Z : State} {h h' : Heap} {t : Addr} {n : Nat} {g : Nat → Int32} (F : own_C Z h t n g) (E : Ext h h') : own_C Z h' t n g := by obtain ⟨c, A, r⟩ := F; exact ⟨c, A.ext E, r⟩
theorem own_C_of {Z : State} {h : Heap} {t : Addr} {k : ClassId} {n i : Nat} (F : Arv Z h t k .byte (Int32.ofNat n) (own_vs i) (.int 0)) (hn : n < 2 ^ 31) : own_C Z h t n (own_g i) := by
  obtain ⟨c, A, -, S, -, H, -⟩ := F
  have S' : c.slots.size = n := by rw [S, Int32.toNatClampNeg, Int32.toInt_ofNat_of_lt hn]; rfl
  refine ⟨c, A, S', fun j hj => ?_⟩
  rw [H j (by omega), own_vs, own_g]
  simp only [List.getD_eq_getElem?_getD, List.getElem?_map]
  cases (own_bs i)[j]? <;> rfl
theorem own_nz {args : Array Value} {s : State} {z : Int32} (ez : (Term.static "java/lang/String" "COMPACT_STRINGS" "Z").eval args s none [] s = some (.int z)) (h : Jvm.Lit.compactW.before args s = true) : ¬ z = 0 := by
  intro q; subst q
  have h2 := not_v (Cond.before_iff.mp h)
  simp only [Jvm.Cond.value, ez] at h2
  simp [Term.eval] at h2
theorem own_to0 {n k : Nat} (h : k < n) (hn : n < 2 ^ 31) : (k.toInt32 < n.toInt32) ∧ ¬ (k.toInt32 < 0 ∨ n ≤ k.toInt32.toNatClampNeg) ∧ k.toInt32.toNatClampNeg = k := by
  have e0 : (0 : Int32).toInt = 0 := by decide
  have e : k.toInt32.toNatClampNeg = k := by rw [Int32.toNatClampNeg, len_toInt (by omega)]; rfl
  refine ⟨by rw [Int32.lt_iff_toInt_lt, len_toInt hn, len_toInt (by omega)]; omega, ?_, e⟩
  rw [e, Int32.lt_iff_toInt_lt, len_toInt (by omega), e0]; omega
theorem own_inc (k : Nat) : k.toInt32 + (1 : Int32) = (k + 1).toInt32 := i32_ofNat_add_one k
theorem d4_0 : decode jdk_43_method_13_code 0 = .ok (.aload_n 0, 1) := by decide +kernel
theorem d4_1 : decode jdk_43_method_13_code 1 = .ok (.arraylength, 1) := by decide +kernel
theorem d4_2 : decode jdk_43_method_13_code 2 = .ok (.aload_n 1, 1) := by decide +kernel
theorem d4_3 : decode jdk_43_method_13_code 3 = .ok (.arraylength, 1) := by decide +kernel
theorem d4_4 : decode jdk_43_method_13_code 4 = .ok (.if_icmp .ne 30, 3) := by decide +kernel
theorem d4_7 : decode jdk_43_method_13_code 7 = .ok (.iconst 0, 1) := by decide +kernel
theorem d4_8 : decode jdk_43_method_13_code 8 = .ok (.istore_n 2, 1) := by decide +kernel
theorem d4_9 : decode jdk_43_method_13_code 9 = .ok (.iload_n 2, 1) := by decide +kernel
theorem d4_10 : decode jdk_43_method_13_code 10 = .ok (.aload_n 0, 1) := by decide +kernel
theorem d4_11 : decode jdk_43_method_13_code 11 = .ok (.arraylength, 1) := by decide +kernel
theorem d4_12 : decode jdk_43_method_13_code 12 = .ok (.if_icmp .ge 20, 3) := by decide +kernel
theorem d4_15 : decode jdk_43_method_13_code 15 = .ok (.aload_n 0, 1) := by decide +kernel
theorem d4_16 : decode jdk_43_method_13_code 16 = .ok (.iload_n 2, 1) := by decide +kernel
theorem d4_17 : decode jdk_43_method_13_code 17 = .ok (.baload, 1) := by decide +kernel
theorem d4_18 : decode jdk_43_method_13_code 18 = .ok (.aload_n 1, 1) := by decide +kernel
theorem d4_19 : decode jdk_43_method_13_code 19 = .ok (.iload_n 2, 1) := by decide +kernel
theorem d4_20 : decode jdk_43_method_13_code 20 = .ok (.baload, 1) := by decide +kernel
theorem d4_21 : decode jdk_43_method_13_code 21 = .ok (.if_icmp .eq 5, 3) := by decide +kernel
theorem d4_26 : decode jdk_43_method_13_code 26 = .ok (.iinc 2 1, 3) := by decide +kernel
theorem d4_29 : decode jdk_43_method_13_code 29 = .ok (.goto (-20), 3) := by decide +kernel
theorem d4_32 : decode jdk_43_method_13_code 32 = .ok (.iconst 1, 1) := by decide +kernel
theorem d4_33 : decode jdk_43_method_13_code 33 = .ok (.ireturn, 1) := by decide +kernel
theorem pn_4 : plainName "java/lang/StringLatin1" = true := by first | (simp [plainName, overriddenIn]; done) | decide +kernel
set_option maxRecDepth 65536 in
set_option maxHeartbeats 40000000 in
theorem own_lq {p : Program} {l : Launch} {e : Env} {s : State} {m : MethodId} {args : Array Value} {below : List Frame} {meth : Method} {c : Code} {Z : State} {a0' : Array Value} {h0 : Heap} {n0 : Nat} {a0 a1 : Addr} {n1 : Nat} {g1 : Nat → Int32} (hx : p.tables.exec = Jvm.exec) (hlk : meth.locks = false) (hZ : Z.Warmed39 s.vm) (hw : ∀ d ∈ tables_1, d.before a0' Z = true) (hby : c.code = jdk_43_method_13_code) (hml : c.maxLocals = 3) (hown : s.vm.findClass "java/lang/StringLatin1" = some m.cls) (hret : meth.sig.returnType = (some .boolean)) (hn : n1 < 2 ^ 31) (V0 : own_C Z h0 a0 n1 g1) (V1 : own_C Z h0 a1 n1 g1) (d : Nat) : ∀ {T0 : State} {locs : List Loc} {kx : Nat} (hd : kx + d = n1) (X0 : Stand p l e ({ frames := 0, cells := 0, slots := 0, locals := 0 } : Room) s m args below meth c T0 locs 0 0) (N0 : Fr n0 locs) (e0 : T0.heap = h0),
    own_G p.tables e below (own_E s 0 0) (own_QV (.int (1 : Int32)) h0 n0) (T0.setTop (mkF m 9 #[.val (.ref a0), .val (.ref a1), .val (.int kx.toInt32)] [])) := by
  induction d with
  | zero =>
    intro T0 locs kx hd X0 N0 e0
    refine own_st ?_ (fun t k => XS.iloadN X0.here hx rfl (hb hby d4_9) rfl k)
    show own_G p.tables e below _ _ (T0.setTop (mkF m 10 #[.val (.ref a0), .val (.ref a1), .val (.int kx.toInt32)] [(.int kx.toInt32)]))
    refine own_st ?_ (fun t k => XS.aloadN X0.here hx rfl (hb hby d4_10) rfl rfl k)
    show own_G p.tables e below _ _ (T0.setTop (mkF m 11 #[.val (.ref a0), .val (.ref a1), .val (.int kx.toInt32)] [(.ref a0), (.int kx.toInt32)]))
    obtain ⟨cl1, Ar1, Z1, G1⟩ := V0
    refine own_st ?_ (X0.arraylength hx (by rw [e0]; exact Ar1.1) (State.isArrayOf_alike hZ.alike Ar1.2.1) (g := (mkF m 11 #[.val (.ref a0), .val (.ref a1), .val (.int kx.toInt32)] [(.ref a0), (.int kx.toInt32)])) rfl rfl (hb hby d4_11))
    rw [Z1]
    have Vx1 : own_C Z h0 a0 n1 g1 := ⟨cl1, Ar1, Z1, G1⟩
    show own_G p.tables e below _ _ (T0.setTop (mkF m 12 #[.val (.ref a0), .val (.ref a1), .val (.int kx.toInt32)] [(.int (n1).toInt32), (.int kx.toInt32)]))
    refine own_st ?_ (fun t k => XS.icmpYes X0.here hx rfl (pc0 := 12) (pc' := 32) rfl (hb hby d4_12) rfl (flt (by rw [show kx = n1 by omega]; exact Int32.lt_irrefl)).2.1 (by decide) (by decide) k)
    show own_G p.tables e below _ _ (T0.setTop (mkF m 32 #[.val (.ref a0), .val (.ref a1), .val (.int kx.toInt32)] []))
    refine own_st ?_ (fun t k => XS.iconst X0.here hx rfl (hb hby d4_32) k)
    show own_G p.tables e below _ _ (T0.setTop (mkF m 33 #[.val (.ref a0), .val (.ref a1), .val (.int kx.toInt32)] [(.int (1 : Int32))]))
    exact own_retN X0 hx hlk (t := .boolean) hret (by simp) (hb hby d4_33) (by decide) (by decide) (z' := (1 : Int32)) rfl ⟨rfl, N0, e0⟩
  | succ d ih =>
    intro T0 locs kx hd X0 N0 e0
    refine own_st ?_ (fun t k => XS.iloadN X0.here hx rfl (hb hby d4_9) rfl k)
    show own_G p.tables e below _ _ (T0.setTop (mkF m 10 #[.val (.ref a0), .val (.ref a1), .val (.int kx.toInt32)] [(.int kx.toInt32)]))
    refine own_st ?_ (fun t k => XS.aloadN X0.here hx rfl (hb hby d4_10) rfl rfl k)
    show own_G p.tables e below _ _ (T0.setTop (mkF m 11 #[.val (.ref a0), .val (.ref a1), .val (.int kx.toInt32)] [(.ref a0), (.int kx.toInt32)]))
    obtain ⟨cl2, Ar2, Z2, G2⟩ := V0
    refine own_st ?_ (X0.arraylength hx (by rw [e0]; exact Ar2.1) (State.isArrayOf_alike hZ.alike Ar2.2.1) (g := (mkF m 11 #[.val (.ref a0), .val (.ref a1), .val (.int kx.toInt32)] [(.ref a0), (.int kx.toInt32)])) rfl rfl (hb hby d4_11))
    rw [Z2]
    have Vx2 : own_C Z h0 a0 n1 g1 := ⟨cl2, Ar2, Z2, G2⟩
    show own_G p.tables e below _ _ (T0.setTop (mkF m 12 #[.val (.ref a0), .val (.ref a1), .val (.int kx.toInt32)] [(.int (n1).toInt32), (.int kx.toInt32)]))
    refine own_st ?_ (fun t k => XS.icmpNo X0.here hx rfl (hb hby d4_12) rfl (tlt (own_to0 (by omega) hn).1).2.1 k)
    show own_G p.tables e below _ _ (T0.setTop (mkF m 15 #[.val (.ref a0), .val (.ref a1), .val (.int kx.toInt32)] []))
    refine own_st ?_ (fun t k => XS.aloadN X0.here hx rfl (hb hby d4_15) rfl rfl k)
    show own_G p.tables e below _ _ (T0.setTop (mkF m 16 #[.val (.ref a0), .val (.ref a1), .val (.int kx.toInt32)] [(.ref a0)]))
    refine own_st ?_ (fun t k => XS.iloadN X0.here hx rfl (hb hby d4_16) rfl k)
    show own_G p.tables e below _ _ (T0.setTop (mkF m 17 #[.val (.ref a0), .val (.ref a1), .val (.int kx.toInt32)] [(.int kx.toInt32), (.ref a0)]))
    obtain ⟨cl3, Ar3, Z3, G3⟩ := Vx2
    have hin3 : ¬ (kx.toInt32 < 0 ∨ cl3.slots.size ≤ (kx.toInt32).toNatClampNeg) := by rw [Z3]; exact (own_to0 (by omega) hn).2.1
    have hat3 : cl3.slots[(kx.toInt32).toNatClampNeg]? = some (.int (g1 kx)) := by rw [(own_to0 (by omega) hn).2.2]; exact G3 _ (by omega)
    refine own_st ?_ (X0.baloadBytes hx (j := kx.toInt32) (v := (.int (g1 kx))) (by rw [e0]; exact Ar3.1) (State.isArrayOf_alike hZ.alike Ar3.2.1) Ar3.2.2 hin3 hat3 (g := (mkF m 17 #[.val (.ref a0), .val (.ref a1), .val (.int kx.toInt32)] [(.int kx.toInt32), (.ref a0)])) rfl rfl (hb hby d4_17))
    have Vx3 : own_C Z h0 a0 n1 g1 := ⟨cl3, Ar3, Z3, G3⟩
    show own_G p.tables e below _ _ (T0.setTop (mkF m 18 #[.val (.ref a0), .val (.ref a1), .val (.int kx.toInt32)] [(.int (g1 kx))]))
    refine own_st ?_ (fun t k => XS.aloadN X0.here hx rfl (hb hby d4_18) rfl rfl k)
    show own_G p.tables e below _ _ (T0.setTop (mkF m 19 #[.val (.ref a0), .val (.ref a1), .val (.int kx.toInt32)] [(.ref a1), (.int (g1 kx))]))
    refine own_st ?_ (fun t k => XS.iloadN X0.here hx rfl (hb hby d4_19) rfl k)
    show own_G p.tables e below _ _ (T0.setTop (mkF m 20 #[.val (.ref a0), .val (.ref a1), .val (.int kx.toInt32)] [(.int kx.toInt32), (.ref a1), (.int (g1 kx))]))
    obtain ⟨cl4, Ar4, Z4, G4⟩ := V1
    have hin4 : ¬ (kx.toInt32 < 0 ∨ cl4.slots.size ≤ (kx.toInt32).toNatClampNeg) := by rw [Z4]; exact (own_to0 (by omega) hn).2.1
    have hat4 : cl4.slots[(kx.toInt32).toNatClampNeg]? = some (.int (g1 kx)) := by rw [(own_to0 (by omega) hn).2.2]; exact G4 _ (by omega)
    refine own_st ?_ (X0.baloadBytes hx (j := kx.toInt32) (v := (.int (g1 kx))) (by rw [e0]; exact Ar4.1) (State.isArrayOf_alike hZ.alike Ar4.2.1) Ar4.2.2 hin4 hat4 (g := (mkF m 20 #[.val (.ref a0), .val (.ref a1), .val (.int kx.toInt32)] [(.int kx.toInt32), (.ref a1), (.int (g1 kx))])) rfl rfl (hb hby d4_20))
    have Vx4 : own_C Z h0 a1 n1 g1 := ⟨cl4, Ar4, Z4, G4⟩
    show own_G p.tables e below _ _ (T0.setTop (mkF m 21 #[.val (.ref a0), .val (.ref a1), .val (.int kx.toInt32)] [(.int (g1 kx)), (.int (g1 kx))]))
    refine own_st ?_ (fun t k => XS.icmpYes X0.here hx rfl (pc0 := 21) (pc' := 26) rfl (hb hby d4_21) rfl (teq rfl).1 (by decide) (by decide) k)
    show own_G p.tables e below _ _ (T0.setTop (mkF m 26 #[.val (.ref a0), .val (.ref a1), .val (.int kx.toInt32)] []))
    refine own_st ?_ (fun t k => XS.iinc X0.here hx rfl (hb hby d4_26) rfl (l' := #[.val (.ref a0), .val (.ref a1), .val (.int (kx.toInt32 + (1 : Int32)))]) rfl k)
    show own_G p.tables e below _ _ (T0.setTop (mkF m 29 #[.val (.ref a0), .val (.ref a1), .val (.int (kx.toInt32 + (1 : Int32)))] []))
    refine own_st ?_ (fun t k => XS.goto X0.here hx rfl (pc0 := 29) (pc' := 9) rfl (hb hby d4_29) (by decide) (by decide) k)
    show own_G p.tables e below _ _ (T0.setTop (mkF m 9 #[.val (.ref a0), .val (.ref a1), .val (.int (kx.toInt32 + (1 : Int32)))] []))
    rw [own_inc]
    exact ih (kx := kx + 1) (by omega) X0 N0 e0
theorem ef_4 (m : MethodId) (a0 : Addr) (a1 : Addr) : entryFrame m #[(.ref a0), (.ref a1)] 3 = mkF m 0 #[.val (.ref a0), .val (.ref a1), .unset] [] := by first | (simp [entryFrame, mkF, argsToLocals, Value.category]; done) | rfl
set_option maxRecDepth 65536 in
set_option maxHeartbeats 40000000 in
theorem rm4 (l : Launch) (Z : State) (a0 : Array Value) (hw : ∀ d ∈ tables_1, d.before a0 Z = true) (ws : List Jvm.Cond) (a0 : Addr) (a1 : Addr) (n1 : Nat) (g1 : Nat → Int32) (h0 : Heap) (n0 : Nat) (Z0 : n0 ≤ h0.size) (V0 : own_C Z h0 a0 n1 g1) (V1 : own_C Z h0 a1 n1 g1) (hn : n1 < 2 ^ 31) :
    MetFree l (⟨"java/lang/StringLatin1", "equals", "([B[B)Z"⟩ : MethodName) (head1 (Jvm.Cond.code (⟨"java/lang/StringLatin1", "equals", "([B[B)Z"⟩ : MethodName) jdk_43_method_13_code 3 (some .boolean) :: ws) ({ frames := 0, cells := 0, slots := 0, locals := 0 } : Room)) (fun a U => a = #[(.ref a0), (.ref a1)] ∧ Z.Warmed39 U.vm ∧ U.heap = h0) (fun _ _ _ _ _ => True) (fun _ U o U' => ∃ v L, o = .returned v ∧ own_QV (.int (1 : Int32)) h0 n0 v U'.heap L ∧ FrameEnd U o U' L ({ frames := 0, cells := 0, slots := 0, locals := 0 } : Room).cells ({ frames := 0, cells := 0, slots := 0, locals := 0 } : Room).slots) := by
  refine MetFree.of_bodySF (plainFor_of_name pn_4) hisR ?_
  intro p e s m args below meth c s₁ Bd hml0 hP hK
  obtain ⟨rfl, hZ, hh⟩ := hP
  have hx := Bd.exec
  have hby := Bd.bytes
  have hlk : meth.locks = false := BodyLoose.notSynchronized Bd
  have hret := Bd.returns
  have hml : c.maxLocals = 3 := hml0
  have hown : s.vm.findClass "java/lang/StringLatin1" = some m.cls := findClass_of_methodNamed Bd.named
  have hnm := (name_of_methodNamed Bd.named Bd.method).1
  have X0 : Stand p l e ({ frames := 0, cells := 0, slots := 0, locals := 0 } : Room) s m #[(.ref a0), (.ref a1)] below meth c s₁ [] 0 0 := Stand.of_body Bd
  have e0 : s₁.heap = h0 := by rw [← hh, Bd.state]; rfl
  have N0 := Fr.nil n0
  show own_G p.tables e below (own_E s ({ frames := 0, cells := 0, slots := 0, locals := 0 } : Room).cells ({ frames := 0, cells := 0, slots := 0, locals := 0 } : Room).slots) (own_QV (.int (1 : Int32)) h0 n0) (s₁.setTop (entryFrame m #[(.ref a0), (.ref a1)] 3))
  refine own_st ?_ (fun t k => castTop (ef_4 m a0 a1) k)
  show own_G p.tables e below _ _ (s₁.setTop (mkF m 0 #[.val (.ref a0), .val (.ref a1), .unset] []))
  refine own_st ?_ (fun t k => XS.aloadN X0.here hx rfl (hb hby d4_0) rfl rfl k)
  show own_G p.tables e below _ _ (s₁.setTop (mkF m 1 #[.val (.ref a0), .val (.ref a1), .unset] [(.ref a0)]))
  obtain ⟨cl1, Ar1, Z1, G1⟩ := V0
  refine own_st ?_ (X0.arraylength hx (by rw [e0]; exact Ar1.1) (State.isArrayOf_alike hZ.alike Ar1.2.1) (g := (mkF m 1 #[.val (.ref a0), .val (.ref a1), .unset] [(.ref a0)])) rfl rfl (hb hby d4_1))
  rw [Z1]
  have Vx1 : own_C Z h0 a0 n1 g1 := ⟨cl1, Ar1, Z1, G1⟩
  show own_G p.tables e below _ _ (s₁.setTop (mkF m 2 #[.val (.ref a0), .val (.ref a1), .unset] [(.int (n1).toInt32)]))
  refine own_st ?_ (fun t k => XS.aloadN X0.here hx rfl (hb hby d4_2) rfl rfl k)
  show own_G p.tables e below _ _ (s₁.setTop (mkF m 3 #[.val (.ref a0), .val (.ref a1), .unset] [(.ref a1), (.int (n1).toInt32)]))
  obtain ⟨cl2, Ar2, Z2, G2⟩ := V1
  refine own_st ?_ (X0.arraylength hx (by rw [e0]; exact Ar2.1) (State.isArrayOf_alike hZ.alike Ar2.2.1) (g := (mkF m 3 #[.val (.ref a0), .val (.ref a1), .unset] [(.ref a1), (.int (n1).toInt32)])) rfl rfl (hb hby d4_3))
  rw [Z2]
  have Vx2 : own_C Z h0 a1 n1 g1 := ⟨cl2, Ar2, Z2, G2⟩
  show own_G p.tables e below _ _ (s₁.setTop (mkF m 4 #[.val (.ref a0), .val (.ref a1), .unset] [(.int (n1).toInt32), (.int (n1).toInt32)]))
  refine own_st ?_ (fun t k => XS.icmpNo X0.here hx rfl (hb hby d4_4) rfl (teq rfl).2 k)
  show own_G p.tables e below _ _ (s₁.setTop (mkF m 7 #[.val (.ref a0), .val (.ref a1), .unset] []))
  refine own_st ?_ (fun t k => XS.iconst X0.here hx rfl (hb hby d4_7) k)
  show own_G p.tables e below _ _ (s₁.setTop (mkF m 8 #[.val (.ref a0), .val (.ref a1), .unset] [(.int (0 : Int32))]))
  refine own_st ?_ (fun t k => XS.istoreN X0.here hx rfl (hb hby d4_8) rfl (l' := #[.val (.ref a0), .val (.ref a1), .val (.int (0 : Int32))]) rfl k)
  show own_G p.tables e below _ _ (s₁.setTop (mkF m 9 #[.val (.ref a0), .val (.ref a1), .val (.int (0 : Int32))] []))
  exact own_lq hx hlk hZ hw hby hml hown hret hn Vx1 Vx2 n1 (kx := 0) (by omega) X0 N0 e0
theorem pd_0 : parseMethodDescriptor "([B[B)Z" = some ⟨[(.array .byte), (.array .byte)], some .boolean⟩ := by decide +kernel
theorem d3_0 : decode jdk_42_method_66_code 0 = .ok (.aload_n 0, 1) := by decide +kernel
theorem d3_1 : decode jdk_42_method_66_code 1 = .ok (.aload_n 1, 1) := by decide +kernel
theorem d3_2 : decode jdk_42_method_66_code 2 = .ok (.if_acmp .ne 5, 3) := by decide +kernel
theorem d3_5 : decode jdk_42_method_66_code 5 = .ok (.iconst 1, 1) := by decide +kernel
theorem d3_6 : decode jdk_42_method_66_code 6 = .ok (.ireturn, 1) := by decide +kernel
theorem d3_7 : decode jdk_42_method_66_code 7 = .ok (.aload_n 1, 1) := by decide +kernel
theorem d3_8 : decode jdk_42_method_66_code 8 = .ok (.instanceof 10, 3) := by decide +kernel
theorem d3_11 : decode jdk_42_method_66_code 11 = .ok (.ifCond .eq 43, 3) := by decide +kernel
theorem d3_14 : decode jdk_42_method_66_code 14 = .ok (.aload_n 1, 1) := by decide +kernel
theorem d3_15 : decode jdk_42_method_66_code 15 = .ok (.checkcast 10, 3) := by decide +kernel
theorem d3_18 : decode jdk_42_method_66_code 18 = .ok (.astore_n 2, 1) := by decide +kernel
theorem d3_19 : decode jdk_42_method_66_code 19 = .ok (.getstatic 38, 3) := by decide +kernel
theorem d3_22 : decode jdk_42_method_66_code 22 = .ok (.ifCond .eq 14, 3) := by decide +kernel
theorem d3_25 : decode jdk_42_method_66_code 25 = .ok (.aload_n 0, 1) := by decide +kernel
theorem d3_26 : decode jdk_42_method_66_code 26 = .ok (.getfield 15, 3) := by decide +kernel
theorem d3_29 : decode jdk_42_method_66_code 29 = .ok (.aload_n 2, 1) := by decide +kernel
theorem d3_30 : decode jdk_42_method_66_code 30 = .ok (.getfield 15, 3) := by decide +kernel
theorem d3_33 : decode jdk_42_method_66_code 33 = .ok (.if_icmp .ne 21, 3) := by decide +kernel
theorem d3_36 : decode jdk_42_method_66_code 36 = .ok (.aload_n 0, 1) := by decide +kernel
theorem d3_37 : decode jdk_42_method_66_code 37 = .ok (.getfield 9, 3) := by decide +kernel
theorem d3_40 : decode jdk_42_method_66_code 40 = .ok (.aload_n 2, 1) := by decide +kernel
theorem d3_41 : decode jdk_42_method_66_code 41 = .ok (.getfield 9, 3) := by decide +kernel
theorem d3_44 : decode jdk_42_method_66_code 44 = .ok (.invokestatic 541, 3) := by decide +kernel
theorem d3_47 : decode jdk_42_method_66_code 47 = .ok (.ifCond .eq 7, 3) := by decide +kernel
theorem d3_50 : decode jdk_42_method_66_code 50 = .ok (.iconst 1, 1) := by decide +kernel
theorem d3_51 : decode jdk_42_method_66_code 51 = .ok (.goto 4, 3) := by decide +kernel
theorem d3_55 : decode jdk_42_method_66_code 55 = .ok (.ireturn, 1) := by decide +kernel
theorem pn_3 : plainName "java/lang/String" = true := by first | (simp [plainName, overriddenIn]; done) | decide +kernel
theorem ef_3 (m : MethodId) (a0 : Addr) (a1 : Addr) : entryFrame m #[(.ref a0), (.ref a1)] 3 = mkF m 0 #[.val (.ref a0), .val (.ref a1), .unset] [] := by first | (simp [entryFrame, mkF, argsToLocals, Value.category]; done) | rfl
set_option maxRecDepth 65536 in
set_option maxHeartbeats 40000000 in
theorem rm3 (l : Launch) (Z : State) (a0 : Array Value) (hw : ∀ d ∈ tables_1, d.before a0 Z = true) (ws : List Jvm.Cond) (a0 : Addr) (a1 : Addr) (z1 : Int32) (t0 : Addr) (t1 : Addr) (n1 : Nat) (g1 : Nat → Int32) (h0 : Heap) (n0 : Nat) (Z0 : n0 ≤ h0.size) (S1 : Sta Z h0 "java/lang/String" "COMPACT_STRINGS" "Z" (.int z1)) (E0 : Exa Z h0 a0 "java/lang/String") (Fc0 : Fld Z h0 a0 "java/lang/String" "coder" "B" (.int (0 : Int32))) (Fv0 : Fld Z h0 a0 "java/lang/String" "value" "[B" (.ref t0)) (V0 : own_C Z h0 t0 n1 g1) (E1 : Exa Z h0 a1 "java/lang/String") (Fc1 : Fld Z h0 a1 "java/lang/String" "coder" "B" (.int (0 : Int32))) (Fv1 : Fld Z h0 a1 "java/lang/String" "value" "[B" (.ref t1)) (V1 : own_C Z h0 t1 n1 g1) (hz1 : ¬ z1 = 0) (hn : n1 < 2 ^ 31) :
    MetFree l (⟨"java/lang/String", "equals", "(Ljava/lang/Object;)Z"⟩ : MethodName) (head1 (Jvm.Cond.code (⟨"java/lang/String", "equals", "(Ljava/lang/Object;)Z"⟩ : MethodName) jdk_42_method_66_code 3 (some .boolean) :: ws) ({ frames := 1, cells := 0, slots := 0, locals := 14 } : Room)) (fun a U => a = #[(.ref a0), (.ref a1)] ∧ Z.Warmed39 U.vm ∧ U.heap = h0) (fun _ _ _ _ _ => True) (fun _ U o U' => ∃ v L, o = .returned v ∧ own_QV (.int (1 : Int32)) h0 n0 v U'.heap L ∧ FrameEnd U o U' L ({ frames := 1, cells := 0, slots := 0, locals := 14 } : Room).cells ({ frames := 1, cells := 0, slots := 0, locals := 14 } : Room).slots) := by
  refine MetFree.of_bodySF (plainFor_of_name pn_3) hisR ?_
  intro p e s m args below meth c s₁ Bd hml0 hP hK
  obtain ⟨rfl, hZ, hh⟩ := hP
  have hx := Bd.exec
  have hby := Bd.bytes
  have hlk : meth.locks = false := BodyLoose.notSynchronized Bd
  have hret := Bd.returns
  have hml : c.maxLocals = 3 := hml0
  have hown : s.vm.findClass "java/lang/String" = some m.cls := findClass_of_methodNamed Bd.named
  have hnm := (name_of_methodNamed Bd.named Bd.method).1
  have X0 : Stand p l e ({ frames := 1, cells := 0, slots := 0, locals := 14 } : Room) s m #[(.ref a0), (.ref a1)] below meth c s₁ [] 0 0 := Stand.of_body Bd
  have e0 : s₁.heap = h0 := by rw [← hh, Bd.state]; rfl
  have N0 := Fr.nil n0
  show own_G p.tables e below (own_E s ({ frames := 1, cells := 0, slots := 0, locals := 14 } : Room).cells ({ frames := 1, cells := 0, slots := 0, locals := 14 } : Room).slots) (own_QV (.int (1 : Int32)) h0 n0) (s₁.setTop (entryFrame m #[(.ref a0), (.ref a1)] 3))
  refine own_st ?_ (fun t k => castTop (ef_3 m a0 a1) k)
  show own_G p.tables e below _ _ (s₁.setTop (mkF m 0 #[.val (.ref a0), .val (.ref a1), .unset] []))
  refine own_st ?_ (fun t k => XS.aloadN X0.here hx rfl (hb hby d3_0) rfl rfl k)
  show own_G p.tables e below _ _ (s₁.setTop (mkF m 1 #[.val (.ref a0), .val (.ref a1), .unset] [(.ref a0)]))
  refine own_st ?_ (fun t k => XS.aloadN X0.here hx rfl (hb hby d3_1) rfl rfl k)
  show own_G p.tables e below _ _ (s₁.setTop (mkF m 2 #[.val (.ref a0), .val (.ref a1), .unset] [(.ref a1), (.ref a0)]))
  by_cases ha2 : a0 = a1
  · refine own_st ?_ (fun t k => Jvm.RoadKit.acmp (g := (mkF m 2 #[.val (.ref a0), .val (.ref a1), .unset] [(.ref a1), (.ref a0)])) X0 hx rfl rfl rfl (pc0 := 2) (pc' := 5) (same := true) rfl (hb hby d3_2) rfl (decide_eq_true (congrArg Value.ref ha2)) (by decide) (by decide) k)
    show own_G p.tables e below _ _ (s₁.setTop (mkF m 5 #[.val (.ref a0), .val (.ref a1), .unset] []))
    refine own_st ?_ (fun t k => XS.iconst X0.here hx rfl (hb hby d3_5) k)
    show own_G p.tables e below _ _ (s₁.setTop (mkF m 6 #[.val (.ref a0), .val (.ref a1), .unset] [(.int (1 : Int32))]))
    exact own_retN X0 hx hlk (t := .boolean) hret (by simp) (hb hby d3_6) (by decide) (by decide) (z' := (1 : Int32)) rfl ⟨rfl, N0, e0⟩
  · refine own_st ?_ (fun t k => Jvm.RoadKit.acmp (g := (mkF m 2 #[.val (.ref a0), .val (.ref a1), .unset] [(.ref a1), (.ref a0)])) X0 hx rfl rfl rfl (pc0 := 2) (pc' := 7) (same := false) rfl (hb hby d3_2) rfl (decide_eq_false fun q => ha2 (Value.ref.inj q)) (by decide) (by decide) k)
    show own_G p.tables e below _ _ (s₁.setTop (mkF m 7 #[.val (.ref a0), .val (.ref a1), .unset] []))
    refine own_st ?_ (fun t k => XS.aloadN X0.here hx rfl (hb hby d3_7) rfl rfl k)
    show own_G p.tables e below _ _ (s₁.setTop (mkF m 8 #[.val (.ref a0), .val (.ref a1), .unset] [(.ref a1)]))
    obtain ⟨T1, X1, e1, st1⟩ := instY X0 hx hZ hown (hw _ (List.mem_of_getElem? (i := 32) rfl)) e0 (Ins.self E1) (g := (mkF m 8 #[.val (.ref a0), .val (.ref a1), .unset] [(.ref a1)])) rfl rfl (hb hby d3_8)
    refine own_st ?_ st1
    show own_G p.tables e below _ _ (T1.setTop (mkF m 11 #[.val (.ref a0), .val (.ref a1), .unset] [(.int (1 : Int32))]))
    refine own_st ?_ (fun t k => XS.ifNo X1.here hx rfl (hb hby d3_11) rfl ((if0 _ _).trans (feq (by decide : ¬ ((1 : Int32) = (0 : Int32)))).1) k)
    show own_G p.tables e below _ _ (T1.setTop (mkF m 14 #[.val (.ref a0), .val (.ref a1), .unset] []))
    refine own_st ?_ (fun t k => XS.aloadN X1.here hx rfl (hb hby d3_14) rfl rfl k)
    show own_G p.tables e below _ _ (T1.setTop (mkF m 15 #[.val (.ref a0), .val (.ref a1), .unset] [(.ref a1)]))
    obtain ⟨T2, X2, e2, st2⟩ := castY X1 hx hZ hown (hw _ (List.mem_of_getElem? (i := 32) rfl)) e1 (Ins.self E1) (g := (mkF m 15 #[.val (.ref a0), .val (.ref a1), .unset] [(.ref a1)])) rfl rfl (hb hby d3_15)
    refine own_st ?_ st2
    show own_G p.tables e below _ _ (T2.setTop (mkF m 18 #[.val (.ref a0), .val (.ref a1), .unset] [(.ref a1)]))
    refine own_st ?_ (fun t k => XS.astoreN X2.here hx rfl (hb hby d3_18) rfl rfl (l' := #[.val (.ref a0), .val (.ref a1), .val (.ref a1)]) rfl k)
    show own_G p.tables e below _ _ (T2.setTop (mkF m 19 #[.val (.ref a0), .val (.ref a1), .val (.ref a1)] []))
    obtain ⟨T3, X3, e3, st3⟩ := getS2 X2 hx hZ hown (host := "") (Or.inl (hw _ (List.mem_of_getElem? (i := 34) rfl))) Via.refl e2 S1 (g := (mkF m 19 #[.val (.ref a0), .val (.ref a1), .val (.ref a1)] [])) rfl (hb hby d3_19)
    refine own_st ?_ st3
    show own_G p.tables e below _ _ (T3.setTop (mkF m 22 #[.val (.ref a0), .val (.ref a1), .val (.ref a1)] [(.int z1)]))
    refine own_st ?_ (fun t k => XS.ifNo X3.here hx rfl (hb hby d3_22) rfl ((if0 _ _).trans (feq hz1).1) k)
    show own_G p.tables e below _ _ (T3.setTop (mkF m 25 #[.val (.ref a0), .val (.ref a1), .val (.ref a1)] []))
    refine own_st ?_ (fun t k => XS.aloadN X3.here hx rfl (hb hby d3_25) rfl rfl k)
    show own_G p.tables e below _ _ (T3.setTop (mkF m 26 #[.val (.ref a0), .val (.ref a1), .val (.ref a1)] [(.ref a0)]))
    obtain ⟨T4, X4, e4, st4⟩ := getF X3 hx hZ hown (host := "") (Or.inl (hw _ (List.mem_of_getElem? (i := 35) rfl))) Via.refl e3 Fc0 (g := (mkF m 26 #[.val (.ref a0), .val (.ref a1), .val (.ref a1)] [(.ref a0)])) rfl rfl (hb hby d3_26)
    refine own_st ?_ st4
    show own_G p.tables e below _ _ (T4.setTop (mkF m 29 #[.val (.ref a0), .val (.ref a1), .val (.ref a1)] [(.int (0 : Int32))]))
    refine own_st ?_ (fun t k => XS.aloadN X4.here hx rfl (hb hby d3_29) rfl rfl k)
    show own_G p.tables e below _ _ (T4.setTop (mkF m 30 #[.val (.ref a0), .val (.ref a1), .val (.ref a1)] [(.ref a1), (.int (0 : Int32))]))
    obtain ⟨T5, X5, e5, st5⟩ := getF X4 hx hZ hown (host := "") (Or.inl (hw _ (List.mem_of_getElem? (i := 35) rfl))) Via.refl e4 Fc1 (g := (mkF m 30 #[.val (.ref a0), .val (.ref a1), .val (.ref a1)] [(.ref a1), (.int (0 : Int32))])) rfl rfl (hb hby d3_30)
    refine own_st ?_ st5
    show own_G p.tables e below _ _ (T5.setTop (mkF m 33 #[.val (.ref a0), .val (.ref a1), .val (.ref a1)] [(.int (0 : Int32)), (.int (0 : Int32))]))
    refine own_st ?_ (fun t k => XS.icmpNo X5.here hx rfl (hb hby d3_33) rfl (teq (by decide : (0 : Int32) = (0 : Int32))).2 k)
    show own_G p.tables e below _ _ (T5.setTop (mkF m 36 #[.val (.ref a0), .val (.ref a1), .val (.ref a1)] []))
    refine own_st ?_ (fun t k => XS.aloadN X5.here hx rfl (hb hby d3_36) rfl rfl k)
    show own_G p.tables e below _ _ (T5.setTop (mkF m 37 #[.val (.ref a0), .val (.ref a1), .val (.ref a1)] [(.ref a0)]))
    obtain ⟨T6, X6, e6, st6⟩ := getF X5 hx hZ hown (host := "") (Or.inl (hw _ (List.mem_of_getElem? (i := 36) rfl))) Via.refl e5 Fv0 (g := (mkF m 37 #[.val (.ref a0), .val (.ref a1), .val (.ref a1)] [(.ref a0)])) rfl rfl (hb hby d3_37)
    refine own_st ?_ st6
    show own_G p.tables e below _ _ (T6.setTop (mkF m 40 #[.val (.ref a0), .val (.ref a1), .val (.ref a1)] [(.ref t0)]))
    refine own_st ?_ (fun t k => XS.aloadN X6.here hx rfl (hb hby d3_40) rfl rfl k)
    show own_G p.tables e below _ _ (T6.setTop (mkF m 41 #[.val (.ref a0), .val (.ref a1), .val (.ref a1)] [(.ref a1), (.ref t0)]))
    obtain ⟨T7, X7, e7, st7⟩ := getF X6 hx hZ hown (host := "") (Or.inl (hw _ (List.mem_of_getElem? (i := 36) rfl))) Via.refl e6 Fv1 (g := (mkF m 41 #[.val (.ref a0), .val (.ref a1), .val (.ref a1)] [(.ref a1), (.ref t0)])) rfl rfl (hb hby d3_41)
    refine own_st ?_ st7
    show own_G p.tables e below _ _ (T7.setTop (mkF m 44 #[.val (.ref a0), .val (.ref a1), .val (.ref a1)] [(.ref t1), (.ref t0)]))
    obtain ⟨_, _, ⟨T8, L8, k8, n8⟩, -, X8, ⟨Lc8, hQ8, l8, y8, z8⟩, st8⟩ := Jvm.LawKit.callS X7 hx (y := (⟨"java/lang/StringLatin1", "equals", "([B[B)Z"⟩ : MethodName)) hown (mvT hZ (hw _ (List.mem_of_getElem? (i := 37) rfl))) (mvT hZ (hw _ (List.mem_of_getElem? (i := 38) rfl))) (mvT hZ (hw _ (List.mem_of_getElem? (i := 39) rfl))) (mvT hZ (hw _ (List.mem_of_getElem? (i := 40) rfl))) (by decide) (backOf (W := 0) (rm4 l Z _ hw [] t0 t1 n1 g1 h0 n0 Z0 V0 V1 hn) hZ (hw _ (List.mem_of_getElem? (i := 40) rfl)) (hw _ (List.mem_of_getElem? (i := 39) rfl)) (by decide) (by decide)) (g := (mkF m 44 #[.val (.ref a0), .val (.ref a1), .val (.ref a1)] [(.ref t1), (.ref t0)])) rfl (by rw [hml]; rfl) (argsL := [(.ref t0), (.ref t1)]) (rest := []) (lenOf pd_0 rfl) rfl (by show 2 * 0 + _ ≤ _; exact Nat.le_of_eq rfl) (hb hby d3_44) (fun _ _ => ⟨rfl, e7, (by decide : 0 + 0 ≤ _), (by decide : 0 + 0 ≤ _)⟩)
    dsimp only [Pt.U, Pt.locs, Pt.cells, Pt.slots] at X8 l8 y8 z8 st8 hQ8
    subst l8 y8 z8
    obtain ⟨rfl, N8q, e8⟩ := hQ8
    have N8 := Fr.app N0 N8q
    refine own_st ?_ st8
    show own_G p.tables e below _ _ (T8.setTop (mkF m 47 #[.val (.ref a0), .val (.ref a1), .val (.ref a1)] [(.int (1 : Int32))]))
    refine own_st ?_ (fun t k => XS.ifNo X8.here hx rfl (hb hby d3_47) rfl ((if0 _ _).trans (feq (by decide : ¬ ((1 : Int32) = (0 : Int32)))).1) k)
    show own_G p.tables e below _ _ (T8.setTop (mkF m 50 #[.val (.ref a0), .val (.ref a1), .val (.ref a1)] []))
    refine own_st ?_ (fun t k => XS.iconst X8.here hx rfl (hb hby d3_50) k)
    show own_G p.tables e below _ _ (T8.setTop (mkF m 51 #[.val (.ref a0), .val (.ref a1), .val (.ref a1)] [(.int (1 : Int32))]))
    refine own_st ?_ (fun t k => XS.goto X8.here hx rfl (pc0 := 51) (pc' := 55) rfl (hb hby d3_51) (by decide) (by decide) k)
    show own_G p.tables e below _ _ (T8.setTop (mkF m 55 #[.val (.ref a0), .val (.ref a1), .val (.ref a1)] [(.int (1 : Int32))]))
    exact own_retN X8 hx hlk (t := .boolean) hret (by simp) (hb hby d3_55) (by decide) (by decide) (z' := (1 : Int32)) rfl ⟨rfl, N8, e8⟩
theorem d1_0 : decode prog_17_method_8_code 0 = .ok (.aload_n 0, 1) := by decide +kernel
theorem d1_1 : decode prog_17_method_8_code 1 = .ok (.getstatic 3, 3) := by decide +kernel
theorem d1_4 : decode prog_17_method_8_code 4 = .ok (.if_acmp .ne 9, 3) := by decide +kernel
theorem d1_7 : decode prog_17_method_8_code 7 = .ok (.getstatic 7, 3) := by decide +kernel
theorem d1_10 : decode prog_17_method_8_code 10 = .ok (.goto 6, 3) := by decide +kernel
theorem d1_13 : decode prog_17_method_8_code 13 = .ok (.getstatic 3, 3) := by decide +kernel
theorem d1_16 : decode prog_17_method_8_code 16 = .ok (.areturn, 1) := by decide +kernel
def f1 (a0 : Addr) (w_CONNECTOR : Addr) (w_PROXY_SERVICE : Addr) : Addr := (if a0 = w_CONNECTOR then w_PROXY_SERVICE else w_CONNECTOR)
theorem pn_1 : plainName "com/example/crossgate/crossgate/NodeRole" = true := by first | (simp [plainName, overriddenIn]; done) | decide +kernel
theorem ef_1 (m : MethodId) (a0 : Addr) : entryFrame m #[(.ref a0)] 1 = mkF m 0 #[.val (.ref a0)] [] := by first | (simp [entryFrame, mkF, argsToLocals, Value.category]; done) | rfl
set_option maxRecDepth 65536 in
set_option maxHeartbeats 40000000 in
theorem rm1 (l : Launch) (Z : State) (a0 : Array Value) (hw : ∀ d ∈ tables_1, d.before a0 Z = true) (ws : List Jvm.Cond) (a0 : Addr) (w_CONNECTOR : Addr) (w_PROXY_SERVICE : Addr) (h0 : Heap) (n0 : Nat) (Z0 : n0 ≤ h0.size) (S_CONNECTOR : Sta Z h0 "com/example/crossgate/crossgate/NodeRole" "CONNECTOR" "Lcom/example/crossgate/crossgate/NodeRole;" (.ref w_CONNECTOR)) (S_PROXY_SERVICE : Sta Z h0 "com/example/crossgate/crossgate/NodeRole" "PROXY_SERVICE" "Lcom/example/crossgate/crossgate/NodeRole;" (.ref w_PROXY_SERVICE)) :
    MetFree l (⟨"com/example/crossgate/crossgate/NodeRole", "peer", "()Lcom/example/crossgate/crossgate/NodeRole;"⟩ : MethodName) (head1 (Jvm.Cond.code (⟨"com/example/crossgate/crossgate/NodeRole", "peer", "()Lcom/example/crossgate/crossgate/NodeRole;"⟩ : MethodName) prog_17_method_8_code 1 (some (.object "com/example/crossgate/crossgate/NodeRole")) :: ws) ({ frames := 0, cells := 0, slots := 0, locals := 0 } : Room)) (fun a U => a = #[(.ref a0)] ∧ Z.Warmed39 U.vm ∧ U.heap = h0) (fun _ _ _ _ _ => True) (fun _ U o U' => ∃ v L, o = .returned v ∧ own_QV (.ref (f1 a0 w_CONNECTOR w_PROXY_SERVICE)) h0 n0 v U'.heap L ∧ FrameEnd U o U' L ({ frames := 0, cells := 0, slots := 0, locals := 0 } : Room).cells ({ frames := 0, cells := 0, slots := 0, locals := 0 } : Room).slots) := by
  refine MetFree.of_bodySF (plainFor_of_name pn_1) hisR ?_
  intro p e s m args below meth c s₁ Bd hml0 hP hK
  obtain ⟨rfl, hZ, hh⟩ := hP
  have hx := Bd.exec
  have hby := Bd.bytes
  have hlk : meth.locks = false := BodyLoose.notSynchronized Bd
  have hret := Bd.returns
  have hml : c.maxLocals = 1 := hml0
  have hown : s.vm.findClass "com/example/crossgate/crossgate/NodeRole" = some m.cls := findClass_of_methodNamed Bd.named
  have hnm := (name_of_methodNamed Bd.named Bd.method).1
  have X0 : Stand p l e ({ frames := 0, cells := 0, slots := 0, locals := 0 } : Room) s m #[(.ref a0)] below meth c s₁ [] 0 0 := Stand.of_body Bd
  have e0 : s₁.heap = h0 := by rw [← hh, Bd.state]; rfl
  have N0 := Fr.nil n0
  show own_G p.tables e below (own_E s ({ frames := 0, cells := 0, slots := 0, locals := 0 } : Room).cells ({ frames := 0, cells := 0, slots := 0, locals := 0 } : Room).slots) (own_QV (.ref (f1 a0 w_CONNECTOR w_PROXY_SERVICE)) h0 n0) (s₁.setTop (entryFrame m #[(.ref a0)] 1))
  refine own_st ?_ (fun t k => castTop (ef_1 m a0) k)
  show own_G p.tables e below _ _ (s₁.setTop (mkF m 0 #[.val (.ref a0)] []))
  refine own_st ?_ (fun t k => XS.aloadN X0.here hx rfl (hb hby d1_0) rfl rfl k)
  show own_G p.tables e below _ _ (s₁.setTop (mkF m 1 #[.val (.ref a0)] [(.ref a0)]))
  obtain ⟨T1, X1, e1, st1⟩ := getS2 X0 hx hZ hown (host := "") (Or.inl (hw _ (List.mem_of_getElem? (i := 10) rfl))) Via.refl e0 S_CONNECTOR (g := (mkF m 1 #[.val (.ref a0)] [(.ref a0)])) rfl (hb hby d1_1)
  refine own_st ?_ st1
  show own_G p.tables e below _ _ (T1.setTop (mkF m 4 #[.val (.ref a0)] [(.ref w_CONNECTOR), (.ref a0)]))
  by_cases ha4 : a0 = w_CONNECTOR
  · refine own_st ?_ (fun t k => Jvm.RoadKit.acmp (g := (mkF m 4 #[.val (.ref a0)] [(.ref w_CONNECTOR), (.ref a0)])) X1 hx rfl rfl rfl (pc0 := 4) (pc' := 7) (same := true) rfl (hb hby d1_4) rfl (decide_eq_true (congrArg Value.ref ha4)) (by decide) (by decide) k)
    show own_G p.tables e below _ _ (T1.setTop (mkF m 7 #[.val (.ref a0)] []))
    obtain ⟨T2, X2, e2, st2⟩ := getS2 X1 hx hZ hown (host := "") (Or.inl (hw _ (List.mem_of_getElem? (i := 11) rfl))) Via.refl e1 S_PROXY_SERVICE (g := (mkF m 7 #[.val (.ref a0)] [])) rfl (hb hby d1_7)
    refine own_st ?_ st2
    show own_G p.tables e below _ _ (T2.setTop (mkF m 10 #[.val (.ref a0)] [(.ref w_PROXY_SERVICE)]))
    refine own_st ?_ (fun t k => XS.goto X2.here hx rfl (pc0 := 10) (pc' := 16) rfl (hb hby d1_10) (by decide) (by decide) k)
    show own_G p.tables e below _ _ (T2.setTop (mkF m 16 #[.val (.ref a0)] [(.ref w_PROXY_SERVICE)]))
    refine own_retA X2 hx hlk hret rfl rfl rfl (hb hby d1_16) (by decide) (by decide) ⟨?_, N0, e2⟩
    rw [show f1 a0 w_CONNECTOR w_PROXY_SERVICE = w_PROXY_SERVICE from (if_pos ha4).trans (rfl)]
  · refine own_st ?_ (fun t k => Jvm.RoadKit.acmp (g := (mkF m 4 #[.val (.ref a0)] [(.ref w_CONNECTOR), (.ref a0)])) X1 hx rfl rfl rfl (pc0 := 4) (pc' := 13) (same := false) rfl (hb hby d1_4) rfl (decide_eq_false fun q => ha4 (Value.ref.inj q)) (by decide) (by decide) k)
    show own_G p.tables e below _ _ (T1.setTop (mkF m 13 #[.val (.ref a0)] []))
    obtain ⟨T3, X3, e3, st3⟩ := getS2 X1 hx hZ hown (host := "") (Or.inl (hw _ (List.mem_of_getElem? (i := 10) rfl))) Via.refl e1 S_CONNECTOR (g := (mkF m 13 #[.val (.ref a0)] [])) rfl (hb hby d1_13)
    refine own_st ?_ st3
    show own_G p.tables e below _ _ (T3.setTop (mkF m 16 #[.val (.ref a0)] [(.ref w_CONNECTOR)]))
    refine own_retA X3 hx hlk hret rfl rfl rfl (hb hby d1_16) (by decide) (by decide) ⟨?_, N0, e3⟩
    rw [show f1 a0 w_CONNECTOR w_PROXY_SERVICE = w_CONNECTOR from (if_neg ha4).trans (rfl)]
theorem d2_0 : decode prog_17_method_5_code 0 = .ok (.aload_n 0, 1) := by decide +kernel
theorem d2_1 : decode prog_17_method_5_code 1 = .ok (.getfield 33, 3) := by decide +kernel
theorem d2_4 : decode prog_17_method_5_code 4 = .ok (.areturn, 1) := by decide +kernel
def f2 (a0 : Addr) (v_prefix_a0 : Addr) : Addr := v_prefix_a0
theorem pn_2 : plainName "com/example/crossgate/crossgate/NodeRole" = true := by first | (simp [plainName, overriddenIn]; done) | decide +kernel
theorem ef_2 (m : MethodId) (a0 : Addr) : entryFrame m #[(.ref a0)] 1 = mkF m 0 #[.val (.ref a0)] [] := by first | (simp [entryFrame, mkF, argsToLocals, Value.category]; done) | rfl
set_option maxRecDepth 65536 in
set_option maxHeartbeats 40000000 in
theorem rm2 (l : Launch) (Z : State) (a0 : Array Value) (hw : ∀ d ∈ tables_1, d.before a0 Z = true) (ws : List Jvm.Cond) (a0 : Addr) (v_prefix_a0 : Addr) (h0 : Heap) (n0 : Nat) (Z0 : n0 ≤ h0.size) (F_prefix_a0 : Fld Z h0 a0 "com/example/crossgate/crossgate/NodeRole" "prefix" "Ljava/lang/String;" (.ref v_prefix_a0)) :
    MetFree l (⟨"com/example/crossgate/crossgate/NodeRole", "prefix", "()Ljava/lang/String;"⟩ : MethodName) (head1 (Jvm.Cond.code (⟨"com/example/crossgate/crossgate/NodeRole", "prefix", "()Ljava/lang/String;"⟩ : MethodName) prog_17_method_5_code 1 (some (.object "java/lang/String")) :: ws) ({ frames := 0, cells := 0, slots := 0, locals := 0 } : Room)) (fun a U => a = #[(.ref a0)] ∧ Z.Warmed39 U.vm ∧ U.heap = h0) (fun _ _ _ _ _ => True) (fun _ U o U' => ∃ v L, o = .returned v ∧ own_QV (.ref (f2 a0 v_prefix_a0)) h0 n0 v U'.heap L ∧ FrameEnd U o U' L ({ frames := 0, cells := 0, slots := 0, locals := 0 } : Room).cells ({ frames := 0, cells := 0, slots := 0, locals := 0 } : Room).slots) := by
  refine MetFree.of_bodySF (plainFor_of_name pn_2) hisR ?_
  intro p e s m args below meth c s₁ Bd hml0 hP hK
  obtain ⟨rfl, hZ, hh⟩ := hP
  have hx := Bd.exec
  have hby := Bd.bytes
  have hlk : meth.locks = false := BodyLoose.notSynchronized Bd
  have hret := Bd.returns
  have hml : c.maxLocals = 1 := hml0
  have hown : s.vm.findClass "com/example/crossgate/crossgate/NodeRole" = some m.cls := findClass_of_methodNamed Bd.named
  have hnm := (name_of_methodNamed Bd.named Bd.method).1
  have X0 : Stand p l e ({ frames := 0, cells := 0, slots := 0, locals := 0 } : Room) s m #[(.ref a0)] below meth c s₁ [] 0 0 := Stand.of_body Bd
  have e0 : s₁.heap = h0 := by rw [← hh, Bd.state]; rfl
  have N0 := Fr.nil n0
  show own_G p.tables e below (own_E s ({ frames := 0, cells := 0, slots := 0, locals := 0 } : Room).cells ({ frames := 0, cells := 0, slots := 0, locals := 0 } : Room).slots) (own_QV (.ref (f2 a0 v_prefix_a0)) h0 n0) (s₁.setTop (entryFrame m #[(.ref a0)] 1))
  refine own_st ?_ (fun t k => castTop (ef_2 m a0) k)
  show own_G p.tables e below _ _ (s₁.setTop (mkF m 0 #[.val (.ref a0)] []))
  refine own_st ?_ (fun t k => XS.aloadN X0.here hx rfl (hb hby d2_0) rfl rfl k)
  show own_G p.tables e below _ _ (s₁.setTop (mkF m 1 #[.val (.ref a0)] [(.ref a0)]))
  obtain ⟨T1, X1, e1, st1⟩ := getF X0 hx hZ hown (host := "") (Or.inl (hw _ (List.mem_of_getElem? (i := 25) rfl))) Via.refl e0 F_prefix_a0 (g := (mkF m 1 #[.val (.ref a0)] [(.ref a0)])) rfl rfl (hb hby d2_1)
  refine own_st ?_ st1
  show own_G p.tables e below _ _ (T1.setTop (mkF m 4 #[.val (.ref a0)] [(.ref v_prefix_a0)]))
  refine own_retA X1 hx hlk hret rfl rfl rfl (hb hby d2_4) (by decide) (by decide) ⟨?_, N0, e1⟩
  rw [show f2 a0 v_prefix_a0 = v_prefix_a0 from rfl]
theorem rm1r (l : Launch) (Z : State) (a0 : Array Value) (hw : ∀ d ∈ tables_1, d.before a0 Z = true) (ws : List Jvm.Cond) (a0 : Addr) (w_CONNECTOR : Addr) (w_PROXY_SERVICE : Addr) (r1 : Addr) (h0 : Heap) (n0 : Nat) (Z0 : n0 ≤ h0.size) (S_CONNECTOR : Sta Z h0 "com/example/crossgate/crossgate/NodeRole" "CONNECTOR" "Lcom/example/crossgate/crossgate/NodeRole;" (.ref w_CONNECTOR)) (S_PROXY_SERVICE : Sta Z h0 "com/example/crossgate/crossgate/NodeRole" "PROXY_SERVICE" "Lcom/example/crossgate/crossgate/NodeRole;" (.ref w_PROXY_SERVICE)) (hr : f1 a0 w_CONNECTOR w_PROXY_SERVICE = r1) :
    MetFree l (⟨"com/example/crossgate/crossgate/NodeRole", "peer", "()Lcom/example/crossgate/crossgate/NodeRole;"⟩ : MethodName) (head1 (Jvm.Cond.code (⟨"com/example/crossgate/crossgate/NodeRole", "peer", "()Lcom/example/crossgate/crossgate/NodeRole;"⟩ : MethodName) prog_17_method_8_code 1 (some (.object "com/example/crossgate/crossgate/NodeRole")) :: ws) ({ frames := 0, cells := 0, slots := 0, locals := 0 } : Room)) (fun a U => a = #[(.ref a0)] ∧ Z.Warmed39 U.vm ∧ U.heap = h0) (fun _ _ _ _ _ => True) (fun _ U o U' => ∃ v L, o = .returned v ∧ own_QV (.ref r1) h0 n0 v U'.heap L ∧ FrameEnd U o U' L ({ frames := 0, cells := 0, slots := 0, locals := 0 } : Room).cells ({ frames := 0, cells := 0, slots := 0, locals := 0 } : Room).slots) := by
  subst hr
  exact rm1 l Z _ hw ws a0 w_CONNECTOR w_PROXY_SERVICE h0 n0 Z0 S_CONNECTOR S_PROXY_SERVICE
theorem own_ht41 : (∀ c ∈ (own_text 41).toList, c.toNat < 256) ∧ (own_text 41).toList.map (fun c => Value.int (Jvm.Lit.byteI c.toNat.toUInt16)) = own_vs 41 := ⟨by decide +kernel, by rfl⟩
theorem own_hl41 : (Int32.ofNat 9).toNatClampNeg = (own_vs 41).length := by rfl
theorem own_ht12 : (∀ c ∈ (own_text 12).toList, c.toNat < 256) ∧ (own_text 12).toList.map (fun c => Value.int (Jvm.Lit.byteI c.toNat.toUInt16)) = own_vs 12 := ⟨by decide +kernel, by rfl⟩
theorem own_hl12 : (Int32.ofNat 7).toNatClampNeg = (own_vs 12).length := by rfl
theorem own_eqf {args : Array Value} {s : State} {t : Term} {C n d : String} {k : Int32} {w : Addr} (h : (Jvm.Cond.eq (.field t C n d) (.int k)).value args s none s [] = some true) (ev : t.eval args s none [] s = some (.ref w)) : Fld s s.heap w C n d (.int k) := by
  refine Fld.start ?_
  have e := fld_at (C := C) (n := n) (dd := d) ev
  cases hv : s.fieldOf? w C n d with
  | none => simp [Jvm.Cond.value, e, hv] at h
  | some v => cases v <;> simp_all [Jvm.Cond.value, Term.eval]
theorem pd_1 : parseMethodDescriptor "()Lcom/example/crossgate/crossgate/NodeRole;" = some ⟨[], some (.object "com/example/crossgate/crossgate/NodeRole")⟩ := by decide +kernel
theorem pd_2 : parseMethodDescriptor "()Ljava/lang/String;" = some ⟨[], some (.object "java/lang/String")⟩ := by decide +kernel
theorem pd_3 : parseMethodDescriptor "(Ljava/lang/Object;)Z" = some ⟨[(.object "java/lang/Object")], some .boolean⟩ := by decide +kernel
theorem pn_0 : plainName "com/example/crossgate/crossgate/NodeRolePeerPinLaw" = true := by first | (simp [plainName, overriddenIn]; done) | decide +kernel
theorem ef_0 (m : MethodId) (p0 : Int32) : entryFrame m #[(.int p0)] maxLocals = mkF m 0 #[.val (.int p0), .unset, .unset, .unset, .unset, .unset] [] := by first | (simp [entryFrame, mkF, argsToLocals, Value.category, maxLocals]; done) | rfl
set_option maxRecDepth 65536 in
set_option maxHeartbeats 40000000 in
theorem rm0 (l : Launch) (Z : State) (a0 : Array Value) (hw : ∀ d ∈ tables_1, d.before a0 Z = true) (ws : List Jvm.Cond) (p0 : Int32) (z1 : Int32) (sC : Addr) (tC : Addr) (sP : Addr) (tP : Addr) (w_CONNECTOR : Addr) (w_PROXY_SERVICE : Addr) (h0 : Heap) (n0 : Nat) (Z0 : n0 ≤ h0.size) (S1 : Sta Z h0 "java/lang/String" "COMPACT_STRINGS" "Z" (.int z1)) (EC : Exa Z h0 w_CONNECTOR "com/example/crossgate/crossgate/NodeRole") (FpC : Fld Z h0 w_CONNECTOR "com/example/crossgate/crossgate/NodeRole" "prefix" "Ljava/lang/String;" (.ref sC)) (EsC : Exa Z h0 sC "java/lang/String") (FcC : Fld Z h0 sC "java/lang/String" "coder" "B" (.int (0 : Int32))) (FvC : Fld Z h0 sC "java/lang/String" "value" "[B" (.ref tC)) (VC : own_C Z h0 tC 9 (own_g 41)) (EP : Exa Z h0 w_PROXY_SERVICE "com/example/crossgate/crossgate/NodeRole") (FpP : Fld Z h0 w_PROXY_SERVICE "com/example/crossgate/crossgate/NodeRole" "prefix" "Ljava/lang/String;" (.ref sP)) (EsP : Exa Z h0 sP "java/lang/String") (FcP : Fld Z h0 sP "java/lang/String" "coder" "B" (.int (0 : Int32))) (FvP : Fld Z h0 sP "java/lang/String" "value" "[B" (.ref tP)) (VP : own_C Z h0 tP 7 (own_g 12)) (hz1 : ¬ z1 = 0) (hne : ¬ w_PROXY_SERVICE = w_CONNECTOR) (hn0 : n0 = h0.size) (hZh : Z.heap = h0) (hcw : Jvm.Lit.compactW.before a0 Z = true) (hh20 : Jvm.Lit.constHeld Z "com/example/crossgate/crossgate/NodeRolePeerPinLaw" 20) (hh22 : Jvm.Lit.constHeld Z "com/example/crossgate/crossgate/NodeRolePeerPinLaw" 22) (S_CONNECTOR : Sta Z h0 "com/example/crossgate/crossgate/NodeRole" "CONNECTOR" "Lcom/example/crossgate/crossgate/NodeRole;" (.ref w_CONNECTOR)) (S_PROXY_SERVICE : Sta Z h0 "com/example/crossgate/crossgate/NodeRole" "PROXY_SERVICE" "Lcom/example/crossgate/crossgate/NodeRole;" (.ref w_PROXY_SERVICE)) :
    MetFree l x (head1 (Jvm.Cond.code x code maxLocals ret :: ws) room_1) (fun a U => a = #[(.int p0)] ∧ Z.Warmed39 U.vm ∧ U.heap = h0 ∧ U.vm = Z.vm) (fun _ _ _ _ _ => True) (fun _ U o U' => ∃ v L, o = .returned v ∧ own_QL (.int 1) n0 v U'.heap L ∧ ReturnedEndW U o U' L room_1.cells room_1.slots) := by
  refine MetFree.of_bodySF (plainFor_of_name pn_0) hisR ?_
  intro p e s m args below meth c s₁ Bd hml0 hP hK
  obtain ⟨rfl, hZ, hh, hvm⟩ := hP
  have hx := Bd.exec
  have hby := Bd.bytes
  have hlk : meth.locks = false := BodyLoose.notSynchronized Bd
  have hret := Bd.returns
  have hml : c.maxLocals = 6 := hml0
  have hown : s.vm.findClass "com/example/crossgate/crossgate/NodeRolePeerPinLaw" = some m.cls := findClass_of_methodNamed Bd.named
  have hnm := (name_of_methodNamed Bd.named Bd.method).1
  have X0 : Stand p l e room_1 (s.setVm s.vm) m #[(.int p0)] below meth c s₁ [] 0 0 := Stand.of_body Bd
  have e0 : s₁.heap = h0 := by rw [← hh, Bd.state]; rfl
  have N0 := Fr.nil n0
  show own_G p.tables e below (own_EW s room_1.cells room_1.slots) (own_QL (.int 1) n0) (s₁.setTop (entryFrame m #[(.int p0)] maxLocals))
  refine own_st ?_ (fun t k => castTop (ef_0 m p0) k)
  show own_G p.tables e below _ _ (s₁.setTop (mkF m 0 #[.val (.int p0), .unset, .unset, .unset, .unset, .unset] []))
  have hkeep : ∀ (b : Addr) (cl : Cell), Z.heap[b]? = some cl → s.heap[b]? = some cl := fun b cl q => by rw [hh, ← hZh]; exact q
  have I0 : IB Z s.vm [] := by rw [hvm]; exact IB.start
  have hS0 : s.Since s.vm h0.size := (State.WarmedH.refl s).since _
  have hk0 : h0.size ≤ h0.size := Nat.le_refl _
  refine own_st ?_ (fun t k => XS.iloadN X0.here hx rfl (hb hby at_0) rfl k)
  show own_G p.tables e below _ _ (s₁.setTop (mkF m 1 #[.val (.int p0), .unset, .unset, .unset, .unset, .unset] [(.int p0)]))
  refine own_st ?_ (fun t k => XS.iconst X0.here hx rfl (hb hby at_1) k)
  show own_G p.tables e below _ _ (s₁.setTop (mkF m 2 #[.val (.int p0), .unset, .unset, .unset, .unset, .unset] [(.int (1 : Int32)), (.int p0)]))
  refine own_st ?_ (fun t k => XS.iand X0.here hx rfl (hb hby at_2) rfl k)
  show own_G p.tables e below _ _ (s₁.setTop (mkF m 3 #[.val (.int p0), .unset, .unset, .unset, .unset, .unset] [(.int (p0 &&& (1 : Int32)))]))
  by_cases hc3 : (p0 &&& (1 : Int32)) = (0 : Int32)
  · refine own_st ?_ (fun t k => XS.ifYes X0.here hx rfl (pc0 := 3) (pc' := 10) rfl (hb hby at_3) rfl ((if0 _ _).trans (teq hc3).1) (by decide) (by decide) k)
    show own_G p.tables e below _ _ (s₁.setTop (mkF m 10 #[.val (.int p0), .unset, .unset, .unset, .unset, .unset] []))
    refine own_st ?_ (fun t k => XS.iconst X0.here hx rfl (hb hby at_10) k)
    show own_G p.tables e below _ _ (s₁.setTop (mkF m 11 #[.val (.int p0), .unset, .unset, .unset, .unset, .unset] [(.int (0 : Int32))]))
    refine own_st ?_ (fun t k => XS.istoreN X0.here hx rfl (hb hby at_11) rfl (l' := #[.val (.int p0), .val (.int (0 : Int32)), .unset, .unset, .unset, .unset]) rfl k)
    show own_G p.tables e below _ _ (s₁.setTop (mkF m 12 #[.val (.int p0), .val (.int (0 : Int32)), .unset, .unset, .unset, .unset] []))
    refine own_st ?_ (fun t k => XS.iloadN X0.here hx rfl (hb hby at_12) rfl k)
    show own_G p.tables e below _ _ (s₁.setTop (mkF m 13 #[.val (.int p0), .val (.int (0 : Int32)), .unset, .unset, .unset, .unset] [(.int (0 : Int32))]))
    refine own_st ?_ (fun t k => XS.ifYes X0.here hx rfl (pc0 := 13) (pc' := 22) rfl (hb hby at_13) rfl ((if0 _ _).trans (teq (by decide : (0 : Int32) = (0 : Int32))).1) (by decide) (by decide) k)
    show own_G p.tables e below _ _ (s₁.setTop (mkF m 22 #[.val (.int p0), .val (.int (0 : Int32)), .unset, .unset, .unset, .unset] []))
    obtain ⟨T1, X1, e1, st1⟩ := getS2 X0 hx hZ hown (host := "") (Or.inl (hw _ (List.mem_of_getElem? (i := 0) rfl))) Via.refl e0 S_CONNECTOR (g := (mkF m 22 #[.val (.int p0), .val (.int (0 : Int32)), .unset, .unset, .unset, .unset] [])) rfl (hb hby at_22)
    refine own_st ?_ st1
    show own_G p.tables e below _ _ (T1.setTop (mkF m 25 #[.val (.int p0), .val (.int (0 : Int32)), .unset, .unset, .unset, .unset] [(.ref w_CONNECTOR)]))
    refine own_st ?_ (fun t k => XS.astoreN X1.here hx rfl (hb hby at_25) rfl rfl (l' := #[.val (.int p0), .val (.int (0 : Int32)), .val (.ref w_CONNECTOR), .unset, .unset, .unset]) rfl k)
    show own_G p.tables e below _ _ (T1.setTop (mkF m 26 #[.val (.int p0), .val (.int (0 : Int32)), .val (.ref w_CONNECTOR), .unset, .unset, .unset] []))
    refine own_st ?_ (fun t k => XS.iloadN X1.here hx rfl (hb hby at_26) rfl k)
    show own_G p.tables e below _ _ (T1.setTop (mkF m 27 #[.val (.int p0), .val (.int (0 : Int32)), .val (.ref w_CONNECTOR), .unset, .unset, .unset] [(.int (0 : Int32))]))
    refine own_st ?_ (fun t k => XS.ifYes X1.here hx rfl (pc0 := 27) (pc' := 36) rfl (hb hby at_27) rfl ((if0 _ _).trans (teq (by decide : (0 : Int32) = (0 : Int32))).1) (by decide) (by decide) k)
    show own_G p.tables e below _ _ (T1.setTop (mkF m 36 #[.val (.int p0), .val (.int (0 : Int32)), .val (.ref w_CONNECTOR), .unset, .unset, .unset] []))
    obtain ⟨T2, X2, e2, st2⟩ := getS2 X1 hx hZ hown (host := "") (Or.inl (hw _ (List.mem_of_getElem? (i := 3) rfl))) Via.refl e1 S_PROXY_SERVICE (g := (mkF m 36 #[.val (.int p0), .val (.int (0 : Int32)), .val (.ref w_CONNECTOR), .unset, .unset, .unset] [])) rfl (hb hby at_36)
    refine own_st ?_ st2
    show own_G p.tables e below _ _ (T2.setTop (mkF m 39 #[.val (.int p0), .val (.int (0 : Int32)), .val (.ref w_CONNECTOR), .unset, .unset, .unset] [(.ref w_PROXY_SERVICE)]))
    refine own_st ?_ (fun t k => XS.astoreN X2.here hx rfl (hb hby at_39) rfl rfl (l' := #[.val (.int p0), .val (.int (0 : Int32)), .val (.ref w_CONNECTOR), .val (.ref w_PROXY_SERVICE), .unset, .unset]) rfl k)
    show own_G p.tables e below _ _ (T2.setTop (mkF m 40 #[.val (.int p0), .val (.int (0 : Int32)), .val (.ref w_CONNECTOR), .val (.ref w_PROXY_SERVICE), .unset, .unset] []))
    refine own_st ?_ (fun t k => XS.aloadN X2.here hx rfl (hb hby at_40) rfl rfl k)
    show own_G p.tables e below _ _ (T2.setTop (mkF m 41 #[.val (.int p0), .val (.int (0 : Int32)), .val (.ref w_CONNECTOR), .val (.ref w_PROXY_SERVICE), .unset, .unset] [(.ref w_CONNECTOR)]))
    obtain ⟨cq3, kq3, q3a, q3b, q3c⟩ := isOf hZ e2 EC
    obtain ⟨_, _, ⟨T3, L3, k3, n3⟩, -, X3, ⟨Lc3, hQ3, l3, y3, z3⟩, st3⟩ := X2.virtualBack hx (y := (⟨"com/example/crossgate/crossgate/NodeRole", "peer", "()Lcom/example/crossgate/crossgate/NodeRole;"⟩ : MethodName)) (z := (⟨"com/example/crossgate/crossgate/NodeRole", "peer", "()Lcom/example/crossgate/crossgate/NodeRole;"⟩ : MethodName)) hown (mvT hZ (hw _ (List.mem_of_getElem? (i := 5) rfl))) (mvT hZ (hw _ (List.mem_of_getElem? (i := 6) rfl))) (notFace_of_selects (args := #[]) (mvT hZ (hw _ (List.mem_of_getElem? (i := 8) rfl)))) (mvT hZ (hw _ (List.mem_of_getElem? (i := 8) rfl))) (mvT hZ (hw _ (List.mem_of_getElem? (i := 7) rfl))) (by decide) (backOf (W := 0) (rm1r l Z _ hw [] w_CONNECTOR w_CONNECTOR w_PROXY_SERVICE w_PROXY_SERVICE h0 n0 Z0 S_CONNECTOR S_PROXY_SERVICE (if_pos rfl)) hZ (hw _ (List.mem_of_getElem? (i := 9) rfl)) (hw _ (List.mem_of_getElem? (i := 1) rfl)) (by decide) (by decide)) q3a q3c (g := (mkF m 41 #[.val (.int p0), .val (.int (0 : Int32)), .val (.ref w_CONNECTOR), .val (.ref w_PROXY_SERVICE), .unset, .unset] [(.ref w_CONNECTOR)])) rfl (by rw [hml]; rfl) (Steps.refl _) (argsL := []) (rest := []) (lenOf pd_1 rfl) rfl (by show 2 * 0 + _ ≤ _; exact Nat.le_of_eq rfl) (hb hby at_41) (fun _ _ => ⟨rfl, e2, (by decide : 0 + 0 ≤ _), (by decide : 0 + 0 ≤ _)⟩)
    dsimp only [Pt.U, Pt.locs, Pt.cells, Pt.slots] at X3 l3 y3 z3 st3 hQ3
    subst l3 y3 z3
    obtain ⟨rfl, N3q, e3⟩ := hQ3
    have N3 := Fr.app N0 N3q
    refine own_st ?_ (fun t k => st3.trans k)
    show own_G p.tables e below _ _ (T3.setTop (mkF m 44 #[.val (.int p0), .val (.int (0 : Int32)), .val (.ref w_CONNECTOR), .val (.ref w_PROXY_SERVICE), .unset, .unset] [(.ref w_PROXY_SERVICE)]))
    refine own_st ?_ (fun t k => XS.astore X3.here hx rfl (hb hby at_44) rfl rfl (l' := #[.val (.int p0), .val (.int (0 : Int32)), .val (.ref w_CONNECTOR), .val (.ref w_PROXY_SERVICE), .val (.ref w_PROXY_SERVICE), .unset]) rfl k)
    show own_G p.tables e below _ _ (T3.setTop (mkF m 46 #[.val (.int p0), .val (.int (0 : Int32)), .val (.ref w_CONNECTOR), .val (.ref w_PROXY_SERVICE), .val (.ref w_PROXY_SERVICE), .unset] []))
    refine own_st ?_ (fun t k => XS.aload X3.here hx rfl (hb hby at_46) rfl rfl k)
    show own_G p.tables e below _ _ (T3.setTop (mkF m 48 #[.val (.int p0), .val (.int (0 : Int32)), .val (.ref w_CONNECTOR), .val (.ref w_PROXY_SERVICE), .val (.ref w_PROXY_SERVICE), .unset] [(.ref w_PROXY_SERVICE)]))
    refine own_st ?_ (fun t k => XS.aloadN X3.here hx rfl (hb hby at_48) rfl rfl k)
    show own_G p.tables e below _ _ (T3.setTop (mkF m 49 #[.val (.int p0), .val (.int (0 : Int32)), .val (.ref w_CONNECTOR), .val (.ref w_PROXY_SERVICE), .val (.ref w_PROXY_SERVICE), .unset] [(.ref w_PROXY_SERVICE), (.ref w_PROXY_SERVICE)]))
    refine own_st ?_ (fun t k => Jvm.RoadKit.acmp (g := (mkF m 49 #[.val (.int p0), .val (.int (0 : Int32)), .val (.ref w_CONNECTOR), .val (.ref w_PROXY_SERVICE), .val (.ref w_PROXY_SERVICE), .unset] [(.ref w_PROXY_SERVICE), (.ref w_PROXY_SERVICE)])) X3 hx rfl rfl rfl (pc0 := 49) (pc' := 54) (same := true) rfl (hb hby at_49) rfl (decide_eq_true rfl) (by decide) (by decide) k)
    show own_G p.tables e below _ _ (T3.setTop (mkF m 54 #[.val (.int p0), .val (.int (0 : Int32)), .val (.ref w_CONNECTOR), .val (.ref w_PROXY_SERVICE), .val (.ref w_PROXY_SERVICE), .unset] []))
    refine own_st ?_ (fun t k => XS.aload X3.here hx rfl (hb hby at_54) rfl rfl k)
    show own_G p.tables e below _ _ (T3.setTop (mkF m 56 #[.val (.int p0), .val (.int (0 : Int32)), .val (.ref w_CONNECTOR), .val (.ref w_PROXY_SERVICE), .val (.ref w_PROXY_SERVICE), .unset] [(.ref w_PROXY_SERVICE)]))
    refine own_st ?_ (fun t k => XS.aloadN X3.here hx rfl (hb hby at_56) rfl rfl k)
    show own_G p.tables e below _ _ (T3.setTop (mkF m 57 #[.val (.int p0), .val (.int (0 : Int32)), .val (.ref w_CONNECTOR), .val (.ref w_PROXY_SERVICE), .val (.ref w_PROXY_SERVICE), .unset] [(.ref w_CONNECTOR), (.ref w_PROXY_SERVICE)]))
    refine own_st ?_ (fun t k => Jvm.RoadKit.acmp (g := (mkF m 57 #[.val (.int p0), .val (.int (0 : Int32)), .val (.ref w_CONNECTOR), .val (.ref w_PROXY_SERVICE), .val (.ref w_PROXY_SERVICE), .unset] [(.ref w_CONNECTOR), (.ref w_PROXY_SERVICE)])) X3 hx rfl rfl rfl (pc0 := 57) (pc' := 62) (same := false) rfl (hb hby at_57) rfl (decide_eq_false fun q => hne (Value.ref.inj q)) (by decide) (by decide) k)
    show own_G p.tables e below _ _ (T3.setTop (mkF m 62 #[.val (.int p0), .val (.int (0 : Int32)), .val (.ref w_CONNECTOR), .val (.ref w_PROXY_SERVICE), .val (.ref w_PROXY_SERVICE), .unset] []))
    refine own_st ?_ (fun t k => XS.aload X3.here hx rfl (hb hby at_62) rfl rfl k)
    show own_G p.tables e below _ _ (T3.setTop (mkF m 64 #[.val (.int p0), .val (.int (0 : Int32)), .val (.ref w_CONNECTOR), .val (.ref w_PROXY_SERVICE), .val (.ref w_PROXY_SERVICE), .unset] [(.ref w_PROXY_SERVICE)]))
    obtain ⟨cq4, kq4, q4a, q4b, q4c⟩ := isOf hZ e3 EP
    obtain ⟨_, _, ⟨T4, L4, k4, n4⟩, -, X4, ⟨Lc4, hQ4, l4, y4, z4⟩, st4⟩ := X3.virtualBack hx (y := (⟨"com/example/crossgate/crossgate/NodeRole", "peer", "()Lcom/example/crossgate/crossgate/NodeRole;"⟩ : MethodName)) (z := (⟨"com/example/crossgate/crossgate/NodeRole", "peer", "()Lcom/example/crossgate/crossgate/NodeRole;"⟩ : MethodName)) hown (mvT hZ (hw _ (List.mem_of_getElem? (i := 5) rfl))) (mvT hZ (hw _ (List.mem_of_getElem? (i := 6) rfl))) (notFace_of_selects (args := #[]) (mvT hZ (hw _ (List.mem_of_getElem? (i := 8) rfl)))) (mvT hZ (hw _ (List.mem_of_getElem? (i := 8) rfl))) (mvT hZ (hw _ (List.mem_of_getElem? (i := 7) rfl))) (by decide) (backOf (W := 0) (rm1r l Z _ hw [] w_PROXY_SERVICE w_CONNECTOR w_PROXY_SERVICE w_CONNECTOR h0 n0 Z0 S_CONNECTOR S_PROXY_SERVICE (if_neg hne)) hZ (hw _ (List.mem_of_getElem? (i := 9) rfl)) (hw _ (List.mem_of_getElem? (i := 1) rfl)) (by decide) (by decide)) q4a q4c (g := (mkF m 64 #[.val (.int p0), .val (.int (0 : Int32)), .val (.ref w_CONNECTOR), .val (.ref w_PROXY_SERVICE), .val (.ref w_PROXY_SERVICE), .unset] [(.ref w_PROXY_SERVICE)])) rfl (by rw [hml]; rfl) (Steps.refl _) (argsL := []) (rest := []) (lenOf pd_1 rfl) rfl (by show 2 * 0 + _ ≤ _; exact Nat.le_of_eq rfl) (hb hby at_64) (fun _ _ => ⟨rfl, e3, (by decide : 0 + 0 ≤ _), (by decide : 0 + 0 ≤ _)⟩)
    dsimp only [Pt.U, Pt.locs, Pt.cells, Pt.slots] at X4 l4 y4 z4 st4 hQ4
    subst l4 y4 z4
    obtain ⟨rfl, N4q, e4⟩ := hQ4
    have N4 := Fr.app N3 N4q
    refine own_st ?_ (fun t k => st4.trans k)
    show own_G p.tables e below _ _ (T4.setTop (mkF m 67 #[.val (.int p0), .val (.int (0 : Int32)), .val (.ref w_CONNECTOR), .val (.ref w_PROXY_SERVICE), .val (.ref w_PROXY_SERVICE), .unset] [(.ref w_CONNECTOR)]))
    refine own_st ?_ (fun t k => XS.aloadN X4.here hx rfl (hb hby at_67) rfl rfl k)
    show own_G p.tables e below _ _ (T4.setTop (mkF m 68 #[.val (.int p0), .val (.int (0 : Int32)), .val (.ref w_CONNECTOR), .val (.ref w_PROXY_SERVICE), .val (.ref w_PROXY_SERVICE), .unset] [(.ref w_CONNECTOR), (.ref w_CONNECTOR)]))
    refine own_st ?_ (fun t k => Jvm.RoadKit.acmp (g := (mkF m 68 #[.val (.int p0), .val (.int (0 : Int32)), .val (.ref w_CONNECTOR), .val (.ref w_PROXY_SERVICE), .val (.ref w_PROXY_SERVICE), .unset] [(.ref w_CONNECTOR), (.ref w_CONNECTOR)])) X4 hx rfl rfl rfl (pc0 := 68) (pc' := 73) (same := true) rfl (hb hby at_68) rfl (decide_eq_true rfl) (by decide) (by decide) k)
    show own_G p.tables e below _ _ (T4.setTop (mkF m 73 #[.val (.int p0), .val (.int (0 : Int32)), .val (.ref w_CONNECTOR), .val (.ref w_PROXY_SERVICE), .val (.ref w_PROXY_SERVICE), .unset] []))
    refine own_st ?_ (fun t k => XS.iloadN X4.here hx rfl (hb hby at_73) rfl k)
    show own_G p.tables e below _ _ (T4.setTop (mkF m 74 #[.val (.int p0), .val (.int (0 : Int32)), .val (.ref w_CONNECTOR), .val (.ref w_PROXY_SERVICE), .val (.ref w_PROXY_SERVICE), .unset] [(.int (0 : Int32))]))
    refine own_st ?_ (fun t k => XS.ifYes X4.here hx rfl (pc0 := 74) (pc' := 82) rfl (hb hby at_74) rfl ((if0 _ _).trans (teq (by decide : (0 : Int32) = (0 : Int32))).1) (by decide) (by decide) k)
    show own_G p.tables e below _ _ (T4.setTop (mkF m 82 #[.val (.int p0), .val (.int (0 : Int32)), .val (.ref w_CONNECTOR), .val (.ref w_PROXY_SERVICE), .val (.ref w_PROXY_SERVICE), .unset] []))
    obtain ⟨b5, T5, h5, kq5, c5, kk5, X5, e5, E5, hS5, hk5, hZ5, hown5, Es5, Fc5, Fv5, Va5, -, -, I5, st5⟩ := ldcSV X4 hx hZ hown (hw _ (List.mem_of_getElem? (i := 12) rfl)) (fun a ha => hw a (own_strs a ha)) e4 hS0 hk0 (own_frs N4 hn0 hh) hkeep I0 (by decide +kernel) hh22 hcw own_ht12 (by decide) own_hl12 (g := (mkF m 82 #[.val (.int p0), .val (.int (0 : Int32)), .val (.ref w_CONNECTOR), .val (.ref w_PROXY_SERVICE), .val (.ref w_PROXY_SERVICE), .unset] [])) rfl (hb hby at_82) (n := 28) (by decide +kernel) (by decide) (by decide) (by decide)
    have F6_COMPACT_STRINGS : Sta Z h5 "java/lang/String" "COMPACT_STRINGS" "Z" (.int z1) := S1.ext E5
    have F7_E : Exa Z h5 w_CONNECTOR "com/example/crossgate/crossgate/NodeRole" := EC.ext E5
    have F8_prefix : Fld Z h5 w_CONNECTOR "com/example/crossgate/crossgate/NodeRole" "prefix" "Ljava/lang/String;" (.ref sC) := FpC.ext E5
    have F9_E : Exa Z h5 sC "java/lang/String" := EsC.ext E5
    have F10_coder : Fld Z h5 sC "java/lang/String" "coder" "B" (.int (0 : Int32)) := FcC.ext E5
    have F11_value : Fld Z h5 sC "java/lang/String" "value" "[B" (.ref tC) := FvC.ext E5
    have F12_P : own_C Z h5 tC 9 (own_g 41) := own_C_ext VC E5
    have F13_E : Exa Z h5 w_PROXY_SERVICE "com/example/crossgate/crossgate/NodeRole" := EP.ext E5
    have F14_prefix : Fld Z h5 w_PROXY_SERVICE "com/example/crossgate/crossgate/NodeRole" "prefix" "Ljava/lang/String;" (.ref sP) := FpP.ext E5
    have F15_E : Exa Z h5 sP "java/lang/String" := EsP.ext E5
    have F16_coder : Fld Z h5 sP "java/lang/String" "coder" "B" (.int (0 : Int32)) := FcP.ext E5
    have F17_value : Fld Z h5 sP "java/lang/String" "value" "[B" (.ref tP) := FvP.ext E5
    have F18_P : own_C Z h5 tP 7 (own_g 12) := own_C_ext VP E5
    have Zs19 : n0 ≤ h5.size := Nat.le_trans Z0 E5.1
    have hZ := hZ5
    have hown := hown5
    have Vc5 : own_C Z h5 c5 7 (own_g 12) := own_C_of Va5 (by decide)
    refine own_st ?_ st5
    show own_G p.tables e below _ _ (T5.setTop (mkF m 84 #[.val (.int p0), .val (.int (0 : Int32)), .val (.ref w_CONNECTOR), .val (.ref w_PROXY_SERVICE), .val (.ref w_PROXY_SERVICE), .unset] [(.ref b5)]))
    refine own_st ?_ (fun t k => XS.astore X5.here hx rfl (hb hby at_84) rfl rfl (l' := #[.val (.int p0), .val (.int (0 : Int32)), .val (.ref w_CONNECTOR), .val (.ref w_PROXY_SERVICE), .val (.ref w_PROXY_SERVICE), .val (.ref b5)]) rfl k)
    show own_G p.tables e below _ _ (T5.setTop (mkF m 86 #[.val (.int p0), .val (.int (0 : Int32)), .val (.ref w_CONNECTOR), .val (.ref w_PROXY_SERVICE), .val (.ref w_PROXY_SERVICE), .val (.ref b5)] []))
    refine own_st ?_ (fun t k => XS.aload X5.here hx rfl (hb hby at_86) rfl rfl k)
    show own_G p.tables e below _ _ (T5.setTop (mkF m 88 #[.val (.int p0), .val (.int (0 : Int32)), .val (.ref w_CONNECTOR), .val (.ref w_PROXY_SERVICE), .val (.ref w_PROXY_SERVICE), .val (.ref b5)] [(.ref w_PROXY_SERVICE)]))
    obtain ⟨cq20, kq20, q20a, q20b, q20c⟩ := isOf hZ e5 F13_E
    obtain ⟨_, _, ⟨T20, L20, k20, n20⟩, -, X20, ⟨Lc20, hQ20, l20, y20, z20⟩, st20⟩ := X5.virtualBack hx (y := (⟨"com/example/crossgate/crossgate/NodeRole", "prefix", "()Ljava/lang/String;"⟩ : MethodName)) (z := (⟨"com/example/crossgate/crossgate/NodeRole", "prefix", "()Ljava/lang/String;"⟩ : MethodName)) hown (mvT hZ (hw _ (List.mem_of_getElem? (i := 20) rfl))) (mvT hZ (hw _ (List.mem_of_getElem? (i := 21) rfl))) (notFace_of_selects (args := #[]) (mvT hZ (hw _ (List.mem_of_getElem? (i := 23) rfl)))) (mvT hZ (hw _ (List.mem_of_getElem? (i := 23) rfl))) (mvT hZ (hw _ (List.mem_of_getElem? (i := 22) rfl))) (by decide) (backOf (W := 0) (rm2 l Z _ hw [] w_PROXY_SERVICE sP h5 n0 Zs19 F14_prefix) hZ (hw _ (List.mem_of_getElem? (i := 24) rfl)) (hw _ (List.mem_of_getElem? (i := 1) rfl)) (by decide) (by decide)) q20a q20c (g := (mkF m 88 #[.val (.int p0), .val (.int (0 : Int32)), .val (.ref w_CONNECTOR), .val (.ref w_PROXY_SERVICE), .val (.ref w_PROXY_SERVICE), .val (.ref b5)] [(.ref w_PROXY_SERVICE)])) rfl (by rw [hml]; rfl) (Steps.refl _) (argsL := []) (rest := []) (lenOf pd_2 rfl) rfl (by show 2 * 0 + _ ≤ _; exact Nat.le_of_eq rfl) (hb hby at_88) (fun _ _ => ⟨rfl, e5, (by decide : 2 + 0 ≤ _), (by decide : 32 + 0 ≤ _)⟩)
    dsimp only [Pt.U, Pt.locs, Pt.cells, Pt.slots] at X20 l20 y20 z20 st20 hQ20
    subst l20 y20 z20
    obtain ⟨rfl, N20q, e20⟩ := hQ20
    have N20 := Fr.app N4 N20q
    refine own_st ?_ (fun t k => st20.trans k)
    show own_G p.tables e below _ _ (T20.setTop (mkF m 91 #[.val (.int p0), .val (.int (0 : Int32)), .val (.ref w_CONNECTOR), .val (.ref w_PROXY_SERVICE), .val (.ref w_PROXY_SERVICE), .val (.ref b5)] [(.ref sP)]))
    refine own_st ?_ (fun t k => XS.aload X20.here hx rfl (hb hby at_91) rfl rfl k)
    show own_G p.tables e below _ _ (T20.setTop (mkF m 93 #[.val (.int p0), .val (.int (0 : Int32)), .val (.ref w_CONNECTOR), .val (.ref w_PROXY_SERVICE), .val (.ref w_PROXY_SERVICE), .val (.ref b5)] [(.ref b5), (.ref sP)]))
    obtain ⟨cq21, kq21, q21a, q21b, q21c⟩ := isOf hZ e20 F15_E
    obtain ⟨_, _, ⟨T21, L21, k21, n21⟩, -, X21, ⟨Lc21, hQ21, l21, y21, z21⟩, st21⟩ := X20.virtualBack hx (y := (⟨"java/lang/String", "equals", "(Ljava/lang/Object;)Z"⟩ : MethodName)) (z := (⟨"java/lang/String", "equals", "(Ljava/lang/Object;)Z"⟩ : MethodName)) hown (mvT hZ (hw _ (List.mem_of_getElem? (i := 27) rfl))) (mvT hZ (hw _ (List.mem_of_getElem? (i := 28) rfl))) (notFace_of_selects (args := #[]) (mvT hZ (hw _ (List.mem_of_getElem? (i := 30) rfl)))) (mvT hZ (hw _ (List.mem_of_getElem? (i := 30) rfl))) (mvT hZ (hw _ (List.mem_of_getElem? (i := 29) rfl))) (by decide) (backOf (W := 0) (rm3 l Z _ hw [] sP b5 z1 tP c5 7 (own_g 12) h5 n0 Zs19 F6_COMPACT_STRINGS F15_E F16_coder F17_value F18_P Es5 Fc5 Fv5 Vc5 hz1 (by decide)) hZ (hw _ (List.mem_of_getElem? (i := 31) rfl)) (hw _ (List.mem_of_getElem? (i := 13) rfl)) (by decide) (by decide)) q21a q21c (g := (mkF m 93 #[.val (.int p0), .val (.int (0 : Int32)), .val (.ref w_CONNECTOR), .val (.ref w_PROXY_SERVICE), .val (.ref w_PROXY_SERVICE), .val (.ref b5)] [(.ref b5), (.ref sP)])) rfl (by rw [hml]; rfl) (Steps.refl _) (argsL := [(.ref b5)]) (rest := []) (lenOf pd_3 rfl) rfl (by show 2 * 0 + _ ≤ _; exact Nat.le_of_eq rfl) (hb hby at_93) (fun _ _ => ⟨rfl, e20, (by decide : 2 + 0 ≤ _), (by decide : 32 + 0 ≤ _)⟩)
    dsimp only [Pt.U, Pt.locs, Pt.cells, Pt.slots] at X21 l21 y21 z21 st21 hQ21
    subst l21 y21 z21
    obtain ⟨rfl, N21q, e21⟩ := hQ21
    have N21 := Fr.app N20 N21q
    refine own_st ?_ (fun t k => st21.trans k)
    show own_G p.tables e below _ _ (T21.setTop (mkF m 96 #[.val (.int p0), .val (.int (0 : Int32)), .val (.ref w_CONNECTOR), .val (.ref w_PROXY_SERVICE), .val (.ref w_PROXY_SERVICE), .val (.ref b5)] [(.int (1 : Int32))]))
    exact own_retNW X21 hx hlk hS5 (by rw [e21]; exact hk5) (t := .boolean) hret (by simp) (hb hby at_96) (by decide) (by decide) (z' := (1 : Int32)) rfl ⟨rfl, N21⟩
  · refine own_st ?_ (fun t k => XS.ifNo X0.here hx rfl (hb hby at_3) rfl ((if0 _ _).trans (feq hc3).1) k)
    show own_G p.tables e below _ _ (s₁.setTop (mkF m 6 #[.val (.int p0), .unset, .unset, .unset, .unset, .unset] []))
    refine own_st ?_ (fun t k => XS.iconst X0.here hx rfl (hb hby at_6) k)
    show own_G p.tables e below _ _ (s₁.setTop (mkF m 7 #[.val (.int p0), .unset, .unset, .unset, .unset, .unset] [(.int (1 : Int32))]))
    refine own_st ?_ (fun t k => XS.goto X0.here hx rfl (pc0 := 7) (pc' := 11) rfl (hb hby at_7) (by decide) (by decide) k)
    show own_G p.tables e below _ _ (s₁.setTop (mkF m 11 #[.val (.int p0), .unset, .unset, .unset, .unset, .unset] [(.int (1 : Int32))]))
    refine own_st ?_ (fun t k => XS.istoreN X0.here hx rfl (hb hby at_11) rfl (l' := #[.val (.int p0), .val (.int (1 : Int32)), .unset, .unset, .unset, .unset]) rfl k)
    show own_G p.tables e below _ _ (s₁.setTop (mkF m 12 #[.val (.int p0), .val (.int (1 : Int32)), .unset, .unset, .unset, .unset] []))
    refine own_st ?_ (fun t k => XS.iloadN X0.here hx rfl (hb hby at_12) rfl k)
    show own_G p.tables e below _ _ (s₁.setTop (mkF m 13 #[.val (.int p0), .val (.int (1 : Int32)), .unset, .unset, .unset, .unset] [(.int (1 : Int32))]))
    refine own_st ?_ (fun t k => XS.ifNo X0.here hx rfl (hb hby at_13) rfl ((if0 _ _).trans (feq (by decide : ¬ ((1 : Int32) = (0 : Int32)))).1) k)
    show own_G p.tables e below _ _ (s₁.setTop (mkF m 16 #[.val (.int p0), .val (.int (1 : Int32)), .unset, .unset, .unset, .unset] []))
    obtain ⟨T22, X22, e22, st22⟩ := getS2 X0 hx hZ hown (host := "") (Or.inl (hw _ (List.mem_of_getElem? (i := 3) rfl))) Via.refl e0 S_PROXY_SERVICE (g := (mkF m 16 #[.val (.int p0), .val (.int (1 : Int32)), .unset, .unset, .unset, .unset] [])) rfl (hb hby at_16)
    refine own_st ?_ st22
    show own_G p.tables e below _ _ (T22.setTop (mkF m 19 #[.val (.int p0), .val (.int (1 : Int32)), .unset, .unset, .unset, .unset] [(.ref w_PROXY_SERVICE)]))
    refine own_st ?_ (fun t k => XS.goto X22.here hx rfl (pc0 := 19) (pc' := 25) rfl (hb hby at_19) (by decide) (by decide) k)
    show own_G p.tables e below _ _ (T22.setTop (mkF m 25 #[.val (.int p0), .val (.int (1 : Int32)), .unset, .unset, .unset, .unset] [(.ref w_PROXY_SERVICE)]))
    refine own_st ?_ (fun t k => XS.astoreN X22.here hx rfl (hb hby at_25) rfl rfl (l' := #[.val (.int p0), .val (.int (1 : Int32)), .val (.ref w_PROXY_SERVICE), .unset, .unset, .unset]) rfl k)
    show own_G p.tables e below _ _ (T22.setTop (mkF m 26 #[.val (.int p0), .val (.int (1 : Int32)), .val (.ref w_PROXY_SERVICE), .unset, .unset, .unset] []))
    refine own_st ?_ (fun t k => XS.iloadN X22.here hx rfl (hb hby at_26) rfl k)
    show own_G p.tables e below _ _ (T22.setTop (mkF m 27 #[.val (.int p0), .val (.int (1 : Int32)), .val (.ref w_PROXY_SERVICE), .unset, .unset, .unset] [(.int (1 : Int32))]))
    refine own_st ?_ (fun t k => XS.ifNo X22.here hx rfl (hb hby at_27) rfl ((if0 _ _).trans (feq (by decide : ¬ ((1 : Int32) = (0 : Int32)))).1) k)
    show own_G p.tables e below _ _ (T22.setTop (mkF m 30 #[.val (.int p0), .val (.int (1 : Int32)), .val (.ref w_PROXY_SERVICE), .unset, .unset, .unset] []))
    obtain ⟨T23, X23, e23, st23⟩ := getS2 X22 hx hZ hown (host := "") (Or.inl (hw _ (List.mem_of_getElem? (i := 0) rfl))) Via.refl e22 S_CONNECTOR (g := (mkF m 30 #[.val (.int p0), .val (.int (1 : Int32)), .val (.ref w_PROXY_SERVICE), .unset, .unset, .unset] [])) rfl (hb hby at_30)
    refine own_st ?_ st23
    show own_G p.tables e below _ _ (T23.setTop (mkF m 33 #[.val (.int p0), .val (.int (1 : Int32)), .val (.ref w_PROXY_SERVICE), .unset, .unset, .unset] [(.ref w_CONNECTOR)]))
    refine own_st ?_ (fun t k => XS.goto X23.here hx rfl (pc0 := 33) (pc' := 39) rfl (hb hby at_33) (by decide) (by decide) k)
    show own_G p.tables e below _ _ (T23.setTop (mkF m 39 #[.val (.int p0), .val (.int (1 : Int32)), .val (.ref w_PROXY_SERVICE), .unset, .unset, .unset] [(.ref w_CONNECTOR)]))
    refine own_st ?_ (fun t k => XS.astoreN X23.here hx rfl (hb hby at_39) rfl rfl (l' := #[.val (.int p0), .val (.int (1 : Int32)), .val (.ref w_PROXY_SERVICE), .val (.ref w_CONNECTOR), .unset, .unset]) rfl k)
    show own_G p.tables e below _ _ (T23.setTop (mkF m 40 #[.val (.int p0), .val (.int (1 : Int32)), .val (.ref w_PROXY_SERVICE), .val (.ref w_CONNECTOR), .unset, .unset] []))
    refine own_st ?_ (fun t k => XS.aloadN X23.here hx rfl (hb hby at_40) rfl rfl k)
    show own_G p.tables e below _ _ (T23.setTop (mkF m 41 #[.val (.int p0), .val (.int (1 : Int32)), .val (.ref w_PROXY_SERVICE), .val (.ref w_CONNECTOR), .unset, .unset] [(.ref w_PROXY_SERVICE)]))
    obtain ⟨cq24, kq24, q24a, q24b, q24c⟩ := isOf hZ e23 EP
    obtain ⟨_, _, ⟨T24, L24, k24, n24⟩, -, X24, ⟨Lc24, hQ24, l24, y24, z24⟩, st24⟩ := X23.virtualBack hx (y := (⟨"com/example/crossgate/crossgate/NodeRole", "peer", "()Lcom/example/crossgate/crossgate/NodeRole;"⟩ : MethodName)) (z := (⟨"com/example/crossgate/crossgate/NodeRole", "peer", "()Lcom/example/crossgate/crossgate/NodeRole;"⟩ : MethodName)) hown (mvT hZ (hw _ (List.mem_of_getElem? (i := 5) rfl))) (mvT hZ (hw _ (List.mem_of_getElem? (i := 6) rfl))) (notFace_of_selects (args := #[]) (mvT hZ (hw _ (List.mem_of_getElem? (i := 8) rfl)))) (mvT hZ (hw _ (List.mem_of_getElem? (i := 8) rfl))) (mvT hZ (hw _ (List.mem_of_getElem? (i := 7) rfl))) (by decide) (backOf (W := 0) (rm1r l Z _ hw [] w_PROXY_SERVICE w_CONNECTOR w_PROXY_SERVICE w_CONNECTOR h0 n0 Z0 S_CONNECTOR S_PROXY_SERVICE (if_neg hne)) hZ (hw _ (List.mem_of_getElem? (i := 9) rfl)) (hw _ (List.mem_of_getElem? (i := 1) rfl)) (by decide) (by decide)) q24a q24c (g := (mkF m 41 #[.val (.int p0), .val (.int (1 : Int32)), .val (.ref w_PROXY_SERVICE), .val (.ref w_CONNECTOR), .unset, .unset] [(.ref w_PROXY_SERVICE)])) rfl (by rw [hml]; rfl) (Steps.refl _) (argsL := []) (rest := []) (lenOf pd_1 rfl) rfl (by show 2 * 0 + _ ≤ _; exact Nat.le_of_eq rfl) (hb hby at_41) (fun _ _ => ⟨rfl, e23, (by decide : 0 + 0 ≤ _), (by decide : 0 + 0 ≤ _)⟩)
    dsimp only [Pt.U, Pt.locs, Pt.cells, Pt.slots] at X24 l24 y24 z24 st24 hQ24
    subst l24 y24 z24
    obtain ⟨rfl, N24q, e24⟩ := hQ24
    have N24 := Fr.app N0 N24q
    refine own_st ?_ (fun t k => st24.trans k)
    show own_G p.tables e below _ _ (T24.setTop (mkF m 44 #[.val (.int p0), .val (.int (1 : Int32)), .val (.ref w_PROXY_SERVICE), .val (.ref w_CONNECTOR), .unset, .unset] [(.ref w_CONNECTOR)]))
    refine own_st ?_ (fun t k => XS.astore X24.here hx rfl (hb hby at_44) rfl rfl (l' := #[.val (.int p0), .val (.int (1 : Int32)), .val (.ref w_PROXY_SERVICE), .val (.ref w_CONNECTOR), .val (.ref w_CONNECTOR), .unset]) rfl k)
    show own_G p.tables e below _ _ (T24.setTop (mkF m 46 #[.val (.int p0), .val (.int (1 : Int32)), .val (.ref w_PROXY_SERVICE), .val (.ref w_CONNECTOR), .val (.ref w_CONNECTOR), .unset] []))
    refine own_st ?_ (fun t k => XS.aload X24.here hx rfl (hb hby at_46) rfl rfl k)
    show own_G p.tables e below _ _ (T24.setTop (mkF m 48 #[.val (.int p0), .val (.int (1 : Int32)), .val (.ref w_PROXY_SERVICE), .val (.ref w_CONNECTOR), .val (.ref w_CONNECTOR), .unset] [(.ref w_CONNECTOR)]))
    refine own_st ?_ (fun t k => XS.aloadN X24.here hx rfl (hb hby at_48) rfl rfl k)
    show own_G p.tables e below _ _ (T24.setTop (mkF m 49 #[.val (.int p0), .val (.int (1 : Int32)), .val (.ref w_PROXY_SERVICE), .val (.ref w_CONNECTOR), .val (.ref w_CONNECTOR), .unset] [(.ref w_CONNECTOR), (.ref w_CONNECTOR)]))
    refine own_st ?_ (fun t k => Jvm.RoadKit.acmp (g := (mkF m 49 #[.val (.int p0), .val (.int (1 : Int32)), .val (.ref w_PROXY_SERVICE), .val (.ref w_CONNECTOR), .val (.ref w_CONNECTOR), .unset] [(.ref w_CONNECTOR), (.ref w_CONNECTOR)])) X24 hx rfl rfl rfl (pc0 := 49) (pc' := 54) (same := true) rfl (hb hby at_49) rfl (decide_eq_true rfl) (by decide) (by decide) k)
    show own_G p.tables e below _ _ (T24.setTop (mkF m 54 #[.val (.int p0), .val (.int (1 : Int32)), .val (.ref w_PROXY_SERVICE), .val (.ref w_CONNECTOR), .val (.ref w_CONNECTOR), .unset] []))
    refine own_st ?_ (fun t k => XS.aload X24.here hx rfl (hb hby at_54) rfl rfl k)
    show own_G p.tables e below _ _ (T24.setTop (mkF m 56 #[.val (.int p0), .val (.int (1 : Int32)), .val (.ref w_PROXY_SERVICE), .val (.ref w_CONNECTOR), .val (.ref w_CONNECTOR), .unset] [(.ref w_CONNECTOR)]))
    refine own_st ?_ (fun t k => XS.aloadN X24.here hx rfl (hb hby at_56) rfl rfl k)
    show own_G p.tables e below _ _ (T24.setTop (mkF m 57 #[.val (.int p0), .val (.int (1 : Int32)), .val (.ref w_PROXY_SERVICE), .val (.ref w_CONNECTOR), .val (.ref w_CONNECTOR), .unset] [(.ref w_PROXY_SERVICE), (.ref w_CONNECTOR)]))
    refine own_st ?_ (fun t k => Jvm.RoadKit.acmp (g := (mkF m 57 #[.val (.int p0), .val (.int (1 : Int32)), .val (.ref w_PROXY_SERVICE), .val (.ref w_CONNECTOR), .val (.ref w_CONNECTOR), .unset] [(.ref w_PROXY_SERVICE), (.ref w_CONNECTOR)])) X24 hx rfl rfl rfl (pc0 := 57) (pc' := 62) (same := false) rfl (hb hby at_57) rfl (decide_eq_false fun q => (Ne.symm hne) (Value.ref.inj q)) (by decide) (by decide) k)
    show own_G p.tables e below _ _ (T24.setTop (mkF m 62 #[.val (.int p0), .val (.int (1 : Int32)), .val (.ref w_PROXY_SERVICE), .val (.ref w_CONNECTOR), .val (.ref w_CONNECTOR), .unset] []))
    refine own_st ?_ (fun t k => XS.aload X24.here hx rfl (hb hby at_62) rfl rfl k)
    show own_G p.tables e below _ _ (T24.setTop (mkF m 64 #[.val (.int p0), .val (.int (1 : Int32)), .val (.ref w_PROXY_SERVICE), .val (.ref w_CONNECTOR), .val (.ref w_CONNECTOR), .unset] [(.ref w_CONNECTOR)]))
    obtain ⟨cq25, kq25, q25a, q25b, q25c⟩ := isOf hZ e24 EC
    obtain ⟨_, _, ⟨T25, L25, k25, n25⟩, -, X25, ⟨Lc25, hQ25, l25, y25, z25⟩, st25⟩ := X24.virtualBack hx (y := (⟨"com/example/crossgate/crossgate/NodeRole", "peer", "()Lcom/example/crossgate/crossgate/NodeRole;"⟩ : MethodName)) (z := (⟨"com/example/crossgate/crossgate/NodeRole", "peer", "()Lcom/example/crossgate/crossgate/NodeRole;"⟩ : MethodName)) hown (mvT hZ (hw _ (List.mem_of_getElem? (i := 5) rfl))) (mvT hZ (hw _ (List.mem_of_getElem? (i := 6) rfl))) (notFace_of_selects (args := #[]) (mvT hZ (hw _ (List.mem_of_getElem? (i := 8) rfl)))) (mvT hZ (hw _ (List.mem_of_getElem? (i := 8) rfl))) (mvT hZ (hw _ (List.mem_of_getElem? (i := 7) rfl))) (by decide) (backOf (W := 0) (rm1r l Z _ hw [] w_CONNECTOR w_CONNECTOR w_PROXY_SERVICE w_PROXY_SERVICE h0 n0 Z0 S_CONNECTOR S_PROXY_SERVICE (if_pos rfl)) hZ (hw _ (List.mem_of_getElem? (i := 9) rfl)) (hw _ (List.mem_of_getElem? (i := 1) rfl)) (by decide) (by decide)) q25a q25c (g := (mkF m 64 #[.val (.int p0), .val (.int (1 : Int32)), .val (.ref w_PROXY_SERVICE), .val (.ref w_CONNECTOR), .val (.ref w_CONNECTOR), .unset] [(.ref w_CONNECTOR)])) rfl (by rw [hml]; rfl) (Steps.refl _) (argsL := []) (rest := []) (lenOf pd_1 rfl) rfl (by show 2 * 0 + _ ≤ _; exact Nat.le_of_eq rfl) (hb hby at_64) (fun _ _ => ⟨rfl, e24, (by decide : 0 + 0 ≤ _), (by decide : 0 + 0 ≤ _)⟩)
    dsimp only [Pt.U, Pt.locs, Pt.cells, Pt.slots] at X25 l25 y25 z25 st25 hQ25
    subst l25 y25 z25
    obtain ⟨rfl, N25q, e25⟩ := hQ25
    have N25 := Fr.app N24 N25q
    refine own_st ?_ (fun t k => st25.trans k)
    show own_G p.tables e below _ _ (T25.setTop (mkF m 67 #[.val (.int p0), .val (.int (1 : Int32)), .val (.ref w_PROXY_SERVICE), .val (.ref w_CONNECTOR), .val (.ref w_CONNECTOR), .unset] [(.ref w_PROXY_SERVICE)]))
    refine own_st ?_ (fun t k => XS.aloadN X25.here hx rfl (hb hby at_67) rfl rfl k)
    show own_G p.tables e below _ _ (T25.setTop (mkF m 68 #[.val (.int p0), .val (.int (1 : Int32)), .val (.ref w_PROXY_SERVICE), .val (.ref w_CONNECTOR), .val (.ref w_CONNECTOR), .unset] [(.ref w_PROXY_SERVICE), (.ref w_PROXY_SERVICE)]))
    refine own_st ?_ (fun t k => Jvm.RoadKit.acmp (g := (mkF m 68 #[.val (.int p0), .val (.int (1 : Int32)), .val (.ref w_PROXY_SERVICE), .val (.ref w_CONNECTOR), .val (.ref w_CONNECTOR), .unset] [(.ref w_PROXY_SERVICE), (.ref w_PROXY_SERVICE)])) X25 hx rfl rfl rfl (pc0 := 68) (pc' := 73) (same := true) rfl (hb hby at_68) rfl (decide_eq_true rfl) (by decide) (by decide) k)
    show own_G p.tables e below _ _ (T25.setTop (mkF m 73 #[.val (.int p0), .val (.int (1 : Int32)), .val (.ref w_PROXY_SERVICE), .val (.ref w_CONNECTOR), .val (.ref w_CONNECTOR), .unset] []))
    refine own_st ?_ (fun t k => XS.iloadN X25.here hx rfl (hb hby at_73) rfl k)
    show own_G p.tables e below _ _ (T25.setTop (mkF m 74 #[.val (.int p0), .val (.int (1 : Int32)), .val (.ref w_PROXY_SERVICE), .val (.ref w_CONNECTOR), .val (.ref w_CONNECTOR), .unset] [(.int (1 : Int32))]))
    refine own_st ?_ (fun t k => XS.ifNo X25.here hx rfl (hb hby at_74) rfl ((if0 _ _).trans (feq (by decide : ¬ ((1 : Int32) = (0 : Int32)))).1) k)
    show own_G p.tables e below _ _ (T25.setTop (mkF m 77 #[.val (.int p0), .val (.int (1 : Int32)), .val (.ref w_PROXY_SERVICE), .val (.ref w_CONNECTOR), .val (.ref w_CONNECTOR), .unset] []))
    obtain ⟨b26, T26, h26, kq26, c26, kk26, X26, e26, E26, hS26, hk26, hZ26, hown26, Es26, Fc26, Fv26, Va26, -, -, I26, st26⟩ := ldcSV X25 hx hZ hown (hw _ (List.mem_of_getElem? (i := 41) rfl)) (fun a ha => hw a (own_strs a ha)) e25 hS0 hk0 (own_frs N25 hn0 hh) hkeep I0 (by decide +kernel) hh20 hcw own_ht41 (by decide) own_hl41 (g := (mkF m 77 #[.val (.int p0), .val (.int (1 : Int32)), .val (.ref w_PROXY_SERVICE), .val (.ref w_CONNECTOR), .val (.ref w_CONNECTOR), .unset] [])) rfl (hb hby at_77) (n := 36) (by decide +kernel) (by decide) (by decide) (by decide)
    have F27_COMPACT_STRINGS : Sta Z h26 "java/lang/String" "COMPACT_STRINGS" "Z" (.int z1) := S1.ext E26
    have F28_E : Exa Z h26 w_CONNECTOR "com/example/crossgate/crossgate/NodeRole" := EC.ext E26
    have F29_prefix : Fld Z h26 w_CONNECTOR "com/example/crossgate/crossgate/NodeRole" "prefix" "Ljava/lang/String;" (.ref sC) := FpC.ext E26
    have F30_E : Exa Z h26 sC "java/lang/String" := EsC.ext E26
    have F31_coder : Fld Z h26 sC "java/lang/String" "coder" "B" (.int (0 : Int32)) := FcC.ext E26
    have F32_value : Fld Z h26 sC "java/lang/String" "value" "[B" (.ref tC) := FvC.ext E26
    have F33_P : own_C Z h26 tC 9 (own_g 41) := own_C_ext VC E26
    have F34_E : Exa Z h26 w_PROXY_SERVICE "com/example/crossgate/crossgate/NodeRole" := EP.ext E26
    have F35_prefix : Fld Z h26 w_PROXY_SERVICE "com/example/crossgate/crossgate/NodeRole" "prefix" "Ljava/lang/String;" (.ref sP) := FpP.ext E26
    have F36_E : Exa Z h26 sP "java/lang/String" := EsP.ext E26
    have F37_coder : Fld Z h26 sP "java/lang/String" "coder" "B" (.int (0 : Int32)) := FcP.ext E26
    have F38_value : Fld Z h26 sP "java/lang/String" "value" "[B" (.ref tP) := FvP.ext E26
    have F39_P : own_C Z h26 tP 7 (own_g 12) := own_C_ext VP E26
    have Zs40 : n0 ≤ h26.size := Nat.le_trans Z0 E26.1
    have hZ := hZ26
    have hown := hown26
    have Vc26 : own_C Z h26 c26 9 (own_g 41) := own_C_of Va26 (by decide)
    refine own_st ?_ st26
    show own_G p.tables e below _ _ (T26.setTop (mkF m 79 #[.val (.int p0), .val (.int (1 : Int32)), .val (.ref w_PROXY_SERVICE), .val (.ref w_CONNECTOR), .val (.ref w_CONNECTOR), .unset] [(.ref b26)]))
    refine own_st ?_ (fun t k => XS.goto X26.here hx rfl (pc0 := 79) (pc' := 84) rfl (hb hby at_79) (by decide) (by decide) k)
    show own_G p.tables e below _ _ (T26.setTop (mkF m 84 #[.val (.int p0), .val (.int (1 : Int32)), .val (.ref w_PROXY_SERVICE), .val (.ref w_CONNECTOR), .val (.ref w_CONNECTOR), .unset] [(.ref b26)]))
    refine own_st ?_ (fun t k => XS.astore X26.here hx rfl (hb hby at_84) rfl rfl (l' := #[.val (.int p0), .val (.int (1 : Int32)), .val (.ref w_PROXY_SERVICE), .val (.ref w_CONNECTOR), .val (.ref w_CONNECTOR), .val (.ref b26)]) rfl k)
    show own_G p.tables e below _ _ (T26.setTop (mkF m 86 #[.val (.int p0), .val (.int (1 : Int32)), .val (.ref w_PROXY_SERVICE), .val (.ref w_CONNECTOR), .val (.ref w_CONNECTOR), .val (.ref b26)] []))
    refine own_st ?_ (fun t k => XS.aload X26.here hx rfl (hb hby at_86) rfl rfl k)
    show own_G p.tables e below _ _ (T26.setTop (mkF m 88 #[.val (.int p0), .val (.int (1 : Int32)), .val (.ref w_PROXY_SERVICE), .val (.ref w_CONNECTOR), .val (.ref w_CONNECTOR), .val (.ref b26)] [(.ref w_CONNECTOR)]))
    obtain ⟨cq41, kq41, q41a, q41b, q41c⟩ := isOf hZ e26 F28_E
    obtain ⟨_, _, ⟨T41, L41, k41, n41⟩, -, X41, ⟨Lc41, hQ41, l41, y41, z41⟩, st41⟩ := X26.virtualBack hx (y := (⟨"com/example/crossgate/crossgate/NodeRole", "prefix", "()Ljava/lang/String;"⟩ : MethodName)) (z := (⟨"com/example/crossgate/crossgate/NodeRole", "prefix", "()Ljava/lang/String;"⟩ : MethodName)) hown (mvT hZ (hw _ (List.mem_of_getElem? (i := 20) rfl))) (mvT hZ (hw _ (List.mem_of_getElem? (i := 21) rfl))) (notFace_of_selects (args := #[]) (mvT hZ (hw _ (List.mem_of_getElem? (i := 23) rfl)))) (mvT hZ (hw _ (List.mem_of_getElem? (i := 23) rfl))) (mvT hZ (hw _ (List.mem_of_getElem? (i := 22) rfl))) (by decide) (backOf (W := 0) (rm2 l Z _ hw [] w_CONNECTOR sC h26 n0 Zs40 F29_prefix) hZ (hw _ (List.mem_of_getElem? (i := 24) rfl)) (hw _ (List.mem_of_getElem? (i := 1) rfl)) (by decide) (by decide)) q41a q41c (g := (mkF m 88 #[.val (.int p0), .val (.int (1 : Int32)), .val (.ref w_PROXY_SERVICE), .val (.ref w_CONNECTOR), .val (.ref w_CONNECTOR), .val (.ref b26)] [(.ref w_CONNECTOR)])) rfl (by rw [hml]; rfl) (Steps.refl _) (argsL := []) (rest := []) (lenOf pd_2 rfl) rfl (by show 2 * 0 + _ ≤ _; exact Nat.le_of_eq rfl) (hb hby at_88) (fun _ _ => ⟨rfl, e26, (by decide : 2 + 0 ≤ _), (by decide : 40 + 0 ≤ _)⟩)
    dsimp only [Pt.U, Pt.locs, Pt.cells, Pt.slots] at X41 l41 y41 z41 st41 hQ41
    subst l41 y41 z41
    obtain ⟨rfl, N41q, e41⟩ := hQ41
    have N41 := Fr.app N25 N41q
    refine own_st ?_ (fun t k => st41.trans k)
    show own_G p.tables e below _ _ (T41.setTop (mkF m 91 #[.val (.int p0), .val (.int (1 : Int32)), .val (.ref w_PROXY_SERVICE), .val (.ref w_CONNECTOR), .val (.ref w_CONNECTOR), .val (.ref b26)] [(.ref sC)]))
    refine own_st ?_ (fun t k => XS.aload X41.here hx rfl (hb hby at_91) rfl rfl k)
    show own_G p.tables e below _ _ (T41.setTop (mkF m 93 #[.val (.int p0), .val (.int (1 : Int32)), .val (.ref w_PROXY_SERVICE), .val (.ref w_CONNECTOR), .val (.ref w_CONNECTOR), .val (.ref b26)] [(.ref b26), (.ref sC)]))
    obtain ⟨cq42, kq42, q42a, q42b, q42c⟩ := isOf hZ e41 F30_E
    obtain ⟨_, _, ⟨T42, L42, k42, n42⟩, -, X42, ⟨Lc42, hQ42, l42, y42, z42⟩, st42⟩ := X41.virtualBack hx (y := (⟨"java/lang/String", "equals", "(Ljava/lang/Object;)Z"⟩ : MethodName)) (z := (⟨"java/lang/String", "equals", "(Ljava/lang/Object;)Z"⟩ : MethodName)) hown (mvT hZ (hw _ (List.mem_of_getElem? (i := 27) rfl))) (mvT hZ (hw _ (List.mem_of_getElem? (i := 28) rfl))) (notFace_of_selects (args := #[]) (mvT hZ (hw _ (List.mem_of_getElem? (i := 30) rfl)))) (mvT hZ (hw _ (List.mem_of_getElem? (i := 30) rfl))) (mvT hZ (hw _ (List.mem_of_getElem? (i := 29) rfl))) (by decide) (backOf (W := 0) (rm3 l Z _ hw [] sC b26 z1 tC c26 9 (own_g 41) h26 n0 Zs40 F27_COMPACT_STRINGS F30_E F31_coder F32_value F33_P Es26 Fc26 Fv26 Vc26 hz1 (by decide)) hZ (hw _ (List.mem_of_getElem? (i := 31) rfl)) (hw _ (List.mem_of_getElem? (i := 13) rfl)) (by decide) (by decide)) q42a q42c (g := (mkF m 93 #[.val (.int p0), .val (.int (1 : Int32)), .val (.ref w_PROXY_SERVICE), .val (.ref w_CONNECTOR), .val (.ref w_CONNECTOR), .val (.ref b26)] [(.ref b26), (.ref sC)])) rfl (by rw [hml]; rfl) (Steps.refl _) (argsL := [(.ref b26)]) (rest := []) (lenOf pd_3 rfl) rfl (by show 2 * 0 + _ ≤ _; exact Nat.le_of_eq rfl) (hb hby at_93) (fun _ _ => ⟨rfl, e41, (by decide : 2 + 0 ≤ _), (by decide : 40 + 0 ≤ _)⟩)
    dsimp only [Pt.U, Pt.locs, Pt.cells, Pt.slots] at X42 l42 y42 z42 st42 hQ42
    subst l42 y42 z42
    obtain ⟨rfl, N42q, e42⟩ := hQ42
    have N42 := Fr.app N41 N42q
    refine own_st ?_ (fun t k => st42.trans k)
    show own_G p.tables e below _ _ (T42.setTop (mkF m 96 #[.val (.int p0), .val (.int (1 : Int32)), .val (.ref w_PROXY_SERVICE), .val (.ref w_CONNECTOR), .val (.ref w_CONNECTOR), .val (.ref b26)] [(.int (1 : Int32))]))
    exact own_retNW X42 hx hlk hS26 (by rw [e42]; exact hk26) (t := .boolean) hret (by simp) (hb hby at_96) (by decide) (by decide) (z' := (1 : Int32)) rfl ⟨rfl, N42⟩
theorem own_fref {args : Array Value} {s : State} {t : Term} {D n d : String} {w a : Addr} (ev : t.eval args s none [] s = some (.ref w)) (h : (Term.field t D n d).eval args s none [] s = some (.ref a)) : Fld s s.heap w D n d (.ref a) := Fld.start (by rw [← fld_at (C := D) (n := n) (dd := d) ev]; exact h)
theorem own_len {args : Array Value} {s : State} {t : Term} {a : Addr} {cl : Cell} {ty : FieldType} {k : Int32} (h : (Jvm.Cond.eq (.length t) (.int k)).value args s none s [] = some true) (ev : t.eval args s none [] s = some (.ref a)) (A : Arr s s.heap a cl ty) : cl.slots.size = k.toNatClampNeg ∧ ¬ k < 0 := by
  have ha : s.arrayAt? a = some cl := A.fin (Vm.Alike.refl _)
  obtain ⟨x, y, e1, e2, -, -⟩ := cmp_v (Or.inl h)
  by_cases hl : cl.slots.size < 2 ^ 31
  · have e3 := len_f (t := t) ev ha hl
    have hk : cl.slots.size.toInt32 = k := by
      have q := h
      simp only [Jvm.Cond.value, e3] at q
      simpa [Term.eval] using q
    have e0 : (0 : Int32).toInt = 0 := by decide
    refine ⟨by rw [← hk, Int32.toNatClampNeg, len_toInt hl]; rfl, ?_⟩
    rw [← hk, Int32.lt_iff_toInt_lt, len_toInt hl, e0]; omega
  · simp [Term.eval, ev, ha, hl] at e1
theorem own_elem {args : Array Value} {s : State} {t : Term} {a : Addr} {cl : Cell} {ty : FieldType} {j v : Int32} (h : (Jvm.Cond.eq (.elem t (.int j)) (.int v)).value args s none s [] = some true) (ev : t.eval args s none [] s = some (.ref a)) (A : Arr s s.heap a cl ty) : cl.slots[j.toNatClampNeg]? = some (.int v) := by
  obtain ⟨x, y, e1, e2, -, -⟩ := cmp_v (Or.inl h)
  have e3 := (elem_in e1 ev (j := j) rfl A.1).2
  have q := h
  have e4 : (Term.int v).eval args s none [] s = some (.int v) := rfl
  simp only [Jvm.Cond.value, e1, e4] at q
  rw [e3]
  cases x with
  | int w => simp at q; rw [q]
  | _ => simp at q
set_option maxRecDepth 65536 in
set_option maxHeartbeats 40000000 in
theorem comes_1 {Post : Tables → Env → Array Value → State → Outcome → State → Prop} (hpost : ∀ tb e args s v u, (limb_1_1.after args s (.returned v) u = true ∧ limb_1_2.after args s (.returned v) u = true ∧ True) → ReturnedEndW s (.returned v) u (Jvm.fieldLocs frame_1_writes args s ++ Jvm.arrayLocs frame_1_arrays args s ++ Jvm.staticLocs frame_1_statics s) 8 2112 → Post tb e args s (.returned v) u) :
    ArmFor flags0 classFile x code maxLocals ret World_1 tables_1 room_1 Calls_1 rest_1 Pre_1 Post := by
  intro l hfl _ _ p e ha hc hk s m args below hf hA hF happ hP
  obtain ⟨hcalls, hrest, hpre⟩ := hP
  obtain ⟨-, -, -, hnamed, -, -, -, hat⟩ := (Spec.applies_iff hf).mp happ
  obtain ⟨hg, hn⟩ := and_e (Cond.before_iff.mp (show (Jvm.Cond.and given_1 narrow_1).before args s = true from hpre))
  obtain ⟨hcount, hgs0⟩ := and_e hg
  obtain ⟨w0, rfl⟩ : ∃ w0 : Value, args = #[w0] := by
    have hs : args.size = 1 := by simpa [Cond.value, given_1] using hcount
    obtain ⟨L⟩ := args
    match L, hs with
    | [w0], _ => exact ⟨w0, rfl⟩
  have hw := fun d (hd : d ∈ tables_1) => atoms_spec (ws := Jvm.Cond.code x code maxLocals ret :: tables_1) hat d (List.mem_cons_of_mem _ hd)
  have hv0 := hgs0
  obtain ⟨i0, ei0⟩ := is_v hv0
  obtain rfl : w0 = (.int i0) := Option.some.inj ei0
  obtain ⟨hsets, hown0⟩ := atoms_of _ (rest_1_c_eq ▸ (show rest_1_c.before _ s = true from hrest))
  obtain ⟨z1, ez1⟩ := is_v (Cond.before_iff.mp (hsets _ (List.mem_of_getElem? (i := 1) rfl)))
  have S1 := Sta.start ez1 (Or.inl (hsets _ (List.mem_of_getElem? (i := 0) rfl)))
  have hcw : Jvm.Lit.compactW.before #[.int i0] s = true := hsets _ (List.mem_of_getElem? (i := 2) rfl)
  have hz1 : ¬ z1 = 0 := own_nz ez1 hcw
  have m0 := hn
  obtain ⟨c0, m1⟩ := and_e m0
  obtain ⟨c1, m2⟩ := and_e m1
  obtain ⟨c2, m3⟩ := and_e m2
  obtain ⟨c3, m4⟩ := and_e m3
  obtain ⟨c4, m5⟩ := and_e m4
  obtain ⟨c5, m6⟩ := and_e m5
  obtain ⟨c6, m7⟩ := and_e m6
  obtain ⟨c7, m8⟩ := and_e m7
  obtain ⟨c8, m9⟩ := and_e m8
  obtain ⟨c9, m10⟩ := and_e m9
  obtain ⟨c10, m11⟩ := and_e m10
  obtain ⟨c11, m12⟩ := and_e m11
  obtain ⟨c12, m13⟩ := and_e m12
  obtain ⟨c13, m14⟩ := and_e m13
  obtain ⟨c14, m15⟩ := and_e m14
  obtain ⟨c15, m16⟩ := and_e m15
  obtain ⟨c16, m17⟩ := and_e m16
  obtain ⟨c17, m18⟩ := and_e m17
  obtain ⟨c18, m19⟩ := and_e m18
  obtain ⟨c19, m20⟩ := and_e m19
  obtain ⟨c20, m21⟩ := and_e m20
  obtain ⟨c21, m22⟩ := and_e m21
  obtain ⟨c22, m23⟩ := and_e m22
  obtain ⟨c23, m24⟩ := and_e m23
  obtain ⟨c24, m25⟩ := and_e m24
  obtain ⟨c25, m26⟩ := and_e m25
  obtain ⟨c26, m27⟩ := and_e m26
  have c27 := m27
  obtain ⟨w_CONNECTOR, vC⟩ := exa_v c0
  have EC := Exa.start vC c0
  have S_CONNECTOR := Sta.start vC (Or.inr ⟨(hw _ (List.mem_of_getElem? (i := 1) rfl)), (hw _ (List.mem_of_getElem? (i := 2) rfl))⟩)
  obtain ⟨sC, vsC⟩ := exa_v c8
  have EsC := Exa.start vsC c8
  have FpC := own_fref vC vsC
  have FcC := own_eqf c9 vsC
  obtain ⟨tC, vtC⟩ := arr_v c10
  obtain ⟨clC, ArC⟩ := Arr.start vtC c10
  have FvC := own_fref vsC vtC
  have LC := own_len c11 vtC ArC
  have VC : own_C s s.heap tC 9 (own_g 41) := by
    refine ⟨clC, ArC, LC.1, fun i hi => ?_⟩
    have hc : i = 0 ∨ i = 1 ∨ i = 2 ∨ i = 3 ∨ i = 4 ∨ i = 5 ∨ i = 6 ∨ i = 7 ∨ i = 8 := by omega
    rcases hc with rfl | rfl | rfl | rfl | rfl | rfl | rfl | rfl | rfl
    · exact own_elem c19 vtC ArC
    · exact own_elem c20 vtC ArC
    · exact own_elem c21 vtC ArC
    · exact own_elem c22 vtC ArC
    · exact own_elem c23 vtC ArC
    · exact own_elem c24 vtC ArC
    · exact own_elem c25 vtC ArC
    · exact own_elem c26 vtC ArC
    · exact own_elem c27 vtC ArC
  have OC := own_eqf c3 vC
  obtain ⟨w_PROXY_SERVICE, vP⟩ := exa_v c1
  have EP := Exa.start vP c1
  have S_PROXY_SERVICE := Sta.start vP (Or.inr ⟨(hw _ (List.mem_of_getElem? (i := 1) rfl)), (hw _ (List.mem_of_getElem? (i := 4) rfl))⟩)
  obtain ⟨sP, vsP⟩ := exa_v c4
  have EsP := Exa.start vsP c4
  have FpP := own_fref vP vsP
  have FcP := own_eqf c5 vsP
  obtain ⟨tP, vtP⟩ := arr_v c6
  obtain ⟨clP, ArP⟩ := Arr.start vtP c6
  have FvP := own_fref vsP vtP
  have LP := own_len c7 vtP ArP
  have VP : own_C s s.heap tP 7 (own_g 12) := by
    refine ⟨clP, ArP, LP.1, fun i hi => ?_⟩
    have hc : i = 0 ∨ i = 1 ∨ i = 2 ∨ i = 3 ∨ i = 4 ∨ i = 5 ∨ i = 6 := by omega
    rcases hc with rfl | rfl | rfl | rfl | rfl | rfl | rfl
    · exact own_elem c12 vtP ArP
    · exact own_elem c13 vtP ArP
    · exact own_elem c14 vtP ArP
    · exact own_elem c15 vtP ArP
    · exact own_elem c16 vtP ArP
    · exact own_elem c17 vtP ArP
    · exact own_elem c18 vtP ArP
  have OP := own_eqf c2 vP
  have hne : ¬ w_PROXY_SERVICE = w_CONNECTOR := Fld.ne OP OC (by decide)
  obtain ⟨n, o, h1, h2, h3, _, L, rfl, ⟨rfl, N⟩, hq⟩ := rm0 l s _ hw tables_1 i0 z1 sC tC sP tP w_CONNECTOR w_PROXY_SERVICE s.heap s.heap.size (Nat.le_refl _) S1 EC FpC EsC FcC FvC VC EP FpP EsP FcP FvP VP hz1 hne rfl rfl hcw (hcalls.1 ("com/example/crossgate/crossgate/NodeRolePeerPinLaw", 20) (by decide)) (hcalls.1 ("com/example/crossgate/crossgate/NodeRolePeerPinLaw", 22) (by decide)) S_CONNECTOR S_PROXY_SERVICE p e ha hc hk s m _ below hf ((Spec.applies_iff_loose hf).mp happ).1 ⟨rfl, State.Warmed39.refl s, rfl, rfl⟩ trivial
  skip
  refine ⟨n, _, h1, h2, h3, hpost _ _ _ _ _ _ ⟨Cond.after_iff.mpr rfl, Cond.after_iff.mpr (eq_i res_at (Term.int_eval (1)) rfl), trivial⟩ ⟨⟨_, rfl⟩, hq.2.1, hq.2.2.1, (hq.2.2.2.sift fun y hy => Or.inr (N y hy)).mono (by decide) (by decide)⟩⟩
theorem main_1_1 : Claimed_1_1 := comes_1 fun _ _ _ _ _ _ h hF => ⟨h.1, hF⟩
theorem main_1_2 : Claimed_1_2 := comes_1 fun _ _ _ _ _ _ h hF => ⟨h.2.1, hF⟩
end Jvm.Pilot.@@N@@
namespace Jvm.Pilot.@@N@@
open Jvm Jvm.ClassFile Sem Op Lib Jvm.Free Jvm.Stand Jvm.Pilot.@@N@@.Jvm.D
/-! MADE BY PROGRAM (witnessworld.py) out of the Statement's table words and the real class files: 18 classes; the members and pool entries that the words name. The judged class is class 1, her method 1. -/
namespace start1
open Jvm.ClassFile
def u (s : String) : CpInfo := .utf8 (stringToUtf16 s)
/-- a pool by its gaps: so many unusable entries, then the entry; so many at the end -/
def gap : Nat → List CpInfo → List CpInfo
  | 0, r => r
  | n + 1, r => .unusable :: gap n r
def poolList (es : List (Nat × CpInfo)) (last : Nat) : List CpInfo := es.foldr (fun e r => gap e.1 (e.2 :: r)) (gap last [])
def pool (es : List (Nat × CpInfo)) (last : Nat) : Array CpInfo := ⟨poolList es last⟩
def fileOf (pool : Array CpInfo) (this : Nat) (attrs : Array Attribute := #[]) (ms : Array MethodInfo := #[]) (fl : Nat := 33) (sup : Nat := 0) (ifs : Array Nat := #[]) (fds : Array FieldInfo := #[]) : ClassFile where
  minorVersion := 0
  majorVersion := 65
  constantPool := pool
  accessFlags := fl
  thisClass := this
  superClass := sup
  interfaces := ifs
  fields := fds
  methods := ms
  attributes := attrs
def plain (name : String) (sup : Option ClassId) : Class where
  name := name
  kind := .ordinary
  loader := none
  accessFlags := 33
  super := sup
  interfaces := #[]
  cf := none
  fields := #[]
  methods := #[]
  instanceTypes := #[]
  staticTypes := #[]
  resolved := #[]
  callSites := []
  init := .initialized
  statics := none
  mirror := none

def pool0 : Array CpInfo := pool [(5, u "<init>"), (0, u "()V"), (1, .class_ 10), (1, u "java/lang/Object")] 113

def k0m0 : Method := { name := "<init>", desc := "()V", sig := { parameters := [], returnType := none }, accessFlags := 1, code := none }
/-- java/lang/Object -/
def k0 : Class := { plain "java/lang/Object" none with
  accessFlags := 33
  interfaces := #[]
  cf := some (fileOf pool0 8 #[] #[{ accessFlags := 1, nameIndex := 5, descriptorIndex := 6, attributes := #[] }] 33 0 #[] #[])
  fields := #[]
  methods := #[k0m0]
  instanceTypes := #[]
  staticTypes := #[]
  resolved := Array.replicate 124 none
  statics := none }

def pool1 : Array CpInfo := pool [(2, .class_ 4), (1, u "java/lang/Object"), (0, u "<init>"), (0, u "()V"), (0, .fieldref 8 9), (0, .class_ 10), (0, .nameAndType 11 12), (0, u "com/example/crossgate/crossgate/NodeRole"), (0, u "PROXY_SERVICE"), (0, u "Lcom/example/crossgate/crossgate/NodeRole;"), (0, .fieldref 8 14), (0, .nameAndType 15 12), (0, u "CONNECTOR"), (0, .methodref 8 17), (0, .nameAndType 18 19), (0, u "peer"), (0, u "()Lcom/example/crossgate/crossgate/NodeRole;"), (0, .string 21), (0, u "connector"), (0, .string 23), (0, u "service"), (0, .methodref 8 25), (0, .nameAndType 26 27), (0, u "prefix"), (0, u "()Ljava/lang/String;"), (0, .methodref 29 30), (0, .class_ 31), (0, .nameAndType 32 33), (0, u "java/lang/String"), (0, u "equals"), (0, u "(Ljava/lang/Object;)Z"), (0, .class_ 35), (0, u "com/example/crossgate/crossgate/NodeRolePeerPinLaw"), (2, u "law"), (0, u "(I)Z")] 3

def k1m0 : Method := { name := "<init>", desc := "()V", sig := { parameters := [], returnType := none }, accessFlags := 2, code := none }
def k1c1 : Code := { maxStack := 2, maxLocals := 6, code := code, exceptionTable := #[], attributes := #[] }
def k1m1 : Method := { name := "law", desc := "(I)Z", sig := { parameters := [.int], returnType := some .boolean }, accessFlags := 9, code := some k1c1 }
/-- com/example/crossgate/crossgate/NodeRolePeerPinLaw -/
def k1 : Class := { plain "com/example/crossgate/crossgate/NodeRolePeerPinLaw" (some 0) with
  accessFlags := 49
  interfaces := #[]
  cf := some (fileOf pool1 34 #[] #[{ accessFlags := 2, nameIndex := 5, descriptorIndex := 6, attributes := #[] }, { accessFlags := 9, nameIndex := 38, descriptorIndex := 39, attributes := #[] }] 49 2 #[] #[])
  fields := #[]
  methods := #[k1m0, k1m1]
  instanceTypes := #[]
  staticTypes := #[]
  resolved := Array.replicate 43 none
  statics := none }

def pool2 : Array CpInfo := pool [(1, .class_ 2), (0, u "java/lang/constant/Constable"), (0, .class_ 4), (0, u "java/lang/Object")] 6

/-- java/lang/constant/Constable -/
def k2 : Class := { plain "java/lang/constant/Constable" (some 0) with
  accessFlags := 1537
  interfaces := #[]
  cf := some (fileOf pool2 1 #[] #[] 1537 3 #[] #[])
  fields := #[]
  methods := #[]
  instanceTypes := #[]
  staticTypes := #[]
  resolved := Array.replicate 11 none
  statics := none }

def pool3 : Array CpInfo := pool [(1, .class_ 2), (0, u "java/lang/Comparable"), (0, .class_ 4), (0, u "java/lang/Object")] 7

/-- java/lang/Comparable -/
def k3 : Class := { plain "java/lang/Comparable" (some 0) with
  accessFlags := 1537
  interfaces := #[]
  cf := some (fileOf pool3 1 #[] #[] 1537 3 #[] #[])
  fields := #[]
  methods := #[]
  instanceTypes := #[]
  staticTypes := #[]
  resolved := Array.replicate 12 none
  statics := none }

def pool4 : Array CpInfo := pool [(1, .class_ 2), (0, u "java/io/Serializable"), (0, .class_ 4), (0, u "java/lang/Object")] 2

/-- java/io/Serializable -/
def k4 : Class := { plain "java/io/Serializable" (some 0) with
  accessFlags := 1537
  interfaces := #[]
  cf := some (fileOf pool4 1 #[] #[] 1537 3 #[] #[])
  fields := #[]
  methods := #[]
  instanceTypes := #[]
  staticTypes := #[]
  resolved := Array.replicate 7 none
  statics := none }

def pool5 : Array CpInfo := pool [(2, .class_ 4), (1, u "java/lang/Enum"), (0, u "name"), (0, u "Ljava/lang/String;"), (2, u "ordinal"), (0, u "I"), (1, .class_ 14), (1, u "java/lang/Object"), (4, u "hash"), (86, .class_ 108), (1, u "java/lang/Enum$EnumDesc"), (2, .class_ 112), (0, u "java/lang/constant/Constable"), (0, .class_ 114), (0, u "java/lang/Comparable"), (0, .class_ 116), (0, u "java/io/Serializable")] 87

/-- java/lang/Enum -/
def k5 : Class := { plain "java/lang/Enum" (some 0) with
  accessFlags := 1057
  interfaces := #[2, 3, 4]
  cf := some (fileOf pool5 2 #[.nestMembers #[106]] #[] 1057 12 #[111, 113, 115] #[{ accessFlags := 18, nameIndex := 5, descriptorIndex := 6, attributes := #[] }, { accessFlags := 18, nameIndex := 9, descriptorIndex := 10, attributes := #[] }, { accessFlags := 2, nameIndex := 19, descriptorIndex := 10, attributes := #[] }])
  fields := #[{ name := "name", type := (.object "java/lang/String"), accessFlags := 18, slot := 0, constantValue := 0 }, { name := "ordinal", type := .int, accessFlags := 18, slot := 1, constantValue := 0 }, { name := "hash", type := .int, accessFlags := 2, slot := 2, constantValue := 0 }]
  methods := #[]
  instanceTypes := #[(.object "java/lang/String"), .int, .int]
  staticTypes := #[]
  resolved := Array.replicate 204 none
  statics := none }

def pool6 : Array CpInfo := pool [(1, .class_ 2), (0, u "com/example/crossgate/crossgate/NodeRole"), (0, .fieldref 1 4), (0, .nameAndType 5 6), (0, u "CONNECTOR"), (0, u "Lcom/example/crossgate/crossgate/NodeRole;"), (0, .fieldref 1 8), (0, .nameAndType 9 6), (0, u "PROXY_SERVICE"), (2, u "$VALUES"), (0, u "[Lcom/example/crossgate/crossgate/NodeRole;"), (6, .class_ 22), (1, u "java/lang/Enum"), (8, u "title"), (0, u "Ljava/lang/String;"), (0, .fieldref 1 34), (0, .nameAndType 35 32), (0, u "prefix"), (2, u "descriptor"), (2, u "endpoint"), (32, u "()Ljava/lang/String;"), (0, u "peer"), (0, u "()Lcom/example/crossgate/crossgate/NodeRole;")] 6

def k6c0 : Code := { maxStack := 1, maxLocals := 1, code := prog_17_method_5_code, exceptionTable := #[], attributes := #[] }
def k6m0 : Method := { name := "prefix", desc := "()Ljava/lang/String;", sig := { parameters := [], returnType := some (.object "java/lang/String") }, accessFlags := 0, code := some k6c0 }
def k6c1 : Code := { maxStack := 2, maxLocals := 1, code := prog_17_method_8_code, exceptionTable := #[], attributes := #[] }
def k6m1 : Method := { name := "peer", desc := "()Lcom/example/crossgate/crossgate/NodeRole;", sig := { parameters := [], returnType := some (.object "com/example/crossgate/crossgate/NodeRole") }, accessFlags := 0, code := some k6c1 }
/-- com/example/crossgate/crossgate/NodeRole -/
def k6 : Class := { plain "com/example/crossgate/crossgate/NodeRole" (some 5) with
  accessFlags := 16432
  interfaces := #[]
  cf := some (fileOf pool6 1 #[] #[{ accessFlags := 0, nameIndex := 35, descriptorIndex := 74, attributes := #[] }, { accessFlags := 0, nameIndex := 75, descriptorIndex := 76, attributes := #[] }] 16432 20 #[] #[{ accessFlags := 16409, nameIndex := 5, descriptorIndex := 6, attributes := #[] }, { accessFlags := 16409, nameIndex := 9, descriptorIndex := 6, attributes := #[] }, { accessFlags := 18, nameIndex := 31, descriptorIndex := 32, attributes := #[] }, { accessFlags := 18, nameIndex := 35, descriptorIndex := 32, attributes := #[] }, { accessFlags := 18, nameIndex := 38, descriptorIndex := 32, attributes := #[] }, { accessFlags := 18, nameIndex := 41, descriptorIndex := 32, attributes := #[] }, { accessFlags := 4122, nameIndex := 12, descriptorIndex := 13, attributes := #[] }])
  fields := #[{ name := "CONNECTOR", type := (.object "com/example/crossgate/crossgate/NodeRole"), accessFlags := 16409, slot := 0, constantValue := 0 }, { name := "PROXY_SERVICE", type := (.object "com/example/crossgate/crossgate/NodeRole"), accessFlags := 16409, slot := 1, constantValue := 0 }, { name := "title", type := (.object "java/lang/String"), accessFlags := 18, slot := 3, constantValue := 0 }, { name := "prefix", type := (.object "java/lang/String"), accessFlags := 18, slot := 4, constantValue := 0 }, { name := "descriptor", type := (.object "java/lang/String"), accessFlags := 18, slot := 5, constantValue := 0 }, { name := "endpoint", type := (.object "java/lang/String"), accessFlags := 18, slot := 6, constantValue := 0 }, { name := "$VALUES", type := (.array (.object "com/example/crossgate/crossgate/NodeRole")), accessFlags := 4122, slot := 2, constantValue := 0 }]
  methods := #[k6m0, k6m1]
  instanceTypes := #[(.object "java/lang/String"), .int, .int, (.object "java/lang/String"), (.object "java/lang/String"), (.object "java/lang/String"), (.object "java/lang/String")]
  staticTypes := #[(.object "com/example/crossgate/crossgate/NodeRole"), (.object "com/example/crossgate/crossgate/NodeRole"), (.array (.object "com/example/crossgate/crossgate/NodeRole"))]
  resolved := Array.replicate 83 none
  statics := some 0 }

def pool7 : Array CpInfo := pool [(2, .class_ 4), (1, u "java/lang/CharSequence"), (42, .class_ 48), (0, u "java/lang/CharSequence$1CodePointIterator"), (10, .class_ 60), (0, u "java/lang/CharSequence$1CharIterator"), (5, .class_ 67), (0, u "java/lang/Object")] 63

/-- java/lang/CharSequence -/
def k7 : Class := { plain "java/lang/CharSequence" (some 0) with
  accessFlags := 1537
  interfaces := #[]
  cf := some (fileOf pool7 2 #[.nestMembers #[47, 59]] #[] 1537 66 #[] #[])
  fields := #[]
  methods := #[]
  instanceTypes := #[]
  staticTypes := #[]
  resolved := Array.replicate 131 none
  statics := none }

def pool8 : Array CpInfo := pool [(1, .class_ 2), (0, u "java/lang/constant/ConstantDesc"), (0, .class_ 4), (0, u "java/lang/Object")] 32

/-- java/lang/constant/ConstantDesc -/
def k8 : Class := { plain "java/lang/constant/ConstantDesc" (some 0) with
  accessFlags := 1537
  interfaces := #[]
  cf := some (fileOf pool8 1 #[] #[] 1537 3 #[] #[])
  fields := #[]
  methods := #[]
  instanceTypes := #[]
  staticTypes := #[]
  resolved := Array.replicate 37 none
  statics := none }

def pool9 : Array CpInfo := pool [(2, .class_ 4), (1, u "java/lang/Object"), (0, u "<init>"), (0, u "()V"), (2, .fieldref 10 11), (0, .class_ 12), (0, .nameAndType 13 14), (0, u "java/lang/String"), (0, u "value"), (0, u "[B"), (0, .fieldref 10 16), (0, .nameAndType 17 18), (0, u "coder"), (0, u "B"), (2, u "hash"), (0, u "I"), (2, u "hashIsZero"), (0, u "Z"), (11, .fieldref 10 39), (0, .nameAndType 40 26), (0, u "COMPACT_STRINGS"), (66, .class_ 109), (1, u "java/lang/StringLatin1"), (431, .methodref 107 542), (0, .nameAndType 543 544), (0, u "equals"), (0, u "([B[B)Z"), (28, u "(Ljava/lang/Object;)Z"), (1, .class_ 576), (0, u "java/lang/CharSequence"), (22, u "CASE_INSENSITIVE_ORDER"), (0, u "Ljava/util/Comparator;"), (500, u "serialPersistentFields"), (0, u "[Ljava/io/ObjectStreamField;"), (0, .class_ 1104), (0, u "java/lang/String$CaseInsensitiveComparator"), (1, .class_ 1107), (0, u "java/io/Serializable"), (0, .class_ 1109), (0, u "java/lang/Comparable"), (0, .class_ 1111), (0, u "java/lang/constant/Constable"), (0, .class_ 1113), (0, u "java/lang/constant/ConstantDesc"), (2, u "serialVersionUID"), (0, u "J"), (3, u "REPL"), (0, u "C"), (2, u "LATIN1"), (1, u "UTF16")] 323

def k9m0 : Method := { name := "<init>", desc := "()V", sig := { parameters := [], returnType := none }, accessFlags := 1, code := none }
def k9c1 : Code := { maxStack := 2, maxLocals := 3, code := jdk_42_method_66_code, exceptionTable := #[], attributes := #[] }
def k9m1 : Method := { name := "equals", desc := "(Ljava/lang/Object;)Z", sig := { parameters := [(.object "java/lang/Object")], returnType := some .boolean }, accessFlags := 1, code := some k9c1 }
/-- java/lang/String -/
def k9 : Class := { plain "java/lang/String" (some 0) with
  accessFlags := 49
  interfaces := #[4, 3, 7, 2, 8]
  cf := some (fileOf pool9 10 #[.nestMembers #[1103]] #[{ accessFlags := 1, nameIndex := 5, descriptorIndex := 6, attributes := #[] }, { accessFlags := 1, nameIndex := 543, descriptorIndex := 573, attributes := #[] }] 49 2 #[1106, 1108, 575, 1110, 1112] #[{ accessFlags := 18, nameIndex := 13, descriptorIndex := 14, attributes := #[] }, { accessFlags := 18, nameIndex := 17, descriptorIndex := 18, attributes := #[] }, { accessFlags := 2, nameIndex := 21, descriptorIndex := 22, attributes := #[] }, { accessFlags := 2, nameIndex := 25, descriptorIndex := 26, attributes := #[] }, { accessFlags := 26, nameIndex := 1116, descriptorIndex := 1117, attributes := #[] }, { accessFlags := 24, nameIndex := 40, descriptorIndex := 26, attributes := #[] }, { accessFlags := 26, nameIndex := 1101, descriptorIndex := 1102, attributes := #[] }, { accessFlags := 26, nameIndex := 1121, descriptorIndex := 1122, attributes := #[] }, { accessFlags := 25, nameIndex := 599, descriptorIndex := 600, attributes := #[] }, { accessFlags := 24, nameIndex := 1125, descriptorIndex := 18, attributes := #[] }, { accessFlags := 24, nameIndex := 1127, descriptorIndex := 18, attributes := #[] }])
  fields := #[{ name := "value", type := (.array .byte), accessFlags := 18, slot := 0, constantValue := 0 }, { name := "coder", type := .byte, accessFlags := 18, slot := 1, constantValue := 0 }, { name := "hash", type := .int, accessFlags := 2, slot := 2, constantValue := 0 }, { name := "hashIsZero", type := .boolean, accessFlags := 2, slot := 3, constantValue := 0 }, { name := "serialVersionUID", type := .long, accessFlags := 26, slot := 0, constantValue := 0 }, { name := "COMPACT_STRINGS", type := .boolean, accessFlags := 24, slot := 1, constantValue := 0 }, { name := "serialPersistentFields", type := (.array (.object "java/io/ObjectStreamField")), accessFlags := 26, slot := 2, constantValue := 0 }, { name := "REPL", type := .char, accessFlags := 26, slot := 3, constantValue := 0 }, { name := "CASE_INSENSITIVE_ORDER", type := (.object "java/util/Comparator"), accessFlags := 25, slot := 4, constantValue := 0 }, { name := "LATIN1", type := .byte, accessFlags := 24, slot := 5, constantValue := 0 }, { name := "UTF16", type := .byte, accessFlags := 24, slot := 6, constantValue := 0 }]
  methods := #[k9m0, k9m1]
  instanceTypes := #[(.array .byte), .byte, .int, .boolean]
  staticTypes := #[.long, .boolean, (.array (.object "java/io/ObjectStreamField")), .char, (.object "java/util/Comparator"), .byte, .byte]
  resolved := Array.replicate 1451 none
  statics := some 1 }

def pool10 : Array CpInfo := pool [(4, .class_ 6), (1, u "java/lang/Object"), (0, u "<init>"), (0, u "()V"), (5, .class_ 16), (1, u "java/lang/StringLatin1"), (104, u "$assertionsDisabled"), (0, u "Z"), (98, .class_ 223), (1, u "java/lang/StringLatin1$LinesSpliterator"), (57, u "equals"), (0, u "([B[B)Z"), (107, .class_ 391), (0, u "java/lang/StringLatin1$CharsSpliterator")] 3

def k10m0 : Method := { name := "<init>", desc := "()V", sig := { parameters := [], returnType := none }, accessFlags := 0, code := none }
def k10c1 : Code := { maxStack := 3, maxLocals := 3, code := jdk_43_method_13_code, exceptionTable := #[], attributes := #[] }
def k10m1 : Method := { name := "equals", desc := "([B[B)Z", sig := { parameters := [(.array .byte), (.array .byte)], returnType := some .boolean }, accessFlags := 9, code := some k10c1 }
/-- java/lang/StringLatin1 -/
def k10 : Class := { plain "java/lang/StringLatin1" (some 0) with
  accessFlags := 48
  interfaces := #[]
  cf := some (fileOf pool10 14 #[.nestMembers #[390, 221]] #[{ accessFlags := 0, nameIndex := 7, descriptorIndex := 8, attributes := #[] }, { accessFlags := 9, nameIndex := 281, descriptorIndex := 282, attributes := #[] }] 48 4 #[] #[{ accessFlags := 4120, nameIndex := 121, descriptorIndex := 122, attributes := #[] }])
  fields := #[{ name := "$assertionsDisabled", type := .boolean, accessFlags := 4120, slot := 0, constantValue := 0 }]
  methods := #[k10m0, k10m1]
  instanceTypes := #[]
  staticTypes := #[.boolean]
  resolved := Array.replicate 395 none
  statics := none }

def pool11 : Array CpInfo := pool [(2, .class_ 4), (1, u "java/lang/Object"), (0, u "<init>"), (0, u "()V"), (17, .class_ 26), (1, u "jdk/internal/util/Preconditions"), (28, .class_ 56), (0, u "jdk/internal/util/Preconditions$4"), (57, .class_ 115), (0, u "jdk/internal/util/Preconditions$1"), (7, u "SIOOBE_FORMATTER"), (0, u "Ljava/util/function/BiFunction;"), (0, .class_ 126), (0, u "jdk/internal/util/Preconditions$2"), (3, u "AIOOBE_FORMATTER"), (0, .class_ 132), (0, u "jdk/internal/util/Preconditions$3"), (3, u "IOOBE_FORMATTER")] 57

def k11m0 : Method := { name := "<init>", desc := "()V", sig := { parameters := [], returnType := none }, accessFlags := 1, code := none }
/-- jdk/internal/util/Preconditions -/
def k11 : Class := { plain "jdk/internal/util/Preconditions" (some 0) with
  accessFlags := 33
  interfaces := #[]
  cf := some (fileOf pool11 24 #[.nestMembers #[55, 131, 125, 114]] #[{ accessFlags := 1, nameIndex := 5, descriptorIndex := 6, attributes := #[] }] 33 2 #[] #[{ accessFlags := 25, nameIndex := 123, descriptorIndex := 124, attributes := #[] }, { accessFlags := 25, nameIndex := 130, descriptorIndex := 124, attributes := #[] }, { accessFlags := 25, nameIndex := 136, descriptorIndex := 124, attributes := #[] }])
  fields := #[{ name := "SIOOBE_FORMATTER", type := (.object "java/util/function/BiFunction"), accessFlags := 25, slot := 0, constantValue := 0 }, { name := "AIOOBE_FORMATTER", type := (.object "java/util/function/BiFunction"), accessFlags := 25, slot := 1, constantValue := 0 }, { name := "IOOBE_FORMATTER", type := (.object "java/util/function/BiFunction"), accessFlags := 25, slot := 2, constantValue := 0 }]
  methods := #[k11m0]
  instanceTypes := #[]
  staticTypes := #[(.object "java/util/function/BiFunction"), (.object "java/util/function/BiFunction"), (.object "java/util/function/BiFunction")]
  resolved := Array.replicate 194 none
  statics := some 2 }

def pool12 : Array CpInfo := pool [(9, u "<init>"), (6, .class_ 18), (1, u "java/lang/Object"), (0, u "()V"), (1, .class_ 23), (1, u "jdk/internal/util/ArraysSupport"), (0, u "LOG2_ARRAY_LONG_INDEX_SCALE"), (0, u "I"), (2, u "U"), (0, u "Ljdk/internal/misc/Unsafe;"), (8, u "BIG_ENDIAN"), (0, u "Z"), (8, u "LOG2_BYTE_BIT_SIZE"), (4, u "LOG2_ARRAY_INT_INDEX_SCALE"), (54, u "JLA"), (0, u "Ljdk/internal/access/JavaLangAccess;"), (11, u "LOG2_ARRAY_BOOLEAN_INDEX_SCALE"), (9, u "LOG2_ARRAY_BYTE_INDEX_SCALE"), (5, u "LOG2_ARRAY_CHAR_INDEX_SCALE"), (5, u "LOG2_ARRAY_SHORT_INDEX_SCALE"), (18, u "LOG2_ARRAY_FLOAT_INDEX_SCALE"), (24, u "LOG2_ARRAY_DOUBLE_INDEX_SCALE"), (89, u "T_BOOLEAN"), (2, u "T_CHAR"), (1, u "T_FLOAT"), (1, u "T_DOUBLE"), (1, u "T_BYTE"), (1, u "T_SHORT"), (1, u "T_INT"), (1, u "T_LONG"), (1, u "SOFT_MAX_ARRAY_LENGTH")] 83

def k12m0 : Method := { name := "<init>", desc := "()V", sig := { parameters := [], returnType := none }, accessFlags := 2, code := none }
/-- jdk/internal/util/ArraysSupport -/
def k12 : Class := { plain "jdk/internal/util/ArraysSupport" (some 0) with
  accessFlags := 33
  interfaces := #[]
  cf := some (fileOf pool12 21 #[] #[{ accessFlags := 2, nameIndex := 9, descriptorIndex := 19, attributes := #[] }] 33 16 #[] #[{ accessFlags := 24, nameIndex := 28, descriptorIndex := 29, attributes := #[] }, { accessFlags := 26, nameIndex := 38, descriptorIndex := 39, attributes := #[] }, { accessFlags := 25, nameIndex := 121, descriptorIndex := 25, attributes := #[] }, { accessFlags := 25, nameIndex := 131, descriptorIndex := 25, attributes := #[] }, { accessFlags := 25, nameIndex := 137, descriptorIndex := 25, attributes := #[] }, { accessFlags := 25, nameIndex := 143, descriptorIndex := 25, attributes := #[] }, { accessFlags := 25, nameIndex := 53, descriptorIndex := 25, attributes := #[] }, { accessFlags := 25, nameIndex := 24, descriptorIndex := 25, attributes := #[] }, { accessFlags := 25, nameIndex := 162, descriptorIndex := 25, attributes := #[] }, { accessFlags := 25, nameIndex := 187, descriptorIndex := 25, attributes := #[] }, { accessFlags := 26, nameIndex := 48, descriptorIndex := 25, attributes := #[] }, { accessFlags := 25, nameIndex := 277, descriptorIndex := 25, attributes := #[] }, { accessFlags := 25, nameIndex := 280, descriptorIndex := 25, attributes := #[] }, { accessFlags := 25, nameIndex := 282, descriptorIndex := 25, attributes := #[] }, { accessFlags := 25, nameIndex := 284, descriptorIndex := 25, attributes := #[] }, { accessFlags := 25, nameIndex := 286, descriptorIndex := 25, attributes := #[] }, { accessFlags := 25, nameIndex := 288, descriptorIndex := 25, attributes := #[] }, { accessFlags := 25, nameIndex := 290, descriptorIndex := 25, attributes := #[] }, { accessFlags := 25, nameIndex := 292, descriptorIndex := 25, attributes := #[] }, { accessFlags := 26, nameIndex := 108, descriptorIndex := 109, attributes := #[] }, { accessFlags := 25, nameIndex := 294, descriptorIndex := 25, attributes := #[] }])
  fields := #[{ name := "U", type := (.object "jdk/internal/misc/Unsafe"), accessFlags := 24, slot := 0, constantValue := 0 }, { name := "BIG_ENDIAN", type := .boolean, accessFlags := 26, slot := 1, constantValue := 0 }, { name := "LOG2_ARRAY_BOOLEAN_INDEX_SCALE", type := .int, accessFlags := 25, slot := 2, constantValue := 0 }, { name := "LOG2_ARRAY_BYTE_INDEX_SCALE", type := .int, accessFlags := 25, slot := 3, constantValue := 0 }, { name := "LOG2_ARRAY_CHAR_INDEX_SCALE", type := .int, accessFlags := 25, slot := 4, constantValue := 0 }, { name := "LOG2_ARRAY_SHORT_INDEX_SCALE", type := .int, accessFlags := 25, slot := 5, constantValue := 0 }, { name := "LOG2_ARRAY_INT_INDEX_SCALE", type := .int, accessFlags := 25, slot := 6, constantValue := 0 }, { name := "LOG2_ARRAY_LONG_INDEX_SCALE", type := .int, accessFlags := 25, slot := 7, constantValue := 0 }, { name := "LOG2_ARRAY_FLOAT_INDEX_SCALE", type := .int, accessFlags := 25, slot := 8, constantValue := 0 }, { name := "LOG2_ARRAY_DOUBLE_INDEX_SCALE", type := .int, accessFlags := 25, slot := 9, constantValue := 0 }, { name := "LOG2_BYTE_BIT_SIZE", type := .int, accessFlags := 26, slot := 10, constantValue := 0 }, { name := "T_BOOLEAN", type := .int, accessFlags := 25, slot := 11, constantValue := 0 }, { name := "T_CHAR", type := .int, accessFlags := 25, slot := 12, constantValue := 0 }, { name := "T_FLOAT", type := .int, accessFlags := 25, slot := 13, constantValue := 0 }, { name := "T_DOUBLE", type := .int, accessFlags := 25, slot := 14, constantValue := 0 }, { name := "T_BYTE", type := .int, accessFlags := 25, slot := 15, constantValue := 0 }, { name := "T_SHORT", type := .int, accessFlags := 25, slot := 16, constantValue := 0 }, { name := "T_INT", type := .int, accessFlags := 25, slot := 17, constantValue := 0 }, { name := "T_LONG", type := .int, accessFlags := 25, slot := 18, constantValue := 0 }, { name := "JLA", type := (.object "jdk/internal/access/JavaLangAccess"), accessFlags := 26, slot := 19, constantValue := 0 }, { name := "SOFT_MAX_ARRAY_LENGTH", type := .int, accessFlags := 25, slot := 20, constantValue := 0 }]
  methods := #[k12m0]
  instanceTypes := #[]
  staticTypes := #[(.object "jdk/internal/misc/Unsafe"), .boolean, .int, .int, .int, .int, .int, .int, .int, .int, .int, .int, .int, .int, .int, .int, .int, .int, .int, (.object "jdk/internal/access/JavaLangAccess"), .int]
  resolved := Array.replicate 378 none
  statics := none }

def pool13 : Array CpInfo := pool [(1, u "java/lang/Cloneable"), (0, .class_ 1), (0, u "java/lang/Object"), (0, .class_ 3)] 3

/-- java/lang/Cloneable -/
def k13 : Class := { plain "java/lang/Cloneable" (some 0) with
  accessFlags := 1537
  interfaces := #[]
  cf := some (fileOf pool13 2 #[] #[] 1537 4 #[] #[])
  fields := #[]
  methods := #[]
  instanceTypes := #[]
  staticTypes := #[]
  resolved := Array.replicate 8 none
  statics := none }

/-- the primitive byte -/
def k14 : Class := { plain "byte" none with kind := .primitive 'B', accessFlags := 0x411 }
/-- [B -/
def k15 : Class := { plain "[B" (some 0) with kind := .array 14 .byte, interfaces := #[13, 4], accessFlags := 1041 }

/-- the primitive int -/
def k16 : Class := { plain "int" none with kind := .primitive 'I', accessFlags := 0x411 }
/-- [I -/
def k17 : Class := { plain "[I" (some 0) with kind := .array 16 .int, interfaces := #[13, 4], accessFlags := 1041 }

def heap : Heap := #[{ cls := 6, slots := #[.ref 3, .ref 4, .null], vm := .statics 6 },
  { cls := 9, slots := #[.long 0, .int 1, .null, .int 0, .null, .int 0, .int 0], vm := .statics 9 },
  { cls := 11, slots := #[.null, .null, .null], vm := .statics 11 },
  { cls := 6, slots := #[.null, .int 0, .int 0, .null, .ref 5, .null, .null], vm := .none },
  { cls := 6, slots := #[.null, .int 1, .int 0, .null, .ref 6, .null, .null], vm := .none },
  { cls := 9, slots := #[.ref 7, .int 0, .int 0, .int 0], vm := .none },
  { cls := 9, slots := #[.ref 8, .int 0, .int 0, .int 0], vm := .none },
  { cls := 15, slots := #[.int 99, .int 111, .int 110, .int 110, .int 101, .int 99, .int 116, .int 111, .int 114], vm := .none },
  { cls := 15, slots := #[.int 115, .int 101, .int 114, .int 118, .int 105, .int 99, .int 101], vm := .none }]
def classes : Array Class := #[k0, k1, k2, k3, k4, k5, k6, k7, k8, k9, k10, k11, k12, k13, k14, k15, k16, k17]
def interned : List (Array UInt16 × Addr) := []
def slotsUsed : Nat := 51
def theMethod : MethodId := ⟨1, 1⟩
def args0 : Array Value := #[.int 3]
def aboutOver (below : List Frame) : State where
  vm := { classes := classes, interned := interned.toArray }
  heap := heap
  slotsUsed := slotsUsed
  threads := #[{ frames := .invoking theMethod args0 :: below }]
def below0 : List Frame := [.native { method := ⟨0, 0⟩, args := #[] }]
def about1 : State := aboutOver below0
def p0 : Program := .bare "" "" ""
def e0 : Env := launch0.env 0 0 0
theorem w_frames : about1.frames = Frame.invoking theMethod args0 :: below0 := rfl
set_option maxRecDepth 65536 in
theorem w_args : argsFit about1.vm theMethod args0 = true := by decide +kernel
set_option maxRecDepth 65536 in
theorem w_heap : heapFits about1 = true := by decide +kernel
set_option maxRecDepth 65536 in
theorem w_runnable : about1.curStatus? = some .runnable := by decide +kernel
set_option maxRecDepth 65536 in
theorem w_alone : about1.alone = true := by decide +kernel
set_option maxRecDepth 65536 in
theorem w_named : about1.methodNamed? x = some theMethod := by decide +kernel
set_option maxRecDepth 65536 in
theorem w_hears : about1.hears theMethod below0 = true := by decide +kernel
set_option maxRecDepth 65536 in
theorem w_ripe : about1.ripe theMethod args0 below0 = true := by decide +kernel
theorem w_running : about1.status = .running := rfl
set_option maxRecDepth 65536 in
theorem w_room : about1.hasRoom e0.platform room_1 = true :=
  launch0.hasRoom_least _ room_1 (by decide +kernel) (by decide +kernel) (by decide +kernel) (by decide +kernel) (by decide +kernel) (by decide +kernel)
theorem allAtoms_all (ts : List Jvm.Cond) (a : Array Jvm.Value) (st : Jvm.State) : (allAtoms ts).before a st = ts.all (fun c => c.before a st) := by
  induction ts with
  | nil => rfl
  | cons c t ih =>
    show (Jvm.Cond.and c (allAtoms t)).before a st = _
    rw [Jvm.Cond.before_and, ih, List.all_cons]
def words1 : List Jvm.Cond := Jvm.Cond.code x code maxLocals ret :: tables_1
/-- a 'code' word, met by the world's own term for the bytes: nothing is compared byte by byte -/
theorem code_word {y : MethodName} {bytes : ByteArray} {mx : Nat} {rt : Option FieldType} {a : Array Value} {s : State} {m : MethodId} {meth : Method} {c : Code} (h1 : s.methodNamed? y = some m) (h2 : s.vm.method? m = some meth) (h3 : meth.code = some c) (h4 : c.code = bytes)
    (h5 : (c.maxLocals == mx && c.exceptionTable.isEmpty && decide (c.maxStack ≤ mostOperands) && decide (meth.sig.returnType = rt) && !meth.locks && decide (parseMethodDescriptor y.desc = some meth.sig)) = true) : (Jvm.Cond.code y bytes mx rt).before a s = true := by
  simp only [Bool.and_eq_true, beq_iff_eq, Bool.not_eq_true', decide_eq_true_eq] at h5
  obtain ⟨⟨⟨⟨⟨g1, g2⟩, g3⟩, g4⟩, g5⟩, g6⟩ := h5
  simp [Cond.before, Cond.holds, Cond.value, h1, h2, h3, h4, g1, g2, g3, g4, g5, g6]
def isCode : Jvm.Cond → Bool
  | .code _ _ _ _ => true
  | _ => false
theorem all_split {L : List Jvm.Cond} {P : Jvm.Cond → Bool} (h1 : L.all (fun c => isCode c || P c) = true) (h2 : ∀ c ∈ L.filter isCode, P c = true) : L.all P = true := by
  refine List.all_eq_true.mpr fun c hc => ?_
  have h := List.all_eq_true.mp h1 c hc
  rcases Bool.eq_false_or_eq_true (isCode c) with hi | hi
  · exact h2 c (List.mem_filter.mpr ⟨hc, hi⟩)
  · simpa [hi] using h
set_option maxRecDepth 65536 in
theorem w_c0 : (Jvm.Cond.code x code maxLocals ret).before args0 about1 = true := code_word (m := ⟨1, 1⟩) (meth := k1m1) (c := k1c1) (by decide +kernel) rfl rfl rfl (by decide +kernel)
set_option maxRecDepth 65536 in
theorem w_c1 : (Jvm.Cond.code ({ cls := "com/example/crossgate/crossgate/NodeRole", name := "peer", desc := "()Lcom/example/crossgate/crossgate/NodeRole;" } : Jvm.MethodName) prog_17_method_8_code (1 : Nat) (Option.some (Jvm.ClassFile.FieldType.object "com/example/crossgate/crossgate/NodeRole"))).before args0 about1 = true := code_word (m := ⟨6, 1⟩) (meth := k6m1) (c := k6c1) (by decide +kernel) rfl rfl rfl (by decide +kernel)
set_option maxRecDepth 65536 in
theorem w_c2 : (Jvm.Cond.code ({ cls := "com/example/crossgate/crossgate/NodeRole", name := "prefix", desc := "()Ljava/lang/String;" } : Jvm.MethodName) prog_17_method_5_code (1 : Nat) (Option.some (Jvm.ClassFile.FieldType.object "java/lang/String"))).before args0 about1 = true := code_word (m := ⟨6, 0⟩) (meth := k6m0) (c := k6c0) (by decide +kernel) rfl rfl rfl (by decide +kernel)
set_option maxRecDepth 65536 in
theorem w_c3 : (Jvm.Cond.code ({ cls := "java/lang/String", name := "equals", desc := "(Ljava/lang/Object;)Z" } : Jvm.MethodName) jdk_42_method_66_code (3 : Nat) (Option.some Jvm.ClassFile.FieldType.boolean)).before args0 about1 = true := code_word (m := ⟨9, 1⟩) (meth := k9m1) (c := k9c1) (by decide +kernel) rfl rfl rfl (by decide +kernel)
set_option maxRecDepth 65536 in
theorem w_c4 : (Jvm.Cond.code ({ cls := "java/lang/StringLatin1", name := "equals", desc := "([B[B)Z" } : Jvm.MethodName) jdk_43_method_13_code (3 : Nat) (Option.some Jvm.ClassFile.FieldType.boolean)).before args0 about1 = true := code_word (m := ⟨10, 1⟩) (meth := k10m1) (c := k10c1) (by decide +kernel) rfl rfl rfl (by decide +kernel)
def codes1 : List Jvm.Cond := [Jvm.Cond.code x code maxLocals ret, Jvm.Cond.code ({ cls := "com/example/crossgate/crossgate/NodeRole", name := "peer", desc := "()Lcom/example/crossgate/crossgate/NodeRole;" } : Jvm.MethodName) prog_17_method_8_code (1 : Nat) (Option.some (Jvm.ClassFile.FieldType.object "com/example/crossgate/crossgate/NodeRole")), Jvm.Cond.code ({ cls := "com/example/crossgate/crossgate/NodeRole", name := "prefix", desc := "()Ljava/lang/String;" } : Jvm.MethodName) prog_17_method_5_code (1 : Nat) (Option.some (Jvm.ClassFile.FieldType.object "java/lang/String")), Jvm.Cond.code ({ cls := "java/lang/String", name := "equals", desc := "(Ljava/lang/Object;)Z" } : Jvm.MethodName) jdk_42_method_66_code (3 : Nat) (Option.some Jvm.ClassFile.FieldType.boolean), Jvm.Cond.code ({ cls := "java/lang/StringLatin1", name := "equals", desc := "([B[B)Z" } : Jvm.MethodName) jdk_43_method_13_code (3 : Nat) (Option.some Jvm.ClassFile.FieldType.boolean)]
set_option maxRecDepth 65536 in
theorem codes_eq : words1.filter isCode = codes1 := rfl
theorem w_codes : ∀ c ∈ words1.filter isCode, c.before args0 about1 = true := by
  rw [codes_eq]
  intro c hc
  simp only [codes1, List.mem_cons, List.not_mem_nil, or_false] at hc
  rcases hc with rfl | rfl | rfl | rfl | rfl
  · exact w_c0
  · exact w_c1
  · exact w_c2
  · exact w_c3
  · exact w_c4
set_option maxRecDepth 65536 in
theorem w_t1 : (words1.take 24).all (fun c => isCode c || c.before args0 about1) = true := by decide +kernel
set_option maxRecDepth 65536 in
theorem w_t2 : (words1.drop 24).all (fun c => isCode c || c.before args0 about1) = true := by decide +kernel
theorem w_tables : (allAtoms (Jvm.Cond.code x code maxLocals ret :: tables_1)).before args0 about1 = true := by
  rw [allAtoms_all]
  show words1.all (fun c => c.before args0 about1) = true
  refine all_split ?_ w_codes
  rw [← List.take_append_drop 24 words1, List.all_append, w_t1, w_t2]
  rfl
set_option maxRecDepth 65536 in
theorem w_rest : rest_1_c.before args0 about1 = true := by decide +kernel
set_option maxRecDepth 65536 in
theorem w_case : (Jvm.Cond.and given_1 narrow_1).before args0 about1 = true := by decide +kernel
set_option maxRecDepth 65536 in
theorem w_consts : constsHeld consts_1 about1 := Jvm.Lit.constsHeldB_iff.mp (by decide +kernel)
theorem w_applies : (headSpec (Jvm.Cond.code x code maxLocals ret :: tables_1) room_1).applies x e0.platform about1 = true :=
  (Spec.applies_iff w_frames).mpr ⟨w_running, w_runnable, w_alone, w_named, w_hears, w_ripe, w_room, w_tables⟩
theorem atStart : AtStart classFile x code maxLocals ret World_1 tables_1 room_1 Calls_1 rest_1 Pre_1 launch0 p0 e0 about1 theMethod args0 below0 :=
  ⟨lists_1, trivial, launch0.admits_env _ _ _, launch0.least_env, fairChoices_fair.cas, fairChoices_fair.clock, w_frames, w_args, w_heap, w_applies, ⟨w_consts, trivial⟩, w_rest, w_case⟩
end start1
theorem witness_1 : WitnessClaimed_1 := ⟨start1.p0, start1.e0, start1.about1, start1.theMethod, start1.args0, start1.below0, start1.atStart⟩
end Jvm.Pilot.@@N@@
