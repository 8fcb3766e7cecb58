import JvmDerived
import JvmDerived.Pilot.@@N@@Statement
import JvmDerived.Pilot.@@N@@Code
set_option linter.unusedVariables false
set_option linter.unusedSimpArgs false
@@BLOCK:NumsL.lean.txt@@
@@BLOCK:Masks.lean.txt@@
namespace Jvm.Pilot.@@N@@
open Jvm Jvm.ClassFile Sem Op Lib Jvm.Free Jvm.Stand Jvm.LawKit Jvm.RoadKit Bundle Jvm.Pilot.@@N@@.Jvm.D
def own_G (tb : Tables) (e : Env) (below : List Frame) (En : Outcome → State → List Loc → Prop) (Q : Option Value → Heap → List Loc → Prop) (U : State) : Prop :=
  ∃ t o, Steps tb e below U t ∧ t.status = .running ∧ Ended t below o ∧ ∃ v L, o = .returned v ∧ Q v t.heap L ∧ En o t L
/-- the frame at the end, counted from s -/
def own_E (s : State) (nc ns : Nat) (o : Outcome) (t : State) (L : List Loc) : Prop := FrameEnd s o t L nc ns
theorem own_st {tb : Tables} {e : Env} {below : List Frame} {En : Outcome → State → List Loc → Prop} {Q : Option Value → Heap → List Loc → Prop} {U U' : State} (h : own_G tb e below En Q U') (st : ∀ t, Steps tb e below U' t → Steps tb e below U t) : own_G tb e below En Q U := by
  obtain ⟨t, o, h1, h2⟩ := h
  exact ⟨t, o, st t h1, h2⟩
section OwnRet
variable {p : Program} {l : Launch} {e : Env} {R : Room} {s : State} {m : MethodId} {args : Array Value} {below : List Frame} {meth : Method} {c : Code} {T : State} {locs : List Loc} {cells slots : Nat}
theorem own_retN (X : Stand p l e R s m args below meth c T locs cells slots) (hx : p.tables.exec = Jvm.exec) (hlk : meth.locks = false) {pc : Nat} {Ls : Array Slot} {z z' : Int32} {t : FieldType} {rest : List Value} (hret : meth.sig.returnType = some t) (ht : t = .boolean ∨ t = .byte ∨ t = .char ∨ t = .short)
    (hd : decode c.code pc = .ok (.ireturn, 1)) {Q : Option Value → Heap → List Loc → Prop} {nc ns : Nat} (hc : cells ≤ nc) (hs : slots ≤ ns) (hz : nar t z = z') (hQ : Q (some (.int z')) T.heap locs) : own_G p.tables e below (own_E s nc ns) Q (T.setTop (mkF m pc Ls (.int z :: rest))) := by
  subst hz
  obtain ⟨fs, hr, hrun, hended, hW, hsame⟩ := X.leave (v := some (.int (nar t z))) (fun h => by rw [hret] at h; cases h) hlk
  exact ⟨_, _, retN X hx hret ht hd hr, hrun, hended, _, _, rfl, hQ, ⟨_, rfl⟩, hW, hsame.mono hc hs⟩
theorem own_retI (X : Stand p l e R s m args below meth c T locs cells slots) (hx : p.tables.exec = Jvm.exec) (hlk : meth.locks = false) {pc : Nat} {Ls : Array Slot} {z : Int32} {rest : List Value} (hret : meth.sig.returnType = some .int)
    (hd : decode c.code pc = .ok (.ireturn, 1)) {Q : Option Value → Heap → List Loc → Prop} {nc ns : Nat} (hc : cells ≤ nc) (hs : slots ≤ ns) (hQ : Q (some (.int z)) T.heap locs) : own_G p.tables e below (own_E s nc ns) Q (T.setTop (mkF m pc Ls (.int z :: rest))) := by
  obtain ⟨fs, hr, hrun, hended, hW, hsame⟩ := X.leave (v := some (.int z)) (fun h => by rw [hret] at h; cases h) hlk
  exact ⟨_, _, retOut X hx hret rfl (Or.inl ⟨rfl, Or.inl rfl, _, rfl⟩) hd hr, hrun, hended, _, _, rfl, hQ, ⟨_, rfl⟩, hW, hsame.mono hc hs⟩
theorem own_retJ (X : Stand p l e R s m args below meth c T locs cells slots) (hx : p.tables.exec = Jvm.exec) (hlk : meth.locks = false) {pc : Nat} {Ls : Array Slot} {z : Int64} {rest : List Value} (hret : meth.sig.returnType = some .long)
    (hd : decode c.code pc = .ok (.lreturn, 1)) {Q : Option Value → Heap → List Loc → Prop} {nc ns : Nat} (hc : cells ≤ nc) (hs : slots ≤ ns) (hQ : Q (some (.long z)) T.heap locs) : own_G p.tables e below (own_E s nc ns) Q (T.setTop (mkF m pc Ls (.long z :: rest))) := by
  obtain ⟨fs, hr, hrun, hended, hW, hsame⟩ := X.leave (v := some (.long z)) (fun h => by rw [hret] at h; cases h) hlk
  exact ⟨_, _, retOut X hx hret rfl (Or.inr (Or.inl ⟨rfl, rfl, _, rfl⟩)) hd hr, hrun, hended, _, _, rfl, hQ, ⟨_, rfl⟩, hW, hsame.mono hc hs⟩
theorem own_retA (X : Stand p l e R s m args below meth c T locs cells slots) (hx : p.tables.exec = Jvm.exec) (hlk : meth.locks = false) {pc : Nat} {Ls : Array Slot} {z : Value} {t : FieldType} {rest : List Value} (hret : meth.sig.returnType = some t) (ht : t.isReference = true) (hn : narrow t z = z) (hv : z.isRef = true)
    (hd : decode c.code pc = .ok (.areturn, 1)) {Q : Option Value → Heap → List Loc → Prop} {nc ns : Nat} (hc : cells ≤ nc) (hs : slots ≤ ns) (hQ : Q (some z) T.heap locs) : own_G p.tables e below (own_E s nc ns) Q (T.setTop (mkF m pc Ls (z :: rest))) := by
  obtain ⟨fs, hr, hrun, hended, hW, hsame⟩ := X.leave (v := some z) (fun h => by rw [hret] at h; cases h) hlk
  exact ⟨_, _, retOut X hx hret hn (Or.inr (Or.inr (Or.inr (Or.inr ⟨rfl, ht, hv⟩)))) hd hr, hrun, hended, _, _, rfl, hQ, ⟨_, rfl⟩, hW, hsame.mono hc hs⟩
theorem own_retV (X : Stand p l e R s m args below meth c T locs cells slots) (hx : p.tables.exec = Jvm.exec) (hlk : meth.locks = false) {pc : Nat} {Ls : Array Slot} (hret : meth.sig.returnType = none)
    (hd : decode c.code pc = .ok (.return_, 1)) {Q : Option Value → Heap → List Loc → Prop} {nc ns : Nat} (hc : cells ≤ nc) (hs : slots ≤ ns) (hQ : Q none T.heap locs) : own_G p.tables e below (own_E s nc ns) Q (T.setTop (mkF m pc Ls [])) := by
  obtain ⟨fs, hr, hrun, hended, hW, hsame⟩ := X.leave (v := none) (fun _ => rfl) hlk
  exact ⟨_, _, X.returnOut hx hret hd hr, hrun, hended, _, _, rfl, hQ, ⟨_, rfl⟩, hW, hsame.mono hc hs⟩
/-- the wide frame at the end: Strings may have been interned -/
def own_EW (s : State) (nc ns : Nat) (o : Outcome) (t : State) (L : List Loc) : Prop := ReturnedEndW s o t L nc ns
theorem own_retNW {vm1 : Vm} (X : Stand p l e R (s.setVm vm1) m args below meth c T locs cells slots) (hx : p.tables.exec = Jvm.exec) (hlk : meth.locks = false) {k : Nat} (hS : s.Since vm1 k) (hk : k ≤ T.heap.size) {pc : Nat} {Ls : Array Slot} {z z' : Int32} {t : FieldType} {rest : List Value} (hret : meth.sig.returnType = some t) (ht : t = .boolean ∨ t = .byte ∨ t = .char ∨ t = .short)
    (hd : decode c.code pc = .ok (.ireturn, 1)) {Q : Option Value → Heap → List Loc → Prop} {nc ns : Nat} (hc : cells ≤ nc) (hs : slots ≤ ns) (hz : nar t z = z') (hQ : Q (some (.int z')) T.heap locs) : own_G p.tables e below (own_EW s nc ns) Q (T.setTop (mkF m pc Ls (.int z :: rest))) := by
  subst hz
  obtain ⟨fs, hr, hrun, hended, h1, h2, h3, h4⟩ := X.leaveW hS hk (v := some (.int (nar t z))) (fun h => by rw [hret] at h; cases h) hlk
  exact ⟨_, _, retN X hx hret ht hd hr, hrun, hended, _, _, rfl, hQ, h1, h2, h3, h4.mono hc hs⟩
end OwnRet
/-- it returns r; nothing old is written (own_QV: the heap is as it was) -/
def own_QL (r : Value) (n0 : Nat) (v : Option Value) (h : Heap) (L : List Loc) : Prop := v = some r ∧ Fr n0 L
def own_QN (h0 : Heap) (n0 : Nat) (v : Option Value) (h : Heap) (L : List Loc) : Prop := v = none ∧ Fr n0 L ∧ h = h0
def own_QV (r : Value) (h0 : Heap) (n0 : Nat) (v : Option Value) (h : Heap) (L : List Loc) : Prop := v = some r ∧ Fr n0 L ∧ h = h0
/-- a byte[] of n places -/
def own_B (Z : State) (h : Heap) (a : Addr) (n : Int32) : Prop := ∃ c : Cell, Arr Z h a c .byte ∧ c.slots.size = n.toNatClampNeg
theorem own_B_ext {Z : State} {h h' : Heap} {a : Addr} {n : Int32} (F : own_B Z h a n) (E : Ext h h') : own_B Z h' a n := by obtain ⟨c, A, S⟩ := F; exact ⟨c, A.ext E, S⟩
theorem own_B_set {Z : State} {h h' : Heap} {a : Addr} {n : Int32} {j : Nat} {v : Value} (F : own_B Z h a n) (W : Wr h h' a j v) : own_B Z h' a n := by obtain ⟨c, A, S⟩ := F; exact ⟨_, A.same W, by rw [sz_set]; exact S⟩
theorem own_B_keep {Z : State} {h h' : Heap} {a : Addr} {n : Int32} {ws : List Addr} (F : own_B Z h a n) (K : Keep h h' ws) (q : a ∉ ws) : own_B Z h' a n := by obtain ⟨c, A, S⟩ := F; exact ⟨c, ⟨K.2.1 a c A.1 q, A.2⟩, S⟩
theorem own_B_lt {Z : State} {h : Heap} {a : Addr} {n : Int32} (F : own_B Z h a n) : a < h.size := by obtain ⟨c, A, S⟩ := F; exact A.lt
theorem own_n (x : Int32) : ¬ (x &&& 7) < 0 ∧ (x &&& 7).toNatClampNeg ≤ 7 := by
  have h := Jvm.Kit.i32_mask x 7 (k := 3) (by decide) (by decide)
  have e0 : (0 : Int32).toInt = 0 := by decide
  rw [Int32.lt_iff_toInt_lt, Int32.toNatClampNeg, e0, h]; omega
theorem own_in {k : Nat} {n : Int32} (S : k = n.toNatClampNeg) (h : (0 : Int32) < n) : ¬ ((0 : Int32) < 0 ∨ k ≤ (0 : Int32).toNatClampNeg) := by
  have e0 : (0 : Int32).toInt = 0 := by decide
  have z0 : (0 : Int32).toNatClampNeg = 0 := by decide
  rw [S, z0]; rw [Int32.lt_iff_toInt_lt, e0] at h
  intro q; rcases q with q | q
  · exact absurd q (by decide)
  · rw [Int32.toNatClampNeg] at q; omega
/-- what Line's constructor leaves -/
def own_Q1 (Z : State) (a0 : Addr) (q1 : Int64) (a2 : Addr) (h0 : Heap) (n0 : Nat) (v : Option Value) (h : Heap) (L : List Loc) : Prop := v = none ∧ Fr n0 L ∧ Keep h0 h [a0] ∧ Fld Z h a0 "com/example/fanoline/fanoline/io/LineReader$Line" "length" "J" (.long q1) ∧ Fld Z h a0 "com/example/fanoline/fanoline/io/LineReader$Line" "bytes" "[B" (.ref a2)
theorem d4_0 : decode prog_29_method_2_code 0 = .ok (.aload_n 0, 1) := by decide +kernel
theorem d4_1 : decode prog_29_method_2_code 1 = .ok (.getfield 13, 3) := by decide +kernel
theorem d4_4 : decode prog_29_method_2_code 4 = .ok (.arraylength, 1) := by decide +kernel
theorem d4_5 : decode prog_29_method_2_code 5 = .ok (.i2l, 1) := by decide +kernel
theorem d4_6 : decode prog_29_method_2_code 6 = .ok (.aload_n 0, 1) := by decide +kernel
theorem d4_7 : decode prog_29_method_2_code 7 = .ok (.getfield 7, 3) := by decide +kernel
theorem d4_10 : decode prog_29_method_2_code 10 = .ok (.lcmp, 1) := by decide +kernel
theorem d4_11 : decode prog_29_method_2_code 11 = .ok (.ifCond .ne 7, 3) := by decide +kernel
theorem d4_14 : decode prog_29_method_2_code 14 = .ok (.iconst 1, 1) := by decide +kernel
theorem d4_15 : decode prog_29_method_2_code 15 = .ok (.goto 4, 3) := by decide +kernel
theorem d4_18 : decode prog_29_method_2_code 18 = .ok (.iconst 0, 1) := by decide +kernel
theorem d4_19 : decode prog_29_method_2_code 19 = .ok (.ireturn, 1) := by decide +kernel
def f4 (a0 : Addr) (z : Int32) (v_bytes_a0 : Addr) (v_length_a0 : Int64) : Int32 := (if (lcmpW (z.toInt64) v_length_a0) = (0 : Int32) then (1 : Int32) else (0 : Int32))
theorem pn_4 : plainName "com/example/fanoline/fanoline/io/LineReader$Line" = true := by first | (simp [plainName, overriddenIn]; done) | decide +kernel
theorem ef_4 (m : MethodId) (a0 : Addr) : entryFrame m #[(.ref a0)] 1 = mkF m 0 #[.val (.ref a0)] [] := by first | (simp [entryFrame, mkF, argsToLocals, Value.category]; done) | rfl
set_option maxRecDepth 65536 in
set_option maxHeartbeats 40000000 in
theorem rm4 (l : Launch) (Z : State) (a0 : Array Value) (hw : ∀ d ∈ tables_1, d.before a0 Z = true) (ws : List Jvm.Cond) (a0 : Addr) (z : Int32) (v_bytes_a0 : Addr) (v_length_a0 : Int64) (h0 : Heap) (n0 : Nat) (Z0 : n0 ≤ h0.size) (B0 : own_B Z h0 v_bytes_a0 z) (hz : ¬ z < 0) (F_bytes_a0 : Fld Z h0 a0 "com/example/fanoline/fanoline/io/LineReader$Line" "bytes" "[B" (.ref v_bytes_a0)) (F_length_a0 : Fld Z h0 a0 "com/example/fanoline/fanoline/io/LineReader$Line" "length" "J" (.long v_length_a0)) :
    MetFree l (⟨"com/example/fanoline/fanoline/io/LineReader$Line", "held", "()Z"⟩ : MethodName) (head1 (Jvm.Cond.code (⟨"com/example/fanoline/fanoline/io/LineReader$Line", "held", "()Z"⟩ : MethodName) prog_29_method_2_code 1 (some .boolean) :: ws) ({ frames := 0, cells := 0, slots := 0, locals := 0 } : Room)) (fun a U => a = #[(.ref a0)] ∧ Z.Warmed39 U.vm ∧ U.heap = h0) (fun _ _ _ _ _ => True) (fun _ U o U' => ∃ v L, o = .returned v ∧ own_QV (.int (f4 a0 z v_bytes_a0 v_length_a0)) h0 n0 v U'.heap L ∧ FrameEnd U o U' L ({ frames := 0, cells := 0, slots := 0, locals := 0 } : Room).cells ({ frames := 0, cells := 0, slots := 0, locals := 0 } : Room).slots) := by
  refine MetFree.of_bodySF (plainFor_of_name pn_4) hisR ?_
  intro p e s m args below meth c s₁ Bd hml0 hP hK
  obtain ⟨rfl, hZ, hh⟩ := hP
  have hx := Bd.exec
  have hby := Bd.bytes
  have hlk : meth.locks = false := BodyLoose.notSynchronized Bd
  have hret := Bd.returns
  have hml : c.maxLocals = 1 := hml0
  have hown : s.vm.findClass "com/example/fanoline/fanoline/io/LineReader$Line" = some m.cls := findClass_of_methodNamed Bd.named
  have hnm := (name_of_methodNamed Bd.named Bd.method).1
  have X0 : Stand p l e ({ frames := 0, cells := 0, slots := 0, locals := 0 } : Room) s m #[(.ref a0)] below meth c s₁ [] 0 0 := Stand.of_body Bd
  have e0 : s₁.heap = h0 := by rw [← hh, Bd.state]; rfl
  have N0 := Fr.nil n0
  show own_G p.tables e below (own_E s ({ frames := 0, cells := 0, slots := 0, locals := 0 } : Room).cells ({ frames := 0, cells := 0, slots := 0, locals := 0 } : Room).slots) (own_QV (.int (f4 a0 z v_bytes_a0 v_length_a0)) h0 n0) (s₁.setTop (entryFrame m #[(.ref a0)] 1))
  refine own_st ?_ (fun t k => castTop (ef_4 m a0) k)
  show own_G p.tables e below _ _ (s₁.setTop (mkF m 0 #[.val (.ref a0)] []))
  refine own_st ?_ (fun t k => XS.aloadN X0.here hx rfl (hb hby d4_0) rfl rfl k)
  show own_G p.tables e below _ _ (s₁.setTop (mkF m 1 #[.val (.ref a0)] [(.ref a0)]))
  obtain ⟨T1, X1, e1, st1⟩ := getF X0 hx hZ hown (host := "") (Or.inl (hw _ (List.mem_of_getElem? (i := 17) rfl))) Via.refl e0 F_bytes_a0 (g := (mkF m 1 #[.val (.ref a0)] [(.ref a0)])) rfl rfl (hb hby d4_1)
  refine own_st ?_ st1
  show own_G p.tables e below _ _ (T1.setTop (mkF m 4 #[.val (.ref a0)] [(.ref v_bytes_a0)]))
  obtain ⟨cl2, Ar2, S2⟩ := B0
  refine own_st ?_ (X1.arraylength hx (by rw [e1]; exact Ar2.1) (State.isArrayOf_alike hZ.alike Ar2.2.1) (g := (mkF m 4 #[.val (.ref a0)] [(.ref v_bytes_a0)])) rfl rfl (hb hby d4_4))
  rw [len_of S2 hz]
  show own_G p.tables e below _ _ (T1.setTop (mkF m 5 #[.val (.ref a0)] [(.int z)]))
  refine own_st ?_ (fun t k => XS.i2l X1.here hx rfl (hb hby d4_5) rfl k)
  show own_G p.tables e below _ _ (T1.setTop (mkF m 6 #[.val (.ref a0)] [(.long (z.toInt64))]))
  refine own_st ?_ (fun t k => XS.aloadN X1.here hx rfl (hb hby d4_6) rfl rfl k)
  show own_G p.tables e below _ _ (T1.setTop (mkF m 7 #[.val (.ref a0)] [(.ref a0), (.long (z.toInt64))]))
  obtain ⟨T3, X3, e3, st3⟩ := getF X1 hx hZ hown (host := "") (Or.inl (hw _ (List.mem_of_getElem? (i := 15) rfl))) Via.refl e1 F_length_a0 (g := (mkF m 7 #[.val (.ref a0)] [(.ref a0), (.long (z.toInt64))])) rfl rfl (hb hby d4_7)
  refine own_st ?_ st3
  show own_G p.tables e below _ _ (T3.setTop (mkF m 10 #[.val (.ref a0)] [(.long v_length_a0), (.long (z.toInt64))]))
  refine own_st ?_ (fun t k => XS.lcmp X3.here hx rfl (hb hby d4_10) rfl k)
  show own_G p.tables e below _ _ (T3.setTop (mkF m 11 #[.val (.ref a0)] [(.int (lcmpW (z.toInt64) v_length_a0))]))
  by_cases hc11 : (lcmpW (z.toInt64) v_length_a0) = (0 : Int32)
  · refine own_st ?_ (fun t k => XS.ifNo X3.here hx rfl (hb hby d4_11) rfl ((if0 _ _).trans (teq hc11).2) k)
    show own_G p.tables e below _ _ (T3.setTop (mkF m 14 #[.val (.ref a0)] []))
    refine own_st ?_ (fun t k => XS.iconst X3.here hx rfl (hb hby d4_14) k)
    show own_G p.tables e below _ _ (T3.setTop (mkF m 15 #[.val (.ref a0)] [(.int (1 : Int32))]))
    refine own_st ?_ (fun t k => XS.goto X3.here hx rfl (pc0 := 15) (pc' := 19) rfl (hb hby d4_15) (by decide) (by decide) k)
    show own_G p.tables e below _ _ (T3.setTop (mkF m 19 #[.val (.ref a0)] [(.int (1 : Int32))]))
    refine own_retN X3 hx hlk (t := .boolean) hret (by simp) (hb hby d4_19) (by decide) (by decide) (z' := (1 : Int32)) rfl ⟨?_, N0, e3⟩
    rw [show f4 a0 z v_bytes_a0 v_length_a0 = (1 : Int32) from (if_pos hc11).trans (rfl)]
  · refine own_st ?_ (fun t k => XS.ifYes X3.here hx rfl (pc0 := 11) (pc' := 18) rfl (hb hby d4_11) rfl ((if0 _ _).trans (feq hc11).2) (by decide) (by decide) k)
    show own_G p.tables e below _ _ (T3.setTop (mkF m 18 #[.val (.ref a0)] []))
    refine own_st ?_ (fun t k => XS.iconst X3.here hx rfl (hb hby d4_18) k)
    show own_G p.tables e below _ _ (T3.setTop (mkF m 19 #[.val (.ref a0)] [(.int (0 : Int32))]))
    refine own_retN X3 hx hlk (t := .boolean) hret (by simp) (hb hby d4_19) (by decide) (by decide) (z' := (0 : Int32)) rfl ⟨?_, N0, e3⟩
    rw [show f4 a0 z v_bytes_a0 v_length_a0 = (0 : Int32) from (if_neg hc11).trans (rfl)]
theorem own_h1 {b v : Addr} {z : Int32} {n : Int64} (h : lcmpW n z.toInt64 = 0) : f4 b z v n = 1 := if_pos ((lw_eq _ _).mpr ((lw_eq _ _).mp h).symm)
theorem own_h0 {b v : Addr} {z : Int32} {n : Int64} (h : ¬ lcmpW n z.toInt64 = 0) : f4 b z v n = 0 := if_neg fun q => h ((lw_eq _ _).mpr ((lw_eq _ _).mp q).symm)
theorem d2_0 : decode jdk_30_method_1_code 0 = .ok (.aload_n 0, 1) := by decide +kernel
theorem d2_1 : decode jdk_30_method_1_code 1 = .ok (.invokespecial 1, 3) := by decide +kernel
theorem d2_4 : decode jdk_30_method_1_code 4 = .ok (.return_, 1) := by decide +kernel
theorem pn_2 : plainName "java/lang/Record" = true := by first | (simp [plainName, overriddenIn]; done) | decide +kernel
theorem ef_2 (m : MethodId) (a0 : Addr) : entryFrame m #[(.ref a0)] 1 = mkF m 0 #[.val (.ref a0)] [] := by first | (simp [entryFrame, mkF, argsToLocals, Value.category]; done) | rfl
set_option maxRecDepth 65536 in
set_option maxHeartbeats 40000000 in
theorem rm2 (l : Launch) (Z : State) (a0 : Array Value) (hw : ∀ d ∈ tables_1, d.before a0 Z = true) (ws : List Jvm.Cond) (a0 : Addr) (h0 : Heap) (n0 : Nat) (Z0 : n0 ≤ h0.size) :
    MetFree l (⟨"java/lang/Record", "<init>", "()V"⟩ : MethodName) (head1 (Jvm.Cond.code (⟨"java/lang/Record", "<init>", "()V"⟩ : MethodName) jdk_30_method_1_code 1 none :: ws) ({ frames := 1, cells := 0, slots := 0, locals := 12 } : Room)) (fun a U => a = #[(.ref a0)] ∧ Z.Warmed39 U.vm ∧ U.heap = h0) (fun _ _ _ _ _ => True) (fun _ U o U' => ∃ v L, o = .returned v ∧ own_QN h0 n0 v U'.heap L ∧ FrameEnd U o U' L ({ frames := 1, cells := 0, slots := 0, locals := 12 } : Room).cells ({ frames := 1, cells := 0, slots := 0, locals := 12 } : Room).slots) := by
  refine MetFree.of_bodySF (plainFor_of_name pn_2) hisR ?_
  intro p e s m args below meth c s₁ Bd hml0 hP hK
  obtain ⟨rfl, hZ, hh⟩ := hP
  have hx := Bd.exec
  have hby := Bd.bytes
  have hlk : meth.locks = false := BodyLoose.notSynchronized Bd
  have hret := Bd.returns
  have hml : c.maxLocals = 1 := hml0
  have hown : s.vm.findClass "java/lang/Record" = some m.cls := findClass_of_methodNamed Bd.named
  have hnm := (name_of_methodNamed Bd.named Bd.method).1
  have X0 : Stand p l e ({ frames := 1, cells := 0, slots := 0, locals := 12 } : Room) s m #[(.ref a0)] below meth c s₁ [] 0 0 := Stand.of_body Bd
  have e0 : s₁.heap = h0 := by rw [← hh, Bd.state]; rfl
  have N0 := Fr.nil n0
  show own_G p.tables e below (own_E s ({ frames := 1, cells := 0, slots := 0, locals := 12 } : Room).cells ({ frames := 1, cells := 0, slots := 0, locals := 12 } : Room).slots) (own_QN h0 n0) (s₁.setTop (entryFrame m #[(.ref a0)] 1))
  refine own_st ?_ (fun t k => castTop (ef_2 m a0) k)
  show own_G p.tables e below _ _ (s₁.setTop (mkF m 0 #[.val (.ref a0)] []))
  refine own_st ?_ (fun t k => XS.aloadN X0.here hx rfl (hb hby d2_0) rfl rfl k)
  show own_G p.tables e below _ _ (s₁.setTop (mkF m 1 #[.val (.ref a0)] [(.ref a0)]))
  obtain ⟨T1, X1, e1, st1⟩ := initO X0 hx hZ hown (hw _ (List.mem_of_getElem? (i := 12) rfl)) (hw _ (List.mem_of_getElem? (i := 13) rfl)) (hw _ (List.mem_of_getElem? (i := 14) rfl)) e0 (g := (mkF m 1 #[.val (.ref a0)] [(.ref a0)])) rfl (by rw [hml]; rfl) rfl (hb hby d2_1) (by decide) (W := 0) (by show 2 * 0 + _ ≤ _; exact Nat.le_of_eq rfl) (by decide)
  refine own_st ?_ st1
  show own_G p.tables e below _ _ (T1.setTop (mkF m 4 #[.val (.ref a0)] []))
  exact own_retV X1 hx hlk hret (hb hby d2_4) (by decide) (by decide) ⟨rfl, N0, e1⟩
theorem pd_0 : parseMethodDescriptor "()V" = some ⟨[], none⟩ := by decide +kernel
theorem d1_0 : decode prog_29_method_1_code 0 = .ok (.aload_n 0, 1) := by decide +kernel
theorem d1_1 : decode prog_29_method_1_code 1 = .ok (.invokespecial 1, 3) := by decide +kernel
theorem d1_4 : decode prog_29_method_1_code 4 = .ok (.aload_n 0, 1) := by decide +kernel
theorem d1_5 : decode prog_29_method_1_code 5 = .ok (.lload_n 1, 1) := by decide +kernel
theorem d1_6 : decode prog_29_method_1_code 6 = .ok (.putfield 7, 3) := by decide +kernel
theorem d1_9 : decode prog_29_method_1_code 9 = .ok (.aload_n 0, 1) := by decide +kernel
theorem d1_10 : decode prog_29_method_1_code 10 = .ok (.aload_n 3, 1) := by decide +kernel
theorem d1_11 : decode prog_29_method_1_code 11 = .ok (.putfield 13, 3) := by decide +kernel
theorem d1_14 : decode prog_29_method_1_code 14 = .ok (.return_, 1) := by decide +kernel
theorem pn_1 : plainName "com/example/fanoline/fanoline/io/LineReader$Line" = true := by first | (simp [plainName, overriddenIn]; done) | decide +kernel
theorem ef_1 (m : MethodId) (a0 : Addr) (q1 : Int64) (a2 : Addr) : entryFrame m #[(.ref a0), (.long q1), (.ref a2)] 4 = mkF m 0 #[.val (.ref a0), .val (.long q1), .second, .val (.ref a2)] [] := by first | (simp [entryFrame, mkF, argsToLocals, Value.category]; done) | rfl
set_option maxRecDepth 65536 in
set_option maxHeartbeats 40000000 in
theorem rm1 (l : Launch) (Z : State) (a0 : Array Value) (hw : ∀ d ∈ tables_1, d.before a0 Z = true) (ws : List Jvm.Cond) (a0 : Addr) (q1 : Int64) (a2 : Addr) (u1 : Value) (u2 : Value) (h0 : Heap) (n0 : Nat) (Z0 : n0 ≤ h0.size) (g_a0 : n0 ≤ a0) (E0 : Exa Z h0 a0 "com/example/fanoline/fanoline/io/LineReader$Line") (F1 : Fld Z h0 a0 "com/example/fanoline/fanoline/io/LineReader$Line" "length" "J" u1) (F2 : Fld Z h0 a0 "com/example/fanoline/fanoline/io/LineReader$Line" "bytes" "[B" u2) :
    MetFree l (⟨"com/example/fanoline/fanoline/io/LineReader$Line", "<init>", "(J[B)V"⟩ : MethodName) (head1 (Jvm.Cond.code (⟨"com/example/fanoline/fanoline/io/LineReader$Line", "<init>", "(J[B)V"⟩ : MethodName) prog_29_method_1_code 4 none :: ws) ({ frames := 2, cells := 0, slots := 0, locals := 24 } : Room)) (fun a U => a = #[(.ref a0), (.long q1), (.ref a2)] ∧ Z.Warmed39 U.vm ∧ U.heap = h0) (fun _ _ _ _ _ => True) (fun _ U o U' => ∃ v L, o = .returned v ∧ own_Q1 Z a0 q1 a2 h0 n0 v U'.heap L ∧ FrameEnd U o U' L ({ frames := 2, cells := 0, slots := 0, locals := 24 } : Room).cells ({ frames := 2, cells := 0, slots := 0, locals := 24 } : Room).slots) := by
  refine MetFree.of_bodySF (plainFor_of_name pn_1) hisR ?_
  intro p e s m args below meth c s₁ Bd hml0 hP hK
  obtain ⟨rfl, hZ, hh⟩ := hP
  have hx := Bd.exec
  have hby := Bd.bytes
  have hlk : meth.locks = false := BodyLoose.notSynchronized Bd
  have hret := Bd.returns
  have hml : c.maxLocals = 4 := hml0
  have hown : s.vm.findClass "com/example/fanoline/fanoline/io/LineReader$Line" = some m.cls := findClass_of_methodNamed Bd.named
  have hnm := (name_of_methodNamed Bd.named Bd.method).1
  have X0 : Stand p l e ({ frames := 2, cells := 0, slots := 0, locals := 24 } : Room) s m #[(.ref a0), (.long q1), (.ref a2)] below meth c s₁ [] 0 0 := Stand.of_body Bd
  have e0 : s₁.heap = h0 := by rw [← hh, Bd.state]; rfl
  have N0 := Fr.nil n0
  show own_G p.tables e below (own_E s ({ frames := 2, cells := 0, slots := 0, locals := 24 } : Room).cells ({ frames := 2, cells := 0, slots := 0, locals := 24 } : Room).slots) (own_Q1 Z a0 q1 a2 h0 n0) (s₁.setTop (entryFrame m #[(.ref a0), (.long q1), (.ref a2)] 4))
  refine own_st ?_ (fun t k => castTop (ef_1 m a0 q1 a2) k)
  show own_G p.tables e below _ _ (s₁.setTop (mkF m 0 #[.val (.ref a0), .val (.long q1), .second, .val (.ref a2)] []))
  refine own_st ?_ (fun t k => XS.aloadN X0.here hx rfl (hb hby d1_0) rfl rfl k)
  show own_G p.tables e below _ _ (s₁.setTop (mkF m 1 #[.val (.ref a0), .val (.long q1), .second, .val (.ref a2)] [(.ref a0)]))
  obtain ⟨_, _, ⟨T1, L1, k1, n1⟩, -, X1, ⟨Lc1, hQ1, l1, y1, z1⟩, st1⟩ := X0.specialBack hx (y := (⟨"java/lang/Record", "<init>", "()V"⟩ : MethodName)) rfl hown (mvT hZ (hw _ (List.mem_of_getElem? (i := 7) rfl))) (mvT hZ (hw _ (List.mem_of_getElem? (i := 8) rfl))) (mvT hZ (hw _ (List.mem_of_getElem? (i := 11) rfl))) (by decide) (backOf (W := 0) (rm2 l Z _ hw [] a0  h0 n0 Z0 ) hZ (hw _ (List.mem_of_getElem? (i := 11) rfl)) (hw _ (List.mem_of_getElem? (i := 10) rfl)) (by decide) (by decide)) (g := (mkF m 1 #[.val (.ref a0), .val (.long q1), .second, .val (.ref a2)] [(.ref a0)])) rfl (by rw [hml]; rfl) (Steps.refl _) (a := a0) (argsL := []) (rest := []) (lenOf pd_0 rfl) rfl (by show 2 * 0 + _ ≤ _; exact Nat.le_of_eq rfl) (hb hby d1_1) (fun _ _ => ⟨rfl, e0, (by decide : 0 + 0 ≤ _), (by decide : 0 + 0 ≤ _)⟩)
  dsimp only [Pt.U, Pt.locs, Pt.cells, Pt.slots] at X1 l1 y1 z1 st1 hQ1
  subst l1 y1 z1
  obtain ⟨rfl, N1q, e1⟩ := hQ1
  have N1 := Fr.app N0 N1q
  refine own_st ?_ (fun t k => st1.trans k)
  show own_G p.tables e below _ _ (T1.setTop (mkF m 4 #[.val (.ref a0), .val (.long q1), .second, .val (.ref a2)] []))
  refine own_st ?_ (fun t k => XS.aloadN X1.here hx rfl (hb hby d1_4) rfl rfl k)
  show own_G p.tables e below _ _ (T1.setTop (mkF m 5 #[.val (.ref a0), .val (.long q1), .second, .val (.ref a2)] [(.ref a0)]))
  refine own_st ?_ (fun t k => XS.lloadN X1.here hx rfl (hb hby d1_5) rfl k)
  show own_G p.tables e below _ _ (T1.setTop (mkF m 6 #[.val (.ref a0), .val (.long q1), .second, .val (.ref a2)] [(.long q1), (.ref a0)]))
  obtain ⟨T2, h2, X2, e2, W2, st2⟩ := putF X1 hx hZ hown (host := "") (Or.inl (hw _ (List.mem_of_getElem? (i := 15) rfl))) Via.refl e1 F1 E0 (Or.inr ⟨(hw _ (List.mem_of_getElem? (i := 16) rfl)), rfl, hnm⟩) (hw _ (List.mem_of_getElem? (i := 2) rfl)) (ty := .long) (by decide) rfl rfl (g := (mkF m 6 #[.val (.ref a0), .val (.long q1), .second, .val (.ref a2)] [(.long q1), (.ref a0)])) rfl rfl (hb hby d1_6)
  have N2 := Fr.snoc X2 N1 g_a0
  have F3_E : Exa Z h2 a0 "com/example/fanoline/fanoline/io/LineReader$Line" := E0.wr W2
  have F4_length : Fld Z h2 a0 "com/example/fanoline/fanoline/io/LineReader$Line" "length" "J" (.long q1) := F1.same W2
  have F5_bytes : Fld Z h2 a0 "com/example/fanoline/fanoline/io/LineReader$Line" "bytes" "[B" u2 := F2.other W2 (Or.inr (slot_ne (Or.inr (hw _ (List.mem_of_getElem? (i := 18) rfl))) (Or.inr (hw _ (List.mem_of_getElem? (i := 16) rfl))) (by decide) (t := (.array .byte)) (t' := .long) (by decide) (by decide)))
  have Zs6 : n0 ≤ h2.size := Nat.le_trans Z0 (Keep.of_wr W2).1
  have Kc7 : Keep h0 h2 [a0] := (Keep.refl h0 [a0]).wr W2 (Or.inl (List.mem_of_getElem? (i := 0) rfl))
  refine own_st ?_ st2
  show own_G p.tables e below _ _ (T2.setTop (mkF m 9 #[.val (.ref a0), .val (.long q1), .second, .val (.ref a2)] []))
  refine own_st ?_ (fun t k => XS.aloadN X2.here hx rfl (hb hby d1_9) rfl rfl k)
  show own_G p.tables e below _ _ (T2.setTop (mkF m 10 #[.val (.ref a0), .val (.long q1), .second, .val (.ref a2)] [(.ref a0)]))
  refine own_st ?_ (fun t k => XS.aloadN X2.here hx rfl (hb hby d1_10) rfl rfl k)
  show own_G p.tables e below _ _ (T2.setTop (mkF m 11 #[.val (.ref a0), .val (.long q1), .second, .val (.ref a2)] [(.ref a2), (.ref a0)]))
  obtain ⟨T8, h8, X8, e8, W8, st8⟩ := putF X2 hx hZ hown (host := "") (Or.inl (hw _ (List.mem_of_getElem? (i := 17) rfl))) Via.refl e2 F5_bytes F3_E (Or.inr ⟨(hw _ (List.mem_of_getElem? (i := 18) rfl)), rfl, hnm⟩) (hw _ (List.mem_of_getElem? (i := 2) rfl)) (ty := (.array .byte)) (by decide) rfl rfl (g := (mkF m 11 #[.val (.ref a0), .val (.long q1), .second, .val (.ref a2)] [(.ref a2), (.ref a0)])) rfl rfl (hb hby d1_11)
  have N8 := Fr.snoc X8 N2 g_a0
  have F9_E : Exa Z h8 a0 "com/example/fanoline/fanoline/io/LineReader$Line" := F3_E.wr W8
  have F10_length : Fld Z h8 a0 "com/example/fanoline/fanoline/io/LineReader$Line" "length" "J" (.long q1) := F4_length.other W8 (Or.inr (slot_ne (Or.inr (hw _ (List.mem_of_getElem? (i := 16) rfl))) (Or.inr (hw _ (List.mem_of_getElem? (i := 18) rfl))) (by decide) (t := .long) (t' := (.array .byte)) (by decide) (by decide)))
  have F11_bytes : Fld Z h8 a0 "com/example/fanoline/fanoline/io/LineReader$Line" "bytes" "[B" (.ref a2) := F5_bytes.same W8
  have Zs12 : n0 ≤ h8.size := Nat.le_trans Zs6 (Keep.of_wr W8).1
  have Kc13 : Keep h0 h8 [a0] := Kc7.wr W8 (Or.inl (List.mem_of_getElem? (i := 0) rfl))
  refine own_st ?_ st8
  show own_G p.tables e below _ _ (T8.setTop (mkF m 14 #[.val (.ref a0), .val (.long q1), .second, .val (.ref a2)] []))
  refine own_retV X8 hx hlk hret (hb hby d1_14) (by decide) (by decide) ⟨rfl, N8, ?_⟩
  rw [e8]
  exact ⟨Kc13, F10_length, F11_bytes⟩
theorem pd_2 : parseMethodDescriptor "()Z" = some ⟨[], some .boolean⟩ := by decide +kernel
theorem pd_1 : parseMethodDescriptor "(J[B)V" = some ⟨[.long, (.array .byte)], none⟩ := by decide +kernel
theorem pn_0 : plainName "com/example/fanoline/fanoline/io/LineHeldPinLaw" = true := by first | (simp [plainName, overriddenIn]; done) | decide +kernel
theorem ef_0 (m : MethodId) (q0 : Int64) (p1 : Int32) : entryFrame m #[(.long q0), (.int p1)] maxLocals = mkF m 0 #[.val (.long q0), .second, .val (.int p1), .unset, .unset, .unset, .unset, .unset, .unset, .unset] [] := by first | (simp [entryFrame, mkF, argsToLocals, Value.category, maxLocals]; done) | rfl
set_option maxRecDepth 65536 in
set_option maxHeartbeats 40000000 in
theorem rm0 (l : Launch) (Z : State) (a0 : Array Value) (hw : ∀ d ∈ tables_1, d.before a0 Z = true) (ws : List Jvm.Cond) (q0 : Int64) (p1 : Int32) (h0 : Heap) (n0 : Nat) (Z0 : n0 ≤ h0.size) :
    MetFree l x (head1 (Jvm.Cond.code x code maxLocals ret :: ws) room_1) (fun a U => a = #[(.long q0), (.int p1)] ∧ Z.Warmed39 U.vm ∧ U.heap = h0) (fun _ _ _ _ _ => True) (fun _ U o U' => ∃ v L, o = .returned v ∧ own_QL (.int 1) n0 v U'.heap L ∧ FrameEnd U o U' L room_1.cells room_1.slots) := by
  refine MetFree.of_bodySF (plainFor_of_name pn_0) hisR ?_
  intro p e s m args below meth c s₁ Bd hml0 hP hK
  obtain ⟨rfl, hZ, hh⟩ := hP
  have hx := Bd.exec
  have hby := Bd.bytes
  have hlk : meth.locks = false := BodyLoose.notSynchronized Bd
  have hret := Bd.returns
  have hml : c.maxLocals = 10 := hml0
  have hown : s.vm.findClass "com/example/fanoline/fanoline/io/LineHeldPinLaw" = some m.cls := findClass_of_methodNamed Bd.named
  have hnm := (name_of_methodNamed Bd.named Bd.method).1
  have X0 : Stand p l e room_1 s m #[(.long q0), (.int p1)] below meth c s₁ [] 0 0 := Stand.of_body Bd
  have e0 : s₁.heap = h0 := by rw [← hh, Bd.state]; rfl
  have N0 := Fr.nil n0
  show own_G p.tables e below (own_E s room_1.cells room_1.slots) (own_QL (.int 1) n0) (s₁.setTop (entryFrame m #[(.long q0), (.int p1)] maxLocals))
  refine own_st ?_ (fun t k => castTop (ef_0 m q0 p1) k)
  show own_G p.tables e below _ _ (s₁.setTop (mkF m 0 #[.val (.long q0), .second, .val (.int p1), .unset, .unset, .unset, .unset, .unset, .unset, .unset] []))
  refine own_st ?_ (fun t k => XS.iloadN X0.here hx rfl (hb hby at_0) rfl k)
  show own_G p.tables e below _ _ (s₁.setTop (mkF m 1 #[.val (.long q0), .second, .val (.int p1), .unset, .unset, .unset, .unset, .unset, .unset, .unset] [(.int p1)]))
  refine own_st ?_ (fun t k => XS.bipush X0.here hx rfl (hb hby at_1) k)
  show own_G p.tables e below _ _ (s₁.setTop (mkF m 3 #[.val (.long q0), .second, .val (.int p1), .unset, .unset, .unset, .unset, .unset, .unset, .unset] [(.int (7 : Int32)), (.int p1)]))
  refine own_st ?_ (fun t k => XS.iand X0.here hx rfl (hb hby at_3) rfl k)
  show own_G p.tables e below _ _ (s₁.setTop (mkF m 4 #[.val (.long q0), .second, .val (.int p1), .unset, .unset, .unset, .unset, .unset, .unset, .unset] [(.int (p1 &&& (7 : Int32)))]))
  refine own_st ?_ (fun t k => XS.istoreN X0.here hx rfl (hb hby at_4) rfl (l' := #[.val (.long q0), .second, .val (.int p1), .val (.int (p1 &&& (7 : Int32))), .unset, .unset, .unset, .unset, .unset, .unset]) rfl k)
  show own_G p.tables e below _ _ (s₁.setTop (mkF m 5 #[.val (.long q0), .second, .val (.int p1), .val (.int (p1 &&& (7 : Int32))), .unset, .unset, .unset, .unset, .unset, .unset] []))
  refine own_st ?_ (fun t k => XS.iloadN X0.here hx rfl (hb hby at_5) rfl k)
  show own_G p.tables e below _ _ (s₁.setTop (mkF m 6 #[.val (.long q0), .second, .val (.int p1), .val (.int (p1 &&& (7 : Int32))), .unset, .unset, .unset, .unset, .unset, .unset] [(.int (p1 &&& (7 : Int32)))]))
  obtain ⟨T1, h1, k1, X1, e1, E1, A1, st1⟩ := newP X0 hx hZ (hw _ (List.mem_of_getElem? (i := 0) rfl)) e0 (g := (mkF m 6 #[.val (.long q0), .second, .val (.int p1), .val (.int (p1 &&& (7 : Int32))), .unset, .unset, .unset, .unset, .unset, .unset] [(.int (p1 &&& (7 : Int32)))])) rfl (hb hby at_6) rfl (own_n p1).1 (cap := 7) (own_n p1).2 (by decide) (by decide) (by decide)
  obtain ⟨b1, gz1⟩ : ∃ z, z = h0.size := ⟨_, rfl⟩
  rw [← gz1] at A1 st1
  have g_b1 : n0 ≤ b1 := Nat.le_trans Z0 (Nat.le_of_eq gz1.symm)
  have Zs2 : n0 ≤ h1.size := Nat.le_trans Z0 E1.1
  have F_b1 : own_B Z h1 b1 (p1 &&& (7 : Int32)) := ⟨_, A1, sz_new _ _ _⟩
  refine own_st ?_ st1
  show own_G p.tables e below _ _ (T1.setTop (mkF m 8 #[.val (.long q0), .second, .val (.int p1), .val (.int (p1 &&& (7 : Int32))), .unset, .unset, .unset, .unset, .unset, .unset] [(.ref b1)]))
  refine own_st ?_ (fun t k => XS.astore X1.here hx rfl (hb hby at_8) rfl rfl (l' := #[.val (.long q0), .second, .val (.int p1), .val (.int (p1 &&& (7 : Int32))), .val (.ref b1), .unset, .unset, .unset, .unset, .unset]) rfl k)
  show own_G p.tables e below _ _ (T1.setTop (mkF m 10 #[.val (.long q0), .second, .val (.int p1), .val (.int (p1 &&& (7 : Int32))), .val (.ref b1), .unset, .unset, .unset, .unset, .unset] []))
  refine own_st ?_ (fun t k => XS.iloadN X1.here hx rfl (hb hby at_10) rfl k)
  show own_G p.tables e below _ _ (T1.setTop (mkF m 11 #[.val (.long q0), .second, .val (.int p1), .val (.int (p1 &&& (7 : Int32))), .val (.ref b1), .unset, .unset, .unset, .unset, .unset] [(.int (p1 &&& (7 : Int32)))]))
  by_cases hc11 : (0 : Int32) < (p1 &&& (7 : Int32))
  · refine own_st ?_ (fun t k => XS.ifNo X1.here hx rfl (hb hby at_11) rfl ((if0 _ _).trans (tlt hc11).2.2.2) k)
    show own_G p.tables e below _ _ (T1.setTop (mkF m 14 #[.val (.long q0), .second, .val (.int p1), .val (.int (p1 &&& (7 : Int32))), .val (.ref b1), .unset, .unset, .unset, .unset, .unset] []))
    refine own_st ?_ (fun t k => XS.aload X1.here hx rfl (hb hby at_14) rfl rfl k)
    show own_G p.tables e below _ _ (T1.setTop (mkF m 16 #[.val (.long q0), .second, .val (.int p1), .val (.int (p1 &&& (7 : Int32))), .val (.ref b1), .unset, .unset, .unset, .unset, .unset] [(.ref b1)]))
    refine own_st ?_ (fun t k => XS.iconst X1.here hx rfl (hb hby at_16) k)
    show own_G p.tables e below _ _ (T1.setTop (mkF m 17 #[.val (.long q0), .second, .val (.int p1), .val (.int (p1 &&& (7 : Int32))), .val (.ref b1), .unset, .unset, .unset, .unset, .unset] [(.int (0 : Int32)), (.ref b1)]))
    refine own_st ?_ (fun t k => XS.iloadN X1.here hx rfl (hb hby at_17) rfl k)
    show own_G p.tables e below _ _ (T1.setTop (mkF m 18 #[.val (.long q0), .second, .val (.int p1), .val (.int (p1 &&& (7 : Int32))), .val (.ref b1), .unset, .unset, .unset, .unset, .unset] [(.int p1), (.int (0 : Int32)), (.ref b1)]))
    refine own_st ?_ (fun t k => XS.bipush X1.here hx rfl (hb hby at_18) k)
    show own_G p.tables e below _ _ (T1.setTop (mkF m 20 #[.val (.long q0), .second, .val (.int p1), .val (.int (p1 &&& (7 : Int32))), .val (.ref b1), .unset, .unset, .unset, .unset, .unset] [(.int (8 : Int32)), (.int p1), (.int (0 : Int32)), (.ref b1)]))
    refine own_st ?_ (fun t k => XS.ishr X1.here hx rfl (hb hby at_20) rfl k)
    show own_G p.tables e below _ _ (T1.setTop (mkF m 21 #[.val (.long q0), .second, .val (.int p1), .val (.int (p1 &&& (7 : Int32))), .val (.ref b1), .unset, .unset, .unset, .unset, .unset] [(.int (p1 >>> ((8 : Int32) &&& 31))), (.int (0 : Int32)), (.ref b1)]))
    refine own_st ?_ (fun t k => XS.i2b X1.here hx rfl (hb hby at_21) rfl k)
    show own_G p.tables e below _ _ (T1.setTop (mkF m 22 #[.val (.long q0), .second, .val (.int p1), .val (.int (p1 &&& (7 : Int32))), .val (.ref b1), .unset, .unset, .unset, .unset, .unset] [(.int ((p1 >>> ((8 : Int32) &&& 31)).toInt8.toInt32)), (.int (0 : Int32)), (.ref b1)]))
    obtain ⟨cl3, Ar3, S3⟩ := F_b1
    have hin3 : ¬ ((0 : Int32) < 0 ∨ cl3.slots.size ≤ ((0 : Int32)).toNatClampNeg) := own_in S3 hc11
    obtain ⟨T3, h3, X3, e3, W3, st3⟩ := stB X1 hx hZ e1 Ar3 (j := (0 : Int32)) hin3 (g := (mkF m 22 #[.val (.long q0), .second, .val (.int p1), .val (.int (p1 &&& (7 : Int32))), .val (.ref b1), .unset, .unset, .unset, .unset, .unset] [(.int ((p1 >>> ((8 : Int32) &&& 31)).toInt8.toInt32)), (.int (0 : Int32)), (.ref b1)])) rfl rfl (hb hby at_22)
    have N3 := Fr.snoc X3 N0 g_b1
    have Zs4 : n0 ≤ h3.size := Nat.le_trans Zs2 (Keep.of_wr W3).1
    have F3 : own_B Z h3 b1 (p1 &&& (7 : Int32)) := own_B_set ⟨cl3, Ar3, S3⟩ W3
    refine own_st ?_ st3
    show own_G p.tables e below _ _ (T3.setTop (mkF m 23 #[.val (.long q0), .second, .val (.int p1), .val (.int (p1 &&& (7 : Int32))), .val (.ref b1), .unset, .unset, .unset, .unset, .unset] []))
    refine own_st ?_ (fun t k => XS.iloadN X3.here hx rfl (hb hby at_23) rfl k)
    show own_G p.tables e below _ _ (T3.setTop (mkF m 24 #[.val (.long q0), .second, .val (.int p1), .val (.int (p1 &&& (7 : Int32))), .val (.ref b1), .unset, .unset, .unset, .unset, .unset] [(.int p1)]))
    refine own_st ?_ (fun t k => XS.iconst X3.here hx rfl (hb hby at_24) k)
    show own_G p.tables e below _ _ (T3.setTop (mkF m 25 #[.val (.long q0), .second, .val (.int p1), .val (.int (p1 &&& (7 : Int32))), .val (.ref b1), .unset, .unset, .unset, .unset, .unset] [(.int (3 : Int32)), (.int p1)]))
    refine own_st ?_ (fun t k => XS.iushr X3.here hx rfl (hb hby at_25) rfl k)
    show own_G p.tables e below _ _ (T3.setTop (mkF m 26 #[.val (.long q0), .second, .val (.int p1), .val (.int (p1 &&& (7 : Int32))), .val (.ref b1), .unset, .unset, .unset, .unset, .unset] [(.int ((p1.toUInt32 >>> ((3 : Int32) &&& 31).toUInt32).toInt32))]))
    refine own_st ?_ (fun t k => XS.iconst X3.here hx rfl (hb hby at_26) k)
    show own_G p.tables e below _ _ (T3.setTop (mkF m 27 #[.val (.long q0), .second, .val (.int p1), .val (.int (p1 &&& (7 : Int32))), .val (.ref b1), .unset, .unset, .unset, .unset, .unset] [(.int (3 : Int32)), (.int ((p1.toUInt32 >>> ((3 : Int32) &&& 31).toUInt32).toInt32))]))
    refine own_st ?_ (fun t k => XS.iand X3.here hx rfl (hb hby at_27) rfl k)
    show own_G p.tables e below _ _ (T3.setTop (mkF m 28 #[.val (.long q0), .second, .val (.int p1), .val (.int (p1 &&& (7 : Int32))), .val (.ref b1), .unset, .unset, .unset, .unset, .unset] [(.int (((p1.toUInt32 >>> ((3 : Int32) &&& 31).toUInt32).toInt32) &&& (3 : Int32)))]))
    refine own_st ?_ (fun t k => XS.istore X3.here hx rfl (hb hby at_28) rfl (l' := #[.val (.long q0), .second, .val (.int p1), .val (.int (p1 &&& (7 : Int32))), .val (.ref b1), .val (.int (((p1.toUInt32 >>> ((3 : Int32) &&& 31).toUInt32).toInt32) &&& (3 : Int32))), .unset, .unset, .unset, .unset]) rfl k)
    show own_G p.tables e below _ _ (T3.setTop (mkF m 30 #[.val (.long q0), .second, .val (.int p1), .val (.int (p1 &&& (7 : Int32))), .val (.ref b1), .val (.int (((p1.toUInt32 >>> ((3 : Int32) &&& 31).toUInt32).toInt32) &&& (3 : Int32))), .unset, .unset, .unset, .unset] []))
    refine own_st ?_ (fun t k => XS.iload X3.here hx rfl (hb hby at_30) rfl k)
    show own_G p.tables e below _ _ (T3.setTop (mkF m 32 #[.val (.long q0), .second, .val (.int p1), .val (.int (p1 &&& (7 : Int32))), .val (.ref b1), .val (.int (((p1.toUInt32 >>> ((3 : Int32) &&& 31).toUInt32).toInt32) &&& (3 : Int32))), .unset, .unset, .unset, .unset] [(.int (((p1.toUInt32 >>> ((3 : Int32) &&& 31).toUInt32).toInt32) &&& (3 : Int32)))]))
    by_cases hc32 : (((p1.toUInt32 >>> ((3 : Int32) &&& 31).toUInt32).toInt32) &&& (3 : Int32)) = (0 : Int32)
    · refine own_st ?_ (fun t k => XS.ifNo X3.here hx rfl (hb hby at_32) rfl ((if0 _ _).trans (teq hc32).2) k)
      show own_G p.tables e below _ _ (T3.setTop (mkF m 35 #[.val (.long q0), .second, .val (.int p1), .val (.int (p1 &&& (7 : Int32))), .val (.ref b1), .val (.int (((p1.toUInt32 >>> ((3 : Int32) &&& 31).toUInt32).toInt32) &&& (3 : Int32))), .unset, .unset, .unset, .unset] []))
      refine own_st ?_ (fun t k => XS.lloadN X3.here hx rfl (hb hby at_35) rfl k)
      show own_G p.tables e below _ _ (T3.setTop (mkF m 36 #[.val (.long q0), .second, .val (.int p1), .val (.int (p1 &&& (7 : Int32))), .val (.ref b1), .val (.int (((p1.toUInt32 >>> ((3 : Int32) &&& 31).toUInt32).toInt32) &&& (3 : Int32))), .unset, .unset, .unset, .unset] [(.long q0)]))
      refine own_st ?_ (fun t k => XS.lstore X3.here hx rfl (hb hby at_36) rfl (l' := #[.val (.long q0), .second, .val (.int p1), .val (.int (p1 &&& (7 : Int32))), .val (.ref b1), .val (.int (((p1.toUInt32 >>> ((3 : Int32) &&& 31).toUInt32).toInt32) &&& (3 : Int32))), .val (.long q0), .second, .unset, .unset]) rfl k)
      show own_G p.tables e below _ _ (T3.setTop (mkF m 38 #[.val (.long q0), .second, .val (.int p1), .val (.int (p1 &&& (7 : Int32))), .val (.ref b1), .val (.int (((p1.toUInt32 >>> ((3 : Int32) &&& 31).toUInt32).toInt32) &&& (3 : Int32))), .val (.long q0), .second, .unset, .unset] []))
      refine own_st ?_ (fun t k => XS.goto X3.here hx rfl (pc0 := 38) (pc' := 82) rfl (hb hby at_38) (by decide) (by decide) k)
      show own_G p.tables e below _ _ (T3.setTop (mkF m 82 #[.val (.long q0), .second, .val (.int p1), .val (.int (p1 &&& (7 : Int32))), .val (.ref b1), .val (.int (((p1.toUInt32 >>> ((3 : Int32) &&& 31).toUInt32).toInt32) &&& (3 : Int32))), .val (.long q0), .second, .unset, .unset] []))
      obtain ⟨T5, h5, X5, e5, E5, A5, D5, -, st5⟩ := newO X3 hx hZ hown (hw _ (List.mem_of_getElem? (i := 1) rfl)) (hw _ (List.mem_of_getElem? (i := 2) rfl)) (hw _ (List.mem_of_getElem? (i := 3) rfl)) e3 (g := (mkF m 82 #[.val (.long q0), .second, .val (.int p1), .val (.int (p1 &&& (7 : Int32))), .val (.ref b1), .val (.int (((p1.toUInt32 >>> ((3 : Int32) &&& 31).toUInt32).toInt32) &&& (3 : Int32))), .val (.long q0), .second, .unset, .unset] [])) rfl (hb hby at_82) (by decide) (by decide)
      obtain ⟨b5, gz5⟩ : ∃ z, z = h3.size := ⟨_, rfl⟩
      rw [← gz5] at A5 D5 st5
      have ne_b1_b5 : b1 ≠ b5 := Nat.ne_of_lt (Nat.lt_of_lt_of_le (own_B_lt F3) (Nat.le_of_eq gz5.symm))
      have g_b5 : n0 ≤ b5 := Nat.le_trans Zs4 (Nat.le_of_eq gz5.symm)
      have F6_P : own_B Z h5 b1 (p1 &&& (7 : Int32)) := own_B_ext F3 E5
      have Zs7 : n0 ≤ h5.size := Nat.le_trans Zs4 E5.1
      have F_length_b5 : Fld Z h5 b5 "com/example/fanoline/fanoline/io/LineReader$Line" "length" "J" (.long (0 : Int64)) := D5 (Or.inr (hw _ (List.mem_of_getElem? (i := 16) rfl))) (ty := .long) (by decide)
      have F_bytes_b5 : Fld Z h5 b5 "com/example/fanoline/fanoline/io/LineReader$Line" "bytes" "[B" .null := D5 (Or.inr (hw _ (List.mem_of_getElem? (i := 18) rfl))) (ty := (.array .byte)) (by decide)
      refine own_st ?_ st5
      show own_G p.tables e below _ _ (T5.setTop (mkF m 85 #[.val (.long q0), .second, .val (.int p1), .val (.int (p1 &&& (7 : Int32))), .val (.ref b1), .val (.int (((p1.toUInt32 >>> ((3 : Int32) &&& 31).toUInt32).toInt32) &&& (3 : Int32))), .val (.long q0), .second, .unset, .unset] [(.ref b5)]))
      refine own_st ?_ (fun t k => XS.dup X5.here hx rfl (hb hby at_85) rfl rfl k)
      show own_G p.tables e below _ _ (T5.setTop (mkF m 86 #[.val (.long q0), .second, .val (.int p1), .val (.int (p1 &&& (7 : Int32))), .val (.ref b1), .val (.int (((p1.toUInt32 >>> ((3 : Int32) &&& 31).toUInt32).toInt32) &&& (3 : Int32))), .val (.long q0), .second, .unset, .unset] [(.ref b5), (.ref b5)]))
      refine own_st ?_ (fun t k => XS.lload X5.here hx rfl (hb hby at_86) rfl k)
      show own_G p.tables e below _ _ (T5.setTop (mkF m 88 #[.val (.long q0), .second, .val (.int p1), .val (.int (p1 &&& (7 : Int32))), .val (.ref b1), .val (.int (((p1.toUInt32 >>> ((3 : Int32) &&& 31).toUInt32).toInt32) &&& (3 : Int32))), .val (.long q0), .second, .unset, .unset] [(.long q0), (.ref b5), (.ref b5)]))
      refine own_st ?_ (fun t k => XS.aload X5.here hx rfl (hb hby at_88) rfl rfl k)
      show own_G p.tables e below _ _ (T5.setTop (mkF m 90 #[.val (.long q0), .second, .val (.int p1), .val (.int (p1 &&& (7 : Int32))), .val (.ref b1), .val (.int (((p1.toUInt32 >>> ((3 : Int32) &&& 31).toUInt32).toInt32) &&& (3 : Int32))), .val (.long q0), .second, .unset, .unset] [(.ref b1), (.long q0), (.ref b5), (.ref b5)]))
      obtain ⟨_, _, ⟨T8, L8, k8, n8⟩, -, X8, ⟨Lc8, hQ8, l8, y8, z8⟩, st8⟩ := X5.specialBack hx (y := (⟨"com/example/fanoline/fanoline/io/LineReader$Line", "<init>", "(J[B)V"⟩ : MethodName)) rfl hown (mvT hZ (hw _ (List.mem_of_getElem? (i := 4) rfl))) (mvT hZ (hw _ (List.mem_of_getElem? (i := 5) rfl))) (mvT hZ (hw _ (List.mem_of_getElem? (i := 6) rfl))) (by decide) (backOf (W := 1) (rm1 l Z _ hw [] b5 q0 b1 (.long (0 : Int64)) .null h5 n0 Zs7 g_b5 A5 F_length_b5 F_bytes_b5) hZ (hw _ (List.mem_of_getElem? (i := 6) rfl)) (hw _ (List.mem_of_getElem? (i := 3) rfl)) (by decide) (by decide)) (g := (mkF m 90 #[.val (.long q0), .second, .val (.int p1), .val (.int (p1 &&& (7 : Int32))), .val (.ref b1), .val (.int (((p1.toUInt32 >>> ((3 : Int32) &&& 31).toUInt32).toInt32) &&& (3 : Int32))), .val (.long q0), .second, .unset, .unset] [(.ref b1), (.long q0), (.ref b5), (.ref b5)])) rfl (by rw [hml]; rfl) (Steps.refl _) (a := b5) (argsL := [(.long q0), (.ref b1)]) (rest := [(.ref b5)]) (lenOf pd_1 rfl) rfl (by show 2 * 0 + _ ≤ _; exact Nat.le_of_eq rfl) (hb hby at_90) (fun _ _ => ⟨rfl, e5, (by decide : 2 + 0 ≤ _), (by decide : 9 + 0 ≤ _)⟩)
      dsimp only [Pt.U, Pt.locs, Pt.cells, Pt.slots] at X8 l8 y8 z8 st8 hQ8
      subst l8 y8 z8
      obtain ⟨rfl, N8q, hq8⟩ := hQ8
      have N8 := Fr.app N3 N8q
      obtain ⟨K8, Fl8, Fb8⟩ := hq8
      have F9_P : own_B Z T8.heap b1 (p1 &&& (7 : Int32)) := own_B_keep F6_P K8 (ninS ne_b1_b5 nin0)
      have F10_E : Exa Z T8.heap b5 "com/example/fanoline/fanoline/io/LineReader$Line" := A5.keep K8
      have Zs11 : n0 ≤ T8.heap.size := Nat.le_trans Zs7 K8.1
      refine own_st ?_ (fun t k => st8.trans k)
      show own_G p.tables e below _ _ (T8.setTop (mkF m 93 #[.val (.long q0), .second, .val (.int p1), .val (.int (p1 &&& (7 : Int32))), .val (.ref b1), .val (.int (((p1.toUInt32 >>> ((3 : Int32) &&& 31).toUInt32).toInt32) &&& (3 : Int32))), .val (.long q0), .second, .unset, .unset] [(.ref b5)]))
      refine own_st ?_ (fun t k => XS.astore X8.here hx rfl (hb hby at_93) rfl rfl (l' := #[.val (.long q0), .second, .val (.int p1), .val (.int (p1 &&& (7 : Int32))), .val (.ref b1), .val (.int (((p1.toUInt32 >>> ((3 : Int32) &&& 31).toUInt32).toInt32) &&& (3 : Int32))), .val (.long q0), .second, .val (.ref b5), .unset]) rfl k)
      show own_G p.tables e below _ _ (T8.setTop (mkF m 95 #[.val (.long q0), .second, .val (.int p1), .val (.int (p1 &&& (7 : Int32))), .val (.ref b1), .val (.int (((p1.toUInt32 >>> ((3 : Int32) &&& 31).toUInt32).toInt32) &&& (3 : Int32))), .val (.long q0), .second, .val (.ref b5), .unset] []))
      refine own_st ?_ (fun t k => XS.lload X8.here hx rfl (hb hby at_95) rfl k)
      show own_G p.tables e below _ _ (T8.setTop (mkF m 97 #[.val (.long q0), .second, .val (.int p1), .val (.int (p1 &&& (7 : Int32))), .val (.ref b1), .val (.int (((p1.toUInt32 >>> ((3 : Int32) &&& 31).toUInt32).toInt32) &&& (3 : Int32))), .val (.long q0), .second, .val (.ref b5), .unset] [(.long q0)]))
      refine own_st ?_ (fun t k => XS.iloadN X8.here hx rfl (hb hby at_97) rfl k)
      show own_G p.tables e below _ _ (T8.setTop (mkF m 98 #[.val (.long q0), .second, .val (.int p1), .val (.int (p1 &&& (7 : Int32))), .val (.ref b1), .val (.int (((p1.toUInt32 >>> ((3 : Int32) &&& 31).toUInt32).toInt32) &&& (3 : Int32))), .val (.long q0), .second, .val (.ref b5), .unset] [(.int (p1 &&& (7 : Int32))), (.long q0)]))
      refine own_st ?_ (fun t k => XS.i2l X8.here hx rfl (hb hby at_98) rfl k)
      show own_G p.tables e below _ _ (T8.setTop (mkF m 99 #[.val (.long q0), .second, .val (.int p1), .val (.int (p1 &&& (7 : Int32))), .val (.ref b1), .val (.int (((p1.toUInt32 >>> ((3 : Int32) &&& 31).toUInt32).toInt32) &&& (3 : Int32))), .val (.long q0), .second, .val (.ref b5), .unset] [(.long ((p1 &&& (7 : Int32)).toInt64)), (.long q0)]))
      refine own_st ?_ (fun t k => XS.lcmp X8.here hx rfl (hb hby at_99) rfl k)
      show own_G p.tables e below _ _ (T8.setTop (mkF m 100 #[.val (.long q0), .second, .val (.int p1), .val (.int (p1 &&& (7 : Int32))), .val (.ref b1), .val (.int (((p1.toUInt32 >>> ((3 : Int32) &&& 31).toUInt32).toInt32) &&& (3 : Int32))), .val (.long q0), .second, .val (.ref b5), .unset] [(.int (lcmpW q0 ((p1 &&& (7 : Int32)).toInt64)))]))
      by_cases hc100 : (lcmpW q0 ((p1 &&& (7 : Int32)).toInt64)) = (0 : Int32)
      · refine own_st ?_ (fun t k => XS.ifNo X8.here hx rfl (hb hby at_100) rfl ((if0 _ _).trans (teq hc100).2) k)
        show own_G p.tables e below _ _ (T8.setTop (mkF m 103 #[.val (.long q0), .second, .val (.int p1), .val (.int (p1 &&& (7 : Int32))), .val (.ref b1), .val (.int (((p1.toUInt32 >>> ((3 : Int32) &&& 31).toUInt32).toInt32) &&& (3 : Int32))), .val (.long q0), .second, .val (.ref b5), .unset] []))
        refine own_st ?_ (fun t k => XS.iconst X8.here hx rfl (hb hby at_103) k)
        show own_G p.tables e below _ _ (T8.setTop (mkF m 104 #[.val (.long q0), .second, .val (.int p1), .val (.int (p1 &&& (7 : Int32))), .val (.ref b1), .val (.int (((p1.toUInt32 >>> ((3 : Int32) &&& 31).toUInt32).toInt32) &&& (3 : Int32))), .val (.long q0), .second, .val (.ref b5), .unset] [(.int (1 : Int32))]))
        refine own_st ?_ (fun t k => XS.goto X8.here hx rfl (pc0 := 104) (pc' := 108) rfl (hb hby at_104) (by decide) (by decide) k)
        show own_G p.tables e below _ _ (T8.setTop (mkF m 108 #[.val (.long q0), .second, .val (.int p1), .val (.int (p1 &&& (7 : Int32))), .val (.ref b1), .val (.int (((p1.toUInt32 >>> ((3 : Int32) &&& 31).toUInt32).toInt32) &&& (3 : Int32))), .val (.long q0), .second, .val (.ref b5), .unset] [(.int (1 : Int32))]))
        refine own_st ?_ (fun t k => XS.istore X8.here hx rfl (hb hby at_108) rfl (l' := #[.val (.long q0), .second, .val (.int p1), .val (.int (p1 &&& (7 : Int32))), .val (.ref b1), .val (.int (((p1.toUInt32 >>> ((3 : Int32) &&& 31).toUInt32).toInt32) &&& (3 : Int32))), .val (.long q0), .second, .val (.ref b5), .val (.int (1 : Int32))]) rfl k)
        show own_G p.tables e below _ _ (T8.setTop (mkF m 110 #[.val (.long q0), .second, .val (.int p1), .val (.int (p1 &&& (7 : Int32))), .val (.ref b1), .val (.int (((p1.toUInt32 >>> ((3 : Int32) &&& 31).toUInt32).toInt32) &&& (3 : Int32))), .val (.long q0), .second, .val (.ref b5), .val (.int (1 : Int32))] []))
        refine own_st ?_ (fun t k => XS.aload X8.here hx rfl (hb hby at_110) rfl rfl k)
        show own_G p.tables e below _ _ (T8.setTop (mkF m 112 #[.val (.long q0), .second, .val (.int p1), .val (.int (p1 &&& (7 : Int32))), .val (.ref b1), .val (.int (((p1.toUInt32 >>> ((3 : Int32) &&& 31).toUInt32).toInt32) &&& (3 : Int32))), .val (.long q0), .second, .val (.ref b5), .val (.int (1 : Int32))] [(.ref b5)]))
        obtain ⟨cq12, kq12, q12a, q12b, q12c⟩ := isOf hZ rfl F10_E
        obtain ⟨_, _, ⟨T12, L12, k12, n12⟩, -, X12, ⟨Lc12, hQ12, l12, y12, z12⟩, st12⟩ := X8.virtualBack hx (y := (⟨"com/example/fanoline/fanoline/io/LineReader$Line", "held", "()Z"⟩ : MethodName)) (z := (⟨"com/example/fanoline/fanoline/io/LineReader$Line", "held", "()Z"⟩ : MethodName)) hown (mvT hZ (hw _ (List.mem_of_getElem? (i := 19) rfl))) (mvT hZ (hw _ (List.mem_of_getElem? (i := 20) rfl))) (notFace_of_selects (args := #[]) (mvT hZ (hw _ (List.mem_of_getElem? (i := 22) rfl)))) (mvT hZ (hw _ (List.mem_of_getElem? (i := 22) rfl))) (mvT hZ (hw _ (List.mem_of_getElem? (i := 21) rfl))) (by decide) (backOf (W := 0) (rm4 l Z _ hw [] b5 (p1 &&& (7 : Int32)) b1 q0 T8.heap n0 Zs11 F9_P (own_n p1).1 Fb8 Fl8) hZ (hw _ (List.mem_of_getElem? (i := 23) rfl)) (hw _ (List.mem_of_getElem? (i := 3) rfl)) (by decide) (by decide)) q12a q12c (g := (mkF m 112 #[.val (.long q0), .second, .val (.int p1), .val (.int (p1 &&& (7 : Int32))), .val (.ref b1), .val (.int (((p1.toUInt32 >>> ((3 : Int32) &&& 31).toUInt32).toInt32) &&& (3 : Int32))), .val (.long q0), .second, .val (.ref b5), .val (.int (1 : Int32))] [(.ref b5)])) rfl (by rw [hml]; rfl) (Steps.refl _) (argsL := []) (rest := []) (lenOf pd_2 rfl) rfl (by show 2 * 0 + _ ≤ _; exact Nat.le_of_eq rfl) (hb hby at_112) (fun _ _ => ⟨rfl, rfl, (by decide : 2 + 0 ≤ _), (by decide : 9 + 0 ≤ _)⟩)
        dsimp only [Pt.U, Pt.locs, Pt.cells, Pt.slots] at X12 l12 y12 z12 st12 hQ12
        subst l12 y12 z12
        obtain ⟨rfl, N12q, e12⟩ := hQ12
        have N12 := Fr.app N8 N12q
        refine own_st ?_ (fun t k => st12.trans k)
        show own_G p.tables e below _ _ (T12.setTop (mkF m 115 #[.val (.long q0), .second, .val (.int p1), .val (.int (p1 &&& (7 : Int32))), .val (.ref b1), .val (.int (((p1.toUInt32 >>> ((3 : Int32) &&& 31).toUInt32).toInt32) &&& (3 : Int32))), .val (.long q0), .second, .val (.ref b5), .val (.int (1 : Int32))] [(.int (f4 b5 (p1 &&& (7 : Int32)) b1 q0))]))
        refine own_st ?_ (fun t k => XS.iload X12.here hx rfl (hb hby at_115) rfl k)
        show own_G p.tables e below _ _ (T12.setTop (mkF m 117 #[.val (.long q0), .second, .val (.int p1), .val (.int (p1 &&& (7 : Int32))), .val (.ref b1), .val (.int (((p1.toUInt32 >>> ((3 : Int32) &&& 31).toUInt32).toInt32) &&& (3 : Int32))), .val (.long q0), .second, .val (.ref b5), .val (.int (1 : Int32))] [(.int (1 : Int32)), (.int (f4 b5 (p1 &&& (7 : Int32)) b1 q0))]))
        refine own_st ?_ (fun t k => XS.icmpNo X12.here hx rfl (hb hby at_117) rfl (teq (own_h1 hc100)).2 k)
        show own_G p.tables e below _ _ (T12.setTop (mkF m 120 #[.val (.long q0), .second, .val (.int p1), .val (.int (p1 &&& (7 : Int32))), .val (.ref b1), .val (.int (((p1.toUInt32 >>> ((3 : Int32) &&& 31).toUInt32).toInt32) &&& (3 : Int32))), .val (.long q0), .second, .val (.ref b5), .val (.int (1 : Int32))] []))
        refine own_st ?_ (fun t k => XS.iconst X12.here hx rfl (hb hby at_120) k)
        show own_G p.tables e below _ _ (T12.setTop (mkF m 121 #[.val (.long q0), .second, .val (.int p1), .val (.int (p1 &&& (7 : Int32))), .val (.ref b1), .val (.int (((p1.toUInt32 >>> ((3 : Int32) &&& 31).toUInt32).toInt32) &&& (3 : Int32))), .val (.long q0), .second, .val (.ref b5), .val (.int (1 : Int32))] [(.int (1 : Int32))]))
        refine own_st ?_ (fun t k => XS.goto X12.here hx rfl (pc0 := 121) (pc' := 125) rfl (hb hby at_121) (by decide) (by decide) k)
        show own_G p.tables e below _ _ (T12.setTop (mkF m 125 #[.val (.long q0), .second, .val (.int p1), .val (.int (p1 &&& (7 : Int32))), .val (.ref b1), .val (.int (((p1.toUInt32 >>> ((3 : Int32) &&& 31).toUInt32).toInt32) &&& (3 : Int32))), .val (.long q0), .second, .val (.ref b5), .val (.int (1 : Int32))] [(.int (1 : Int32))]))
        exact own_retN X12 hx hlk (t := .boolean) hret (by simp) (hb hby at_125) (by decide) (by decide) (z' := (1 : Int32)) rfl ⟨rfl, N12⟩
      · refine own_st ?_ (fun t k => XS.ifYes X8.here hx rfl (pc0 := 100) (pc' := 107) rfl (hb hby at_100) rfl ((if0 _ _).trans (feq hc100).2) (by decide) (by decide) k)
        show own_G p.tables e below _ _ (T8.setTop (mkF m 107 #[.val (.long q0), .second, .val (.int p1), .val (.int (p1 &&& (7 : Int32))), .val (.ref b1), .val (.int (((p1.toUInt32 >>> ((3 : Int32) &&& 31).toUInt32).toInt32) &&& (3 : Int32))), .val (.long q0), .second, .val (.ref b5), .unset] []))
        refine own_st ?_ (fun t k => XS.iconst X8.here hx rfl (hb hby at_107) k)
        show own_G p.tables e below _ _ (T8.setTop (mkF m 108 #[.val (.long q0), .second, .val (.int p1), .val (.int (p1 &&& (7 : Int32))), .val (.ref b1), .val (.int (((p1.toUInt32 >>> ((3 : Int32) &&& 31).toUInt32).toInt32) &&& (3 : Int32))), .val (.long q0), .second, .val (.ref b5), .unset] [(.int (0 : Int32))]))
        refine own_st ?_ (fun t k => XS.istore X8.here hx rfl (hb hby at_108) rfl (l' := #[.val (.long q0), .second, .val (.int p1), .val (.int (p1 &&& (7 : Int32))), .val (.ref b1), .val (.int (((p1.toUInt32 >>> ((3 : Int32) &&& 31).toUInt32).toInt32) &&& (3 : Int32))), .val (.long q0), .second, .val (.ref b5), .val (.int (0 : Int32))]) rfl k)
        show own_G p.tables e below _ _ (T8.setTop (mkF m 110 #[.val (.long q0), .second, .val (.int p1), .val (.int (p1 &&& (7 : Int32))), .val (.ref b1), .val (.int (((p1.toUInt32 >>> ((3 : Int32) &&& 31).toUInt32).toInt32) &&& (3 : Int32))), .val (.long q0), .second, .val (.ref b5), .val (.int (0 : Int32))] []))
        refine own_st ?_ (fun t k => XS.aload X8.here hx rfl (hb hby at_110) rfl rfl k)
        show own_G p.tables e below _ _ (T8.setTop (mkF m 112 #[.val (.long q0), .second, .val (.int p1), .val (.int (p1 &&& (7 : Int32))), .val (.ref b1), .val (.int (((p1.toUInt32 >>> ((3 : Int32) &&& 31).toUInt32).toInt32) &&& (3 : Int32))), .val (.long q0), .second, .val (.ref b5), .val (.int (0 : Int32))] [(.ref b5)]))
        obtain ⟨cq13, kq13, q13a, q13b, q13c⟩ := isOf hZ rfl F10_E
        obtain ⟨_, _, ⟨T13, L13, k13, n13⟩, -, X13, ⟨Lc13, hQ13, l13, y13, z13⟩, st13⟩ := X8.virtualBack hx (y := (⟨"com/example/fanoline/fanoline/io/LineReader$Line", "held", "()Z"⟩ : MethodName)) (z := (⟨"com/example/fanoline/fanoline/io/LineReader$Line", "held", "()Z"⟩ : MethodName)) hown (mvT hZ (hw _ (List.mem_of_getElem? (i := 19) rfl))) (mvT hZ (hw _ (List.mem_of_getElem? (i := 20) rfl))) (notFace_of_selects (args := #[]) (mvT hZ (hw _ (List.mem_of_getElem? (i := 22) rfl)))) (mvT hZ (hw _ (List.mem_of_getElem? (i := 22) rfl))) (mvT hZ (hw _ (List.mem_of_getElem? (i := 21) rfl))) (by decide) (backOf (W := 0) (rm4 l Z _ hw [] b5 (p1 &&& (7 : Int32)) b1 q0 T8.heap n0 Zs11 F9_P (own_n p1).1 Fb8 Fl8) hZ (hw _ (List.mem_of_getElem? (i := 23) rfl)) (hw _ (List.mem_of_getElem? (i := 3) rfl)) (by decide) (by decide)) q13a q13c (g := (mkF m 112 #[.val (.long q0), .second, .val (.int p1), .val (.int (p1 &&& (7 : Int32))), .val (.ref b1), .val (.int (((p1.toUInt32 >>> ((3 : Int32) &&& 31).toUInt32).toInt32) &&& (3 : Int32))), .val (.long q0), .second, .val (.ref b5), .val (.int (0 : Int32))] [(.ref b5)])) rfl (by rw [hml]; rfl) (Steps.refl _) (argsL := []) (rest := []) (lenOf pd_2 rfl) rfl (by show 2 * 0 + _ ≤ _; exact Nat.le_of_eq rfl) (hb hby at_112) (fun _ _ => ⟨rfl, rfl, (by decide : 2 + 0 ≤ _), (by decide : 9 + 0 ≤ _)⟩)
        dsimp only [Pt.U, Pt.locs, Pt.cells, Pt.slots] at X13 l13 y13 z13 st13 hQ13
        subst l13 y13 z13
        obtain ⟨rfl, N13q, e13⟩ := hQ13
        have N13 := Fr.app N8 N13q
        refine own_st ?_ (fun t k => st13.trans k)
        show own_G p.tables e below _ _ (T13.setTop (mkF m 115 #[.val (.long q0), .second, .val (.int p1), .val (.int (p1 &&& (7 : Int32))), .val (.ref b1), .val (.int (((p1.toUInt32 >>> ((3 : Int32) &&& 31).toUInt32).toInt32) &&& (3 : Int32))), .val (.long q0), .second, .val (.ref b5), .val (.int (0 : Int32))] [(.int (f4 b5 (p1 &&& (7 : Int32)) b1 q0))]))
        refine own_st ?_ (fun t k => XS.iload X13.here hx rfl (hb hby at_115) rfl k)
        show own_G p.tables e below _ _ (T13.setTop (mkF m 117 #[.val (.long q0), .second, .val (.int p1), .val (.int (p1 &&& (7 : Int32))), .val (.ref b1), .val (.int (((p1.toUInt32 >>> ((3 : Int32) &&& 31).toUInt32).toInt32) &&& (3 : Int32))), .val (.long q0), .second, .val (.ref b5), .val (.int (0 : Int32))] [(.int (0 : Int32)), (.int (f4 b5 (p1 &&& (7 : Int32)) b1 q0))]))
        refine own_st ?_ (fun t k => XS.icmpNo X13.here hx rfl (hb hby at_117) rfl (teq (own_h0 hc100)).2 k)
        show own_G p.tables e below _ _ (T13.setTop (mkF m 120 #[.val (.long q0), .second, .val (.int p1), .val (.int (p1 &&& (7 : Int32))), .val (.ref b1), .val (.int (((p1.toUInt32 >>> ((3 : Int32) &&& 31).toUInt32).toInt32) &&& (3 : Int32))), .val (.long q0), .second, .val (.ref b5), .val (.int (0 : Int32))] []))
        refine own_st ?_ (fun t k => XS.iconst X13.here hx rfl (hb hby at_120) k)
        show own_G p.tables e below _ _ (T13.setTop (mkF m 121 #[.val (.long q0), .second, .val (.int p1), .val (.int (p1 &&& (7 : Int32))), .val (.ref b1), .val (.int (((p1.toUInt32 >>> ((3 : Int32) &&& 31).toUInt32).toInt32) &&& (3 : Int32))), .val (.long q0), .second, .val (.ref b5), .val (.int (0 : Int32))] [(.int (1 : Int32))]))
        refine own_st ?_ (fun t k => XS.goto X13.here hx rfl (pc0 := 121) (pc' := 125) rfl (hb hby at_121) (by decide) (by decide) k)
        show own_G p.tables e below _ _ (T13.setTop (mkF m 125 #[.val (.long q0), .second, .val (.int p1), .val (.int (p1 &&& (7 : Int32))), .val (.ref b1), .val (.int (((p1.toUInt32 >>> ((3 : Int32) &&& 31).toUInt32).toInt32) &&& (3 : Int32))), .val (.long q0), .second, .val (.ref b5), .val (.int (0 : Int32))] [(.int (1 : Int32))]))
        exact own_retN X13 hx hlk (t := .boolean) hret (by simp) (hb hby at_125) (by decide) (by decide) (z' := (1 : Int32)) rfl ⟨rfl, N13⟩
    · refine own_st ?_ (fun t k => XS.ifYes X3.here hx rfl (pc0 := 32) (pc' := 41) rfl (hb hby at_32) rfl ((if0 _ _).trans (feq hc32).2) (by decide) (by decide) k)
      show own_G p.tables e below _ _ (T3.setTop (mkF m 41 #[.val (.long q0), .second, .val (.int p1), .val (.int (p1 &&& (7 : Int32))), .val (.ref b1), .val (.int (((p1.toUInt32 >>> ((3 : Int32) &&& 31).toUInt32).toInt32) &&& (3 : Int32))), .unset, .unset, .unset, .unset] []))
      refine own_st ?_ (fun t k => XS.iload X3.here hx rfl (hb hby at_41) rfl k)
      show own_G p.tables e below _ _ (T3.setTop (mkF m 43 #[.val (.long q0), .second, .val (.int p1), .val (.int (p1 &&& (7 : Int32))), .val (.ref b1), .val (.int (((p1.toUInt32 >>> ((3 : Int32) &&& 31).toUInt32).toInt32) &&& (3 : Int32))), .unset, .unset, .unset, .unset] [(.int (((p1.toUInt32 >>> ((3 : Int32) &&& 31).toUInt32).toInt32) &&& (3 : Int32)))]))
      refine own_st ?_ (fun t k => XS.iconst X3.here hx rfl (hb hby at_43) k)
      show own_G p.tables e below _ _ (T3.setTop (mkF m 44 #[.val (.long q0), .second, .val (.int p1), .val (.int (p1 &&& (7 : Int32))), .val (.ref b1), .val (.int (((p1.toUInt32 >>> ((3 : Int32) &&& 31).toUInt32).toInt32) &&& (3 : Int32))), .unset, .unset, .unset, .unset] [(.int (1 : Int32)), (.int (((p1.toUInt32 >>> ((3 : Int32) &&& 31).toUInt32).toInt32) &&& (3 : Int32)))]))
      by_cases hc44 : (((p1.toUInt32 >>> ((3 : Int32) &&& 31).toUInt32).toInt32) &&& (3 : Int32)) = (1 : Int32)
      · refine own_st ?_ (fun t k => XS.icmpNo X3.here hx rfl (hb hby at_44) rfl (teq hc44).2 k)
        show own_G p.tables e below _ _ (T3.setTop (mkF m 47 #[.val (.long q0), .second, .val (.int p1), .val (.int (p1 &&& (7 : Int32))), .val (.ref b1), .val (.int (((p1.toUInt32 >>> ((3 : Int32) &&& 31).toUInt32).toInt32) &&& (3 : Int32))), .unset, .unset, .unset, .unset] []))
        refine own_st ?_ (fun t k => XS.iloadN X3.here hx rfl (hb hby at_47) rfl k)
        show own_G p.tables e below _ _ (T3.setTop (mkF m 48 #[.val (.long q0), .second, .val (.int p1), .val (.int (p1 &&& (7 : Int32))), .val (.ref b1), .val (.int (((p1.toUInt32 >>> ((3 : Int32) &&& 31).toUInt32).toInt32) &&& (3 : Int32))), .unset, .unset, .unset, .unset] [(.int (p1 &&& (7 : Int32)))]))
        refine own_st ?_ (fun t k => XS.i2l X3.here hx rfl (hb hby at_48) rfl k)
        show own_G p.tables e below _ _ (T3.setTop (mkF m 49 #[.val (.long q0), .second, .val (.int p1), .val (.int (p1 &&& (7 : Int32))), .val (.ref b1), .val (.int (((p1.toUInt32 >>> ((3 : Int32) &&& 31).toUInt32).toInt32) &&& (3 : Int32))), .unset, .unset, .unset, .unset] [(.long ((p1 &&& (7 : Int32)).toInt64))]))
        refine own_st ?_ (fun t k => XS.lloadN X3.here hx rfl (hb hby at_49) rfl k)
        show own_G p.tables e below _ _ (T3.setTop (mkF m 50 #[.val (.long q0), .second, .val (.int p1), .val (.int (p1 &&& (7 : Int32))), .val (.ref b1), .val (.int (((p1.toUInt32 >>> ((3 : Int32) &&& 31).toUInt32).toInt32) &&& (3 : Int32))), .unset, .unset, .unset, .unset] [(.long q0), (.long ((p1 &&& (7 : Int32)).toInt64))]))
        refine own_st ?_ (X3.ldc2Long hx hown (mvT hZ (hw _ (List.mem_of_getElem? (i := 24) rfl))) (g := (mkF m 50 #[.val (.long q0), .second, .val (.int p1), .val (.int (p1 &&& (7 : Int32))), .val (.ref b1), .val (.int (((p1.toUInt32 >>> ((3 : Int32) &&& 31).toUInt32).toInt32) &&& (3 : Int32))), .unset, .unset, .unset, .unset] [(.long q0), (.long ((p1 &&& (7 : Int32)).toInt64))])) rfl (hb hby at_50))
        show own_G p.tables e below _ _ (T3.setTop (mkF m 53 #[.val (.long q0), .second, .val (.int p1), .val (.int (p1 &&& (7 : Int32))), .val (.ref b1), .val (.int (((p1.toUInt32 >>> ((3 : Int32) &&& 31).toUInt32).toInt32) &&& (3 : Int32))), .unset, .unset, .unset, .unset] [(.long (3 : Int64)), (.long q0), (.long ((p1 &&& (7 : Int32)).toInt64))]))
        refine own_st ?_ (fun t k => XS.lrem X3.here hx rfl (hb hby at_53) rfl (by decide) k)
        show own_G p.tables e below _ _ (T3.setTop (mkF m 54 #[.val (.long q0), .second, .val (.int p1), .val (.int (p1 &&& (7 : Int32))), .val (.ref b1), .val (.int (((p1.toUInt32 >>> ((3 : Int32) &&& 31).toUInt32).toInt32) &&& (3 : Int32))), .unset, .unset, .unset, .unset] [(.long (q0 - (q0 / (3 : Int64)) * (3 : Int64))), (.long ((p1 &&& (7 : Int32)).toInt64))]))
        refine own_st ?_ (fun t k => XS.ladd X3.here hx rfl (hb hby at_54) rfl k)
        show own_G p.tables e below _ _ (T3.setTop (mkF m 55 #[.val (.long q0), .second, .val (.int p1), .val (.int (p1 &&& (7 : Int32))), .val (.ref b1), .val (.int (((p1.toUInt32 >>> ((3 : Int32) &&& 31).toUInt32).toInt32) &&& (3 : Int32))), .unset, .unset, .unset, .unset] [(.long (((p1 &&& (7 : Int32)).toInt64) + (q0 - (q0 / (3 : Int64)) * (3 : Int64))))]))
        refine own_st ?_ (fun t k => XS.lstore X3.here hx rfl (hb hby at_55) rfl (l' := #[.val (.long q0), .second, .val (.int p1), .val (.int (p1 &&& (7 : Int32))), .val (.ref b1), .val (.int (((p1.toUInt32 >>> ((3 : Int32) &&& 31).toUInt32).toInt32) &&& (3 : Int32))), .val (.long (((p1 &&& (7 : Int32)).toInt64) + (q0 - (q0 / (3 : Int64)) * (3 : Int64)))), .second, .unset, .unset]) rfl k)
        show own_G p.tables e below _ _ (T3.setTop (mkF m 57 #[.val (.long q0), .second, .val (.int p1), .val (.int (p1 &&& (7 : Int32))), .val (.ref b1), .val (.int (((p1.toUInt32 >>> ((3 : Int32) &&& 31).toUInt32).toInt32) &&& (3 : Int32))), .val (.long (((p1 &&& (7 : Int32)).toInt64) + (q0 - (q0 / (3 : Int64)) * (3 : Int64)))), .second, .unset, .unset] []))
        refine own_st ?_ (fun t k => XS.goto X3.here hx rfl (pc0 := 57) (pc' := 82) rfl (hb hby at_57) (by decide) (by decide) k)
        show own_G p.tables e below _ _ (T3.setTop (mkF m 82 #[.val (.long q0), .second, .val (.int p1), .val (.int (p1 &&& (7 : Int32))), .val (.ref b1), .val (.int (((p1.toUInt32 >>> ((3 : Int32) &&& 31).toUInt32).toInt32) &&& (3 : Int32))), .val (.long (((p1 &&& (7 : Int32)).toInt64) + (q0 - (q0 / (3 : Int64)) * (3 : Int64)))), .second, .unset, .unset] []))
        obtain ⟨T14, h14, X14, e14, E14, A14, D14, -, st14⟩ := newO X3 hx hZ hown (hw _ (List.mem_of_getElem? (i := 1) rfl)) (hw _ (List.mem_of_getElem? (i := 2) rfl)) (hw _ (List.mem_of_getElem? (i := 3) rfl)) e3 (g := (mkF m 82 #[.val (.long q0), .second, .val (.int p1), .val (.int (p1 &&& (7 : Int32))), .val (.ref b1), .val (.int (((p1.toUInt32 >>> ((3 : Int32) &&& 31).toUInt32).toInt32) &&& (3 : Int32))), .val (.long (((p1 &&& (7 : Int32)).toInt64) + (q0 - (q0 / (3 : Int64)) * (3 : Int64)))), .second, .unset, .unset] [])) rfl (hb hby at_82) (by decide) (by decide)
        obtain ⟨b14, gz14⟩ : ∃ z, z = h3.size := ⟨_, rfl⟩
        rw [← gz14] at A14 D14 st14
        have ne_b1_b14 : b1 ≠ b14 := Nat.ne_of_lt (Nat.lt_of_lt_of_le (own_B_lt F3) (Nat.le_of_eq gz14.symm))
        have g_b14 : n0 ≤ b14 := Nat.le_trans Zs4 (Nat.le_of_eq gz14.symm)
        have F15_P : own_B Z h14 b1 (p1 &&& (7 : Int32)) := own_B_ext F3 E14
        have Zs16 : n0 ≤ h14.size := Nat.le_trans Zs4 E14.1
        have F_length_b14 : Fld Z h14 b14 "com/example/fanoline/fanoline/io/LineReader$Line" "length" "J" (.long (0 : Int64)) := D14 (Or.inr (hw _ (List.mem_of_getElem? (i := 16) rfl))) (ty := .long) (by decide)
        have F_bytes_b14 : Fld Z h14 b14 "com/example/fanoline/fanoline/io/LineReader$Line" "bytes" "[B" .null := D14 (Or.inr (hw _ (List.mem_of_getElem? (i := 18) rfl))) (ty := (.array .byte)) (by decide)
        refine own_st ?_ st14
        show own_G p.tables e below _ _ (T14.setTop (mkF m 85 #[.val (.long q0), .second, .val (.int p1), .val (.int (p1 &&& (7 : Int32))), .val (.ref b1), .val (.int (((p1.toUInt32 >>> ((3 : Int32) &&& 31).toUInt32).toInt32) &&& (3 : Int32))), .val (.long (((p1 &&& (7 : Int32)).toInt64) + (q0 - (q0 / (3 : Int64)) * (3 : Int64)))), .second, .unset, .unset] [(.ref b14)]))
        refine own_st ?_ (fun t k => XS.dup X14.here hx rfl (hb hby at_85) rfl rfl k)
        show own_G p.tables e below _ _ (T14.setTop (mkF m 86 #[.val (.long q0), .second, .val (.int p1), .val (.int (p1 &&& (7 : Int32))), .val (.ref b1), .val (.int (((p1.toUInt32 >>> ((3 : Int32) &&& 31).toUInt32).toInt32) &&& (3 : Int32))), .val (.long (((p1 &&& (7 : Int32)).toInt64) + (q0 - (q0 / (3 : Int64)) * (3 : Int64)))), .second, .unset, .unset] [(.ref b14), (.ref b14)]))
        refine own_st ?_ (fun t k => XS.lload X14.here hx rfl (hb hby at_86) rfl k)
        show own_G p.tables e below _ _ (T14.setTop (mkF m 88 #[.val (.long q0), .second, .val (.int p1), .val (.int (p1 &&& (7 : Int32))), .val (.ref b1), .val (.int (((p1.toUInt32 >>> ((3 : Int32) &&& 31).toUInt32).toInt32) &&& (3 : Int32))), .val (.long (((p1 &&& (7 : Int32)).toInt64) + (q0 - (q0 / (3 : Int64)) * (3 : Int64)))), .second, .unset, .unset] [(.long (((p1 &&& (7 : Int32)).toInt64) + (q0 - (q0 / (3 : Int64)) * (3 : Int64)))), (.ref b14), (.ref b14)]))
        refine own_st ?_ (fun t k => XS.aload X14.here hx rfl (hb hby at_88) rfl rfl k)
        show own_G p.tables e below _ _ (T14.setTop (mkF m 90 #[.val (.long q0), .second, .val (.int p1), .val (.int (p1 &&& (7 : Int32))), .val (.ref b1), .val (.int (((p1.toUInt32 >>> ((3 : Int32) &&& 31).toUInt32).toInt32) &&& (3 : Int32))), .val (.long (((p1 &&& (7 : Int32)).toInt64) + (q0 - (q0 / (3 : Int64)) * (3 : Int64)))), .second, .unset, .unset] [(.ref b1), (.long (((p1 &&& (7 : Int32)).toInt64) + (q0 - (q0 / (3 : Int64)) * (3 : Int64)))), (.ref b14), (.ref b14)]))
        obtain ⟨_, _, ⟨T17, L17, k17, n17⟩, -, X17, ⟨Lc17, hQ17, l17, y17, z17⟩, st17⟩ := X14.specialBack hx (y := (⟨"com/example/fanoline/fanoline/io/LineReader$Line", "<init>", "(J[B)V"⟩ : MethodName)) rfl hown (mvT hZ (hw _ (List.mem_of_getElem? (i := 4) rfl))) (mvT hZ (hw _ (List.mem_of_getElem? (i := 5) rfl))) (mvT hZ (hw _ (List.mem_of_getElem? (i := 6) rfl))) (by decide) (backOf (W := 1) (rm1 l Z _ hw [] b14 (((p1 &&& (7 : Int32)).toInt64) + (q0 - (q0 / (3 : Int64)) * (3 : Int64))) b1 (.long (0 : Int64)) .null h14 n0 Zs16 g_b14 A14 F_length_b14 F_bytes_b14) hZ (hw _ (List.mem_of_getElem? (i := 6) rfl)) (hw _ (List.mem_of_getElem? (i := 3) rfl)) (by decide) (by decide)) (g := (mkF m 90 #[.val (.long q0), .second, .val (.int p1), .val (.int (p1 &&& (7 : Int32))), .val (.ref b1), .val (.int (((p1.toUInt32 >>> ((3 : Int32) &&& 31).toUInt32).toInt32) &&& (3 : Int32))), .val (.long (((p1 &&& (7 : Int32)).toInt64) + (q0 - (q0 / (3 : Int64)) * (3 : Int64)))), .second, .unset, .unset] [(.ref b1), (.long (((p1 &&& (7 : Int32)).toInt64) + (q0 - (q0 / (3 : Int64)) * (3 : Int64)))), (.ref b14), (.ref b14)])) rfl (by rw [hml]; rfl) (Steps.refl _) (a := b14) (argsL := [(.long (((p1 &&& (7 : Int32)).toInt64) + (q0 - (q0 / (3 : Int64)) * (3 : Int64)))), (.ref b1)]) (rest := [(.ref b14)]) (lenOf pd_1 rfl) rfl (by show 2 * 0 + _ ≤ _; exact Nat.le_of_eq rfl) (hb hby at_90) (fun _ _ => ⟨rfl, e14, (by decide : 2 + 0 ≤ _), (by decide : 9 + 0 ≤ _)⟩)
        dsimp only [Pt.U, Pt.locs, Pt.cells, Pt.slots] at X17 l17 y17 z17 st17 hQ17
        subst l17 y17 z17
        obtain ⟨rfl, N17q, hq17⟩ := hQ17
        have N17 := Fr.app N3 N17q
        obtain ⟨K17, Fl17, Fb17⟩ := hq17
        have F18_P : own_B Z T17.heap b1 (p1 &&& (7 : Int32)) := own_B_keep F15_P K17 (ninS ne_b1_b14 nin0)
        have F19_E : Exa Z T17.heap b14 "com/example/fanoline/fanoline/io/LineReader$Line" := A14.keep K17
        have Zs20 : n0 ≤ T17.heap.size := Nat.le_trans Zs16 K17.1
        refine own_st ?_ (fun t k => st17.trans k)
        show own_G p.tables e below _ _ (T17.setTop (mkF m 93 #[.val (.long q0), .second, .val (.int p1), .val (.int (p1 &&& (7 : Int32))), .val (.ref b1), .val (.int (((p1.toUInt32 >>> ((3 : Int32) &&& 31).toUInt32).toInt32) &&& (3 : Int32))), .val (.long (((p1 &&& (7 : Int32)).toInt64) + (q0 - (q0 / (3 : Int64)) * (3 : Int64)))), .second, .unset, .unset] [(.ref b14)]))
        refine own_st ?_ (fun t k => XS.astore X17.here hx rfl (hb hby at_93) rfl rfl (l' := #[.val (.long q0), .second, .val (.int p1), .val (.int (p1 &&& (7 : Int32))), .val (.ref b1), .val (.int (((p1.toUInt32 >>> ((3 : Int32) &&& 31).toUInt32).toInt32) &&& (3 : Int32))), .val (.long (((p1 &&& (7 : Int32)).toInt64) + (q0 - (q0 / (3 : Int64)) * (3 : Int64)))), .second, .val (.ref b14), .unset]) rfl k)
        show own_G p.tables e below _ _ (T17.setTop (mkF m 95 #[.val (.long q0), .second, .val (.int p1), .val (.int (p1 &&& (7 : Int32))), .val (.ref b1), .val (.int (((p1.toUInt32 >>> ((3 : Int32) &&& 31).toUInt32).toInt32) &&& (3 : Int32))), .val (.long (((p1 &&& (7 : Int32)).toInt64) + (q0 - (q0 / (3 : Int64)) * (3 : Int64)))), .second, .val (.ref b14), .unset] []))
        refine own_st ?_ (fun t k => XS.lload X17.here hx rfl (hb hby at_95) rfl k)
        show own_G p.tables e below _ _ (T17.setTop (mkF m 97 #[.val (.long q0), .second, .val (.int p1), .val (.int (p1 &&& (7 : Int32))), .val (.ref b1), .val (.int (((p1.toUInt32 >>> ((3 : Int32) &&& 31).toUInt32).toInt32) &&& (3 : Int32))), .val (.long (((p1 &&& (7 : Int32)).toInt64) + (q0 - (q0 / (3 : Int64)) * (3 : Int64)))), .second, .val (.ref b14), .unset] [(.long (((p1 &&& (7 : Int32)).toInt64) + (q0 - (q0 / (3 : Int64)) * (3 : Int64))))]))
        refine own_st ?_ (fun t k => XS.iloadN X17.here hx rfl (hb hby at_97) rfl k)
        show own_G p.tables e below _ _ (T17.setTop (mkF m 98 #[.val (.long q0), .second, .val (.int p1), .val (.int (p1 &&& (7 : Int32))), .val (.ref b1), .val (.int (((p1.toUInt32 >>> ((3 : Int32) &&& 31).toUInt32).toInt32) &&& (3 : Int32))), .val (.long (((p1 &&& (7 : Int32)).toInt64) + (q0 - (q0 / (3 : Int64)) * (3 : Int64)))), .second, .val (.ref b14), .unset] [(.int (p1 &&& (7 : Int32))), (.long (((p1 &&& (7 : Int32)).toInt64) + (q0 - (q0 / (3 : Int64)) * (3 : Int64))))]))
        refine own_st ?_ (fun t k => XS.i2l X17.here hx rfl (hb hby at_98) rfl k)
        show own_G p.tables e below _ _ (T17.setTop (mkF m 99 #[.val (.long q0), .second, .val (.int p1), .val (.int (p1 &&& (7 : Int32))), .val (.ref b1), .val (.int (((p1.toUInt32 >>> ((3 : Int32) &&& 31).toUInt32).toInt32) &&& (3 : Int32))), .val (.long (((p1 &&& (7 : Int32)).toInt64) + (q0 - (q0 / (3 : Int64)) * (3 : Int64)))), .second, .val (.ref b14), .unset] [(.long ((p1 &&& (7 : Int32)).toInt64)), (.long (((p1 &&& (7 : Int32)).toInt64) + (q0 - (q0 / (3 : Int64)) * (3 : Int64))))]))
        refine own_st ?_ (fun t k => XS.lcmp X17.here hx rfl (hb hby at_99) rfl k)
        show own_G p.tables e below _ _ (T17.setTop (mkF m 100 #[.val (.long q0), .second, .val (.int p1), .val (.int (p1 &&& (7 : Int32))), .val (.ref b1), .val (.int (((p1.toUInt32 >>> ((3 : Int32) &&& 31).toUInt32).toInt32) &&& (3 : Int32))), .val (.long (((p1 &&& (7 : Int32)).toInt64) + (q0 - (q0 / (3 : Int64)) * (3 : Int64)))), .second, .val (.ref b14), .unset] [(.int (lcmpW (((p1 &&& (7 : Int32)).toInt64) + (q0 - (q0 / (3 : Int64)) * (3 : Int64))) ((p1 &&& (7 : Int32)).toInt64)))]))
        by_cases hc100 : (lcmpW (((p1 &&& (7 : Int32)).toInt64) + (q0 - (q0 / (3 : Int64)) * (3 : Int64))) ((p1 &&& (7 : Int32)).toInt64)) = (0 : Int32)
        · refine own_st ?_ (fun t k => XS.ifNo X17.here hx rfl (hb hby at_100) rfl ((if0 _ _).trans (teq hc100).2) k)
          show own_G p.tables e below _ _ (T17.setTop (mkF m 103 #[.val (.long q0), .second, .val (.int p1), .val (.int (p1 &&& (7 : Int32))), .val (.ref b1), .val (.int (((p1.toUInt32 >>> ((3 : Int32) &&& 31).toUInt32).toInt32) &&& (3 : Int32))), .val (.long (((p1 &&& (7 : Int32)).toInt64) + (q0 - (q0 / (3 : Int64)) * (3 : Int64)))), .second, .val (.ref b14), .unset] []))
          refine own_st ?_ (fun t k => XS.iconst X17.here hx rfl (hb hby at_103) k)
          show own_G p.tables e below _ _ (T17.setTop (mkF m 104 #[.val (.long q0), .second, .val (.int p1), .val (.int (p1 &&& (7 : Int32))), .val (.ref b1), .val (.int (((p1.toUInt32 >>> ((3 : Int32) &&& 31).toUInt32).toInt32) &&& (3 : Int32))), .val (.long (((p1 &&& (7 : Int32)).toInt64) + (q0 - (q0 / (3 : Int64)) * (3 : Int64)))), .second, .val (.ref b14), .unset] [(.int (1 : Int32))]))
          refine own_st ?_ (fun t k => XS.goto X17.here hx rfl (pc0 := 104) (pc' := 108) rfl (hb hby at_104) (by decide) (by decide) k)
          show own_G p.tables e below _ _ (T17.setTop (mkF m 108 #[.val (.long q0), .second, .val (.int p1), .val (.int (p1 &&& (7 : Int32))), .val (.ref b1), .val (.int (((p1.toUInt32 >>> ((3 : Int32) &&& 31).toUInt32).toInt32) &&& (3 : Int32))), .val (.long (((p1 &&& (7 : Int32)).toInt64) + (q0 - (q0 / (3 : Int64)) * (3 : Int64)))), .second, .val (.ref b14), .unset] [(.int (1 : Int32))]))
          refine own_st ?_ (fun t k => XS.istore X17.here hx rfl (hb hby at_108) rfl (l' := #[.val (.long q0), .second, .val (.int p1), .val (.int (p1 &&& (7 : Int32))), .val (.ref b1), .val (.int (((p1.toUInt32 >>> ((3 : Int32) &&& 31).toUInt32).toInt32) &&& (3 : Int32))), .val (.long (((p1 &&& (7 : Int32)).toInt64) + (q0 - (q0 / (3 : Int64)) * (3 : Int64)))), .second, .val (.ref b14), .val (.int (1 : Int32))]) rfl k)
          show own_G p.tables e below _ _ (T17.setTop (mkF m 110 #[.val (.long q0), .second, .val (.int p1), .val (.int (p1 &&& (7 : Int32))), .val (.ref b1), .val (.int (((p1.toUInt32 >>> ((3 : Int32) &&& 31).toUInt32).toInt32) &&& (3 : Int32))), .val (.long (((p1 &&& (7 : Int32)).toInt64) + (q0 - (q0 / (3 : Int64)) * (3 : Int64)))), .second, .val (.ref b14), .val (.int (1 : Int32))] []))
          refine own_st ?_ (fun t k => XS.aload X17.here hx rfl (hb hby at_110) rfl rfl k)
          show own_G p.tables e below _ _ (T17.setTop (mkF m 112 #[.val (.long q0), .second, .val (.int p1), .val (.int (p1 &&& (7 : Int32))), .val (.ref b1), .val (.int (((p1.toUInt32 >>> ((3 : Int32) &&& 31).toUInt32).toInt32) &&& (3 : Int32))), .val (.long (((p1 &&& (7 : Int32)).toInt64) + (q0 - (q0 / (3 : Int64)) * (3 : Int64)))), .second, .val (.ref b14), .val (.int (1 : Int32))] [(.ref b14)]))
          obtain ⟨cq21, kq21, q21a, q21b, q21c⟩ := isOf hZ rfl F19_E
          obtain ⟨_, _, ⟨T21, L21, k21, n21⟩, -, X21, ⟨Lc21, hQ21, l21, y21, z21⟩, st21⟩ := X17.virtualBack hx (y := (⟨"com/example/fanoline/fanoline/io/LineReader$Line", "held", "()Z"⟩ : MethodName)) (z := (⟨"com/example/fanoline/fanoline/io/LineReader$Line", "held", "()Z"⟩ : MethodName)) hown (mvT hZ (hw _ (List.mem_of_getElem? (i := 19) rfl))) (mvT hZ (hw _ (List.mem_of_getElem? (i := 20) rfl))) (notFace_of_selects (args := #[]) (mvT hZ (hw _ (List.mem_of_getElem? (i := 22) rfl)))) (mvT hZ (hw _ (List.mem_of_getElem? (i := 22) rfl))) (mvT hZ (hw _ (List.mem_of_getElem? (i := 21) rfl))) (by decide) (backOf (W := 0) (rm4 l Z _ hw [] b14 (p1 &&& (7 : Int32)) b1 (((p1 &&& (7 : Int32)).toInt64) + (q0 - (q0 / (3 : Int64)) * (3 : Int64))) T17.heap n0 Zs20 F18_P (own_n p1).1 Fb17 Fl17) hZ (hw _ (List.mem_of_getElem? (i := 23) rfl)) (hw _ (List.mem_of_getElem? (i := 3) rfl)) (by decide) (by decide)) q21a q21c (g := (mkF m 112 #[.val (.long q0), .second, .val (.int p1), .val (.int (p1 &&& (7 : Int32))), .val (.ref b1), .val (.int (((p1.toUInt32 >>> ((3 : Int32) &&& 31).toUInt32).toInt32) &&& (3 : Int32))), .val (.long (((p1 &&& (7 : Int32)).toInt64) + (q0 - (q0 / (3 : Int64)) * (3 : Int64)))), .second, .val (.ref b14), .val (.int (1 : Int32))] [(.ref b14)])) rfl (by rw [hml]; rfl) (Steps.refl _) (argsL := []) (rest := []) (lenOf pd_2 rfl) rfl (by show 2 * 0 + _ ≤ _; exact Nat.le_of_eq rfl) (hb hby at_112) (fun _ _ => ⟨rfl, rfl, (by decide : 2 + 0 ≤ _), (by decide : 9 + 0 ≤ _)⟩)
          dsimp only [Pt.U, Pt.locs, Pt.cells, Pt.slots] at X21 l21 y21 z21 st21 hQ21
          subst l21 y21 z21
          obtain ⟨rfl, N21q, e21⟩ := hQ21
          have N21 := Fr.app N17 N21q
          refine own_st ?_ (fun t k => st21.trans k)
          show own_G p.tables e below _ _ (T21.setTop (mkF m 115 #[.val (.long q0), .second, .val (.int p1), .val (.int (p1 &&& (7 : Int32))), .val (.ref b1), .val (.int (((p1.toUInt32 >>> ((3 : Int32) &&& 31).toUInt32).toInt32) &&& (3 : Int32))), .val (.long (((p1 &&& (7 : Int32)).toInt64) + (q0 - (q0 / (3 : Int64)) * (3 : Int64)))), .second, .val (.ref b14), .val (.int (1 : Int32))] [(.int (f4 b14 (p1 &&& (7 : Int32)) b1 (((p1 &&& (7 : Int32)).toInt64) + (q0 - (q0 / (3 : Int64)) * (3 : Int64)))))]))
          refine own_st ?_ (fun t k => XS.iload X21.here hx rfl (hb hby at_115) rfl k)
          show own_G p.tables e below _ _ (T21.setTop (mkF m 117 #[.val (.long q0), .second, .val (.int p1), .val (.int (p1 &&& (7 : Int32))), .val (.ref b1), .val (.int (((p1.toUInt32 >>> ((3 : Int32) &&& 31).toUInt32).toInt32) &&& (3 : Int32))), .val (.long (((p1 &&& (7 : Int32)).toInt64) + (q0 - (q0 / (3 : Int64)) * (3 : Int64)))), .second, .val (.ref b14), .val (.int (1 : Int32))] [(.int (1 : Int32)), (.int (f4 b14 (p1 &&& (7 : Int32)) b1 (((p1 &&& (7 : Int32)).toInt64) + (q0 - (q0 / (3 : Int64)) * (3 : Int64)))))]))
          refine own_st ?_ (fun t k => XS.icmpNo X21.here hx rfl (hb hby at_117) rfl (teq (own_h1 hc100)).2 k)
          show own_G p.tables e below _ _ (T21.setTop (mkF m 120 #[.val (.long q0), .second, .val (.int p1), .val (.int (p1 &&& (7 : Int32))), .val (.ref b1), .val (.int (((p1.toUInt32 >>> ((3 : Int32) &&& 31).toUInt32).toInt32) &&& (3 : Int32))), .val (.long (((p1 &&& (7 : Int32)).toInt64) + (q0 - (q0 / (3 : Int64)) * (3 : Int64)))), .second, .val (.ref b14), .val (.int (1 : Int32))] []))
          refine own_st ?_ (fun t k => XS.iconst X21.here hx rfl (hb hby at_120) k)
          show own_G p.tables e below _ _ (T21.setTop (mkF m 121 #[.val (.long q0), .second, .val (.int p1), .val (.int (p1 &&& (7 : Int32))), .val (.ref b1), .val (.int (((p1.toUInt32 >>> ((3 : Int32) &&& 31).toUInt32).toInt32) &&& (3 : Int32))), .val (.long (((p1 &&& (7 : Int32)).toInt64) + (q0 - (q0 / (3 : Int64)) * (3 : Int64)))), .second, .val (.ref b14), .val (.int (1 : Int32))] [(.int (1 : Int32))]))
          refine own_st ?_ (fun t k => XS.goto X21.here hx rfl (pc0 := 121) (pc' := 125) rfl (hb hby at_121) (by decide) (by decide) k)
          show own_G p.tables e below _ _ (T21.setTop (mkF m 125 #[.val (.long q0), .second, .val (.int p1), .val (.int (p1 &&& (7 : Int32))), .val (.ref b1), .val (.int (((p1.toUInt32 >>> ((3 : Int32) &&& 31).toUInt32).toInt32) &&& (3 : Int32))), .val (.long (((p1 &&& (7 : Int32)).toInt64) + (q0 - (q0 / (3 : Int64)) * (3 : Int64)))), .second, .val (.ref b14), .val (.int (1 : Int32))] [(.int (1 : Int32))]))
          exact own_retN X21 hx hlk (t := .boolean) hret (by simp) (hb hby at_125) (by decide) (by decide) (z' := (1 : Int32)) rfl ⟨rfl, N21⟩
        · refine own_st ?_ (fun t k => XS.ifYes X17.here hx rfl (pc0 := 100) (pc' := 107) rfl (hb hby at_100) rfl ((if0 _ _).trans (feq hc100).2) (by decide) (by decide) k)
          show own_G p.tables e below _ _ (T17.setTop (mkF m 107 #[.val (.long q0), .second, .val (.int p1), .val (.int (p1 &&& (7 : Int32))), .val (.ref b1), .val (.int (((p1.toUInt32 >>> ((3 : Int32) &&& 31).toUInt32).toInt32) &&& (3 : Int32))), .val (.long (((p1 &&& (7 : Int32)).toInt64) + (q0 - (q0 / (3 : Int64)) * (3 : Int64)))), .second, .val (.ref b14), .unset] []))
          refine own_st ?_ (fun t k => XS.iconst X17.here hx rfl (hb hby at_107) k)
          show own_G p.tables e below _ _ (T17.setTop (mkF m 108 #[.val (.long q0), .second, .val (.int p1), .val (.int (p1 &&& (7 : Int32))), .val (.ref b1), .val (.int (((p1.toUInt32 >>> ((3 : Int32) &&& 31).toUInt32).toInt32) &&& (3 : Int32))), .val (.long (((p1 &&& (7 : Int32)).toInt64) + (q0 - (q0 / (3 : Int64)) * (3 : Int64)))), .second, .val (.ref b14), .unset] [(.int (0 : Int32))]))
          refine own_st ?_ (fun t k => XS.istore X17.here hx rfl (hb hby at_108) rfl (l' := #[.val (.long q0), .second, .val (.int p1), .val (.int (p1 &&& (7 : Int32))), .val (.ref b1), .val (.int (((p1.toUInt32 >>> ((3 : Int32) &&& 31).toUInt32).toInt32) &&& (3 : Int32))), .val (.long (((p1 &&& (7 : Int32)).toInt64) + (q0 - (q0 / (3 : Int64)) * (3 : Int64)))), .second, .val (.ref b14), .val (.int (0 : Int32))]) rfl k)
          show own_G p.tables e below _ _ (T17.setTop (mkF m 110 #[.val (.long q0), .second, .val (.int p1), .val (.int (p1 &&& (7 : Int32))), .val (.ref b1), .val (.int (((p1.toUInt32 >>> ((3 : Int32) &&& 31).toUInt32).toInt32) &&& (3 : Int32))), .val (.long (((p1 &&& (7 : Int32)).toInt64) + (q0 - (q0 / (3 : Int64)) * (3 : Int64)))), .second, .val (.ref b14), .val (.int (0 : Int32))] []))
          refine own_st ?_ (fun t k => XS.aload X17.here hx rfl (hb hby at_110) rfl rfl k)
          show own_G p.tables e below _ _ (T17.setTop (mkF m 112 #[.val (.long q0), .second, .val (.int p1), .val (.int (p1 &&& (7 : Int32))), .val (.ref b1), .val (.int (((p1.toUInt32 >>> ((3 : Int32) &&& 31).toUInt32).toInt32) &&& (3 : Int32))), .val (.long (((p1 &&& (7 : Int32)).toInt64) + (q0 - (q0 / (3 : Int64)) * (3 : Int64)))), .second, .val (.ref b14), .val (.int (0 : Int32))] [(.ref b14)]))
          obtain ⟨cq22, kq22, q22a, q22b, q22c⟩ := isOf hZ rfl F19_E
          obtain ⟨_, _, ⟨T22, L22, k22, n22⟩, -, X22, ⟨Lc22, hQ22, l22, y22, z22⟩, st22⟩ := X17.virtualBack hx (y := (⟨"com/example/fanoline/fanoline/io/LineReader$Line", "held", "()Z"⟩ : MethodName)) (z := (⟨"com/example/fanoline/fanoline/io/LineReader$Line", "held", "()Z"⟩ : MethodName)) hown (mvT hZ (hw _ (List.mem_of_getElem? (i := 19) rfl))) (mvT hZ (hw _ (List.mem_of_getElem? (i := 20) rfl))) (notFace_of_selects (args := #[]) (mvT hZ (hw _ (List.mem_of_getElem? (i := 22) rfl)))) (mvT hZ (hw _ (List.mem_of_getElem? (i := 22) rfl))) (mvT hZ (hw _ (List.mem_of_getElem? (i := 21) rfl))) (by decide) (backOf (W := 0) (rm4 l Z _ hw [] b14 (p1 &&& (7 : Int32)) b1 (((p1 &&& (7 : Int32)).toInt64) + (q0 - (q0 / (3 : Int64)) * (3 : Int64))) T17.heap n0 Zs20 F18_P (own_n p1).1 Fb17 Fl17) hZ (hw _ (List.mem_of_getElem? (i := 23) rfl)) (hw _ (List.mem_of_getElem? (i := 3) rfl)) (by decide) (by decide)) q22a q22c (g := (mkF m 112 #[.val (.long q0), .second, .val (.int p1), .val (.int (p1 &&& (7 : Int32))), .val (.ref b1), .val (.int (((p1.toUInt32 >>> ((3 : Int32) &&& 31).toUInt32).toInt32) &&& (3 : Int32))), .val (.long (((p1 &&& (7 : Int32)).toInt64) + (q0 - (q0 / (3 : Int64)) * (3 : Int64)))), .second, .val (.ref b14), .val (.int (0 : Int32))] [(.ref b14)])) rfl (by rw [hml]; rfl) (Steps.refl _) (argsL := []) (rest := []) (lenOf pd_2 rfl) rfl (by show 2 * 0 + _ ≤ _; exact Nat.le_of_eq rfl) (hb hby at_112) (fun _ _ => ⟨rfl, rfl, (by decide : 2 + 0 ≤ _), (by decide : 9 + 0 ≤ _)⟩)
          dsimp only [Pt.U, Pt.locs, Pt.cells, Pt.slots] at X22 l22 y22 z22 st22 hQ22
          subst l22 y22 z22
          obtain ⟨rfl, N22q, e22⟩ := hQ22
          have N22 := Fr.app N17 N22q
          refine own_st ?_ (fun t k => st22.trans k)
          show own_G p.tables e below _ _ (T22.setTop (mkF m 115 #[.val (.long q0), .second, .val (.int p1), .val (.int (p1 &&& (7 : Int32))), .val (.ref b1), .val (.int (((p1.toUInt32 >>> ((3 : Int32) &&& 31).toUInt32).toInt32) &&& (3 : Int32))), .val (.long (((p1 &&& (7 : Int32)).toInt64) + (q0 - (q0 / (3 : Int64)) * (3 : Int64)))), .second, .val (.ref b14), .val (.int (0 : Int32))] [(.int (f4 b14 (p1 &&& (7 : Int32)) b1 (((p1 &&& (7 : Int32)).toInt64) + (q0 - (q0 / (3 : Int64)) * (3 : Int64)))))]))
          refine own_st ?_ (fun t k => XS.iload X22.here hx rfl (hb hby at_115) rfl k)
          show own_G p.tables e below _ _ (T22.setTop (mkF m 117 #[.val (.long q0), .second, .val (.int p1), .val (.int (p1 &&& (7 : Int32))), .val (.ref b1), .val (.int (((p1.toUInt32 >>> ((3 : Int32) &&& 31).toUInt32).toInt32) &&& (3 : Int32))), .val (.long (((p1 &&& (7 : Int32)).toInt64) + (q0 - (q0 / (3 : Int64)) * (3 : Int64)))), .second, .val (.ref b14), .val (.int (0 : Int32))] [(.int (0 : Int32)), (.int (f4 b14 (p1 &&& (7 : Int32)) b1 (((p1 &&& (7 : Int32)).toInt64) + (q0 - (q0 / (3 : Int64)) * (3 : Int64)))))]))
          refine own_st ?_ (fun t k => XS.icmpNo X22.here hx rfl (hb hby at_117) rfl (teq (own_h0 hc100)).2 k)
          show own_G p.tables e below _ _ (T22.setTop (mkF m 120 #[.val (.long q0), .second, .val (.int p1), .val (.int (p1 &&& (7 : Int32))), .val (.ref b1), .val (.int (((p1.toUInt32 >>> ((3 : Int32) &&& 31).toUInt32).toInt32) &&& (3 : Int32))), .val (.long (((p1 &&& (7 : Int32)).toInt64) + (q0 - (q0 / (3 : Int64)) * (3 : Int64)))), .second, .val (.ref b14), .val (.int (0 : Int32))] []))
          refine own_st ?_ (fun t k => XS.iconst X22.here hx rfl (hb hby at_120) k)
          show own_G p.tables e below _ _ (T22.setTop (mkF m 121 #[.val (.long q0), .second, .val (.int p1), .val (.int (p1 &&& (7 : Int32))), .val (.ref b1), .val (.int (((p1.toUInt32 >>> ((3 : Int32) &&& 31).toUInt32).toInt32) &&& (3 : Int32))), .val (.long (((p1 &&& (7 : Int32)).toInt64) + (q0 - (q0 / (3 : Int64)) * (3 : Int64)))), .second, .val (.ref b14), .val (.int (0 : Int32))] [(.int (1 : Int32))]))
          refine own_st ?_ (fun t k => XS.goto X22.here hx rfl (pc0 := 121) (pc' := 125) rfl (hb hby at_121) (by decide) (by decide) k)
          show own_G p.tables e below _ _ (T22.setTop (mkF m 125 #[.val (.long q0), .second, .val (.int p1), .val (.int (p1 &&& (7 : Int32))), .val (.ref b1), .val (.int (((p1.toUInt32 >>> ((3 : Int32) &&& 31).toUInt32).toInt32) &&& (3 : Int32))), .val (.long (((p1 &&& (7 : Int32)).toInt64) + (q0 - (q0 / (3 : Int64)) * (3 : Int64)))), .second, .val (.ref b14), .val (.int (0 : Int32))] [(.int (1 : Int32))]))
          exact own_retN X22 hx hlk (t := .boolean) hret (by simp) (hb hby at_125) (by decide) (by decide) (z' := (1 : Int32)) rfl ⟨rfl, N22⟩
      · refine own_st ?_ (fun t k => XS.icmpYes X3.here hx rfl (pc0 := 44) (pc' := 60) rfl (hb hby at_44) rfl (feq hc44).2 (by decide) (by decide) k)
        show own_G p.tables e below _ _ (T3.setTop (mkF m 60 #[.val (.long q0), .second, .val (.int p1), .val (.int (p1 &&& (7 : Int32))), .val (.ref b1), .val (.int (((p1.toUInt32 >>> ((3 : Int32) &&& 31).toUInt32).toInt32) &&& (3 : Int32))), .unset, .unset, .unset, .unset] []))
        refine own_st ?_ (fun t k => XS.iload X3.here hx rfl (hb hby at_60) rfl k)
        show own_G p.tables e below _ _ (T3.setTop (mkF m 62 #[.val (.long q0), .second, .val (.int p1), .val (.int (p1 &&& (7 : Int32))), .val (.ref b1), .val (.int (((p1.toUInt32 >>> ((3 : Int32) &&& 31).toUInt32).toInt32) &&& (3 : Int32))), .unset, .unset, .unset, .unset] [(.int (((p1.toUInt32 >>> ((3 : Int32) &&& 31).toUInt32).toInt32) &&& (3 : Int32)))]))
        refine own_st ?_ (fun t k => XS.iconst X3.here hx rfl (hb hby at_62) k)
        show own_G p.tables e below _ _ (T3.setTop (mkF m 63 #[.val (.long q0), .second, .val (.int p1), .val (.int (p1 &&& (7 : Int32))), .val (.ref b1), .val (.int (((p1.toUInt32 >>> ((3 : Int32) &&& 31).toUInt32).toInt32) &&& (3 : Int32))), .unset, .unset, .unset, .unset] [(.int (2 : Int32)), (.int (((p1.toUInt32 >>> ((3 : Int32) &&& 31).toUInt32).toInt32) &&& (3 : Int32)))]))
        by_cases hc63 : (((p1.toUInt32 >>> ((3 : Int32) &&& 31).toUInt32).toInt32) &&& (3 : Int32)) = (2 : Int32)
        · refine own_st ?_ (fun t k => XS.icmpNo X3.here hx rfl (hb hby at_63) rfl (teq hc63).2 k)
          show own_G p.tables e below _ _ (T3.setTop (mkF m 66 #[.val (.long q0), .second, .val (.int p1), .val (.int (p1 &&& (7 : Int32))), .val (.ref b1), .val (.int (((p1.toUInt32 >>> ((3 : Int32) &&& 31).toUInt32).toInt32) &&& (3 : Int32))), .unset, .unset, .unset, .unset] []))
          refine own_st ?_ (fun t k => XS.iloadN X3.here hx rfl (hb hby at_66) rfl k)
          show own_G p.tables e below _ _ (T3.setTop (mkF m 67 #[.val (.long q0), .second, .val (.int p1), .val (.int (p1 &&& (7 : Int32))), .val (.ref b1), .val (.int (((p1.toUInt32 >>> ((3 : Int32) &&& 31).toUInt32).toInt32) &&& (3 : Int32))), .unset, .unset, .unset, .unset] [(.int (p1 &&& (7 : Int32)))]))
          refine own_st ?_ (fun t k => XS.i2l X3.here hx rfl (hb hby at_67) rfl k)
          show own_G p.tables e below _ _ (T3.setTop (mkF m 68 #[.val (.long q0), .second, .val (.int p1), .val (.int (p1 &&& (7 : Int32))), .val (.ref b1), .val (.int (((p1.toUInt32 >>> ((3 : Int32) &&& 31).toUInt32).toInt32) &&& (3 : Int32))), .unset, .unset, .unset, .unset] [(.long ((p1 &&& (7 : Int32)).toInt64))]))
          refine own_st ?_ (fun t k => XS.lloadN X3.here hx rfl (hb hby at_68) rfl k)
          show own_G p.tables e below _ _ (T3.setTop (mkF m 69 #[.val (.long q0), .second, .val (.int p1), .val (.int (p1 &&& (7 : Int32))), .val (.ref b1), .val (.int (((p1.toUInt32 >>> ((3 : Int32) &&& 31).toUInt32).toInt32) &&& (3 : Int32))), .unset, .unset, .unset, .unset] [(.long q0), (.long ((p1 &&& (7 : Int32)).toInt64))]))
          refine own_st ?_ (fun t k => XS.bipush X3.here hx rfl (hb hby at_69) k)
          show own_G p.tables e below _ _ (T3.setTop (mkF m 71 #[.val (.long q0), .second, .val (.int p1), .val (.int (p1 &&& (7 : Int32))), .val (.ref b1), .val (.int (((p1.toUInt32 >>> ((3 : Int32) &&& 31).toUInt32).toInt32) &&& (3 : Int32))), .unset, .unset, .unset, .unset] [(.int (32 : Int32)), (.long q0), (.long ((p1 &&& (7 : Int32)).toInt64))]))
          refine own_st ?_ (fun t k => XS.lshl X3.here hx rfl (hb hby at_71) rfl k)
          show own_G p.tables e below _ _ (T3.setTop (mkF m 72 #[.val (.long q0), .second, .val (.int p1), .val (.int (p1 &&& (7 : Int32))), .val (.ref b1), .val (.int (((p1.toUInt32 >>> ((3 : Int32) &&& 31).toUInt32).toInt32) &&& (3 : Int32))), .unset, .unset, .unset, .unset] [(.long (q0 <<< ((32 : Int32) &&& 0x3f).toInt64)), (.long ((p1 &&& (7 : Int32)).toInt64))]))
          refine own_st ?_ (fun t k => XS.ladd X3.here hx rfl (hb hby at_72) rfl k)
          show own_G p.tables e below _ _ (T3.setTop (mkF m 73 #[.val (.long q0), .second, .val (.int p1), .val (.int (p1 &&& (7 : Int32))), .val (.ref b1), .val (.int (((p1.toUInt32 >>> ((3 : Int32) &&& 31).toUInt32).toInt32) &&& (3 : Int32))), .unset, .unset, .unset, .unset] [(.long (((p1 &&& (7 : Int32)).toInt64) + (q0 <<< ((32 : Int32) &&& 0x3f).toInt64)))]))
          refine own_st ?_ (fun t k => XS.lstore X3.here hx rfl (hb hby at_73) rfl (l' := #[.val (.long q0), .second, .val (.int p1), .val (.int (p1 &&& (7 : Int32))), .val (.ref b1), .val (.int (((p1.toUInt32 >>> ((3 : Int32) &&& 31).toUInt32).toInt32) &&& (3 : Int32))), .val (.long (((p1 &&& (7 : Int32)).toInt64) + (q0 <<< ((32 : Int32) &&& 0x3f).toInt64))), .second, .unset, .unset]) rfl k)
          show own_G p.tables e below _ _ (T3.setTop (mkF m 75 #[.val (.long q0), .second, .val (.int p1), .val (.int (p1 &&& (7 : Int32))), .val (.ref b1), .val (.int (((p1.toUInt32 >>> ((3 : Int32) &&& 31).toUInt32).toInt32) &&& (3 : Int32))), .val (.long (((p1 &&& (7 : Int32)).toInt64) + (q0 <<< ((32 : Int32) &&& 0x3f).toInt64))), .second, .unset, .unset] []))
          refine own_st ?_ (fun t k => XS.goto X3.here hx rfl (pc0 := 75) (pc' := 82) rfl (hb hby at_75) (by decide) (by decide) k)
          show own_G p.tables e below _ _ (T3.setTop (mkF m 82 #[.val (.long q0), .second, .val (.int p1), .val (.int (p1 &&& (7 : Int32))), .val (.ref b1), .val (.int (((p1.toUInt32 >>> ((3 : Int32) &&& 31).toUInt32).toInt32) &&& (3 : Int32))), .val (.long (((p1 &&& (7 : Int32)).toInt64) + (q0 <<< ((32 : Int32) &&& 0x3f).toInt64))), .second, .unset, .unset] []))
          obtain ⟨T23, h23, X23, e23, E23, A23, D23, -, st23⟩ := newO X3 hx hZ hown (hw _ (List.mem_of_getElem? (i := 1) rfl)) (hw _ (List.mem_of_getElem? (i := 2) rfl)) (hw _ (List.mem_of_getElem? (i := 3) rfl)) e3 (g := (mkF m 82 #[.val (.long q0), .second, .val (.int p1), .val (.int (p1 &&& (7 : Int32))), .val (.ref b1), .val (.int (((p1.toUInt32 >>> ((3 : Int32) &&& 31).toUInt32).toInt32) &&& (3 : Int32))), .val (.long (((p1 &&& (7 : Int32)).toInt64) + (q0 <<< ((32 : Int32) &&& 0x3f).toInt64))), .second, .unset, .unset] [])) rfl (hb hby at_82) (by decide) (by decide)
          obtain ⟨b23, gz23⟩ : ∃ z, z = h3.size := ⟨_, rfl⟩
          rw [← gz23] at A23 D23 st23
          have ne_b1_b23 : b1 ≠ b23 := Nat.ne_of_lt (Nat.lt_of_lt_of_le (own_B_lt F3) (Nat.le_of_eq gz23.symm))
          have g_b23 : n0 ≤ b23 := Nat.le_trans Zs4 (Nat.le_of_eq gz23.symm)
          have F24_P : own_B Z h23 b1 (p1 &&& (7 : Int32)) := own_B_ext F3 E23
          have Zs25 : n0 ≤ h23.size := Nat.le_trans Zs4 E23.1
          have F_length_b23 : Fld Z h23 b23 "com/example/fanoline/fanoline/io/LineReader$Line" "length" "J" (.long (0 : Int64)) := D23 (Or.inr (hw _ (List.mem_of_getElem? (i := 16) rfl))) (ty := .long) (by decide)
          have F_bytes_b23 : Fld Z h23 b23 "com/example/fanoline/fanoline/io/LineReader$Line" "bytes" "[B" .null := D23 (Or.inr (hw _ (List.mem_of_getElem? (i := 18) rfl))) (ty := (.array .byte)) (by decide)
          refine own_st ?_ st23
          show own_G p.tables e below _ _ (T23.setTop (mkF m 85 #[.val (.long q0), .second, .val (.int p1), .val (.int (p1 &&& (7 : Int32))), .val (.ref b1), .val (.int (((p1.toUInt32 >>> ((3 : Int32) &&& 31).toUInt32).toInt32) &&& (3 : Int32))), .val (.long (((p1 &&& (7 : Int32)).toInt64) + (q0 <<< ((32 : Int32) &&& 0x3f).toInt64))), .second, .unset, .unset] [(.ref b23)]))
          refine own_st ?_ (fun t k => XS.dup X23.here hx rfl (hb hby at_85) rfl rfl k)
          show own_G p.tables e below _ _ (T23.setTop (mkF m 86 #[.val (.long q0), .second, .val (.int p1), .val (.int (p1 &&& (7 : Int32))), .val (.ref b1), .val (.int (((p1.toUInt32 >>> ((3 : Int32) &&& 31).toUInt32).toInt32) &&& (3 : Int32))), .val (.long (((p1 &&& (7 : Int32)).toInt64) + (q0 <<< ((32 : Int32) &&& 0x3f).toInt64))), .second, .unset, .unset] [(.ref b23), (.ref b23)]))
          refine own_st ?_ (fun t k => XS.lload X23.here hx rfl (hb hby at_86) rfl k)
          show own_G p.tables e below _ _ (T23.setTop (mkF m 88 #[.val (.long q0), .second, .val (.int p1), .val (.int (p1 &&& (7 : Int32))), .val (.ref b1), .val (.int (((p1.toUInt32 >>> ((3 : Int32) &&& 31).toUInt32).toInt32) &&& (3 : Int32))), .val (.long (((p1 &&& (7 : Int32)).toInt64) + (q0 <<< ((32 : Int32) &&& 0x3f).toInt64))), .second, .unset, .unset] [(.long (((p1 &&& (7 : Int32)).toInt64) + (q0 <<< ((32 : Int32) &&& 0x3f).toInt64))), (.ref b23), (.ref b23)]))
          refine own_st ?_ (fun t k => XS.aload X23.here hx rfl (hb hby at_88) rfl rfl k)
          show own_G p.tables e below _ _ (T23.setTop (mkF m 90 #[.val (.long q0), .second, .val (.int p1), .val (.int (p1 &&& (7 : Int32))), .val (.ref b1), .val (.int (((p1.toUInt32 >>> ((3 : Int32) &&& 31).toUInt32).toInt32) &&& (3 : Int32))), .val (.long (((p1 &&& (7 : Int32)).toInt64) + (q0 <<< ((32 : Int32) &&& 0x3f).toInt64))), .second, .unset, .unset] [(.ref b1), (.long (((p1 &&& (7 : Int32)).toInt64) + (q0 <<< ((32 : Int32) &&& 0x3f).toInt64))), (.ref b23), (.ref b23)]))
          obtain ⟨_, _, ⟨T26, L26, k26, n26⟩, -, X26, ⟨Lc26, hQ26, l26, y26, z26⟩, st26⟩ := X23.specialBack hx (y := (⟨"com/example/fanoline/fanoline/io/LineReader$Line", "<init>", "(J[B)V"⟩ : MethodName)) rfl hown (mvT hZ (hw _ (List.mem_of_getElem? (i := 4) rfl))) (mvT hZ (hw _ (List.mem_of_getElem? (i := 5) rfl))) (mvT hZ (hw _ (List.mem_of_getElem? (i := 6) rfl))) (by decide) (backOf (W := 1) (rm1 l Z _ hw [] b23 (((p1 &&& (7 : Int32)).toInt64) + (q0 <<< ((32 : Int32) &&& 0x3f).toInt64)) b1 (.long (0 : Int64)) .null h23 n0 Zs25 g_b23 A23 F_length_b23 F_bytes_b23) hZ (hw _ (List.mem_of_getElem? (i := 6) rfl)) (hw _ (List.mem_of_getElem? (i := 3) rfl)) (by decide) (by decide)) (g := (mkF m 90 #[.val (.long q0), .second, .val (.int p1), .val (.int (p1 &&& (7 : Int32))), .val (.ref b1), .val (.int (((p1.toUInt32 >>> ((3 : Int32) &&& 31).toUInt32).toInt32) &&& (3 : Int32))), .val (.long (((p1 &&& (7 : Int32)).toInt64) + (q0 <<< ((32 : Int32) &&& 0x3f).toInt64))), .second, .unset, .unset] [(.ref b1), (.long (((p1 &&& (7 : Int32)).toInt64) + (q0 <<< ((32 : Int32) &&& 0x3f).toInt64))), (.ref b23), (.ref b23)])) rfl (by rw [hml]; rfl) (Steps.refl _) (a := b23) (argsL := [(.long (((p1 &&& (7 : Int32)).toInt64) + (q0 <<< ((32 : Int32) &&& 0x3f).toInt64))), (.ref b1)]) (rest := [(.ref b23)]) (lenOf pd_1 rfl) rfl (by show 2 * 0 + _ ≤ _; exact Nat.le_of_eq rfl) (hb hby at_90) (fun _ _ => ⟨rfl, e23, (by decide : 2 + 0 ≤ _), (by decide : 9 + 0 ≤ _)⟩)
          dsimp only [Pt.U, Pt.locs, Pt.cells, Pt.slots] at X26 l26 y26 z26 st26 hQ26
          subst l26 y26 z26
          obtain ⟨rfl, N26q, hq26⟩ := hQ26
          have N26 := Fr.app N3 N26q
          obtain ⟨K26, Fl26, Fb26⟩ := hq26
          have F27_P : own_B Z T26.heap b1 (p1 &&& (7 : Int32)) := own_B_keep F24_P K26 (ninS ne_b1_b23 nin0)
          have F28_E : Exa Z T26.heap b23 "com/example/fanoline/fanoline/io/LineReader$Line" := A23.keep K26
          have Zs29 : n0 ≤ T26.heap.size := Nat.le_trans Zs25 K26.1
          refine own_st ?_ (fun t k => st26.trans k)
          show own_G p.tables e below _ _ (T26.setTop (mkF m 93 #[.val (.long q0), .second, .val (.int p1), .val (.int (p1 &&& (7 : Int32))), .val (.ref b1), .val (.int (((p1.toUInt32 >>> ((3 : Int32) &&& 31).toUInt32).toInt32) &&& (3 : Int32))), .val (.long (((p1 &&& (7 : Int32)).toInt64) + (q0 <<< ((32 : Int32) &&& 0x3f).toInt64))), .second, .unset, .unset] [(.ref b23)]))
          refine own_st ?_ (fun t k => XS.astore X26.here hx rfl (hb hby at_93) rfl rfl (l' := #[.val (.long q0), .second, .val (.int p1), .val (.int (p1 &&& (7 : Int32))), .val (.ref b1), .val (.int (((p1.toUInt32 >>> ((3 : Int32) &&& 31).toUInt32).toInt32) &&& (3 : Int32))), .val (.long (((p1 &&& (7 : Int32)).toInt64) + (q0 <<< ((32 : Int32) &&& 0x3f).toInt64))), .second, .val (.ref b23), .unset]) rfl k)
          show own_G p.tables e below _ _ (T26.setTop (mkF m 95 #[.val (.long q0), .second, .val (.int p1), .val (.int (p1 &&& (7 : Int32))), .val (.ref b1), .val (.int (((p1.toUInt32 >>> ((3 : Int32) &&& 31).toUInt32).toInt32) &&& (3 : Int32))), .val (.long (((p1 &&& (7 : Int32)).toInt64) + (q0 <<< ((32 : Int32) &&& 0x3f).toInt64))), .second, .val (.ref b23), .unset] []))
          refine own_st ?_ (fun t k => XS.lload X26.here hx rfl (hb hby at_95) rfl k)
          show own_G p.tables e below _ _ (T26.setTop (mkF m 97 #[.val (.long q0), .second, .val (.int p1), .val (.int (p1 &&& (7 : Int32))), .val (.ref b1), .val (.int (((p1.toUInt32 >>> ((3 : Int32) &&& 31).toUInt32).toInt32) &&& (3 : Int32))), .val (.long (((p1 &&& (7 : Int32)).toInt64) + (q0 <<< ((32 : Int32) &&& 0x3f).toInt64))), .second, .val (.ref b23), .unset] [(.long (((p1 &&& (7 : Int32)).toInt64) + (q0 <<< ((32 : Int32) &&& 0x3f).toInt64)))]))
          refine own_st ?_ (fun t k => XS.iloadN X26.here hx rfl (hb hby at_97) rfl k)
          show own_G p.tables e below _ _ (T26.setTop (mkF m 98 #[.val (.long q0), .second, .val (.int p1), .val (.int (p1 &&& (7 : Int32))), .val (.ref b1), .val (.int (((p1.toUInt32 >>> ((3 : Int32) &&& 31).toUInt32).toInt32) &&& (3 : Int32))), .val (.long (((p1 &&& (7 : Int32)).toInt64) + (q0 <<< ((32 : Int32) &&& 0x3f).toInt64))), .second, .val (.ref b23), .unset] [(.int (p1 &&& (7 : Int32))), (.long (((p1 &&& (7 : Int32)).toInt64) + (q0 <<< ((32 : Int32) &&& 0x3f).toInt64)))]))
          refine own_st ?_ (fun t k => XS.i2l X26.here hx rfl (hb hby at_98) rfl k)
          show own_G p.tables e below _ _ (T26.setTop (mkF m 99 #[.val (.long q0), .second, .val (.int p1), .val (.int (p1 &&& (7 : Int32))), .val (.ref b1), .val (.int (((p1.toUInt32 >>> ((3 : Int32) &&& 31).toUInt32).toInt32) &&& (3 : Int32))), .val (.long (((p1 &&& (7 : Int32)).toInt64) + (q0 <<< ((32 : Int32) &&& 0x3f).toInt64))), .second, .val (.ref b23), .unset] [(.long ((p1 &&& (7 : Int32)).toInt64)), (.long (((p1 &&& (7 : Int32)).toInt64) + (q0 <<< ((32 : Int32) &&& 0x3f).toInt64)))]))
          refine own_st ?_ (fun t k => XS.lcmp X26.here hx rfl (hb hby at_99) rfl k)
          show own_G p.tables e below _ _ (T26.setTop (mkF m 100 #[.val (.long q0), .second, .val (.int p1), .val (.int (p1 &&& (7 : Int32))), .val (.ref b1), .val (.int (((p1.toUInt32 >>> ((3 : Int32) &&& 31).toUInt32).toInt32) &&& (3 : Int32))), .val (.long (((p1 &&& (7 : Int32)).toInt64) + (q0 <<< ((32 : Int32) &&& 0x3f).toInt64))), .second, .val (.ref b23), .unset] [(.int (lcmpW (((p1 &&& (7 : Int32)).toInt64) + (q0 <<< ((32 : Int32) &&& 0x3f).toInt64)) ((p1 &&& (7 : Int32)).toInt64)))]))
          by_cases hc100 : (lcmpW (((p1 &&& (7 : Int32)).toInt64) + (q0 <<< ((32 : Int32) &&& 0x3f).toInt64)) ((p1 &&& (7 : Int32)).toInt64)) = (0 : Int32)
          · refine own_st ?_ (fun t k => XS.ifNo X26.here hx rfl (hb hby at_100) rfl ((if0 _ _).trans (teq hc100).2) k)
            show own_G p.tables e below _ _ (T26.setTop (mkF m 103 #[.val (.long q0), .second, .val (.int p1), .val (.int (p1 &&& (7 : Int32))), .val (.ref b1), .val (.int (((p1.toUInt32 >>> ((3 : Int32) &&& 31).toUInt32).toInt32) &&& (3 : Int32))), .val (.long (((p1 &&& (7 : Int32)).toInt64) + (q0 <<< ((32 : Int32) &&& 0x3f).toInt64))), .second, .val (.ref b23), .unset] []))
            refine own_st ?_ (fun t k => XS.iconst X26.here hx rfl (hb hby at_103) k)
            show own_G p.tables e below _ _ (T26.setTop (mkF m 104 #[.val (.long q0), .second, .val (.int p1), .val (.int (p1 &&& (7 : Int32))), .val (.ref b1), .val (.int (((p1.toUInt32 >>> ((3 : Int32) &&& 31).toUInt32).toInt32) &&& (3 : Int32))), .val (.long (((p1 &&& (7 : Int32)).toInt64) + (q0 <<< ((32 : Int32) &&& 0x3f).toInt64))), .second, .val (.ref b23), .unset] [(.int (1 : Int32))]))
            refine own_st ?_ (fun t k => XS.goto X26.here hx rfl (pc0 := 104) (pc' := 108) rfl (hb hby at_104) (by decide) (by decide) k)
            show own_G p.tables e below _ _ (T26.setTop (mkF m 108 #[.val (.long q0), .second, .val (.int p1), .val (.int (p1 &&& (7 : Int32))), .val (.ref b1), .val (.int (((p1.toUInt32 >>> ((3 : Int32) &&& 31).toUInt32).toInt32) &&& (3 : Int32))), .val (.long (((p1 &&& (7 : Int32)).toInt64) + (q0 <<< ((32 : Int32) &&& 0x3f).toInt64))), .second, .val (.ref b23), .unset] [(.int (1 : Int32))]))
            refine own_st ?_ (fun t k => XS.istore X26.here hx rfl (hb hby at_108) rfl (l' := #[.val (.long q0), .second, .val (.int p1), .val (.int (p1 &&& (7 : Int32))), .val (.ref b1), .val (.int (((p1.toUInt32 >>> ((3 : Int32) &&& 31).toUInt32).toInt32) &&& (3 : Int32))), .val (.long (((p1 &&& (7 : Int32)).toInt64) + (q0 <<< ((32 : Int32) &&& 0x3f).toInt64))), .second, .val (.ref b23), .val (.int (1 : Int32))]) rfl k)
            show own_G p.tables e below _ _ (T26.setTop (mkF m 110 #[.val (.long q0), .second, .val (.int p1), .val (.int (p1 &&& (7 : Int32))), .val (.ref b1), .val (.int (((p1.toUInt32 >>> ((3 : Int32) &&& 31).toUInt32).toInt32) &&& (3 : Int32))), .val (.long (((p1 &&& (7 : Int32)).toInt64) + (q0 <<< ((32 : Int32) &&& 0x3f).toInt64))), .second, .val (.ref b23), .val (.int (1 : Int32))] []))
            refine own_st ?_ (fun t k => XS.aload X26.here hx rfl (hb hby at_110) rfl rfl k)
            show own_G p.tables e below _ _ (T26.setTop (mkF m 112 #[.val (.long q0), .second, .val (.int p1), .val (.int (p1 &&& (7 : Int32))), .val (.ref b1), .val (.int (((p1.toUInt32 >>> ((3 : Int32) &&& 31).toUInt32).toInt32) &&& (3 : Int32))), .val (.long (((p1 &&& (7 : Int32)).toInt64) + (q0 <<< ((32 : Int32) &&& 0x3f).toInt64))), .second, .val (.ref b23), .val (.int (1 : Int32))] [(.ref b23)]))
            obtain ⟨cq30, kq30, q30a, q30b, q30c⟩ := isOf hZ rfl F28_E
            obtain ⟨_, _, ⟨T30, L30, k30, n30⟩, -, X30, ⟨Lc30, hQ30, l30, y30, z30⟩, st30⟩ := X26.virtualBack hx (y := (⟨"com/example/fanoline/fanoline/io/LineReader$Line", "held", "()Z"⟩ : MethodName)) (z := (⟨"com/example/fanoline/fanoline/io/LineReader$Line", "held", "()Z"⟩ : MethodName)) hown (mvT hZ (hw _ (List.mem_of_getElem? (i := 19) rfl))) (mvT hZ (hw _ (List.mem_of_getElem? (i := 20) rfl))) (notFace_of_selects (args := #[]) (mvT hZ (hw _ (List.mem_of_getElem? (i := 22) rfl)))) (mvT hZ (hw _ (List.mem_of_getElem? (i := 22) rfl))) (mvT hZ (hw _ (List.mem_of_getElem? (i := 21) rfl))) (by decide) (backOf (W := 0) (rm4 l Z _ hw [] b23 (p1 &&& (7 : Int32)) b1 (((p1 &&& (7 : Int32)).toInt64) + (q0 <<< ((32 : Int32) &&& 0x3f).toInt64)) T26.heap n0 Zs29 F27_P (own_n p1).1 Fb26 Fl26) hZ (hw _ (List.mem_of_getElem? (i := 23) rfl)) (hw _ (List.mem_of_getElem? (i := 3) rfl)) (by decide) (by decide)) q30a q30c (g := (mkF m 112 #[.val (.long q0), .second, .val (.int p1), .val (.int (p1 &&& (7 : Int32))), .val (.ref b1), .val (.int (((p1.toUInt32 >>> ((3 : Int32) &&& 31).toUInt32).toInt32) &&& (3 : Int32))), .val (.long (((p1 &&& (7 : Int32)).toInt64) + (q0 <<< ((32 : Int32) &&& 0x3f).toInt64))), .second, .val (.ref b23), .val (.int (1 : Int32))] [(.ref b23)])) rfl (by rw [hml]; rfl) (Steps.refl _) (argsL := []) (rest := []) (lenOf pd_2 rfl) rfl (by show 2 * 0 + _ ≤ _; exact Nat.le_of_eq rfl) (hb hby at_112) (fun _ _ => ⟨rfl, rfl, (by decide : 2 + 0 ≤ _), (by decide : 9 + 0 ≤ _)⟩)
            dsimp only [Pt.U, Pt.locs, Pt.cells, Pt.slots] at X30 l30 y30 z30 st30 hQ30
            subst l30 y30 z30
            obtain ⟨rfl, N30q, e30⟩ := hQ30
            have N30 := Fr.app N26 N30q
            refine own_st ?_ (fun t k => st30.trans k)
            show own_G p.tables e below _ _ (T30.setTop (mkF m 115 #[.val (.long q0), .second, .val (.int p1), .val (.int (p1 &&& (7 : Int32))), .val (.ref b1), .val (.int (((p1.toUInt32 >>> ((3 : Int32) &&& 31).toUInt32).toInt32) &&& (3 : Int32))), .val (.long (((p1 &&& (7 : Int32)).toInt64) + (q0 <<< ((32 : Int32) &&& 0x3f).toInt64))), .second, .val (.ref b23), .val (.int (1 : Int32))] [(.int (f4 b23 (p1 &&& (7 : Int32)) b1 (((p1 &&& (7 : Int32)).toInt64) + (q0 <<< ((32 : Int32) &&& 0x3f).toInt64))))]))
            refine own_st ?_ (fun t k => XS.iload X30.here hx rfl (hb hby at_115) rfl k)
            show own_G p.tables e below _ _ (T30.setTop (mkF m 117 #[.val (.long q0), .second, .val (.int p1), .val (.int (p1 &&& (7 : Int32))), .val (.ref b1), .val (.int (((p1.toUInt32 >>> ((3 : Int32) &&& 31).toUInt32).toInt32) &&& (3 : Int32))), .val (.long (((p1 &&& (7 : Int32)).toInt64) + (q0 <<< ((32 : Int32) &&& 0x3f).toInt64))), .second, .val (.ref b23), .val (.int (1 : Int32))] [(.int (1 : Int32)), (.int (f4 b23 (p1 &&& (7 : Int32)) b1 (((p1 &&& (7 : Int32)).toInt64) + (q0 <<< ((32 : Int32) &&& 0x3f).toInt64))))]))
            refine own_st ?_ (fun t k => XS.icmpNo X30.here hx rfl (hb hby at_117) rfl (teq (own_h1 hc100)).2 k)
            show own_G p.tables e below _ _ (T30.setTop (mkF m 120 #[.val (.long q0), .second, .val (.int p1), .val (.int (p1 &&& (7 : Int32))), .val (.ref b1), .val (.int (((p1.toUInt32 >>> ((3 : Int32) &&& 31).toUInt32).toInt32) &&& (3 : Int32))), .val (.long (((p1 &&& (7 : Int32)).toInt64) + (q0 <<< ((32 : Int32) &&& 0x3f).toInt64))), .second, .val (.ref b23), .val (.int (1 : Int32))] []))
            refine own_st ?_ (fun t k => XS.iconst X30.here hx rfl (hb hby at_120) k)
            show own_G p.tables e below _ _ (T30.setTop (mkF m 121 #[.val (.long q0), .second, .val (.int p1), .val (.int (p1 &&& (7 : Int32))), .val (.ref b1), .val (.int (((p1.toUInt32 >>> ((3 : Int32) &&& 31).toUInt32).toInt32) &&& (3 : Int32))), .val (.long (((p1 &&& (7 : Int32)).toInt64) + (q0 <<< ((32 : Int32) &&& 0x3f).toInt64))), .second, .val (.ref b23), .val (.int (1 : Int32))] [(.int (1 : Int32))]))
            refine own_st ?_ (fun t k => XS.goto X30.here hx rfl (pc0 := 121) (pc' := 125) rfl (hb hby at_121) (by decide) (by decide) k)
            show own_G p.tables e below _ _ (T30.setTop (mkF m 125 #[.val (.long q0), .second, .val (.int p1), .val (.int (p1 &&& (7 : Int32))), .val (.ref b1), .val (.int (((p1.toUInt32 >>> ((3 : Int32) &&& 31).toUInt32).toInt32) &&& (3 : Int32))), .val (.long (((p1 &&& (7 : Int32)).toInt64) + (q0 <<< ((32 : Int32) &&& 0x3f).toInt64))), .second, .val (.ref b23), .val (.int (1 : Int32))] [(.int (1 : Int32))]))
            exact own_retN X30 hx hlk (t := .boolean) hret (by simp) (hb hby at_125) (by decide) (by decide) (z' := (1 : Int32)) rfl ⟨rfl, N30⟩
          · refine own_st ?_ (fun t k => XS.ifYes X26.here hx rfl (pc0 := 100) (pc' := 107) rfl (hb hby at_100) rfl ((if0 _ _).trans (feq hc100).2) (by decide) (by decide) k)
            show own_G p.tables e below _ _ (T26.setTop (mkF m 107 #[.val (.long q0), .second, .val (.int p1), .val (.int (p1 &&& (7 : Int32))), .val (.ref b1), .val (.int (((p1.toUInt32 >>> ((3 : Int32) &&& 31).toUInt32).toInt32) &&& (3 : Int32))), .val (.long (((p1 &&& (7 : Int32)).toInt64) + (q0 <<< ((32 : Int32) &&& 0x3f).toInt64))), .second, .val (.ref b23), .unset] []))
            refine own_st ?_ (fun t k => XS.iconst X26.here hx rfl (hb hby at_107) k)
            show own_G p.tables e below _ _ (T26.setTop (mkF m 108 #[.val (.long q0), .second, .val (.int p1), .val (.int (p1 &&& (7 : Int32))), .val (.ref b1), .val (.int (((p1.toUInt32 >>> ((3 : Int32) &&& 31).toUInt32).toInt32) &&& (3 : Int32))), .val (.long (((p1 &&& (7 : Int32)).toInt64) + (q0 <<< ((32 : Int32) &&& 0x3f).toInt64))), .second, .val (.ref b23), .unset] [(.int (0 : Int32))]))
            refine own_st ?_ (fun t k => XS.istore X26.here hx rfl (hb hby at_108) rfl (l' := #[.val (.long q0), .second, .val (.int p1), .val (.int (p1 &&& (7 : Int32))), .val (.ref b1), .val (.int (((p1.toUInt32 >>> ((3 : Int32) &&& 31).toUInt32).toInt32) &&& (3 : Int32))), .val (.long (((p1 &&& (7 : Int32)).toInt64) + (q0 <<< ((32 : Int32) &&& 0x3f).toInt64))), .second, .val (.ref b23), .val (.int (0 : Int32))]) rfl k)
            show own_G p.tables e below _ _ (T26.setTop (mkF m 110 #[.val (.long q0), .second, .val (.int p1), .val (.int (p1 &&& (7 : Int32))), .val (.ref b1), .val (.int (((p1.toUInt32 >>> ((3 : Int32) &&& 31).toUInt32).toInt32) &&& (3 : Int32))), .val (.long (((p1 &&& (7 : Int32)).toInt64) + (q0 <<< ((32 : Int32) &&& 0x3f).toInt64))), .second, .val (.ref b23), .val (.int (0 : Int32))] []))
            refine own_st ?_ (fun t k => XS.aload X26.here hx rfl (hb hby at_110) rfl rfl k)
            show own_G p.tables e below _ _ (T26.setTop (mkF m 112 #[.val (.long q0), .second, .val (.int p1), .val (.int (p1 &&& (7 : Int32))), .val (.ref b1), .val (.int (((p1.toUInt32 >>> ((3 : Int32) &&& 31).toUInt32).toInt32) &&& (3 : Int32))), .val (.long (((p1 &&& (7 : Int32)).toInt64) + (q0 <<< ((32 : Int32) &&& 0x3f).toInt64))), .second, .val (.ref b23), .val (.int (0 : Int32))] [(.ref b23)]))
            obtain ⟨cq31, kq31, q31a, q31b, q31c⟩ := isOf hZ rfl F28_E
            obtain ⟨_, _, ⟨T31, L31, k31, n31⟩, -, X31, ⟨Lc31, hQ31, l31, y31, z31⟩, st31⟩ := X26.virtualBack hx (y := (⟨"com/example/fanoline/fanoline/io/LineReader$Line", "held", "()Z"⟩ : MethodName)) (z := (⟨"com/example/fanoline/fanoline/io/LineReader$Line", "held", "()Z"⟩ : MethodName)) hown (mvT hZ (hw _ (List.mem_of_getElem? (i := 19) rfl))) (mvT hZ (hw _ (List.mem_of_getElem? (i := 20) rfl))) (notFace_of_selects (args := #[]) (mvT hZ (hw _ (List.mem_of_getElem? (i := 22) rfl)))) (mvT hZ (hw _ (List.mem_of_getElem? (i := 22) rfl))) (mvT hZ (hw _ (List.mem_of_getElem? (i := 21) rfl))) (by decide) (backOf (W := 0) (rm4 l Z _ hw [] b23 (p1 &&& (7 : Int32)) b1 (((p1 &&& (7 : Int32)).toInt64) + (q0 <<< ((32 : Int32) &&& 0x3f).toInt64)) T26.heap n0 Zs29 F27_P (own_n p1).1 Fb26 Fl26) hZ (hw _ (List.mem_of_getElem? (i := 23) rfl)) (hw _ (List.mem_of_getElem? (i := 3) rfl)) (by decide) (by decide)) q31a q31c (g := (mkF m 112 #[.val (.long q0), .second, .val (.int p1), .val (.int (p1 &&& (7 : Int32))), .val (.ref b1), .val (.int (((p1.toUInt32 >>> ((3 : Int32) &&& 31).toUInt32).toInt32) &&& (3 : Int32))), .val (.long (((p1 &&& (7 : Int32)).toInt64) + (q0 <<< ((32 : Int32) &&& 0x3f).toInt64))), .second, .val (.ref b23), .val (.int (0 : Int32))] [(.ref b23)])) rfl (by rw [hml]; rfl) (Steps.refl _) (argsL := []) (rest := []) (lenOf pd_2 rfl) rfl (by show 2 * 0 + _ ≤ _; exact Nat.le_of_eq rfl) (hb hby at_112) (fun _ _ => ⟨rfl, rfl, (by decide : 2 + 0 ≤ _), (by decide : 9 + 0 ≤ _)⟩)
            dsimp only [Pt.U, Pt.locs, Pt.cells, Pt.slots] at X31 l31 y31 z31 st31 hQ31
            subst l31 y31 z31
            obtain ⟨rfl, N31q, e31⟩ := hQ31
            have N31 := Fr.app N26 N31q
            refine own_st ?_ (fun t k => st31.trans k)
            show own_G p.tables e below _ _ (T31.setTop (mkF m 115 #[.val (.long q0), .second, .val (.int p1), .val (.int (p1 &&& (7 : Int32))), .val (.ref b1), .val (.int (((p1.toUInt32 >>> ((3 : Int32) &&& 31).toUInt32).toInt32) &&& (3 : Int32))), .val (.long (((p1 &&& (7 : Int32)).toInt64) + (q0 <<< ((32 : Int32) &&& 0x3f).toInt64))), .second, .val (.ref b23), .val (.int (0 : Int32))] [(.int (f4 b23 (p1 &&& (7 : Int32)) b1 (((p1 &&& (7 : Int32)).toInt64) + (q0 <<< ((32 : Int32) &&& 0x3f).toInt64))))]))
            refine own_st ?_ (fun t k => XS.iload X31.here hx rfl (hb hby at_115) rfl k)
            show own_G p.tables e below _ _ (T31.setTop (mkF m 117 #[.val (.long q0), .second, .val (.int p1), .val (.int (p1 &&& (7 : Int32))), .val (.ref b1), .val (.int (((p1.toUInt32 >>> ((3 : Int32) &&& 31).toUInt32).toInt32) &&& (3 : Int32))), .val (.long (((p1 &&& (7 : Int32)).toInt64) + (q0 <<< ((32 : Int32) &&& 0x3f).toInt64))), .second, .val (.ref b23), .val (.int (0 : Int32))] [(.int (0 : Int32)), (.int (f4 b23 (p1 &&& (7 : Int32)) b1 (((p1 &&& (7 : Int32)).toInt64) + (q0 <<< ((32 : Int32) &&& 0x3f).toInt64))))]))
            refine own_st ?_ (fun t k => XS.icmpNo X31.here hx rfl (hb hby at_117) rfl (teq (own_h0 hc100)).2 k)
            show own_G p.tables e below _ _ (T31.setTop (mkF m 120 #[.val (.long q0), .second, .val (.int p1), .val (.int (p1 &&& (7 : Int32))), .val (.ref b1), .val (.int (((p1.toUInt32 >>> ((3 : Int32) &&& 31).toUInt32).toInt32) &&& (3 : Int32))), .val (.long (((p1 &&& (7 : Int32)).toInt64) + (q0 <<< ((32 : Int32) &&& 0x3f).toInt64))), .second, .val (.ref b23), .val (.int (0 : Int32))] []))
            refine own_st ?_ (fun t k => XS.iconst X31.here hx rfl (hb hby at_120) k)
            show own_G p.tables e below _ _ (T31.setTop (mkF m 121 #[.val (.long q0), .second, .val (.int p1), .val (.int (p1 &&& (7 : Int32))), .val (.ref b1), .val (.int (((p1.toUInt32 >>> ((3 : Int32) &&& 31).toUInt32).toInt32) &&& (3 : Int32))), .val (.long (((p1 &&& (7 : Int32)).toInt64) + (q0 <<< ((32 : Int32) &&& 0x3f).toInt64))), .second, .val (.ref b23), .val (.int (0 : Int32))] [(.int (1 : Int32))]))
            refine own_st ?_ (fun t k => XS.goto X31.here hx rfl (pc0 := 121) (pc' := 125) rfl (hb hby at_121) (by decide) (by decide) k)
            show own_G p.tables e below _ _ (T31.setTop (mkF m 125 #[.val (.long q0), .second, .val (.int p1), .val (.int (p1 &&& (7 : Int32))), .val (.ref b1), .val (.int (((p1.toUInt32 >>> ((3 : Int32) &&& 31).toUInt32).toInt32) &&& (3 : Int32))), .val (.long (((p1 &&& (7 : Int32)).toInt64) + (q0 <<< ((32 : Int32) &&& 0x3f).toInt64))), .second, .val (.ref b23), .val (.int (0 : Int32))] [(.int (1 : Int32))]))
            exact own_retN X31 hx hlk (t := .boolean) hret (by simp) (hb hby at_125) (by decide) (by decide) (z' := (1 : Int32)) rfl ⟨rfl, N31⟩
        · refine own_st ?_ (fun t k => XS.icmpYes X3.here hx rfl (pc0 := 63) (pc' := 78) rfl (hb hby at_63) rfl (feq hc63).2 (by decide) (by decide) k)
          show own_G p.tables e below _ _ (T3.setTop (mkF m 78 #[.val (.long q0), .second, .val (.int p1), .val (.int (p1 &&& (7 : Int32))), .val (.ref b1), .val (.int (((p1.toUInt32 >>> ((3 : Int32) &&& 31).toUInt32).toInt32) &&& (3 : Int32))), .unset, .unset, .unset, .unset] []))
          refine own_st ?_ (fun t k => XS.iloadN X3.here hx rfl (hb hby at_78) rfl k)
          show own_G p.tables e below _ _ (T3.setTop (mkF m 79 #[.val (.long q0), .second, .val (.int p1), .val (.int (p1 &&& (7 : Int32))), .val (.ref b1), .val (.int (((p1.toUInt32 >>> ((3 : Int32) &&& 31).toUInt32).toInt32) &&& (3 : Int32))), .unset, .unset, .unset, .unset] [(.int (p1 &&& (7 : Int32)))]))
          refine own_st ?_ (fun t k => XS.i2l X3.here hx rfl (hb hby at_79) rfl k)
          show own_G p.tables e below _ _ (T3.setTop (mkF m 80 #[.val (.long q0), .second, .val (.int p1), .val (.int (p1 &&& (7 : Int32))), .val (.ref b1), .val (.int (((p1.toUInt32 >>> ((3 : Int32) &&& 31).toUInt32).toInt32) &&& (3 : Int32))), .unset, .unset, .unset, .unset] [(.long ((p1 &&& (7 : Int32)).toInt64))]))
          refine own_st ?_ (fun t k => XS.lstore X3.here hx rfl (hb hby at_80) rfl (l' := #[.val (.long q0), .second, .val (.int p1), .val (.int (p1 &&& (7 : Int32))), .val (.ref b1), .val (.int (((p1.toUInt32 >>> ((3 : Int32) &&& 31).toUInt32).toInt32) &&& (3 : Int32))), .val (.long ((p1 &&& (7 : Int32)).toInt64)), .second, .unset, .unset]) rfl k)
          show own_G p.tables e below _ _ (T3.setTop (mkF m 82 #[.val (.long q0), .second, .val (.int p1), .val (.int (p1 &&& (7 : Int32))), .val (.ref b1), .val (.int (((p1.toUInt32 >>> ((3 : Int32) &&& 31).toUInt32).toInt32) &&& (3 : Int32))), .val (.long ((p1 &&& (7 : Int32)).toInt64)), .second, .unset, .unset] []))
          obtain ⟨T32, h32, X32, e32, E32, A32, D32, -, st32⟩ := newO X3 hx hZ hown (hw _ (List.mem_of_getElem? (i := 1) rfl)) (hw _ (List.mem_of_getElem? (i := 2) rfl)) (hw _ (List.mem_of_getElem? (i := 3) rfl)) e3 (g := (mkF m 82 #[.val (.long q0), .second, .val (.int p1), .val (.int (p1 &&& (7 : Int32))), .val (.ref b1), .val (.int (((p1.toUInt32 >>> ((3 : Int32) &&& 31).toUInt32).toInt32) &&& (3 : Int32))), .val (.long ((p1 &&& (7 : Int32)).toInt64)), .second, .unset, .unset] [])) rfl (hb hby at_82) (by decide) (by decide)
          obtain ⟨b32, gz32⟩ : ∃ z, z = h3.size := ⟨_, rfl⟩
          rw [← gz32] at A32 D32 st32
          have ne_b1_b32 : b1 ≠ b32 := Nat.ne_of_lt (Nat.lt_of_lt_of_le (own_B_lt F3) (Nat.le_of_eq gz32.symm))
          have g_b32 : n0 ≤ b32 := Nat.le_trans Zs4 (Nat.le_of_eq gz32.symm)
          have F33_P : own_B Z h32 b1 (p1 &&& (7 : Int32)) := own_B_ext F3 E32
          have Zs34 : n0 ≤ h32.size := Nat.le_trans Zs4 E32.1
          have F_length_b32 : Fld Z h32 b32 "com/example/fanoline/fanoline/io/LineReader$Line" "length" "J" (.long (0 : Int64)) := D32 (Or.inr (hw _ (List.mem_of_getElem? (i := 16) rfl))) (ty := .long) (by decide)
          have F_bytes_b32 : Fld Z h32 b32 "com/example/fanoline/fanoline/io/LineReader$Line" "bytes" "[B" .null := D32 (Or.inr (hw _ (List.mem_of_getElem? (i := 18) rfl))) (ty := (.array .byte)) (by decide)
          refine own_st ?_ st32
          show own_G p.tables e below _ _ (T32.setTop (mkF m 85 #[.val (.long q0), .second, .val (.int p1), .val (.int (p1 &&& (7 : Int32))), .val (.ref b1), .val (.int (((p1.toUInt32 >>> ((3 : Int32) &&& 31).toUInt32).toInt32) &&& (3 : Int32))), .val (.long ((p1 &&& (7 : Int32)).toInt64)), .second, .unset, .unset] [(.ref b32)]))
          refine own_st ?_ (fun t k => XS.dup X32.here hx rfl (hb hby at_85) rfl rfl k)
          show own_G p.tables e below _ _ (T32.setTop (mkF m 86 #[.val (.long q0), .second, .val (.int p1), .val (.int (p1 &&& (7 : Int32))), .val (.ref b1), .val (.int (((p1.toUInt32 >>> ((3 : Int32) &&& 31).toUInt32).toInt32) &&& (3 : Int32))), .val (.long ((p1 &&& (7 : Int32)).toInt64)), .second, .unset, .unset] [(.ref b32), (.ref b32)]))
          refine own_st ?_ (fun t k => XS.lload X32.here hx rfl (hb hby at_86) rfl k)
          show own_G p.tables e below _ _ (T32.setTop (mkF m 88 #[.val (.long q0), .second, .val (.int p1), .val (.int (p1 &&& (7 : Int32))), .val (.ref b1), .val (.int (((p1.toUInt32 >>> ((3 : Int32) &&& 31).toUInt32).toInt32) &&& (3 : Int32))), .val (.long ((p1 &&& (7 : Int32)).toInt64)), .second, .unset, .unset] [(.long ((p1 &&& (7 : Int32)).toInt64)), (.ref b32), (.ref b32)]))
          refine own_st ?_ (fun t k => XS.aload X32.here hx rfl (hb hby at_88) rfl rfl k)
          show own_G p.tables e below _ _ (T32.setTop (mkF m 90 #[.val (.long q0), .second, .val (.int p1), .val (.int (p1 &&& (7 : Int32))), .val (.ref b1), .val (.int (((p1.toUInt32 >>> ((3 : Int32) &&& 31).toUInt32).toInt32) &&& (3 : Int32))), .val (.long ((p1 &&& (7 : Int32)).toInt64)), .second, .unset, .unset] [(.ref b1), (.long ((p1 &&& (7 : Int32)).toInt64)), (.ref b32), (.ref b32)]))
          obtain ⟨_, _, ⟨T35, L35, k35, n35⟩, -, X35, ⟨Lc35, hQ35, l35, y35, z35⟩, st35⟩ := X32.specialBack hx (y := (⟨"com/example/fanoline/fanoline/io/LineReader$Line", "<init>", "(J[B)V"⟩ : MethodName)) rfl hown (mvT hZ (hw _ (List.mem_of_getElem? (i := 4) rfl))) (mvT hZ (hw _ (List.mem_of_getElem? (i := 5) rfl))) (mvT hZ (hw _ (List.mem_of_getElem? (i := 6) rfl))) (by decide) (backOf (W := 1) (rm1 l Z _ hw [] b32 ((p1 &&& (7 : Int32)).toInt64) b1 (.long (0 : Int64)) .null h32 n0 Zs34 g_b32 A32 F_length_b32 F_bytes_b32) hZ (hw _ (List.mem_of_getElem? (i := 6) rfl)) (hw _ (List.mem_of_getElem? (i := 3) rfl)) (by decide) (by decide)) (g := (mkF m 90 #[.val (.long q0), .second, .val (.int p1), .val (.int (p1 &&& (7 : Int32))), .val (.ref b1), .val (.int (((p1.toUInt32 >>> ((3 : Int32) &&& 31).toUInt32).toInt32) &&& (3 : Int32))), .val (.long ((p1 &&& (7 : Int32)).toInt64)), .second, .unset, .unset] [(.ref b1), (.long ((p1 &&& (7 : Int32)).toInt64)), (.ref b32), (.ref b32)])) rfl (by rw [hml]; rfl) (Steps.refl _) (a := b32) (argsL := [(.long ((p1 &&& (7 : Int32)).toInt64)), (.ref b1)]) (rest := [(.ref b32)]) (lenOf pd_1 rfl) rfl (by show 2 * 0 + _ ≤ _; exact Nat.le_of_eq rfl) (hb hby at_90) (fun _ _ => ⟨rfl, e32, (by decide : 2 + 0 ≤ _), (by decide : 9 + 0 ≤ _)⟩)
          dsimp only [Pt.U, Pt.locs, Pt.cells, Pt.slots] at X35 l35 y35 z35 st35 hQ35
          subst l35 y35 z35
          obtain ⟨rfl, N35q, hq35⟩ := hQ35
          have N35 := Fr.app N3 N35q
          obtain ⟨K35, Fl35, Fb35⟩ := hq35
          have F36_P : own_B Z T35.heap b1 (p1 &&& (7 : Int32)) := own_B_keep F33_P K35 (ninS ne_b1_b32 nin0)
          have F37_E : Exa Z T35.heap b32 "com/example/fanoline/fanoline/io/LineReader$Line" := A32.keep K35
          have Zs38 : n0 ≤ T35.heap.size := Nat.le_trans Zs34 K35.1
          refine own_st ?_ (fun t k => st35.trans k)
          show own_G p.tables e below _ _ (T35.setTop (mkF m 93 #[.val (.long q0), .second, .val (.int p1), .val (.int (p1 &&& (7 : Int32))), .val (.ref b1), .val (.int (((p1.toUInt32 >>> ((3 : Int32) &&& 31).toUInt32).toInt32) &&& (3 : Int32))), .val (.long ((p1 &&& (7 : Int32)).toInt64)), .second, .unset, .unset] [(.ref b32)]))
          refine own_st ?_ (fun t k => XS.astore X35.here hx rfl (hb hby at_93) rfl rfl (l' := #[.val (.long q0), .second, .val (.int p1), .val (.int (p1 &&& (7 : Int32))), .val (.ref b1), .val (.int (((p1.toUInt32 >>> ((3 : Int32) &&& 31).toUInt32).toInt32) &&& (3 : Int32))), .val (.long ((p1 &&& (7 : Int32)).toInt64)), .second, .val (.ref b32), .unset]) rfl k)
          show own_G p.tables e below _ _ (T35.setTop (mkF m 95 #[.val (.long q0), .second, .val (.int p1), .val (.int (p1 &&& (7 : Int32))), .val (.ref b1), .val (.int (((p1.toUInt32 >>> ((3 : Int32) &&& 31).toUInt32).toInt32) &&& (3 : Int32))), .val (.long ((p1 &&& (7 : Int32)).toInt64)), .second, .val (.ref b32), .unset] []))
          refine own_st ?_ (fun t k => XS.lload X35.here hx rfl (hb hby at_95) rfl k)
          show own_G p.tables e below _ _ (T35.setTop (mkF m 97 #[.val (.long q0), .second, .val (.int p1), .val (.int (p1 &&& (7 : Int32))), .val (.ref b1), .val (.int (((p1.toUInt32 >>> ((3 : Int32) &&& 31).toUInt32).toInt32) &&& (3 : Int32))), .val (.long ((p1 &&& (7 : Int32)).toInt64)), .second, .val (.ref b32), .unset] [(.long ((p1 &&& (7 : Int32)).toInt64))]))
          refine own_st ?_ (fun t k => XS.iloadN X35.here hx rfl (hb hby at_97) rfl k)
          show own_G p.tables e below _ _ (T35.setTop (mkF m 98 #[.val (.long q0), .second, .val (.int p1), .val (.int (p1 &&& (7 : Int32))), .val (.ref b1), .val (.int (((p1.toUInt32 >>> ((3 : Int32) &&& 31).toUInt32).toInt32) &&& (3 : Int32))), .val (.long ((p1 &&& (7 : Int32)).toInt64)), .second, .val (.ref b32), .unset] [(.int (p1 &&& (7 : Int32))), (.long ((p1 &&& (7 : Int32)).toInt64))]))
          refine own_st ?_ (fun t k => XS.i2l X35.here hx rfl (hb hby at_98) rfl k)
          show own_G p.tables e below _ _ (T35.setTop (mkF m 99 #[.val (.long q0), .second, .val (.int p1), .val (.int (p1 &&& (7 : Int32))), .val (.ref b1), .val (.int (((p1.toUInt32 >>> ((3 : Int32) &&& 31).toUInt32).toInt32) &&& (3 : Int32))), .val (.long ((p1 &&& (7 : Int32)).toInt64)), .second, .val (.ref b32), .unset] [(.long ((p1 &&& (7 : Int32)).toInt64)), (.long ((p1 &&& (7 : Int32)).toInt64))]))
          refine own_st ?_ (fun t k => XS.lcmp X35.here hx rfl (hb hby at_99) rfl k)
          show own_G p.tables e below _ _ (T35.setTop (mkF m 100 #[.val (.long q0), .second, .val (.int p1), .val (.int (p1 &&& (7 : Int32))), .val (.ref b1), .val (.int (((p1.toUInt32 >>> ((3 : Int32) &&& 31).toUInt32).toInt32) &&& (3 : Int32))), .val (.long ((p1 &&& (7 : Int32)).toInt64)), .second, .val (.ref b32), .unset] [(.int (lcmpW ((p1 &&& (7 : Int32)).toInt64) ((p1 &&& (7 : Int32)).toInt64)))]))
          by_cases hc100 : (lcmpW ((p1 &&& (7 : Int32)).toInt64) ((p1 &&& (7 : Int32)).toInt64)) = (0 : Int32)
          · refine own_st ?_ (fun t k => XS.ifNo X35.here hx rfl (hb hby at_100) rfl ((if0 _ _).trans (teq hc100).2) k)
            show own_G p.tables e below _ _ (T35.setTop (mkF m 103 #[.val (.long q0), .second, .val (.int p1), .val (.int (p1 &&& (7 : Int32))), .val (.ref b1), .val (.int (((p1.toUInt32 >>> ((3 : Int32) &&& 31).toUInt32).toInt32) &&& (3 : Int32))), .val (.long ((p1 &&& (7 : Int32)).toInt64)), .second, .val (.ref b32), .unset] []))
            refine own_st ?_ (fun t k => XS.iconst X35.here hx rfl (hb hby at_103) k)
            show own_G p.tables e below _ _ (T35.setTop (mkF m 104 #[.val (.long q0), .second, .val (.int p1), .val (.int (p1 &&& (7 : Int32))), .val (.ref b1), .val (.int (((p1.toUInt32 >>> ((3 : Int32) &&& 31).toUInt32).toInt32) &&& (3 : Int32))), .val (.long ((p1 &&& (7 : Int32)).toInt64)), .second, .val (.ref b32), .unset] [(.int (1 : Int32))]))
            refine own_st ?_ (fun t k => XS.goto X35.here hx rfl (pc0 := 104) (pc' := 108) rfl (hb hby at_104) (by decide) (by decide) k)
            show own_G p.tables e below _ _ (T35.setTop (mkF m 108 #[.val (.long q0), .second, .val (.int p1), .val (.int (p1 &&& (7 : Int32))), .val (.ref b1), .val (.int (((p1.toUInt32 >>> ((3 : Int32) &&& 31).toUInt32).toInt32) &&& (3 : Int32))), .val (.long ((p1 &&& (7 : Int32)).toInt64)), .second, .val (.ref b32), .unset] [(.int (1 : Int32))]))
            refine own_st ?_ (fun t k => XS.istore X35.here hx rfl (hb hby at_108) rfl (l' := #[.val (.long q0), .second, .val (.int p1), .val (.int (p1 &&& (7 : Int32))), .val (.ref b1), .val (.int (((p1.toUInt32 >>> ((3 : Int32) &&& 31).toUInt32).toInt32) &&& (3 : Int32))), .val (.long ((p1 &&& (7 : Int32)).toInt64)), .second, .val (.ref b32), .val (.int (1 : Int32))]) rfl k)
            show own_G p.tables e below _ _ (T35.setTop (mkF m 110 #[.val (.long q0), .second, .val (.int p1), .val (.int (p1 &&& (7 : Int32))), .val (.ref b1), .val (.int (((p1.toUInt32 >>> ((3 : Int32) &&& 31).toUInt32).toInt32) &&& (3 : Int32))), .val (.long ((p1 &&& (7 : Int32)).toInt64)), .second, .val (.ref b32), .val (.int (1 : Int32))] []))
            refine own_st ?_ (fun t k => XS.aload X35.here hx rfl (hb hby at_110) rfl rfl k)
            show own_G p.tables e below _ _ (T35.setTop (mkF m 112 #[.val (.long q0), .second, .val (.int p1), .val (.int (p1 &&& (7 : Int32))), .val (.ref b1), .val (.int (((p1.toUInt32 >>> ((3 : Int32) &&& 31).toUInt32).toInt32) &&& (3 : Int32))), .val (.long ((p1 &&& (7 : Int32)).toInt64)), .second, .val (.ref b32), .val (.int (1 : Int32))] [(.ref b32)]))
            obtain ⟨cq39, kq39, q39a, q39b, q39c⟩ := isOf hZ rfl F37_E
            obtain ⟨_, _, ⟨T39, L39, k39, n39⟩, -, X39, ⟨Lc39, hQ39, l39, y39, z39⟩, st39⟩ := X35.virtualBack hx (y := (⟨"com/example/fanoline/fanoline/io/LineReader$Line", "held", "()Z"⟩ : MethodName)) (z := (⟨"com/example/fanoline/fanoline/io/LineReader$Line", "held", "()Z"⟩ : MethodName)) hown (mvT hZ (hw _ (List.mem_of_getElem? (i := 19) rfl))) (mvT hZ (hw _ (List.mem_of_getElem? (i := 20) rfl))) (notFace_of_selects (args := #[]) (mvT hZ (hw _ (List.mem_of_getElem? (i := 22) rfl)))) (mvT hZ (hw _ (List.mem_of_getElem? (i := 22) rfl))) (mvT hZ (hw _ (List.mem_of_getElem? (i := 21) rfl))) (by decide) (backOf (W := 0) (rm4 l Z _ hw [] b32 (p1 &&& (7 : Int32)) b1 ((p1 &&& (7 : Int32)).toInt64) T35.heap n0 Zs38 F36_P (own_n p1).1 Fb35 Fl35) hZ (hw _ (List.mem_of_getElem? (i := 23) rfl)) (hw _ (List.mem_of_getElem? (i := 3) rfl)) (by decide) (by decide)) q39a q39c (g := (mkF m 112 #[.val (.long q0), .second, .val (.int p1), .val (.int (p1 &&& (7 : Int32))), .val (.ref b1), .val (.int (((p1.toUInt32 >>> ((3 : Int32) &&& 31).toUInt32).toInt32) &&& (3 : Int32))), .val (.long ((p1 &&& (7 : Int32)).toInt64)), .second, .val (.ref b32), .val (.int (1 : Int32))] [(.ref b32)])) rfl (by rw [hml]; rfl) (Steps.refl _) (argsL := []) (rest := []) (lenOf pd_2 rfl) rfl (by show 2 * 0 + _ ≤ _; exact Nat.le_of_eq rfl) (hb hby at_112) (fun _ _ => ⟨rfl, rfl, (by decide : 2 + 0 ≤ _), (by decide : 9 + 0 ≤ _)⟩)
            dsimp only [Pt.U, Pt.locs, Pt.cells, Pt.slots] at X39 l39 y39 z39 st39 hQ39
            subst l39 y39 z39
            obtain ⟨rfl, N39q, e39⟩ := hQ39
            have N39 := Fr.app N35 N39q
            refine own_st ?_ (fun t k => st39.trans k)
            show own_G p.tables e below _ _ (T39.setTop (mkF m 115 #[.val (.long q0), .second, .val (.int p1), .val (.int (p1 &&& (7 : Int32))), .val (.ref b1), .val (.int (((p1.toUInt32 >>> ((3 : Int32) &&& 31).toUInt32).toInt32) &&& (3 : Int32))), .val (.long ((p1 &&& (7 : Int32)).toInt64)), .second, .val (.ref b32), .val (.int (1 : Int32))] [(.int (f4 b32 (p1 &&& (7 : Int32)) b1 ((p1 &&& (7 : Int32)).toInt64)))]))
            refine own_st ?_ (fun t k => XS.iload X39.here hx rfl (hb hby at_115) rfl k)
            show own_G p.tables e below _ _ (T39.setTop (mkF m 117 #[.val (.long q0), .second, .val (.int p1), .val (.int (p1 &&& (7 : Int32))), .val (.ref b1), .val (.int (((p1.toUInt32 >>> ((3 : Int32) &&& 31).toUInt32).toInt32) &&& (3 : Int32))), .val (.long ((p1 &&& (7 : Int32)).toInt64)), .second, .val (.ref b32), .val (.int (1 : Int32))] [(.int (1 : Int32)), (.int (f4 b32 (p1 &&& (7 : Int32)) b1 ((p1 &&& (7 : Int32)).toInt64)))]))
            refine own_st ?_ (fun t k => XS.icmpNo X39.here hx rfl (hb hby at_117) rfl (teq (own_h1 hc100)).2 k)
            show own_G p.tables e below _ _ (T39.setTop (mkF m 120 #[.val (.long q0), .second, .val (.int p1), .val (.int (p1 &&& (7 : Int32))), .val (.ref b1), .val (.int (((p1.toUInt32 >>> ((3 : Int32) &&& 31).toUInt32).toInt32) &&& (3 : Int32))), .val (.long ((p1 &&& (7 : Int32)).toInt64)), .second, .val (.ref b32), .val (.int (1 : Int32))] []))
            refine own_st ?_ (fun t k => XS.iconst X39.here hx rfl (hb hby at_120) k)
            show own_G p.tables e below _ _ (T39.setTop (mkF m 121 #[.val (.long q0), .second, .val (.int p1), .val (.int (p1 &&& (7 : Int32))), .val (.ref b1), .val (.int (((p1.toUInt32 >>> ((3 : Int32) &&& 31).toUInt32).toInt32) &&& (3 : Int32))), .val (.long ((p1 &&& (7 : Int32)).toInt64)), .second, .val (.ref b32), .val (.int (1 : Int32))] [(.int (1 : Int32))]))
            refine own_st ?_ (fun t k => XS.goto X39.here hx rfl (pc0 := 121) (pc' := 125) rfl (hb hby at_121) (by decide) (by decide) k)
            show own_G p.tables e below _ _ (T39.setTop (mkF m 125 #[.val (.long q0), .second, .val (.int p1), .val (.int (p1 &&& (7 : Int32))), .val (.ref b1), .val (.int (((p1.toUInt32 >>> ((3 : Int32) &&& 31).toUInt32).toInt32) &&& (3 : Int32))), .val (.long ((p1 &&& (7 : Int32)).toInt64)), .second, .val (.ref b32), .val (.int (1 : Int32))] [(.int (1 : Int32))]))
            exact own_retN X39 hx hlk (t := .boolean) hret (by simp) (hb hby at_125) (by decide) (by decide) (z' := (1 : Int32)) rfl ⟨rfl, N39⟩
          · refine own_st ?_ (fun t k => XS.ifYes X35.here hx rfl (pc0 := 100) (pc' := 107) rfl (hb hby at_100) rfl ((if0 _ _).trans (feq hc100).2) (by decide) (by decide) k)
            show own_G p.tables e below _ _ (T35.setTop (mkF m 107 #[.val (.long q0), .second, .val (.int p1), .val (.int (p1 &&& (7 : Int32))), .val (.ref b1), .val (.int (((p1.toUInt32 >>> ((3 : Int32) &&& 31).toUInt32).toInt32) &&& (3 : Int32))), .val (.long ((p1 &&& (7 : Int32)).toInt64)), .second, .val (.ref b32), .unset] []))
            refine own_st ?_ (fun t k => XS.iconst X35.here hx rfl (hb hby at_107) k)
            show own_G p.tables e below _ _ (T35.setTop (mkF m 108 #[.val (.long q0), .second, .val (.int p1), .val (.int (p1 &&& (7 : Int32))), .val (.ref b1), .val (.int (((p1.toUInt32 >>> ((3 : Int32) &&& 31).toUInt32).toInt32) &&& (3 : Int32))), .val (.long ((p1 &&& (7 : Int32)).toInt64)), .second, .val (.ref b32), .unset] [(.int (0 : Int32))]))
            refine own_st ?_ (fun t k => XS.istore X35.here hx rfl (hb hby at_108) rfl (l' := #[.val (.long q0), .second, .val (.int p1), .val (.int (p1 &&& (7 : Int32))), .val (.ref b1), .val (.int (((p1.toUInt32 >>> ((3 : Int32) &&& 31).toUInt32).toInt32) &&& (3 : Int32))), .val (.long ((p1 &&& (7 : Int32)).toInt64)), .second, .val (.ref b32), .val (.int (0 : Int32))]) rfl k)
            show own_G p.tables e below _ _ (T35.setTop (mkF m 110 #[.val (.long q0), .second, .val (.int p1), .val (.int (p1 &&& (7 : Int32))), .val (.ref b1), .val (.int (((p1.toUInt32 >>> ((3 : Int32) &&& 31).toUInt32).toInt32) &&& (3 : Int32))), .val (.long ((p1 &&& (7 : Int32)).toInt64)), .second, .val (.ref b32), .val (.int (0 : Int32))] []))
            refine own_st ?_ (fun t k => XS.aload X35.here hx rfl (hb hby at_110) rfl rfl k)
            show own_G p.tables e below _ _ (T35.setTop (mkF m 112 #[.val (.long q0), .second, .val (.int p1), .val (.int (p1 &&& (7 : Int32))), .val (.ref b1), .val (.int (((p1.toUInt32 >>> ((3 : Int32) &&& 31).toUInt32).toInt32) &&& (3 : Int32))), .val (.long ((p1 &&& (7 : Int32)).toInt64)), .second, .val (.ref b32), .val (.int (0 : Int32))] [(.ref b32)]))
            obtain ⟨cq40, kq40, q40a, q40b, q40c⟩ := isOf hZ rfl F37_E
            obtain ⟨_, _, ⟨T40, L40, k40, n40⟩, -, X40, ⟨Lc40, hQ40, l40, y40, z40⟩, st40⟩ := X35.virtualBack hx (y := (⟨"com/example/fanoline/fanoline/io/LineReader$Line", "held", "()Z"⟩ : MethodName)) (z := (⟨"com/example/fanoline/fanoline/io/LineReader$Line", "held", "()Z"⟩ : MethodName)) hown (mvT hZ (hw _ (List.mem_of_getElem? (i := 19) rfl))) (mvT hZ (hw _ (List.mem_of_getElem? (i := 20) rfl))) (notFace_of_selects (args := #[]) (mvT hZ (hw _ (List.mem_of_getElem? (i := 22) rfl)))) (mvT hZ (hw _ (List.mem_of_getElem? (i := 22) rfl))) (mvT hZ (hw _ (List.mem_of_getElem? (i := 21) rfl))) (by decide) (backOf (W := 0) (rm4 l Z _ hw [] b32 (p1 &&& (7 : Int32)) b1 ((p1 &&& (7 : Int32)).toInt64) T35.heap n0 Zs38 F36_P (own_n p1).1 Fb35 Fl35) hZ (hw _ (List.mem_of_getElem? (i := 23) rfl)) (hw _ (List.mem_of_getElem? (i := 3) rfl)) (by decide) (by decide)) q40a q40c (g := (mkF m 112 #[.val (.long q0), .second, .val (.int p1), .val (.int (p1 &&& (7 : Int32))), .val (.ref b1), .val (.int (((p1.toUInt32 >>> ((3 : Int32) &&& 31).toUInt32).toInt32) &&& (3 : Int32))), .val (.long ((p1 &&& (7 : Int32)).toInt64)), .second, .val (.ref b32), .val (.int (0 : Int32))] [(.ref b32)])) rfl (by rw [hml]; rfl) (Steps.refl _) (argsL := []) (rest := []) (lenOf pd_2 rfl) rfl (by show 2 * 0 + _ ≤ _; exact Nat.le_of_eq rfl) (hb hby at_112) (fun _ _ => ⟨rfl, rfl, (by decide : 2 + 0 ≤ _), (by decide : 9 + 0 ≤ _)⟩)
            dsimp only [Pt.U, Pt.locs, Pt.cells, Pt.slots] at X40 l40 y40 z40 st40 hQ40
            subst l40 y40 z40
            obtain ⟨rfl, N40q, e40⟩ := hQ40
            have N40 := Fr.app N35 N40q
            refine own_st ?_ (fun t k => st40.trans k)
            show own_G p.tables e below _ _ (T40.setTop (mkF m 115 #[.val (.long q0), .second, .val (.int p1), .val (.int (p1 &&& (7 : Int32))), .val (.ref b1), .val (.int (((p1.toUInt32 >>> ((3 : Int32) &&& 31).toUInt32).toInt32) &&& (3 : Int32))), .val (.long ((p1 &&& (7 : Int32)).toInt64)), .second, .val (.ref b32), .val (.int (0 : Int32))] [(.int (f4 b32 (p1 &&& (7 : Int32)) b1 ((p1 &&& (7 : Int32)).toInt64)))]))
            refine own_st ?_ (fun t k => XS.iload X40.here hx rfl (hb hby at_115) rfl k)
            show own_G p.tables e below _ _ (T40.setTop (mkF m 117 #[.val (.long q0), .second, .val (.int p1), .val (.int (p1 &&& (7 : Int32))), .val (.ref b1), .val (.int (((p1.toUInt32 >>> ((3 : Int32) &&& 31).toUInt32).toInt32) &&& (3 : Int32))), .val (.long ((p1 &&& (7 : Int32)).toInt64)), .second, .val (.ref b32), .val (.int (0 : Int32))] [(.int (0 : Int32)), (.int (f4 b32 (p1 &&& (7 : Int32)) b1 ((p1 &&& (7 : Int32)).toInt64)))]))
            refine own_st ?_ (fun t k => XS.icmpNo X40.here hx rfl (hb hby at_117) rfl (teq (own_h0 hc100)).2 k)
            show own_G p.tables e below _ _ (T40.setTop (mkF m 120 #[.val (.long q0), .second, .val (.int p1), .val (.int (p1 &&& (7 : Int32))), .val (.ref b1), .val (.int (((p1.toUInt32 >>> ((3 : Int32) &&& 31).toUInt32).toInt32) &&& (3 : Int32))), .val (.long ((p1 &&& (7 : Int32)).toInt64)), .second, .val (.ref b32), .val (.int (0 : Int32))] []))
            refine own_st ?_ (fun t k => XS.iconst X40.here hx rfl (hb hby at_120) k)
            show own_G p.tables e below _ _ (T40.setTop (mkF m 121 #[.val (.long q0), .second, .val (.int p1), .val (.int (p1 &&& (7 : Int32))), .val (.ref b1), .val (.int (((p1.toUInt32 >>> ((3 : Int32) &&& 31).toUInt32).toInt32) &&& (3 : Int32))), .val (.long ((p1 &&& (7 : Int32)).toInt64)), .second, .val (.ref b32), .val (.int (0 : Int32))] [(.int (1 : Int32))]))
            refine own_st ?_ (fun t k => XS.goto X40.here hx rfl (pc0 := 121) (pc' := 125) rfl (hb hby at_121) (by decide) (by decide) k)
            show own_G p.tables e below _ _ (T40.setTop (mkF m 125 #[.val (.long q0), .second, .val (.int p1), .val (.int (p1 &&& (7 : Int32))), .val (.ref b1), .val (.int (((p1.toUInt32 >>> ((3 : Int32) &&& 31).toUInt32).toInt32) &&& (3 : Int32))), .val (.long ((p1 &&& (7 : Int32)).toInt64)), .second, .val (.ref b32), .val (.int (0 : Int32))] [(.int (1 : Int32))]))
            exact own_retN X40 hx hlk (t := .boolean) hret (by simp) (hb hby at_125) (by decide) (by decide) (z' := (1 : Int32)) rfl ⟨rfl, N40⟩
  · refine own_st ?_ (fun t k => XS.ifYes X1.here hx rfl (pc0 := 11) (pc' := 23) rfl (hb hby at_11) rfl ((if0 _ _).trans (flt hc11).2.2.2) (by decide) (by decide) k)
    show own_G p.tables e below _ _ (T1.setTop (mkF m 23 #[.val (.long q0), .second, .val (.int p1), .val (.int (p1 &&& (7 : Int32))), .val (.ref b1), .unset, .unset, .unset, .unset, .unset] []))
    refine own_st ?_ (fun t k => XS.iloadN X1.here hx rfl (hb hby at_23) rfl k)
    show own_G p.tables e below _ _ (T1.setTop (mkF m 24 #[.val (.long q0), .second, .val (.int p1), .val (.int (p1 &&& (7 : Int32))), .val (.ref b1), .unset, .unset, .unset, .unset, .unset] [(.int p1)]))
    refine own_st ?_ (fun t k => XS.iconst X1.here hx rfl (hb hby at_24) k)
    show own_G p.tables e below _ _ (T1.setTop (mkF m 25 #[.val (.long q0), .second, .val (.int p1), .val (.int (p1 &&& (7 : Int32))), .val (.ref b1), .unset, .unset, .unset, .unset, .unset] [(.int (3 : Int32)), (.int p1)]))
    refine own_st ?_ (fun t k => XS.iushr X1.here hx rfl (hb hby at_25) rfl k)
    show own_G p.tables e below _ _ (T1.setTop (mkF m 26 #[.val (.long q0), .second, .val (.int p1), .val (.int (p1 &&& (7 : Int32))), .val (.ref b1), .unset, .unset, .unset, .unset, .unset] [(.int ((p1.toUInt32 >>> ((3 : Int32) &&& 31).toUInt32).toInt32))]))
    refine own_st ?_ (fun t k => XS.iconst X1.here hx rfl (hb hby at_26) k)
    show own_G p.tables e below _ _ (T1.setTop (mkF m 27 #[.val (.long q0), .second, .val (.int p1), .val (.int (p1 &&& (7 : Int32))), .val (.ref b1), .unset, .unset, .unset, .unset, .unset] [(.int (3 : Int32)), (.int ((p1.toUInt32 >>> ((3 : Int32) &&& 31).toUInt32).toInt32))]))
    refine own_st ?_ (fun t k => XS.iand X1.here hx rfl (hb hby at_27) rfl k)
    show own_G p.tables e below _ _ (T1.setTop (mkF m 28 #[.val (.long q0), .second, .val (.int p1), .val (.int (p1 &&& (7 : Int32))), .val (.ref b1), .unset, .unset, .unset, .unset, .unset] [(.int (((p1.toUInt32 >>> ((3 : Int32) &&& 31).toUInt32).toInt32) &&& (3 : Int32)))]))
    refine own_st ?_ (fun t k => XS.istore X1.here hx rfl (hb hby at_28) rfl (l' := #[.val (.long q0), .second, .val (.int p1), .val (.int (p1 &&& (7 : Int32))), .val (.ref b1), .val (.int (((p1.toUInt32 >>> ((3 : Int32) &&& 31).toUInt32).toInt32) &&& (3 : Int32))), .unset, .unset, .unset, .unset]) rfl k)
    show own_G p.tables e below _ _ (T1.setTop (mkF m 30 #[.val (.long q0), .second, .val (.int p1), .val (.int (p1 &&& (7 : Int32))), .val (.ref b1), .val (.int (((p1.toUInt32 >>> ((3 : Int32) &&& 31).toUInt32).toInt32) &&& (3 : Int32))), .unset, .unset, .unset, .unset] []))
    refine own_st ?_ (fun t k => XS.iload X1.here hx rfl (hb hby at_30) rfl k)
    show own_G p.tables e below _ _ (T1.setTop (mkF m 32 #[.val (.long q0), .second, .val (.int p1), .val (.int (p1 &&& (7 : Int32))), .val (.ref b1), .val (.int (((p1.toUInt32 >>> ((3 : Int32) &&& 31).toUInt32).toInt32) &&& (3 : Int32))), .unset, .unset, .unset, .unset] [(.int (((p1.toUInt32 >>> ((3 : Int32) &&& 31).toUInt32).toInt32) &&& (3 : Int32)))]))
    by_cases hc32 : (((p1.toUInt32 >>> ((3 : Int32) &&& 31).toUInt32).toInt32) &&& (3 : Int32)) = (0 : Int32)
    · refine own_st ?_ (fun t k => XS.ifNo X1.here hx rfl (hb hby at_32) rfl ((if0 _ _).trans (teq hc32).2) k)
      show own_G p.tables e below _ _ (T1.setTop (mkF m 35 #[.val (.long q0), .second, .val (.int p1), .val (.int (p1 &&& (7 : Int32))), .val (.ref b1), .val (.int (((p1.toUInt32 >>> ((3 : Int32) &&& 31).toUInt32).toInt32) &&& (3 : Int32))), .unset, .unset, .unset, .unset] []))
      refine own_st ?_ (fun t k => XS.lloadN X1.here hx rfl (hb hby at_35) rfl k)
      show own_G p.tables e below _ _ (T1.setTop (mkF m 36 #[.val (.long q0), .second, .val (.int p1), .val (.int (p1 &&& (7 : Int32))), .val (.ref b1), .val (.int (((p1.toUInt32 >>> ((3 : Int32) &&& 31).toUInt32).toInt32) &&& (3 : Int32))), .unset, .unset, .unset, .unset] [(.long q0)]))
      refine own_st ?_ (fun t k => XS.lstore X1.here hx rfl (hb hby at_36) rfl (l' := #[.val (.long q0), .second, .val (.int p1), .val (.int (p1 &&& (7 : Int32))), .val (.ref b1), .val (.int (((p1.toUInt32 >>> ((3 : Int32) &&& 31).toUInt32).toInt32) &&& (3 : Int32))), .val (.long q0), .second, .unset, .unset]) rfl k)
      show own_G p.tables e below _ _ (T1.setTop (mkF m 38 #[.val (.long q0), .second, .val (.int p1), .val (.int (p1 &&& (7 : Int32))), .val (.ref b1), .val (.int (((p1.toUInt32 >>> ((3 : Int32) &&& 31).toUInt32).toInt32) &&& (3 : Int32))), .val (.long q0), .second, .unset, .unset] []))
      refine own_st ?_ (fun t k => XS.goto X1.here hx rfl (pc0 := 38) (pc' := 82) rfl (hb hby at_38) (by decide) (by decide) k)
      show own_G p.tables e below _ _ (T1.setTop (mkF m 82 #[.val (.long q0), .second, .val (.int p1), .val (.int (p1 &&& (7 : Int32))), .val (.ref b1), .val (.int (((p1.toUInt32 >>> ((3 : Int32) &&& 31).toUInt32).toInt32) &&& (3 : Int32))), .val (.long q0), .second, .unset, .unset] []))
      obtain ⟨T41, h41, X41, e41, E41, A41, D41, -, st41⟩ := newO X1 hx hZ hown (hw _ (List.mem_of_getElem? (i := 1) rfl)) (hw _ (List.mem_of_getElem? (i := 2) rfl)) (hw _ (List.mem_of_getElem? (i := 3) rfl)) e1 (g := (mkF m 82 #[.val (.long q0), .second, .val (.int p1), .val (.int (p1 &&& (7 : Int32))), .val (.ref b1), .val (.int (((p1.toUInt32 >>> ((3 : Int32) &&& 31).toUInt32).toInt32) &&& (3 : Int32))), .val (.long q0), .second, .unset, .unset] [])) rfl (hb hby at_82) (by decide) (by decide)
      obtain ⟨b41, gz41⟩ : ∃ z, z = h1.size := ⟨_, rfl⟩
      rw [← gz41] at A41 D41 st41
      have ne_b1_b41 : b1 ≠ b41 := Nat.ne_of_lt (Nat.lt_of_lt_of_le (own_B_lt F_b1) (Nat.le_of_eq gz41.symm))
      have g_b41 : n0 ≤ b41 := Nat.le_trans Zs2 (Nat.le_of_eq gz41.symm)
      have F42_P : own_B Z h41 b1 (p1 &&& (7 : Int32)) := own_B_ext F_b1 E41
      have Zs43 : n0 ≤ h41.size := Nat.le_trans Zs2 E41.1
      have F_length_b41 : Fld Z h41 b41 "com/example/fanoline/fanoline/io/LineReader$Line" "length" "J" (.long (0 : Int64)) := D41 (Or.inr (hw _ (List.mem_of_getElem? (i := 16) rfl))) (ty := .long) (by decide)
      have F_bytes_b41 : Fld Z h41 b41 "com/example/fanoline/fanoline/io/LineReader$Line" "bytes" "[B" .null := D41 (Or.inr (hw _ (List.mem_of_getElem? (i := 18) rfl))) (ty := (.array .byte)) (by decide)
      refine own_st ?_ st41
      show own_G p.tables e below _ _ (T41.setTop (mkF m 85 #[.val (.long q0), .second, .val (.int p1), .val (.int (p1 &&& (7 : Int32))), .val (.ref b1), .val (.int (((p1.toUInt32 >>> ((3 : Int32) &&& 31).toUInt32).toInt32) &&& (3 : Int32))), .val (.long q0), .second, .unset, .unset] [(.ref b41)]))
      refine own_st ?_ (fun t k => XS.dup X41.here hx rfl (hb hby at_85) rfl rfl k)
      show own_G p.tables e below _ _ (T41.setTop (mkF m 86 #[.val (.long q0), .second, .val (.int p1), .val (.int (p1 &&& (7 : Int32))), .val (.ref b1), .val (.int (((p1.toUInt32 >>> ((3 : Int32) &&& 31).toUInt32).toInt32) &&& (3 : Int32))), .val (.long q0), .second, .unset, .unset] [(.ref b41), (.ref b41)]))
      refine own_st ?_ (fun t k => XS.lload X41.here hx rfl (hb hby at_86) rfl k)
      show own_G p.tables e below _ _ (T41.setTop (mkF m 88 #[.val (.long q0), .second, .val (.int p1), .val (.int (p1 &&& (7 : Int32))), .val (.ref b1), .val (.int (((p1.toUInt32 >>> ((3 : Int32) &&& 31).toUInt32).toInt32) &&& (3 : Int32))), .val (.long q0), .second, .unset, .unset] [(.long q0), (.ref b41), (.ref b41)]))
      refine own_st ?_ (fun t k => XS.aload X41.here hx rfl (hb hby at_88) rfl rfl k)
      show own_G p.tables e below _ _ (T41.setTop (mkF m 90 #[.val (.long q0), .second, .val (.int p1), .val (.int (p1 &&& (7 : Int32))), .val (.ref b1), .val (.int (((p1.toUInt32 >>> ((3 : Int32) &&& 31).toUInt32).toInt32) &&& (3 : Int32))), .val (.long q0), .second, .unset, .unset] [(.ref b1), (.long q0), (.ref b41), (.ref b41)]))
      obtain ⟨_, _, ⟨T44, L44, k44, n44⟩, -, X44, ⟨Lc44, hQ44, l44, y44, z44⟩, st44⟩ := X41.specialBack hx (y := (⟨"com/example/fanoline/fanoline/io/LineReader$Line", "<init>", "(J[B)V"⟩ : MethodName)) rfl hown (mvT hZ (hw _ (List.mem_of_getElem? (i := 4) rfl))) (mvT hZ (hw _ (List.mem_of_getElem? (i := 5) rfl))) (mvT hZ (hw _ (List.mem_of_getElem? (i := 6) rfl))) (by decide) (backOf (W := 1) (rm1 l Z _ hw [] b41 q0 b1 (.long (0 : Int64)) .null h41 n0 Zs43 g_b41 A41 F_length_b41 F_bytes_b41) hZ (hw _ (List.mem_of_getElem? (i := 6) rfl)) (hw _ (List.mem_of_getElem? (i := 3) rfl)) (by decide) (by decide)) (g := (mkF m 90 #[.val (.long q0), .second, .val (.int p1), .val (.int (p1 &&& (7 : Int32))), .val (.ref b1), .val (.int (((p1.toUInt32 >>> ((3 : Int32) &&& 31).toUInt32).toInt32) &&& (3 : Int32))), .val (.long q0), .second, .unset, .unset] [(.ref b1), (.long q0), (.ref b41), (.ref b41)])) rfl (by rw [hml]; rfl) (Steps.refl _) (a := b41) (argsL := [(.long q0), (.ref b1)]) (rest := [(.ref b41)]) (lenOf pd_1 rfl) rfl (by show 2 * 0 + _ ≤ _; exact Nat.le_of_eq rfl) (hb hby at_90) (fun _ _ => ⟨rfl, e41, (by decide : 2 + 0 ≤ _), (by decide : 9 + 0 ≤ _)⟩)
      dsimp only [Pt.U, Pt.locs, Pt.cells, Pt.slots] at X44 l44 y44 z44 st44 hQ44
      subst l44 y44 z44
      obtain ⟨rfl, N44q, hq44⟩ := hQ44
      have N44 := Fr.app N0 N44q
      obtain ⟨K44, Fl44, Fb44⟩ := hq44
      have F45_P : own_B Z T44.heap b1 (p1 &&& (7 : Int32)) := own_B_keep F42_P K44 (ninS ne_b1_b41 nin0)
      have F46_E : Exa Z T44.heap b41 "com/example/fanoline/fanoline/io/LineReader$Line" := A41.keep K44
      have Zs47 : n0 ≤ T44.heap.size := Nat.le_trans Zs43 K44.1
      refine own_st ?_ (fun t k => st44.trans k)
      show own_G p.tables e below _ _ (T44.setTop (mkF m 93 #[.val (.long q0), .second, .val (.int p1), .val (.int (p1 &&& (7 : Int32))), .val (.ref b1), .val (.int (((p1.toUInt32 >>> ((3 : Int32) &&& 31).toUInt32).toInt32) &&& (3 : Int32))), .val (.long q0), .second, .unset, .unset] [(.ref b41)]))
      refine own_st ?_ (fun t k => XS.astore X44.here hx rfl (hb hby at_93) rfl rfl (l' := #[.val (.long q0), .second, .val (.int p1), .val (.int (p1 &&& (7 : Int32))), .val (.ref b1), .val (.int (((p1.toUInt32 >>> ((3 : Int32) &&& 31).toUInt32).toInt32) &&& (3 : Int32))), .val (.long q0), .second, .val (.ref b41), .unset]) rfl k)
      show own_G p.tables e below _ _ (T44.setTop (mkF m 95 #[.val (.long q0), .second, .val (.int p1), .val (.int (p1 &&& (7 : Int32))), .val (.ref b1), .val (.int (((p1.toUInt32 >>> ((3 : Int32) &&& 31).toUInt32).toInt32) &&& (3 : Int32))), .val (.long q0), .second, .val (.ref b41), .unset] []))
      refine own_st ?_ (fun t k => XS.lload X44.here hx rfl (hb hby at_95) rfl k)
      show own_G p.tables e below _ _ (T44.setTop (mkF m 97 #[.val (.long q0), .second, .val (.int p1), .val (.int (p1 &&& (7 : Int32))), .val (.ref b1), .val (.int (((p1.toUInt32 >>> ((3 : Int32) &&& 31).toUInt32).toInt32) &&& (3 : Int32))), .val (.long q0), .second, .val (.ref b41), .unset] [(.long q0)]))
      refine own_st ?_ (fun t k => XS.iloadN X44.here hx rfl (hb hby at_97) rfl k)
      show own_G p.tables e below _ _ (T44.setTop (mkF m 98 #[.val (.long q0), .second, .val (.int p1), .val (.int (p1 &&& (7 : Int32))), .val (.ref b1), .val (.int (((p1.toUInt32 >>> ((3 : Int32) &&& 31).toUInt32).toInt32) &&& (3 : Int32))), .val (.long q0), .second, .val (.ref b41), .unset] [(.int (p1 &&& (7 : Int32))), (.long q0)]))
      refine own_st ?_ (fun t k => XS.i2l X44.here hx rfl (hb hby at_98) rfl k)
      show own_G p.tables e below _ _ (T44.setTop (mkF m 99 #[.val (.long q0), .second, .val (.int p1), .val (.int (p1 &&& (7 : Int32))), .val (.ref b1), .val (.int (((p1.toUInt32 >>> ((3 : Int32) &&& 31).toUInt32).toInt32) &&& (3 : Int32))), .val (.long q0), .second, .val (.ref b41), .unset] [(.long ((p1 &&& (7 : Int32)).toInt64)), (.long q0)]))
      refine own_st ?_ (fun t k => XS.lcmp X44.here hx rfl (hb hby at_99) rfl k)
      show own_G p.tables e below _ _ (T44.setTop (mkF m 100 #[.val (.long q0), .second, .val (.int p1), .val (.int (p1 &&& (7 : Int32))), .val (.ref b1), .val (.int (((p1.toUInt32 >>> ((3 : Int32) &&& 31).toUInt32).toInt32) &&& (3 : Int32))), .val (.long q0), .second, .val (.ref b41), .unset] [(.int (lcmpW q0 ((p1 &&& (7 : Int32)).toInt64)))]))
      by_cases hc100 : (lcmpW q0 ((p1 &&& (7 : Int32)).toInt64)) = (0 : Int32)
      · refine own_st ?_ (fun t k => XS.ifNo X44.here hx rfl (hb hby at_100) rfl ((if0 _ _).trans (teq hc100).2) k)
        show own_G p.tables e below _ _ (T44.setTop (mkF m 103 #[.val (.long q0), .second, .val (.int p1), .val (.int (p1 &&& (7 : Int32))), .val (.ref b1), .val (.int (((p1.toUInt32 >>> ((3 : Int32) &&& 31).toUInt32).toInt32) &&& (3 : Int32))), .val (.long q0), .second, .val (.ref b41), .unset] []))
        refine own_st ?_ (fun t k => XS.iconst X44.here hx rfl (hb hby at_103) k)
        show own_G p.tables e below _ _ (T44.setTop (mkF m 104 #[.val (.long q0), .second, .val (.int p1), .val (.int (p1 &&& (7 : Int32))), .val (.ref b1), .val (.int (((p1.toUInt32 >>> ((3 : Int32) &&& 31).toUInt32).toInt32) &&& (3 : Int32))), .val (.long q0), .second, .val (.ref b41), .unset] [(.int (1 : Int32))]))
        refine own_st ?_ (fun t k => XS.goto X44.here hx rfl (pc0 := 104) (pc' := 108) rfl (hb hby at_104) (by decide) (by decide) k)
        show own_G p.tables e below _ _ (T44.setTop (mkF m 108 #[.val (.long q0), .second, .val (.int p1), .val (.int (p1 &&& (7 : Int32))), .val (.ref b1), .val (.int (((p1.toUInt32 >>> ((3 : Int32) &&& 31).toUInt32).toInt32) &&& (3 : Int32))), .val (.long q0), .second, .val (.ref b41), .unset] [(.int (1 : Int32))]))
        refine own_st ?_ (fun t k => XS.istore X44.here hx rfl (hb hby at_108) rfl (l' := #[.val (.long q0), .second, .val (.int p1), .val (.int (p1 &&& (7 : Int32))), .val (.ref b1), .val (.int (((p1.toUInt32 >>> ((3 : Int32) &&& 31).toUInt32).toInt32) &&& (3 : Int32))), .val (.long q0), .second, .val (.ref b41), .val (.int (1 : Int32))]) rfl k)
        show own_G p.tables e below _ _ (T44.setTop (mkF m 110 #[.val (.long q0), .second, .val (.int p1), .val (.int (p1 &&& (7 : Int32))), .val (.ref b1), .val (.int (((p1.toUInt32 >>> ((3 : Int32) &&& 31).toUInt32).toInt32) &&& (3 : Int32))), .val (.long q0), .second, .val (.ref b41), .val (.int (1 : Int32))] []))
        refine own_st ?_ (fun t k => XS.aload X44.here hx rfl (hb hby at_110) rfl rfl k)
        show own_G p.tables e below _ _ (T44.setTop (mkF m 112 #[.val (.long q0), .second, .val (.int p1), .val (.int (p1 &&& (7 : Int32))), .val (.ref b1), .val (.int (((p1.toUInt32 >>> ((3 : Int32) &&& 31).toUInt32).toInt32) &&& (3 : Int32))), .val (.long q0), .second, .val (.ref b41), .val (.int (1 : Int32))] [(.ref b41)]))
        obtain ⟨cq48, kq48, q48a, q48b, q48c⟩ := isOf hZ rfl F46_E
        obtain ⟨_, _, ⟨T48, L48, k48, n48⟩, -, X48, ⟨Lc48, hQ48, l48, y48, z48⟩, st48⟩ := X44.virtualBack hx (y := (⟨"com/example/fanoline/fanoline/io/LineReader$Line", "held", "()Z"⟩ : MethodName)) (z := (⟨"com/example/fanoline/fanoline/io/LineReader$Line", "held", "()Z"⟩ : MethodName)) hown (mvT hZ (hw _ (List.mem_of_getElem? (i := 19) rfl))) (mvT hZ (hw _ (List.mem_of_getElem? (i := 20) rfl))) (notFace_of_selects (args := #[]) (mvT hZ (hw _ (List.mem_of_getElem? (i := 22) rfl)))) (mvT hZ (hw _ (List.mem_of_getElem? (i := 22) rfl))) (mvT hZ (hw _ (List.mem_of_getElem? (i := 21) rfl))) (by decide) (backOf (W := 0) (rm4 l Z _ hw [] b41 (p1 &&& (7 : Int32)) b1 q0 T44.heap n0 Zs47 F45_P (own_n p1).1 Fb44 Fl44) hZ (hw _ (List.mem_of_getElem? (i := 23) rfl)) (hw _ (List.mem_of_getElem? (i := 3) rfl)) (by decide) (by decide)) q48a q48c (g := (mkF m 112 #[.val (.long q0), .second, .val (.int p1), .val (.int (p1 &&& (7 : Int32))), .val (.ref b1), .val (.int (((p1.toUInt32 >>> ((3 : Int32) &&& 31).toUInt32).toInt32) &&& (3 : Int32))), .val (.long q0), .second, .val (.ref b41), .val (.int (1 : Int32))] [(.ref b41)])) rfl (by rw [hml]; rfl) (Steps.refl _) (argsL := []) (rest := []) (lenOf pd_2 rfl) rfl (by show 2 * 0 + _ ≤ _; exact Nat.le_of_eq rfl) (hb hby at_112) (fun _ _ => ⟨rfl, rfl, (by decide : 2 + 0 ≤ _), (by decide : 9 + 0 ≤ _)⟩)
        dsimp only [Pt.U, Pt.locs, Pt.cells, Pt.slots] at X48 l48 y48 z48 st48 hQ48
        subst l48 y48 z48
        obtain ⟨rfl, N48q, e48⟩ := hQ48
        have N48 := Fr.app N44 N48q
        refine own_st ?_ (fun t k => st48.trans k)
        show own_G p.tables e below _ _ (T48.setTop (mkF m 115 #[.val (.long q0), .second, .val (.int p1), .val (.int (p1 &&& (7 : Int32))), .val (.ref b1), .val (.int (((p1.toUInt32 >>> ((3 : Int32) &&& 31).toUInt32).toInt32) &&& (3 : Int32))), .val (.long q0), .second, .val (.ref b41), .val (.int (1 : Int32))] [(.int (f4 b41 (p1 &&& (7 : Int32)) b1 q0))]))
        refine own_st ?_ (fun t k => XS.iload X48.here hx rfl (hb hby at_115) rfl k)
        show own_G p.tables e below _ _ (T48.setTop (mkF m 117 #[.val (.long q0), .second, .val (.int p1), .val (.int (p1 &&& (7 : Int32))), .val (.ref b1), .val (.int (((p1.toUInt32 >>> ((3 : Int32) &&& 31).toUInt32).toInt32) &&& (3 : Int32))), .val (.long q0), .second, .val (.ref b41), .val (.int (1 : Int32))] [(.int (1 : Int32)), (.int (f4 b41 (p1 &&& (7 : Int32)) b1 q0))]))
        refine own_st ?_ (fun t k => XS.icmpNo X48.here hx rfl (hb hby at_117) rfl (teq (own_h1 hc100)).2 k)
        show own_G p.tables e below _ _ (T48.setTop (mkF m 120 #[.val (.long q0), .second, .val (.int p1), .val (.int (p1 &&& (7 : Int32))), .val (.ref b1), .val (.int (((p1.toUInt32 >>> ((3 : Int32) &&& 31).toUInt32).toInt32) &&& (3 : Int32))), .val (.long q0), .second, .val (.ref b41), .val (.int (1 : Int32))] []))
        refine own_st ?_ (fun t k => XS.iconst X48.here hx rfl (hb hby at_120) k)
        show own_G p.tables e below _ _ (T48.setTop (mkF m 121 #[.val (.long q0), .second, .val (.int p1), .val (.int (p1 &&& (7 : Int32))), .val (.ref b1), .val (.int (((p1.toUInt32 >>> ((3 : Int32) &&& 31).toUInt32).toInt32) &&& (3 : Int32))), .val (.long q0), .second, .val (.ref b41), .val (.int (1 : Int32))] [(.int (1 : Int32))]))
        refine own_st ?_ (fun t k => XS.goto X48.here hx rfl (pc0 := 121) (pc' := 125) rfl (hb hby at_121) (by decide) (by decide) k)
        show own_G p.tables e below _ _ (T48.setTop (mkF m 125 #[.val (.long q0), .second, .val (.int p1), .val (.int (p1 &&& (7 : Int32))), .val (.ref b1), .val (.int (((p1.toUInt32 >>> ((3 : Int32) &&& 31).toUInt32).toInt32) &&& (3 : Int32))), .val (.long q0), .second, .val (.ref b41), .val (.int (1 : Int32))] [(.int (1 : Int32))]))
        exact own_retN X48 hx hlk (t := .boolean) hret (by simp) (hb hby at_125) (by decide) (by decide) (z' := (1 : Int32)) rfl ⟨rfl, N48⟩
      · refine own_st ?_ (fun t k => XS.ifYes X44.here hx rfl (pc0 := 100) (pc' := 107) rfl (hb hby at_100) rfl ((if0 _ _).trans (feq hc100).2) (by decide) (by decide) k)
        show own_G p.tables e below _ _ (T44.setTop (mkF m 107 #[.val (.long q0), .second, .val (.int p1), .val (.int (p1 &&& (7 : Int32))), .val (.ref b1), .val (.int (((p1.toUInt32 >>> ((3 : Int32) &&& 31).toUInt32).toInt32) &&& (3 : Int32))), .val (.long q0), .second, .val (.ref b41), .unset] []))
        refine own_st ?_ (fun t k => XS.iconst X44.here hx rfl (hb hby at_107) k)
        show own_G p.tables e below _ _ (T44.setTop (mkF m 108 #[.val (.long q0), .second, .val (.int p1), .val (.int (p1 &&& (7 : Int32))), .val (.ref b1), .val (.int (((p1.toUInt32 >>> ((3 : Int32) &&& 31).toUInt32).toInt32) &&& (3 : Int32))), .val (.long q0), .second, .val (.ref b41), .unset] [(.int (0 : Int32))]))
        refine own_st ?_ (fun t k => XS.istore X44.here hx rfl (hb hby at_108) rfl (l' := #[.val (.long q0), .second, .val (.int p1), .val (.int (p1 &&& (7 : Int32))), .val (.ref b1), .val (.int (((p1.toUInt32 >>> ((3 : Int32) &&& 31).toUInt32).toInt32) &&& (3 : Int32))), .val (.long q0), .second, .val (.ref b41), .val (.int (0 : Int32))]) rfl k)
        show own_G p.tables e below _ _ (T44.setTop (mkF m 110 #[.val (.long q0), .second, .val (.int p1), .val (.int (p1 &&& (7 : Int32))), .val (.ref b1), .val (.int (((p1.toUInt32 >>> ((3 : Int32) &&& 31).toUInt32).toInt32) &&& (3 : Int32))), .val (.long q0), .second, .val (.ref b41), .val (.int (0 : Int32))] []))
        refine own_st ?_ (fun t k => XS.aload X44.here hx rfl (hb hby at_110) rfl rfl k)
        show own_G p.tables e below _ _ (T44.setTop (mkF m 112 #[.val (.long q0), .second, .val (.int p1), .val (.int (p1 &&& (7 : Int32))), .val (.ref b1), .val (.int (((p1.toUInt32 >>> ((3 : Int32) &&& 31).toUInt32).toInt32) &&& (3 : Int32))), .val (.long q0), .second, .val (.ref b41), .val (.int (0 : Int32))] [(.ref b41)]))
        obtain ⟨cq49, kq49, q49a, q49b, q49c⟩ := isOf hZ rfl F46_E
        obtain ⟨_, _, ⟨T49, L49, k49, n49⟩, -, X49, ⟨Lc49, hQ49, l49, y49, z49⟩, st49⟩ := X44.virtualBack hx (y := (⟨"com/example/fanoline/fanoline/io/LineReader$Line", "held", "()Z"⟩ : MethodName)) (z := (⟨"com/example/fanoline/fanoline/io/LineReader$Line", "held", "()Z"⟩ : MethodName)) hown (mvT hZ (hw _ (List.mem_of_getElem? (i := 19) rfl))) (mvT hZ (hw _ (List.mem_of_getElem? (i := 20) rfl))) (notFace_of_selects (args := #[]) (mvT hZ (hw _ (List.mem_of_getElem? (i := 22) rfl)))) (mvT hZ (hw _ (List.mem_of_getElem? (i := 22) rfl))) (mvT hZ (hw _ (List.mem_of_getElem? (i := 21) rfl))) (by decide) (backOf (W := 0) (rm4 l Z _ hw [] b41 (p1 &&& (7 : Int32)) b1 q0 T44.heap n0 Zs47 F45_P (own_n p1).1 Fb44 Fl44) hZ (hw _ (List.mem_of_getElem? (i := 23) rfl)) (hw _ (List.mem_of_getElem? (i := 3) rfl)) (by decide) (by decide)) q49a q49c (g := (mkF m 112 #[.val (.long q0), .second, .val (.int p1), .val (.int (p1 &&& (7 : Int32))), .val (.ref b1), .val (.int (((p1.toUInt32 >>> ((3 : Int32) &&& 31).toUInt32).toInt32) &&& (3 : Int32))), .val (.long q0), .second, .val (.ref b41), .val (.int (0 : Int32))] [(.ref b41)])) rfl (by rw [hml]; rfl) (Steps.refl _) (argsL := []) (rest := []) (lenOf pd_2 rfl) rfl (by show 2 * 0 + _ ≤ _; exact Nat.le_of_eq rfl) (hb hby at_112) (fun _ _ => ⟨rfl, rfl, (by decide : 2 + 0 ≤ _), (by decide : 9 + 0 ≤ _)⟩)
        dsimp only [Pt.U, Pt.locs, Pt.cells, Pt.slots] at X49 l49 y49 z49 st49 hQ49
        subst l49 y49 z49
        obtain ⟨rfl, N49q, e49⟩ := hQ49
        have N49 := Fr.app N44 N49q
        refine own_st ?_ (fun t k => st49.trans k)
        show own_G p.tables e below _ _ (T49.setTop (mkF m 115 #[.val (.long q0), .second, .val (.int p1), .val (.int (p1 &&& (7 : Int32))), .val (.ref b1), .val (.int (((p1.toUInt32 >>> ((3 : Int32) &&& 31).toUInt32).toInt32) &&& (3 : Int32))), .val (.long q0), .second, .val (.ref b41), .val (.int (0 : Int32))] [(.int (f4 b41 (p1 &&& (7 : Int32)) b1 q0))]))
        refine own_st ?_ (fun t k => XS.iload X49.here hx rfl (hb hby at_115) rfl k)
        show own_G p.tables e below _ _ (T49.setTop (mkF m 117 #[.val (.long q0), .second, .val (.int p1), .val (.int (p1 &&& (7 : Int32))), .val (.ref b1), .val (.int (((p1.toUInt32 >>> ((3 : Int32) &&& 31).toUInt32).toInt32) &&& (3 : Int32))), .val (.long q0), .second, .val (.ref b41), .val (.int (0 : Int32))] [(.int (0 : Int32)), (.int (f4 b41 (p1 &&& (7 : Int32)) b1 q0))]))
        refine own_st ?_ (fun t k => XS.icmpNo X49.here hx rfl (hb hby at_117) rfl (teq (own_h0 hc100)).2 k)
        show own_G p.tables e below _ _ (T49.setTop (mkF m 120 #[.val (.long q0), .second, .val (.int p1), .val (.int (p1 &&& (7 : Int32))), .val (.ref b1), .val (.int (((p1.toUInt32 >>> ((3 : Int32) &&& 31).toUInt32).toInt32) &&& (3 : Int32))), .val (.long q0), .second, .val (.ref b41), .val (.int (0 : Int32))] []))
        refine own_st ?_ (fun t k => XS.iconst X49.here hx rfl (hb hby at_120) k)
        show own_G p.tables e below _ _ (T49.setTop (mkF m 121 #[.val (.long q0), .second, .val (.int p1), .val (.int (p1 &&& (7 : Int32))), .val (.ref b1), .val (.int (((p1.toUInt32 >>> ((3 : Int32) &&& 31).toUInt32).toInt32) &&& (3 : Int32))), .val (.long q0), .second, .val (.ref b41), .val (.int (0 : Int32))] [(.int (1 : Int32))]))
        refine own_st ?_ (fun t k => XS.goto X49.here hx rfl (pc0 := 121) (pc' := 125) rfl (hb hby at_121) (by decide) (by decide) k)
        show own_G p.tables e below _ _ (T49.setTop (mkF m 125 #[.val (.long q0), .second, .val (.int p1), .val (.int (p1 &&& (7 : Int32))), .val (.ref b1), .val (.int (((p1.toUInt32 >>> ((3 : Int32) &&& 31).toUInt32).toInt32) &&& (3 : Int32))), .val (.long q0), .second, .val (.ref b41), .val (.int (0 : Int32))] [(.int (1 : Int32))]))
        exact own_retN X49 hx hlk (t := .boolean) hret (by simp) (hb hby at_125) (by decide) (by decide) (z' := (1 : Int32)) rfl ⟨rfl, N49⟩
    · refine own_st ?_ (fun t k => XS.ifYes X1.here hx rfl (pc0 := 32) (pc' := 41) rfl (hb hby at_32) rfl ((if0 _ _).trans (feq hc32).2) (by decide) (by decide) k)
      show own_G p.tables e below _ _ (T1.setTop (mkF m 41 #[.val (.long q0), .second, .val (.int p1), .val (.int (p1 &&& (7 : Int32))), .val (.ref b1), .val (.int (((p1.toUInt32 >>> ((3 : Int32) &&& 31).toUInt32).toInt32) &&& (3 : Int32))), .unset, .unset, .unset, .unset] []))
      refine own_st ?_ (fun t k => XS.iload X1.here hx rfl (hb hby at_41) rfl k)
      show own_G p.tables e below _ _ (T1.setTop (mkF m 43 #[.val (.long q0), .second, .val (.int p1), .val (.int (p1 &&& (7 : Int32))), .val (.ref b1), .val (.int (((p1.toUInt32 >>> ((3 : Int32) &&& 31).toUInt32).toInt32) &&& (3 : Int32))), .unset, .unset, .unset, .unset] [(.int (((p1.toUInt32 >>> ((3 : Int32) &&& 31).toUInt32).toInt32) &&& (3 : Int32)))]))
      refine own_st ?_ (fun t k => XS.iconst X1.here hx rfl (hb hby at_43) k)
      show own_G p.tables e below _ _ (T1.setTop (mkF m 44 #[.val (.long q0), .second, .val (.int p1), .val (.int (p1 &&& (7 : Int32))), .val (.ref b1), .val (.int (((p1.toUInt32 >>> ((3 : Int32) &&& 31).toUInt32).toInt32) &&& (3 : Int32))), .unset, .unset, .unset, .unset] [(.int (1 : Int32)), (.int (((p1.toUInt32 >>> ((3 : Int32) &&& 31).toUInt32).toInt32) &&& (3 : Int32)))]))
      by_cases hc44 : (((p1.toUInt32 >>> ((3 : Int32) &&& 31).toUInt32).toInt32) &&& (3 : Int32)) = (1 : Int32)
      · refine own_st ?_ (fun t k => XS.icmpNo X1.here hx rfl (hb hby at_44) rfl (teq hc44).2 k)
        show own_G p.tables e below _ _ (T1.setTop (mkF m 47 #[.val (.long q0), .second, .val (.int p1), .val (.int (p1 &&& (7 : Int32))), .val (.ref b1), .val (.int (((p1.toUInt32 >>> ((3 : Int32) &&& 31).toUInt32).toInt32) &&& (3 : Int32))), .unset, .unset, .unset, .unset] []))
        refine own_st ?_ (fun t k => XS.iloadN X1.here hx rfl (hb hby at_47) rfl k)
        show own_G p.tables e below _ _ (T1.setTop (mkF m 48 #[.val (.long q0), .second, .val (.int p1), .val (.int (p1 &&& (7 : Int32))), .val (.ref b1), .val (.int (((p1.toUInt32 >>> ((3 : Int32) &&& 31).toUInt32).toInt32) &&& (3 : Int32))), .unset, .unset, .unset, .unset] [(.int (p1 &&& (7 : Int32)))]))
        refine own_st ?_ (fun t k => XS.i2l X1.here hx rfl (hb hby at_48) rfl k)
        show own_G p.tables e below _ _ (T1.setTop (mkF m 49 #[.val (.long q0), .second, .val (.int p1), .val (.int (p1 &&& (7 : Int32))), .val (.ref b1), .val (.int (((p1.toUInt32 >>> ((3 : Int32) &&& 31).toUInt32).toInt32) &&& (3 : Int32))), .unset, .unset, .unset, .unset] [(.long ((p1 &&& (7 : Int32)).toInt64))]))
        refine own_st ?_ (fun t k => XS.lloadN X1.here hx rfl (hb hby at_49) rfl k)
        show own_G p.tables e below _ _ (T1.setTop (mkF m 50 #[.val (.long q0), .second, .val (.int p1), .val (.int (p1 &&& (7 : Int32))), .val (.ref b1), .val (.int (((p1.toUInt32 >>> ((3 : Int32) &&& 31).toUInt32).toInt32) &&& (3 : Int32))), .unset, .unset, .unset, .unset] [(.long q0), (.long ((p1 &&& (7 : Int32)).toInt64))]))
        refine own_st ?_ (X1.ldc2Long hx hown (mvT hZ (hw _ (List.mem_of_getElem? (i := 24) rfl))) (g := (mkF m 50 #[.val (.long q0), .second, .val (.int p1), .val (.int (p1 &&& (7 : Int32))), .val (.ref b1), .val (.int (((p1.toUInt32 >>> ((3 : Int32) &&& 31).toUInt32).toInt32) &&& (3 : Int32))), .unset, .unset, .unset, .unset] [(.long q0), (.long ((p1 &&& (7 : Int32)).toInt64))])) rfl (hb hby at_50))
        show own_G p.tables e below _ _ (T1.setTop (mkF m 53 #[.val (.long q0), .second, .val (.int p1), .val (.int (p1 &&& (7 : Int32))), .val (.ref b1), .val (.int (((p1.toUInt32 >>> ((3 : Int32) &&& 31).toUInt32).toInt32) &&& (3 : Int32))), .unset, .unset, .unset, .unset] [(.long (3 : Int64)), (.long q0), (.long ((p1 &&& (7 : Int32)).toInt64))]))
        refine own_st ?_ (fun t k => XS.lrem X1.here hx rfl (hb hby at_53) rfl (by decide) k)
        show own_G p.tables e below _ _ (T1.setTop (mkF m 54 #[.val (.long q0), .second, .val (.int p1), .val (.int (p1 &&& (7 : Int32))), .val (.ref b1), .val (.int (((p1.toUInt32 >>> ((3 : Int32) &&& 31).toUInt32).toInt32) &&& (3 : Int32))), .unset, .unset, .unset, .unset] [(.long (q0 - (q0 / (3 : Int64)) * (3 : Int64))), (.long ((p1 &&& (7 : Int32)).toInt64))]))
        refine own_st ?_ (fun t k => XS.ladd X1.here hx rfl (hb hby at_54) rfl k)
        show own_G p.tables e below _ _ (T1.setTop (mkF m 55 #[.val (.long q0), .second, .val (.int p1), .val (.int (p1 &&& (7 : Int32))), .val (.ref b1), .val (.int (((p1.toUInt32 >>> ((3 : Int32) &&& 31).toUInt32).toInt32) &&& (3 : Int32))), .unset, .unset, .unset, .unset] [(.long (((p1 &&& (7 : Int32)).toInt64) + (q0 - (q0 / (3 : Int64)) * (3 : Int64))))]))
        refine own_st ?_ (fun t k => XS.lstore X1.here hx rfl (hb hby at_55) rfl (l' := #[.val (.long q0), .second, .val (.int p1), .val (.int (p1 &&& (7 : Int32))), .val (.ref b1), .val (.int (((p1.toUInt32 >>> ((3 : Int32) &&& 31).toUInt32).toInt32) &&& (3 : Int32))), .val (.long (((p1 &&& (7 : Int32)).toInt64) + (q0 - (q0 / (3 : Int64)) * (3 : Int64)))), .second, .unset, .unset]) rfl k)
        show own_G p.tables e below _ _ (T1.setTop (mkF m 57 #[.val (.long q0), .second, .val (.int p1), .val (.int (p1 &&& (7 : Int32))), .val (.ref b1), .val (.int (((p1.toUInt32 >>> ((3 : Int32) &&& 31).toUInt32).toInt32) &&& (3 : Int32))), .val (.long (((p1 &&& (7 : Int32)).toInt64) + (q0 - (q0 / (3 : Int64)) * (3 : Int64)))), .second, .unset, .unset] []))
        refine own_st ?_ (fun t k => XS.goto X1.here hx rfl (pc0 := 57) (pc' := 82) rfl (hb hby at_57) (by decide) (by decide) k)
        show own_G p.tables e below _ _ (T1.setTop (mkF m 82 #[.val (.long q0), .second, .val (.int p1), .val (.int (p1 &&& (7 : Int32))), .val (.ref b1), .val (.int (((p1.toUInt32 >>> ((3 : Int32) &&& 31).toUInt32).toInt32) &&& (3 : Int32))), .val (.long (((p1 &&& (7 : Int32)).toInt64) + (q0 - (q0 / (3 : Int64)) * (3 : Int64)))), .second, .unset, .unset] []))
        obtain ⟨T50, h50, X50, e50, E50, A50, D50, -, st50⟩ := newO X1 hx hZ hown (hw _ (List.mem_of_getElem? (i := 1) rfl)) (hw _ (List.mem_of_getElem? (i := 2) rfl)) (hw _ (List.mem_of_getElem? (i := 3) rfl)) e1 (g := (mkF m 82 #[.val (.long q0), .second, .val (.int p1), .val (.int (p1 &&& (7 : Int32))), .val (.ref b1), .val (.int (((p1.toUInt32 >>> ((3 : Int32) &&& 31).toUInt32).toInt32) &&& (3 : Int32))), .val (.long (((p1 &&& (7 : Int32)).toInt64) + (q0 - (q0 / (3 : Int64)) * (3 : Int64)))), .second, .unset, .unset] [])) rfl (hb hby at_82) (by decide) (by decide)
        obtain ⟨b50, gz50⟩ : ∃ z, z = h1.size := ⟨_, rfl⟩
        rw [← gz50] at A50 D50 st50
        have ne_b1_b50 : b1 ≠ b50 := Nat.ne_of_lt (Nat.lt_of_lt_of_le (own_B_lt F_b1) (Nat.le_of_eq gz50.symm))
        have g_b50 : n0 ≤ b50 := Nat.le_trans Zs2 (Nat.le_of_eq gz50.symm)
        have F51_P : own_B Z h50 b1 (p1 &&& (7 : Int32)) := own_B_ext F_b1 E50
        have Zs52 : n0 ≤ h50.size := Nat.le_trans Zs2 E50.1
        have F_length_b50 : Fld Z h50 b50 "com/example/fanoline/fanoline/io/LineReader$Line" "length" "J" (.long (0 : Int64)) := D50 (Or.inr (hw _ (List.mem_of_getElem? (i := 16) rfl))) (ty := .long) (by decide)
        have F_bytes_b50 : Fld Z h50 b50 "com/example/fanoline/fanoline/io/LineReader$Line" "bytes" "[B" .null := D50 (Or.inr (hw _ (List.mem_of_getElem? (i := 18) rfl))) (ty := (.array .byte)) (by decide)
        refine own_st ?_ st50
        show own_G p.tables e below _ _ (T50.setTop (mkF m 85 #[.val (.long q0), .second, .val (.int p1), .val (.int (p1 &&& (7 : Int32))), .val (.ref b1), .val (.int (((p1.toUInt32 >>> ((3 : Int32) &&& 31).toUInt32).toInt32) &&& (3 : Int32))), .val (.long (((p1 &&& (7 : Int32)).toInt64) + (q0 - (q0 / (3 : Int64)) * (3 : Int64)))), .second, .unset, .unset] [(.ref b50)]))
        refine own_st ?_ (fun t k => XS.dup X50.here hx rfl (hb hby at_85) rfl rfl k)
        show own_G p.tables e below _ _ (T50.setTop (mkF m 86 #[.val (.long q0), .second, .val (.int p1), .val (.int (p1 &&& (7 : Int32))), .val (.ref b1), .val (.int (((p1.toUInt32 >>> ((3 : Int32) &&& 31).toUInt32).toInt32) &&& (3 : Int32))), .val (.long (((p1 &&& (7 : Int32)).toInt64) + (q0 - (q0 / (3 : Int64)) * (3 : Int64)))), .second, .unset, .unset] [(.ref b50), (.ref b50)]))
        refine own_st ?_ (fun t k => XS.lload X50.here hx rfl (hb hby at_86) rfl k)
        show own_G p.tables e below _ _ (T50.setTop (mkF m 88 #[.val (.long q0), .second, .val (.int p1), .val (.int (p1 &&& (7 : Int32))), .val (.ref b1), .val (.int (((p1.toUInt32 >>> ((3 : Int32) &&& 31).toUInt32).toInt32) &&& (3 : Int32))), .val (.long (((p1 &&& (7 : Int32)).toInt64) + (q0 - (q0 / (3 : Int64)) * (3 : Int64)))), .second, .unset, .unset] [(.long (((p1 &&& (7 : Int32)).toInt64) + (q0 - (q0 / (3 : Int64)) * (3 : Int64)))), (.ref b50), (.ref b50)]))
        refine own_st ?_ (fun t k => XS.aload X50.here hx rfl (hb hby at_88) rfl rfl k)
        show own_G p.tables e below _ _ (T50.setTop (mkF m 90 #[.val (.long q0), .second, .val (.int p1), .val (.int (p1 &&& (7 : Int32))), .val (.ref b1), .val (.int (((p1.toUInt32 >>> ((3 : Int32) &&& 31).toUInt32).toInt32) &&& (3 : Int32))), .val (.long (((p1 &&& (7 : Int32)).toInt64) + (q0 - (q0 / (3 : Int64)) * (3 : Int64)))), .second, .unset, .unset] [(.ref b1), (.long (((p1 &&& (7 : Int32)).toInt64) + (q0 - (q0 / (3 : Int64)) * (3 : Int64)))), (.ref b50), (.ref b50)]))
        obtain ⟨_, _, ⟨T53, L53, k53, n53⟩, -, X53, ⟨Lc53, hQ53, l53, y53, z53⟩, st53⟩ := X50.specialBack hx (y := (⟨"com/example/fanoline/fanoline/io/LineReader$Line", "<init>", "(J[B)V"⟩ : MethodName)) rfl hown (mvT hZ (hw _ (List.mem_of_getElem? (i := 4) rfl))) (mvT hZ (hw _ (List.mem_of_getElem? (i := 5) rfl))) (mvT hZ (hw _ (List.mem_of_getElem? (i := 6) rfl))) (by decide) (backOf (W := 1) (rm1 l Z _ hw [] b50 (((p1 &&& (7 : Int32)).toInt64) + (q0 - (q0 / (3 : Int64)) * (3 : Int64))) b1 (.long (0 : Int64)) .null h50 n0 Zs52 g_b50 A50 F_length_b50 F_bytes_b50) hZ (hw _ (List.mem_of_getElem? (i := 6) rfl)) (hw _ (List.mem_of_getElem? (i := 3) rfl)) (by decide) (by decide)) (g := (mkF m 90 #[.val (.long q0), .second, .val (.int p1), .val (.int (p1 &&& (7 : Int32))), .val (.ref b1), .val (.int (((p1.toUInt32 >>> ((3 : Int32) &&& 31).toUInt32).toInt32) &&& (3 : Int32))), .val (.long (((p1 &&& (7 : Int32)).toInt64) + (q0 - (q0 / (3 : Int64)) * (3 : Int64)))), .second, .unset, .unset] [(.ref b1), (.long (((p1 &&& (7 : Int32)).toInt64) + (q0 - (q0 / (3 : Int64)) * (3 : Int64)))), (.ref b50), (.ref b50)])) rfl (by rw [hml]; rfl) (Steps.refl _) (a := b50) (argsL := [(.long (((p1 &&& (7 : Int32)).toInt64) + (q0 - (q0 / (3 : Int64)) * (3 : Int64)))), (.ref b1)]) (rest := [(.ref b50)]) (lenOf pd_1 rfl) rfl (by show 2 * 0 + _ ≤ _; exact Nat.le_of_eq rfl) (hb hby at_90) (fun _ _ => ⟨rfl, e50, (by decide : 2 + 0 ≤ _), (by decide : 9 + 0 ≤ _)⟩)
        dsimp only [Pt.U, Pt.locs, Pt.cells, Pt.slots] at X53 l53 y53 z53 st53 hQ53
        subst l53 y53 z53
        obtain ⟨rfl, N53q, hq53⟩ := hQ53
        have N53 := Fr.app N0 N53q
        obtain ⟨K53, Fl53, Fb53⟩ := hq53
        have F54_P : own_B Z T53.heap b1 (p1 &&& (7 : Int32)) := own_B_keep F51_P K53 (ninS ne_b1_b50 nin0)
        have F55_E : Exa Z T53.heap b50 "com/example/fanoline/fanoline/io/LineReader$Line" := A50.keep K53
        have Zs56 : n0 ≤ T53.heap.size := Nat.le_trans Zs52 K53.1
        refine own_st ?_ (fun t k => st53.trans k)
        show own_G p.tables e below _ _ (T53.setTop (mkF m 93 #[.val (.long q0), .second, .val (.int p1), .val (.int (p1 &&& (7 : Int32))), .val (.ref b1), .val (.int (((p1.toUInt32 >>> ((3 : Int32) &&& 31).toUInt32).toInt32) &&& (3 : Int32))), .val (.long (((p1 &&& (7 : Int32)).toInt64) + (q0 - (q0 / (3 : Int64)) * (3 : Int64)))), .second, .unset, .unset] [(.ref b50)]))
        refine own_st ?_ (fun t k => XS.astore X53.here hx rfl (hb hby at_93) rfl rfl (l' := #[.val (.long q0), .second, .val (.int p1), .val (.int (p1 &&& (7 : Int32))), .val (.ref b1), .val (.int (((p1.toUInt32 >>> ((3 : Int32) &&& 31).toUInt32).toInt32) &&& (3 : Int32))), .val (.long (((p1 &&& (7 : Int32)).toInt64) + (q0 - (q0 / (3 : Int64)) * (3 : Int64)))), .second, .val (.ref b50), .unset]) rfl k)
        show own_G p.tables e below _ _ (T53.setTop (mkF m 95 #[.val (.long q0), .second, .val (.int p1), .val (.int (p1 &&& (7 : Int32))), .val (.ref b1), .val (.int (((p1.toUInt32 >>> ((3 : Int32) &&& 31).toUInt32).toInt32) &&& (3 : Int32))), .val (.long (((p1 &&& (7 : Int32)).toInt64) + (q0 - (q0 / (3 : Int64)) * (3 : Int64)))), .second, .val (.ref b50), .unset] []))
        refine own_st ?_ (fun t k => XS.lload X53.here hx rfl (hb hby at_95) rfl k)
        show own_G p.tables e below _ _ (T53.setTop (mkF m 97 #[.val (.long q0), .second, .val (.int p1), .val (.int (p1 &&& (7 : Int32))), .val (.ref b1), .val (.int (((p1.toUInt32 >>> ((3 : Int32) &&& 31).toUInt32).toInt32) &&& (3 : Int32))), .val (.long (((p1 &&& (7 : Int32)).toInt64) + (q0 - (q0 / (3 : Int64)) * (3 : Int64)))), .second, .val (.ref b50), .unset] [(.long (((p1 &&& (7 : Int32)).toInt64) + (q0 - (q0 / (3 : Int64)) * (3 : Int64))))]))
        refine own_st ?_ (fun t k => XS.iloadN X53.here hx rfl (hb hby at_97) rfl k)
        show own_G p.tables e below _ _ (T53.setTop (mkF m 98 #[.val (.long q0), .second, .val (.int p1), .val (.int (p1 &&& (7 : Int32))), .val (.ref b1), .val (.int (((p1.toUInt32 >>> ((3 : Int32) &&& 31).toUInt32).toInt32) &&& (3 : Int32))), .val (.long (((p1 &&& (7 : Int32)).toInt64) + (q0 - (q0 / (3 : Int64)) * (3 : Int64)))), .second, .val (.ref b50), .unset] [(.int (p1 &&& (7 : Int32))), (.long (((p1 &&& (7 : Int32)).toInt64) + (q0 - (q0 / (3 : Int64)) * (3 : Int64))))]))
        refine own_st ?_ (fun t k => XS.i2l X53.here hx rfl (hb hby at_98) rfl k)
        show own_G p.tables e below _ _ (T53.setTop (mkF m 99 #[.val (.long q0), .second, .val (.int p1), .val (.int (p1 &&& (7 : Int32))), .val (.ref b1), .val (.int (((p1.toUInt32 >>> ((3 : Int32) &&& 31).toUInt32).toInt32) &&& (3 : Int32))), .val (.long (((p1 &&& (7 : Int32)).toInt64) + (q0 - (q0 / (3 : Int64)) * (3 : Int64)))), .second, .val (.ref b50), .unset] [(.long ((p1 &&& (7 : Int32)).toInt64)), (.long (((p1 &&& (7 : Int32)).toInt64) + (q0 - (q0 / (3 : Int64)) * (3 : Int64))))]))
        refine own_st ?_ (fun t k => XS.lcmp X53.here hx rfl (hb hby at_99) rfl k)
        show own_G p.tables e below _ _ (T53.setTop (mkF m 100 #[.val (.long q0), .second, .val (.int p1), .val (.int (p1 &&& (7 : Int32))), .val (.ref b1), .val (.int (((p1.toUInt32 >>> ((3 : Int32) &&& 31).toUInt32).toInt32) &&& (3 : Int32))), .val (.long (((p1 &&& (7 : Int32)).toInt64) + (q0 - (q0 / (3 : Int64)) * (3 : Int64)))), .second, .val (.ref b50), .unset] [(.int (lcmpW (((p1 &&& (7 : Int32)).toInt64) + (q0 - (q0 / (3 : Int64)) * (3 : Int64))) ((p1 &&& (7 : Int32)).toInt64)))]))
        by_cases hc100 : (lcmpW (((p1 &&& (7 : Int32)).toInt64) + (q0 - (q0 / (3 : Int64)) * (3 : Int64))) ((p1 &&& (7 : Int32)).toInt64)) = (0 : Int32)
        · refine own_st ?_ (fun t k => XS.ifNo X53.here hx rfl (hb hby at_100) rfl ((if0 _ _).trans (teq hc100).2) k)
          show own_G p.tables e below _ _ (T53.setTop (mkF m 103 #[.val (.long q0), .second, .val (.int p1), .val (.int (p1 &&& (7 : Int32))), .val (.ref b1), .val (.int (((p1.toUInt32 >>> ((3 : Int32) &&& 31).toUInt32).toInt32) &&& (3 : Int32))), .val (.long (((p1 &&& (7 : Int32)).toInt64) + (q0 - (q0 / (3 : Int64)) * (3 : Int64)))), .second, .val (.ref b50), .unset] []))
          refine own_st ?_ (fun t k => XS.iconst X53.here hx rfl (hb hby at_103) k)
          show own_G p.tables e below _ _ (T53.setTop (mkF m 104 #[.val (.long q0), .second, .val (.int p1), .val (.int (p1 &&& (7 : Int32))), .val (.ref b1), .val (.int (((p1.toUInt32 >>> ((3 : Int32) &&& 31).toUInt32).toInt32) &&& (3 : Int32))), .val (.long (((p1 &&& (7 : Int32)).toInt64) + (q0 - (q0 / (3 : Int64)) * (3 : Int64)))), .second, .val (.ref b50), .unset] [(.int (1 : Int32))]))
          refine own_st ?_ (fun t k => XS.goto X53.here hx rfl (pc0 := 104) (pc' := 108) rfl (hb hby at_104) (by decide) (by decide) k)
          show own_G p.tables e below _ _ (T53.setTop (mkF m 108 #[.val (.long q0), .second, .val (.int p1), .val (.int (p1 &&& (7 : Int32))), .val (.ref b1), .val (.int (((p1.toUInt32 >>> ((3 : Int32) &&& 31).toUInt32).toInt32) &&& (3 : Int32))), .val (.long (((p1 &&& (7 : Int32)).toInt64) + (q0 - (q0 / (3 : Int64)) * (3 : Int64)))), .second, .val (.ref b50), .unset] [(.int (1 : Int32))]))
          refine own_st ?_ (fun t k => XS.istore X53.here hx rfl (hb hby at_108) rfl (l' := #[.val (.long q0), .second, .val (.int p1), .val (.int (p1 &&& (7 : Int32))), .val (.ref b1), .val (.int (((p1.toUInt32 >>> ((3 : Int32) &&& 31).toUInt32).toInt32) &&& (3 : Int32))), .val (.long (((p1 &&& (7 : Int32)).toInt64) + (q0 - (q0 / (3 : Int64)) * (3 : Int64)))), .second, .val (.ref b50), .val (.int (1 : Int32))]) rfl k)
          show own_G p.tables e below _ _ (T53.setTop (mkF m 110 #[.val (.long q0), .second, .val (.int p1), .val (.int (p1 &&& (7 : Int32))), .val (.ref b1), .val (.int (((p1.toUInt32 >>> ((3 : Int32) &&& 31).toUInt32).toInt32) &&& (3 : Int32))), .val (.long (((p1 &&& (7 : Int32)).toInt64) + (q0 - (q0 / (3 : Int64)) * (3 : Int64)))), .second, .val (.ref b50), .val (.int (1 : Int32))] []))
          refine own_st ?_ (fun t k => XS.aload X53.here hx rfl (hb hby at_110) rfl rfl k)
          show own_G p.tables e below _ _ (T53.setTop (mkF m 112 #[.val (.long q0), .second, .val (.int p1), .val (.int (p1 &&& (7 : Int32))), .val (.ref b1), .val (.int (((p1.toUInt32 >>> ((3 : Int32) &&& 31).toUInt32).toInt32) &&& (3 : Int32))), .val (.long (((p1 &&& (7 : Int32)).toInt64) + (q0 - (q0 / (3 : Int64)) * (3 : Int64)))), .second, .val (.ref b50), .val (.int (1 : Int32))] [(.ref b50)]))
          obtain ⟨cq57, kq57, q57a, q57b, q57c⟩ := isOf hZ rfl F55_E
          obtain ⟨_, _, ⟨T57, L57, k57, n57⟩, -, X57, ⟨Lc57, hQ57, l57, y57, z57⟩, st57⟩ := X53.virtualBack hx (y := (⟨"com/example/fanoline/fanoline/io/LineReader$Line", "held", "()Z"⟩ : MethodName)) (z := (⟨"com/example/fanoline/fanoline/io/LineReader$Line", "held", "()Z"⟩ : MethodName)) hown (mvT hZ (hw _ (List.mem_of_getElem? (i := 19) rfl))) (mvT hZ (hw _ (List.mem_of_getElem? (i := 20) rfl))) (notFace_of_selects (args := #[]) (mvT hZ (hw _ (List.mem_of_getElem? (i := 22) rfl)))) (mvT hZ (hw _ (List.mem_of_getElem? (i := 22) rfl))) (mvT hZ (hw _ (List.mem_of_getElem? (i := 21) rfl))) (by decide) (backOf (W := 0) (rm4 l Z _ hw [] b50 (p1 &&& (7 : Int32)) b1 (((p1 &&& (7 : Int32)).toInt64) + (q0 - (q0 / (3 : Int64)) * (3 : Int64))) T53.heap n0 Zs56 F54_P (own_n p1).1 Fb53 Fl53) hZ (hw _ (List.mem_of_getElem? (i := 23) rfl)) (hw _ (List.mem_of_getElem? (i := 3) rfl)) (by decide) (by decide)) q57a q57c (g := (mkF m 112 #[.val (.long q0), .second, .val (.int p1), .val (.int (p1 &&& (7 : Int32))), .val (.ref b1), .val (.int (((p1.toUInt32 >>> ((3 : Int32) &&& 31).toUInt32).toInt32) &&& (3 : Int32))), .val (.long (((p1 &&& (7 : Int32)).toInt64) + (q0 - (q0 / (3 : Int64)) * (3 : Int64)))), .second, .val (.ref b50), .val (.int (1 : Int32))] [(.ref b50)])) rfl (by rw [hml]; rfl) (Steps.refl _) (argsL := []) (rest := []) (lenOf pd_2 rfl) rfl (by show 2 * 0 + _ ≤ _; exact Nat.le_of_eq rfl) (hb hby at_112) (fun _ _ => ⟨rfl, rfl, (by decide : 2 + 0 ≤ _), (by decide : 9 + 0 ≤ _)⟩)
          dsimp only [Pt.U, Pt.locs, Pt.cells, Pt.slots] at X57 l57 y57 z57 st57 hQ57
          subst l57 y57 z57
          obtain ⟨rfl, N57q, e57⟩ := hQ57
          have N57 := Fr.app N53 N57q
          refine own_st ?_ (fun t k => st57.trans k)
          show own_G p.tables e below _ _ (T57.setTop (mkF m 115 #[.val (.long q0), .second, .val (.int p1), .val (.int (p1 &&& (7 : Int32))), .val (.ref b1), .val (.int (((p1.toUInt32 >>> ((3 : Int32) &&& 31).toUInt32).toInt32) &&& (3 : Int32))), .val (.long (((p1 &&& (7 : Int32)).toInt64) + (q0 - (q0 / (3 : Int64)) * (3 : Int64)))), .second, .val (.ref b50), .val (.int (1 : Int32))] [(.int (f4 b50 (p1 &&& (7 : Int32)) b1 (((p1 &&& (7 : Int32)).toInt64) + (q0 - (q0 / (3 : Int64)) * (3 : Int64)))))]))
          refine own_st ?_ (fun t k => XS.iload X57.here hx rfl (hb hby at_115) rfl k)
          show own_G p.tables e below _ _ (T57.setTop (mkF m 117 #[.val (.long q0), .second, .val (.int p1), .val (.int (p1 &&& (7 : Int32))), .val (.ref b1), .val (.int (((p1.toUInt32 >>> ((3 : Int32) &&& 31).toUInt32).toInt32) &&& (3 : Int32))), .val (.long (((p1 &&& (7 : Int32)).toInt64) + (q0 - (q0 / (3 : Int64)) * (3 : Int64)))), .second, .val (.ref b50), .val (.int (1 : Int32))] [(.int (1 : Int32)), (.int (f4 b50 (p1 &&& (7 : Int32)) b1 (((p1 &&& (7 : Int32)).toInt64) + (q0 - (q0 / (3 : Int64)) * (3 : Int64)))))]))
          refine own_st ?_ (fun t k => XS.icmpNo X57.here hx rfl (hb hby at_117) rfl (teq (own_h1 hc100)).2 k)
          show own_G p.tables e below _ _ (T57.setTop (mkF m 120 #[.val (.long q0), .second, .val (.int p1), .val (.int (p1 &&& (7 : Int32))), .val (.ref b1), .val (.int (((p1.toUInt32 >>> ((3 : Int32) &&& 31).toUInt32).toInt32) &&& (3 : Int32))), .val (.long (((p1 &&& (7 : Int32)).toInt64) + (q0 - (q0 / (3 : Int64)) * (3 : Int64)))), .second, .val (.ref b50), .val (.int (1 : Int32))] []))
          refine own_st ?_ (fun t k => XS.iconst X57.here hx rfl (hb hby at_120) k)
          show own_G p.tables e below _ _ (T57.setTop (mkF m 121 #[.val (.long q0), .second, .val (.int p1), .val (.int (p1 &&& (7 : Int32))), .val (.ref b1), .val (.int (((p1.toUInt32 >>> ((3 : Int32) &&& 31).toUInt32).toInt32) &&& (3 : Int32))), .val (.long (((p1 &&& (7 : Int32)).toInt64) + (q0 - (q0 / (3 : Int64)) * (3 : Int64)))), .second, .val (.ref b50), .val (.int (1 : Int32))] [(.int (1 : Int32))]))
          refine own_st ?_ (fun t k => XS.goto X57.here hx rfl (pc0 := 121) (pc' := 125) rfl (hb hby at_121) (by decide) (by decide) k)
          show own_G p.tables e below _ _ (T57.setTop (mkF m 125 #[.val (.long q0), .second, .val (.int p1), .val (.int (p1 &&& (7 : Int32))), .val (.ref b1), .val (.int (((p1.toUInt32 >>> ((3 : Int32) &&& 31).toUInt32).toInt32) &&& (3 : Int32))), .val (.long (((p1 &&& (7 : Int32)).toInt64) + (q0 - (q0 / (3 : Int64)) * (3 : Int64)))), .second, .val (.ref b50), .val (.int (1 : Int32))] [(.int (1 : Int32))]))
          exact own_retN X57 hx hlk (t := .boolean) hret (by simp) (hb hby at_125) (by decide) (by decide) (z' := (1 : Int32)) rfl ⟨rfl, N57⟩
        · refine own_st ?_ (fun t k => XS.ifYes X53.here hx rfl (pc0 := 100) (pc' := 107) rfl (hb hby at_100) rfl ((if0 _ _).trans (feq hc100).2) (by decide) (by decide) k)
          show own_G p.tables e below _ _ (T53.setTop (mkF m 107 #[.val (.long q0), .second, .val (.int p1), .val (.int (p1 &&& (7 : Int32))), .val (.ref b1), .val (.int (((p1.toUInt32 >>> ((3 : Int32) &&& 31).toUInt32).toInt32) &&& (3 : Int32))), .val (.long (((p1 &&& (7 : Int32)).toInt64) + (q0 - (q0 / (3 : Int64)) * (3 : Int64)))), .second, .val (.ref b50), .unset] []))
          refine own_st ?_ (fun t k => XS.iconst X53.here hx rfl (hb hby at_107) k)
          show own_G p.tables e below _ _ (T53.setTop (mkF m 108 #[.val (.long q0), .second, .val (.int p1), .val (.int (p1 &&& (7 : Int32))), .val (.ref b1), .val (.int (((p1.toUInt32 >>> ((3 : Int32) &&& 31).toUInt32).toInt32) &&& (3 : Int32))), .val (.long (((p1 &&& (7 : Int32)).toInt64) + (q0 - (q0 / (3 : Int64)) * (3 : Int64)))), .second, .val (.ref b50), .unset] [(.int (0 : Int32))]))
          refine own_st ?_ (fun t k => XS.istore X53.here hx rfl (hb hby at_108) rfl (l' := #[.val (.long q0), .second, .val (.int p1), .val (.int (p1 &&& (7 : Int32))), .val (.ref b1), .val (.int (((p1.toUInt32 >>> ((3 : Int32) &&& 31).toUInt32).toInt32) &&& (3 : Int32))), .val (.long (((p1 &&& (7 : Int32)).toInt64) + (q0 - (q0 / (3 : Int64)) * (3 : Int64)))), .second, .val (.ref b50), .val (.int (0 : Int32))]) rfl k)
          show own_G p.tables e below _ _ (T53.setTop (mkF m 110 #[.val (.long q0), .second, .val (.int p1), .val (.int (p1 &&& (7 : Int32))), .val (.ref b1), .val (.int (((p1.toUInt32 >>> ((3 : Int32) &&& 31).toUInt32).toInt32) &&& (3 : Int32))), .val (.long (((p1 &&& (7 : Int32)).toInt64) + (q0 - (q0 / (3 : Int64)) * (3 : Int64)))), .second, .val (.ref b50), .val (.int (0 : Int32))] []))
          refine own_st ?_ (fun t k => XS.aload X53.here hx rfl (hb hby at_110) rfl rfl k)
          show own_G p.tables e below _ _ (T53.setTop (mkF m 112 #[.val (.long q0), .second, .val (.int p1), .val (.int (p1 &&& (7 : Int32))), .val (.ref b1), .val (.int (((p1.toUInt32 >>> ((3 : Int32) &&& 31).toUInt32).toInt32) &&& (3 : Int32))), .val (.long (((p1 &&& (7 : Int32)).toInt64) + (q0 - (q0 / (3 : Int64)) * (3 : Int64)))), .second, .val (.ref b50), .val (.int (0 : Int32))] [(.ref b50)]))
          obtain ⟨cq58, kq58, q58a, q58b, q58c⟩ := isOf hZ rfl F55_E
          obtain ⟨_, _, ⟨T58, L58, k58, n58⟩, -, X58, ⟨Lc58, hQ58, l58, y58, z58⟩, st58⟩ := X53.virtualBack hx (y := (⟨"com/example/fanoline/fanoline/io/LineReader$Line", "held", "()Z"⟩ : MethodName)) (z := (⟨"com/example/fanoline/fanoline/io/LineReader$Line", "held", "()Z"⟩ : MethodName)) hown (mvT hZ (hw _ (List.mem_of_getElem? (i := 19) rfl))) (mvT hZ (hw _ (List.mem_of_getElem? (i := 20) rfl))) (notFace_of_selects (args := #[]) (mvT hZ (hw _ (List.mem_of_getElem? (i := 22) rfl)))) (mvT hZ (hw _ (List.mem_of_getElem? (i := 22) rfl))) (mvT hZ (hw _ (List.mem_of_getElem? (i := 21) rfl))) (by decide) (backOf (W := 0) (rm4 l Z _ hw [] b50 (p1 &&& (7 : Int32)) b1 (((p1 &&& (7 : Int32)).toInt64) + (q0 - (q0 / (3 : Int64)) * (3 : Int64))) T53.heap n0 Zs56 F54_P (own_n p1).1 Fb53 Fl53) hZ (hw _ (List.mem_of_getElem? (i := 23) rfl)) (hw _ (List.mem_of_getElem? (i := 3) rfl)) (by decide) (by decide)) q58a q58c (g := (mkF m 112 #[.val (.long q0), .second, .val (.int p1), .val (.int (p1 &&& (7 : Int32))), .val (.ref b1), .val (.int (((p1.toUInt32 >>> ((3 : Int32) &&& 31).toUInt32).toInt32) &&& (3 : Int32))), .val (.long (((p1 &&& (7 : Int32)).toInt64) + (q0 - (q0 / (3 : Int64)) * (3 : Int64)))), .second, .val (.ref b50), .val (.int (0 : Int32))] [(.ref b50)])) rfl (by rw [hml]; rfl) (Steps.refl _) (argsL := []) (rest := []) (lenOf pd_2 rfl) rfl (by show 2 * 0 + _ ≤ _; exact Nat.le_of_eq rfl) (hb hby at_112) (fun _ _ => ⟨rfl, rfl, (by decide : 2 + 0 ≤ _), (by decide : 9 + 0 ≤ _)⟩)
          dsimp only [Pt.U, Pt.locs, Pt.cells, Pt.slots] at X58 l58 y58 z58 st58 hQ58
          subst l58 y58 z58
          obtain ⟨rfl, N58q, e58⟩ := hQ58
          have N58 := Fr.app N53 N58q
          refine own_st ?_ (fun t k => st58.trans k)
          show own_G p.tables e below _ _ (T58.setTop (mkF m 115 #[.val (.long q0), .second, .val (.int p1), .val (.int (p1 &&& (7 : Int32))), .val (.ref b1), .val (.int (((p1.toUInt32 >>> ((3 : Int32) &&& 31).toUInt32).toInt32) &&& (3 : Int32))), .val (.long (((p1 &&& (7 : Int32)).toInt64) + (q0 - (q0 / (3 : Int64)) * (3 : Int64)))), .second, .val (.ref b50), .val (.int (0 : Int32))] [(.int (f4 b50 (p1 &&& (7 : Int32)) b1 (((p1 &&& (7 : Int32)).toInt64) + (q0 - (q0 / (3 : Int64)) * (3 : Int64)))))]))
          refine own_st ?_ (fun t k => XS.iload X58.here hx rfl (hb hby at_115) rfl k)
          show own_G p.tables e below _ _ (T58.setTop (mkF m 117 #[.val (.long q0), .second, .val (.int p1), .val (.int (p1 &&& (7 : Int32))), .val (.ref b1), .val (.int (((p1.toUInt32 >>> ((3 : Int32) &&& 31).toUInt32).toInt32) &&& (3 : Int32))), .val (.long (((p1 &&& (7 : Int32)).toInt64) + (q0 - (q0 / (3 : Int64)) * (3 : Int64)))), .second, .val (.ref b50), .val (.int (0 : Int32))] [(.int (0 : Int32)), (.int (f4 b50 (p1 &&& (7 : Int32)) b1 (((p1 &&& (7 : Int32)).toInt64) + (q0 - (q0 / (3 : Int64)) * (3 : Int64)))))]))
          refine own_st ?_ (fun t k => XS.icmpNo X58.here hx rfl (hb hby at_117) rfl (teq (own_h0 hc100)).2 k)
          show own_G p.tables e below _ _ (T58.setTop (mkF m 120 #[.val (.long q0), .second, .val (.int p1), .val (.int (p1 &&& (7 : Int32))), .val (.ref b1), .val (.int (((p1.toUInt32 >>> ((3 : Int32) &&& 31).toUInt32).toInt32) &&& (3 : Int32))), .val (.long (((p1 &&& (7 : Int32)).toInt64) + (q0 - (q0 / (3 : Int64)) * (3 : Int64)))), .second, .val (.ref b50), .val (.int (0 : Int32))] []))
          refine own_st ?_ (fun t k => XS.iconst X58.here hx rfl (hb hby at_120) k)
          show own_G p.tables e below _ _ (T58.setTop (mkF m 121 #[.val (.long q0), .second, .val (.int p1), .val (.int (p1 &&& (7 : Int32))), .val (.ref b1), .val (.int (((p1.toUInt32 >>> ((3 : Int32) &&& 31).toUInt32).toInt32) &&& (3 : Int32))), .val (.long (((p1 &&& (7 : Int32)).toInt64) + (q0 - (q0 / (3 : Int64)) * (3 : Int64)))), .second, .val (.ref b50), .val (.int (0 : Int32))] [(.int (1 : Int32))]))
          refine own_st ?_ (fun t k => XS.goto X58.here hx rfl (pc0 := 121) (pc' := 125) rfl (hb hby at_121) (by decide) (by decide) k)
          show own_G p.tables e below _ _ (T58.setTop (mkF m 125 #[.val (.long q0), .second, .val (.int p1), .val (.int (p1 &&& (7 : Int32))), .val (.ref b1), .val (.int (((p1.toUInt32 >>> ((3 : Int32) &&& 31).toUInt32).toInt32) &&& (3 : Int32))), .val (.long (((p1 &&& (7 : Int32)).toInt64) + (q0 - (q0 / (3 : Int64)) * (3 : Int64)))), .second, .val (.ref b50), .val (.int (0 : Int32))] [(.int (1 : Int32))]))
          exact own_retN X58 hx hlk (t := .boolean) hret (by simp) (hb hby at_125) (by decide) (by decide) (z' := (1 : Int32)) rfl ⟨rfl, N58⟩
      · refine own_st ?_ (fun t k => XS.icmpYes X1.here hx rfl (pc0 := 44) (pc' := 60) rfl (hb hby at_44) rfl (feq hc44).2 (by decide) (by decide) k)
        show own_G p.tables e below _ _ (T1.setTop (mkF m 60 #[.val (.long q0), .second, .val (.int p1), .val (.int (p1 &&& (7 : Int32))), .val (.ref b1), .val (.int (((p1.toUInt32 >>> ((3 : Int32) &&& 31).toUInt32).toInt32) &&& (3 : Int32))), .unset, .unset, .unset, .unset] []))
        refine own_st ?_ (fun t k => XS.iload X1.here hx rfl (hb hby at_60) rfl k)
        show own_G p.tables e below _ _ (T1.setTop (mkF m 62 #[.val (.long q0), .second, .val (.int p1), .val (.int (p1 &&& (7 : Int32))), .val (.ref b1), .val (.int (((p1.toUInt32 >>> ((3 : Int32) &&& 31).toUInt32).toInt32) &&& (3 : Int32))), .unset, .unset, .unset, .unset] [(.int (((p1.toUInt32 >>> ((3 : Int32) &&& 31).toUInt32).toInt32) &&& (3 : Int32)))]))
        refine own_st ?_ (fun t k => XS.iconst X1.here hx rfl (hb hby at_62) k)
        show own_G p.tables e below _ _ (T1.setTop (mkF m 63 #[.val (.long q0), .second, .val (.int p1), .val (.int (p1 &&& (7 : Int32))), .val (.ref b1), .val (.int (((p1.toUInt32 >>> ((3 : Int32) &&& 31).toUInt32).toInt32) &&& (3 : Int32))), .unset, .unset, .unset, .unset] [(.int (2 : Int32)), (.int (((p1.toUInt32 >>> ((3 : Int32) &&& 31).toUInt32).toInt32) &&& (3 : Int32)))]))
        by_cases hc63 : (((p1.toUInt32 >>> ((3 : Int32) &&& 31).toUInt32).toInt32) &&& (3 : Int32)) = (2 : Int32)
        · refine own_st ?_ (fun t k => XS.icmpNo X1.here hx rfl (hb hby at_63) rfl (teq hc63).2 k)
          show own_G p.tables e below _ _ (T1.setTop (mkF m 66 #[.val (.long q0), .second, .val (.int p1), .val (.int (p1 &&& (7 : Int32))), .val (.ref b1), .val (.int (((p1.toUInt32 >>> ((3 : Int32) &&& 31).toUInt32).toInt32) &&& (3 : Int32))), .unset, .unset, .unset, .unset] []))
          refine own_st ?_ (fun t k => XS.iloadN X1.here hx rfl (hb hby at_66) rfl k)
          show own_G p.tables e below _ _ (T1.setTop (mkF m 67 #[.val (.long q0), .second, .val (.int p1), .val (.int (p1 &&& (7 : Int32))), .val (.ref b1), .val (.int (((p1.toUInt32 >>> ((3 : Int32) &&& 31).toUInt32).toInt32) &&& (3 : Int32))), .unset, .unset, .unset, .unset] [(.int (p1 &&& (7 : Int32)))]))
          refine own_st ?_ (fun t k => XS.i2l X1.here hx rfl (hb hby at_67) rfl k)
          show own_G p.tables e below _ _ (T1.setTop (mkF m 68 #[.val (.long q0), .second, .val (.int p1), .val (.int (p1 &&& (7 : Int32))), .val (.ref b1), .val (.int (((p1.toUInt32 >>> ((3 : Int32) &&& 31).toUInt32).toInt32) &&& (3 : Int32))), .unset, .unset, .unset, .unset] [(.long ((p1 &&& (7 : Int32)).toInt64))]))
          refine own_st ?_ (fun t k => XS.lloadN X1.here hx rfl (hb hby at_68) rfl k)
          show own_G p.tables e below _ _ (T1.setTop (mkF m 69 #[.val (.long q0), .second, .val (.int p1), .val (.int (p1 &&& (7 : Int32))), .val (.ref b1), .val (.int (((p1.toUInt32 >>> ((3 : Int32) &&& 31).toUInt32).toInt32) &&& (3 : Int32))), .unset, .unset, .unset, .unset] [(.long q0), (.long ((p1 &&& (7 : Int32)).toInt64))]))
          refine own_st ?_ (fun t k => XS.bipush X1.here hx rfl (hb hby at_69) k)
          show own_G p.tables e below _ _ (T1.setTop (mkF m 71 #[.val (.long q0), .second, .val (.int p1), .val (.int (p1 &&& (7 : Int32))), .val (.ref b1), .val (.int (((p1.toUInt32 >>> ((3 : Int32) &&& 31).toUInt32).toInt32) &&& (3 : Int32))), .unset, .unset, .unset, .unset] [(.int (32 : Int32)), (.long q0), (.long ((p1 &&& (7 : Int32)).toInt64))]))
          refine own_st ?_ (fun t k => XS.lshl X1.here hx rfl (hb hby at_71) rfl k)
          show own_G p.tables e below _ _ (T1.setTop (mkF m 72 #[.val (.long q0), .second, .val (.int p1), .val (.int (p1 &&& (7 : Int32))), .val (.ref b1), .val (.int (((p1.toUInt32 >>> ((3 : Int32) &&& 31).toUInt32).toInt32) &&& (3 : Int32))), .unset, .unset, .unset, .unset] [(.long (q0 <<< ((32 : Int32) &&& 0x3f).toInt64)), (.long ((p1 &&& (7 : Int32)).toInt64))]))
          refine own_st ?_ (fun t k => XS.ladd X1.here hx rfl (hb hby at_72) rfl k)
          show own_G p.tables e below _ _ (T1.setTop (mkF m 73 #[.val (.long q0), .second, .val (.int p1), .val (.int (p1 &&& (7 : Int32))), .val (.ref b1), .val (.int (((p1.toUInt32 >>> ((3 : Int32) &&& 31).toUInt32).toInt32) &&& (3 : Int32))), .unset, .unset, .unset, .unset] [(.long (((p1 &&& (7 : Int32)).toInt64) + (q0 <<< ((32 : Int32) &&& 0x3f).toInt64)))]))
          refine own_st ?_ (fun t k => XS.lstore X1.here hx rfl (hb hby at_73) rfl (l' := #[.val (.long q0), .second, .val (.int p1), .val (.int (p1 &&& (7 : Int32))), .val (.ref b1), .val (.int (((p1.toUInt32 >>> ((3 : Int32) &&& 31).toUInt32).toInt32) &&& (3 : Int32))), .val (.long (((p1 &&& (7 : Int32)).toInt64) + (q0 <<< ((32 : Int32) &&& 0x3f).toInt64))), .second, .unset, .unset]) rfl k)
          show own_G p.tables e below _ _ (T1.setTop (mkF m 75 #[.val (.long q0), .second, .val (.int p1), .val (.int (p1 &&& (7 : Int32))), .val (.ref b1), .val (.int (((p1.toUInt32 >>> ((3 : Int32) &&& 31).toUInt32).toInt32) &&& (3 : Int32))), .val (.long (((p1 &&& (7 : Int32)).toInt64) + (q0 <<< ((32 : Int32) &&& 0x3f).toInt64))), .second, .unset, .unset] []))
          refine own_st ?_ (fun t k => XS.goto X1.here hx rfl (pc0 := 75) (pc' := 82) rfl (hb hby at_75) (by decide) (by decide) k)
          show own_G p.tables e below _ _ (T1.setTop (mkF m 82 #[.val (.long q0), .second, .val (.int p1), .val (.int (p1 &&& (7 : Int32))), .val (.ref b1), .val (.int (((p1.toUInt32 >>> ((3 : Int32) &&& 31).toUInt32).toInt32) &&& (3 : Int32))), .val (.long (((p1 &&& (7 : Int32)).toInt64) + (q0 <<< ((32 : Int32) &&& 0x3f).toInt64))), .second, .unset, .unset] []))
          obtain ⟨T59, h59, X59, e59, E59, A59, D59, -, st59⟩ := newO X1 hx hZ hown (hw _ (List.mem_of_getElem? (i := 1) rfl)) (hw _ (List.mem_of_getElem? (i := 2) rfl)) (hw _ (List.mem_of_getElem? (i := 3) rfl)) e1 (g := (mkF m 82 #[.val (.long q0), .second, .val (.int p1), .val (.int (p1 &&& (7 : Int32))), .val (.ref b1), .val (.int (((p1.toUInt32 >>> ((3 : Int32) &&& 31).toUInt32).toInt32) &&& (3 : Int32))), .val (.long (((p1 &&& (7 : Int32)).toInt64) + (q0 <<< ((32 : Int32) &&& 0x3f).toInt64))), .second, .unset, .unset] [])) rfl (hb hby at_82) (by decide) (by decide)
          obtain ⟨b59, gz59⟩ : ∃ z, z = h1.size := ⟨_, rfl⟩
          rw [← gz59] at A59 D59 st59
          have ne_b1_b59 : b1 ≠ b59 := Nat.ne_of_lt (Nat.lt_of_lt_of_le (own_B_lt F_b1) (Nat.le_of_eq gz59.symm))
          have g_b59 : n0 ≤ b59 := Nat.le_trans Zs2 (Nat.le_of_eq gz59.symm)
          have F60_P : own_B Z h59 b1 (p1 &&& (7 : Int32)) := own_B_ext F_b1 E59
          have Zs61 : n0 ≤ h59.size := Nat.le_trans Zs2 E59.1
          have F_length_b59 : Fld Z h59 b59 "com/example/fanoline/fanoline/io/LineReader$Line" "length" "J" (.long (0 : Int64)) := D59 (Or.inr (hw _ (List.mem_of_getElem? (i := 16) rfl))) (ty := .long) (by decide)
          have F_bytes_b59 : Fld Z h59 b59 "com/example/fanoline/fanoline/io/LineReader$Line" "bytes" "[B" .null := D59 (Or.inr (hw _ (List.mem_of_getElem? (i := 18) rfl))) (ty := (.array .byte)) (by decide)
          refine own_st ?_ st59
          show own_G p.tables e below _ _ (T59.setTop (mkF m 85 #[.val (.long q0), .second, .val (.int p1), .val (.int (p1 &&& (7 : Int32))), .val (.ref b1), .val (.int (((p1.toUInt32 >>> ((3 : Int32) &&& 31).toUInt32).toInt32) &&& (3 : Int32))), .val (.long (((p1 &&& (7 : Int32)).toInt64) + (q0 <<< ((32 : Int32) &&& 0x3f).toInt64))), .second, .unset, .unset] [(.ref b59)]))
          refine own_st ?_ (fun t k => XS.dup X59.here hx rfl (hb hby at_85) rfl rfl k)
          show own_G p.tables e below _ _ (T59.setTop (mkF m 86 #[.val (.long q0), .second, .val (.int p1), .val (.int (p1 &&& (7 : Int32))), .val (.ref b1), .val (.int (((p1.toUInt32 >>> ((3 : Int32) &&& 31).toUInt32).toInt32) &&& (3 : Int32))), .val (.long (((p1 &&& (7 : Int32)).toInt64) + (q0 <<< ((32 : Int32) &&& 0x3f).toInt64))), .second, .unset, .unset] [(.ref b59), (.ref b59)]))
          refine own_st ?_ (fun t k => XS.lload X59.here hx rfl (hb hby at_86) rfl k)
          show own_G p.tables e below _ _ (T59.setTop (mkF m 88 #[.val (.long q0), .second, .val (.int p1), .val (.int (p1 &&& (7 : Int32))), .val (.ref b1), .val (.int (((p1.toUInt32 >>> ((3 : Int32) &&& 31).toUInt32).toInt32) &&& (3 : Int32))), .val (.long (((p1 &&& (7 : Int32)).toInt64) + (q0 <<< ((32 : Int32) &&& 0x3f).toInt64))), .second, .unset, .unset] [(.long (((p1 &&& (7 : Int32)).toInt64) + (q0 <<< ((32 : Int32) &&& 0x3f).toInt64))), (.ref b59), (.ref b59)]))
          refine own_st ?_ (fun t k => XS.aload X59.here hx rfl (hb hby at_88) rfl rfl k)
          show own_G p.tables e below _ _ (T59.setTop (mkF m 90 #[.val (.long q0), .second, .val (.int p1), .val (.int (p1 &&& (7 : Int32))), .val (.ref b1), .val (.int (((p1.toUInt32 >>> ((3 : Int32) &&& 31).toUInt32).toInt32) &&& (3 : Int32))), .val (.long (((p1 &&& (7 : Int32)).toInt64) + (q0 <<< ((32 : Int32) &&& 0x3f).toInt64))), .second, .unset, .unset] [(.ref b1), (.long (((p1 &&& (7 : Int32)).toInt64) + (q0 <<< ((32 : Int32) &&& 0x3f).toInt64))), (.ref b59), (.ref b59)]))
          obtain ⟨_, _, ⟨T62, L62, k62, n62⟩, -, X62, ⟨Lc62, hQ62, l62, y62, z62⟩, st62⟩ := X59.specialBack hx (y := (⟨"com/example/fanoline/fanoline/io/LineReader$Line", "<init>", "(J[B)V"⟩ : MethodName)) rfl hown (mvT hZ (hw _ (List.mem_of_getElem? (i := 4) rfl))) (mvT hZ (hw _ (List.mem_of_getElem? (i := 5) rfl))) (mvT hZ (hw _ (List.mem_of_getElem? (i := 6) rfl))) (by decide) (backOf (W := 1) (rm1 l Z _ hw [] b59 (((p1 &&& (7 : Int32)).toInt64) + (q0 <<< ((32 : Int32) &&& 0x3f).toInt64)) b1 (.long (0 : Int64)) .null h59 n0 Zs61 g_b59 A59 F_length_b59 F_bytes_b59) hZ (hw _ (List.mem_of_getElem? (i := 6) rfl)) (hw _ (List.mem_of_getElem? (i := 3) rfl)) (by decide) (by decide)) (g := (mkF m 90 #[.val (.long q0), .second, .val (.int p1), .val (.int (p1 &&& (7 : Int32))), .val (.ref b1), .val (.int (((p1.toUInt32 >>> ((3 : Int32) &&& 31).toUInt32).toInt32) &&& (3 : Int32))), .val (.long (((p1 &&& (7 : Int32)).toInt64) + (q0 <<< ((32 : Int32) &&& 0x3f).toInt64))), .second, .unset, .unset] [(.ref b1), (.long (((p1 &&& (7 : Int32)).toInt64) + (q0 <<< ((32 : Int32) &&& 0x3f).toInt64))), (.ref b59), (.ref b59)])) rfl (by rw [hml]; rfl) (Steps.refl _) (a := b59) (argsL := [(.long (((p1 &&& (7 : Int32)).toInt64) + (q0 <<< ((32 : Int32) &&& 0x3f).toInt64))), (.ref b1)]) (rest := [(.ref b59)]) (lenOf pd_1 rfl) rfl (by show 2 * 0 + _ ≤ _; exact Nat.le_of_eq rfl) (hb hby at_90) (fun _ _ => ⟨rfl, e59, (by decide : 2 + 0 ≤ _), (by decide : 9 + 0 ≤ _)⟩)
          dsimp only [Pt.U, Pt.locs, Pt.cells, Pt.slots] at X62 l62 y62 z62 st62 hQ62
          subst l62 y62 z62
          obtain ⟨rfl, N62q, hq62⟩ := hQ62
          have N62 := Fr.app N0 N62q
          obtain ⟨K62, Fl62, Fb62⟩ := hq62
          have F63_P : own_B Z T62.heap b1 (p1 &&& (7 : Int32)) := own_B_keep F60_P K62 (ninS ne_b1_b59 nin0)
          have F64_E : Exa Z T62.heap b59 "com/example/fanoline/fanoline/io/LineReader$Line" := A59.keep K62
          have Zs65 : n0 ≤ T62.heap.size := Nat.le_trans Zs61 K62.1
          refine own_st ?_ (fun t k => st62.trans k)
          show own_G p.tables e below _ _ (T62.setTop (mkF m 93 #[.val (.long q0), .second, .val (.int p1), .val (.int (p1 &&& (7 : Int32))), .val (.ref b1), .val (.int (((p1.toUInt32 >>> ((3 : Int32) &&& 31).toUInt32).toInt32) &&& (3 : Int32))), .val (.long (((p1 &&& (7 : Int32)).toInt64) + (q0 <<< ((32 : Int32) &&& 0x3f).toInt64))), .second, .unset, .unset] [(.ref b59)]))
          refine own_st ?_ (fun t k => XS.astore X62.here hx rfl (hb hby at_93) rfl rfl (l' := #[.val (.long q0), .second, .val (.int p1), .val (.int (p1 &&& (7 : Int32))), .val (.ref b1), .val (.int (((p1.toUInt32 >>> ((3 : Int32) &&& 31).toUInt32).toInt32) &&& (3 : Int32))), .val (.long (((p1 &&& (7 : Int32)).toInt64) + (q0 <<< ((32 : Int32) &&& 0x3f).toInt64))), .second, .val (.ref b59), .unset]) rfl k)
          show own_G p.tables e below _ _ (T62.setTop (mkF m 95 #[.val (.long q0), .second, .val (.int p1), .val (.int (p1 &&& (7 : Int32))), .val (.ref b1), .val (.int (((p1.toUInt32 >>> ((3 : Int32) &&& 31).toUInt32).toInt32) &&& (3 : Int32))), .val (.long (((p1 &&& (7 : Int32)).toInt64) + (q0 <<< ((32 : Int32) &&& 0x3f).toInt64))), .second, .val (.ref b59), .unset] []))
          refine own_st ?_ (fun t k => XS.lload X62.here hx rfl (hb hby at_95) rfl k)
          show own_G p.tables e below _ _ (T62.setTop (mkF m 97 #[.val (.long q0), .second, .val (.int p1), .val (.int (p1 &&& (7 : Int32))), .val (.ref b1), .val (.int (((p1.toUInt32 >>> ((3 : Int32) &&& 31).toUInt32).toInt32) &&& (3 : Int32))), .val (.long (((p1 &&& (7 : Int32)).toInt64) + (q0 <<< ((32 : Int32) &&& 0x3f).toInt64))), .second, .val (.ref b59), .unset] [(.long (((p1 &&& (7 : Int32)).toInt64) + (q0 <<< ((32 : Int32) &&& 0x3f).toInt64)))]))
          refine own_st ?_ (fun t k => XS.iloadN X62.here hx rfl (hb hby at_97) rfl k)
          show own_G p.tables e below _ _ (T62.setTop (mkF m 98 #[.val (.long q0), .second, .val (.int p1), .val (.int (p1 &&& (7 : Int32))), .val (.ref b1), .val (.int (((p1.toUInt32 >>> ((3 : Int32) &&& 31).toUInt32).toInt32) &&& (3 : Int32))), .val (.long (((p1 &&& (7 : Int32)).toInt64) + (q0 <<< ((32 : Int32) &&& 0x3f).toInt64))), .second, .val (.ref b59), .unset] [(.int (p1 &&& (7 : Int32))), (.long (((p1 &&& (7 : Int32)).toInt64) + (q0 <<< ((32 : Int32) &&& 0x3f).toInt64)))]))
          refine own_st ?_ (fun t k => XS.i2l X62.here hx rfl (hb hby at_98) rfl k)
          show own_G p.tables e below _ _ (T62.setTop (mkF m 99 #[.val (.long q0), .second, .val (.int p1), .val (.int (p1 &&& (7 : Int32))), .val (.ref b1), .val (.int (((p1.toUInt32 >>> ((3 : Int32) &&& 31).toUInt32).toInt32) &&& (3 : Int32))), .val (.long (((p1 &&& (7 : Int32)).toInt64) + (q0 <<< ((32 : Int32) &&& 0x3f).toInt64))), .second, .val (.ref b59), .unset] [(.long ((p1 &&& (7 : Int32)).toInt64)), (.long (((p1 &&& (7 : Int32)).toInt64) + (q0 <<< ((32 : Int32) &&& 0x3f).toInt64)))]))
          refine own_st ?_ (fun t k => XS.lcmp X62.here hx rfl (hb hby at_99) rfl k)
          show own_G p.tables e below _ _ (T62.setTop (mkF m 100 #[.val (.long q0), .second, .val (.int p1), .val (.int (p1 &&& (7 : Int32))), .val (.ref b1), .val (.int (((p1.toUInt32 >>> ((3 : Int32) &&& 31).toUInt32).toInt32) &&& (3 : Int32))), .val (.long (((p1 &&& (7 : Int32)).toInt64) + (q0 <<< ((32 : Int32) &&& 0x3f).toInt64))), .second, .val (.ref b59), .unset] [(.int (lcmpW (((p1 &&& (7 : Int32)).toInt64) + (q0 <<< ((32 : Int32) &&& 0x3f).toInt64)) ((p1 &&& (7 : Int32)).toInt64)))]))
          by_cases hc100 : (lcmpW (((p1 &&& (7 : Int32)).toInt64) + (q0 <<< ((32 : Int32) &&& 0x3f).toInt64)) ((p1 &&& (7 : Int32)).toInt64)) = (0 : Int32)
          · refine own_st ?_ (fun t k => XS.ifNo X62.here hx rfl (hb hby at_100) rfl ((if0 _ _).trans (teq hc100).2) k)
            show own_G p.tables e below _ _ (T62.setTop (mkF m 103 #[.val (.long q0), .second, .val (.int p1), .val (.int (p1 &&& (7 : Int32))), .val (.ref b1), .val (.int (((p1.toUInt32 >>> ((3 : Int32) &&& 31).toUInt32).toInt32) &&& (3 : Int32))), .val (.long (((p1 &&& (7 : Int32)).toInt64) + (q0 <<< ((32 : Int32) &&& 0x3f).toInt64))), .second, .val (.ref b59), .unset] []))
            refine own_st ?_ (fun t k => XS.iconst X62.here hx rfl (hb hby at_103) k)
            show own_G p.tables e below _ _ (T62.setTop (mkF m 104 #[.val (.long q0), .second, .val (.int p1), .val (.int (p1 &&& (7 : Int32))), .val (.ref b1), .val (.int (((p1.toUInt32 >>> ((3 : Int32) &&& 31).toUInt32).toInt32) &&& (3 : Int32))), .val (.long (((p1 &&& (7 : Int32)).toInt64) + (q0 <<< ((32 : Int32) &&& 0x3f).toInt64))), .second, .val (.ref b59), .unset] [(.int (1 : Int32))]))
            refine own_st ?_ (fun t k => XS.goto X62.here hx rfl (pc0 := 104) (pc' := 108) rfl (hb hby at_104) (by decide) (by decide) k)
            show own_G p.tables e below _ _ (T62.setTop (mkF m 108 #[.val (.long q0), .second, .val (.int p1), .val (.int (p1 &&& (7 : Int32))), .val (.ref b1), .val (.int (((p1.toUInt32 >>> ((3 : Int32) &&& 31).toUInt32).toInt32) &&& (3 : Int32))), .val (.long (((p1 &&& (7 : Int32)).toInt64) + (q0 <<< ((32 : Int32) &&& 0x3f).toInt64))), .second, .val (.ref b59), .unset] [(.int (1 : Int32))]))
            refine own_st ?_ (fun t k => XS.istore X62.here hx rfl (hb hby at_108) rfl (l' := #[.val (.long q0), .second, .val (.int p1), .val (.int (p1 &&& (7 : Int32))), .val (.ref b1), .val (.int (((p1.toUInt32 >>> ((3 : Int32) &&& 31).toUInt32).toInt32) &&& (3 : Int32))), .val (.long (((p1 &&& (7 : Int32)).toInt64) + (q0 <<< ((32 : Int32) &&& 0x3f).toInt64))), .second, .val (.ref b59), .val (.int (1 : Int32))]) rfl k)
            show own_G p.tables e below _ _ (T62.setTop (mkF m 110 #[.val (.long q0), .second, .val (.int p1), .val (.int (p1 &&& (7 : Int32))), .val (.ref b1), .val (.int (((p1.toUInt32 >>> ((3 : Int32) &&& 31).toUInt32).toInt32) &&& (3 : Int32))), .val (.long (((p1 &&& (7 : Int32)).toInt64) + (q0 <<< ((32 : Int32) &&& 0x3f).toInt64))), .second, .val (.ref b59), .val (.int (1 : Int32))] []))
            refine own_st ?_ (fun t k => XS.aload X62.here hx rfl (hb hby at_110) rfl rfl k)
            show own_G p.tables e below _ _ (T62.setTop (mkF m 112 #[.val (.long q0), .second, .val (.int p1), .val (.int (p1 &&& (7 : Int32))), .val (.ref b1), .val (.int (((p1.toUInt32 >>> ((3 : Int32) &&& 31).toUInt32).toInt32) &&& (3 : Int32))), .val (.long (((p1 &&& (7 : Int32)).toInt64) + (q0 <<< ((32 : Int32) &&& 0x3f).toInt64))), .second, .val (.ref b59), .val (.int (1 : Int32))] [(.ref b59)]))
            obtain ⟨cq66, kq66, q66a, q66b, q66c⟩ := isOf hZ rfl F64_E
            obtain ⟨_, _, ⟨T66, L66, k66, n66⟩, -, X66, ⟨Lc66, hQ66, l66, y66, z66⟩, st66⟩ := X62.virtualBack hx (y := (⟨"com/example/fanoline/fanoline/io/LineReader$Line", "held", "()Z"⟩ : MethodName)) (z := (⟨"com/example/fanoline/fanoline/io/LineReader$Line", "held", "()Z"⟩ : MethodName)) hown (mvT hZ (hw _ (List.mem_of_getElem? (i := 19) rfl))) (mvT hZ (hw _ (List.mem_of_getElem? (i := 20) rfl))) (notFace_of_selects (args := #[]) (mvT hZ (hw _ (List.mem_of_getElem? (i := 22) rfl)))) (mvT hZ (hw _ (List.mem_of_getElem? (i := 22) rfl))) (mvT hZ (hw _ (List.mem_of_getElem? (i := 21) rfl))) (by decide) (backOf (W := 0) (rm4 l Z _ hw [] b59 (p1 &&& (7 : Int32)) b1 (((p1 &&& (7 : Int32)).toInt64) + (q0 <<< ((32 : Int32) &&& 0x3f).toInt64)) T62.heap n0 Zs65 F63_P (own_n p1).1 Fb62 Fl62) hZ (hw _ (List.mem_of_getElem? (i := 23) rfl)) (hw _ (List.mem_of_getElem? (i := 3) rfl)) (by decide) (by decide)) q66a q66c (g := (mkF m 112 #[.val (.long q0), .second, .val (.int p1), .val (.int (p1 &&& (7 : Int32))), .val (.ref b1), .val (.int (((p1.toUInt32 >>> ((3 : Int32) &&& 31).toUInt32).toInt32) &&& (3 : Int32))), .val (.long (((p1 &&& (7 : Int32)).toInt64) + (q0 <<< ((32 : Int32) &&& 0x3f).toInt64))), .second, .val (.ref b59), .val (.int (1 : Int32))] [(.ref b59)])) rfl (by rw [hml]; rfl) (Steps.refl _) (argsL := []) (rest := []) (lenOf pd_2 rfl) rfl (by show 2 * 0 + _ ≤ _; exact Nat.le_of_eq rfl) (hb hby at_112) (fun _ _ => ⟨rfl, rfl, (by decide : 2 + 0 ≤ _), (by decide : 9 + 0 ≤ _)⟩)
            dsimp only [Pt.U, Pt.locs, Pt.cells, Pt.slots] at X66 l66 y66 z66 st66 hQ66
            subst l66 y66 z66
            obtain ⟨rfl, N66q, e66⟩ := hQ66
            have N66 := Fr.app N62 N66q
            refine own_st ?_ (fun t k => st66.trans k)
            show own_G p.tables e below _ _ (T66.setTop (mkF m 115 #[.val (.long q0), .second, .val (.int p1), .val (.int (p1 &&& (7 : Int32))), .val (.ref b1), .val (.int (((p1.toUInt32 >>> ((3 : Int32) &&& 31).toUInt32).toInt32) &&& (3 : Int32))), .val (.long (((p1 &&& (7 : Int32)).toInt64) + (q0 <<< ((32 : Int32) &&& 0x3f).toInt64))), .second, .val (.ref b59), .val (.int (1 : Int32))] [(.int (f4 b59 (p1 &&& (7 : Int32)) b1 (((p1 &&& (7 : Int32)).toInt64) + (q0 <<< ((32 : Int32) &&& 0x3f).toInt64))))]))
            refine own_st ?_ (fun t k => XS.iload X66.here hx rfl (hb hby at_115) rfl k)
            show own_G p.tables e below _ _ (T66.setTop (mkF m 117 #[.val (.long q0), .second, .val (.int p1), .val (.int (p1 &&& (7 : Int32))), .val (.ref b1), .val (.int (((p1.toUInt32 >>> ((3 : Int32) &&& 31).toUInt32).toInt32) &&& (3 : Int32))), .val (.long (((p1 &&& (7 : Int32)).toInt64) + (q0 <<< ((32 : Int32) &&& 0x3f).toInt64))), .second, .val (.ref b59), .val (.int (1 : Int32))] [(.int (1 : Int32)), (.int (f4 b59 (p1 &&& (7 : Int32)) b1 (((p1 &&& (7 : Int32)).toInt64) + (q0 <<< ((32 : Int32) &&& 0x3f).toInt64))))]))
            refine own_st ?_ (fun t k => XS.icmpNo X66.here hx rfl (hb hby at_117) rfl (teq (own_h1 hc100)).2 k)
            show own_G p.tables e below _ _ (T66.setTop (mkF m 120 #[.val (.long q0), .second, .val (.int p1), .val (.int (p1 &&& (7 : Int32))), .val (.ref b1), .val (.int (((p1.toUInt32 >>> ((3 : Int32) &&& 31).toUInt32).toInt32) &&& (3 : Int32))), .val (.long (((p1 &&& (7 : Int32)).toInt64) + (q0 <<< ((32 : Int32) &&& 0x3f).toInt64))), .second, .val (.ref b59), .val (.int (1 : Int32))] []))
            refine own_st ?_ (fun t k => XS.iconst X66.here hx rfl (hb hby at_120) k)
            show own_G p.tables e below _ _ (T66.setTop (mkF m 121 #[.val (.long q0), .second, .val (.int p1), .val (.int (p1 &&& (7 : Int32))), .val (.ref b1), .val (.int (((p1.toUInt32 >>> ((3 : Int32) &&& 31).toUInt32).toInt32) &&& (3 : Int32))), .val (.long (((p1 &&& (7 : Int32)).toInt64) + (q0 <<< ((32 : Int32) &&& 0x3f).toInt64))), .second, .val (.ref b59), .val (.int (1 : Int32))] [(.int (1 : Int32))]))
            refine own_st ?_ (fun t k => XS.goto X66.here hx rfl (pc0 := 121) (pc' := 125) rfl (hb hby at_121) (by decide) (by decide) k)
            show own_G p.tables e below _ _ (T66.setTop (mkF m 125 #[.val (.long q0), .second, .val (.int p1), .val (.int (p1 &&& (7 : Int32))), .val (.ref b1), .val (.int (((p1.toUInt32 >>> ((3 : Int32) &&& 31).toUInt32).toInt32) &&& (3 : Int32))), .val (.long (((p1 &&& (7 : Int32)).toInt64) + (q0 <<< ((32 : Int32) &&& 0x3f).toInt64))), .second, .val (.ref b59), .val (.int (1 : Int32))] [(.int (1 : Int32))]))
            exact own_retN X66 hx hlk (t := .boolean) hret (by simp) (hb hby at_125) (by decide) (by decide) (z' := (1 : Int32)) rfl ⟨rfl, N66⟩
          · refine own_st ?_ (fun t k => XS.ifYes X62.here hx rfl (pc0 := 100) (pc' := 107) rfl (hb hby at_100) rfl ((if0 _ _).trans (feq hc100).2) (by decide) (by decide) k)
            show own_G p.tables e below _ _ (T62.setTop (mkF m 107 #[.val (.long q0), .second, .val (.int p1), .val (.int (p1 &&& (7 : Int32))), .val (.ref b1), .val (.int (((p1.toUInt32 >>> ((3 : Int32) &&& 31).toUInt32).toInt32) &&& (3 : Int32))), .val (.long (((p1 &&& (7 : Int32)).toInt64) + (q0 <<< ((32 : Int32) &&& 0x3f).toInt64))), .second, .val (.ref b59), .unset] []))
            refine own_st ?_ (fun t k => XS.iconst X62.here hx rfl (hb hby at_107) k)
            show own_G p.tables e below _ _ (T62.setTop (mkF m 108 #[.val (.long q0), .second, .val (.int p1), .val (.int (p1 &&& (7 : Int32))), .val (.ref b1), .val (.int (((p1.toUInt32 >>> ((3 : Int32) &&& 31).toUInt32).toInt32) &&& (3 : Int32))), .val (.long (((p1 &&& (7 : Int32)).toInt64) + (q0 <<< ((32 : Int32) &&& 0x3f).toInt64))), .second, .val (.ref b59), .unset] [(.int (0 : Int32))]))
            refine own_st ?_ (fun t k => XS.istore X62.here hx rfl (hb hby at_108) rfl (l' := #[.val (.long q0), .second, .val (.int p1), .val (.int (p1 &&& (7 : Int32))), .val (.ref b1), .val (.int (((p1.toUInt32 >>> ((3 : Int32) &&& 31).toUInt32).toInt32) &&& (3 : Int32))), .val (.long (((p1 &&& (7 : Int32)).toInt64) + (q0 <<< ((32 : Int32) &&& 0x3f).toInt64))), .second, .val (.ref b59), .val (.int (0 : Int32))]) rfl k)
            show own_G p.tables e below _ _ (T62.setTop (mkF m 110 #[.val (.long q0), .second, .val (.int p1), .val (.int (p1 &&& (7 : Int32))), .val (.ref b1), .val (.int (((p1.toUInt32 >>> ((3 : Int32) &&& 31).toUInt32).toInt32) &&& (3 : Int32))), .val (.long (((p1 &&& (7 : Int32)).toInt64) + (q0 <<< ((32 : Int32) &&& 0x3f).toInt64))), .second, .val (.ref b59), .val (.int (0 : Int32))] []))
            refine own_st ?_ (fun t k => XS.aload X62.here hx rfl (hb hby at_110) rfl rfl k)
            show own_G p.tables e below _ _ (T62.setTop (mkF m 112 #[.val (.long q0), .second, .val (.int p1), .val (.int (p1 &&& (7 : Int32))), .val (.ref b1), .val (.int (((p1.toUInt32 >>> ((3 : Int32) &&& 31).toUInt32).toInt32) &&& (3 : Int32))), .val (.long (((p1 &&& (7 : Int32)).toInt64) + (q0 <<< ((32 : Int32) &&& 0x3f).toInt64))), .second, .val (.ref b59), .val (.int (0 : Int32))] [(.ref b59)]))
            obtain ⟨cq67, kq67, q67a, q67b, q67c⟩ := isOf hZ rfl F64_E
            obtain ⟨_, _, ⟨T67, L67, k67, n67⟩, -, X67, ⟨Lc67, hQ67, l67, y67, z67⟩, st67⟩ := X62.virtualBack hx (y := (⟨"com/example/fanoline/fanoline/io/LineReader$Line", "held", "()Z"⟩ : MethodName)) (z := (⟨"com/example/fanoline/fanoline/io/LineReader$Line", "held", "()Z"⟩ : MethodName)) hown (mvT hZ (hw _ (List.mem_of_getElem? (i := 19) rfl))) (mvT hZ (hw _ (List.mem_of_getElem? (i := 20) rfl))) (notFace_of_selects (args := #[]) (mvT hZ (hw _ (List.mem_of_getElem? (i := 22) rfl)))) (mvT hZ (hw _ (List.mem_of_getElem? (i := 22) rfl))) (mvT hZ (hw _ (List.mem_of_getElem? (i := 21) rfl))) (by decide) (backOf (W := 0) (rm4 l Z _ hw [] b59 (p1 &&& (7 : Int32)) b1 (((p1 &&& (7 : Int32)).toInt64) + (q0 <<< ((32 : Int32) &&& 0x3f).toInt64)) T62.heap n0 Zs65 F63_P (own_n p1).1 Fb62 Fl62) hZ (hw _ (List.mem_of_getElem? (i := 23) rfl)) (hw _ (List.mem_of_getElem? (i := 3) rfl)) (by decide) (by decide)) q67a q67c (g := (mkF m 112 #[.val (.long q0), .second, .val (.int p1), .val (.int (p1 &&& (7 : Int32))), .val (.ref b1), .val (.int (((p1.toUInt32 >>> ((3 : Int32) &&& 31).toUInt32).toInt32) &&& (3 : Int32))), .val (.long (((p1 &&& (7 : Int32)).toInt64) + (q0 <<< ((32 : Int32) &&& 0x3f).toInt64))), .second, .val (.ref b59), .val (.int (0 : Int32))] [(.ref b59)])) rfl (by rw [hml]; rfl) (Steps.refl _) (argsL := []) (rest := []) (lenOf pd_2 rfl) rfl (by show 2 * 0 + _ ≤ _; exact Nat.le_of_eq rfl) (hb hby at_112) (fun _ _ => ⟨rfl, rfl, (by decide : 2 + 0 ≤ _), (by decide : 9 + 0 ≤ _)⟩)
            dsimp only [Pt.U, Pt.locs, Pt.cells, Pt.slots] at X67 l67 y67 z67 st67 hQ67
            subst l67 y67 z67
            obtain ⟨rfl, N67q, e67⟩ := hQ67
            have N67 := Fr.app N62 N67q
            refine own_st ?_ (fun t k => st67.trans k)
            show own_G p.tables e below _ _ (T67.setTop (mkF m 115 #[.val (.long q0), .second, .val (.int p1), .val (.int (p1 &&& (7 : Int32))), .val (.ref b1), .val (.int (((p1.toUInt32 >>> ((3 : Int32) &&& 31).toUInt32).toInt32) &&& (3 : Int32))), .val (.long (((p1 &&& (7 : Int32)).toInt64) + (q0 <<< ((32 : Int32) &&& 0x3f).toInt64))), .second, .val (.ref b59), .val (.int (0 : Int32))] [(.int (f4 b59 (p1 &&& (7 : Int32)) b1 (((p1 &&& (7 : Int32)).toInt64) + (q0 <<< ((32 : Int32) &&& 0x3f).toInt64))))]))
            refine own_st ?_ (fun t k => XS.iload X67.here hx rfl (hb hby at_115) rfl k)
            show own_G p.tables e below _ _ (T67.setTop (mkF m 117 #[.val (.long q0), .second, .val (.int p1), .val (.int (p1 &&& (7 : Int32))), .val (.ref b1), .val (.int (((p1.toUInt32 >>> ((3 : Int32) &&& 31).toUInt32).toInt32) &&& (3 : Int32))), .val (.long (((p1 &&& (7 : Int32)).toInt64) + (q0 <<< ((32 : Int32) &&& 0x3f).toInt64))), .second, .val (.ref b59), .val (.int (0 : Int32))] [(.int (0 : Int32)), (.int (f4 b59 (p1 &&& (7 : Int32)) b1 (((p1 &&& (7 : Int32)).toInt64) + (q0 <<< ((32 : Int32) &&& 0x3f).toInt64))))]))
            refine own_st ?_ (fun t k => XS.icmpNo X67.here hx rfl (hb hby at_117) rfl (teq (own_h0 hc100)).2 k)
            show own_G p.tables e below _ _ (T67.setTop (mkF m 120 #[.val (.long q0), .second, .val (.int p1), .val (.int (p1 &&& (7 : Int32))), .val (.ref b1), .val (.int (((p1.toUInt32 >>> ((3 : Int32) &&& 31).toUInt32).toInt32) &&& (3 : Int32))), .val (.long (((p1 &&& (7 : Int32)).toInt64) + (q0 <<< ((32 : Int32) &&& 0x3f).toInt64))), .second, .val (.ref b59), .val (.int (0 : Int32))] []))
            refine own_st ?_ (fun t k => XS.iconst X67.here hx rfl (hb hby at_120) k)
            show own_G p.tables e below _ _ (T67.setTop (mkF m 121 #[.val (.long q0), .second, .val (.int p1), .val (.int (p1 &&& (7 : Int32))), .val (.ref b1), .val (.int (((p1.toUInt32 >>> ((3 : Int32) &&& 31).toUInt32).toInt32) &&& (3 : Int32))), .val (.long (((p1 &&& (7 : Int32)).toInt64) + (q0 <<< ((32 : Int32) &&& 0x3f).toInt64))), .second, .val (.ref b59), .val (.int (0 : Int32))] [(.int (1 : Int32))]))
            refine own_st ?_ (fun t k => XS.goto X67.here hx rfl (pc0 := 121) (pc' := 125) rfl (hb hby at_121) (by decide) (by decide) k)
            show own_G p.tables e below _ _ (T67.setTop (mkF m 125 #[.val (.long q0), .second, .val (.int p1), .val (.int (p1 &&& (7 : Int32))), .val (.ref b1), .val (.int (((p1.toUInt32 >>> ((3 : Int32) &&& 31).toUInt32).toInt32) &&& (3 : Int32))), .val (.long (((p1 &&& (7 : Int32)).toInt64) + (q0 <<< ((32 : Int32) &&& 0x3f).toInt64))), .second, .val (.ref b59), .val (.int (0 : Int32))] [(.int (1 : Int32))]))
            exact own_retN X67 hx hlk (t := .boolean) hret (by simp) (hb hby at_125) (by decide) (by decide) (z' := (1 : Int32)) rfl ⟨rfl, N67⟩
        · refine own_st ?_ (fun t k => XS.icmpYes X1.here hx rfl (pc0 := 63) (pc' := 78) rfl (hb hby at_63) rfl (feq hc63).2 (by decide) (by decide) k)
          show own_G p.tables e below _ _ (T1.setTop (mkF m 78 #[.val (.long q0), .second, .val (.int p1), .val (.int (p1 &&& (7 : Int32))), .val (.ref b1), .val (.int (((p1.toUInt32 >>> ((3 : Int32) &&& 31).toUInt32).toInt32) &&& (3 : Int32))), .unset, .unset, .unset, .unset] []))
          refine own_st ?_ (fun t k => XS.iloadN X1.here hx rfl (hb hby at_78) rfl k)
          show own_G p.tables e below _ _ (T1.setTop (mkF m 79 #[.val (.long q0), .second, .val (.int p1), .val (.int (p1 &&& (7 : Int32))), .val (.ref b1), .val (.int (((p1.toUInt32 >>> ((3 : Int32) &&& 31).toUInt32).toInt32) &&& (3 : Int32))), .unset, .unset, .unset, .unset] [(.int (p1 &&& (7 : Int32)))]))
          refine own_st ?_ (fun t k => XS.i2l X1.here hx rfl (hb hby at_79) rfl k)
          show own_G p.tables e below _ _ (T1.setTop (mkF m 80 #[.val (.long q0), .second, .val (.int p1), .val (.int (p1 &&& (7 : Int32))), .val (.ref b1), .val (.int (((p1.toUInt32 >>> ((3 : Int32) &&& 31).toUInt32).toInt32) &&& (3 : Int32))), .unset, .unset, .unset, .unset] [(.long ((p1 &&& (7 : Int32)).toInt64))]))
          refine own_st ?_ (fun t k => XS.lstore X1.here hx rfl (hb hby at_80) rfl (l' := #[.val (.long q0), .second, .val (.int p1), .val (.int (p1 &&& (7 : Int32))), .val (.ref b1), .val (.int (((p1.toUInt32 >>> ((3 : Int32) &&& 31).toUInt32).toInt32) &&& (3 : Int32))), .val (.long ((p1 &&& (7 : Int32)).toInt64)), .second, .unset, .unset]) rfl k)
          show own_G p.tables e below _ _ (T1.setTop (mkF m 82 #[.val (.long q0), .second, .val (.int p1), .val (.int (p1 &&& (7 : Int32))), .val (.ref b1), .val (.int (((p1.toUInt32 >>> ((3 : Int32) &&& 31).toUInt32).toInt32) &&& (3 : Int32))), .val (.long ((p1 &&& (7 : Int32)).toInt64)), .second, .unset, .unset] []))
          obtain ⟨T68, h68, X68, e68, E68, A68, D68, -, st68⟩ := newO X1 hx hZ hown (hw _ (List.mem_of_getElem? (i := 1) rfl)) (hw _ (List.mem_of_getElem? (i := 2) rfl)) (hw _ (List.mem_of_getElem? (i := 3) rfl)) e1 (g := (mkF m 82 #[.val (.long q0), .second, .val (.int p1), .val (.int (p1 &&& (7 : Int32))), .val (.ref b1), .val (.int (((p1.toUInt32 >>> ((3 : Int32) &&& 31).toUInt32).toInt32) &&& (3 : Int32))), .val (.long ((p1 &&& (7 : Int32)).toInt64)), .second, .unset, .unset] [])) rfl (hb hby at_82) (by decide) (by decide)
          obtain ⟨b68, gz68⟩ : ∃ z, z = h1.size := ⟨_, rfl⟩
          rw [← gz68] at A68 D68 st68
          have ne_b1_b68 : b1 ≠ b68 := Nat.ne_of_lt (Nat.lt_of_lt_of_le (own_B_lt F_b1) (Nat.le_of_eq gz68.symm))
          have g_b68 : n0 ≤ b68 := Nat.le_trans Zs2 (Nat.le_of_eq gz68.symm)
          have F69_P : own_B Z h68 b1 (p1 &&& (7 : Int32)) := own_B_ext F_b1 E68
          have Zs70 : n0 ≤ h68.size := Nat.le_trans Zs2 E68.1
          have F_length_b68 : Fld Z h68 b68 "com/example/fanoline/fanoline/io/LineReader$Line" "length" "J" (.long (0 : Int64)) := D68 (Or.inr (hw _ (List.mem_of_getElem? (i := 16) rfl))) (ty := .long) (by decide)
          have F_bytes_b68 : Fld Z h68 b68 "com/example/fanoline/fanoline/io/LineReader$Line" "bytes" "[B" .null := D68 (Or.inr (hw _ (List.mem_of_getElem? (i := 18) rfl))) (ty := (.array .byte)) (by decide)
          refine own_st ?_ st68
          show own_G p.tables e below _ _ (T68.setTop (mkF m 85 #[.val (.long q0), .second, .val (.int p1), .val (.int (p1 &&& (7 : Int32))), .val (.ref b1), .val (.int (((p1.toUInt32 >>> ((3 : Int32) &&& 31).toUInt32).toInt32) &&& (3 : Int32))), .val (.long ((p1 &&& (7 : Int32)).toInt64)), .second, .unset, .unset] [(.ref b68)]))
          refine own_st ?_ (fun t k => XS.dup X68.here hx rfl (hb hby at_85) rfl rfl k)
          show own_G p.tables e below _ _ (T68.setTop (mkF m 86 #[.val (.long q0), .second, .val (.int p1), .val (.int (p1 &&& (7 : Int32))), .val (.ref b1), .val (.int (((p1.toUInt32 >>> ((3 : Int32) &&& 31).toUInt32).toInt32) &&& (3 : Int32))), .val (.long ((p1 &&& (7 : Int32)).toInt64)), .second, .unset, .unset] [(.ref b68), (.ref b68)]))
          refine own_st ?_ (fun t k => XS.lload X68.here hx rfl (hb hby at_86) rfl k)
          show own_G p.tables e below _ _ (T68.setTop (mkF m 88 #[.val (.long q0), .second, .val (.int p1), .val (.int (p1 &&& (7 : Int32))), .val (.ref b1), .val (.int (((p1.toUInt32 >>> ((3 : Int32) &&& 31).toUInt32).toInt32) &&& (3 : Int32))), .val (.long ((p1 &&& (7 : Int32)).toInt64)), .second, .unset, .unset] [(.long ((p1 &&& (7 : Int32)).toInt64)), (.ref b68), (.ref b68)]))
          refine own_st ?_ (fun t k => XS.aload X68.here hx rfl (hb hby at_88) rfl rfl k)
          show own_G p.tables e below _ _ (T68.setTop (mkF m 90 #[.val (.long q0), .second, .val (.int p1), .val (.int (p1 &&& (7 : Int32))), .val (.ref b1), .val (.int (((p1.toUInt32 >>> ((3 : Int32) &&& 31).toUInt32).toInt32) &&& (3 : Int32))), .val (.long ((p1 &&& (7 : Int32)).toInt64)), .second, .unset, .unset] [(.ref b1), (.long ((p1 &&& (7 : Int32)).toInt64)), (.ref b68), (.ref b68)]))
          obtain ⟨_, _, ⟨T71, L71, k71, n71⟩, -, X71, ⟨Lc71, hQ71, l71, y71, z71⟩, st71⟩ := X68.specialBack hx (y := (⟨"com/example/fanoline/fanoline/io/LineReader$Line", "<init>", "(J[B)V"⟩ : MethodName)) rfl hown (mvT hZ (hw _ (List.mem_of_getElem? (i := 4) rfl))) (mvT hZ (hw _ (List.mem_of_getElem? (i := 5) rfl))) (mvT hZ (hw _ (List.mem_of_getElem? (i := 6) rfl))) (by decide) (backOf (W := 1) (rm1 l Z _ hw [] b68 ((p1 &&& (7 : Int32)).toInt64) b1 (.long (0 : Int64)) .null h68 n0 Zs70 g_b68 A68 F_length_b68 F_bytes_b68) hZ (hw _ (List.mem_of_getElem? (i := 6) rfl)) (hw _ (List.mem_of_getElem? (i := 3) rfl)) (by decide) (by decide)) (g := (mkF m 90 #[.val (.long q0), .second, .val (.int p1), .val (.int (p1 &&& (7 : Int32))), .val (.ref b1), .val (.int (((p1.toUInt32 >>> ((3 : Int32) &&& 31).toUInt32).toInt32) &&& (3 : Int32))), .val (.long ((p1 &&& (7 : Int32)).toInt64)), .second, .unset, .unset] [(.ref b1), (.long ((p1 &&& (7 : Int32)).toInt64)), (.ref b68), (.ref b68)])) rfl (by rw [hml]; rfl) (Steps.refl _) (a := b68) (argsL := [(.long ((p1 &&& (7 : Int32)).toInt64)), (.ref b1)]) (rest := [(.ref b68)]) (lenOf pd_1 rfl) rfl (by show 2 * 0 + _ ≤ _; exact Nat.le_of_eq rfl) (hb hby at_90) (fun _ _ => ⟨rfl, e68, (by decide : 2 + 0 ≤ _), (by decide : 9 + 0 ≤ _)⟩)
          dsimp only [Pt.U, Pt.locs, Pt.cells, Pt.slots] at X71 l71 y71 z71 st71 hQ71
          subst l71 y71 z71
          obtain ⟨rfl, N71q, hq71⟩ := hQ71
          have N71 := Fr.app N0 N71q
          obtain ⟨K71, Fl71, Fb71⟩ := hq71
          have F72_P : own_B Z T71.heap b1 (p1 &&& (7 : Int32)) := own_B_keep F69_P K71 (ninS ne_b1_b68 nin0)
          have F73_E : Exa Z T71.heap b68 "com/example/fanoline/fanoline/io/LineReader$Line" := A68.keep K71
          have Zs74 : n0 ≤ T71.heap.size := Nat.le_trans Zs70 K71.1
          refine own_st ?_ (fun t k => st71.trans k)
          show own_G p.tables e below _ _ (T71.setTop (mkF m 93 #[.val (.long q0), .second, .val (.int p1), .val (.int (p1 &&& (7 : Int32))), .val (.ref b1), .val (.int (((p1.toUInt32 >>> ((3 : Int32) &&& 31).toUInt32).toInt32) &&& (3 : Int32))), .val (.long ((p1 &&& (7 : Int32)).toInt64)), .second, .unset, .unset] [(.ref b68)]))
          refine own_st ?_ (fun t k => XS.astore X71.here hx rfl (hb hby at_93) rfl rfl (l' := #[.val (.long q0), .second, .val (.int p1), .val (.int (p1 &&& (7 : Int32))), .val (.ref b1), .val (.int (((p1.toUInt32 >>> ((3 : Int32) &&& 31).toUInt32).toInt32) &&& (3 : Int32))), .val (.long ((p1 &&& (7 : Int32)).toInt64)), .second, .val (.ref b68), .unset]) rfl k)
          show own_G p.tables e below _ _ (T71.setTop (mkF m 95 #[.val (.long q0), .second, .val (.int p1), .val (.int (p1 &&& (7 : Int32))), .val (.ref b1), .val (.int (((p1.toUInt32 >>> ((3 : Int32) &&& 31).toUInt32).toInt32) &&& (3 : Int32))), .val (.long ((p1 &&& (7 : Int32)).toInt64)), .second, .val (.ref b68), .unset] []))
          refine own_st ?_ (fun t k => XS.lload X71.here hx rfl (hb hby at_95) rfl k)
          show own_G p.tables e below _ _ (T71.setTop (mkF m 97 #[.val (.long q0), .second, .val (.int p1), .val (.int (p1 &&& (7 : Int32))), .val (.ref b1), .val (.int (((p1.toUInt32 >>> ((3 : Int32) &&& 31).toUInt32).toInt32) &&& (3 : Int32))), .val (.long ((p1 &&& (7 : Int32)).toInt64)), .second, .val (.ref b68), .unset] [(.long ((p1 &&& (7 : Int32)).toInt64))]))
          refine own_st ?_ (fun t k => XS.iloadN X71.here hx rfl (hb hby at_97) rfl k)
          show own_G p.tables e below _ _ (T71.setTop (mkF m 98 #[.val (.long q0), .second, .val (.int p1), .val (.int (p1 &&& (7 : Int32))), .val (.ref b1), .val (.int (((p1.toUInt32 >>> ((3 : Int32) &&& 31).toUInt32).toInt32) &&& (3 : Int32))), .val (.long ((p1 &&& (7 : Int32)).toInt64)), .second, .val (.ref b68), .unset] [(.int (p1 &&& (7 : Int32))), (.long ((p1 &&& (7 : Int32)).toInt64))]))
          refine own_st ?_ (fun t k => XS.i2l X71.here hx rfl (hb hby at_98) rfl k)
          show own_G p.tables e below _ _ (T71.setTop (mkF m 99 #[.val (.long q0), .second, .val (.int p1), .val (.int (p1 &&& (7 : Int32))), .val (.ref b1), .val (.int (((p1.toUInt32 >>> ((3 : Int32) &&& 31).toUInt32).toInt32) &&& (3 : Int32))), .val (.long ((p1 &&& (7 : Int32)).toInt64)), .second, .val (.ref b68), .unset] [(.long ((p1 &&& (7 : Int32)).toInt64)), (.long ((p1 &&& (7 : Int32)).toInt64))]))
          refine own_st ?_ (fun t k => XS.lcmp X71.here hx rfl (hb hby at_99) rfl k)
          show own_G p.tables e below _ _ (T71.setTop (mkF m 100 #[.val (.long q0), .second, .val (.int p1), .val (.int (p1 &&& (7 : Int32))), .val (.ref b1), .val (.int (((p1.toUInt32 >>> ((3 : Int32) &&& 31).toUInt32).toInt32) &&& (3 : Int32))), .val (.long ((p1 &&& (7 : Int32)).toInt64)), .second, .val (.ref b68), .unset] [(.int (lcmpW ((p1 &&& (7 : Int32)).toInt64) ((p1 &&& (7 : Int32)).toInt64)))]))
          by_cases hc100 : (lcmpW ((p1 &&& (7 : Int32)).toInt64) ((p1 &&& (7 : Int32)).toInt64)) = (0 : Int32)
          · refine own_st ?_ (fun t k => XS.ifNo X71.here hx rfl (hb hby at_100) rfl ((if0 _ _).trans (teq hc100).2) k)
            show own_G p.tables e below _ _ (T71.setTop (mkF m 103 #[.val (.long q0), .second, .val (.int p1), .val (.int (p1 &&& (7 : Int32))), .val (.ref b1), .val (.int (((p1.toUInt32 >>> ((3 : Int32) &&& 31).toUInt32).toInt32) &&& (3 : Int32))), .val (.long ((p1 &&& (7 : Int32)).toInt64)), .second, .val (.ref b68), .unset] []))
            refine own_st ?_ (fun t k => XS.iconst X71.here hx rfl (hb hby at_103) k)
            show own_G p.tables e below _ _ (T71.setTop (mkF m 104 #[.val (.long q0), .second, .val (.int p1), .val (.int (p1 &&& (7 : Int32))), .val (.ref b1), .val (.int (((p1.toUInt32 >>> ((3 : Int32) &&& 31).toUInt32).toInt32) &&& (3 : Int32))), .val (.long ((p1 &&& (7 : Int32)).toInt64)), .second, .val (.ref b68), .unset] [(.int (1 : Int32))]))
            refine own_st ?_ (fun t k => XS.goto X71.here hx rfl (pc0 := 104) (pc' := 108) rfl (hb hby at_104) (by decide) (by decide) k)
            show own_G p.tables e below _ _ (T71.setTop (mkF m 108 #[.val (.long q0), .second, .val (.int p1), .val (.int (p1 &&& (7 : Int32))), .val (.ref b1), .val (.int (((p1.toUInt32 >>> ((3 : Int32) &&& 31).toUInt32).toInt32) &&& (3 : Int32))), .val (.long ((p1 &&& (7 : Int32)).toInt64)), .second, .val (.ref b68), .unset] [(.int (1 : Int32))]))
            refine own_st ?_ (fun t k => XS.istore X71.here hx rfl (hb hby at_108) rfl (l' := #[.val (.long q0), .second, .val (.int p1), .val (.int (p1 &&& (7 : Int32))), .val (.ref b1), .val (.int (((p1.toUInt32 >>> ((3 : Int32) &&& 31).toUInt32).toInt32) &&& (3 : Int32))), .val (.long ((p1 &&& (7 : Int32)).toInt64)), .second, .val (.ref b68), .val (.int (1 : Int32))]) rfl k)
            show own_G p.tables e below _ _ (T71.setTop (mkF m 110 #[.val (.long q0), .second, .val (.int p1), .val (.int (p1 &&& (7 : Int32))), .val (.ref b1), .val (.int (((p1.toUInt32 >>> ((3 : Int32) &&& 31).toUInt32).toInt32) &&& (3 : Int32))), .val (.long ((p1 &&& (7 : Int32)).toInt64)), .second, .val (.ref b68), .val (.int (1 : Int32))] []))
            refine own_st ?_ (fun t k => XS.aload X71.here hx rfl (hb hby at_110) rfl rfl k)
            show own_G p.tables e below _ _ (T71.setTop (mkF m 112 #[.val (.long q0), .second, .val (.int p1), .val (.int (p1 &&& (7 : Int32))), .val (.ref b1), .val (.int (((p1.toUInt32 >>> ((3 : Int32) &&& 31).toUInt32).toInt32) &&& (3 : Int32))), .val (.long ((p1 &&& (7 : Int32)).toInt64)), .second, .val (.ref b68), .val (.int (1 : Int32))] [(.ref b68)]))
            obtain ⟨cq75, kq75, q75a, q75b, q75c⟩ := isOf hZ rfl F73_E
            obtain ⟨_, _, ⟨T75, L75, k75, n75⟩, -, X75, ⟨Lc75, hQ75, l75, y75, z75⟩, st75⟩ := X71.virtualBack hx (y := (⟨"com/example/fanoline/fanoline/io/LineReader$Line", "held", "()Z"⟩ : MethodName)) (z := (⟨"com/example/fanoline/fanoline/io/LineReader$Line", "held", "()Z"⟩ : MethodName)) hown (mvT hZ (hw _ (List.mem_of_getElem? (i := 19) rfl))) (mvT hZ (hw _ (List.mem_of_getElem? (i := 20) rfl))) (notFace_of_selects (args := #[]) (mvT hZ (hw _ (List.mem_of_getElem? (i := 22) rfl)))) (mvT hZ (hw _ (List.mem_of_getElem? (i := 22) rfl))) (mvT hZ (hw _ (List.mem_of_getElem? (i := 21) rfl))) (by decide) (backOf (W := 0) (rm4 l Z _ hw [] b68 (p1 &&& (7 : Int32)) b1 ((p1 &&& (7 : Int32)).toInt64) T71.heap n0 Zs74 F72_P (own_n p1).1 Fb71 Fl71) hZ (hw _ (List.mem_of_getElem? (i := 23) rfl)) (hw _ (List.mem_of_getElem? (i := 3) rfl)) (by decide) (by decide)) q75a q75c (g := (mkF m 112 #[.val (.long q0), .second, .val (.int p1), .val (.int (p1 &&& (7 : Int32))), .val (.ref b1), .val (.int (((p1.toUInt32 >>> ((3 : Int32) &&& 31).toUInt32).toInt32) &&& (3 : Int32))), .val (.long ((p1 &&& (7 : Int32)).toInt64)), .second, .val (.ref b68), .val (.int (1 : Int32))] [(.ref b68)])) rfl (by rw [hml]; rfl) (Steps.refl _) (argsL := []) (rest := []) (lenOf pd_2 rfl) rfl (by show 2 * 0 + _ ≤ _; exact Nat.le_of_eq rfl) (hb hby at_112) (fun _ _ => ⟨rfl, rfl, (by decide : 2 + 0 ≤ _), (by decide : 9 + 0 ≤ _)⟩)
            dsimp only [Pt.U, Pt.locs, Pt.cells, Pt.slots] at X75 l75 y75 z75 st75 hQ75
            subst l75 y75 z75
            obtain ⟨rfl, N75q, e75⟩ := hQ75
            have N75 := Fr.app N71 N75q
            refine own_st ?_ (fun t k => st75.trans k)
            show own_G p.tables e below _ _ (T75.setTop (mkF m 115 #[.val (.long q0), .second, .val (.int p1), .val (.int (p1 &&& (7 : Int32))), .val (.ref b1), .val (.int (((p1.toUInt32 >>> ((3 : Int32) &&& 31).toUInt32).toInt32) &&& (3 : Int32))), .val (.long ((p1 &&& (7 : Int32)).toInt64)), .second, .val (.ref b68), .val (.int (1 : Int32))] [(.int (f4 b68 (p1 &&& (7 : Int32)) b1 ((p1 &&& (7 : Int32)).toInt64)))]))
            refine own_st ?_ (fun t k => XS.iload X75.here hx rfl (hb hby at_115) rfl k)
            show own_G p.tables e below _ _ (T75.setTop (mkF m 117 #[.val (.long q0), .second, .val (.int p1), .val (.int (p1 &&& (7 : Int32))), .val (.ref b1), .val (.int (((p1.toUInt32 >>> ((3 : Int32) &&& 31).toUInt32).toInt32) &&& (3 : Int32))), .val (.long ((p1 &&& (7 : Int32)).toInt64)), .second, .val (.ref b68), .val (.int (1 : Int32))] [(.int (1 : Int32)), (.int (f4 b68 (p1 &&& (7 : Int32)) b1 ((p1 &&& (7 : Int32)).toInt64)))]))
            refine own_st ?_ (fun t k => XS.icmpNo X75.here hx rfl (hb hby at_117) rfl (teq (own_h1 hc100)).2 k)
            show own_G p.tables e below _ _ (T75.setTop (mkF m 120 #[.val (.long q0), .second, .val (.int p1), .val (.int (p1 &&& (7 : Int32))), .val (.ref b1), .val (.int (((p1.toUInt32 >>> ((3 : Int32) &&& 31).toUInt32).toInt32) &&& (3 : Int32))), .val (.long ((p1 &&& (7 : Int32)).toInt64)), .second, .val (.ref b68), .val (.int (1 : Int32))] []))
            refine own_st ?_ (fun t k => XS.iconst X75.here hx rfl (hb hby at_120) k)
            show own_G p.tables e below _ _ (T75.setTop (mkF m 121 #[.val (.long q0), .second, .val (.int p1), .val (.int (p1 &&& (7 : Int32))), .val (.ref b1), .val (.int (((p1.toUInt32 >>> ((3 : Int32) &&& 31).toUInt32).toInt32) &&& (3 : Int32))), .val (.long ((p1 &&& (7 : Int32)).toInt64)), .second, .val (.ref b68), .val (.int (1 : Int32))] [(.int (1 : Int32))]))
            refine own_st ?_ (fun t k => XS.goto X75.here hx rfl (pc0 := 121) (pc' := 125) rfl (hb hby at_121) (by decide) (by decide) k)
            show own_G p.tables e below _ _ (T75.setTop (mkF m 125 #[.val (.long q0), .second, .val (.int p1), .val (.int (p1 &&& (7 : Int32))), .val (.ref b1), .val (.int (((p1.toUInt32 >>> ((3 : Int32) &&& 31).toUInt32).toInt32) &&& (3 : Int32))), .val (.long ((p1 &&& (7 : Int32)).toInt64)), .second, .val (.ref b68), .val (.int (1 : Int32))] [(.int (1 : Int32))]))
            exact own_retN X75 hx hlk (t := .boolean) hret (by simp) (hb hby at_125) (by decide) (by decide) (z' := (1 : Int32)) rfl ⟨rfl, N75⟩
          · refine own_st ?_ (fun t k => XS.ifYes X71.here hx rfl (pc0 := 100) (pc' := 107) rfl (hb hby at_100) rfl ((if0 _ _).trans (feq hc100).2) (by decide) (by decide) k)
            show own_G p.tables e below _ _ (T71.setTop (mkF m 107 #[.val (.long q0), .second, .val (.int p1), .val (.int (p1 &&& (7 : Int32))), .val (.ref b1), .val (.int (((p1.toUInt32 >>> ((3 : Int32) &&& 31).toUInt32).toInt32) &&& (3 : Int32))), .val (.long ((p1 &&& (7 : Int32)).toInt64)), .second, .val (.ref b68), .unset] []))
            refine own_st ?_ (fun t k => XS.iconst X71.here hx rfl (hb hby at_107) k)
            show own_G p.tables e below _ _ (T71.setTop (mkF m 108 #[.val (.long q0), .second, .val (.int p1), .val (.int (p1 &&& (7 : Int32))), .val (.ref b1), .val (.int (((p1.toUInt32 >>> ((3 : Int32) &&& 31).toUInt32).toInt32) &&& (3 : Int32))), .val (.long ((p1 &&& (7 : Int32)).toInt64)), .second, .val (.ref b68), .unset] [(.int (0 : Int32))]))
            refine own_st ?_ (fun t k => XS.istore X71.here hx rfl (hb hby at_108) rfl (l' := #[.val (.long q0), .second, .val (.int p1), .val (.int (p1 &&& (7 : Int32))), .val (.ref b1), .val (.int (((p1.toUInt32 >>> ((3 : Int32) &&& 31).toUInt32).toInt32) &&& (3 : Int32))), .val (.long ((p1 &&& (7 : Int32)).toInt64)), .second, .val (.ref b68), .val (.int (0 : Int32))]) rfl k)
            show own_G p.tables e below _ _ (T71.setTop (mkF m 110 #[.val (.long q0), .second, .val (.int p1), .val (.int (p1 &&& (7 : Int32))), .val (.ref b1), .val (.int (((p1.toUInt32 >>> ((3 : Int32) &&& 31).toUInt32).toInt32) &&& (3 : Int32))), .val (.long ((p1 &&& (7 : Int32)).toInt64)), .second, .val (.ref b68), .val (.int (0 : Int32))] []))
            refine own_st ?_ (fun t k => XS.aload X71.here hx rfl (hb hby at_110) rfl rfl k)
            show own_G p.tables e below _ _ (T71.setTop (mkF m 112 #[.val (.long q0), .second, .val (.int p1), .val (.int (p1 &&& (7 : Int32))), .val (.ref b1), .val (.int (((p1.toUInt32 >>> ((3 : Int32) &&& 31).toUInt32).toInt32) &&& (3 : Int32))), .val (.long ((p1 &&& (7 : Int32)).toInt64)), .second, .val (.ref b68), .val (.int (0 : Int32))] [(.ref b68)]))
            obtain ⟨cq76, kq76, q76a, q76b, q76c⟩ := isOf hZ rfl F73_E
            obtain ⟨_, _, ⟨T76, L76, k76, n76⟩, -, X76, ⟨Lc76, hQ76, l76, y76, z76⟩, st76⟩ := X71.virtualBack hx (y := (⟨"com/example/fanoline/fanoline/io/LineReader$Line", "held", "()Z"⟩ : MethodName)) (z := (⟨"com/example/fanoline/fanoline/io/LineReader$Line", "held", "()Z"⟩ : MethodName)) hown (mvT hZ (hw _ (List.mem_of_getElem? (i := 19) rfl))) (mvT hZ (hw _ (List.mem_of_getElem? (i := 20) rfl))) (notFace_of_selects (args := #[]) (mvT hZ (hw _ (List.mem_of_getElem? (i := 22) rfl)))) (mvT hZ (hw _ (List.mem_of_getElem? (i := 22) rfl))) (mvT hZ (hw _ (List.mem_of_getElem? (i := 21) rfl))) (by decide) (backOf (W := 0) (rm4 l Z _ hw [] b68 (p1 &&& (7 : Int32)) b1 ((p1 &&& (7 : Int32)).toInt64) T71.heap n0 Zs74 F72_P (own_n p1).1 Fb71 Fl71) hZ (hw _ (List.mem_of_getElem? (i := 23) rfl)) (hw _ (List.mem_of_getElem? (i := 3) rfl)) (by decide) (by decide)) q76a q76c (g := (mkF m 112 #[.val (.long q0), .second, .val (.int p1), .val (.int (p1 &&& (7 : Int32))), .val (.ref b1), .val (.int (((p1.toUInt32 >>> ((3 : Int32) &&& 31).toUInt32).toInt32) &&& (3 : Int32))), .val (.long ((p1 &&& (7 : Int32)).toInt64)), .second, .val (.ref b68), .val (.int (0 : Int32))] [(.ref b68)])) rfl (by rw [hml]; rfl) (Steps.refl _) (argsL := []) (rest := []) (lenOf pd_2 rfl) rfl (by show 2 * 0 + _ ≤ _; exact Nat.le_of_eq rfl) (hb hby at_112) (fun _ _ => ⟨rfl, rfl, (by decide : 2 + 0 ≤ _), (by decide : 9 + 0 ≤ _)⟩)
            dsimp only [Pt.U, Pt.locs, Pt.cells, Pt.slots] at X76 l76 y76 z76 st76 hQ76
            subst l76 y76 z76
            obtain ⟨rfl, N76q, e76⟩ := hQ76
            have N76 := Fr.app N71 N76q
            refine own_st ?_ (fun t k => st76.trans k)
            show own_G p.tables e below _ _ (T76.setTop (mkF m 115 #[.val (.long q0), .second, .val (.int p1), .val (.int (p1 &&& (7 : Int32))), .val (.ref b1), .val (.int (((p1.toUInt32 >>> ((3 : Int32) &&& 31).toUInt32).toInt32) &&& (3 : Int32))), .val (.long ((p1 &&& (7 : Int32)).toInt64)), .second, .val (.ref b68), .val (.int (0 : Int32))] [(.int (f4 b68 (p1 &&& (7 : Int32)) b1 ((p1 &&& (7 : Int32)).toInt64)))]))
            refine own_st ?_ (fun t k => XS.iload X76.here hx rfl (hb hby at_115) rfl k)
            show own_G p.tables e below _ _ (T76.setTop (mkF m 117 #[.val (.long q0), .second, .val (.int p1), .val (.int (p1 &&& (7 : Int32))), .val (.ref b1), .val (.int (((p1.toUInt32 >>> ((3 : Int32) &&& 31).toUInt32).toInt32) &&& (3 : Int32))), .val (.long ((p1 &&& (7 : Int32)).toInt64)), .second, .val (.ref b68), .val (.int (0 : Int32))] [(.int (0 : Int32)), (.int (f4 b68 (p1 &&& (7 : Int32)) b1 ((p1 &&& (7 : Int32)).toInt64)))]))
            refine own_st ?_ (fun t k => XS.icmpNo X76.here hx rfl (hb hby at_117) rfl (teq (own_h0 hc100)).2 k)
            show own_G p.tables e below _ _ (T76.setTop (mkF m 120 #[.val (.long q0), .second, .val (.int p1), .val (.int (p1 &&& (7 : Int32))), .val (.ref b1), .val (.int (((p1.toUInt32 >>> ((3 : Int32) &&& 31).toUInt32).toInt32) &&& (3 : Int32))), .val (.long ((p1 &&& (7 : Int32)).toInt64)), .second, .val (.ref b68), .val (.int (0 : Int32))] []))
            refine own_st ?_ (fun t k => XS.iconst X76.here hx rfl (hb hby at_120) k)
            show own_G p.tables e below _ _ (T76.setTop (mkF m 121 #[.val (.long q0), .second, .val (.int p1), .val (.int (p1 &&& (7 : Int32))), .val (.ref b1), .val (.int (((p1.toUInt32 >>> ((3 : Int32) &&& 31).toUInt32).toInt32) &&& (3 : Int32))), .val (.long ((p1 &&& (7 : Int32)).toInt64)), .second, .val (.ref b68), .val (.int (0 : Int32))] [(.int (1 : Int32))]))
            refine own_st ?_ (fun t k => XS.goto X76.here hx rfl (pc0 := 121) (pc' := 125) rfl (hb hby at_121) (by decide) (by decide) k)
            show own_G p.tables e below _ _ (T76.setTop (mkF m 125 #[.val (.long q0), .second, .val (.int p1), .val (.int (p1 &&& (7 : Int32))), .val (.ref b1), .val (.int (((p1.toUInt32 >>> ((3 : Int32) &&& 31).toUInt32).toInt32) &&& (3 : Int32))), .val (.long ((p1 &&& (7 : Int32)).toInt64)), .second, .val (.ref b68), .val (.int (0 : Int32))] [(.int (1 : Int32))]))
            exact own_retN X76 hx hlk (t := .boolean) hret (by simp) (hb hby at_125) (by decide) (by decide) (z' := (1 : Int32)) rfl ⟨rfl, N76⟩
set_option maxRecDepth 65536 in
set_option maxHeartbeats 40000000 in
theorem comes_1 {Post : Tables → Env → Array Value → State → Outcome → State → Prop} (hpost : ∀ tb e args s v u, (limb_1_1.after args s (.returned v) u = true ∧ limb_1_2.after args s (.returned v) u = true ∧ True) → FrameEnd s (.returned v) u (Jvm.fieldLocs frame_1_writes args s ++ Jvm.arrayLocs frame_1_arrays args s ++ Jvm.staticLocs frame_1_statics s) 16 128 → Post tb e args s (.returned v) u) :
    ArmFor flags0 classFile x code maxLocals ret World_1 tables_1 room_1 Calls_1 rest_1 Pre_1 Post := by
  intro l hfl _ _ p e ha hc hk s m args below hf hA hF happ hP
  obtain ⟨hcalls, hrest, hpre⟩ := hP
  obtain ⟨-, -, -, hnamed, -, -, -, hat⟩ := (Spec.applies_iff hf).mp happ
  obtain ⟨hg, hn⟩ := and_e (Cond.before_iff.mp (show (Jvm.Cond.and given_1 narrow_1).before args s = true from hpre))
  obtain ⟨hcount, hgs0⟩ := and_e hg
  obtain ⟨w0, w1, rfl⟩ : ∃ w0 w1 : Value, args = #[w0, w1] := by
    have hs : args.size = 2 := by simpa [Cond.value, given_1] using hcount
    obtain ⟨L⟩ := args
    match L, hs with
    | [w0, w1], _ => exact ⟨w0, w1, rfl⟩
  have hw := fun d (hd : d ∈ tables_1) => atoms_spec (ws := Jvm.Cond.code x code maxLocals ret :: tables_1) hat d (List.mem_cons_of_mem _ hd)
  obtain ⟨hv0, hgs1⟩ := and_e hgs0
  obtain ⟨i0, ei0⟩ := isL_v hv0
  obtain rfl : w0 = (.long i0) := Option.some.inj ei0
  have hv1 := hgs1
  obtain ⟨i1, ei1⟩ := is_v hv1
  obtain rfl : w1 = (.int i1) := Option.some.inj ei1
  obtain ⟨n, o, h1, h2, h3, _, L, rfl, ⟨rfl, N⟩, hq⟩ := rm0 l s _ hw tables_1 i0 i1  s.heap s.heap.size (Nat.le_refl _)  p e ha hc hk s m _ below hf ((Spec.applies_iff_loose hf).mp happ).1 ⟨rfl, State.Warmed39.refl s, rfl⟩ trivial
  skip
  refine ⟨n, _, h1, h2, h3, hpost _ _ _ _ _ _ ⟨Cond.after_iff.mpr rfl, Cond.after_iff.mpr (eq_i res_at (Term.int_eval (1)) rfl), trivial⟩ ⟨⟨_, rfl⟩, hq.2.1, (hq.2.2.sift fun y hy => Or.inr (N y hy)).mono (by decide) (by decide)⟩⟩
theorem main_1_1 : Claimed_1_1 := comes_1 fun _ _ _ _ _ _ h hF => ⟨h.1, hF⟩
theorem main_1_2 : Claimed_1_2 := comes_1 fun _ _ _ _ _ _ h hF => ⟨h.2.1, hF⟩
end Jvm.Pilot.@@N@@
namespace Jvm.Pilot.@@N@@
open Jvm Jvm.ClassFile Sem Op Lib Jvm.Free Jvm.Stand Jvm.Pilot.@@N@@.Jvm.D
/-! MADE BY PROGRAM (witnessworld.py) out of the Statement's table words and the real class files: 8 classes; the members and pool entries that the words name. The judged class is class 1, her method 1. -/
namespace start1
open Jvm.ClassFile
def u (s : String) : CpInfo := .utf8 (stringToUtf16 s)
/-- a pool by its gaps: so many unusable entries, then the entry; so many at the end -/
def gap : Nat → List CpInfo → List CpInfo
  | 0, r => r
  | n + 1, r => .unusable :: gap n r
def poolList (es : List (Nat × CpInfo)) (last : Nat) : List CpInfo := es.foldr (fun e r => gap e.1 (e.2 :: r)) (gap last [])
def pool (es : List (Nat × CpInfo)) (last : Nat) : Array CpInfo := ⟨poolList es last⟩
def fileOf (pool : Array CpInfo) (this : Nat) (attrs : Array Attribute := #[]) (ms : Array MethodInfo := #[]) (fl : Nat := 33) (sup : Nat := 0) (ifs : Array Nat := #[]) (fds : Array FieldInfo := #[]) : ClassFile where
  minorVersion := 0
  majorVersion := 65
  constantPool := pool
  accessFlags := fl
  thisClass := this
  superClass := sup
  interfaces := ifs
  fields := fds
  methods := ms
  attributes := attrs
def plain (name : String) (sup : Option ClassId) : Class where
  name := name
  kind := .ordinary
  loader := none
  accessFlags := 33
  super := sup
  interfaces := #[]
  cf := none
  fields := #[]
  methods := #[]
  instanceTypes := #[]
  staticTypes := #[]
  resolved := #[]
  callSites := []
  init := .initialized
  statics := none
  mirror := none

def pool0 : Array CpInfo := pool [(5, u "<init>"), (0, u "()V"), (1, .class_ 10), (1, u "java/lang/Object")] 113

def k0c0 : Code := { maxStack := 0, maxLocals := 1, code := object_method_1_code, exceptionTable := #[], attributes := #[] }
def k0m0 : Method := { name := "<init>", desc := "()V", sig := { parameters := [], returnType := none }, accessFlags := 1, code := some k0c0 }
/-- java/lang/Object -/
def k0 : Class := { plain "java/lang/Object" none with
  accessFlags := 33
  interfaces := #[]
  cf := some (fileOf pool0 8 #[] #[{ accessFlags := 1, nameIndex := 5, descriptorIndex := 6, attributes := #[] }] 33 0 #[] #[])
  fields := #[]
  methods := #[k0m0]
  instanceTypes := #[]
  staticTypes := #[]
  resolved := Array.replicate 124 none
  statics := none }

def pool1 : Array CpInfo := pool [(2, .class_ 4), (1, u "java/lang/Object"), (0, u "<init>"), (0, u "()V"), (0, .long 3), (1, .class_ 10), (0, u "com/example/fanoline/fanoline/io/LineReader$Line"), (0, .methodref 9 12), (0, .nameAndType 5 13), (0, u "(J[B)V"), (0, .methodref 9 15), (0, .nameAndType 16 17), (0, u "held"), (0, u "()Z"), (0, .class_ 19), (0, u "com/example/fanoline/fanoline/io/LineHeldPinLaw"), (2, u "law"), (0, u "(JI)Z")] 9

def k1m0 : Method := { name := "<init>", desc := "()V", sig := { parameters := [], returnType := none }, accessFlags := 1, code := none }
def k1c1 : Code := { maxStack := 6, maxLocals := 10, code := code, exceptionTable := #[], attributes := #[] }
def k1m1 : Method := { name := "law", desc := "(JI)Z", sig := { parameters := [.long, .int], returnType := some .boolean }, accessFlags := 9, code := some k1c1 }
/-- com/example/fanoline/fanoline/io/LineHeldPinLaw -/
def k1 : Class := { plain "com/example/fanoline/fanoline/io/LineHeldPinLaw" (some 0) with
  accessFlags := 49
  interfaces := #[]
  cf := some (fileOf pool1 18 #[] #[{ accessFlags := 1, nameIndex := 5, descriptorIndex := 6, attributes := #[] }, { accessFlags := 9, nameIndex := 22, descriptorIndex := 23, attributes := #[] }] 49 2 #[] #[])
  fields := #[]
  methods := #[k1m0, k1m1]
  instanceTypes := #[]
  staticTypes := #[]
  resolved := Array.replicate 33 none
  statics := none }

def pool2 : Array CpInfo := pool [(1, .methodref 2 3), (0, .class_ 4), (0, .nameAndType 5 6), (0, u "java/lang/Object"), (0, u "<init>"), (0, u "()V"), (0, .class_ 8), (0, u "java/lang/Record")] 13

def k2c0 : Code := { maxStack := 1, maxLocals := 1, code := jdk_30_method_1_code, exceptionTable := #[], attributes := #[] }
def k2m0 : Method := { name := "<init>", desc := "()V", sig := { parameters := [], returnType := none }, accessFlags := 4, code := some k2c0 }
/-- java/lang/Record -/
def k2 : Class := { plain "java/lang/Record" (some 0) with
  accessFlags := 1057
  interfaces := #[]
  cf := some (fileOf pool2 7 #[] #[{ accessFlags := 4, nameIndex := 5, descriptorIndex := 6, attributes := #[] }] 1057 2 #[] #[])
  fields := #[]
  methods := #[k2m0]
  instanceTypes := #[]
  staticTypes := #[]
  resolved := Array.replicate 22 none
  statics := none }

def pool3 : Array CpInfo := pool [(1, .methodref 2 3), (0, .class_ 4), (0, .nameAndType 5 6), (0, u "java/lang/Record"), (0, u "<init>"), (0, u "()V"), (0, .fieldref 8 9), (0, .class_ 10), (0, .nameAndType 11 12), (0, u "com/example/fanoline/fanoline/io/LineReader$Line"), (0, u "length"), (0, u "J"), (0, .fieldref 8 14), (0, .nameAndType 15 16), (0, u "bytes"), (0, u "[B"), (12, u "(J[B)V"), (3, u "held"), (0, u "()Z"), (9, .class_ 45), (0, u "com/example/fanoline/fanoline/io/LineReader")] 20

def k3c0 : Code := { maxStack := 3, maxLocals := 4, code := prog_29_method_1_code, exceptionTable := #[], attributes := #[] }
def k3m0 : Method := { name := "<init>", desc := "(J[B)V", sig := { parameters := [.long, (.array .byte)], returnType := none }, accessFlags := 1, code := some k3c0 }
def k3c1 : Code := { maxStack := 4, maxLocals := 1, code := prog_29_method_2_code, exceptionTable := #[], attributes := #[] }
def k3m1 : Method := { name := "held", desc := "()Z", sig := { parameters := [], returnType := some .boolean }, accessFlags := 1, code := some k3c1 }
/-- com/example/fanoline/fanoline/io/LineReader$Line -/
def k3 : Class := { plain "com/example/fanoline/fanoline/io/LineReader$Line" (some 2) with
  accessFlags := 49
  interfaces := #[]
  cf := some (fileOf pool3 8 #[.nestHost 44] #[{ accessFlags := 1, nameIndex := 5, descriptorIndex := 29, attributes := #[] }, { accessFlags := 1, nameIndex := 33, descriptorIndex := 34, attributes := #[] }] 49 2 #[] #[{ accessFlags := 18, nameIndex := 11, descriptorIndex := 12, attributes := #[] }, { accessFlags := 18, nameIndex := 15, descriptorIndex := 16, attributes := #[] }])
  fields := #[{ name := "length", type := .long, accessFlags := 18, slot := 0, constantValue := 0 }, { name := "bytes", type := (.array .byte), accessFlags := 18, slot := 1, constantValue := 0 }]
  methods := #[k3m0, k3m1]
  instanceTypes := #[.long, (.array .byte)]
  staticTypes := #[]
  resolved := Array.replicate 66 none
  statics := none }

def pool4 : Array CpInfo := pool [(1, u "java/lang/Cloneable"), (0, .class_ 1), (0, u "java/lang/Object"), (0, .class_ 3)] 3

/-- java/lang/Cloneable -/
def k4 : Class := { plain "java/lang/Cloneable" (some 0) with
  accessFlags := 1537
  interfaces := #[]
  cf := some (fileOf pool4 2 #[] #[] 1537 4 #[] #[])
  fields := #[]
  methods := #[]
  instanceTypes := #[]
  staticTypes := #[]
  resolved := Array.replicate 8 none
  statics := none }

def pool5 : Array CpInfo := pool [(1, u "java/io/Serializable"), (0, .class_ 1), (0, u "java/lang/Object"), (0, .class_ 3)] 3

/-- java/io/Serializable -/
def k5 : Class := { plain "java/io/Serializable" (some 0) with
  accessFlags := 1537
  interfaces := #[]
  cf := some (fileOf pool5 2 #[] #[] 1537 4 #[] #[])
  fields := #[]
  methods := #[]
  instanceTypes := #[]
  staticTypes := #[]
  resolved := Array.replicate 8 none
  statics := none }

/-- the primitive byte -/
def k6 : Class := { plain "byte" none with kind := .primitive 'B', accessFlags := 0x411 }
/-- [B -/
def k7 : Class := { plain "[B" (some 0) with kind := .array 6 .byte, interfaces := #[4, 5], accessFlags := 1041 }

def heap : Heap := #[]
def classes : Array Class := #[k0, k1, k2, k3, k4, k5, k6, k7]
def interned : List (Array UInt16 × Addr) := []
def slotsUsed : Nat := 0
def theMethod : MethodId := ⟨1, 1⟩
def args0 : Array Value := #[.long 5, .int 13]
def aboutOver (below : List Frame) : State where
  vm := { classes := classes, interned := interned.toArray }
  heap := heap
  slotsUsed := slotsUsed
  threads := #[{ frames := .invoking theMethod args0 :: below }]
def below0 : List Frame := [.native { method := ⟨0, 0⟩, args := #[] }]
def about1 : State := aboutOver below0
def p0 : Program := .bare "" "" ""
def e0 : Env := launch0.env 0 0 0
theorem w_frames : about1.frames = Frame.invoking theMethod args0 :: below0 := rfl
set_option maxRecDepth 65536 in
theorem w_args : argsFit about1.vm theMethod args0 = true := by decide +kernel
set_option maxRecDepth 65536 in
theorem w_heap : heapFits about1 = true := by decide +kernel
set_option maxRecDepth 65536 in
theorem w_runnable : about1.curStatus? = some .runnable := by decide +kernel
set_option maxRecDepth 65536 in
theorem w_alone : about1.alone = true := by decide +kernel
set_option maxRecDepth 65536 in
theorem w_named : about1.methodNamed? x = some theMethod := by decide +kernel
set_option maxRecDepth 65536 in
theorem w_hears : about1.hears theMethod below0 = true := by decide +kernel
set_option maxRecDepth 65536 in
theorem w_ripe : about1.ripe theMethod args0 below0 = true := by decide +kernel
theorem w_running : about1.status = .running := rfl
set_option maxRecDepth 65536 in
theorem w_room : about1.hasRoom e0.platform room_1 = true :=
  launch0.hasRoom_least _ room_1 (by decide +kernel) (by decide +kernel) (by decide +kernel) (by decide +kernel) (by decide +kernel) (by decide +kernel)
theorem allAtoms_all (ts : List Jvm.Cond) (a : Array Jvm.Value) (st : Jvm.State) : (allAtoms ts).before a st = ts.all (fun c => c.before a st) := by
  induction ts with
  | nil => rfl
  | cons c t ih =>
    show (Jvm.Cond.and c (allAtoms t)).before a st = _
    rw [Jvm.Cond.before_and, ih, List.all_cons]
def words1 : List Jvm.Cond := Jvm.Cond.code x code maxLocals ret :: tables_1
/-- a 'code' word, met by the world's own term for the bytes: nothing is compared byte by byte -/
theorem code_word {y : MethodName} {bytes : ByteArray} {mx : Nat} {rt : Option FieldType} {a : Array Value} {s : State} {m : MethodId} {meth : Method} {c : Code} (h1 : s.methodNamed? y = some m) (h2 : s.vm.method? m = some meth) (h3 : meth.code = some c) (h4 : c.code = bytes)
    (h5 : (c.maxLocals == mx && c.exceptionTable.isEmpty && decide (c.maxStack ≤ mostOperands) && decide (meth.sig.returnType = rt) && !meth.locks && decide (parseMethodDescriptor y.desc = some meth.sig)) = true) : (Jvm.Cond.code y bytes mx rt).before a s = true := by
  simp only [Bool.and_eq_true, beq_iff_eq, Bool.not_eq_true', decide_eq_true_eq] at h5
  obtain ⟨⟨⟨⟨⟨g1, g2⟩, g3⟩, g4⟩, g5⟩, g6⟩ := h5
  simp [Cond.before, Cond.holds, Cond.value, h1, h2, h3, h4, g1, g2, g3, g4, g5, g6]
def isCode : Jvm.Cond → Bool
  | .code _ _ _ _ => true
  | _ => false
theorem all_split {L : List Jvm.Cond} {P : Jvm.Cond → Bool} (h1 : L.all (fun c => isCode c || P c) = true) (h2 : ∀ c ∈ L.filter isCode, P c = true) : L.all P = true := by
  refine List.all_eq_true.mpr fun c hc => ?_
  have h := List.all_eq_true.mp h1 c hc
  rcases Bool.eq_false_or_eq_true (isCode c) with hi | hi
  · exact h2 c (List.mem_filter.mpr ⟨hc, hi⟩)
  · simpa [hi] using h
set_option maxRecDepth 65536 in
theorem w_c0 : (Jvm.Cond.code x code maxLocals ret).before args0 about1 = true := code_word (m := ⟨1, 1⟩) (meth := k1m1) (c := k1c1) (by decide +kernel) rfl rfl rfl (by decide +kernel)
set_option maxRecDepth 65536 in
theorem w_c1 : (Jvm.Cond.code ({ cls := "com/example/fanoline/fanoline/io/LineReader$Line", name := "<init>", desc := "(J[B)V" } : Jvm.MethodName) prog_29_method_1_code (4 : Nat) (Option.none : Option Jvm.ClassFile.FieldType)).before args0 about1 = true := code_word (m := ⟨3, 0⟩) (meth := k3m0) (c := k3c0) (by decide +kernel) rfl rfl rfl (by decide +kernel)
set_option maxRecDepth 65536 in
theorem w_c2 : (Jvm.Cond.code ({ cls := "java/lang/Record", name := "<init>", desc := "()V" } : Jvm.MethodName) jdk_30_method_1_code (1 : Nat) (Option.none : Option Jvm.ClassFile.FieldType)).before args0 about1 = true := code_word (m := ⟨2, 0⟩) (meth := k2m0) (c := k2c0) (by decide +kernel) rfl rfl rfl (by decide +kernel)
set_option maxRecDepth 65536 in
theorem w_c3 : (Jvm.Cond.code ({ cls := "java/lang/Object", name := "<init>", desc := "()V" } : Jvm.MethodName) object_method_1_code (1 : Nat) (Option.none : Option Jvm.ClassFile.FieldType)).before args0 about1 = true := code_word (m := ⟨0, 0⟩) (meth := k0m0) (c := k0c0) (by decide +kernel) rfl rfl rfl (by decide +kernel)
set_option maxRecDepth 65536 in
theorem w_c4 : (Jvm.Cond.code ({ cls := "com/example/fanoline/fanoline/io/LineReader$Line", name := "held", desc := "()Z" } : Jvm.MethodName) prog_29_method_2_code (1 : Nat) (Option.some Jvm.ClassFile.FieldType.boolean)).before args0 about1 = true := code_word (m := ⟨3, 1⟩) (meth := k3m1) (c := k3c1) (by decide +kernel) rfl rfl rfl (by decide +kernel)
def codes1 : List Jvm.Cond := [Jvm.Cond.code x code maxLocals ret, Jvm.Cond.code ({ cls := "com/example/fanoline/fanoline/io/LineReader$Line", name := "<init>", desc := "(J[B)V" } : Jvm.MethodName) prog_29_method_1_code (4 : Nat) (Option.none : Option Jvm.ClassFile.FieldType), Jvm.Cond.code ({ cls := "java/lang/Record", name := "<init>", desc := "()V" } : Jvm.MethodName) jdk_30_method_1_code (1 : Nat) (Option.none : Option Jvm.ClassFile.FieldType), Jvm.Cond.code ({ cls := "java/lang/Object", name := "<init>", desc := "()V" } : Jvm.MethodName) object_method_1_code (1 : Nat) (Option.none : Option Jvm.ClassFile.FieldType), Jvm.Cond.code ({ cls := "com/example/fanoline/fanoline/io/LineReader$Line", name := "held", desc := "()Z" } : Jvm.MethodName) prog_29_method_2_code (1 : Nat) (Option.some Jvm.ClassFile.FieldType.boolean)]
set_option maxRecDepth 65536 in
theorem codes_eq : words1.filter isCode = codes1 := rfl
theorem w_codes : ∀ c ∈ words1.filter isCode, c.before args0 about1 = true := by
  rw [codes_eq]
  intro c hc
  simp only [codes1, List.mem_cons, List.not_mem_nil, or_false] at hc
  rcases hc with rfl | rfl | rfl | rfl | rfl
  · exact w_c0
  · exact w_c1
  · exact w_c2
  · exact w_c3
  · exact w_c4
set_option maxRecDepth 65536 in
theorem w_t1 : (words1.take 24).all (fun c => isCode c || c.before args0 about1) = true := by decide +kernel
set_option maxRecDepth 65536 in
theorem w_t2 : (words1.drop 24).all (fun c => isCode c || c.before args0 about1) = true := by decide +kernel
theorem w_tables : (allAtoms (Jvm.Cond.code x code maxLocals ret :: tables_1)).before args0 about1 = true := by
  rw [allAtoms_all]
  show words1.all (fun c => c.before args0 about1) = true
  refine all_split ?_ w_codes
  rw [← List.take_append_drop 24 words1, List.all_append, w_t1, w_t2]
  rfl
set_option maxRecDepth 65536 in
theorem w_case : (Jvm.Cond.and given_1 narrow_1).before args0 about1 = true := by decide +kernel
theorem w_applies : (headSpec (Jvm.Cond.code x code maxLocals ret :: tables_1) room_1).applies x e0.platform about1 = true :=
  (Spec.applies_iff w_frames).mpr ⟨w_running, w_runnable, w_alone, w_named, w_hears, w_ripe, w_room, w_tables⟩
theorem atStart : AtStart classFile x code maxLocals ret World_1 tables_1 room_1 Calls_1 rest_1 Pre_1 launch0 p0 e0 about1 theMethod args0 below0 :=
  ⟨lists_1, trivial, launch0.admits_env _ _ _, launch0.least_env, fairChoices_fair.cas, fairChoices_fair.clock, w_frames, w_args, w_heap, w_applies, trivial, trivial, w_case⟩
end start1
theorem witness_1 : WitnessClaimed_1 := ⟨start1.p0, start1.e0, start1.about1, start1.theMethod, start1.args0, start1.below0, start1.atStart⟩
end Jvm.Pilot.@@N@@
