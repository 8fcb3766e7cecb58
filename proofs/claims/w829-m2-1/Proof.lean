import JvmDerived
import JvmDerived.Pilot.@@N@@Statement
import JvmDerived.Pilot.@@N@@Code
set_option linter.unusedVariables false
set_option linter.unusedSimpArgs false
@@BLOCK:NumsL.lean.txt@@
@@BLOCK:Masks.lean.txt@@
namespace Jvm.Pilot.@@N@@
open Jvm Jvm.ClassFile Sem Op Lib Jvm.Free Jvm.Stand Jvm.LawKit Jvm.RoadKit Bundle Jvm.Pilot.@@N@@.Jvm.D
def own_G (tb : Tables) (e : Env) (below : List Frame) (En : Outcome → State → List Loc → Prop) (Q : Option Value → Heap → List Loc → Prop) (U : State) : Prop :=
  ∃ t o, Steps tb e below U t ∧ t.status = .running ∧ Ended t below o ∧ ∃ v L, o = .returned v ∧ Q v t.heap L ∧ En o t L
/-- the frame at the end, counted from s -/
def own_E (s : State) (nc ns : Nat) (o : Outcome) (t : State) (L : List Loc) : Prop := FrameEnd s o t L nc ns
theorem own_st {tb : Tables} {e : Env} {below : List Frame} {En : Outcome → State → List Loc → Prop} {Q : Option Value → Heap → List Loc → Prop} {U U' : State} (h : own_G tb e below En Q U') (st : ∀ t, Steps tb e below U' t → Steps tb e below U t) : own_G tb e below En Q U := by
  obtain ⟨t, o, h1, h2⟩ := h
  exact ⟨t, o, st t h1, h2⟩
section OwnRet
variable {p : Program} {l : Launch} {e : Env} {R : Room} {s : State} {m : MethodId} {args : Array Value} {below : List Frame} {meth : Method} {c : Code} {T : State} {locs : List Loc} {cells slots : Nat}
theorem own_retN (X : Stand p l e R s m args below meth c T locs cells slots) (hx : p.tables.exec = Jvm.exec) (hlk : meth.locks = false) {pc : Nat} {Ls : Array Slot} {z z' : Int32} {t : FieldType} {rest : List Value} (hret : meth.sig.returnType = some t) (ht : t = .boolean ∨ t = .byte ∨ t = .char ∨ t = .short)
    (hd : decode c.code pc = .ok (.ireturn, 1)) {Q : Option Value → Heap → List Loc → Prop} {nc ns : Nat} (hc : cells ≤ nc) (hs : slots ≤ ns) (hz : nar t z = z') (hQ : Q (some (.int z')) T.heap locs) : own_G p.tables e below (own_E s nc ns) Q (T.setTop (mkF m pc Ls (.int z :: rest))) := by
  subst hz
  obtain ⟨fs, hr, hrun, hended, hW, hsame⟩ := X.leave (v := some (.int (nar t z))) (fun h => by rw [hret] at h; cases h) hlk
  exact ⟨_, _, retN X hx hret ht hd hr, hrun, hended, _, _, rfl, hQ, ⟨_, rfl⟩, hW, hsame.mono hc hs⟩
theorem own_retI (X : Stand p l e R s m args below meth c T locs cells slots) (hx : p.tables.exec = Jvm.exec) (hlk : meth.locks = false) {pc : Nat} {Ls : Array Slot} {z : Int32} {rest : List Value} (hret : meth.sig.returnType = some .int)
    (hd : decode c.code pc = .ok (.ireturn, 1)) {Q : Option Value → Heap → List Loc → Prop} {nc ns : Nat} (hc : cells ≤ nc) (hs : slots ≤ ns) (hQ : Q (some (.int z)) T.heap locs) : own_G p.tables e below (own_E s nc ns) Q (T.setTop (mkF m pc Ls (.int z :: rest))) := by
  obtain ⟨fs, hr, hrun, hended, hW, hsame⟩ := X.leave (v := some (.int z)) (fun h => by rw [hret] at h; cases h) hlk
  exact ⟨_, _, retOut X hx hret rfl (Or.inl ⟨rfl, Or.inl rfl, _, rfl⟩) hd hr, hrun, hended, _, _, rfl, hQ, ⟨_, rfl⟩, hW, hsame.mono hc hs⟩
theorem own_retJ (X : Stand p l e R s m args below meth c T locs cells slots) (hx : p.tables.exec = Jvm.exec) (hlk : meth.locks = false) {pc : Nat} {Ls : Array Slot} {z : Int64} {rest : List Value} (hret : meth.sig.returnType = some .long)
    (hd : decode c.code pc = .ok (.lreturn, 1)) {Q : Option Value → Heap → List Loc → Prop} {nc ns : Nat} (hc : cells ≤ nc) (hs : slots ≤ ns) (hQ : Q (some (.long z)) T.heap locs) : own_G p.tables e below (own_E s nc ns) Q (T.setTop (mkF m pc Ls (.long z :: rest))) := by
  obtain ⟨fs, hr, hrun, hended, hW, hsame⟩ := X.leave (v := some (.long z)) (fun h => by rw [hret] at h; cases h) hlk
  exact ⟨_, _, retOut X hx hret rfl (Or.inr (Or.inl ⟨rfl, rfl, _, rfl⟩)) hd hr, hrun, hended, _, _, rfl, hQ, ⟨_, rfl⟩, hW, hsame.mono hc hs⟩
theorem own_retA (X : Stand p l e R s m args below meth c T locs cells slots) (hx : p.tables.exec = Jvm.exec) (hlk : meth.locks = false) {pc : Nat} {Ls : Array Slot} {z : Value} {t : FieldType} {rest : List Value} (hret : meth.sig.returnType = some t) (ht : t.isReference = true) (hn : narrow t z = z) (hv : z.isRef = true)
    (hd : decode c.code pc = .ok (.areturn, 1)) {Q : Option Value → Heap → List Loc → Prop} {nc ns : Nat} (hc : cells ≤ nc) (hs : slots ≤ ns) (hQ : Q (some z) T.heap locs) : own_G p.tables e below (own_E s nc ns) Q (T.setTop (mkF m pc Ls (z :: rest))) := by
  obtain ⟨fs, hr, hrun, hended, hW, hsame⟩ := X.leave (v := some z) (fun h => by rw [hret] at h; cases h) hlk
  exact ⟨_, _, retOut X hx hret hn (Or.inr (Or.inr (Or.inr (Or.inr ⟨rfl, ht, hv⟩)))) hd hr, hrun, hended, _, _, rfl, hQ, ⟨_, rfl⟩, hW, hsame.mono hc hs⟩
theorem own_retV (X : Stand p l e R s m args below meth c T locs cells slots) (hx : p.tables.exec = Jvm.exec) (hlk : meth.locks = false) {pc : Nat} {Ls : Array Slot} (hret : meth.sig.returnType = none)
    (hd : decode c.code pc = .ok (.return_, 1)) {Q : Option Value → Heap → List Loc → Prop} {nc ns : Nat} (hc : cells ≤ nc) (hs : slots ≤ ns) (hQ : Q none T.heap locs) : own_G p.tables e below (own_E s nc ns) Q (T.setTop (mkF m pc Ls [])) := by
  obtain ⟨fs, hr, hrun, hended, hW, hsame⟩ := X.leave (v := none) (fun _ => rfl) hlk
  exact ⟨_, _, X.returnOut hx hret hd hr, hrun, hended, _, _, rfl, hQ, ⟨_, rfl⟩, hW, hsame.mono hc hs⟩
/-- the wide frame at the end: Strings may have been interned -/
def own_EW (s : State) (nc ns : Nat) (o : Outcome) (t : State) (L : List Loc) : Prop := ReturnedEndW s o t L nc ns
theorem own_retNW {vm1 : Vm} (X : Stand p l e R (s.setVm vm1) m args below meth c T locs cells slots) (hx : p.tables.exec = Jvm.exec) (hlk : meth.locks = false) {k : Nat} (hS : s.Since vm1 k) (hk : k ≤ T.heap.size) {pc : Nat} {Ls : Array Slot} {z z' : Int32} {t : FieldType} {rest : List Value} (hret : meth.sig.returnType = some t) (ht : t = .boolean ∨ t = .byte ∨ t = .char ∨ t = .short)
    (hd : decode c.code pc = .ok (.ireturn, 1)) {Q : Option Value → Heap → List Loc → Prop} {nc ns : Nat} (hc : cells ≤ nc) (hs : slots ≤ ns) (hz : nar t z = z') (hQ : Q (some (.int z')) T.heap locs) : own_G p.tables e below (own_EW s nc ns) Q (T.setTop (mkF m pc Ls (.int z :: rest))) := by
  subst hz
  obtain ⟨fs, hr, hrun, hended, h1, h2, h3, h4⟩ := X.leaveW hS hk (v := some (.int (nar t z))) (fun h => by rw [hret] at h; cases h) hlk
  exact ⟨_, _, retN X hx hret ht hd hr, hrun, hended, _, _, rfl, hQ, h1, h2, h3, h4.mono hc hs⟩
end OwnRet
/-- it returns r; nothing old is written (own_QV: the heap is as it was) -/
def own_QL (r : Value) (n0 : Nat) (v : Option Value) (h : Heap) (L : List Loc) : Prop := v = some r ∧ Fr n0 L
def own_QN (h0 : Heap) (n0 : Nat) (v : Option Value) (h : Heap) (L : List Loc) : Prop := v = none ∧ Fr n0 L ∧ h = h0
def own_QV (r : Value) (h0 : Heap) (n0 : Nat) (v : Option Value) (h : Heap) (L : List Loc) : Prop := v = some r ∧ Fr n0 L ∧ h = h0
def own_upd (g : Nat → Int32) (j : Nat) (x : Int32) : Nat → Int32 := fun i => if i = j then x else g i
/-- a boolean[] of n places that hold g -/
def own_F (Z : State) (h : Heap) (t : Addr) (n : Int32) (g : Nat → Int32) : Prop := ∃ (k : ClassId) (vs : List Value), Arv Z h t k .boolean n vs (.int 0) ∧ vs.length = n.toNatClampNeg ∧ ∀ i, i < n.toNatClampNeg → vs.getD i (.int 0) = .int (g i)
theorem own_F_new {Z : State} {h : Heap} {t : Addr} {k : ClassId} {n : Int32} (F : Arv Z h t k .boolean n [] (defaultValue .boolean)) : own_F Z h t n (fun _ => 0) := by
  refine ⟨k, [] ++ List.replicate n.toNatClampNeg (.int 0), Arv.pad F (pad_rep [] (.int 0) _), by simp, fun i hi => ?_⟩
  simp [List.getD, hi]
theorem own_F_ext {Z : State} {h h' : Heap} {t : Addr} {n : Int32} {g : Nat → Int32} (F : own_F Z h t n g) (E : Ext h h') : own_F Z h' t n g := by obtain ⟨k, vs, A, r⟩ := F; exact ⟨k, vs, A.ext E, r⟩
theorem own_F_keep {Z : State} {h h' : Heap} {t : Addr} {n : Int32} {g : Nat → Int32} {ws : List Addr} (F : own_F Z h t n g) (K : Keep h h' ws) (q : t ∉ ws) : own_F Z h' t n g := by obtain ⟨k, vs, A, r⟩ := F; exact ⟨k, vs, A.keep K q, r⟩
theorem own_F_lt {Z : State} {h : Heap} {t : Addr} {n : Int32} {g : Nat → Int32} (F : own_F Z h t n g) : t < h.size := by obtain ⟨k, vs, A, r⟩ := F; exact A.lt
theorem own_F_open {Z : State} {h : Heap} {t : Addr} {n : Int32} {g : Nat → Int32} (F : own_F Z h t n g) : ∃ c : Cell, Arr Z h t c .boolean ∧ c.slots.size = n.toNatClampNeg ∧ ¬ n < 0 ∧ ∀ i, i < n.toNatClampNeg → c.slots[i]? = some (.int (g i)) := by
  obtain ⟨k, vs, ⟨c, A, -, S, q, H, -⟩, hl, hg⟩ := F
  exact ⟨c, A, S, q, fun i hi => by rw [H i (by omega), hg i hi]⟩
theorem own_F_set {Z : State} {h h' : Heap} {t : Addr} {n j : Int32} {g : Nat → Int32} {jN : Nat} {x : Int32} (F : own_F Z h t n g) (W : Wr h h' t j.toNatClampNeg (.int x)) (hx : fits .boolean (.int x) = true) (hj : j.toNatClampNeg = jN) (hn : jN < n.toNatClampNeg) : own_F Z h' t n (own_upd g jN x) := by
  obtain ⟨k, vs, ⟨c, A, q1, S, q3, H, G⟩, hl, hg⟩ := F
  refine ⟨k, vs.set jN (.int x), Arv.set A q1 S q3 H G hx W jN hj (by omega), by simp [hl], fun i hi => ?_⟩
  have hi' : i < vs.length := by omega
  have q := hg i hi
  by_cases e : i = jN
  · subst e; simp [List.getD, own_upd, hi']
  · simp only [List.getD, own_upd, if_neg e] at q ⊢
    rw [List.getElem?_set_ne (Ne.symm e)]; exact q
theorem own_F_copy {Z : State} {h : Heap} {b : Addr} {k : ClassId} {vs : List Value} {g : Nat → Int32}
    (B : Arv Z h b k .boolean 16 ((List.replicate 16 (Value.int 0)).take 0 ++ ((List.range 8).map fun i => vs.getD (0 + i) (.int 0)) ++ (List.replicate 16 (Value.int 0)).drop (0 + 8)) (.int 0)) (hg : ∀ i, i < 8 → vs.getD i (.int 0) = .int (g i)) (h8 : ∀ i, 8 ≤ i → g i = 0) : own_F Z h b 16 g := by
  refine ⟨k, _, B, by rfl, fun i hi => ?_⟩
  have hi16 : i < 16 := hi
  have e : ((List.replicate 16 (Value.int 0)).take 0 ++ ((List.range 8).map fun i => vs.getD (0 + i) (.int 0)) ++ (List.replicate 16 (Value.int 0)).drop (0 + 8)) = [.int (g 0), .int (g 1), .int (g 2), .int (g 3), .int (g 4), .int (g 5), .int (g 6), .int (g 7), .int 0, .int 0, .int 0, .int 0, .int 0, .int 0, .int 0, .int 0] := by
    rw [← hg 0 (by decide), ← hg 1 (by decide), ← hg 2 (by decide), ← hg 3 (by decide), ← hg 4 (by decide), ← hg 5 (by decide), ← hg 6 (by decide), ← hg 7 (by decide)]; rfl
  rw [e]
  by_cases hlt : i < 8
  · have : i = 0 ∨ i = 1 ∨ i = 2 ∨ i = 3 ∨ i = 4 ∨ i = 5 ∨ i = 6 ∨ i = 7 := by omega
    rcases this with rfl | rfl | rfl | rfl | rfl | rfl | rfl | rfl <;> rfl
  · rw [h8 i (by omega)]
    have : i = 8 ∨ i = 9 ∨ i = 10 ∨ i = 11 ∨ i = 12 ∨ i = 13 ∨ i = 14 ∨ i = 15 := by omega
    rcases this with rfl | rfl | rfl | rfl | rfl | rfl | rfl | rfl <;> rfl
def own_QK (Z : State) (r : Option Value) (ws : List Addr) (P : Heap → Prop) (h0 : Heap) (n0 : Nat) (v : Option Value) (h : Heap) (L : List Loc) : Prop := v = r ∧ Fr n0 L ∧ Keep h0 h ws ∧ P h
theorem own_mask7 (x : Int32) : ¬ (x &&& 7) < 0 ∧ (x &&& 7).toNatClampNeg < 8 := by
  have h := Jvm.Kit.i32_mask x 7 (k := 3) (by decide) (by decide)
  have e0 : (0 : Int32).toInt = 0 := by decide
  rw [Int32.lt_iff_toInt_lt, Int32.toNatClampNeg, e0, h]; omega
theorem own_clamp_inj {x y : Int32} (hx : ¬ x < 0) (hy : ¬ y < 0) (h : x.toNatClampNeg = y.toNatClampNeg) : x = y := by
  have e0 : (0 : Int32).toInt = 0 := by decide
  rw [Int32.lt_iff_toInt_lt, e0] at hx hy
  rw [Int32.toNatClampNeg, Int32.toNatClampNeg] at h
  exact Int32.toInt_inj.mp (by omega)
theorem own_inb {c : Nat} {n j : Int32} (S : c = n.toNatClampNeg) (h0 : ¬ j < 0) (hj : j.toNatClampNeg < n.toNatClampNeg) : ¬ (j < 0 ∨ c ≤ j.toNatClampNeg) := by
  rw [S]; intro q; rcases q with q | q
  · exact h0 q
  · omega
theorem d8_0 : decode jdk_29_method_69_code 0 = .ok (.iload_n 0, 1) := by decide +kernel
theorem d8_1 : decode jdk_29_method_69_code 1 = .ok (.iload_n 1, 1) := by decide +kernel
theorem d8_2 : decode jdk_29_method_69_code 2 = .ok (.if_icmp .gt 7, 3) := by decide +kernel
theorem d8_5 : decode jdk_29_method_69_code 5 = .ok (.iload_n 0, 1) := by decide +kernel
theorem d8_6 : decode jdk_29_method_69_code 6 = .ok (.goto 4, 3) := by decide +kernel
theorem d8_9 : decode jdk_29_method_69_code 9 = .ok (.iload_n 1, 1) := by decide +kernel
theorem d8_10 : decode jdk_29_method_69_code 10 = .ok (.ireturn, 1) := by decide +kernel
def f8 (p0 : Int32) (p1 : Int32) : Int32 := (if p1 < p0 then p1 else p0)

theorem ef_8 (m : MethodId) (p0 : Int32) (p1 : Int32) : entryFrame m #[(.int p0), (.int p1)] 2 = mkF m 0 #[.val (.int p0), .val (.int p1)] [] := by first | (simp [entryFrame, mkF, argsToLocals, Value.category]; done) | rfl
set_option maxRecDepth 65536 in
set_option maxHeartbeats 40000000 in
theorem rm8 (l : Launch) (Z : State) (a0 : Array Value) (hw : ∀ d ∈ tables_1, d.before a0 Z = true) (ws : List Jvm.Cond) (p0 : Int32) (p1 : Int32) (h0 : Heap) (n0 : Nat) (Z0 : n0 ≤ h0.size) :
    MetFree l (⟨"java/lang/Math", "min", "(II)I"⟩ : MethodName) (head1 (Jvm.Cond.code (⟨"java/lang/Math", "min", "(II)I"⟩ : MethodName) jdk_29_method_69_code 2 (some .int) :: ws) ({ frames := 0, cells := 0, slots := 0, locals := 0 } : Room)) (fun a U => a = #[(.int p0), (.int p1)] ∧ Z.Warmed39 U.vm ∧ U.heap = h0) (fun _ _ _ _ _ => True) (fun _ U o U' => ∃ v L, o = .returned v ∧ own_QV (.int (f8 p0 p1 )) h0 n0 v U'.heap L ∧ FrameEnd U o U' L ({ frames := 0, cells := 0, slots := 0, locals := 0 } : Room).cells ({ frames := 0, cells := 0, slots := 0, locals := 0 } : Room).slots) := by
  refine MetFree.of_bodySF (Jvm.Free.JP.mathPlain rfl (by decide +kernel)) hisR ?_
  intro p e s m args below meth c s₁ Bd hml0 hP hK
  obtain ⟨rfl, hZ, hh⟩ := hP
  have hx := Bd.exec
  have hby := Bd.bytes
  have hlk : meth.locks = false := BodyLoose.notSynchronized Bd
  have hret := Bd.returns
  have hml : c.maxLocals = 2 := hml0
  have hown : s.vm.findClass "java/lang/Math" = some m.cls := findClass_of_methodNamed Bd.named
  have hnm := (name_of_methodNamed Bd.named Bd.method).1
  have X0 : Stand p l e ({ frames := 0, cells := 0, slots := 0, locals := 0 } : Room) s m #[(.int p0), (.int p1)] below meth c s₁ [] 0 0 := Stand.of_body Bd
  have e0 : s₁.heap = h0 := by rw [← hh, Bd.state]; rfl
  have N0 := Fr.nil n0
  show own_G p.tables e below (own_E s ({ frames := 0, cells := 0, slots := 0, locals := 0 } : Room).cells ({ frames := 0, cells := 0, slots := 0, locals := 0 } : Room).slots) (own_QV (.int (f8 p0 p1 )) h0 n0) (s₁.setTop (entryFrame m #[(.int p0), (.int p1)] 2))
  refine own_st ?_ (fun t k => castTop (ef_8 m p0 p1) k)
  show own_G p.tables e below _ _ (s₁.setTop (mkF m 0 #[.val (.int p0), .val (.int p1)] []))
  refine own_st ?_ (fun t k => XS.iloadN X0.here hx rfl (hb hby d8_0) rfl k)
  show own_G p.tables e below _ _ (s₁.setTop (mkF m 1 #[.val (.int p0), .val (.int p1)] [(.int p0)]))
  refine own_st ?_ (fun t k => XS.iloadN X0.here hx rfl (hb hby d8_1) rfl k)
  show own_G p.tables e below _ _ (s₁.setTop (mkF m 2 #[.val (.int p0), .val (.int p1)] [(.int p1), (.int p0)]))
  by_cases hc2 : p1 < p0
  · refine own_st ?_ (fun t k => XS.icmpYes X0.here hx rfl (pc0 := 2) (pc' := 9) rfl (hb hby d8_2) rfl (tlt hc2).2.2.1 (by decide) (by decide) k)
    show own_G p.tables e below _ _ (s₁.setTop (mkF m 9 #[.val (.int p0), .val (.int p1)] []))
    refine own_st ?_ (fun t k => XS.iloadN X0.here hx rfl (hb hby d8_9) rfl k)
    show own_G p.tables e below _ _ (s₁.setTop (mkF m 10 #[.val (.int p0), .val (.int p1)] [(.int p1)]))
    refine own_retI X0 hx hlk hret (hb hby d8_10) (by decide) (by decide) ⟨?_, N0, e0⟩
    rw [show f8 p0 p1  = p1 from (if_pos hc2).trans (rfl)]
  · refine own_st ?_ (fun t k => XS.icmpNo X0.here hx rfl (hb hby d8_2) rfl (flt hc2).2.2.1 k)
    show own_G p.tables e below _ _ (s₁.setTop (mkF m 5 #[.val (.int p0), .val (.int p1)] []))
    refine own_st ?_ (fun t k => XS.iloadN X0.here hx rfl (hb hby d8_5) rfl k)
    show own_G p.tables e below _ _ (s₁.setTop (mkF m 6 #[.val (.int p0), .val (.int p1)] [(.int p0)]))
    refine own_st ?_ (fun t k => XS.goto X0.here hx rfl (pc0 := 6) (pc' := 10) rfl (hb hby d8_6) (by decide) (by decide) k)
    show own_G p.tables e below _ _ (s₁.setTop (mkF m 10 #[.val (.int p0), .val (.int p1)] [(.int p0)]))
    refine own_retI X0 hx hlk hret (hb hby d8_10) (by decide) (by decide) ⟨?_, N0, e0⟩
    rw [show f8 p0 p1  = p0 from (if_neg hc2).trans (rfl)]
theorem d5_0 : decode jdk_92_method_1_code 0 = .ok (.iload_n 0, 1) := by decide +kernel
theorem d5_1 : decode jdk_92_method_1_code 1 = .ok (.bipush 6, 2) := by decide +kernel
theorem d5_3 : decode jdk_92_method_1_code 3 = .ok (.ishr, 1) := by decide +kernel
theorem d5_4 : decode jdk_92_method_1_code 4 = .ok (.ireturn, 1) := by decide +kernel
def f5 (p0 : Int32) : Int32 := (p0 >>> ((6 : Int32) &&& 31))
theorem pn_5 : plainName "java/util/BitSet" = true := by first | (simp [plainName, overriddenIn]; done) | decide +kernel
theorem ef_5 (m : MethodId) (p0 : Int32) : entryFrame m #[(.int p0)] 1 = mkF m 0 #[.val (.int p0)] [] := by first | (simp [entryFrame, mkF, argsToLocals, Value.category]; done) | rfl
set_option maxRecDepth 65536 in
set_option maxHeartbeats 40000000 in
theorem rm5 (l : Launch) (Z : State) (a0 : Array Value) (hw : ∀ d ∈ tables_1, d.before a0 Z = true) (ws : List Jvm.Cond) (p0 : Int32) (h0 : Heap) (n0 : Nat) (Z0 : n0 ≤ h0.size) :
    MetFree l (⟨"java/util/BitSet", "wordIndex", "(I)I"⟩ : MethodName) (head1 (Jvm.Cond.code (⟨"java/util/BitSet", "wordIndex", "(I)I"⟩ : MethodName) jdk_92_method_1_code 1 (some .int) :: ws) ({ frames := 0, cells := 0, slots := 0, locals := 0 } : Room)) (fun a U => a = #[(.int p0)] ∧ Z.Warmed39 U.vm ∧ U.heap = h0) (fun _ _ _ _ _ => True) (fun _ U o U' => ∃ v L, o = .returned v ∧ own_QV (.int (f5 p0 )) h0 n0 v U'.heap L ∧ FrameEnd U o U' L ({ frames := 0, cells := 0, slots := 0, locals := 0 } : Room).cells ({ frames := 0, cells := 0, slots := 0, locals := 0 } : Room).slots) := by
  refine MetFree.of_bodySF (plainFor_of_name pn_5) hisR ?_
  intro p e s m args below meth c s₁ Bd hml0 hP hK
  obtain ⟨rfl, hZ, hh⟩ := hP
  have hx := Bd.exec
  have hby := Bd.bytes
  have hlk : meth.locks = false := BodyLoose.notSynchronized Bd
  have hret := Bd.returns
  have hml : c.maxLocals = 1 := hml0
  have hown : s.vm.findClass "java/util/BitSet" = some m.cls := findClass_of_methodNamed Bd.named
  have hnm := (name_of_methodNamed Bd.named Bd.method).1
  have X0 : Stand p l e ({ frames := 0, cells := 0, slots := 0, locals := 0 } : Room) s m #[(.int p0)] below meth c s₁ [] 0 0 := Stand.of_body Bd
  have e0 : s₁.heap = h0 := by rw [← hh, Bd.state]; rfl
  have N0 := Fr.nil n0
  show own_G p.tables e below (own_E s ({ frames := 0, cells := 0, slots := 0, locals := 0 } : Room).cells ({ frames := 0, cells := 0, slots := 0, locals := 0 } : Room).slots) (own_QV (.int (f5 p0 )) h0 n0) (s₁.setTop (entryFrame m #[(.int p0)] 1))
  refine own_st ?_ (fun t k => castTop (ef_5 m p0) k)
  show own_G p.tables e below _ _ (s₁.setTop (mkF m 0 #[.val (.int p0)] []))
  refine own_st ?_ (fun t k => XS.iloadN X0.here hx rfl (hb hby d5_0) rfl k)
  show own_G p.tables e below _ _ (s₁.setTop (mkF m 1 #[.val (.int p0)] [(.int p0)]))
  refine own_st ?_ (fun t k => XS.bipush X0.here hx rfl (hb hby d5_1) k)
  show own_G p.tables e below _ _ (s₁.setTop (mkF m 3 #[.val (.int p0)] [(.int (6 : Int32)), (.int p0)]))
  refine own_st ?_ (fun t k => XS.ishr X0.here hx rfl (hb hby d5_3) rfl k)
  show own_G p.tables e below _ _ (s₁.setTop (mkF m 4 #[.val (.int p0)] [(.int (p0 >>> ((6 : Int32) &&& 31)))]))
  refine own_retI X0 hx hlk hret (hb hby d5_4) (by decide) (by decide) ⟨?_, N0, e0⟩
  rw [show f5 p0  = (p0 >>> ((6 : Int32) &&& 31)) from rfl]
theorem pd_0 : parseMethodDescriptor "(I)I" = some ⟨[.int], some .int⟩ := by decide +kernel
theorem d4_0 : decode jdk_92_method_6_code 0 = .ok (.aload_n 0, 1) := by decide +kernel
theorem d4_1 : decode jdk_92_method_6_code 1 = .ok (.iload_n 1, 1) := by decide +kernel
theorem d4_2 : decode jdk_92_method_6_code 2 = .ok (.iconst 1, 1) := by decide +kernel
theorem d4_3 : decode jdk_92_method_6_code 3 = .ok (.isub, 1) := by decide +kernel
theorem d4_4 : decode jdk_92_method_6_code 4 = .ok (.invokestatic 52, 3) := by decide +kernel
theorem d4_7 : decode jdk_92_method_6_code 7 = .ok (.iconst 1, 1) := by decide +kernel
theorem d4_8 : decode jdk_92_method_6_code 8 = .ok (.iadd, 1) := by decide +kernel
theorem d4_9 : decode jdk_92_method_6_code 9 = .ok (.newarray .long, 2) := by decide +kernel
theorem d4_11 : decode jdk_92_method_6_code 11 = .ok (.putfield 11, 3) := by decide +kernel
theorem d4_14 : decode jdk_92_method_6_code 14 = .ok (.return_, 1) := by decide +kernel
theorem pn_4 : plainName "java/util/BitSet" = true := by first | (simp [plainName, overriddenIn]; done) | decide +kernel
theorem ef_4 (m : MethodId) (a0 : Addr) : entryFrame m #[(.ref a0), (.int (64 : Int32))] 2 = mkF m 0 #[.val (.ref a0), .val (.int (64 : Int32))] [] := by first | (simp [entryFrame, mkF, argsToLocals, Value.category]; done) | rfl
set_option maxRecDepth 65536 in
set_option maxHeartbeats 40000000 in
theorem rm4 (l : Launch) (Z : State) (a0 : Array Value) (hw : ∀ d ∈ tables_1, d.before a0 Z = true) (ws : List Jvm.Cond) (a0 : Addr) (u2 : Value) (u3 : Value) (h0 : Heap) (n0 : Nat) (Z0 : n0 ≤ h0.size) (g_a0 : n0 ≤ a0) (E0 : Exa Z h0 a0 "java/util/BitSet") (F2 : Fld Z h0 a0 "java/util/BitSet" "sizeIsSticky" "Z" u2) (F3 : Fld Z h0 a0 "java/util/BitSet" "words" "[J" u3) :
    MetFree l (⟨"java/util/BitSet", "initWords", "(I)V"⟩ : MethodName) (head1 (Jvm.Cond.code (⟨"java/util/BitSet", "initWords", "(I)V"⟩ : MethodName) jdk_92_method_6_code 2 none :: ws) ({ frames := 1, cells := 1, slots := 1, locals := 13 } : Room)) (fun a U => a = #[(.ref a0), (.int (64 : Int32))] ∧ Z.Warmed39 U.vm ∧ U.heap = h0) (fun _ _ _ _ _ => True) (fun _ U o U' => ∃ v L, o = .returned v ∧ own_QK Z none [a0] (fun h => Fld Z h a0 "java/util/BitSet" "sizeIsSticky" "Z" u2) h0 n0 v U'.heap L ∧ FrameEnd U o U' L ({ frames := 1, cells := 1, slots := 1, locals := 13 } : Room).cells ({ frames := 1, cells := 1, slots := 1, locals := 13 } : Room).slots) := by
  refine MetFree.of_bodySF (plainFor_of_name pn_4) hisR ?_
  intro p e s m args below meth c s₁ Bd hml0 hP hK
  obtain ⟨rfl, hZ, hh⟩ := hP
  have hx := Bd.exec
  have hby := Bd.bytes
  have hlk : meth.locks = false := BodyLoose.notSynchronized Bd
  have hret := Bd.returns
  have hml : c.maxLocals = 2 := hml0
  have hown : s.vm.findClass "java/util/BitSet" = some m.cls := findClass_of_methodNamed Bd.named
  have hnm := (name_of_methodNamed Bd.named Bd.method).1
  have X0 : Stand p l e ({ frames := 1, cells := 1, slots := 1, locals := 13 } : Room) s m #[(.ref a0), (.int (64 : Int32))] below meth c s₁ [] 0 0 := Stand.of_body Bd
  have e0 : s₁.heap = h0 := by rw [← hh, Bd.state]; rfl
  have N0 := Fr.nil n0
  show own_G p.tables e below (own_E s ({ frames := 1, cells := 1, slots := 1, locals := 13 } : Room).cells ({ frames := 1, cells := 1, slots := 1, locals := 13 } : Room).slots) (own_QK Z none [a0] (fun h => Fld Z h a0 "java/util/BitSet" "sizeIsSticky" "Z" u2) h0 n0) (s₁.setTop (entryFrame m #[(.ref a0), (.int (64 : Int32))] 2))
  refine own_st ?_ (fun t k => castTop (ef_4 m a0) k)
  show own_G p.tables e below _ _ (s₁.setTop (mkF m 0 #[.val (.ref a0), .val (.int (64 : Int32))] []))
  refine own_st ?_ (fun t k => XS.aloadN X0.here hx rfl (hb hby d4_0) rfl rfl k)
  show own_G p.tables e below _ _ (s₁.setTop (mkF m 1 #[.val (.ref a0), .val (.int (64 : Int32))] [(.ref a0)]))
  refine own_st ?_ (fun t k => XS.iloadN X0.here hx rfl (hb hby d4_1) rfl k)
  show own_G p.tables e below _ _ (s₁.setTop (mkF m 2 #[.val (.ref a0), .val (.int (64 : Int32))] [(.int (64 : Int32)), (.ref a0)]))
  refine own_st ?_ (fun t k => XS.iconst X0.here hx rfl (hb hby d4_2) k)
  show own_G p.tables e below _ _ (s₁.setTop (mkF m 3 #[.val (.ref a0), .val (.int (64 : Int32))] [(.int (1 : Int32)), (.int (64 : Int32)), (.ref a0)]))
  refine own_st ?_ (fun t k => XS.isub X0.here hx rfl (hb hby d4_3) rfl k)
  show own_G p.tables e below _ _ (s₁.setTop (mkF m 4 #[.val (.ref a0), .val (.int (64 : Int32))] [(.int ((64 : Int32) - (1 : Int32))), (.ref a0)]))
  obtain ⟨_, _, ⟨T1, L1, k1, n1⟩, -, X1, ⟨Lc1, hQ1, l1, y1, z1⟩, st1⟩ := Jvm.LawKit.callS X0 hx (y := (⟨"java/util/BitSet", "wordIndex", "(I)I"⟩ : MethodName)) hown (mvT hZ (hw _ (List.mem_of_getElem? (i := 25) rfl))) (mvT hZ (hw _ (List.mem_of_getElem? (i := 26) rfl))) (mvT hZ (hw _ (List.mem_of_getElem? (i := 11) rfl))) (mvT hZ (hw _ (List.mem_of_getElem? (i := 27) rfl))) (by decide) (backOf (W := 1) (rm5 l Z _ hw [] ((64 : Int32) - (1 : Int32))  h0 n0 Z0 ) hZ (hw _ (List.mem_of_getElem? (i := 27) rfl)) (hw _ (List.mem_of_getElem? (i := 11) rfl)) (by decide) (by decide)) (g := (mkF m 4 #[.val (.ref a0), .val (.int (64 : Int32))] [(.int ((64 : Int32) - (1 : Int32))), (.ref a0)])) rfl (by rw [hml]; rfl) (argsL := [(.int ((64 : Int32) - (1 : Int32)))]) (rest := [(.ref a0)]) (lenOf pd_0 rfl) rfl (by show 2 * 0 + _ ≤ _; exact Nat.le_of_eq rfl) (hb hby d4_4) (fun _ _ => ⟨rfl, e0, (by decide : 0 + 0 ≤ _), (by decide : 0 + 0 ≤ _)⟩)
  dsimp only [Pt.U, Pt.locs, Pt.cells, Pt.slots] at X1 l1 y1 z1 st1 hQ1
  subst l1 y1 z1
  obtain ⟨rfl, N1q, e1⟩ := hQ1
  have N1 := Fr.app N0 N1q
  refine own_st ?_ st1
  show own_G p.tables e below _ _ (T1.setTop (mkF m 7 #[.val (.ref a0), .val (.int (64 : Int32))] [(.int (f5 ((64 : Int32) - (1 : Int32)))), (.ref a0)]))
  refine own_st ?_ (fun t k => XS.iconst X1.here hx rfl (hb hby d4_7) k)
  show own_G p.tables e below _ _ (T1.setTop (mkF m 8 #[.val (.ref a0), .val (.int (64 : Int32))] [(.int (1 : Int32)), (.int (f5 ((64 : Int32) - (1 : Int32)))), (.ref a0)]))
  refine own_st ?_ (fun t k => XS.iadd X1.here hx rfl (hb hby d4_8) rfl k)
  show own_G p.tables e below _ _ (T1.setTop (mkF m 9 #[.val (.ref a0), .val (.int (64 : Int32))] [(.int ((f5 ((64 : Int32) - (1 : Int32))) + (1 : Int32))), (.ref a0)]))
  obtain ⟨T2, h2, k2, X2, e2, E2, A2, st2⟩ := newP X1 hx hZ (hw _ (List.mem_of_getElem? (i := 28) rfl)) e1 (g := (mkF m 9 #[.val (.ref a0), .val (.int (64 : Int32))] [(.int ((f5 ((64 : Int32) - (1 : Int32))) + (1 : Int32))), (.ref a0)])) rfl (hb hby d4_9) rfl (by decide +kernel) (cap := 1) (by decide +kernel) (by decide) (by decide) (by decide)
  obtain ⟨b2, gz2⟩ : ∃ z, z = h0.size := ⟨_, rfl⟩
  rw [← gz2] at A2 st2
  have ne_a0_b2 : a0 ≠ b2 := Nat.ne_of_lt (Nat.lt_of_lt_of_le E0.lt (Nat.le_of_eq gz2.symm))
  have g_b2 : n0 ≤ b2 := Nat.le_trans Z0 (Nat.le_of_eq gz2.symm)
  have sz_b2 : h0.size ≤ b2 := Nat.le_trans (Keep.refl h0 [a0]).1 (Nat.le_of_eq gz2.symm)
  have F3_E : Exa Z h2 a0 "java/util/BitSet" := E0.ext E2
  have F4_sizeIsSticky : Fld Z h2 a0 "java/util/BitSet" "sizeIsSticky" "Z" u2 := F2.ext E2
  have F5_words : Fld Z h2 a0 "java/util/BitSet" "words" "[J" u3 := F3.ext E2
  have Zs6 : n0 ≤ h2.size := Nat.le_trans Z0 E2.1
  have Kc7 : Keep h0 h2 [a0] := (Keep.refl h0 [a0]).ext E2
  refine own_st ?_ st2
  show own_G p.tables e below _ _ (T2.setTop (mkF m 11 #[.val (.ref a0), .val (.int (64 : Int32))] [(.ref b2), (.ref a0)]))
  obtain ⟨T8, h8, X8, e8, W8, st8⟩ := putF X2 hx hZ hown (host := "") (Or.inl (hw _ (List.mem_of_getElem? (i := 29) rfl))) Via.refl e2 F5_words F3_E (Or.inl (hw _ (List.mem_of_getElem? (i := 30) rfl))) (hw _ (List.mem_of_getElem? (i := 10) rfl)) (ty := (.array .long)) (by decide) rfl rfl (g := (mkF m 11 #[.val (.ref a0), .val (.int (64 : Int32))] [(.ref b2), (.ref a0)])) rfl rfl (hb hby d4_11)
  have N8 := Fr.snoc X8 N1 g_a0
  have F9_E : Exa Z h8 a0 "java/util/BitSet" := F3_E.wr W8
  have F10_sizeIsSticky : Fld Z h8 a0 "java/util/BitSet" "sizeIsSticky" "Z" u2 := F4_sizeIsSticky.other W8 (Or.inr (slot_ne (Or.inl (hw _ (List.mem_of_getElem? (i := 19) rfl))) (Or.inl (hw _ (List.mem_of_getElem? (i := 30) rfl))) (by decide) (t := .boolean) (t' := (.array .long)) (by decide) (by decide)))
  have F11_words : Fld Z h8 a0 "java/util/BitSet" "words" "[J" (.ref b2) := F5_words.same W8
  have Zs12 : n0 ≤ h8.size := Nat.le_trans Zs6 (Keep.of_wr W8).1
  have Kc13 : Keep h0 h8 [a0] := Kc7.wr W8 (Or.inl (List.mem_of_getElem? (i := 0) rfl))
  refine own_st ?_ st8
  show own_G p.tables e below _ _ (T8.setTop (mkF m 14 #[.val (.ref a0), .val (.int (64 : Int32))] []))
  refine own_retV X8 hx hlk hret (hb hby d4_14) (by decide) (by decide) ⟨rfl, N8, ?_⟩
  rw [e8]
  exact ⟨Kc13, F10_sizeIsSticky⟩
theorem pd_1 : parseMethodDescriptor "(I)V" = some ⟨[.int], none⟩ := by decide +kernel
theorem d3_0 : decode jdk_92_method_4_code 0 = .ok (.aload_n 0, 1) := by decide +kernel
theorem d3_1 : decode jdk_92_method_4_code 1 = .ok (.invokespecial 21, 3) := by decide +kernel
theorem d3_4 : decode jdk_92_method_4_code 4 = .ok (.aload_n 0, 1) := by decide +kernel
theorem d3_5 : decode jdk_92_method_4_code 5 = .ok (.iconst 0, 1) := by decide +kernel
theorem d3_6 : decode jdk_92_method_4_code 6 = .ok (.putfield 7, 3) := by decide +kernel
theorem d3_9 : decode jdk_92_method_4_code 9 = .ok (.aload_n 0, 1) := by decide +kernel
theorem d3_10 : decode jdk_92_method_4_code 10 = .ok (.iconst 0, 1) := by decide +kernel
theorem d3_11 : decode jdk_92_method_4_code 11 = .ok (.putfield 24, 3) := by decide +kernel
theorem d3_14 : decode jdk_92_method_4_code 14 = .ok (.aload_n 0, 1) := by decide +kernel
theorem d3_15 : decode jdk_92_method_4_code 15 = .ok (.bipush 64, 2) := by decide +kernel
theorem d3_17 : decode jdk_92_method_4_code 17 = .ok (.invokevirtual 27, 3) := by decide +kernel
theorem d3_20 : decode jdk_92_method_4_code 20 = .ok (.aload_n 0, 1) := by decide +kernel
theorem d3_21 : decode jdk_92_method_4_code 21 = .ok (.iconst 0, 1) := by decide +kernel
theorem d3_22 : decode jdk_92_method_4_code 22 = .ok (.putfield 24, 3) := by decide +kernel
theorem d3_25 : decode jdk_92_method_4_code 25 = .ok (.return_, 1) := by decide +kernel
theorem pn_3 : plainName "java/util/BitSet" = true := by first | (simp [plainName, overriddenIn]; done) | decide +kernel
theorem ef_3 (m : MethodId) (a0 : Addr) : entryFrame m #[(.ref a0)] 1 = mkF m 0 #[.val (.ref a0)] [] := by first | (simp [entryFrame, mkF, argsToLocals, Value.category]; done) | rfl
set_option maxRecDepth 65536 in
set_option maxHeartbeats 40000000 in
theorem rm3 (l : Launch) (Z : State) (a0 : Array Value) (hw : ∀ d ∈ tables_1, d.before a0 Z = true) (ws : List Jvm.Cond) (a0 : Addr) (u1 : Value) (u2 : Value) (u3 : Value) (h0 : Heap) (n0 : Nat) (Z0 : n0 ≤ h0.size) (g_a0 : n0 ≤ a0) (E0 : Exa Z h0 a0 "java/util/BitSet") (F1 : Fld Z h0 a0 "java/util/BitSet" "wordsInUse" "I" u1) (F2 : Fld Z h0 a0 "java/util/BitSet" "sizeIsSticky" "Z" u2) (F3 : Fld Z h0 a0 "java/util/BitSet" "words" "[J" u3) :
    MetFree l (⟨"java/util/BitSet", "<init>", "()V"⟩ : MethodName) (head1 (Jvm.Cond.code (⟨"java/util/BitSet", "<init>", "()V"⟩ : MethodName) jdk_92_method_4_code 1 none :: ws) ({ frames := 2, cells := 1, slots := 1, locals := 26 } : Room)) (fun a U => a = #[(.ref a0)] ∧ Z.Warmed39 U.vm ∧ U.heap = h0) (fun _ _ _ _ _ => True) (fun _ U o U' => ∃ v L, o = .returned v ∧ own_QK Z none [a0] (fun _ => True) h0 n0 v U'.heap L ∧ FrameEnd U o U' L ({ frames := 2, cells := 1, slots := 1, locals := 26 } : Room).cells ({ frames := 2, cells := 1, slots := 1, locals := 26 } : Room).slots) := by
  refine MetFree.of_bodySF (plainFor_of_name pn_3) hisR ?_
  intro p e s m args below meth c s₁ Bd hml0 hP hK
  obtain ⟨rfl, hZ, hh⟩ := hP
  have hx := Bd.exec
  have hby := Bd.bytes
  have hlk : meth.locks = false := BodyLoose.notSynchronized Bd
  have hret := Bd.returns
  have hml : c.maxLocals = 1 := hml0
  have hown : s.vm.findClass "java/util/BitSet" = some m.cls := findClass_of_methodNamed Bd.named
  have hnm := (name_of_methodNamed Bd.named Bd.method).1
  have X0 : Stand p l e ({ frames := 2, cells := 1, slots := 1, locals := 26 } : Room) s m #[(.ref a0)] below meth c s₁ [] 0 0 := Stand.of_body Bd
  have e0 : s₁.heap = h0 := by rw [← hh, Bd.state]; rfl
  have N0 := Fr.nil n0
  show own_G p.tables e below (own_E s ({ frames := 2, cells := 1, slots := 1, locals := 26 } : Room).cells ({ frames := 2, cells := 1, slots := 1, locals := 26 } : Room).slots) (own_QK Z none [a0] (fun _ => True) h0 n0) (s₁.setTop (entryFrame m #[(.ref a0)] 1))
  refine own_st ?_ (fun t k => castTop (ef_3 m a0) k)
  show own_G p.tables e below _ _ (s₁.setTop (mkF m 0 #[.val (.ref a0)] []))
  refine own_st ?_ (fun t k => XS.aloadN X0.here hx rfl (hb hby d3_0) rfl rfl k)
  show own_G p.tables e below _ _ (s₁.setTop (mkF m 1 #[.val (.ref a0)] [(.ref a0)]))
  obtain ⟨T1, X1, e1, st1⟩ := initO X0 hx hZ hown (hw _ (List.mem_of_getElem? (i := 15) rfl)) (hw _ (List.mem_of_getElem? (i := 7) rfl)) (hw _ (List.mem_of_getElem? (i := 8) rfl)) e0 (g := (mkF m 1 #[.val (.ref a0)] [(.ref a0)])) rfl (by rw [hml]; rfl) rfl (hb hby d3_1) (by decide) (W := 0) (by show 2 * 0 + _ ≤ _; exact Nat.le_of_eq rfl) (by decide)
  refine own_st ?_ st1
  show own_G p.tables e below _ _ (T1.setTop (mkF m 4 #[.val (.ref a0)] []))
  refine own_st ?_ (fun t k => XS.aloadN X1.here hx rfl (hb hby d3_4) rfl rfl k)
  show own_G p.tables e below _ _ (T1.setTop (mkF m 5 #[.val (.ref a0)] [(.ref a0)]))
  refine own_st ?_ (fun t k => XS.iconst X1.here hx rfl (hb hby d3_5) k)
  show own_G p.tables e below _ _ (T1.setTop (mkF m 6 #[.val (.ref a0)] [(.int (0 : Int32)), (.ref a0)]))
  obtain ⟨T2, h2, X2, e2, W2, st2⟩ := putF X1 hx hZ hown (host := "") (Or.inl (hw _ (List.mem_of_getElem? (i := 16) rfl))) Via.refl e1 F1 E0 (Or.inl (hw _ (List.mem_of_getElem? (i := 17) rfl))) (hw _ (List.mem_of_getElem? (i := 10) rfl)) (ty := .int) (by decide) rfl rfl (g := (mkF m 6 #[.val (.ref a0)] [(.int (0 : Int32)), (.ref a0)])) rfl rfl (hb hby d3_6)
  have N2 := Fr.snoc X2 N0 g_a0
  have F3_E : Exa Z h2 a0 "java/util/BitSet" := E0.wr W2
  have F4_wordsInUse : Fld Z h2 a0 "java/util/BitSet" "wordsInUse" "I" (.int (0 : Int32)) := F1.same W2
  have F5_sizeIsSticky : Fld Z h2 a0 "java/util/BitSet" "sizeIsSticky" "Z" u2 := F2.other W2 (Or.inr (slot_ne (Or.inl (hw _ (List.mem_of_getElem? (i := 19) rfl))) (Or.inl (hw _ (List.mem_of_getElem? (i := 17) rfl))) (by decide) (t := .boolean) (t' := .int) (by decide) (by decide)))
  have F6_words : Fld Z h2 a0 "java/util/BitSet" "words" "[J" u3 := F3.other W2 (Or.inr (slot_ne (Or.inl (hw _ (List.mem_of_getElem? (i := 30) rfl))) (Or.inl (hw _ (List.mem_of_getElem? (i := 17) rfl))) (by decide) (t := (.array .long)) (t' := .int) (by decide) (by decide)))
  have Zs7 : n0 ≤ h2.size := Nat.le_trans Z0 (Keep.of_wr W2).1
  have Kc8 : Keep h0 h2 [a0] := (Keep.refl h0 [a0]).wr W2 (Or.inl (List.mem_of_getElem? (i := 0) rfl))
  refine own_st ?_ st2
  show own_G p.tables e below _ _ (T2.setTop (mkF m 9 #[.val (.ref a0)] []))
  refine own_st ?_ (fun t k => XS.aloadN X2.here hx rfl (hb hby d3_9) rfl rfl k)
  show own_G p.tables e below _ _ (T2.setTop (mkF m 10 #[.val (.ref a0)] [(.ref a0)]))
  refine own_st ?_ (fun t k => XS.iconst X2.here hx rfl (hb hby d3_10) k)
  show own_G p.tables e below _ _ (T2.setTop (mkF m 11 #[.val (.ref a0)] [(.int (0 : Int32)), (.ref a0)]))
  obtain ⟨T9, h9, X9, e9, W9, st9⟩ := putFN X2 hx hZ hown (hw _ (List.mem_of_getElem? (i := 18) rfl)) Via.refl e2 F5_sizeIsSticky F3_E (Or.inl (hw _ (List.mem_of_getElem? (i := 19) rfl))) (hw _ (List.mem_of_getElem? (i := 10) rfl)) (ty := .boolean) (v' := (.int (0 : Int32))) (by decide) rfl (by decide) (g := (mkF m 11 #[.val (.ref a0)] [(.int (0 : Int32)), (.ref a0)])) rfl rfl (hb hby d3_11)
  have N9 := Fr.snoc X9 N2 g_a0
  have F10_E : Exa Z h9 a0 "java/util/BitSet" := F3_E.wr W9
  have F11_wordsInUse : Fld Z h9 a0 "java/util/BitSet" "wordsInUse" "I" (.int (0 : Int32)) := F4_wordsInUse.other W9 (Or.inr (slot_ne (Or.inl (hw _ (List.mem_of_getElem? (i := 17) rfl))) (Or.inl (hw _ (List.mem_of_getElem? (i := 19) rfl))) (by decide) (t := .int) (t' := .boolean) (by decide) (by decide)))
  have F12_sizeIsSticky : Fld Z h9 a0 "java/util/BitSet" "sizeIsSticky" "Z" (.int (0 : Int32)) := F5_sizeIsSticky.same W9
  have F13_words : Fld Z h9 a0 "java/util/BitSet" "words" "[J" u3 := F6_words.other W9 (Or.inr (slot_ne (Or.inl (hw _ (List.mem_of_getElem? (i := 30) rfl))) (Or.inl (hw _ (List.mem_of_getElem? (i := 19) rfl))) (by decide) (t := (.array .long)) (t' := .boolean) (by decide) (by decide)))
  have Zs14 : n0 ≤ h9.size := Nat.le_trans Zs7 (Keep.of_wr W9).1
  have Kc15 : Keep h0 h9 [a0] := Kc8.wr W9 (Or.inl (List.mem_of_getElem? (i := 0) rfl))
  refine own_st ?_ st9
  show own_G p.tables e below _ _ (T9.setTop (mkF m 14 #[.val (.ref a0)] []))
  refine own_st ?_ (fun t k => XS.aloadN X9.here hx rfl (hb hby d3_14) rfl rfl k)
  show own_G p.tables e below _ _ (T9.setTop (mkF m 15 #[.val (.ref a0)] [(.ref a0)]))
  refine own_st ?_ (fun t k => XS.bipush X9.here hx rfl (hb hby d3_15) k)
  show own_G p.tables e below _ _ (T9.setTop (mkF m 17 #[.val (.ref a0)] [(.int (64 : Int32)), (.ref a0)]))
  obtain ⟨cq16, q16, q16'⟩ := F10_E.cell
  obtain ⟨_, _, ⟨T16, L16, k16, n16⟩, -, X16, ⟨Lc16, hQ16, l16, y16, z16⟩, st16⟩ := X9.privateBack hx (y := (⟨"java/util/BitSet", "initWords", "(I)V"⟩ : MethodName)) hown (mvT hZ (hw _ (List.mem_of_getElem? (i := 20) rfl))) (mvT hZ (hw _ (List.mem_of_getElem? (i := 21) rfl))) (mvT hZ (hw _ (List.mem_of_getElem? (i := 23) rfl))) (Cond.privateMethod_at (mvP hZ (hw _ (List.mem_of_getElem? (i := 22) rfl)) (args := #[]))) (mvT hZ (hw _ (List.mem_of_getElem? (i := 24) rfl))) (by decide) (backOf (W := 0) (rm4 l Z _ hw [] a0 (.int (0 : Int32)) u3 h9 n0 Zs14 g_a0 F10_E F12_sizeIsSticky F13_words) hZ (hw _ (List.mem_of_getElem? (i := 24) rfl)) (hw _ (List.mem_of_getElem? (i := 11) rfl)) (by decide) (by decide)) (g := (mkF m 17 #[.val (.ref a0)] [(.int (64 : Int32)), (.ref a0)])) rfl (by rw [hml]; rfl) (Steps.refl _) (a := a0) (by rw [e9]; exact q16) q16' (argsL := [(.int (64 : Int32))]) (rest := []) (lenOf pd_1 rfl) rfl (by show 2 * 0 + _ ≤ _; exact Nat.le_of_eq rfl) (hb hby d3_17) (fun _ _ => ⟨rfl, e9, (by decide : 0 + 1 ≤ _), (by decide : 0 + 1 ≤ _)⟩)
  dsimp only [Pt.U, Pt.locs, Pt.cells, Pt.slots] at X16 l16 y16 z16 st16 hQ16
  subst l16 y16 z16
  obtain ⟨rfl, N16q, hq16⟩ := hQ16
  have N16 := Fr.app N9 N16q
  obtain ⟨K16, Fs16⟩ := hq16
  have F17_E : Exa Z T16.heap a0 "java/util/BitSet" := F10_E.keep K16
  have Zs18 : n0 ≤ T16.heap.size := Nat.le_trans Zs14 K16.1
  have Kc19 : Keep h0 T16.heap [a0] := Kc15.trans K16 (allS (Or.inl (List.mem_of_getElem? (i := 0) rfl)) all0)
  refine own_st ?_ (fun t k => st16.trans k)
  show own_G p.tables e below _ _ (T16.setTop (mkF m 20 #[.val (.ref a0)] []))
  refine own_st ?_ (fun t k => XS.aloadN X16.here hx rfl (hb hby d3_20) rfl rfl k)
  show own_G p.tables e below _ _ (T16.setTop (mkF m 21 #[.val (.ref a0)] [(.ref a0)]))
  refine own_st ?_ (fun t k => XS.iconst X16.here hx rfl (hb hby d3_21) k)
  show own_G p.tables e below _ _ (T16.setTop (mkF m 22 #[.val (.ref a0)] [(.int (0 : Int32)), (.ref a0)]))
  obtain ⟨T20, h20, X20, e20, W20, st20⟩ := putFN X16 hx hZ hown (hw _ (List.mem_of_getElem? (i := 18) rfl)) Via.refl rfl Fs16 F17_E (Or.inl (hw _ (List.mem_of_getElem? (i := 19) rfl))) (hw _ (List.mem_of_getElem? (i := 10) rfl)) (ty := .boolean) (v' := (.int (0 : Int32))) (by decide) rfl (by decide) (g := (mkF m 22 #[.val (.ref a0)] [(.int (0 : Int32)), (.ref a0)])) rfl rfl (hb hby d3_22)
  have N20 := Fr.snoc X20 N16 g_a0
  have F21_E : Exa Z h20 a0 "java/util/BitSet" := F17_E.wr W20
  have F22_sizeIsSticky : Fld Z h20 a0 "java/util/BitSet" "sizeIsSticky" "Z" (.int (0 : Int32)) := Fs16.same W20
  have Zs23 : n0 ≤ h20.size := Nat.le_trans Zs18 (Keep.of_wr W20).1
  have Kc24 : Keep h0 h20 [a0] := Kc19.wr W20 (Or.inl (List.mem_of_getElem? (i := 0) rfl))
  refine own_st ?_ st20
  show own_G p.tables e below _ _ (T20.setTop (mkF m 25 #[.val (.ref a0)] []))
  refine own_retV X20 hx hlk hret (hb hby d3_25) (by decide) (by decide) ⟨rfl, N20, ?_⟩
  rw [e20]
  exact ⟨Kc24, trivial⟩
theorem pd_2 : parseMethodDescriptor "()V" = some ⟨[], none⟩ := by decide +kernel
theorem d1_0 : decode prog_18_method_1_code 0 = .ok (.aload_n 0, 1) := by decide +kernel
theorem d1_1 : decode prog_18_method_1_code 1 = .ok (.invokespecial 1, 3) := by decide +kernel
theorem d1_4 : decode prog_18_method_1_code 4 = .ok (.aload_n 0, 1) := by decide +kernel
theorem d1_5 : decode prog_18_method_1_code 5 = .ok (.new 7, 3) := by decide +kernel
theorem d1_8 : decode prog_18_method_1_code 8 = .ok (.dup, 1) := by decide +kernel
theorem d1_9 : decode prog_18_method_1_code 9 = .ok (.invokespecial 9, 3) := by decide +kernel
theorem d1_12 : decode prog_18_method_1_code 12 = .ok (.putfield 10, 3) := by decide +kernel
theorem d1_15 : decode prog_18_method_1_code 15 = .ok (.aload_n 0, 1) := by decide +kernel
theorem d1_16 : decode prog_18_method_1_code 16 = .ok (.bipush 8, 2) := by decide +kernel
theorem d1_18 : decode prog_18_method_1_code 18 = .ok (.newarray .boolean, 2) := by decide +kernel
theorem d1_20 : decode prog_18_method_1_code 20 = .ok (.putfield 16, 3) := by decide +kernel
theorem d1_23 : decode prog_18_method_1_code 23 = .ok (.aload_n 0, 1) := by decide +kernel
theorem d1_24 : decode prog_18_method_1_code 24 = .ok (.bipush 32, 2) := by decide +kernel
theorem d1_26 : decode prog_18_method_1_code 26 = .ok (.newarray .int, 2) := by decide +kernel
theorem d1_28 : decode prog_18_method_1_code 28 = .ok (.putfield 20, 3) := by decide +kernel
theorem d1_31 : decode prog_18_method_1_code 31 = .ok (.aload_n 0, 1) := by decide +kernel
theorem d1_32 : decode prog_18_method_1_code 32 = .ok (.aload_n 1, 1) := by decide +kernel
theorem d1_33 : decode prog_18_method_1_code 33 = .ok (.putfield 24, 3) := by decide +kernel
theorem d1_36 : decode prog_18_method_1_code 36 = .ok (.return_, 1) := by decide +kernel
theorem pn_1 : plainName "com/example/supplant/supplant/automata/TransducerBuilder" = true := by first | (simp [plainName, overriddenIn]; done) | decide +kernel
theorem ef_1 (m : MethodId) (a0 : Addr) : entryFrame m #[(.ref a0), .null] 2 = mkF m 0 #[.val (.ref a0), .val .null] [] := by first | (simp [entryFrame, mkF, argsToLocals, Value.category]; done) | rfl
set_option maxRecDepth 65536 in
set_option maxHeartbeats 40000000 in
theorem rm1 (l : Launch) (Z : State) (a0 : Array Value) (hw : ∀ d ∈ tables_1, d.before a0 Z = true) (ws : List Jvm.Cond) (a0 : Addr) (u0 : Value) (u1 : Value) (u2 : Value) (u3 : Value) (h0 : Heap) (n0 : Nat) (Z0 : n0 ≤ h0.size) (g_a0 : n0 ≤ a0) (E0 : Exa Z h0 a0 "com/example/supplant/supplant/automata/TransducerBuilder") (F0 : Fld Z h0 a0 "com/example/supplant/supplant/automata/TransducerBuilder" "alphabet" "Ljava/util/BitSet;" u0) (F1 : Fld Z h0 a0 "com/example/supplant/supplant/automata/TransducerBuilder" "finals" "[Z" u1) (F2 : Fld Z h0 a0 "com/example/supplant/supplant/automata/TransducerBuilder" "arcs" "[I" u2) (F3 : Fld Z h0 a0 "com/example/supplant/supplant/automata/TransducerBuilder" "symbols" "Lcom/example/supplant/supplant/automata/SymbolTable;" u3) (F4 : Fld Z h0 a0 "com/example/supplant/supplant/automata/TransducerBuilder" "stateCount" "I" (.int (0 : Int32))) :
    MetFree l (⟨"com/example/supplant/supplant/automata/TransducerBuilder", "<init>", "(Lcom/example/supplant/supplant/automata/SymbolTable;)V"⟩ : MethodName) (head1 (Jvm.Cond.code (⟨"com/example/supplant/supplant/automata/TransducerBuilder", "<init>", "(Lcom/example/supplant/supplant/automata/SymbolTable;)V"⟩ : MethodName) prog_18_method_1_code 2 none :: ws) ({ frames := 3, cells := 4, slots := 44, locals := 40 } : Room)) (fun a U => a = #[(.ref a0), .null] ∧ Z.Warmed39 U.vm ∧ U.heap = h0) (fun _ _ _ _ _ => True) (fun _ U o U' => ∃ v L, o = .returned v ∧ own_QK Z none [a0] (fun h => ∃ t : Addr, h0.size ≤ t ∧ a0 ≠ t ∧ Fld Z h a0 "com/example/supplant/supplant/automata/TransducerBuilder" "finals" "[Z" (.ref t) ∧ Fld Z h a0 "com/example/supplant/supplant/automata/TransducerBuilder" "stateCount" "I" (.int (0 : Int32)) ∧ own_F Z h t 8 (fun _ => 0)) h0 n0 v U'.heap L ∧ FrameEnd U o U' L ({ frames := 3, cells := 4, slots := 44, locals := 40 } : Room).cells ({ frames := 3, cells := 4, slots := 44, locals := 40 } : Room).slots) := by
  refine MetFree.of_bodySF (plainFor_of_name pn_1) hisR ?_
  intro p e s m args below meth c s₁ Bd hml0 hP hK
  obtain ⟨rfl, hZ, hh⟩ := hP
  have hx := Bd.exec
  have hby := Bd.bytes
  have hlk : meth.locks = false := BodyLoose.notSynchronized Bd
  have hret := Bd.returns
  have hml : c.maxLocals = 2 := hml0
  have hown : s.vm.findClass "com/example/supplant/supplant/automata/TransducerBuilder" = some m.cls := findClass_of_methodNamed Bd.named
  have hnm := (name_of_methodNamed Bd.named Bd.method).1
  have X0 : Stand p l e ({ frames := 3, cells := 4, slots := 44, locals := 40 } : Room) s m #[(.ref a0), .null] below meth c s₁ [] 0 0 := Stand.of_body Bd
  have e0 : s₁.heap = h0 := by rw [← hh, Bd.state]; rfl
  have N0 := Fr.nil n0
  show own_G p.tables e below (own_E s ({ frames := 3, cells := 4, slots := 44, locals := 40 } : Room).cells ({ frames := 3, cells := 4, slots := 44, locals := 40 } : Room).slots) (own_QK Z none [a0] (fun h => ∃ t : Addr, h0.size ≤ t ∧ a0 ≠ t ∧ Fld Z h a0 "com/example/supplant/supplant/automata/TransducerBuilder" "finals" "[Z" (.ref t) ∧ Fld Z h a0 "com/example/supplant/supplant/automata/TransducerBuilder" "stateCount" "I" (.int (0 : Int32)) ∧ own_F Z h t 8 (fun _ => 0)) h0 n0) (s₁.setTop (entryFrame m #[(.ref a0), .null] 2))
  refine own_st ?_ (fun t k => castTop (ef_1 m a0) k)
  show own_G p.tables e below _ _ (s₁.setTop (mkF m 0 #[.val (.ref a0), .val .null] []))
  refine own_st ?_ (fun t k => XS.aloadN X0.here hx rfl (hb hby d1_0) rfl rfl k)
  show own_G p.tables e below _ _ (s₁.setTop (mkF m 1 #[.val (.ref a0), .val .null] [(.ref a0)]))
  obtain ⟨T1, X1, e1, st1⟩ := initO X0 hx hZ hown (hw _ (List.mem_of_getElem? (i := 6) rfl)) (hw _ (List.mem_of_getElem? (i := 7) rfl)) (hw _ (List.mem_of_getElem? (i := 8) rfl)) e0 (g := (mkF m 1 #[.val (.ref a0), .val .null] [(.ref a0)])) rfl (by rw [hml]; rfl) rfl (hb hby d1_1) (by decide) (W := 0) (by show 2 * 0 + _ ≤ _; exact Nat.le_of_eq rfl) (by decide)
  refine own_st ?_ st1
  show own_G p.tables e below _ _ (T1.setTop (mkF m 4 #[.val (.ref a0), .val .null] []))
  refine own_st ?_ (fun t k => XS.aloadN X1.here hx rfl (hb hby d1_4) rfl rfl k)
  show own_G p.tables e below _ _ (T1.setTop (mkF m 5 #[.val (.ref a0), .val .null] [(.ref a0)]))
  obtain ⟨T2, h2, X2, e2, E2, A2, D2, -, st2⟩ := newO X1 hx hZ hown (hw _ (List.mem_of_getElem? (i := 9) rfl)) (hw _ (List.mem_of_getElem? (i := 10) rfl)) (hw _ (List.mem_of_getElem? (i := 11) rfl)) e1 (g := (mkF m 5 #[.val (.ref a0), .val .null] [(.ref a0)])) rfl (hb hby d1_5) (by decide) (by decide)
  obtain ⟨b2, gz2⟩ : ∃ z, z = h0.size := ⟨_, rfl⟩
  rw [← gz2] at A2 D2 st2
  have ne_a0_b2 : a0 ≠ b2 := Nat.ne_of_lt (Nat.lt_of_lt_of_le E0.lt (Nat.le_of_eq gz2.symm))
  have g_b2 : n0 ≤ b2 := Nat.le_trans Z0 (Nat.le_of_eq gz2.symm)
  have sz_b2 : h0.size ≤ b2 := Nat.le_trans (Keep.refl h0 [a0]).1 (Nat.le_of_eq gz2.symm)
  have F3_E : Exa Z h2 a0 "com/example/supplant/supplant/automata/TransducerBuilder" := E0.ext E2
  have F4_alphabet : Fld Z h2 a0 "com/example/supplant/supplant/automata/TransducerBuilder" "alphabet" "Ljava/util/BitSet;" u0 := F0.ext E2
  have F5_finals : Fld Z h2 a0 "com/example/supplant/supplant/automata/TransducerBuilder" "finals" "[Z" u1 := F1.ext E2
  have F6_arcs : Fld Z h2 a0 "com/example/supplant/supplant/automata/TransducerBuilder" "arcs" "[I" u2 := F2.ext E2
  have F7_symbols : Fld Z h2 a0 "com/example/supplant/supplant/automata/TransducerBuilder" "symbols" "Lcom/example/supplant/supplant/automata/SymbolTable;" u3 := F3.ext E2
  have F8_stateCount : Fld Z h2 a0 "com/example/supplant/supplant/automata/TransducerBuilder" "stateCount" "I" (.int (0 : Int32)) := F4.ext E2
  have Zs9 : n0 ≤ h2.size := Nat.le_trans Z0 E2.1
  have Kc10 : Keep h0 h2 [a0] := (Keep.refl h0 [a0]).ext E2
  have F_wordsInUse_b2 : Fld Z h2 b2 "java/util/BitSet" "wordsInUse" "I" (.int (0 : Int32)) := D2 (Or.inl (hw _ (List.mem_of_getElem? (i := 17) rfl))) (ty := .int) (by decide)
  have F_sizeIsSticky_b2 : Fld Z h2 b2 "java/util/BitSet" "sizeIsSticky" "Z" (.int (0 : Int32)) := D2 (Or.inl (hw _ (List.mem_of_getElem? (i := 19) rfl))) (ty := .boolean) (by decide)
  have F_words_b2 : Fld Z h2 b2 "java/util/BitSet" "words" "[J" .null := D2 (Or.inl (hw _ (List.mem_of_getElem? (i := 30) rfl))) (ty := (.array .long)) (by decide)
  refine own_st ?_ st2
  show own_G p.tables e below _ _ (T2.setTop (mkF m 8 #[.val (.ref a0), .val .null] [(.ref b2), (.ref a0)]))
  refine own_st ?_ (fun t k => XS.dup X2.here hx rfl (hb hby d1_8) rfl rfl k)
  show own_G p.tables e below _ _ (T2.setTop (mkF m 9 #[.val (.ref a0), .val .null] [(.ref b2), (.ref b2), (.ref a0)]))
  obtain ⟨_, _, ⟨T11, L11, k11, n11⟩, -, X11, ⟨Lc11, hQ11, l11, y11, z11⟩, st11⟩ := X2.specialBack hx (y := (⟨"java/util/BitSet", "<init>", "()V"⟩ : MethodName)) rfl hown (mvT hZ (hw _ (List.mem_of_getElem? (i := 12) rfl))) (mvT hZ (hw _ (List.mem_of_getElem? (i := 13) rfl))) (mvT hZ (hw _ (List.mem_of_getElem? (i := 14) rfl))) (by decide) (backOf (W := 2) (rm3 l Z _ hw [] b2 (.int (0 : Int32)) (.int (0 : Int32)) .null h2 n0 Zs9 g_b2 A2 F_wordsInUse_b2 F_sizeIsSticky_b2 F_words_b2) hZ (hw _ (List.mem_of_getElem? (i := 14) rfl)) (hw _ (List.mem_of_getElem? (i := 11) rfl)) (by decide) (by decide)) (g := (mkF m 9 #[.val (.ref a0), .val .null] [(.ref b2), (.ref b2), (.ref a0)])) rfl (by rw [hml]; rfl) (Steps.refl _) (a := b2) (argsL := []) (rest := [(.ref b2), (.ref a0)]) (lenOf pd_2 rfl) rfl (by show 2 * 0 + _ ≤ _; exact Nat.le_of_eq rfl) (hb hby d1_9) (fun _ _ => ⟨rfl, e2, (by decide : 1 + 1 ≤ _), (by decide : 3 + 1 ≤ _)⟩)
  dsimp only [Pt.U, Pt.locs, Pt.cells, Pt.slots] at X11 l11 y11 z11 st11 hQ11
  subst l11 y11 z11
  obtain ⟨rfl, N11q, hq11⟩ := hQ11
  have N11 := Fr.app N0 N11q
  obtain ⟨K11, -⟩ := hq11
  have F12_E : Exa Z T11.heap a0 "com/example/supplant/supplant/automata/TransducerBuilder" := F3_E.keep K11
  have F13_alphabet : Fld Z T11.heap a0 "com/example/supplant/supplant/automata/TransducerBuilder" "alphabet" "Ljava/util/BitSet;" u0 := F4_alphabet.keep K11 (ninS ne_a0_b2 nin0)
  have F14_finals : Fld Z T11.heap a0 "com/example/supplant/supplant/automata/TransducerBuilder" "finals" "[Z" u1 := F5_finals.keep K11 (ninS ne_a0_b2 nin0)
  have F15_arcs : Fld Z T11.heap a0 "com/example/supplant/supplant/automata/TransducerBuilder" "arcs" "[I" u2 := F6_arcs.keep K11 (ninS ne_a0_b2 nin0)
  have F16_symbols : Fld Z T11.heap a0 "com/example/supplant/supplant/automata/TransducerBuilder" "symbols" "Lcom/example/supplant/supplant/automata/SymbolTable;" u3 := F7_symbols.keep K11 (ninS ne_a0_b2 nin0)
  have F17_stateCount : Fld Z T11.heap a0 "com/example/supplant/supplant/automata/TransducerBuilder" "stateCount" "I" (.int (0 : Int32)) := F8_stateCount.keep K11 (ninS ne_a0_b2 nin0)
  have F18_E : Exa Z T11.heap b2 "java/util/BitSet" := A2.keep K11
  have Zs19 : n0 ≤ T11.heap.size := Nat.le_trans Zs9 K11.1
  have Kc20 : Keep h0 T11.heap [a0] := Kc10.trans K11 (allS (Or.inr sz_b2) all0)
  refine own_st ?_ (fun t k => st11.trans k)
  show own_G p.tables e below _ _ (T11.setTop (mkF m 12 #[.val (.ref a0), .val .null] [(.ref b2), (.ref a0)]))
  obtain ⟨T21, h21, X21, e21, W21, st21⟩ := putF X11 hx hZ hown (host := "") (Or.inl (hw _ (List.mem_of_getElem? (i := 31) rfl))) Via.refl rfl F13_alphabet F12_E (Or.inr ⟨(hw _ (List.mem_of_getElem? (i := 32) rfl)), rfl, hnm⟩) (hw _ (List.mem_of_getElem? (i := 1) rfl)) (ty := (.object "java/util/BitSet")) (by decide) rfl rfl (g := (mkF m 12 #[.val (.ref a0), .val .null] [(.ref b2), (.ref a0)])) rfl rfl (hb hby d1_12)
  have N21 := Fr.snoc X21 N11 g_a0
  have F22_E : Exa Z h21 a0 "com/example/supplant/supplant/automata/TransducerBuilder" := F12_E.wr W21
  have F23_alphabet : Fld Z h21 a0 "com/example/supplant/supplant/automata/TransducerBuilder" "alphabet" "Ljava/util/BitSet;" (.ref b2) := F13_alphabet.same W21
  have F24_finals : Fld Z h21 a0 "com/example/supplant/supplant/automata/TransducerBuilder" "finals" "[Z" u1 := F14_finals.other W21 (Or.inr (slot_ne (Or.inl (hw _ (List.mem_of_getElem? (i := 35) rfl))) (Or.inr (hw _ (List.mem_of_getElem? (i := 32) rfl))) (by decide) (t := (.array .boolean)) (t' := (.object "java/util/BitSet")) (by decide) (by decide)))
  have F25_arcs : Fld Z h21 a0 "com/example/supplant/supplant/automata/TransducerBuilder" "arcs" "[I" u2 := F15_arcs.other W21 (Or.inr (slot_ne (Or.inl (hw _ (List.mem_of_getElem? (i := 38) rfl))) (Or.inr (hw _ (List.mem_of_getElem? (i := 32) rfl))) (by decide) (t := (.array .int)) (t' := (.object "java/util/BitSet")) (by decide) (by decide)))
  have F26_symbols : Fld Z h21 a0 "com/example/supplant/supplant/automata/TransducerBuilder" "symbols" "Lcom/example/supplant/supplant/automata/SymbolTable;" u3 := F16_symbols.other W21 (Or.inr (slot_ne (Or.inr (hw _ (List.mem_of_getElem? (i := 40) rfl))) (Or.inr (hw _ (List.mem_of_getElem? (i := 32) rfl))) (by decide) (t := (.object "com/example/supplant/supplant/automata/SymbolTable")) (t' := (.object "java/util/BitSet")) (by decide) (by decide)))
  have F27_stateCount : Fld Z h21 a0 "com/example/supplant/supplant/automata/TransducerBuilder" "stateCount" "I" (.int (0 : Int32)) := F17_stateCount.other W21 (Or.inr (slot_ne (Or.inl (hw _ (List.mem_of_getElem? (i := 47) rfl))) (Or.inr (hw _ (List.mem_of_getElem? (i := 32) rfl))) (by decide) (t := .int) (t' := (.object "java/util/BitSet")) (by decide) (by decide)))
  have Zs28 : n0 ≤ h21.size := Nat.le_trans Zs19 (Keep.of_wr W21).1
  have Kc29 : Keep h0 h21 [a0] := Kc20.wr W21 (Or.inl (List.mem_of_getElem? (i := 0) rfl))
  refine own_st ?_ st21
  show own_G p.tables e below _ _ (T21.setTop (mkF m 15 #[.val (.ref a0), .val .null] []))
  refine own_st ?_ (fun t k => XS.aloadN X21.here hx rfl (hb hby d1_15) rfl rfl k)
  show own_G p.tables e below _ _ (T21.setTop (mkF m 16 #[.val (.ref a0), .val .null] [(.ref a0)]))
  refine own_st ?_ (fun t k => XS.bipush X21.here hx rfl (hb hby d1_16) k)
  show own_G p.tables e below _ _ (T21.setTop (mkF m 18 #[.val (.ref a0), .val .null] [(.int (8 : Int32)), (.ref a0)]))
  obtain ⟨T30, h30, k30, X30, e30, E30, A30, st30⟩ := newP X21 hx hZ (hw _ (List.mem_of_getElem? (i := 33) rfl)) e21 (g := (mkF m 18 #[.val (.ref a0), .val .null] [(.int (8 : Int32)), (.ref a0)])) rfl (hb hby d1_18) rfl (by decide) (cap := 8) (by decide) (by decide) (by decide) (by decide)
  obtain ⟨b30, gz30⟩ : ∃ z, z = h21.size := ⟨_, rfl⟩
  rw [← gz30] at A30 st30
  have ne_a0_b30 : a0 ≠ b30 := Nat.ne_of_lt (Nat.lt_of_lt_of_le F22_E.lt (Nat.le_of_eq gz30.symm))
  have g_b30 : n0 ≤ b30 := Nat.le_trans Zs28 (Nat.le_of_eq gz30.symm)
  have sz_b30 : h0.size ≤ b30 := Nat.le_trans Kc29.1 (Nat.le_of_eq gz30.symm)
  have F31_E : Exa Z h30 a0 "com/example/supplant/supplant/automata/TransducerBuilder" := F22_E.ext E30
  have F32_alphabet : Fld Z h30 a0 "com/example/supplant/supplant/automata/TransducerBuilder" "alphabet" "Ljava/util/BitSet;" (.ref b2) := F23_alphabet.ext E30
  have F33_finals : Fld Z h30 a0 "com/example/supplant/supplant/automata/TransducerBuilder" "finals" "[Z" u1 := F24_finals.ext E30
  have F34_arcs : Fld Z h30 a0 "com/example/supplant/supplant/automata/TransducerBuilder" "arcs" "[I" u2 := F25_arcs.ext E30
  have F35_symbols : Fld Z h30 a0 "com/example/supplant/supplant/automata/TransducerBuilder" "symbols" "Lcom/example/supplant/supplant/automata/SymbolTable;" u3 := F26_symbols.ext E30
  have F36_stateCount : Fld Z h30 a0 "com/example/supplant/supplant/automata/TransducerBuilder" "stateCount" "I" (.int (0 : Int32)) := F27_stateCount.ext E30
  have Zs37 : n0 ≤ h30.size := Nat.le_trans Zs28 E30.1
  have Kc38 : Keep h0 h30 [a0] := Kc29.ext E30
  have V_b30 : own_F Z h30 b30 (8 : Int32) (fun _ => 0) := own_F_new (Arv.new A30 (by decide))
  refine own_st ?_ st30
  show own_G p.tables e below _ _ (T30.setTop (mkF m 20 #[.val (.ref a0), .val .null] [(.ref b30), (.ref a0)]))
  obtain ⟨T39, h39, X39, e39, W39, st39⟩ := putF X30 hx hZ hown (host := "") (Or.inl (hw _ (List.mem_of_getElem? (i := 34) rfl))) Via.refl e30 F33_finals F31_E (Or.inl (hw _ (List.mem_of_getElem? (i := 35) rfl))) (hw _ (List.mem_of_getElem? (i := 1) rfl)) (ty := (.array .boolean)) (by decide) rfl rfl (g := (mkF m 20 #[.val (.ref a0), .val .null] [(.ref b30), (.ref a0)])) rfl rfl (hb hby d1_20)
  have N39 := Fr.snoc X39 N21 g_a0
  have F40_E : Exa Z h39 a0 "com/example/supplant/supplant/automata/TransducerBuilder" := F31_E.wr W39
  have F41_alphabet : Fld Z h39 a0 "com/example/supplant/supplant/automata/TransducerBuilder" "alphabet" "Ljava/util/BitSet;" (.ref b2) := F32_alphabet.other W39 (Or.inr (slot_ne (Or.inr (hw _ (List.mem_of_getElem? (i := 32) rfl))) (Or.inl (hw _ (List.mem_of_getElem? (i := 35) rfl))) (by decide) (t := (.object "java/util/BitSet")) (t' := (.array .boolean)) (by decide) (by decide)))
  have F42_finals : Fld Z h39 a0 "com/example/supplant/supplant/automata/TransducerBuilder" "finals" "[Z" (.ref b30) := F33_finals.same W39
  have F43_arcs : Fld Z h39 a0 "com/example/supplant/supplant/automata/TransducerBuilder" "arcs" "[I" u2 := F34_arcs.other W39 (Or.inr (slot_ne (Or.inl (hw _ (List.mem_of_getElem? (i := 38) rfl))) (Or.inl (hw _ (List.mem_of_getElem? (i := 35) rfl))) (by decide) (t := (.array .int)) (t' := (.array .boolean)) (by decide) (by decide)))
  have F44_symbols : Fld Z h39 a0 "com/example/supplant/supplant/automata/TransducerBuilder" "symbols" "Lcom/example/supplant/supplant/automata/SymbolTable;" u3 := F35_symbols.other W39 (Or.inr (slot_ne (Or.inr (hw _ (List.mem_of_getElem? (i := 40) rfl))) (Or.inl (hw _ (List.mem_of_getElem? (i := 35) rfl))) (by decide) (t := (.object "com/example/supplant/supplant/automata/SymbolTable")) (t' := (.array .boolean)) (by decide) (by decide)))
  have F45_stateCount : Fld Z h39 a0 "com/example/supplant/supplant/automata/TransducerBuilder" "stateCount" "I" (.int (0 : Int32)) := F36_stateCount.other W39 (Or.inr (slot_ne (Or.inl (hw _ (List.mem_of_getElem? (i := 47) rfl))) (Or.inl (hw _ (List.mem_of_getElem? (i := 35) rfl))) (by decide) (t := .int) (t' := (.array .boolean)) (by decide) (by decide)))
  have F46_P : own_F Z h39 b30 (8 : Int32) (fun _ => 0) := own_F_keep V_b30 (Keep.of_wr W39) (ninS (Ne.symm ne_a0_b30) nin0)
  have Zs47 : n0 ≤ h39.size := Nat.le_trans Zs37 (Keep.of_wr W39).1
  have Kc48 : Keep h0 h39 [a0] := Kc38.wr W39 (Or.inl (List.mem_of_getElem? (i := 0) rfl))
  refine own_st ?_ st39
  show own_G p.tables e below _ _ (T39.setTop (mkF m 23 #[.val (.ref a0), .val .null] []))
  refine own_st ?_ (fun t k => XS.aloadN X39.here hx rfl (hb hby d1_23) rfl rfl k)
  show own_G p.tables e below _ _ (T39.setTop (mkF m 24 #[.val (.ref a0), .val .null] [(.ref a0)]))
  refine own_st ?_ (fun t k => XS.bipush X39.here hx rfl (hb hby d1_24) k)
  show own_G p.tables e below _ _ (T39.setTop (mkF m 26 #[.val (.ref a0), .val .null] [(.int (32 : Int32)), (.ref a0)]))
  obtain ⟨T49, h49, k49, X49, e49, E49, A49, st49⟩ := newP X39 hx hZ (hw _ (List.mem_of_getElem? (i := 36) rfl)) e39 (g := (mkF m 26 #[.val (.ref a0), .val .null] [(.int (32 : Int32)), (.ref a0)])) rfl (hb hby d1_26) rfl (by decide) (cap := 32) (by decide) (by decide) (by decide) (by decide)
  obtain ⟨b49, gz49⟩ : ∃ z, z = h39.size := ⟨_, rfl⟩
  rw [← gz49] at A49 st49
  have ne_a0_b49 : a0 ≠ b49 := Nat.ne_of_lt (Nat.lt_of_lt_of_le F40_E.lt (Nat.le_of_eq gz49.symm))
  have ne_b30_b49 : b30 ≠ b49 := Nat.ne_of_lt (Nat.lt_of_lt_of_le (own_F_lt F46_P) (Nat.le_of_eq gz49.symm))
  have g_b49 : n0 ≤ b49 := Nat.le_trans Zs47 (Nat.le_of_eq gz49.symm)
  have sz_b49 : h0.size ≤ b49 := Nat.le_trans Kc48.1 (Nat.le_of_eq gz49.symm)
  have F50_E : Exa Z h49 a0 "com/example/supplant/supplant/automata/TransducerBuilder" := F40_E.ext E49
  have F51_alphabet : Fld Z h49 a0 "com/example/supplant/supplant/automata/TransducerBuilder" "alphabet" "Ljava/util/BitSet;" (.ref b2) := F41_alphabet.ext E49
  have F52_finals : Fld Z h49 a0 "com/example/supplant/supplant/automata/TransducerBuilder" "finals" "[Z" (.ref b30) := F42_finals.ext E49
  have F53_arcs : Fld Z h49 a0 "com/example/supplant/supplant/automata/TransducerBuilder" "arcs" "[I" u2 := F43_arcs.ext E49
  have F54_symbols : Fld Z h49 a0 "com/example/supplant/supplant/automata/TransducerBuilder" "symbols" "Lcom/example/supplant/supplant/automata/SymbolTable;" u3 := F44_symbols.ext E49
  have F55_stateCount : Fld Z h49 a0 "com/example/supplant/supplant/automata/TransducerBuilder" "stateCount" "I" (.int (0 : Int32)) := F45_stateCount.ext E49
  have F56_P : own_F Z h49 b30 (8 : Int32) (fun _ => 0) := own_F_ext F46_P E49
  have Zs57 : n0 ≤ h49.size := Nat.le_trans Zs47 E49.1
  have Kc58 : Keep h0 h49 [a0] := Kc48.ext E49
  refine own_st ?_ st49
  show own_G p.tables e below _ _ (T49.setTop (mkF m 28 #[.val (.ref a0), .val .null] [(.ref b49), (.ref a0)]))
  obtain ⟨T59, h59, X59, e59, W59, st59⟩ := putF X49 hx hZ hown (host := "") (Or.inl (hw _ (List.mem_of_getElem? (i := 37) rfl))) Via.refl e49 F53_arcs F50_E (Or.inl (hw _ (List.mem_of_getElem? (i := 38) rfl))) (hw _ (List.mem_of_getElem? (i := 1) rfl)) (ty := (.array .int)) (by decide) rfl rfl (g := (mkF m 28 #[.val (.ref a0), .val .null] [(.ref b49), (.ref a0)])) rfl rfl (hb hby d1_28)
  have N59 := Fr.snoc X59 N39 g_a0
  have F60_E : Exa Z h59 a0 "com/example/supplant/supplant/automata/TransducerBuilder" := F50_E.wr W59
  have F61_alphabet : Fld Z h59 a0 "com/example/supplant/supplant/automata/TransducerBuilder" "alphabet" "Ljava/util/BitSet;" (.ref b2) := F51_alphabet.other W59 (Or.inr (slot_ne (Or.inr (hw _ (List.mem_of_getElem? (i := 32) rfl))) (Or.inl (hw _ (List.mem_of_getElem? (i := 38) rfl))) (by decide) (t := (.object "java/util/BitSet")) (t' := (.array .int)) (by decide) (by decide)))
  have F62_finals : Fld Z h59 a0 "com/example/supplant/supplant/automata/TransducerBuilder" "finals" "[Z" (.ref b30) := F52_finals.other W59 (Or.inr (slot_ne (Or.inl (hw _ (List.mem_of_getElem? (i := 35) rfl))) (Or.inl (hw _ (List.mem_of_getElem? (i := 38) rfl))) (by decide) (t := (.array .boolean)) (t' := (.array .int)) (by decide) (by decide)))
  have F63_arcs : Fld Z h59 a0 "com/example/supplant/supplant/automata/TransducerBuilder" "arcs" "[I" (.ref b49) := F53_arcs.same W59
  have F64_symbols : Fld Z h59 a0 "com/example/supplant/supplant/automata/TransducerBuilder" "symbols" "Lcom/example/supplant/supplant/automata/SymbolTable;" u3 := F54_symbols.other W59 (Or.inr (slot_ne (Or.inr (hw _ (List.mem_of_getElem? (i := 40) rfl))) (Or.inl (hw _ (List.mem_of_getElem? (i := 38) rfl))) (by decide) (t := (.object "com/example/supplant/supplant/automata/SymbolTable")) (t' := (.array .int)) (by decide) (by decide)))
  have F65_stateCount : Fld Z h59 a0 "com/example/supplant/supplant/automata/TransducerBuilder" "stateCount" "I" (.int (0 : Int32)) := F55_stateCount.other W59 (Or.inr (slot_ne (Or.inl (hw _ (List.mem_of_getElem? (i := 47) rfl))) (Or.inl (hw _ (List.mem_of_getElem? (i := 38) rfl))) (by decide) (t := .int) (t' := (.array .int)) (by decide) (by decide)))
  have F66_P : own_F Z h59 b30 (8 : Int32) (fun _ => 0) := own_F_keep F56_P (Keep.of_wr W59) (ninS (Ne.symm ne_a0_b30) nin0)
  have Zs67 : n0 ≤ h59.size := Nat.le_trans Zs57 (Keep.of_wr W59).1
  have Kc68 : Keep h0 h59 [a0] := Kc58.wr W59 (Or.inl (List.mem_of_getElem? (i := 0) rfl))
  refine own_st ?_ st59
  show own_G p.tables e below _ _ (T59.setTop (mkF m 31 #[.val (.ref a0), .val .null] []))
  refine own_st ?_ (fun t k => XS.aloadN X59.here hx rfl (hb hby d1_31) rfl rfl k)
  show own_G p.tables e below _ _ (T59.setTop (mkF m 32 #[.val (.ref a0), .val .null] [(.ref a0)]))
  refine own_st ?_ (fun t k => XS.aloadN X59.here hx rfl (hb hby d1_32) rfl rfl k)
  show own_G p.tables e below _ _ (T59.setTop (mkF m 33 #[.val (.ref a0), .val .null] [.null, (.ref a0)]))
  obtain ⟨T69, h69, X69, e69, W69, st69⟩ := putF X59 hx hZ hown (host := "") (Or.inl (hw _ (List.mem_of_getElem? (i := 39) rfl))) Via.refl e59 F64_symbols F60_E (Or.inr ⟨(hw _ (List.mem_of_getElem? (i := 40) rfl)), rfl, hnm⟩) (hw _ (List.mem_of_getElem? (i := 1) rfl)) (ty := (.object "com/example/supplant/supplant/automata/SymbolTable")) (by decide) rfl rfl (g := (mkF m 33 #[.val (.ref a0), .val .null] [.null, (.ref a0)])) rfl rfl (hb hby d1_33)
  have N69 := Fr.snoc X69 N59 g_a0
  have F70_E : Exa Z h69 a0 "com/example/supplant/supplant/automata/TransducerBuilder" := F60_E.wr W69
  have F71_alphabet : Fld Z h69 a0 "com/example/supplant/supplant/automata/TransducerBuilder" "alphabet" "Ljava/util/BitSet;" (.ref b2) := F61_alphabet.other W69 (Or.inr (slot_ne (Or.inr (hw _ (List.mem_of_getElem? (i := 32) rfl))) (Or.inr (hw _ (List.mem_of_getElem? (i := 40) rfl))) (by decide) (t := (.object "java/util/BitSet")) (t' := (.object "com/example/supplant/supplant/automata/SymbolTable")) (by decide) (by decide)))
  have F72_finals : Fld Z h69 a0 "com/example/supplant/supplant/automata/TransducerBuilder" "finals" "[Z" (.ref b30) := F62_finals.other W69 (Or.inr (slot_ne (Or.inl (hw _ (List.mem_of_getElem? (i := 35) rfl))) (Or.inr (hw _ (List.mem_of_getElem? (i := 40) rfl))) (by decide) (t := (.array .boolean)) (t' := (.object "com/example/supplant/supplant/automata/SymbolTable")) (by decide) (by decide)))
  have F73_arcs : Fld Z h69 a0 "com/example/supplant/supplant/automata/TransducerBuilder" "arcs" "[I" (.ref b49) := F63_arcs.other W69 (Or.inr (slot_ne (Or.inl (hw _ (List.mem_of_getElem? (i := 38) rfl))) (Or.inr (hw _ (List.mem_of_getElem? (i := 40) rfl))) (by decide) (t := (.array .int)) (t' := (.object "com/example/supplant/supplant/automata/SymbolTable")) (by decide) (by decide)))
  have F74_symbols : Fld Z h69 a0 "com/example/supplant/supplant/automata/TransducerBuilder" "symbols" "Lcom/example/supplant/supplant/automata/SymbolTable;" .null := F64_symbols.same W69
  have F75_stateCount : Fld Z h69 a0 "com/example/supplant/supplant/automata/TransducerBuilder" "stateCount" "I" (.int (0 : Int32)) := F65_stateCount.other W69 (Or.inr (slot_ne (Or.inl (hw _ (List.mem_of_getElem? (i := 47) rfl))) (Or.inr (hw _ (List.mem_of_getElem? (i := 40) rfl))) (by decide) (t := .int) (t' := (.object "com/example/supplant/supplant/automata/SymbolTable")) (by decide) (by decide)))
  have F76_P : own_F Z h69 b30 (8 : Int32) (fun _ => 0) := own_F_keep F66_P (Keep.of_wr W69) (ninS (Ne.symm ne_a0_b30) nin0)
  have Zs77 : n0 ≤ h69.size := Nat.le_trans Zs67 (Keep.of_wr W69).1
  have Kc78 : Keep h0 h69 [a0] := Kc68.wr W69 (Or.inl (List.mem_of_getElem? (i := 0) rfl))
  refine own_st ?_ st69
  show own_G p.tables e below _ _ (T69.setTop (mkF m 36 #[.val (.ref a0), .val .null] []))
  refine own_retV X69 hx hlk hret (hb hby d1_36) (by decide) (by decide) ⟨rfl, N69, ?_⟩
  rw [e69]
  exact ⟨Kc78, b30, sz_b30, ne_a0_b30, F72_finals, F75_stateCount, F76_P⟩
def own_Qc (Z : State) (g1 : Nat → Int32) (h0 : Heap) (n0 : Nat) (v : Option Value) (h : Heap) (L : List Loc) : Prop := ∃ t : Addr, v = some (.ref t) ∧ Fr n0 L ∧ Keep h0 h [] ∧ h0.size ≤ t ∧ own_F Z h t 16 g1
theorem pd_3 : parseMethodDescriptor "(II)I" = some ⟨[.int, .int], some .int⟩ := by decide +kernel
theorem d7_0 : decode jdk_65_method_128_code 0 = .ok (.iload_n 1, 1) := by decide +kernel
theorem d7_1 : decode jdk_65_method_128_code 1 = .ok (.aload_n 0, 1) := by decide +kernel
theorem d7_2 : decode jdk_65_method_128_code 2 = .ok (.arraylength, 1) := by decide +kernel
theorem d7_3 : decode jdk_65_method_128_code 3 = .ok (.if_icmp .ne 11, 3) := by decide +kernel
theorem d7_14 : decode jdk_65_method_128_code 14 = .ok (.iload_n 1, 1) := by decide +kernel
theorem d7_15 : decode jdk_65_method_128_code 15 = .ok (.newarray .boolean, 2) := by decide +kernel
theorem d7_17 : decode jdk_65_method_128_code 17 = .ok (.astore_n 2, 1) := by decide +kernel
theorem d7_18 : decode jdk_65_method_128_code 18 = .ok (.aload_n 0, 1) := by decide +kernel
theorem d7_19 : decode jdk_65_method_128_code 19 = .ok (.iconst 0, 1) := by decide +kernel
theorem d7_20 : decode jdk_65_method_128_code 20 = .ok (.aload_n 2, 1) := by decide +kernel
theorem d7_21 : decode jdk_65_method_128_code 21 = .ok (.iconst 0, 1) := by decide +kernel
theorem d7_22 : decode jdk_65_method_128_code 22 = .ok (.aload_n 0, 1) := by decide +kernel
theorem d7_23 : decode jdk_65_method_128_code 23 = .ok (.arraylength, 1) := by decide +kernel
theorem d7_24 : decode jdk_65_method_128_code 24 = .ok (.iload_n 1, 1) := by decide +kernel
theorem d7_25 : decode jdk_65_method_128_code 25 = .ok (.invokestatic 304, 3) := by decide +kernel
theorem d7_28 : decode jdk_65_method_128_code 28 = .ok (.invokestatic 150, 3) := by decide +kernel
theorem d7_31 : decode jdk_65_method_128_code 31 = .ok (.aload_n 2, 1) := by decide +kernel
theorem d7_32 : decode jdk_65_method_128_code 32 = .ok (.areturn, 1) := by decide +kernel
theorem pn_7 : plainName "java/util/Arrays" = true := by first | (simp [plainName, overriddenIn]; done) | decide +kernel
theorem ef_7 (m : MethodId) (a0 : Addr) : entryFrame m #[(.ref a0), (.int (16 : Int32))] 3 = mkF m 0 #[.val (.ref a0), .val (.int (16 : Int32)), .unset] [] := by first | (simp [entryFrame, mkF, argsToLocals, Value.category]; done) | rfl
set_option maxRecDepth 65536 in
set_option maxHeartbeats 40000000 in
theorem rm7 (l : Launch) (Z : State) (a0 : Array Value) (hw : ∀ d ∈ tables_1, d.before a0 Z = true) (ws : List Jvm.Cond) (a0 : Addr) (g1 : Nat → Int32) (h0 : Heap) (n0 : Nat) (Z0 : n0 ≤ h0.size) (V0 : own_F Z h0 a0 (8 : Int32) g1) (hz8 : ∀ i, 8 ≤ i → g1 i = 0) :
    MetFree l (⟨"java/util/Arrays", "copyOf", "([ZI)[Z"⟩ : MethodName) (head1 (Jvm.Cond.code (⟨"java/util/Arrays", "copyOf", "([ZI)[Z"⟩ : MethodName) jdk_65_method_128_code 3 (some (.array .boolean)) :: ws) ({ frames := 1, cells := 1, slots := 16, locals := 18 } : Room)) (fun a U => a = #[(.ref a0), (.int (16 : Int32))] ∧ Z.Warmed39 U.vm ∧ U.heap = h0) (fun _ _ _ _ _ => True) (fun _ U o U' => ∃ v L, o = .returned v ∧ own_Qc Z g1 h0 n0 v U'.heap L ∧ FrameEnd U o U' L ({ frames := 1, cells := 1, slots := 16, locals := 18 } : Room).cells ({ frames := 1, cells := 1, slots := 16, locals := 18 } : Room).slots) := by
  refine MetFree.of_bodySF (plainFor_of_name pn_7) hisR ?_
  intro p e s m args below meth c s₁ Bd hml0 hP hK
  obtain ⟨rfl, hZ, hh⟩ := hP
  have hx := Bd.exec
  have hby := Bd.bytes
  have hlk : meth.locks = false := BodyLoose.notSynchronized Bd
  have hret := Bd.returns
  have hml : c.maxLocals = 3 := hml0
  have hown : s.vm.findClass "java/util/Arrays" = some m.cls := findClass_of_methodNamed Bd.named
  have hnm := (name_of_methodNamed Bd.named Bd.method).1
  have X0 : Stand p l e ({ frames := 1, cells := 1, slots := 16, locals := 18 } : Room) s m #[(.ref a0), (.int (16 : Int32))] below meth c s₁ [] 0 0 := Stand.of_body Bd
  have e0 : s₁.heap = h0 := by rw [← hh, Bd.state]; rfl
  have N0 := Fr.nil n0
  show own_G p.tables e below (own_E s ({ frames := 1, cells := 1, slots := 16, locals := 18 } : Room).cells ({ frames := 1, cells := 1, slots := 16, locals := 18 } : Room).slots) (own_Qc Z g1 h0 n0) (s₁.setTop (entryFrame m #[(.ref a0), (.int (16 : Int32))] 3))
  refine own_st ?_ (fun t k => castTop (ef_7 m a0) k)
  show own_G p.tables e below _ _ (s₁.setTop (mkF m 0 #[.val (.ref a0), .val (.int (16 : Int32)), .unset] []))
  refine own_st ?_ (fun t k => XS.iloadN X0.here hx rfl (hb hby d7_0) rfl k)
  show own_G p.tables e below _ _ (s₁.setTop (mkF m 1 #[.val (.ref a0), .val (.int (16 : Int32)), .unset] [(.int (16 : Int32))]))
  refine own_st ?_ (fun t k => XS.aloadN X0.here hx rfl (hb hby d7_1) rfl rfl k)
  show own_G p.tables e below _ _ (s₁.setTop (mkF m 2 #[.val (.ref a0), .val (.int (16 : Int32)), .unset] [(.ref a0), (.int (16 : Int32))]))
  obtain ⟨cl1, Ar1, S1, q1, G1⟩ := own_F_open V0
  refine own_st ?_ (X0.arraylength hx (by rw [e0]; exact Ar1.1) (State.isArrayOf_alike hZ.alike Ar1.2.1) (g := (mkF m 2 #[.val (.ref a0), .val (.int (16 : Int32)), .unset] [(.ref a0), (.int (16 : Int32))])) rfl rfl (hb hby d7_2))
  rw [len_of S1 q1]
  show own_G p.tables e below _ _ (s₁.setTop (mkF m 3 #[.val (.ref a0), .val (.int (16 : Int32)), .unset] [(.int (8 : Int32)), (.int (16 : Int32))]))
  refine own_st ?_ (fun t k => XS.icmpYes X0.here hx rfl (pc0 := 3) (pc' := 14) rfl (hb hby d7_3) rfl (feq (by decide : ¬ ((16 : Int32) = (8 : Int32)))).2 (by decide) (by decide) k)
  show own_G p.tables e below _ _ (s₁.setTop (mkF m 14 #[.val (.ref a0), .val (.int (16 : Int32)), .unset] []))
  refine own_st ?_ (fun t k => XS.iloadN X0.here hx rfl (hb hby d7_14) rfl k)
  show own_G p.tables e below _ _ (s₁.setTop (mkF m 15 #[.val (.ref a0), .val (.int (16 : Int32)), .unset] [(.int (16 : Int32))]))
  obtain ⟨T2, h2, k2, X2, e2, E2, A2, st2⟩ := newP X0 hx hZ (hw _ (List.mem_of_getElem? (i := 33) rfl)) e0 (g := (mkF m 15 #[.val (.ref a0), .val (.int (16 : Int32)), .unset] [(.int (16 : Int32))])) rfl (hb hby d7_15) rfl (by decide) (cap := 16) (by decide) (by decide) (by decide) (by decide)
  obtain ⟨b2, gz2⟩ : ∃ z, z = h0.size := ⟨_, rfl⟩
  rw [← gz2] at A2 st2
  have ne_a0_b2 : a0 ≠ b2 := Nat.ne_of_lt (Nat.lt_of_lt_of_le (own_F_lt V0) (Nat.le_of_eq gz2.symm))
  have g_b2 : n0 ≤ b2 := Nat.le_trans Z0 (Nat.le_of_eq gz2.symm)
  have sz_b2 : h0.size ≤ b2 := Nat.le_trans (Keep.refl h0 []).1 (Nat.le_of_eq gz2.symm)
  have F3_P : own_F Z h2 a0 (8 : Int32) g1 := own_F_ext V0 E2
  have Zs4 : n0 ≤ h2.size := Nat.le_trans Z0 E2.1
  have Kc5 : Keep h0 h2 [] := (Keep.refl h0 []).ext E2
  have V_b2 : Arv Z h2 b2 k2 .boolean (16 : Int32) (List.replicate 16 (Value.int 0)) (.int 0) := Arv.pad (Arv.new A2 (by decide)) (pad_rep [] (.int 0) 16)
  refine own_st ?_ st2
  show own_G p.tables e below _ _ (T2.setTop (mkF m 17 #[.val (.ref a0), .val (.int (16 : Int32)), .unset] [(.ref b2)]))
  refine own_st ?_ (fun t k => XS.astoreN X2.here hx rfl (hb hby d7_17) rfl rfl (l' := #[.val (.ref a0), .val (.int (16 : Int32)), .val (.ref b2)]) rfl k)
  show own_G p.tables e below _ _ (T2.setTop (mkF m 18 #[.val (.ref a0), .val (.int (16 : Int32)), .val (.ref b2)] []))
  refine own_st ?_ (fun t k => XS.aloadN X2.here hx rfl (hb hby d7_18) rfl rfl k)
  show own_G p.tables e below _ _ (T2.setTop (mkF m 19 #[.val (.ref a0), .val (.int (16 : Int32)), .val (.ref b2)] [(.ref a0)]))
  refine own_st ?_ (fun t k => XS.iconst X2.here hx rfl (hb hby d7_19) k)
  show own_G p.tables e below _ _ (T2.setTop (mkF m 20 #[.val (.ref a0), .val (.int (16 : Int32)), .val (.ref b2)] [(.int (0 : Int32)), (.ref a0)]))
  refine own_st ?_ (fun t k => XS.aloadN X2.here hx rfl (hb hby d7_20) rfl rfl k)
  show own_G p.tables e below _ _ (T2.setTop (mkF m 21 #[.val (.ref a0), .val (.int (16 : Int32)), .val (.ref b2)] [(.ref b2), (.int (0 : Int32)), (.ref a0)]))
  refine own_st ?_ (fun t k => XS.iconst X2.here hx rfl (hb hby d7_21) k)
  show own_G p.tables e below _ _ (T2.setTop (mkF m 22 #[.val (.ref a0), .val (.int (16 : Int32)), .val (.ref b2)] [(.int (0 : Int32)), (.ref b2), (.int (0 : Int32)), (.ref a0)]))
  refine own_st ?_ (fun t k => XS.aloadN X2.here hx rfl (hb hby d7_22) rfl rfl k)
  show own_G p.tables e below _ _ (T2.setTop (mkF m 23 #[.val (.ref a0), .val (.int (16 : Int32)), .val (.ref b2)] [(.ref a0), (.int (0 : Int32)), (.ref b2), (.int (0 : Int32)), (.ref a0)]))
  obtain ⟨cl6, Ar6, S6, q6, G6⟩ := own_F_open F3_P
  refine own_st ?_ (X2.arraylength hx (by rw [e2]; exact Ar6.1) (State.isArrayOf_alike hZ.alike Ar6.2.1) (g := (mkF m 23 #[.val (.ref a0), .val (.int (16 : Int32)), .val (.ref b2)] [(.ref a0), (.int (0 : Int32)), (.ref b2), (.int (0 : Int32)), (.ref a0)])) rfl rfl (hb hby d7_23))
  rw [len_of S6 q6]
  show own_G p.tables e below _ _ (T2.setTop (mkF m 24 #[.val (.ref a0), .val (.int (16 : Int32)), .val (.ref b2)] [(.int (8 : Int32)), (.int (0 : Int32)), (.ref b2), (.int (0 : Int32)), (.ref a0)]))
  refine own_st ?_ (fun t k => XS.iloadN X2.here hx rfl (hb hby d7_24) rfl k)
  show own_G p.tables e below _ _ (T2.setTop (mkF m 25 #[.val (.ref a0), .val (.int (16 : Int32)), .val (.ref b2)] [(.int (16 : Int32)), (.int (8 : Int32)), (.int (0 : Int32)), (.ref b2), (.int (0 : Int32)), (.ref a0)]))
  obtain ⟨_, _, ⟨T7, L7, k7, n7⟩, -, X7, ⟨Lc7, hQ7, l7, y7, z7⟩, st7⟩ := Jvm.LawKit.callS X2 hx (y := (⟨"java/lang/Math", "min", "(II)I"⟩ : MethodName)) hown (mvT hZ (hw _ (List.mem_of_getElem? (i := 52) rfl))) (mvT hZ (hw _ (List.mem_of_getElem? (i := 53) rfl))) (mvT hZ (hw _ (List.mem_of_getElem? (i := 54) rfl))) (mvT hZ (hw _ (List.mem_of_getElem? (i := 55) rfl))) (by decide) (backOf (W := 4) (rm8 l Z _ hw [] (8 : Int32) (16 : Int32)  h2 n0 Zs4 ) hZ (hw _ (List.mem_of_getElem? (i := 55) rfl)) (hw _ (List.mem_of_getElem? (i := 54) rfl)) (by decide) (by decide)) (g := (mkF m 25 #[.val (.ref a0), .val (.int (16 : Int32)), .val (.ref b2)] [(.int (16 : Int32)), (.int (8 : Int32)), (.int (0 : Int32)), (.ref b2), (.int (0 : Int32)), (.ref a0)])) rfl (by rw [hml]; rfl) (argsL := [(.int (8 : Int32)), (.int (16 : Int32))]) (rest := [(.int (0 : Int32)), (.ref b2), (.int (0 : Int32)), (.ref a0)]) (lenOf pd_3 rfl) rfl (by show 2 * 0 + _ ≤ _; exact Nat.le_of_eq rfl) (hb hby d7_25) (fun _ _ => ⟨rfl, e2, (by decide : 1 + 0 ≤ _), (by decide : 16 + 0 ≤ _)⟩)
  dsimp only [Pt.U, Pt.locs, Pt.cells, Pt.slots] at X7 l7 y7 z7 st7 hQ7
  subst l7 y7 z7
  obtain ⟨rfl, N7q, e7⟩ := hQ7
  have N7 := Fr.app N0 N7q
  refine own_st ?_ st7
  show own_G p.tables e below _ _ (T7.setTop (mkF m 28 #[.val (.ref a0), .val (.int (16 : Int32)), .val (.ref b2)] [(.int (f8 (8 : Int32) (16 : Int32))), (.int (0 : Int32)), (.ref b2), (.int (0 : Int32)), (.ref a0)]))
  obtain ⟨ks8, vs8, As8, ls8, gs8⟩ := F3_P
  obtain ⟨T8, h8, L8, X8, e8, N8, K8, B8, st8⟩ := cpA X7 hx hZ hown (hw _ (List.mem_of_getElem? (i := 56) rfl)) (hw _ (List.mem_of_getElem? (i := 59) rfl)) (hw _ (List.mem_of_getElem? (i := 57) rfl)) (hw _ (List.mem_of_getElem? (i := 58) rfl)) e7 As8 V_b2 (Or.inl ⟨rfl, rfl⟩) (by decide) (by decide) (by decide +kernel) (by decide +kernel) (by decide +kernel) rfl (by decide +kernel) N7 g_b2 (g := (mkF m 28 #[.val (.ref a0), .val (.int (16 : Int32)), .val (.ref b2)] [(.int (f8 (8 : Int32) (16 : Int32))), (.int (0 : Int32)), (.ref b2), (.int (0 : Int32)), (.ref a0)])) rfl (by rw [hml]; rfl) rfl (hb hby d7_28) (by decide) (W := 0) (by show 2 * 0 + _ ≤ _; exact Nat.le_of_eq rfl) (by decide +kernel)
  have V8 : own_F Z h8 b2 16 g1 := own_F_copy B8 gs8 hz8
  have Zs9 : n0 ≤ h8.size := Nat.le_trans Zs4 K8.1
  have Kc10 : Keep h0 h8 [] := Kc5.trans K8 (allS (Or.inr sz_b2) all0)
  refine own_st ?_ st8
  show own_G p.tables e below _ _ (T8.setTop (mkF m 31 #[.val (.ref a0), .val (.int (16 : Int32)), .val (.ref b2)] []))
  refine own_st ?_ (fun t k => XS.aloadN X8.here hx rfl (hb hby d7_31) rfl rfl k)
  show own_G p.tables e below _ _ (T8.setTop (mkF m 32 #[.val (.ref a0), .val (.int (16 : Int32)), .val (.ref b2)] [(.ref b2)]))
  refine own_retA X8 hx hlk hret rfl rfl rfl (hb hby d7_32) (by decide) (by decide) ⟨b2, rfl, N8, ?_⟩
  rw [e8]
  exact ⟨Kc10, sz_b2, V8⟩
theorem d6_0 : decode prog_18_method_5_code 0 = .ok (.aload_n 0, 1) := by decide +kernel
theorem d6_1 : decode prog_18_method_5_code 1 = .ok (.getfield 35, 3) := by decide +kernel
theorem d6_4 : decode prog_18_method_5_code 4 = .ok (.aload_n 0, 1) := by decide +kernel
theorem d6_5 : decode prog_18_method_5_code 5 = .ok (.getfield 16, 3) := by decide +kernel
theorem d6_8 : decode prog_18_method_5_code 8 = .ok (.arraylength, 1) := by decide +kernel
theorem d6_9 : decode prog_18_method_5_code 9 = .ok (.if_icmp .ne 20, 3) := by decide +kernel
theorem d6_29 : decode prog_18_method_5_code 29 = .ok (.aload_n 0, 1) := by decide +kernel
theorem d6_30 : decode prog_18_method_5_code 30 = .ok (.dup, 1) := by decide +kernel
theorem d6_31 : decode prog_18_method_5_code 31 = .ok (.getfield 35, 3) := by decide +kernel
theorem d6_34 : decode prog_18_method_5_code 34 = .ok (.dup_x1, 1) := by decide +kernel
theorem d6_35 : decode prog_18_method_5_code 35 = .ok (.iconst 1, 1) := by decide +kernel
theorem d6_36 : decode prog_18_method_5_code 36 = .ok (.iadd, 1) := by decide +kernel
theorem d6_37 : decode prog_18_method_5_code 37 = .ok (.putfield 35, 3) := by decide +kernel
theorem d6_40 : decode prog_18_method_5_code 40 = .ok (.ireturn, 1) := by decide +kernel
theorem pn_6 : plainName "com/example/supplant/supplant/automata/TransducerBuilder" = true := by first | (simp [plainName, overriddenIn]; done) | decide +kernel
theorem ef_6 (m : MethodId) (a0 : Addr) : entryFrame m #[(.ref a0)] 1 = mkF m 0 #[.val (.ref a0)] [] := by first | (simp [entryFrame, mkF, argsToLocals, Value.category]; done) | rfl
set_option maxRecDepth 65536 in
set_option maxHeartbeats 40000000 in
theorem rm6 (l : Launch) (Z : State) (a0 : Array Value) (hw : ∀ d ∈ tables_1, d.before a0 Z = true) (ws : List Jvm.Cond) (a0 : Addr) (t : Addr) (cnt : Int32) (g1 : Nat → Int32) (h0 : Heap) (n0 : Nat) (Z0 : n0 ≤ h0.size) (g_a0 : n0 ≤ a0) (g_t : n0 ≤ t) (E0 : Exa Z h0 a0 "com/example/supplant/supplant/automata/TransducerBuilder") (F1 : Fld Z h0 a0 "com/example/supplant/supplant/automata/TransducerBuilder" "finals" "[Z" (.ref t)) (F2 : Fld Z h0 a0 "com/example/supplant/supplant/automata/TransducerBuilder" "stateCount" "I" (.int cnt)) (V0 : own_F Z h0 t (8 : Int32) g1) (hne : a0 ≠ t) (hcnt : ¬ cnt = (8 : Int32)) :
    MetFree l (⟨"com/example/supplant/supplant/automata/TransducerBuilder", "addState", "()I"⟩ : MethodName) (head1 (Jvm.Cond.code (⟨"com/example/supplant/supplant/automata/TransducerBuilder", "addState", "()I"⟩ : MethodName) prog_18_method_5_code 1 (some .int) :: ws) ({ frames := 0, cells := 0, slots := 0, locals := 0 } : Room)) (fun a U => a = #[(.ref a0)] ∧ Z.Warmed39 U.vm ∧ U.heap = h0) (fun _ _ _ _ _ => True) (fun _ U o U' => ∃ v L, o = .returned v ∧ own_QK Z (some (.int cnt)) [a0] (fun h => ∃ t : Addr, n0 ≤ t ∧ a0 ≠ t ∧ Fld Z h a0 "com/example/supplant/supplant/automata/TransducerBuilder" "finals" "[Z" (.ref t) ∧ Fld Z h a0 "com/example/supplant/supplant/automata/TransducerBuilder" "stateCount" "I" (.int (cnt + (1 : Int32))) ∧ own_F Z h t 8 g1) h0 n0 v U'.heap L ∧ FrameEnd U o U' L ({ frames := 0, cells := 0, slots := 0, locals := 0 } : Room).cells ({ frames := 0, cells := 0, slots := 0, locals := 0 } : Room).slots) := by
  refine MetFree.of_bodySF (plainFor_of_name pn_6) hisR ?_
  intro p e s m args below meth c s₁ Bd hml0 hP hK
  obtain ⟨rfl, hZ, hh⟩ := hP
  have hx := Bd.exec
  have hby := Bd.bytes
  have hlk : meth.locks = false := BodyLoose.notSynchronized Bd
  have hret := Bd.returns
  have hml : c.maxLocals = 1 := hml0
  have hown : s.vm.findClass "com/example/supplant/supplant/automata/TransducerBuilder" = some m.cls := findClass_of_methodNamed Bd.named
  have hnm := (name_of_methodNamed Bd.named Bd.method).1
  have X0 : Stand p l e ({ frames := 0, cells := 0, slots := 0, locals := 0 } : Room) s m #[(.ref a0)] below meth c s₁ [] 0 0 := Stand.of_body Bd
  have e0 : s₁.heap = h0 := by rw [← hh, Bd.state]; rfl
  have N0 := Fr.nil n0
  show own_G p.tables e below (own_E s ({ frames := 0, cells := 0, slots := 0, locals := 0 } : Room).cells ({ frames := 0, cells := 0, slots := 0, locals := 0 } : Room).slots) (own_QK Z (some (.int cnt)) [a0] (fun h => ∃ t : Addr, n0 ≤ t ∧ a0 ≠ t ∧ Fld Z h a0 "com/example/supplant/supplant/automata/TransducerBuilder" "finals" "[Z" (.ref t) ∧ Fld Z h a0 "com/example/supplant/supplant/automata/TransducerBuilder" "stateCount" "I" (.int (cnt + (1 : Int32))) ∧ own_F Z h t 8 g1) h0 n0) (s₁.setTop (entryFrame m #[(.ref a0)] 1))
  refine own_st ?_ (fun t k => castTop (ef_6 m a0) k)
  show own_G p.tables e below _ _ (s₁.setTop (mkF m 0 #[.val (.ref a0)] []))
  refine own_st ?_ (fun t k => XS.aloadN X0.here hx rfl (hb hby d6_0) rfl rfl k)
  show own_G p.tables e below _ _ (s₁.setTop (mkF m 1 #[.val (.ref a0)] [(.ref a0)]))
  obtain ⟨T1, X1, e1, st1⟩ := getF X0 hx hZ hown (host := "") (Or.inl (hw _ (List.mem_of_getElem? (i := 46) rfl))) Via.refl e0 F2 (g := (mkF m 1 #[.val (.ref a0)] [(.ref a0)])) rfl rfl (hb hby d6_1)
  refine own_st ?_ st1
  show own_G p.tables e below _ _ (T1.setTop (mkF m 4 #[.val (.ref a0)] [(.int cnt)]))
  refine own_st ?_ (fun t k => XS.aloadN X1.here hx rfl (hb hby d6_4) rfl rfl k)
  show own_G p.tables e below _ _ (T1.setTop (mkF m 5 #[.val (.ref a0)] [(.ref a0), (.int cnt)]))
  obtain ⟨T2, X2, e2, st2⟩ := getF X1 hx hZ hown (host := "") (Or.inl (hw _ (List.mem_of_getElem? (i := 34) rfl))) Via.refl e1 F1 (g := (mkF m 5 #[.val (.ref a0)] [(.ref a0), (.int cnt)])) rfl rfl (hb hby d6_5)
  refine own_st ?_ st2
  show own_G p.tables e below _ _ (T2.setTop (mkF m 8 #[.val (.ref a0)] [(.ref t), (.int cnt)]))
  obtain ⟨cl3, Ar3, S3, q3, G3⟩ := own_F_open V0
  refine own_st ?_ (X2.arraylength hx (by rw [e2]; exact Ar3.1) (State.isArrayOf_alike hZ.alike Ar3.2.1) (g := (mkF m 8 #[.val (.ref a0)] [(.ref t), (.int cnt)])) rfl rfl (hb hby d6_8))
  rw [len_of S3 q3]
  show own_G p.tables e below _ _ (T2.setTop (mkF m 9 #[.val (.ref a0)] [(.int (8 : Int32)), (.int cnt)]))
  refine own_st ?_ (fun t k => XS.icmpYes X2.here hx rfl (pc0 := 9) (pc' := 29) rfl (hb hby d6_9) rfl (feq hcnt).2 (by decide) (by decide) k)
  show own_G p.tables e below _ _ (T2.setTop (mkF m 29 #[.val (.ref a0)] []))
  refine own_st ?_ (fun t k => XS.aloadN X2.here hx rfl (hb hby d6_29) rfl rfl k)
  show own_G p.tables e below _ _ (T2.setTop (mkF m 30 #[.val (.ref a0)] [(.ref a0)]))
  refine own_st ?_ (fun t k => XS.dup X2.here hx rfl (hb hby d6_30) rfl rfl k)
  show own_G p.tables e below _ _ (T2.setTop (mkF m 31 #[.val (.ref a0)] [(.ref a0), (.ref a0)]))
  obtain ⟨T4, X4, e4, st4⟩ := getF X2 hx hZ hown (host := "") (Or.inl (hw _ (List.mem_of_getElem? (i := 46) rfl))) Via.refl e2 F2 (g := (mkF m 31 #[.val (.ref a0)] [(.ref a0), (.ref a0)])) rfl rfl (hb hby d6_31)
  refine own_st ?_ st4
  show own_G p.tables e below _ _ (T4.setTop (mkF m 34 #[.val (.ref a0)] [(.int cnt), (.ref a0)]))
  refine own_st ?_ (fun t k => XS.dupX1 X4.here hx rfl (hb hby d6_34) rfl rfl rfl k)
  show own_G p.tables e below _ _ (T4.setTop (mkF m 35 #[.val (.ref a0)] [(.int cnt), (.ref a0), (.int cnt)]))
  refine own_st ?_ (fun t k => XS.iconst X4.here hx rfl (hb hby d6_35) k)
  show own_G p.tables e below _ _ (T4.setTop (mkF m 36 #[.val (.ref a0)] [(.int (1 : Int32)), (.int cnt), (.ref a0), (.int cnt)]))
  refine own_st ?_ (fun t k => XS.iadd X4.here hx rfl (hb hby d6_36) rfl k)
  show own_G p.tables e below _ _ (T4.setTop (mkF m 37 #[.val (.ref a0)] [(.int (cnt + (1 : Int32))), (.ref a0), (.int cnt)]))
  obtain ⟨T5, h5, X5, e5, W5, st5⟩ := putF X4 hx hZ hown (host := "") (Or.inl (hw _ (List.mem_of_getElem? (i := 46) rfl))) Via.refl e4 F2 E0 (Or.inl (hw _ (List.mem_of_getElem? (i := 47) rfl))) (hw _ (List.mem_of_getElem? (i := 1) rfl)) (ty := .int) (by decide) rfl rfl (g := (mkF m 37 #[.val (.ref a0)] [(.int (cnt + (1 : Int32))), (.ref a0), (.int cnt)])) rfl rfl (hb hby d6_37)
  have N5 := Fr.snoc X5 N0 g_a0
  have F6_E : Exa Z h5 a0 "com/example/supplant/supplant/automata/TransducerBuilder" := E0.wr W5
  have F7_finals : Fld Z h5 a0 "com/example/supplant/supplant/automata/TransducerBuilder" "finals" "[Z" (.ref t) := F1.other W5 (Or.inr (slot_ne (Or.inl (hw _ (List.mem_of_getElem? (i := 35) rfl))) (Or.inl (hw _ (List.mem_of_getElem? (i := 47) rfl))) (by decide) (t := (.array .boolean)) (t' := .int) (by decide) (by decide)))
  have F8_stateCount : Fld Z h5 a0 "com/example/supplant/supplant/automata/TransducerBuilder" "stateCount" "I" (.int (cnt + (1 : Int32))) := F2.same W5
  have F9_P : own_F Z h5 t (8 : Int32) g1 := own_F_keep V0 (Keep.of_wr W5) (ninS (Ne.symm hne) nin0)
  have Zs10 : n0 ≤ h5.size := Nat.le_trans Z0 (Keep.of_wr W5).1
  have Kc11 : Keep h0 h5 [a0] := (Keep.refl h0 [a0]).wr W5 (Or.inl (List.mem_of_getElem? (i := 0) rfl))
  refine own_st ?_ st5
  show own_G p.tables e below _ _ (T5.setTop (mkF m 40 #[.val (.ref a0)] [(.int cnt)]))
  refine own_retI X5 hx hlk hret (hb hby d6_40) (by decide) (by decide) ⟨rfl, N5, ?_⟩
  rw [e5]
  exact ⟨Kc11, t, g_t, hne, F7_finals, F8_stateCount, F9_P⟩
theorem pd_4 : parseMethodDescriptor "([ZI)[Z" = some ⟨[(.array .boolean), .int], some (.array .boolean)⟩ := by decide +kernel
theorem d6_12 : decode prog_18_method_5_code 12 = .ok (.aload_n 0, 1) := by decide +kernel
theorem d6_13 : decode prog_18_method_5_code 13 = .ok (.aload_n 0, 1) := by decide +kernel
theorem d6_14 : decode prog_18_method_5_code 14 = .ok (.getfield 16, 3) := by decide +kernel
theorem d6_17 : decode prog_18_method_5_code 17 = .ok (.aload_n 0, 1) := by decide +kernel
theorem d6_18 : decode prog_18_method_5_code 18 = .ok (.getfield 35, 3) := by decide +kernel
theorem d6_21 : decode prog_18_method_5_code 21 = .ok (.iconst 2, 1) := by decide +kernel
theorem d6_22 : decode prog_18_method_5_code 22 = .ok (.imul, 1) := by decide +kernel
theorem d6_23 : decode prog_18_method_5_code 23 = .ok (.invokestatic 39, 3) := by decide +kernel
theorem d6_26 : decode prog_18_method_5_code 26 = .ok (.putfield 16, 3) := by decide +kernel
theorem pn_6g : plainName "com/example/supplant/supplant/automata/TransducerBuilder" = true := by first | (simp [plainName, overriddenIn]; done) | decide +kernel
theorem ef_6g (m : MethodId) (a0 : Addr) : entryFrame m #[(.ref a0)] 1 = mkF m 0 #[.val (.ref a0)] [] := by first | (simp [entryFrame, mkF, argsToLocals, Value.category]; done) | rfl
set_option maxRecDepth 65536 in
set_option maxHeartbeats 40000000 in
theorem rm6g (l : Launch) (Z : State) (a0 : Array Value) (hw : ∀ d ∈ tables_1, d.before a0 Z = true) (ws : List Jvm.Cond) (a0 : Addr) (t : Addr) (g1 : Nat → Int32) (h0 : Heap) (n0 : Nat) (Z0 : n0 ≤ h0.size) (g_a0 : n0 ≤ a0) (g_t : n0 ≤ t) (E0 : Exa Z h0 a0 "com/example/supplant/supplant/automata/TransducerBuilder") (F1 : Fld Z h0 a0 "com/example/supplant/supplant/automata/TransducerBuilder" "finals" "[Z" (.ref t)) (F2 : Fld Z h0 a0 "com/example/supplant/supplant/automata/TransducerBuilder" "stateCount" "I" (.int (8 : Int32))) (V0 : own_F Z h0 t (8 : Int32) g1) (hne : a0 ≠ t) (hz8 : ∀ i, 8 ≤ i → g1 i = 0) :
    MetFree l (⟨"com/example/supplant/supplant/automata/TransducerBuilder", "addState", "()I"⟩ : MethodName) (head1 (Jvm.Cond.code (⟨"com/example/supplant/supplant/automata/TransducerBuilder", "addState", "()I"⟩ : MethodName) prog_18_method_5_code 1 (some .int) :: ws) ({ frames := 2, cells := 1, slots := 16, locals := 33 } : Room)) (fun a U => a = #[(.ref a0)] ∧ Z.Warmed39 U.vm ∧ U.heap = h0) (fun _ _ _ _ _ => True) (fun _ U o U' => ∃ v L, o = .returned v ∧ own_QK Z (some (.int (8 : Int32))) [a0] (fun h => ∃ t : Addr, n0 ≤ t ∧ a0 ≠ t ∧ Fld Z h a0 "com/example/supplant/supplant/automata/TransducerBuilder" "finals" "[Z" (.ref t) ∧ Fld Z h a0 "com/example/supplant/supplant/automata/TransducerBuilder" "stateCount" "I" (.int ((8 : Int32) + (1 : Int32))) ∧ own_F Z h t 16 g1) h0 n0 v U'.heap L ∧ FrameEnd U o U' L ({ frames := 2, cells := 1, slots := 16, locals := 33 } : Room).cells ({ frames := 2, cells := 1, slots := 16, locals := 33 } : Room).slots) := by
  refine MetFree.of_bodySF (plainFor_of_name pn_6g) hisR ?_
  intro p e s m args below meth c s₁ Bd hml0 hP hK
  obtain ⟨rfl, hZ, hh⟩ := hP
  have hx := Bd.exec
  have hby := Bd.bytes
  have hlk : meth.locks = false := BodyLoose.notSynchronized Bd
  have hret := Bd.returns
  have hml : c.maxLocals = 1 := hml0
  have hown : s.vm.findClass "com/example/supplant/supplant/automata/TransducerBuilder" = some m.cls := findClass_of_methodNamed Bd.named
  have hnm := (name_of_methodNamed Bd.named Bd.method).1
  have X0 : Stand p l e ({ frames := 2, cells := 1, slots := 16, locals := 33 } : Room) s m #[(.ref a0)] below meth c s₁ [] 0 0 := Stand.of_body Bd
  have e0 : s₁.heap = h0 := by rw [← hh, Bd.state]; rfl
  have N0 := Fr.nil n0
  show own_G p.tables e below (own_E s ({ frames := 2, cells := 1, slots := 16, locals := 33 } : Room).cells ({ frames := 2, cells := 1, slots := 16, locals := 33 } : Room).slots) (own_QK Z (some (.int (8 : Int32))) [a0] (fun h => ∃ t : Addr, n0 ≤ t ∧ a0 ≠ t ∧ Fld Z h a0 "com/example/supplant/supplant/automata/TransducerBuilder" "finals" "[Z" (.ref t) ∧ Fld Z h a0 "com/example/supplant/supplant/automata/TransducerBuilder" "stateCount" "I" (.int ((8 : Int32) + (1 : Int32))) ∧ own_F Z h t 16 g1) h0 n0) (s₁.setTop (entryFrame m #[(.ref a0)] 1))
  refine own_st ?_ (fun t k => castTop (ef_6g m a0) k)
  show own_G p.tables e below _ _ (s₁.setTop (mkF m 0 #[.val (.ref a0)] []))
  refine own_st ?_ (fun t k => XS.aloadN X0.here hx rfl (hb hby d6_0) rfl rfl k)
  show own_G p.tables e below _ _ (s₁.setTop (mkF m 1 #[.val (.ref a0)] [(.ref a0)]))
  obtain ⟨T1, X1, e1, st1⟩ := getF X0 hx hZ hown (host := "") (Or.inl (hw _ (List.mem_of_getElem? (i := 46) rfl))) Via.refl e0 F2 (g := (mkF m 1 #[.val (.ref a0)] [(.ref a0)])) rfl rfl (hb hby d6_1)
  refine own_st ?_ st1
  show own_G p.tables e below _ _ (T1.setTop (mkF m 4 #[.val (.ref a0)] [(.int (8 : Int32))]))
  refine own_st ?_ (fun t k => XS.aloadN X1.here hx rfl (hb hby d6_4) rfl rfl k)
  show own_G p.tables e below _ _ (T1.setTop (mkF m 5 #[.val (.ref a0)] [(.ref a0), (.int (8 : Int32))]))
  obtain ⟨T2, X2, e2, st2⟩ := getF X1 hx hZ hown (host := "") (Or.inl (hw _ (List.mem_of_getElem? (i := 34) rfl))) Via.refl e1 F1 (g := (mkF m 5 #[.val (.ref a0)] [(.ref a0), (.int (8 : Int32))])) rfl rfl (hb hby d6_5)
  refine own_st ?_ st2
  show own_G p.tables e below _ _ (T2.setTop (mkF m 8 #[.val (.ref a0)] [(.ref t), (.int (8 : Int32))]))
  obtain ⟨cl3, Ar3, S3, q3, G3⟩ := own_F_open V0
  refine own_st ?_ (X2.arraylength hx (by rw [e2]; exact Ar3.1) (State.isArrayOf_alike hZ.alike Ar3.2.1) (g := (mkF m 8 #[.val (.ref a0)] [(.ref t), (.int (8 : Int32))])) rfl rfl (hb hby d6_8))
  rw [len_of S3 q3]
  show own_G p.tables e below _ _ (T2.setTop (mkF m 9 #[.val (.ref a0)] [(.int (8 : Int32)), (.int (8 : Int32))]))
  refine own_st ?_ (fun t k => XS.icmpNo X2.here hx rfl (hb hby d6_9) rfl (teq (by decide : (8 : Int32) = (8 : Int32))).2 k)
  show own_G p.tables e below _ _ (T2.setTop (mkF m 12 #[.val (.ref a0)] []))
  refine own_st ?_ (fun t k => XS.aloadN X2.here hx rfl (hb hby d6_12) rfl rfl k)
  show own_G p.tables e below _ _ (T2.setTop (mkF m 13 #[.val (.ref a0)] [(.ref a0)]))
  refine own_st ?_ (fun t k => XS.aloadN X2.here hx rfl (hb hby d6_13) rfl rfl k)
  show own_G p.tables e below _ _ (T2.setTop (mkF m 14 #[.val (.ref a0)] [(.ref a0), (.ref a0)]))
  obtain ⟨T4, X4, e4, st4⟩ := getF X2 hx hZ hown (host := "") (Or.inl (hw _ (List.mem_of_getElem? (i := 34) rfl))) Via.refl e2 F1 (g := (mkF m 14 #[.val (.ref a0)] [(.ref a0), (.ref a0)])) rfl rfl (hb hby d6_14)
  refine own_st ?_ st4
  show own_G p.tables e below _ _ (T4.setTop (mkF m 17 #[.val (.ref a0)] [(.ref t), (.ref a0)]))
  refine own_st ?_ (fun t k => XS.aloadN X4.here hx rfl (hb hby d6_17) rfl rfl k)
  show own_G p.tables e below _ _ (T4.setTop (mkF m 18 #[.val (.ref a0)] [(.ref a0), (.ref t), (.ref a0)]))
  obtain ⟨T5, X5, e5, st5⟩ := getF X4 hx hZ hown (host := "") (Or.inl (hw _ (List.mem_of_getElem? (i := 46) rfl))) Via.refl e4 F2 (g := (mkF m 18 #[.val (.ref a0)] [(.ref a0), (.ref t), (.ref a0)])) rfl rfl (hb hby d6_18)
  refine own_st ?_ st5
  show own_G p.tables e below _ _ (T5.setTop (mkF m 21 #[.val (.ref a0)] [(.int (8 : Int32)), (.ref t), (.ref a0)]))
  refine own_st ?_ (fun t k => XS.iconst X5.here hx rfl (hb hby d6_21) k)
  show own_G p.tables e below _ _ (T5.setTop (mkF m 22 #[.val (.ref a0)] [(.int (2 : Int32)), (.int (8 : Int32)), (.ref t), (.ref a0)]))
  refine own_st ?_ (fun t k => XS.imul X5.here hx rfl (hb hby d6_22) rfl k)
  show own_G p.tables e below _ _ (T5.setTop (mkF m 23 #[.val (.ref a0)] [(.int ((8 : Int32) * (2 : Int32))), (.ref t), (.ref a0)]))
  obtain ⟨_, _, ⟨T6, L6, k6, n6⟩, -, X6, ⟨Lc6, hQ6, l6, y6, z6⟩, st6⟩ := Jvm.LawKit.callS X5 hx (y := (⟨"java/util/Arrays", "copyOf", "([ZI)[Z"⟩ : MethodName)) hown (mvT hZ (hw _ (List.mem_of_getElem? (i := 48) rfl))) (mvT hZ (hw _ (List.mem_of_getElem? (i := 49) rfl))) (mvT hZ (hw _ (List.mem_of_getElem? (i := 50) rfl))) (mvT hZ (hw _ (List.mem_of_getElem? (i := 51) rfl))) (by decide) (backOf (W := 1) (rm7 l Z _ hw [] t g1 h0 n0 Z0 V0 hz8) hZ (hw _ (List.mem_of_getElem? (i := 51) rfl)) (hw _ (List.mem_of_getElem? (i := 50) rfl)) (by decide) (by decide)) (g := (mkF m 23 #[.val (.ref a0)] [(.int ((8 : Int32) * (2 : Int32))), (.ref t), (.ref a0)])) rfl (by rw [hml]; rfl) (argsL := [(.ref t), (.int ((8 : Int32) * (2 : Int32)))]) (rest := [(.ref a0)]) (lenOf pd_4 rfl) rfl (by show 2 * 0 + _ ≤ _; exact Nat.le_of_eq rfl) (hb hby d6_23) (fun _ _ => ⟨rfl, e5, (by decide : 0 + 1 ≤ _), (by decide : 0 + 16 ≤ _)⟩)
  dsimp only [Pt.U, Pt.locs, Pt.cells, Pt.slots] at X6 l6 y6 z6 st6 hQ6
  subst l6 y6 z6
  obtain ⟨t6, rfl, N6q, hq6⟩ := hQ6
  have N6 := Fr.app N0 N6q
  obtain ⟨K6, hs6, V6⟩ := hq6
  have g_t6 : n0 ≤ t6 := Nat.le_trans Z0 hs6
  have ne_t6 : a0 ≠ t6 := Nat.ne_of_lt (Nat.lt_of_lt_of_le E0.lt hs6)
  have F7_E : Exa Z T6.heap a0 "com/example/supplant/supplant/automata/TransducerBuilder" := E0.keep K6
  have F8_finals : Fld Z T6.heap a0 "com/example/supplant/supplant/automata/TransducerBuilder" "finals" "[Z" (.ref t) := F1.keep K6 nin0
  have F9_stateCount : Fld Z T6.heap a0 "com/example/supplant/supplant/automata/TransducerBuilder" "stateCount" "I" (.int (8 : Int32)) := F2.keep K6 nin0
  have F10_P : own_F Z T6.heap t (8 : Int32) g1 := own_F_keep V0 K6 nin0
  have Zs11 : n0 ≤ T6.heap.size := Nat.le_trans Z0 K6.1
  have Kc12 : Keep h0 T6.heap [a0] := (Keep.refl h0 [a0]).trans K6 all0
  refine own_st ?_ st6
  show own_G p.tables e below _ _ (T6.setTop (mkF m 26 #[.val (.ref a0)] [(.ref t6), (.ref a0)]))
  obtain ⟨T13, h13, X13, e13, W13, st13⟩ := putF X6 hx hZ hown (host := "") (Or.inl (hw _ (List.mem_of_getElem? (i := 34) rfl))) Via.refl rfl F8_finals F7_E (Or.inl (hw _ (List.mem_of_getElem? (i := 35) rfl))) (hw _ (List.mem_of_getElem? (i := 1) rfl)) (ty := (.array .boolean)) (by decide) rfl rfl (g := (mkF m 26 #[.val (.ref a0)] [(.ref t6), (.ref a0)])) rfl rfl (hb hby d6_26)
  have N13 := Fr.snoc X13 N6 g_a0
  have F14_E : Exa Z h13 a0 "com/example/supplant/supplant/automata/TransducerBuilder" := F7_E.wr W13
  have F15_finals : Fld Z h13 a0 "com/example/supplant/supplant/automata/TransducerBuilder" "finals" "[Z" (.ref t6) := F8_finals.same W13
  have F16_stateCount : Fld Z h13 a0 "com/example/supplant/supplant/automata/TransducerBuilder" "stateCount" "I" (.int (8 : Int32)) := F9_stateCount.other W13 (Or.inr (slot_ne (Or.inl (hw _ (List.mem_of_getElem? (i := 47) rfl))) (Or.inl (hw _ (List.mem_of_getElem? (i := 35) rfl))) (by decide) (t := .int) (t' := (.array .boolean)) (by decide) (by decide)))
  have F17_P : own_F Z h13 t6 (16 : Int32) g1 := own_F_keep V6 (Keep.of_wr W13) (ninS (Ne.symm ne_t6) nin0)
  have Zs18 : n0 ≤ h13.size := Nat.le_trans Zs11 (Keep.of_wr W13).1
  have Kc19 : Keep h0 h13 [a0] := Kc12.wr W13 (Or.inl (List.mem_of_getElem? (i := 0) rfl))
  refine own_st ?_ st13
  show own_G p.tables e below _ _ (T13.setTop (mkF m 29 #[.val (.ref a0)] []))
  refine own_st ?_ (fun t k => XS.aloadN X13.here hx rfl (hb hby d6_29) rfl rfl k)
  show own_G p.tables e below _ _ (T13.setTop (mkF m 30 #[.val (.ref a0)] [(.ref a0)]))
  refine own_st ?_ (fun t k => XS.dup X13.here hx rfl (hb hby d6_30) rfl rfl k)
  show own_G p.tables e below _ _ (T13.setTop (mkF m 31 #[.val (.ref a0)] [(.ref a0), (.ref a0)]))
  obtain ⟨T20, X20, e20, st20⟩ := getF X13 hx hZ hown (host := "") (Or.inl (hw _ (List.mem_of_getElem? (i := 46) rfl))) Via.refl e13 F16_stateCount (g := (mkF m 31 #[.val (.ref a0)] [(.ref a0), (.ref a0)])) rfl rfl (hb hby d6_31)
  refine own_st ?_ st20
  show own_G p.tables e below _ _ (T20.setTop (mkF m 34 #[.val (.ref a0)] [(.int (8 : Int32)), (.ref a0)]))
  refine own_st ?_ (fun t k => XS.dupX1 X20.here hx rfl (hb hby d6_34) rfl rfl rfl k)
  show own_G p.tables e below _ _ (T20.setTop (mkF m 35 #[.val (.ref a0)] [(.int (8 : Int32)), (.ref a0), (.int (8 : Int32))]))
  refine own_st ?_ (fun t k => XS.iconst X20.here hx rfl (hb hby d6_35) k)
  show own_G p.tables e below _ _ (T20.setTop (mkF m 36 #[.val (.ref a0)] [(.int (1 : Int32)), (.int (8 : Int32)), (.ref a0), (.int (8 : Int32))]))
  refine own_st ?_ (fun t k => XS.iadd X20.here hx rfl (hb hby d6_36) rfl k)
  show own_G p.tables e below _ _ (T20.setTop (mkF m 37 #[.val (.ref a0)] [(.int ((8 : Int32) + (1 : Int32))), (.ref a0), (.int (8 : Int32))]))
  obtain ⟨T21, h21, X21, e21, W21, st21⟩ := putF X20 hx hZ hown (host := "") (Or.inl (hw _ (List.mem_of_getElem? (i := 46) rfl))) Via.refl e20 F16_stateCount F14_E (Or.inl (hw _ (List.mem_of_getElem? (i := 47) rfl))) (hw _ (List.mem_of_getElem? (i := 1) rfl)) (ty := .int) (by decide) rfl rfl (g := (mkF m 37 #[.val (.ref a0)] [(.int ((8 : Int32) + (1 : Int32))), (.ref a0), (.int (8 : Int32))])) rfl rfl (hb hby d6_37)
  have N21 := Fr.snoc X21 N13 g_a0
  have F22_E : Exa Z h21 a0 "com/example/supplant/supplant/automata/TransducerBuilder" := F14_E.wr W21
  have F23_finals : Fld Z h21 a0 "com/example/supplant/supplant/automata/TransducerBuilder" "finals" "[Z" (.ref t6) := F15_finals.other W21 (Or.inr (slot_ne (Or.inl (hw _ (List.mem_of_getElem? (i := 35) rfl))) (Or.inl (hw _ (List.mem_of_getElem? (i := 47) rfl))) (by decide) (t := (.array .boolean)) (t' := .int) (by decide) (by decide)))
  have F24_stateCount : Fld Z h21 a0 "com/example/supplant/supplant/automata/TransducerBuilder" "stateCount" "I" (.int ((8 : Int32) + (1 : Int32))) := F16_stateCount.same W21
  have F25_P : own_F Z h21 t6 (16 : Int32) g1 := own_F_keep F17_P (Keep.of_wr W21) (ninS (Ne.symm ne_t6) nin0)
  have Zs26 : n0 ≤ h21.size := Nat.le_trans Zs18 (Keep.of_wr W21).1
  have Kc27 : Keep h0 h21 [a0] := Kc19.wr W21 (Or.inl (List.mem_of_getElem? (i := 0) rfl))
  refine own_st ?_ st21
  show own_G p.tables e below _ _ (T21.setTop (mkF m 40 #[.val (.ref a0)] [(.int (8 : Int32))]))
  refine own_retI X21 hx hlk hret (hb hby d6_40) (by decide) (by decide) ⟨rfl, N21, ?_⟩
  rw [e21]
  exact ⟨Kc27, t6, g_t6, ne_t6, F23_finals, F24_stateCount, F25_P⟩
theorem d9_0 : decode prog_18_method_6_code 0 = .ok (.aload_n 0, 1) := by decide +kernel
theorem d9_1 : decode prog_18_method_6_code 1 = .ok (.getfield 35, 3) := by decide +kernel
theorem d9_4 : decode prog_18_method_6_code 4 = .ok (.ireturn, 1) := by decide +kernel
def f9 (a0 : Addr) (v_stateCount_a0 : Int32) : Int32 := v_stateCount_a0
theorem pn_9 : plainName "com/example/supplant/supplant/automata/TransducerBuilder" = true := by first | (simp [plainName, overriddenIn]; done) | decide +kernel
theorem ef_9 (m : MethodId) (a0 : Addr) : entryFrame m #[(.ref a0)] 1 = mkF m 0 #[.val (.ref a0)] [] := by first | (simp [entryFrame, mkF, argsToLocals, Value.category]; done) | rfl
set_option maxRecDepth 65536 in
set_option maxHeartbeats 40000000 in
theorem rm9 (l : Launch) (Z : State) (a0 : Array Value) (hw : ∀ d ∈ tables_1, d.before a0 Z = true) (ws : List Jvm.Cond) (a0 : Addr) (v_stateCount_a0 : Int32) (h0 : Heap) (n0 : Nat) (Z0 : n0 ≤ h0.size) (F_stateCount_a0 : Fld Z h0 a0 "com/example/supplant/supplant/automata/TransducerBuilder" "stateCount" "I" (.int v_stateCount_a0)) :
    MetFree l (⟨"com/example/supplant/supplant/automata/TransducerBuilder", "stateCount", "()I"⟩ : MethodName) (head1 (Jvm.Cond.code (⟨"com/example/supplant/supplant/automata/TransducerBuilder", "stateCount", "()I"⟩ : MethodName) prog_18_method_6_code 1 (some .int) :: ws) ({ frames := 0, cells := 0, slots := 0, locals := 0 } : Room)) (fun a U => a = #[(.ref a0)] ∧ Z.Warmed39 U.vm ∧ U.heap = h0) (fun _ _ _ _ _ => True) (fun _ U o U' => ∃ v L, o = .returned v ∧ own_QV (.int (f9 a0 v_stateCount_a0)) h0 n0 v U'.heap L ∧ FrameEnd U o U' L ({ frames := 0, cells := 0, slots := 0, locals := 0 } : Room).cells ({ frames := 0, cells := 0, slots := 0, locals := 0 } : Room).slots) := by
  refine MetFree.of_bodySF (plainFor_of_name pn_9) hisR ?_
  intro p e s m args below meth c s₁ Bd hml0 hP hK
  obtain ⟨rfl, hZ, hh⟩ := hP
  have hx := Bd.exec
  have hby := Bd.bytes
  have hlk : meth.locks = false := BodyLoose.notSynchronized Bd
  have hret := Bd.returns
  have hml : c.maxLocals = 1 := hml0
  have hown : s.vm.findClass "com/example/supplant/supplant/automata/TransducerBuilder" = some m.cls := findClass_of_methodNamed Bd.named
  have hnm := (name_of_methodNamed Bd.named Bd.method).1
  have X0 : Stand p l e ({ frames := 0, cells := 0, slots := 0, locals := 0 } : Room) s m #[(.ref a0)] below meth c s₁ [] 0 0 := Stand.of_body Bd
  have e0 : s₁.heap = h0 := by rw [← hh, Bd.state]; rfl
  have N0 := Fr.nil n0
  show own_G p.tables e below (own_E s ({ frames := 0, cells := 0, slots := 0, locals := 0 } : Room).cells ({ frames := 0, cells := 0, slots := 0, locals := 0 } : Room).slots) (own_QV (.int (f9 a0 v_stateCount_a0)) h0 n0) (s₁.setTop (entryFrame m #[(.ref a0)] 1))
  refine own_st ?_ (fun t k => castTop (ef_9 m a0) k)
  show own_G p.tables e below _ _ (s₁.setTop (mkF m 0 #[.val (.ref a0)] []))
  refine own_st ?_ (fun t k => XS.aloadN X0.here hx rfl (hb hby d9_0) rfl rfl k)
  show own_G p.tables e below _ _ (s₁.setTop (mkF m 1 #[.val (.ref a0)] [(.ref a0)]))
  obtain ⟨T1, X1, e1, st1⟩ := getF X0 hx hZ hown (host := "") (Or.inl (hw _ (List.mem_of_getElem? (i := 46) rfl))) Via.refl e0 F_stateCount_a0 (g := (mkF m 1 #[.val (.ref a0)] [(.ref a0)])) rfl rfl (hb hby d9_1)
  refine own_st ?_ st1
  show own_G p.tables e below _ _ (T1.setTop (mkF m 4 #[.val (.ref a0)] [(.int v_stateCount_a0)]))
  refine own_retI X1 hx hlk hret (hb hby d9_4) (by decide) (by decide) ⟨?_, N0, e1⟩
  rw [show f9 a0 v_stateCount_a0 = v_stateCount_a0 from rfl]
theorem d10_0 : decode prog_18_method_8_code 0 = .ok (.aload_n 0, 1) := by decide +kernel
theorem d10_1 : decode prog_18_method_8_code 1 = .ok (.getfield 16, 3) := by decide +kernel
theorem d10_4 : decode prog_18_method_8_code 4 = .ok (.iload_n 1, 1) := by decide +kernel
theorem d10_5 : decode prog_18_method_8_code 5 = .ok (.baload, 1) := by decide +kernel
theorem d10_6 : decode prog_18_method_8_code 6 = .ok (.ireturn, 1) := by decide +kernel
theorem pn_10 : plainName "com/example/supplant/supplant/automata/TransducerBuilder" = true := by first | (simp [plainName, overriddenIn]; done) | decide +kernel
theorem ef_10 (m : MethodId) (a0 : Addr) (p1 : Int32) : entryFrame m #[(.ref a0), (.int p1)] 2 = mkF m 0 #[.val (.ref a0), .val (.int p1)] [] := by first | (simp [entryFrame, mkF, argsToLocals, Value.category]; done) | rfl
set_option maxRecDepth 65536 in
set_option maxHeartbeats 40000000 in
theorem rm10 (l : Launch) (Z : State) (a0 : Array Value) (hw : ∀ d ∈ tables_1, d.before a0 Z = true) (ws : List Jvm.Cond) (a0 : Addr) (p1 : Int32) (t : Addr) (n1 : Int32) (g1 : Nat → Int32) (x0 : Int32) (h0 : Heap) (n0 : Nat) (Z0 : n0 ≤ h0.size) (F1 : Fld Z h0 a0 "com/example/supplant/supplant/automata/TransducerBuilder" "finals" "[Z" (.ref t)) (V0 : own_F Z h0 t n1 g1) (hj0 : ¬ p1 < 0) (hjn : p1.toNatClampNeg < n1.toNatClampNeg) (hx0 : g1 p1.toNatClampNeg = x0) (hxn : nar .boolean x0 = x0) :
    MetFree l (⟨"com/example/supplant/supplant/automata/TransducerBuilder", "isFinal", "(I)Z"⟩ : MethodName) (head1 (Jvm.Cond.code (⟨"com/example/supplant/supplant/automata/TransducerBuilder", "isFinal", "(I)Z"⟩ : MethodName) prog_18_method_8_code 2 (some .boolean) :: ws) ({ frames := 0, cells := 0, slots := 0, locals := 0 } : Room)) (fun a U => a = #[(.ref a0), (.int p1)] ∧ Z.Warmed39 U.vm ∧ U.heap = h0) (fun _ _ _ _ _ => True) (fun _ U o U' => ∃ v L, o = .returned v ∧ own_QV (.int x0) h0 n0 v U'.heap L ∧ FrameEnd U o U' L ({ frames := 0, cells := 0, slots := 0, locals := 0 } : Room).cells ({ frames := 0, cells := 0, slots := 0, locals := 0 } : Room).slots) := by
  refine MetFree.of_bodySF (plainFor_of_name pn_10) hisR ?_
  intro p e s m args below meth c s₁ Bd hml0 hP hK
  obtain ⟨rfl, hZ, hh⟩ := hP
  have hx := Bd.exec
  have hby := Bd.bytes
  have hlk : meth.locks = false := BodyLoose.notSynchronized Bd
  have hret := Bd.returns
  have hml : c.maxLocals = 2 := hml0
  have hown : s.vm.findClass "com/example/supplant/supplant/automata/TransducerBuilder" = some m.cls := findClass_of_methodNamed Bd.named
  have hnm := (name_of_methodNamed Bd.named Bd.method).1
  have X0 : Stand p l e ({ frames := 0, cells := 0, slots := 0, locals := 0 } : Room) s m #[(.ref a0), (.int p1)] below meth c s₁ [] 0 0 := Stand.of_body Bd
  have e0 : s₁.heap = h0 := by rw [← hh, Bd.state]; rfl
  have N0 := Fr.nil n0
  show own_G p.tables e below (own_E s ({ frames := 0, cells := 0, slots := 0, locals := 0 } : Room).cells ({ frames := 0, cells := 0, slots := 0, locals := 0 } : Room).slots) (own_QV (.int x0) h0 n0) (s₁.setTop (entryFrame m #[(.ref a0), (.int p1)] 2))
  refine own_st ?_ (fun t k => castTop (ef_10 m a0 p1) k)
  show own_G p.tables e below _ _ (s₁.setTop (mkF m 0 #[.val (.ref a0), .val (.int p1)] []))
  refine own_st ?_ (fun t k => XS.aloadN X0.here hx rfl (hb hby d10_0) rfl rfl k)
  show own_G p.tables e below _ _ (s₁.setTop (mkF m 1 #[.val (.ref a0), .val (.int p1)] [(.ref a0)]))
  obtain ⟨T1, X1, e1, st1⟩ := getF X0 hx hZ hown (host := "") (Or.inl (hw _ (List.mem_of_getElem? (i := 34) rfl))) Via.refl e0 F1 (g := (mkF m 1 #[.val (.ref a0), .val (.int p1)] [(.ref a0)])) rfl rfl (hb hby d10_1)
  refine own_st ?_ st1
  show own_G p.tables e below _ _ (T1.setTop (mkF m 4 #[.val (.ref a0), .val (.int p1)] [(.ref t)]))
  refine own_st ?_ (fun t k => XS.iloadN X1.here hx rfl (hb hby d10_4) rfl k)
  show own_G p.tables e below _ _ (T1.setTop (mkF m 5 #[.val (.ref a0), .val (.int p1)] [(.int p1), (.ref t)]))
  obtain ⟨cl2, Ar2, S2, q2, G2⟩ := own_F_open V0
  have hin2 : ¬ (p1 < 0 ∨ cl2.slots.size ≤ (p1).toNatClampNeg) := own_inb S2 hj0 hjn
  have hat2 : cl2.slots[(p1).toNatClampNeg]? = some (.int x0) := by rw [G2 _ hjn, hx0]
  refine own_st ?_ (X1.baloadBooleans hx (j := p1) (v := (.int x0)) (by rw [e1]; exact Ar2.1) (State.isArrayOf_alike hZ.alike Ar2.2.1) Ar2.2.2 hin2 hat2 (g := (mkF m 5 #[.val (.ref a0), .val (.int p1)] [(.int p1), (.ref t)])) rfl rfl (hb hby d10_5))
  show own_G p.tables e below _ _ (T1.setTop (mkF m 6 #[.val (.ref a0), .val (.int p1)] [(.int x0)]))
  refine own_retN X1 hx hlk (t := .boolean) hret (by simp) (hb hby d10_6) (by decide) (by decide) (z' := (nar .boolean x0)) rfl ⟨by rw [hxn], N0, e1⟩
theorem d11_0 : decode prog_18_method_7_code 0 = .ok (.aload_n 0, 1) := by decide +kernel
theorem d11_1 : decode prog_18_method_7_code 1 = .ok (.getfield 16, 3) := by decide +kernel
theorem d11_4 : decode prog_18_method_7_code 4 = .ok (.iload_n 1, 1) := by decide +kernel
theorem d11_5 : decode prog_18_method_7_code 5 = .ok (.iload_n 2, 1) := by decide +kernel
theorem d11_6 : decode prog_18_method_7_code 6 = .ok (.bastore, 1) := by decide +kernel
theorem d11_7 : decode prog_18_method_7_code 7 = .ok (.return_, 1) := by decide +kernel
theorem pn_11 : plainName "com/example/supplant/supplant/automata/TransducerBuilder" = true := by first | (simp [plainName, overriddenIn]; done) | decide +kernel
theorem ef_11 (m : MethodId) (a0 : Addr) (p1 : Int32) : entryFrame m #[(.ref a0), (.int p1), (.int (1 : Int32))] 3 = mkF m 0 #[.val (.ref a0), .val (.int p1), .val (.int (1 : Int32))] [] := by first | (simp [entryFrame, mkF, argsToLocals, Value.category]; done) | rfl
set_option maxRecDepth 65536 in
set_option maxHeartbeats 40000000 in
theorem rm11 (l : Launch) (Z : State) (a0 : Array Value) (hw : ∀ d ∈ tables_1, d.before a0 Z = true) (ws : List Jvm.Cond) (a0 : Addr) (p1 : Int32) (t : Addr) (g1 : Nat → Int32) (h0 : Heap) (n0 : Nat) (Z0 : n0 ≤ h0.size) (g_t : n0 ≤ t) (F1 : Fld Z h0 a0 "com/example/supplant/supplant/automata/TransducerBuilder" "finals" "[Z" (.ref t)) (V0 : own_F Z h0 t (8 : Int32) g1) (hne : a0 ≠ t) (hj0 : ¬ p1 < 0) (hjn : p1.toNatClampNeg < (8 : Int32).toNatClampNeg) :
    MetFree l (⟨"com/example/supplant/supplant/automata/TransducerBuilder", "setFinal", "(IZ)V"⟩ : MethodName) (head1 (Jvm.Cond.code (⟨"com/example/supplant/supplant/automata/TransducerBuilder", "setFinal", "(IZ)V"⟩ : MethodName) prog_18_method_7_code 3 none :: ws) ({ frames := 0, cells := 0, slots := 0, locals := 0 } : Room)) (fun a U => a = #[(.ref a0), (.int p1), (.int (1 : Int32))] ∧ Z.Warmed39 U.vm ∧ U.heap = h0) (fun _ _ _ _ _ => True) (fun _ U o U' => ∃ v L, o = .returned v ∧ own_QK Z none [t] (fun h => own_F Z h t 8 (own_upd g1 p1.toNatClampNeg (1 : Int32))) h0 n0 v U'.heap L ∧ FrameEnd U o U' L ({ frames := 0, cells := 0, slots := 0, locals := 0 } : Room).cells ({ frames := 0, cells := 0, slots := 0, locals := 0 } : Room).slots) := by
  refine MetFree.of_bodySF (plainFor_of_name pn_11) hisR ?_
  intro p e s m args below meth c s₁ Bd hml0 hP hK
  obtain ⟨rfl, hZ, hh⟩ := hP
  have hx := Bd.exec
  have hby := Bd.bytes
  have hlk : meth.locks = false := BodyLoose.notSynchronized Bd
  have hret := Bd.returns
  have hml : c.maxLocals = 3 := hml0
  have hown : s.vm.findClass "com/example/supplant/supplant/automata/TransducerBuilder" = some m.cls := findClass_of_methodNamed Bd.named
  have hnm := (name_of_methodNamed Bd.named Bd.method).1
  have X0 : Stand p l e ({ frames := 0, cells := 0, slots := 0, locals := 0 } : Room) s m #[(.ref a0), (.int p1), (.int (1 : Int32))] below meth c s₁ [] 0 0 := Stand.of_body Bd
  have e0 : s₁.heap = h0 := by rw [← hh, Bd.state]; rfl
  have N0 := Fr.nil n0
  show own_G p.tables e below (own_E s ({ frames := 0, cells := 0, slots := 0, locals := 0 } : Room).cells ({ frames := 0, cells := 0, slots := 0, locals := 0 } : Room).slots) (own_QK Z none [t] (fun h => own_F Z h t 8 (own_upd g1 p1.toNatClampNeg (1 : Int32))) h0 n0) (s₁.setTop (entryFrame m #[(.ref a0), (.int p1), (.int (1 : Int32))] 3))
  refine own_st ?_ (fun t k => castTop (ef_11 m a0 p1) k)
  show own_G p.tables e below _ _ (s₁.setTop (mkF m 0 #[.val (.ref a0), .val (.int p1), .val (.int (1 : Int32))] []))
  refine own_st ?_ (fun t k => XS.aloadN X0.here hx rfl (hb hby d11_0) rfl rfl k)
  show own_G p.tables e below _ _ (s₁.setTop (mkF m 1 #[.val (.ref a0), .val (.int p1), .val (.int (1 : Int32))] [(.ref a0)]))
  obtain ⟨T1, X1, e1, st1⟩ := getF X0 hx hZ hown (host := "") (Or.inl (hw _ (List.mem_of_getElem? (i := 34) rfl))) Via.refl e0 F1 (g := (mkF m 1 #[.val (.ref a0), .val (.int p1), .val (.int (1 : Int32))] [(.ref a0)])) rfl rfl (hb hby d11_1)
  refine own_st ?_ st1
  show own_G p.tables e below _ _ (T1.setTop (mkF m 4 #[.val (.ref a0), .val (.int p1), .val (.int (1 : Int32))] [(.ref t)]))
  refine own_st ?_ (fun t k => XS.iloadN X1.here hx rfl (hb hby d11_4) rfl k)
  show own_G p.tables e below _ _ (T1.setTop (mkF m 5 #[.val (.ref a0), .val (.int p1), .val (.int (1 : Int32))] [(.int p1), (.ref t)]))
  refine own_st ?_ (fun t k => XS.iloadN X1.here hx rfl (hb hby d11_5) rfl k)
  show own_G p.tables e below _ _ (T1.setTop (mkF m 6 #[.val (.ref a0), .val (.int p1), .val (.int (1 : Int32))] [(.int (1 : Int32)), (.int p1), (.ref t)]))
  obtain ⟨cl2, Ar2, S2, q2, G2⟩ := own_F_open V0
  have hin2 : ¬ (p1 < 0 ∨ cl2.slots.size ≤ (p1).toNatClampNeg) := own_inb S2 hj0 hjn
  obtain ⟨T2, h2, X2, e2, W2, st2⟩ := stZ X1 hx hZ e1 Ar2 (j := p1) hin2 (g := (mkF m 6 #[.val (.ref a0), .val (.int p1), .val (.int (1 : Int32))] [(.int (1 : Int32)), (.int p1), (.ref t)])) rfl rfl (hb hby d11_6)
  have N2 := Fr.snoc X2 N0 g_t
  have F3_finals : Fld Z h2 a0 "com/example/supplant/supplant/automata/TransducerBuilder" "finals" "[Z" (.ref t) := F1.other W2 (Or.inl hne)
  have Zs4 : n0 ≤ h2.size := Nat.le_trans Z0 (Keep.of_wr W2).1
  have Kc5 : Keep h0 h2 [t] := (Keep.refl h0 [t]).wr W2 (Or.inl (List.mem_of_getElem? (i := 0) rfl))
  have V2 : own_F Z h2 t (8 : Int32) (own_upd g1 p1.toNatClampNeg (1 : Int32)) := own_F_set V0 W2 (by decide) rfl hjn
  refine own_st ?_ st2
  show own_G p.tables e below _ _ (T2.setTop (mkF m 7 #[.val (.ref a0), .val (.int p1), .val (.int (1 : Int32))] []))
  refine own_retV X2 hx hlk hret (hb hby d11_7) (by decide) (by decide) ⟨rfl, N2, ?_⟩
  rw [e2]
  exact ⟨Kc5, V2⟩
theorem pd_6 : parseMethodDescriptor "()I" = some ⟨[], some .int⟩ := by decide +kernel
theorem pd_7 : parseMethodDescriptor "(I)Z" = some ⟨[.int], some .boolean⟩ := by decide +kernel
theorem pd_8 : parseMethodDescriptor "(IZ)V" = some ⟨[.int, .boolean], none⟩ := by decide +kernel
theorem pd_5 : parseMethodDescriptor "(Lcom/example/supplant/supplant/automata/SymbolTable;)V" = some ⟨[(.object "com/example/supplant/supplant/automata/SymbolTable")], none⟩ := by decide +kernel
theorem pn_0 : plainName "com/example/supplant/supplant/automata/TransducerBuilderAddStatePinLaw" = true := by first | (simp [plainName, overriddenIn]; done) | decide +kernel
theorem ef_0 (m : MethodId) (p0 : Int32) (p1 : Int32) : entryFrame m #[(.int p0), (.int p1)] maxLocals = mkF m 0 #[.val (.int p0), .val (.int p1), .unset, .unset, .unset, .unset, .unset, .unset, .unset, .unset, .unset, .unset, .unset, .unset, .unset, .unset] [] := by first | (simp [entryFrame, mkF, argsToLocals, Value.category, maxLocals]; done) | rfl
set_option maxRecDepth 65536 in
set_option maxHeartbeats 40000000 in
theorem rm0 (l : Launch) (Z : State) (a0 : Array Value) (hw : ∀ d ∈ tables_1, d.before a0 Z = true) (ws : List Jvm.Cond) (p0 : Int32) (p1 : Int32) (h0 : Heap) (n0 : Nat) (Z0 : n0 ≤ h0.size) :
    MetFree l x (head1 (Jvm.Cond.code x code maxLocals ret :: ws) room_1) (fun a U => a = #[(.int p0), (.int p1)] ∧ Z.Warmed39 U.vm ∧ U.heap = h0) (fun _ _ _ _ _ => True) (fun _ U o U' => ∃ v L, o = .returned v ∧ own_QL (.int 1) n0 v U'.heap L ∧ FrameEnd U o U' L room_1.cells room_1.slots) := by
  refine MetFree.of_bodySF (plainFor_of_name pn_0) hisR ?_
  intro p e s m args below meth c s₁ Bd hml0 hP hK
  obtain ⟨rfl, hZ, hh⟩ := hP
  have hx := Bd.exec
  have hby := Bd.bytes
  have hlk : meth.locks = false := BodyLoose.notSynchronized Bd
  have hret := Bd.returns
  have hml : c.maxLocals = 16 := hml0
  have hown : s.vm.findClass "com/example/supplant/supplant/automata/TransducerBuilderAddStatePinLaw" = some m.cls := findClass_of_methodNamed Bd.named
  have hnm := (name_of_methodNamed Bd.named Bd.method).1
  have X0 : Stand p l e room_1 s m #[(.int p0), (.int p1)] below meth c s₁ [] 0 0 := Stand.of_body Bd
  have e0 : s₁.heap = h0 := by rw [← hh, Bd.state]; rfl
  have N0 := Fr.nil n0
  show own_G p.tables e below (own_E s room_1.cells room_1.slots) (own_QL (.int 1) n0) (s₁.setTop (entryFrame m #[(.int p0), (.int p1)] maxLocals))
  refine own_st ?_ (fun t k => castTop (ef_0 m p0 p1) k)
  show own_G p.tables e below _ _ (s₁.setTop (mkF m 0 #[.val (.int p0), .val (.int p1), .unset, .unset, .unset, .unset, .unset, .unset, .unset, .unset, .unset, .unset, .unset, .unset, .unset, .unset] []))
  obtain ⟨T1, h1, X1, e1, E1, A1, D1, -, st1⟩ := newO X0 hx hZ hown (hw _ (List.mem_of_getElem? (i := 0) rfl)) (hw _ (List.mem_of_getElem? (i := 1) rfl)) (hw _ (List.mem_of_getElem? (i := 2) rfl)) e0 (g := (mkF m 0 #[.val (.int p0), .val (.int p1), .unset, .unset, .unset, .unset, .unset, .unset, .unset, .unset, .unset, .unset, .unset, .unset, .unset, .unset] [])) rfl (hb hby at_0) (by decide) (by decide)
  obtain ⟨b1, gz1⟩ : ∃ z, z = h0.size := ⟨_, rfl⟩
  rw [← gz1] at A1 D1 st1
  have g_b1 : n0 ≤ b1 := Nat.le_trans Z0 (Nat.le_of_eq gz1.symm)
  have Zs2 : n0 ≤ h1.size := Nat.le_trans Z0 E1.1
  have F_alphabet_b1 : Fld Z h1 b1 "com/example/supplant/supplant/automata/TransducerBuilder" "alphabet" "Ljava/util/BitSet;" .null := D1 (Or.inr (hw _ (List.mem_of_getElem? (i := 32) rfl))) (ty := (.object "java/util/BitSet")) (by decide)
  have F_finals_b1 : Fld Z h1 b1 "com/example/supplant/supplant/automata/TransducerBuilder" "finals" "[Z" .null := D1 (Or.inl (hw _ (List.mem_of_getElem? (i := 35) rfl))) (ty := (.array .boolean)) (by decide)
  have F_arcs_b1 : Fld Z h1 b1 "com/example/supplant/supplant/automata/TransducerBuilder" "arcs" "[I" .null := D1 (Or.inl (hw _ (List.mem_of_getElem? (i := 38) rfl))) (ty := (.array .int)) (by decide)
  have F_symbols_b1 : Fld Z h1 b1 "com/example/supplant/supplant/automata/TransducerBuilder" "symbols" "Lcom/example/supplant/supplant/automata/SymbolTable;" .null := D1 (Or.inr (hw _ (List.mem_of_getElem? (i := 40) rfl))) (ty := (.object "com/example/supplant/supplant/automata/SymbolTable")) (by decide)
  have F_stateCount_b1 : Fld Z h1 b1 "com/example/supplant/supplant/automata/TransducerBuilder" "stateCount" "I" (.int (0 : Int32)) := D1 (Or.inl (hw _ (List.mem_of_getElem? (i := 47) rfl))) (ty := .int) (by decide)
  refine own_st ?_ st1
  show own_G p.tables e below _ _ (T1.setTop (mkF m 3 #[.val (.int p0), .val (.int p1), .unset, .unset, .unset, .unset, .unset, .unset, .unset, .unset, .unset, .unset, .unset, .unset, .unset, .unset] [(.ref b1)]))
  refine own_st ?_ (fun t k => XS.dup X1.here hx rfl (hb hby at_3) rfl rfl k)
  show own_G p.tables e below _ _ (T1.setTop (mkF m 4 #[.val (.int p0), .val (.int p1), .unset, .unset, .unset, .unset, .unset, .unset, .unset, .unset, .unset, .unset, .unset, .unset, .unset, .unset] [(.ref b1), (.ref b1)]))
  refine own_st ?_ (fun t k => XS.aconstNull X1.here hx rfl (hb hby at_4) k)
  show own_G p.tables e below _ _ (T1.setTop (mkF m 5 #[.val (.int p0), .val (.int p1), .unset, .unset, .unset, .unset, .unset, .unset, .unset, .unset, .unset, .unset, .unset, .unset, .unset, .unset] [.null, (.ref b1), (.ref b1)]))
  obtain ⟨_, _, ⟨T3, L3, k3, n3⟩, -, X3, ⟨Lc3, hQ3, l3, y3, z3⟩, st3⟩ := X1.specialBack hx (y := (⟨"com/example/supplant/supplant/automata/TransducerBuilder", "<init>", "(Lcom/example/supplant/supplant/automata/SymbolTable;)V"⟩ : MethodName)) rfl hown (mvT hZ (hw _ (List.mem_of_getElem? (i := 3) rfl))) (mvT hZ (hw _ (List.mem_of_getElem? (i := 4) rfl))) (mvT hZ (hw _ (List.mem_of_getElem? (i := 5) rfl))) (by decide) (backOf (W := 1) (rm1 l Z _ hw [] b1 .null .null .null .null h1 n0 Zs2 g_b1 A1 F_alphabet_b1 F_finals_b1 F_arcs_b1 F_symbols_b1 F_stateCount_b1) hZ (hw _ (List.mem_of_getElem? (i := 5) rfl)) (hw _ (List.mem_of_getElem? (i := 2) rfl)) (by decide) (by decide)) (g := (mkF m 5 #[.val (.int p0), .val (.int p1), .unset, .unset, .unset, .unset, .unset, .unset, .unset, .unset, .unset, .unset, .unset, .unset, .unset, .unset] [.null, (.ref b1), (.ref b1)])) rfl (by rw [hml]; rfl) (Steps.refl _) (a := b1) (argsL := [.null]) (rest := [(.ref b1)]) (lenOf pd_5 rfl) rfl (by show 2 * 0 + _ ≤ _; exact Nat.le_of_eq rfl) (hb hby at_5) (fun _ _ => ⟨rfl, e1, (by decide : 1 + 4 ≤ _), (by decide : 6 + 44 ≤ _)⟩)
  dsimp only [Pt.U, Pt.locs, Pt.cells, Pt.slots] at X3 l3 y3 z3 st3 hQ3
  subst l3 y3 z3
  obtain ⟨rfl, N3q, hq3⟩ := hQ3
  have N3 := Fr.app N0 N3q
  obtain ⟨K3, t3, hs3, hne3, Ff3, Fc3, V3⟩ := hq3
  have g_t3 : n0 ≤ t3 := Nat.le_trans Zs2 hs3
  have F4_E : Exa Z T3.heap b1 "com/example/supplant/supplant/automata/TransducerBuilder" := A1.keep K3
  have Zs5 : n0 ≤ T3.heap.size := Nat.le_trans Zs2 K3.1
  refine own_st ?_ (fun t k => st3.trans k)
  show own_G p.tables e below _ _ (T3.setTop (mkF m 8 #[.val (.int p0), .val (.int p1), .unset, .unset, .unset, .unset, .unset, .unset, .unset, .unset, .unset, .unset, .unset, .unset, .unset, .unset] [(.ref b1)]))
  refine own_st ?_ (fun t k => XS.astoreN X3.here hx rfl (hb hby at_8) rfl rfl (l' := #[.val (.int p0), .val (.int p1), .val (.ref b1), .unset, .unset, .unset, .unset, .unset, .unset, .unset, .unset, .unset, .unset, .unset, .unset, .unset]) rfl k)
  show own_G p.tables e below _ _ (T3.setTop (mkF m 9 #[.val (.int p0), .val (.int p1), .val (.ref b1), .unset, .unset, .unset, .unset, .unset, .unset, .unset, .unset, .unset, .unset, .unset, .unset, .unset] []))
  refine own_st ?_ (fun t k => XS.aloadN X3.here hx rfl (hb hby at_9) rfl rfl k)
  show own_G p.tables e below _ _ (T3.setTop (mkF m 10 #[.val (.int p0), .val (.int p1), .val (.ref b1), .unset, .unset, .unset, .unset, .unset, .unset, .unset, .unset, .unset, .unset, .unset, .unset, .unset] [(.ref b1)]))
  obtain ⟨cq6, kq6, q6a, q6b, q6c⟩ := isOf hZ rfl F4_E
  obtain ⟨_, _, ⟨T6, L6, k6, n6⟩, -, X6, ⟨Lc6, hQ6, l6, y6, z6⟩, st6⟩ := X3.virtualBack hx (y := (⟨"com/example/supplant/supplant/automata/TransducerBuilder", "addState", "()I"⟩ : MethodName)) (z := (⟨"com/example/supplant/supplant/automata/TransducerBuilder", "addState", "()I"⟩ : MethodName)) hown (mvT hZ (hw _ (List.mem_of_getElem? (i := 41) rfl))) (mvT hZ (hw _ (List.mem_of_getElem? (i := 42) rfl))) (notFace_of_selects (args := #[]) (mvT hZ (hw _ (List.mem_of_getElem? (i := 44) rfl)))) (mvT hZ (hw _ (List.mem_of_getElem? (i := 44) rfl))) (mvT hZ (hw _ (List.mem_of_getElem? (i := 43) rfl))) (by decide) (backOf (W := 0) (rm6 l Z _ hw [] b1 t3 (0 : Int32) (fun _ => 0) T3.heap n0 Zs5 g_b1 g_t3 F4_E Ff3 Fc3 V3 hne3 (by decide)) hZ (hw _ (List.mem_of_getElem? (i := 45) rfl)) (hw _ (List.mem_of_getElem? (i := 2) rfl)) (by decide) (by decide)) q6a q6c (g := (mkF m 10 #[.val (.int p0), .val (.int p1), .val (.ref b1), .unset, .unset, .unset, .unset, .unset, .unset, .unset, .unset, .unset, .unset, .unset, .unset, .unset] [(.ref b1)])) rfl (by rw [hml]; rfl) (Steps.refl _) (argsL := []) (rest := []) (lenOf pd_6 rfl) rfl (by show 2 * 0 + _ ≤ _; exact Nat.le_of_eq rfl) (hb hby at_10) (fun _ _ => ⟨rfl, rfl, (by decide : 5 + 0 ≤ _), (by decide : 50 + 0 ≤ _)⟩)
  dsimp only [Pt.U, Pt.locs, Pt.cells, Pt.slots] at X6 l6 y6 z6 st6 hQ6
  subst l6 y6 z6
  obtain ⟨rfl, N6q, hq6⟩ := hQ6
  have N6 := Fr.app N3 N6q
  obtain ⟨K6, t6, g_t6, hne6, Ff6, Fc6, V6⟩ := hq6
  have F7_E : Exa Z T6.heap b1 "com/example/supplant/supplant/automata/TransducerBuilder" := F4_E.keep K6
  have Zs8 : n0 ≤ T6.heap.size := Nat.le_trans Zs5 K6.1
  have Fd6 : Fld Z T6.heap b1 "com/example/supplant/supplant/automata/TransducerBuilder" "stateCount" "I" (.int (1 : Int32)) := Fc6
  refine own_st ?_ (fun t k => st6.trans k)
  show own_G p.tables e below _ _ (T6.setTop (mkF m 13 #[.val (.int p0), .val (.int p1), .val (.ref b1), .unset, .unset, .unset, .unset, .unset, .unset, .unset, .unset, .unset, .unset, .unset, .unset, .unset] [(.int (0 : Int32))]))
  refine own_st ?_ (fun t k => XS.istoreN X6.here hx rfl (hb hby at_13) rfl (l' := #[.val (.int p0), .val (.int p1), .val (.ref b1), .val (.int (0 : Int32)), .unset, .unset, .unset, .unset, .unset, .unset, .unset, .unset, .unset, .unset, .unset, .unset]) rfl k)
  show own_G p.tables e below _ _ (T6.setTop (mkF m 14 #[.val (.int p0), .val (.int p1), .val (.ref b1), .val (.int (0 : Int32)), .unset, .unset, .unset, .unset, .unset, .unset, .unset, .unset, .unset, .unset, .unset, .unset] []))
  refine own_st ?_ (fun t k => XS.aloadN X6.here hx rfl (hb hby at_14) rfl rfl k)
  show own_G p.tables e below _ _ (T6.setTop (mkF m 15 #[.val (.int p0), .val (.int p1), .val (.ref b1), .val (.int (0 : Int32)), .unset, .unset, .unset, .unset, .unset, .unset, .unset, .unset, .unset, .unset, .unset, .unset] [(.ref b1)]))
  obtain ⟨cq9, kq9, q9a, q9b, q9c⟩ := isOf hZ rfl F7_E
  obtain ⟨_, _, ⟨T9, L9, k9, n9⟩, -, X9, ⟨Lc9, hQ9, l9, y9, z9⟩, st9⟩ := X6.virtualBack hx (y := (⟨"com/example/supplant/supplant/automata/TransducerBuilder", "addState", "()I"⟩ : MethodName)) (z := (⟨"com/example/supplant/supplant/automata/TransducerBuilder", "addState", "()I"⟩ : MethodName)) hown (mvT hZ (hw _ (List.mem_of_getElem? (i := 41) rfl))) (mvT hZ (hw _ (List.mem_of_getElem? (i := 42) rfl))) (notFace_of_selects (args := #[]) (mvT hZ (hw _ (List.mem_of_getElem? (i := 44) rfl)))) (mvT hZ (hw _ (List.mem_of_getElem? (i := 44) rfl))) (mvT hZ (hw _ (List.mem_of_getElem? (i := 43) rfl))) (by decide) (backOf (W := 0) (rm6 l Z _ hw [] b1 t6 (1 : Int32) (fun _ => 0) T6.heap n0 Zs8 g_b1 g_t6 F7_E Ff6 Fd6 V6 hne6 (by decide)) hZ (hw _ (List.mem_of_getElem? (i := 45) rfl)) (hw _ (List.mem_of_getElem? (i := 2) rfl)) (by decide) (by decide)) q9a q9c (g := (mkF m 15 #[.val (.int p0), .val (.int p1), .val (.ref b1), .val (.int (0 : Int32)), .unset, .unset, .unset, .unset, .unset, .unset, .unset, .unset, .unset, .unset, .unset, .unset] [(.ref b1)])) rfl (by rw [hml]; rfl) (Steps.refl _) (argsL := []) (rest := []) (lenOf pd_6 rfl) rfl (by show 2 * 0 + _ ≤ _; exact Nat.le_of_eq rfl) (hb hby at_15) (fun _ _ => ⟨rfl, rfl, (by decide : 5 + 0 ≤ _), (by decide : 50 + 0 ≤ _)⟩)
  dsimp only [Pt.U, Pt.locs, Pt.cells, Pt.slots] at X9 l9 y9 z9 st9 hQ9
  subst l9 y9 z9
  obtain ⟨rfl, N9q, hq9⟩ := hQ9
  have N9 := Fr.app N6 N9q
  obtain ⟨K9, t9, g_t9, hne9, Ff9, Fc9, V9⟩ := hq9
  have F10_E : Exa Z T9.heap b1 "com/example/supplant/supplant/automata/TransducerBuilder" := F7_E.keep K9
  have Zs11 : n0 ≤ T9.heap.size := Nat.le_trans Zs8 K9.1
  have Fd9 : Fld Z T9.heap b1 "com/example/supplant/supplant/automata/TransducerBuilder" "stateCount" "I" (.int (2 : Int32)) := Fc9
  refine own_st ?_ (fun t k => st9.trans k)
  show own_G p.tables e below _ _ (T9.setTop (mkF m 18 #[.val (.int p0), .val (.int p1), .val (.ref b1), .val (.int (0 : Int32)), .unset, .unset, .unset, .unset, .unset, .unset, .unset, .unset, .unset, .unset, .unset, .unset] [(.int (1 : Int32))]))
  refine own_st ?_ (fun t k => XS.istore X9.here hx rfl (hb hby at_18) rfl (l' := #[.val (.int p0), .val (.int p1), .val (.ref b1), .val (.int (0 : Int32)), .val (.int (1 : Int32)), .unset, .unset, .unset, .unset, .unset, .unset, .unset, .unset, .unset, .unset, .unset]) rfl k)
  show own_G p.tables e below _ _ (T9.setTop (mkF m 20 #[.val (.int p0), .val (.int p1), .val (.ref b1), .val (.int (0 : Int32)), .val (.int (1 : Int32)), .unset, .unset, .unset, .unset, .unset, .unset, .unset, .unset, .unset, .unset, .unset] []))
  refine own_st ?_ (fun t k => XS.aloadN X9.here hx rfl (hb hby at_20) rfl rfl k)
  show own_G p.tables e below _ _ (T9.setTop (mkF m 21 #[.val (.int p0), .val (.int p1), .val (.ref b1), .val (.int (0 : Int32)), .val (.int (1 : Int32)), .unset, .unset, .unset, .unset, .unset, .unset, .unset, .unset, .unset, .unset, .unset] [(.ref b1)]))
  obtain ⟨cq12, kq12, q12a, q12b, q12c⟩ := isOf hZ rfl F10_E
  obtain ⟨_, _, ⟨T12, L12, k12, n12⟩, -, X12, ⟨Lc12, hQ12, l12, y12, z12⟩, st12⟩ := X9.virtualBack hx (y := (⟨"com/example/supplant/supplant/automata/TransducerBuilder", "addState", "()I"⟩ : MethodName)) (z := (⟨"com/example/supplant/supplant/automata/TransducerBuilder", "addState", "()I"⟩ : MethodName)) hown (mvT hZ (hw _ (List.mem_of_getElem? (i := 41) rfl))) (mvT hZ (hw _ (List.mem_of_getElem? (i := 42) rfl))) (notFace_of_selects (args := #[]) (mvT hZ (hw _ (List.mem_of_getElem? (i := 44) rfl)))) (mvT hZ (hw _ (List.mem_of_getElem? (i := 44) rfl))) (mvT hZ (hw _ (List.mem_of_getElem? (i := 43) rfl))) (by decide) (backOf (W := 0) (rm6 l Z _ hw [] b1 t9 (2 : Int32) (fun _ => 0) T9.heap n0 Zs11 g_b1 g_t9 F10_E Ff9 Fd9 V9 hne9 (by decide)) hZ (hw _ (List.mem_of_getElem? (i := 45) rfl)) (hw _ (List.mem_of_getElem? (i := 2) rfl)) (by decide) (by decide)) q12a q12c (g := (mkF m 21 #[.val (.int p0), .val (.int p1), .val (.ref b1), .val (.int (0 : Int32)), .val (.int (1 : Int32)), .unset, .unset, .unset, .unset, .unset, .unset, .unset, .unset, .unset, .unset, .unset] [(.ref b1)])) rfl (by rw [hml]; rfl) (Steps.refl _) (argsL := []) (rest := []) (lenOf pd_6 rfl) rfl (by show 2 * 0 + _ ≤ _; exact Nat.le_of_eq rfl) (hb hby at_21) (fun _ _ => ⟨rfl, rfl, (by decide : 5 + 0 ≤ _), (by decide : 50 + 0 ≤ _)⟩)
  dsimp only [Pt.U, Pt.locs, Pt.cells, Pt.slots] at X12 l12 y12 z12 st12 hQ12
  subst l12 y12 z12
  obtain ⟨rfl, N12q, hq12⟩ := hQ12
  have N12 := Fr.app N9 N12q
  obtain ⟨K12, t12, g_t12, hne12, Ff12, Fc12, V12⟩ := hq12
  have F13_E : Exa Z T12.heap b1 "com/example/supplant/supplant/automata/TransducerBuilder" := F10_E.keep K12
  have Zs14 : n0 ≤ T12.heap.size := Nat.le_trans Zs11 K12.1
  have Fd12 : Fld Z T12.heap b1 "com/example/supplant/supplant/automata/TransducerBuilder" "stateCount" "I" (.int (3 : Int32)) := Fc12
  refine own_st ?_ (fun t k => st12.trans k)
  show own_G p.tables e below _ _ (T12.setTop (mkF m 24 #[.val (.int p0), .val (.int p1), .val (.ref b1), .val (.int (0 : Int32)), .val (.int (1 : Int32)), .unset, .unset, .unset, .unset, .unset, .unset, .unset, .unset, .unset, .unset, .unset] [(.int (2 : Int32))]))
  refine own_st ?_ (fun t k => XS.istore X12.here hx rfl (hb hby at_24) rfl (l' := #[.val (.int p0), .val (.int p1), .val (.ref b1), .val (.int (0 : Int32)), .val (.int (1 : Int32)), .val (.int (2 : Int32)), .unset, .unset, .unset, .unset, .unset, .unset, .unset, .unset, .unset, .unset]) rfl k)
  show own_G p.tables e below _ _ (T12.setTop (mkF m 26 #[.val (.int p0), .val (.int p1), .val (.ref b1), .val (.int (0 : Int32)), .val (.int (1 : Int32)), .val (.int (2 : Int32)), .unset, .unset, .unset, .unset, .unset, .unset, .unset, .unset, .unset, .unset] []))
  refine own_st ?_ (fun t k => XS.aloadN X12.here hx rfl (hb hby at_26) rfl rfl k)
  show own_G p.tables e below _ _ (T12.setTop (mkF m 27 #[.val (.int p0), .val (.int p1), .val (.ref b1), .val (.int (0 : Int32)), .val (.int (1 : Int32)), .val (.int (2 : Int32)), .unset, .unset, .unset, .unset, .unset, .unset, .unset, .unset, .unset, .unset] [(.ref b1)]))
  obtain ⟨cq15, kq15, q15a, q15b, q15c⟩ := isOf hZ rfl F13_E
  obtain ⟨_, _, ⟨T15, L15, k15, n15⟩, -, X15, ⟨Lc15, hQ15, l15, y15, z15⟩, st15⟩ := X12.virtualBack hx (y := (⟨"com/example/supplant/supplant/automata/TransducerBuilder", "addState", "()I"⟩ : MethodName)) (z := (⟨"com/example/supplant/supplant/automata/TransducerBuilder", "addState", "()I"⟩ : MethodName)) hown (mvT hZ (hw _ (List.mem_of_getElem? (i := 41) rfl))) (mvT hZ (hw _ (List.mem_of_getElem? (i := 42) rfl))) (notFace_of_selects (args := #[]) (mvT hZ (hw _ (List.mem_of_getElem? (i := 44) rfl)))) (mvT hZ (hw _ (List.mem_of_getElem? (i := 44) rfl))) (mvT hZ (hw _ (List.mem_of_getElem? (i := 43) rfl))) (by decide) (backOf (W := 0) (rm6 l Z _ hw [] b1 t12 (3 : Int32) (fun _ => 0) T12.heap n0 Zs14 g_b1 g_t12 F13_E Ff12 Fd12 V12 hne12 (by decide)) hZ (hw _ (List.mem_of_getElem? (i := 45) rfl)) (hw _ (List.mem_of_getElem? (i := 2) rfl)) (by decide) (by decide)) q15a q15c (g := (mkF m 27 #[.val (.int p0), .val (.int p1), .val (.ref b1), .val (.int (0 : Int32)), .val (.int (1 : Int32)), .val (.int (2 : Int32)), .unset, .unset, .unset, .unset, .unset, .unset, .unset, .unset, .unset, .unset] [(.ref b1)])) rfl (by rw [hml]; rfl) (Steps.refl _) (argsL := []) (rest := []) (lenOf pd_6 rfl) rfl (by show 2 * 0 + _ ≤ _; exact Nat.le_of_eq rfl) (hb hby at_27) (fun _ _ => ⟨rfl, rfl, (by decide : 5 + 0 ≤ _), (by decide : 50 + 0 ≤ _)⟩)
  dsimp only [Pt.U, Pt.locs, Pt.cells, Pt.slots] at X15 l15 y15 z15 st15 hQ15
  subst l15 y15 z15
  obtain ⟨rfl, N15q, hq15⟩ := hQ15
  have N15 := Fr.app N12 N15q
  obtain ⟨K15, t15, g_t15, hne15, Ff15, Fc15, V15⟩ := hq15
  have F16_E : Exa Z T15.heap b1 "com/example/supplant/supplant/automata/TransducerBuilder" := F13_E.keep K15
  have Zs17 : n0 ≤ T15.heap.size := Nat.le_trans Zs14 K15.1
  have Fd15 : Fld Z T15.heap b1 "com/example/supplant/supplant/automata/TransducerBuilder" "stateCount" "I" (.int (4 : Int32)) := Fc15
  refine own_st ?_ (fun t k => st15.trans k)
  show own_G p.tables e below _ _ (T15.setTop (mkF m 30 #[.val (.int p0), .val (.int p1), .val (.ref b1), .val (.int (0 : Int32)), .val (.int (1 : Int32)), .val (.int (2 : Int32)), .unset, .unset, .unset, .unset, .unset, .unset, .unset, .unset, .unset, .unset] [(.int (3 : Int32))]))
  refine own_st ?_ (fun t k => XS.istore X15.here hx rfl (hb hby at_30) rfl (l' := #[.val (.int p0), .val (.int p1), .val (.ref b1), .val (.int (0 : Int32)), .val (.int (1 : Int32)), .val (.int (2 : Int32)), .val (.int (3 : Int32)), .unset, .unset, .unset, .unset, .unset, .unset, .unset, .unset, .unset]) rfl k)
  show own_G p.tables e below _ _ (T15.setTop (mkF m 32 #[.val (.int p0), .val (.int p1), .val (.ref b1), .val (.int (0 : Int32)), .val (.int (1 : Int32)), .val (.int (2 : Int32)), .val (.int (3 : Int32)), .unset, .unset, .unset, .unset, .unset, .unset, .unset, .unset, .unset] []))
  refine own_st ?_ (fun t k => XS.aloadN X15.here hx rfl (hb hby at_32) rfl rfl k)
  show own_G p.tables e below _ _ (T15.setTop (mkF m 33 #[.val (.int p0), .val (.int p1), .val (.ref b1), .val (.int (0 : Int32)), .val (.int (1 : Int32)), .val (.int (2 : Int32)), .val (.int (3 : Int32)), .unset, .unset, .unset, .unset, .unset, .unset, .unset, .unset, .unset] [(.ref b1)]))
  obtain ⟨cq18, kq18, q18a, q18b, q18c⟩ := isOf hZ rfl F16_E
  obtain ⟨_, _, ⟨T18, L18, k18, n18⟩, -, X18, ⟨Lc18, hQ18, l18, y18, z18⟩, st18⟩ := X15.virtualBack hx (y := (⟨"com/example/supplant/supplant/automata/TransducerBuilder", "addState", "()I"⟩ : MethodName)) (z := (⟨"com/example/supplant/supplant/automata/TransducerBuilder", "addState", "()I"⟩ : MethodName)) hown (mvT hZ (hw _ (List.mem_of_getElem? (i := 41) rfl))) (mvT hZ (hw _ (List.mem_of_getElem? (i := 42) rfl))) (notFace_of_selects (args := #[]) (mvT hZ (hw _ (List.mem_of_getElem? (i := 44) rfl)))) (mvT hZ (hw _ (List.mem_of_getElem? (i := 44) rfl))) (mvT hZ (hw _ (List.mem_of_getElem? (i := 43) rfl))) (by decide) (backOf (W := 0) (rm6 l Z _ hw [] b1 t15 (4 : Int32) (fun _ => 0) T15.heap n0 Zs17 g_b1 g_t15 F16_E Ff15 Fd15 V15 hne15 (by decide)) hZ (hw _ (List.mem_of_getElem? (i := 45) rfl)) (hw _ (List.mem_of_getElem? (i := 2) rfl)) (by decide) (by decide)) q18a q18c (g := (mkF m 33 #[.val (.int p0), .val (.int p1), .val (.ref b1), .val (.int (0 : Int32)), .val (.int (1 : Int32)), .val (.int (2 : Int32)), .val (.int (3 : Int32)), .unset, .unset, .unset, .unset, .unset, .unset, .unset, .unset, .unset] [(.ref b1)])) rfl (by rw [hml]; rfl) (Steps.refl _) (argsL := []) (rest := []) (lenOf pd_6 rfl) rfl (by show 2 * 0 + _ ≤ _; exact Nat.le_of_eq rfl) (hb hby at_33) (fun _ _ => ⟨rfl, rfl, (by decide : 5 + 0 ≤ _), (by decide : 50 + 0 ≤ _)⟩)
  dsimp only [Pt.U, Pt.locs, Pt.cells, Pt.slots] at X18 l18 y18 z18 st18 hQ18
  subst l18 y18 z18
  obtain ⟨rfl, N18q, hq18⟩ := hQ18
  have N18 := Fr.app N15 N18q
  obtain ⟨K18, t18, g_t18, hne18, Ff18, Fc18, V18⟩ := hq18
  have F19_E : Exa Z T18.heap b1 "com/example/supplant/supplant/automata/TransducerBuilder" := F16_E.keep K18
  have Zs20 : n0 ≤ T18.heap.size := Nat.le_trans Zs17 K18.1
  have Fd18 : Fld Z T18.heap b1 "com/example/supplant/supplant/automata/TransducerBuilder" "stateCount" "I" (.int (5 : Int32)) := Fc18
  refine own_st ?_ (fun t k => st18.trans k)
  show own_G p.tables e below _ _ (T18.setTop (mkF m 36 #[.val (.int p0), .val (.int p1), .val (.ref b1), .val (.int (0 : Int32)), .val (.int (1 : Int32)), .val (.int (2 : Int32)), .val (.int (3 : Int32)), .unset, .unset, .unset, .unset, .unset, .unset, .unset, .unset, .unset] [(.int (4 : Int32))]))
  refine own_st ?_ (fun t k => XS.istore X18.here hx rfl (hb hby at_36) rfl (l' := #[.val (.int p0), .val (.int p1), .val (.ref b1), .val (.int (0 : Int32)), .val (.int (1 : Int32)), .val (.int (2 : Int32)), .val (.int (3 : Int32)), .val (.int (4 : Int32)), .unset, .unset, .unset, .unset, .unset, .unset, .unset, .unset]) rfl k)
  show own_G p.tables e below _ _ (T18.setTop (mkF m 38 #[.val (.int p0), .val (.int p1), .val (.ref b1), .val (.int (0 : Int32)), .val (.int (1 : Int32)), .val (.int (2 : Int32)), .val (.int (3 : Int32)), .val (.int (4 : Int32)), .unset, .unset, .unset, .unset, .unset, .unset, .unset, .unset] []))
  refine own_st ?_ (fun t k => XS.aloadN X18.here hx rfl (hb hby at_38) rfl rfl k)
  show own_G p.tables e below _ _ (T18.setTop (mkF m 39 #[.val (.int p0), .val (.int p1), .val (.ref b1), .val (.int (0 : Int32)), .val (.int (1 : Int32)), .val (.int (2 : Int32)), .val (.int (3 : Int32)), .val (.int (4 : Int32)), .unset, .unset, .unset, .unset, .unset, .unset, .unset, .unset] [(.ref b1)]))
  obtain ⟨cq21, kq21, q21a, q21b, q21c⟩ := isOf hZ rfl F19_E
  obtain ⟨_, _, ⟨T21, L21, k21, n21⟩, -, X21, ⟨Lc21, hQ21, l21, y21, z21⟩, st21⟩ := X18.virtualBack hx (y := (⟨"com/example/supplant/supplant/automata/TransducerBuilder", "addState", "()I"⟩ : MethodName)) (z := (⟨"com/example/supplant/supplant/automata/TransducerBuilder", "addState", "()I"⟩ : MethodName)) hown (mvT hZ (hw _ (List.mem_of_getElem? (i := 41) rfl))) (mvT hZ (hw _ (List.mem_of_getElem? (i := 42) rfl))) (notFace_of_selects (args := #[]) (mvT hZ (hw _ (List.mem_of_getElem? (i := 44) rfl)))) (mvT hZ (hw _ (List.mem_of_getElem? (i := 44) rfl))) (mvT hZ (hw _ (List.mem_of_getElem? (i := 43) rfl))) (by decide) (backOf (W := 0) (rm6 l Z _ hw [] b1 t18 (5 : Int32) (fun _ => 0) T18.heap n0 Zs20 g_b1 g_t18 F19_E Ff18 Fd18 V18 hne18 (by decide)) hZ (hw _ (List.mem_of_getElem? (i := 45) rfl)) (hw _ (List.mem_of_getElem? (i := 2) rfl)) (by decide) (by decide)) q21a q21c (g := (mkF m 39 #[.val (.int p0), .val (.int p1), .val (.ref b1), .val (.int (0 : Int32)), .val (.int (1 : Int32)), .val (.int (2 : Int32)), .val (.int (3 : Int32)), .val (.int (4 : Int32)), .unset, .unset, .unset, .unset, .unset, .unset, .unset, .unset] [(.ref b1)])) rfl (by rw [hml]; rfl) (Steps.refl _) (argsL := []) (rest := []) (lenOf pd_6 rfl) rfl (by show 2 * 0 + _ ≤ _; exact Nat.le_of_eq rfl) (hb hby at_39) (fun _ _ => ⟨rfl, rfl, (by decide : 5 + 0 ≤ _), (by decide : 50 + 0 ≤ _)⟩)
  dsimp only [Pt.U, Pt.locs, Pt.cells, Pt.slots] at X21 l21 y21 z21 st21 hQ21
  subst l21 y21 z21
  obtain ⟨rfl, N21q, hq21⟩ := hQ21
  have N21 := Fr.app N18 N21q
  obtain ⟨K21, t21, g_t21, hne21, Ff21, Fc21, V21⟩ := hq21
  have F22_E : Exa Z T21.heap b1 "com/example/supplant/supplant/automata/TransducerBuilder" := F19_E.keep K21
  have Zs23 : n0 ≤ T21.heap.size := Nat.le_trans Zs20 K21.1
  have Fd21 : Fld Z T21.heap b1 "com/example/supplant/supplant/automata/TransducerBuilder" "stateCount" "I" (.int (6 : Int32)) := Fc21
  refine own_st ?_ (fun t k => st21.trans k)
  show own_G p.tables e below _ _ (T21.setTop (mkF m 42 #[.val (.int p0), .val (.int p1), .val (.ref b1), .val (.int (0 : Int32)), .val (.int (1 : Int32)), .val (.int (2 : Int32)), .val (.int (3 : Int32)), .val (.int (4 : Int32)), .unset, .unset, .unset, .unset, .unset, .unset, .unset, .unset] [(.int (5 : Int32))]))
  refine own_st ?_ (fun t k => XS.istore X21.here hx rfl (hb hby at_42) rfl (l' := #[.val (.int p0), .val (.int p1), .val (.ref b1), .val (.int (0 : Int32)), .val (.int (1 : Int32)), .val (.int (2 : Int32)), .val (.int (3 : Int32)), .val (.int (4 : Int32)), .val (.int (5 : Int32)), .unset, .unset, .unset, .unset, .unset, .unset, .unset]) rfl k)
  show own_G p.tables e below _ _ (T21.setTop (mkF m 44 #[.val (.int p0), .val (.int p1), .val (.ref b1), .val (.int (0 : Int32)), .val (.int (1 : Int32)), .val (.int (2 : Int32)), .val (.int (3 : Int32)), .val (.int (4 : Int32)), .val (.int (5 : Int32)), .unset, .unset, .unset, .unset, .unset, .unset, .unset] []))
  refine own_st ?_ (fun t k => XS.aloadN X21.here hx rfl (hb hby at_44) rfl rfl k)
  show own_G p.tables e below _ _ (T21.setTop (mkF m 45 #[.val (.int p0), .val (.int p1), .val (.ref b1), .val (.int (0 : Int32)), .val (.int (1 : Int32)), .val (.int (2 : Int32)), .val (.int (3 : Int32)), .val (.int (4 : Int32)), .val (.int (5 : Int32)), .unset, .unset, .unset, .unset, .unset, .unset, .unset] [(.ref b1)]))
  obtain ⟨cq24, kq24, q24a, q24b, q24c⟩ := isOf hZ rfl F22_E
  obtain ⟨_, _, ⟨T24, L24, k24, n24⟩, -, X24, ⟨Lc24, hQ24, l24, y24, z24⟩, st24⟩ := X21.virtualBack hx (y := (⟨"com/example/supplant/supplant/automata/TransducerBuilder", "addState", "()I"⟩ : MethodName)) (z := (⟨"com/example/supplant/supplant/automata/TransducerBuilder", "addState", "()I"⟩ : MethodName)) hown (mvT hZ (hw _ (List.mem_of_getElem? (i := 41) rfl))) (mvT hZ (hw _ (List.mem_of_getElem? (i := 42) rfl))) (notFace_of_selects (args := #[]) (mvT hZ (hw _ (List.mem_of_getElem? (i := 44) rfl)))) (mvT hZ (hw _ (List.mem_of_getElem? (i := 44) rfl))) (mvT hZ (hw _ (List.mem_of_getElem? (i := 43) rfl))) (by decide) (backOf (W := 0) (rm6 l Z _ hw [] b1 t21 (6 : Int32) (fun _ => 0) T21.heap n0 Zs23 g_b1 g_t21 F22_E Ff21 Fd21 V21 hne21 (by decide)) hZ (hw _ (List.mem_of_getElem? (i := 45) rfl)) (hw _ (List.mem_of_getElem? (i := 2) rfl)) (by decide) (by decide)) q24a q24c (g := (mkF m 45 #[.val (.int p0), .val (.int p1), .val (.ref b1), .val (.int (0 : Int32)), .val (.int (1 : Int32)), .val (.int (2 : Int32)), .val (.int (3 : Int32)), .val (.int (4 : Int32)), .val (.int (5 : Int32)), .unset, .unset, .unset, .unset, .unset, .unset, .unset] [(.ref b1)])) rfl (by rw [hml]; rfl) (Steps.refl _) (argsL := []) (rest := []) (lenOf pd_6 rfl) rfl (by show 2 * 0 + _ ≤ _; exact Nat.le_of_eq rfl) (hb hby at_45) (fun _ _ => ⟨rfl, rfl, (by decide : 5 + 0 ≤ _), (by decide : 50 + 0 ≤ _)⟩)
  dsimp only [Pt.U, Pt.locs, Pt.cells, Pt.slots] at X24 l24 y24 z24 st24 hQ24
  subst l24 y24 z24
  obtain ⟨rfl, N24q, hq24⟩ := hQ24
  have N24 := Fr.app N21 N24q
  obtain ⟨K24, t24, g_t24, hne24, Ff24, Fc24, V24⟩ := hq24
  have F25_E : Exa Z T24.heap b1 "com/example/supplant/supplant/automata/TransducerBuilder" := F22_E.keep K24
  have Zs26 : n0 ≤ T24.heap.size := Nat.le_trans Zs23 K24.1
  have Fd24 : Fld Z T24.heap b1 "com/example/supplant/supplant/automata/TransducerBuilder" "stateCount" "I" (.int (7 : Int32)) := Fc24
  refine own_st ?_ (fun t k => st24.trans k)
  show own_G p.tables e below _ _ (T24.setTop (mkF m 48 #[.val (.int p0), .val (.int p1), .val (.ref b1), .val (.int (0 : Int32)), .val (.int (1 : Int32)), .val (.int (2 : Int32)), .val (.int (3 : Int32)), .val (.int (4 : Int32)), .val (.int (5 : Int32)), .unset, .unset, .unset, .unset, .unset, .unset, .unset] [(.int (6 : Int32))]))
  refine own_st ?_ (fun t k => XS.istore X24.here hx rfl (hb hby at_48) rfl (l' := #[.val (.int p0), .val (.int p1), .val (.ref b1), .val (.int (0 : Int32)), .val (.int (1 : Int32)), .val (.int (2 : Int32)), .val (.int (3 : Int32)), .val (.int (4 : Int32)), .val (.int (5 : Int32)), .val (.int (6 : Int32)), .unset, .unset, .unset, .unset, .unset, .unset]) rfl k)
  show own_G p.tables e below _ _ (T24.setTop (mkF m 50 #[.val (.int p0), .val (.int p1), .val (.ref b1), .val (.int (0 : Int32)), .val (.int (1 : Int32)), .val (.int (2 : Int32)), .val (.int (3 : Int32)), .val (.int (4 : Int32)), .val (.int (5 : Int32)), .val (.int (6 : Int32)), .unset, .unset, .unset, .unset, .unset, .unset] []))
  refine own_st ?_ (fun t k => XS.aloadN X24.here hx rfl (hb hby at_50) rfl rfl k)
  show own_G p.tables e below _ _ (T24.setTop (mkF m 51 #[.val (.int p0), .val (.int p1), .val (.ref b1), .val (.int (0 : Int32)), .val (.int (1 : Int32)), .val (.int (2 : Int32)), .val (.int (3 : Int32)), .val (.int (4 : Int32)), .val (.int (5 : Int32)), .val (.int (6 : Int32)), .unset, .unset, .unset, .unset, .unset, .unset] [(.ref b1)]))
  obtain ⟨cq27, kq27, q27a, q27b, q27c⟩ := isOf hZ rfl F25_E
  obtain ⟨_, _, ⟨T27, L27, k27, n27⟩, -, X27, ⟨Lc27, hQ27, l27, y27, z27⟩, st27⟩ := X24.virtualBack hx (y := (⟨"com/example/supplant/supplant/automata/TransducerBuilder", "addState", "()I"⟩ : MethodName)) (z := (⟨"com/example/supplant/supplant/automata/TransducerBuilder", "addState", "()I"⟩ : MethodName)) hown (mvT hZ (hw _ (List.mem_of_getElem? (i := 41) rfl))) (mvT hZ (hw _ (List.mem_of_getElem? (i := 42) rfl))) (notFace_of_selects (args := #[]) (mvT hZ (hw _ (List.mem_of_getElem? (i := 44) rfl)))) (mvT hZ (hw _ (List.mem_of_getElem? (i := 44) rfl))) (mvT hZ (hw _ (List.mem_of_getElem? (i := 43) rfl))) (by decide) (backOf (W := 0) (rm6 l Z _ hw [] b1 t24 (7 : Int32) (fun _ => 0) T24.heap n0 Zs26 g_b1 g_t24 F25_E Ff24 Fd24 V24 hne24 (by decide)) hZ (hw _ (List.mem_of_getElem? (i := 45) rfl)) (hw _ (List.mem_of_getElem? (i := 2) rfl)) (by decide) (by decide)) q27a q27c (g := (mkF m 51 #[.val (.int p0), .val (.int p1), .val (.ref b1), .val (.int (0 : Int32)), .val (.int (1 : Int32)), .val (.int (2 : Int32)), .val (.int (3 : Int32)), .val (.int (4 : Int32)), .val (.int (5 : Int32)), .val (.int (6 : Int32)), .unset, .unset, .unset, .unset, .unset, .unset] [(.ref b1)])) rfl (by rw [hml]; rfl) (Steps.refl _) (argsL := []) (rest := []) (lenOf pd_6 rfl) rfl (by show 2 * 0 + _ ≤ _; exact Nat.le_of_eq rfl) (hb hby at_51) (fun _ _ => ⟨rfl, rfl, (by decide : 5 + 0 ≤ _), (by decide : 50 + 0 ≤ _)⟩)
  dsimp only [Pt.U, Pt.locs, Pt.cells, Pt.slots] at X27 l27 y27 z27 st27 hQ27
  subst l27 y27 z27
  obtain ⟨rfl, N27q, hq27⟩ := hQ27
  have N27 := Fr.app N24 N27q
  obtain ⟨K27, t27, g_t27, hne27, Ff27, Fc27, V27⟩ := hq27
  have F28_E : Exa Z T27.heap b1 "com/example/supplant/supplant/automata/TransducerBuilder" := F25_E.keep K27
  have Zs29 : n0 ≤ T27.heap.size := Nat.le_trans Zs26 K27.1
  have Fd27 : Fld Z T27.heap b1 "com/example/supplant/supplant/automata/TransducerBuilder" "stateCount" "I" (.int (8 : Int32)) := Fc27
  refine own_st ?_ (fun t k => st27.trans k)
  show own_G p.tables e below _ _ (T27.setTop (mkF m 54 #[.val (.int p0), .val (.int p1), .val (.ref b1), .val (.int (0 : Int32)), .val (.int (1 : Int32)), .val (.int (2 : Int32)), .val (.int (3 : Int32)), .val (.int (4 : Int32)), .val (.int (5 : Int32)), .val (.int (6 : Int32)), .unset, .unset, .unset, .unset, .unset, .unset] [(.int (7 : Int32))]))
  refine own_st ?_ (fun t k => XS.istore X27.here hx rfl (hb hby at_54) rfl (l' := #[.val (.int p0), .val (.int p1), .val (.ref b1), .val (.int (0 : Int32)), .val (.int (1 : Int32)), .val (.int (2 : Int32)), .val (.int (3 : Int32)), .val (.int (4 : Int32)), .val (.int (5 : Int32)), .val (.int (6 : Int32)), .val (.int (7 : Int32)), .unset, .unset, .unset, .unset, .unset]) rfl k)
  show own_G p.tables e below _ _ (T27.setTop (mkF m 56 #[.val (.int p0), .val (.int p1), .val (.ref b1), .val (.int (0 : Int32)), .val (.int (1 : Int32)), .val (.int (2 : Int32)), .val (.int (3 : Int32)), .val (.int (4 : Int32)), .val (.int (5 : Int32)), .val (.int (6 : Int32)), .val (.int (7 : Int32)), .unset, .unset, .unset, .unset, .unset] []))
  refine own_st ?_ (fun t k => XS.iloadN X27.here hx rfl (hb hby at_56) rfl k)
  show own_G p.tables e below _ _ (T27.setTop (mkF m 57 #[.val (.int p0), .val (.int p1), .val (.ref b1), .val (.int (0 : Int32)), .val (.int (1 : Int32)), .val (.int (2 : Int32)), .val (.int (3 : Int32)), .val (.int (4 : Int32)), .val (.int (5 : Int32)), .val (.int (6 : Int32)), .val (.int (7 : Int32)), .unset, .unset, .unset, .unset, .unset] [(.int p0)]))
  refine own_st ?_ (fun t k => XS.bipush X27.here hx rfl (hb hby at_57) k)
  show own_G p.tables e below _ _ (T27.setTop (mkF m 59 #[.val (.int p0), .val (.int p1), .val (.ref b1), .val (.int (0 : Int32)), .val (.int (1 : Int32)), .val (.int (2 : Int32)), .val (.int (3 : Int32)), .val (.int (4 : Int32)), .val (.int (5 : Int32)), .val (.int (6 : Int32)), .val (.int (7 : Int32)), .unset, .unset, .unset, .unset, .unset] [(.int (8 : Int32)), (.int p0)]))
  refine own_st ?_ (fun t k => XS.iand X27.here hx rfl (hb hby at_59) rfl k)
  show own_G p.tables e below _ _ (T27.setTop (mkF m 60 #[.val (.int p0), .val (.int p1), .val (.ref b1), .val (.int (0 : Int32)), .val (.int (1 : Int32)), .val (.int (2 : Int32)), .val (.int (3 : Int32)), .val (.int (4 : Int32)), .val (.int (5 : Int32)), .val (.int (6 : Int32)), .val (.int (7 : Int32)), .unset, .unset, .unset, .unset, .unset] [(.int (p0 &&& (8 : Int32)))]))
  by_cases hc60 : (p0 &&& (8 : Int32)) = (0 : Int32)
  · refine own_st ?_ (fun t k => XS.ifYes X27.here hx rfl (pc0 := 60) (pc' := 67) rfl (hb hby at_60) rfl ((if0 _ _).trans (teq hc60).1) (by decide) (by decide) k)
    show own_G p.tables e below _ _ (T27.setTop (mkF m 67 #[.val (.int p0), .val (.int p1), .val (.ref b1), .val (.int (0 : Int32)), .val (.int (1 : Int32)), .val (.int (2 : Int32)), .val (.int (3 : Int32)), .val (.int (4 : Int32)), .val (.int (5 : Int32)), .val (.int (6 : Int32)), .val (.int (7 : Int32)), .unset, .unset, .unset, .unset, .unset] []))
    refine own_st ?_ (fun t k => XS.iconst X27.here hx rfl (hb hby at_67) k)
    show own_G p.tables e below _ _ (T27.setTop (mkF m 68 #[.val (.int p0), .val (.int p1), .val (.ref b1), .val (.int (0 : Int32)), .val (.int (1 : Int32)), .val (.int (2 : Int32)), .val (.int (3 : Int32)), .val (.int (4 : Int32)), .val (.int (5 : Int32)), .val (.int (6 : Int32)), .val (.int (7 : Int32)), .unset, .unset, .unset, .unset, .unset] [(.int (0 : Int32))]))
    refine own_st ?_ (fun t k => XS.istore X27.here hx rfl (hb hby at_68) rfl (l' := #[.val (.int p0), .val (.int p1), .val (.ref b1), .val (.int (0 : Int32)), .val (.int (1 : Int32)), .val (.int (2 : Int32)), .val (.int (3 : Int32)), .val (.int (4 : Int32)), .val (.int (5 : Int32)), .val (.int (6 : Int32)), .val (.int (7 : Int32)), .val (.int (0 : Int32)), .unset, .unset, .unset, .unset]) rfl k)
    show own_G p.tables e below _ _ (T27.setTop (mkF m 70 #[.val (.int p0), .val (.int p1), .val (.ref b1), .val (.int (0 : Int32)), .val (.int (1 : Int32)), .val (.int (2 : Int32)), .val (.int (3 : Int32)), .val (.int (4 : Int32)), .val (.int (5 : Int32)), .val (.int (6 : Int32)), .val (.int (7 : Int32)), .val (.int (0 : Int32)), .unset, .unset, .unset, .unset] []))
    refine own_st ?_ (fun t k => XS.iloadN X27.here hx rfl (hb hby at_70) rfl k)
    show own_G p.tables e below _ _ (T27.setTop (mkF m 71 #[.val (.int p0), .val (.int p1), .val (.ref b1), .val (.int (0 : Int32)), .val (.int (1 : Int32)), .val (.int (2 : Int32)), .val (.int (3 : Int32)), .val (.int (4 : Int32)), .val (.int (5 : Int32)), .val (.int (6 : Int32)), .val (.int (7 : Int32)), .val (.int (0 : Int32)), .unset, .unset, .unset, .unset] [(.int p0)]))
    refine own_st ?_ (fun t k => XS.bipush X27.here hx rfl (hb hby at_71) k)
    show own_G p.tables e below _ _ (T27.setTop (mkF m 73 #[.val (.int p0), .val (.int p1), .val (.ref b1), .val (.int (0 : Int32)), .val (.int (1 : Int32)), .val (.int (2 : Int32)), .val (.int (3 : Int32)), .val (.int (4 : Int32)), .val (.int (5 : Int32)), .val (.int (6 : Int32)), .val (.int (7 : Int32)), .val (.int (0 : Int32)), .unset, .unset, .unset, .unset] [(.int (7 : Int32)), (.int p0)]))
    refine own_st ?_ (fun t k => XS.iand X27.here hx rfl (hb hby at_73) rfl k)
    show own_G p.tables e below _ _ (T27.setTop (mkF m 74 #[.val (.int p0), .val (.int p1), .val (.ref b1), .val (.int (0 : Int32)), .val (.int (1 : Int32)), .val (.int (2 : Int32)), .val (.int (3 : Int32)), .val (.int (4 : Int32)), .val (.int (5 : Int32)), .val (.int (6 : Int32)), .val (.int (7 : Int32)), .val (.int (0 : Int32)), .unset, .unset, .unset, .unset] [(.int (p0 &&& (7 : Int32)))]))
    refine own_st ?_ (fun t k => XS.istore X27.here hx rfl (hb hby at_74) rfl (l' := #[.val (.int p0), .val (.int p1), .val (.ref b1), .val (.int (0 : Int32)), .val (.int (1 : Int32)), .val (.int (2 : Int32)), .val (.int (3 : Int32)), .val (.int (4 : Int32)), .val (.int (5 : Int32)), .val (.int (6 : Int32)), .val (.int (7 : Int32)), .val (.int (0 : Int32)), .val (.int (p0 &&& (7 : Int32))), .unset, .unset, .unset]) rfl k)
    show own_G p.tables e below _ _ (T27.setTop (mkF m 76 #[.val (.int p0), .val (.int p1), .val (.ref b1), .val (.int (0 : Int32)), .val (.int (1 : Int32)), .val (.int (2 : Int32)), .val (.int (3 : Int32)), .val (.int (4 : Int32)), .val (.int (5 : Int32)), .val (.int (6 : Int32)), .val (.int (7 : Int32)), .val (.int (0 : Int32)), .val (.int (p0 &&& (7 : Int32))), .unset, .unset, .unset] []))
    refine own_st ?_ (fun t k => XS.iloadN X27.here hx rfl (hb hby at_76) rfl k)
    show own_G p.tables e below _ _ (T27.setTop (mkF m 77 #[.val (.int p0), .val (.int p1), .val (.ref b1), .val (.int (0 : Int32)), .val (.int (1 : Int32)), .val (.int (2 : Int32)), .val (.int (3 : Int32)), .val (.int (4 : Int32)), .val (.int (5 : Int32)), .val (.int (6 : Int32)), .val (.int (7 : Int32)), .val (.int (0 : Int32)), .val (.int (p0 &&& (7 : Int32))), .unset, .unset, .unset] [(.int p1)]))
    refine own_st ?_ (fun t k => XS.bipush X27.here hx rfl (hb hby at_77) k)
    show own_G p.tables e below _ _ (T27.setTop (mkF m 79 #[.val (.int p0), .val (.int p1), .val (.ref b1), .val (.int (0 : Int32)), .val (.int (1 : Int32)), .val (.int (2 : Int32)), .val (.int (3 : Int32)), .val (.int (4 : Int32)), .val (.int (5 : Int32)), .val (.int (6 : Int32)), .val (.int (7 : Int32)), .val (.int (0 : Int32)), .val (.int (p0 &&& (7 : Int32))), .unset, .unset, .unset] [(.int (7 : Int32)), (.int p1)]))
    refine own_st ?_ (fun t k => XS.iand X27.here hx rfl (hb hby at_79) rfl k)
    show own_G p.tables e below _ _ (T27.setTop (mkF m 80 #[.val (.int p0), .val (.int p1), .val (.ref b1), .val (.int (0 : Int32)), .val (.int (1 : Int32)), .val (.int (2 : Int32)), .val (.int (3 : Int32)), .val (.int (4 : Int32)), .val (.int (5 : Int32)), .val (.int (6 : Int32)), .val (.int (7 : Int32)), .val (.int (0 : Int32)), .val (.int (p0 &&& (7 : Int32))), .unset, .unset, .unset] [(.int (p1 &&& (7 : Int32)))]))
    refine own_st ?_ (fun t k => XS.istore X27.here hx rfl (hb hby at_80) rfl (l' := #[.val (.int p0), .val (.int p1), .val (.ref b1), .val (.int (0 : Int32)), .val (.int (1 : Int32)), .val (.int (2 : Int32)), .val (.int (3 : Int32)), .val (.int (4 : Int32)), .val (.int (5 : Int32)), .val (.int (6 : Int32)), .val (.int (7 : Int32)), .val (.int (0 : Int32)), .val (.int (p0 &&& (7 : Int32))), .val (.int (p1 &&& (7 : Int32))), .unset, .unset]) rfl k)
    show own_G p.tables e below _ _ (T27.setTop (mkF m 82 #[.val (.int p0), .val (.int p1), .val (.ref b1), .val (.int (0 : Int32)), .val (.int (1 : Int32)), .val (.int (2 : Int32)), .val (.int (3 : Int32)), .val (.int (4 : Int32)), .val (.int (5 : Int32)), .val (.int (6 : Int32)), .val (.int (7 : Int32)), .val (.int (0 : Int32)), .val (.int (p0 &&& (7 : Int32))), .val (.int (p1 &&& (7 : Int32))), .unset, .unset] []))
    refine own_st ?_ (fun t k => XS.iload X27.here hx rfl (hb hby at_82) rfl k)
    show own_G p.tables e below _ _ (T27.setTop (mkF m 84 #[.val (.int p0), .val (.int p1), .val (.ref b1), .val (.int (0 : Int32)), .val (.int (1 : Int32)), .val (.int (2 : Int32)), .val (.int (3 : Int32)), .val (.int (4 : Int32)), .val (.int (5 : Int32)), .val (.int (6 : Int32)), .val (.int (7 : Int32)), .val (.int (0 : Int32)), .val (.int (p0 &&& (7 : Int32))), .val (.int (p1 &&& (7 : Int32))), .unset, .unset] [(.int (0 : Int32))]))
    refine own_st ?_ (fun t k => XS.ifYes X27.here hx rfl (pc0 := 84) (pc' := 94) rfl (hb hby at_84) rfl ((if0 _ _).trans (teq (by decide : (0 : Int32) = (0 : Int32))).1) (by decide) (by decide) k)
    show own_G p.tables e below _ _ (T27.setTop (mkF m 94 #[.val (.int p0), .val (.int p1), .val (.ref b1), .val (.int (0 : Int32)), .val (.int (1 : Int32)), .val (.int (2 : Int32)), .val (.int (3 : Int32)), .val (.int (4 : Int32)), .val (.int (5 : Int32)), .val (.int (6 : Int32)), .val (.int (7 : Int32)), .val (.int (0 : Int32)), .val (.int (p0 &&& (7 : Int32))), .val (.int (p1 &&& (7 : Int32))), .unset, .unset] []))
    refine own_st ?_ (fun t k => XS.aloadN X27.here hx rfl (hb hby at_94) rfl rfl k)
    show own_G p.tables e below _ _ (T27.setTop (mkF m 95 #[.val (.int p0), .val (.int p1), .val (.ref b1), .val (.int (0 : Int32)), .val (.int (1 : Int32)), .val (.int (2 : Int32)), .val (.int (3 : Int32)), .val (.int (4 : Int32)), .val (.int (5 : Int32)), .val (.int (6 : Int32)), .val (.int (7 : Int32)), .val (.int (0 : Int32)), .val (.int (p0 &&& (7 : Int32))), .val (.int (p1 &&& (7 : Int32))), .unset, .unset] [(.ref b1)]))
    obtain ⟨cq30, kq30, q30a, q30b, q30c⟩ := isOf hZ rfl F28_E
    obtain ⟨_, _, ⟨T30, L30, k30, n30⟩, -, X30, ⟨Lc30, hQ30, l30, y30, z30⟩, st30⟩ := X27.virtualBack hx (y := (⟨"com/example/supplant/supplant/automata/TransducerBuilder", "addState", "()I"⟩ : MethodName)) (z := (⟨"com/example/supplant/supplant/automata/TransducerBuilder", "addState", "()I"⟩ : MethodName)) hown (mvT hZ (hw _ (List.mem_of_getElem? (i := 41) rfl))) (mvT hZ (hw _ (List.mem_of_getElem? (i := 42) rfl))) (notFace_of_selects (args := #[]) (mvT hZ (hw _ (List.mem_of_getElem? (i := 44) rfl)))) (mvT hZ (hw _ (List.mem_of_getElem? (i := 44) rfl))) (mvT hZ (hw _ (List.mem_of_getElem? (i := 43) rfl))) (by decide) (backOf (W := 0) (rm6g l Z _ hw [] b1 t27 (fun _ => 0) T27.heap n0 Zs29 g_b1 g_t27 F28_E Ff27 Fd27 V27 hne27 (fun _ _ => rfl)) hZ (hw _ (List.mem_of_getElem? (i := 45) rfl)) (hw _ (List.mem_of_getElem? (i := 2) rfl)) (by decide) (by decide)) q30a q30c (g := (mkF m 95 #[.val (.int p0), .val (.int p1), .val (.ref b1), .val (.int (0 : Int32)), .val (.int (1 : Int32)), .val (.int (2 : Int32)), .val (.int (3 : Int32)), .val (.int (4 : Int32)), .val (.int (5 : Int32)), .val (.int (6 : Int32)), .val (.int (7 : Int32)), .val (.int (0 : Int32)), .val (.int (p0 &&& (7 : Int32))), .val (.int (p1 &&& (7 : Int32))), .unset, .unset] [(.ref b1)])) rfl (by rw [hml]; rfl) (Steps.refl _) (argsL := []) (rest := []) (lenOf pd_6 rfl) rfl (by show 2 * 0 + _ ≤ _; exact Nat.le_of_eq rfl) (hb hby at_95) (fun _ _ => ⟨rfl, rfl, (by decide : 5 + 1 ≤ _), (by decide : 50 + 16 ≤ _)⟩)
    dsimp only [Pt.U, Pt.locs, Pt.cells, Pt.slots] at X30 l30 y30 z30 st30 hQ30
    subst l30 y30 z30
    obtain ⟨rfl, N30q, hq30⟩ := hQ30
    have N30 := Fr.app N27 N30q
    obtain ⟨K30, t30, g_t30, hne30, Ff30, Fc30, V30⟩ := hq30
    have F31_E : Exa Z T30.heap b1 "com/example/supplant/supplant/automata/TransducerBuilder" := F28_E.keep K30
    have Zs32 : n0 ≤ T30.heap.size := Nat.le_trans Zs29 K30.1
    have Fd30 : Fld Z T30.heap b1 "com/example/supplant/supplant/automata/TransducerBuilder" "stateCount" "I" (.int (9 : Int32)) := Fc30
    refine own_st ?_ (fun t k => st30.trans k)
    show own_G p.tables e below _ _ (T30.setTop (mkF m 98 #[.val (.int p0), .val (.int p1), .val (.ref b1), .val (.int (0 : Int32)), .val (.int (1 : Int32)), .val (.int (2 : Int32)), .val (.int (3 : Int32)), .val (.int (4 : Int32)), .val (.int (5 : Int32)), .val (.int (6 : Int32)), .val (.int (7 : Int32)), .val (.int (0 : Int32)), .val (.int (p0 &&& (7 : Int32))), .val (.int (p1 &&& (7 : Int32))), .unset, .unset] [(.int (8 : Int32))]))
    refine own_st ?_ (fun t k => XS.istore X30.here hx rfl (hb hby at_98) rfl (l' := #[.val (.int p0), .val (.int p1), .val (.ref b1), .val (.int (0 : Int32)), .val (.int (1 : Int32)), .val (.int (2 : Int32)), .val (.int (3 : Int32)), .val (.int (4 : Int32)), .val (.int (5 : Int32)), .val (.int (6 : Int32)), .val (.int (7 : Int32)), .val (.int (0 : Int32)), .val (.int (p0 &&& (7 : Int32))), .val (.int (p1 &&& (7 : Int32))), .val (.int (8 : Int32)), .unset]) rfl k)
    show own_G p.tables e below _ _ (T30.setTop (mkF m 100 #[.val (.int p0), .val (.int p1), .val (.ref b1), .val (.int (0 : Int32)), .val (.int (1 : Int32)), .val (.int (2 : Int32)), .val (.int (3 : Int32)), .val (.int (4 : Int32)), .val (.int (5 : Int32)), .val (.int (6 : Int32)), .val (.int (7 : Int32)), .val (.int (0 : Int32)), .val (.int (p0 &&& (7 : Int32))), .val (.int (p1 &&& (7 : Int32))), .val (.int (8 : Int32)), .unset] []))
    refine own_st ?_ (fun t k => XS.iloadN X30.here hx rfl (hb hby at_100) rfl k)
    show own_G p.tables e below _ _ (T30.setTop (mkF m 101 #[.val (.int p0), .val (.int p1), .val (.ref b1), .val (.int (0 : Int32)), .val (.int (1 : Int32)), .val (.int (2 : Int32)), .val (.int (3 : Int32)), .val (.int (4 : Int32)), .val (.int (5 : Int32)), .val (.int (6 : Int32)), .val (.int (7 : Int32)), .val (.int (0 : Int32)), .val (.int (p0 &&& (7 : Int32))), .val (.int (p1 &&& (7 : Int32))), .val (.int (8 : Int32)), .unset] [(.int (0 : Int32))]))
    refine own_st ?_ (fun t k => XS.ifNo X30.here hx rfl (hb hby at_101) rfl ((if0 _ _).trans (teq (by decide : (0 : Int32) = (0 : Int32))).2) k)
    show own_G p.tables e below _ _ (T30.setTop (mkF m 104 #[.val (.int p0), .val (.int p1), .val (.ref b1), .val (.int (0 : Int32)), .val (.int (1 : Int32)), .val (.int (2 : Int32)), .val (.int (3 : Int32)), .val (.int (4 : Int32)), .val (.int (5 : Int32)), .val (.int (6 : Int32)), .val (.int (7 : Int32)), .val (.int (0 : Int32)), .val (.int (p0 &&& (7 : Int32))), .val (.int (p1 &&& (7 : Int32))), .val (.int (8 : Int32)), .unset] []))
    refine own_st ?_ (fun t k => XS.iload X30.here hx rfl (hb hby at_104) rfl k)
    show own_G p.tables e below _ _ (T30.setTop (mkF m 106 #[.val (.int p0), .val (.int p1), .val (.ref b1), .val (.int (0 : Int32)), .val (.int (1 : Int32)), .val (.int (2 : Int32)), .val (.int (3 : Int32)), .val (.int (4 : Int32)), .val (.int (5 : Int32)), .val (.int (6 : Int32)), .val (.int (7 : Int32)), .val (.int (0 : Int32)), .val (.int (p0 &&& (7 : Int32))), .val (.int (p1 &&& (7 : Int32))), .val (.int (8 : Int32)), .unset] [(.int (1 : Int32))]))
    refine own_st ?_ (fun t k => XS.iconst X30.here hx rfl (hb hby at_106) k)
    show own_G p.tables e below _ _ (T30.setTop (mkF m 107 #[.val (.int p0), .val (.int p1), .val (.ref b1), .val (.int (0 : Int32)), .val (.int (1 : Int32)), .val (.int (2 : Int32)), .val (.int (3 : Int32)), .val (.int (4 : Int32)), .val (.int (5 : Int32)), .val (.int (6 : Int32)), .val (.int (7 : Int32)), .val (.int (0 : Int32)), .val (.int (p0 &&& (7 : Int32))), .val (.int (p1 &&& (7 : Int32))), .val (.int (8 : Int32)), .unset] [(.int (1 : Int32)), (.int (1 : Int32))]))
    refine own_st ?_ (fun t k => XS.icmpNo X30.here hx rfl (hb hby at_107) rfl (teq (by decide : (1 : Int32) = (1 : Int32))).2 k)
    show own_G p.tables e below _ _ (T30.setTop (mkF m 110 #[.val (.int p0), .val (.int p1), .val (.ref b1), .val (.int (0 : Int32)), .val (.int (1 : Int32)), .val (.int (2 : Int32)), .val (.int (3 : Int32)), .val (.int (4 : Int32)), .val (.int (5 : Int32)), .val (.int (6 : Int32)), .val (.int (7 : Int32)), .val (.int (0 : Int32)), .val (.int (p0 &&& (7 : Int32))), .val (.int (p1 &&& (7 : Int32))), .val (.int (8 : Int32)), .unset] []))
    refine own_st ?_ (fun t k => XS.iload X30.here hx rfl (hb hby at_110) rfl k)
    show own_G p.tables e below _ _ (T30.setTop (mkF m 112 #[.val (.int p0), .val (.int p1), .val (.ref b1), .val (.int (0 : Int32)), .val (.int (1 : Int32)), .val (.int (2 : Int32)), .val (.int (3 : Int32)), .val (.int (4 : Int32)), .val (.int (5 : Int32)), .val (.int (6 : Int32)), .val (.int (7 : Int32)), .val (.int (0 : Int32)), .val (.int (p0 &&& (7 : Int32))), .val (.int (p1 &&& (7 : Int32))), .val (.int (8 : Int32)), .unset] [(.int (2 : Int32))]))
    refine own_st ?_ (fun t k => XS.iconst X30.here hx rfl (hb hby at_112) k)
    show own_G p.tables e below _ _ (T30.setTop (mkF m 113 #[.val (.int p0), .val (.int p1), .val (.ref b1), .val (.int (0 : Int32)), .val (.int (1 : Int32)), .val (.int (2 : Int32)), .val (.int (3 : Int32)), .val (.int (4 : Int32)), .val (.int (5 : Int32)), .val (.int (6 : Int32)), .val (.int (7 : Int32)), .val (.int (0 : Int32)), .val (.int (p0 &&& (7 : Int32))), .val (.int (p1 &&& (7 : Int32))), .val (.int (8 : Int32)), .unset] [(.int (2 : Int32)), (.int (2 : Int32))]))
    refine own_st ?_ (fun t k => XS.icmpNo X30.here hx rfl (hb hby at_113) rfl (teq (by decide : (2 : Int32) = (2 : Int32))).2 k)
    show own_G p.tables e below _ _ (T30.setTop (mkF m 116 #[.val (.int p0), .val (.int p1), .val (.ref b1), .val (.int (0 : Int32)), .val (.int (1 : Int32)), .val (.int (2 : Int32)), .val (.int (3 : Int32)), .val (.int (4 : Int32)), .val (.int (5 : Int32)), .val (.int (6 : Int32)), .val (.int (7 : Int32)), .val (.int (0 : Int32)), .val (.int (p0 &&& (7 : Int32))), .val (.int (p1 &&& (7 : Int32))), .val (.int (8 : Int32)), .unset] []))
    refine own_st ?_ (fun t k => XS.iload X30.here hx rfl (hb hby at_116) rfl k)
    show own_G p.tables e below _ _ (T30.setTop (mkF m 118 #[.val (.int p0), .val (.int p1), .val (.ref b1), .val (.int (0 : Int32)), .val (.int (1 : Int32)), .val (.int (2 : Int32)), .val (.int (3 : Int32)), .val (.int (4 : Int32)), .val (.int (5 : Int32)), .val (.int (6 : Int32)), .val (.int (7 : Int32)), .val (.int (0 : Int32)), .val (.int (p0 &&& (7 : Int32))), .val (.int (p1 &&& (7 : Int32))), .val (.int (8 : Int32)), .unset] [(.int (3 : Int32))]))
    refine own_st ?_ (fun t k => XS.iconst X30.here hx rfl (hb hby at_118) k)
    show own_G p.tables e below _ _ (T30.setTop (mkF m 119 #[.val (.int p0), .val (.int p1), .val (.ref b1), .val (.int (0 : Int32)), .val (.int (1 : Int32)), .val (.int (2 : Int32)), .val (.int (3 : Int32)), .val (.int (4 : Int32)), .val (.int (5 : Int32)), .val (.int (6 : Int32)), .val (.int (7 : Int32)), .val (.int (0 : Int32)), .val (.int (p0 &&& (7 : Int32))), .val (.int (p1 &&& (7 : Int32))), .val (.int (8 : Int32)), .unset] [(.int (3 : Int32)), (.int (3 : Int32))]))
    refine own_st ?_ (fun t k => XS.icmpNo X30.here hx rfl (hb hby at_119) rfl (teq (by decide : (3 : Int32) = (3 : Int32))).2 k)
    show own_G p.tables e below _ _ (T30.setTop (mkF m 122 #[.val (.int p0), .val (.int p1), .val (.ref b1), .val (.int (0 : Int32)), .val (.int (1 : Int32)), .val (.int (2 : Int32)), .val (.int (3 : Int32)), .val (.int (4 : Int32)), .val (.int (5 : Int32)), .val (.int (6 : Int32)), .val (.int (7 : Int32)), .val (.int (0 : Int32)), .val (.int (p0 &&& (7 : Int32))), .val (.int (p1 &&& (7 : Int32))), .val (.int (8 : Int32)), .unset] []))
    refine own_st ?_ (fun t k => XS.iload X30.here hx rfl (hb hby at_122) rfl k)
    show own_G p.tables e below _ _ (T30.setTop (mkF m 124 #[.val (.int p0), .val (.int p1), .val (.ref b1), .val (.int (0 : Int32)), .val (.int (1 : Int32)), .val (.int (2 : Int32)), .val (.int (3 : Int32)), .val (.int (4 : Int32)), .val (.int (5 : Int32)), .val (.int (6 : Int32)), .val (.int (7 : Int32)), .val (.int (0 : Int32)), .val (.int (p0 &&& (7 : Int32))), .val (.int (p1 &&& (7 : Int32))), .val (.int (8 : Int32)), .unset] [(.int (4 : Int32))]))
    refine own_st ?_ (fun t k => XS.iconst X30.here hx rfl (hb hby at_124) k)
    show own_G p.tables e below _ _ (T30.setTop (mkF m 125 #[.val (.int p0), .val (.int p1), .val (.ref b1), .val (.int (0 : Int32)), .val (.int (1 : Int32)), .val (.int (2 : Int32)), .val (.int (3 : Int32)), .val (.int (4 : Int32)), .val (.int (5 : Int32)), .val (.int (6 : Int32)), .val (.int (7 : Int32)), .val (.int (0 : Int32)), .val (.int (p0 &&& (7 : Int32))), .val (.int (p1 &&& (7 : Int32))), .val (.int (8 : Int32)), .unset] [(.int (4 : Int32)), (.int (4 : Int32))]))
    refine own_st ?_ (fun t k => XS.icmpNo X30.here hx rfl (hb hby at_125) rfl (teq (by decide : (4 : Int32) = (4 : Int32))).2 k)
    show own_G p.tables e below _ _ (T30.setTop (mkF m 128 #[.val (.int p0), .val (.int p1), .val (.ref b1), .val (.int (0 : Int32)), .val (.int (1 : Int32)), .val (.int (2 : Int32)), .val (.int (3 : Int32)), .val (.int (4 : Int32)), .val (.int (5 : Int32)), .val (.int (6 : Int32)), .val (.int (7 : Int32)), .val (.int (0 : Int32)), .val (.int (p0 &&& (7 : Int32))), .val (.int (p1 &&& (7 : Int32))), .val (.int (8 : Int32)), .unset] []))
    refine own_st ?_ (fun t k => XS.iload X30.here hx rfl (hb hby at_128) rfl k)
    show own_G p.tables e below _ _ (T30.setTop (mkF m 130 #[.val (.int p0), .val (.int p1), .val (.ref b1), .val (.int (0 : Int32)), .val (.int (1 : Int32)), .val (.int (2 : Int32)), .val (.int (3 : Int32)), .val (.int (4 : Int32)), .val (.int (5 : Int32)), .val (.int (6 : Int32)), .val (.int (7 : Int32)), .val (.int (0 : Int32)), .val (.int (p0 &&& (7 : Int32))), .val (.int (p1 &&& (7 : Int32))), .val (.int (8 : Int32)), .unset] [(.int (5 : Int32))]))
    refine own_st ?_ (fun t k => XS.iconst X30.here hx rfl (hb hby at_130) k)
    show own_G p.tables e below _ _ (T30.setTop (mkF m 131 #[.val (.int p0), .val (.int p1), .val (.ref b1), .val (.int (0 : Int32)), .val (.int (1 : Int32)), .val (.int (2 : Int32)), .val (.int (3 : Int32)), .val (.int (4 : Int32)), .val (.int (5 : Int32)), .val (.int (6 : Int32)), .val (.int (7 : Int32)), .val (.int (0 : Int32)), .val (.int (p0 &&& (7 : Int32))), .val (.int (p1 &&& (7 : Int32))), .val (.int (8 : Int32)), .unset] [(.int (5 : Int32)), (.int (5 : Int32))]))
    refine own_st ?_ (fun t k => XS.icmpNo X30.here hx rfl (hb hby at_131) rfl (teq (by decide : (5 : Int32) = (5 : Int32))).2 k)
    show own_G p.tables e below _ _ (T30.setTop (mkF m 134 #[.val (.int p0), .val (.int p1), .val (.ref b1), .val (.int (0 : Int32)), .val (.int (1 : Int32)), .val (.int (2 : Int32)), .val (.int (3 : Int32)), .val (.int (4 : Int32)), .val (.int (5 : Int32)), .val (.int (6 : Int32)), .val (.int (7 : Int32)), .val (.int (0 : Int32)), .val (.int (p0 &&& (7 : Int32))), .val (.int (p1 &&& (7 : Int32))), .val (.int (8 : Int32)), .unset] []))
    refine own_st ?_ (fun t k => XS.iload X30.here hx rfl (hb hby at_134) rfl k)
    show own_G p.tables e below _ _ (T30.setTop (mkF m 136 #[.val (.int p0), .val (.int p1), .val (.ref b1), .val (.int (0 : Int32)), .val (.int (1 : Int32)), .val (.int (2 : Int32)), .val (.int (3 : Int32)), .val (.int (4 : Int32)), .val (.int (5 : Int32)), .val (.int (6 : Int32)), .val (.int (7 : Int32)), .val (.int (0 : Int32)), .val (.int (p0 &&& (7 : Int32))), .val (.int (p1 &&& (7 : Int32))), .val (.int (8 : Int32)), .unset] [(.int (6 : Int32))]))
    refine own_st ?_ (fun t k => XS.bipush X30.here hx rfl (hb hby at_136) k)
    show own_G p.tables e below _ _ (T30.setTop (mkF m 138 #[.val (.int p0), .val (.int p1), .val (.ref b1), .val (.int (0 : Int32)), .val (.int (1 : Int32)), .val (.int (2 : Int32)), .val (.int (3 : Int32)), .val (.int (4 : Int32)), .val (.int (5 : Int32)), .val (.int (6 : Int32)), .val (.int (7 : Int32)), .val (.int (0 : Int32)), .val (.int (p0 &&& (7 : Int32))), .val (.int (p1 &&& (7 : Int32))), .val (.int (8 : Int32)), .unset] [(.int (6 : Int32)), (.int (6 : Int32))]))
    refine own_st ?_ (fun t k => XS.icmpNo X30.here hx rfl (hb hby at_138) rfl (teq (by decide : (6 : Int32) = (6 : Int32))).2 k)
    show own_G p.tables e below _ _ (T30.setTop (mkF m 141 #[.val (.int p0), .val (.int p1), .val (.ref b1), .val (.int (0 : Int32)), .val (.int (1 : Int32)), .val (.int (2 : Int32)), .val (.int (3 : Int32)), .val (.int (4 : Int32)), .val (.int (5 : Int32)), .val (.int (6 : Int32)), .val (.int (7 : Int32)), .val (.int (0 : Int32)), .val (.int (p0 &&& (7 : Int32))), .val (.int (p1 &&& (7 : Int32))), .val (.int (8 : Int32)), .unset] []))
    refine own_st ?_ (fun t k => XS.iload X30.here hx rfl (hb hby at_141) rfl k)
    show own_G p.tables e below _ _ (T30.setTop (mkF m 143 #[.val (.int p0), .val (.int p1), .val (.ref b1), .val (.int (0 : Int32)), .val (.int (1 : Int32)), .val (.int (2 : Int32)), .val (.int (3 : Int32)), .val (.int (4 : Int32)), .val (.int (5 : Int32)), .val (.int (6 : Int32)), .val (.int (7 : Int32)), .val (.int (0 : Int32)), .val (.int (p0 &&& (7 : Int32))), .val (.int (p1 &&& (7 : Int32))), .val (.int (8 : Int32)), .unset] [(.int (7 : Int32))]))
    refine own_st ?_ (fun t k => XS.bipush X30.here hx rfl (hb hby at_143) k)
    show own_G p.tables e below _ _ (T30.setTop (mkF m 145 #[.val (.int p0), .val (.int p1), .val (.ref b1), .val (.int (0 : Int32)), .val (.int (1 : Int32)), .val (.int (2 : Int32)), .val (.int (3 : Int32)), .val (.int (4 : Int32)), .val (.int (5 : Int32)), .val (.int (6 : Int32)), .val (.int (7 : Int32)), .val (.int (0 : Int32)), .val (.int (p0 &&& (7 : Int32))), .val (.int (p1 &&& (7 : Int32))), .val (.int (8 : Int32)), .unset] [(.int (7 : Int32)), (.int (7 : Int32))]))
    refine own_st ?_ (fun t k => XS.icmpNo X30.here hx rfl (hb hby at_145) rfl (teq (by decide : (7 : Int32) = (7 : Int32))).2 k)
    show own_G p.tables e below _ _ (T30.setTop (mkF m 148 #[.val (.int p0), .val (.int p1), .val (.ref b1), .val (.int (0 : Int32)), .val (.int (1 : Int32)), .val (.int (2 : Int32)), .val (.int (3 : Int32)), .val (.int (4 : Int32)), .val (.int (5 : Int32)), .val (.int (6 : Int32)), .val (.int (7 : Int32)), .val (.int (0 : Int32)), .val (.int (p0 &&& (7 : Int32))), .val (.int (p1 &&& (7 : Int32))), .val (.int (8 : Int32)), .unset] []))
    refine own_st ?_ (fun t k => XS.iload X30.here hx rfl (hb hby at_148) rfl k)
    show own_G p.tables e below _ _ (T30.setTop (mkF m 150 #[.val (.int p0), .val (.int p1), .val (.ref b1), .val (.int (0 : Int32)), .val (.int (1 : Int32)), .val (.int (2 : Int32)), .val (.int (3 : Int32)), .val (.int (4 : Int32)), .val (.int (5 : Int32)), .val (.int (6 : Int32)), .val (.int (7 : Int32)), .val (.int (0 : Int32)), .val (.int (p0 &&& (7 : Int32))), .val (.int (p1 &&& (7 : Int32))), .val (.int (8 : Int32)), .unset] [(.int (8 : Int32))]))
    refine own_st ?_ (fun t k => XS.bipush X30.here hx rfl (hb hby at_150) k)
    show own_G p.tables e below _ _ (T30.setTop (mkF m 152 #[.val (.int p0), .val (.int p1), .val (.ref b1), .val (.int (0 : Int32)), .val (.int (1 : Int32)), .val (.int (2 : Int32)), .val (.int (3 : Int32)), .val (.int (4 : Int32)), .val (.int (5 : Int32)), .val (.int (6 : Int32)), .val (.int (7 : Int32)), .val (.int (0 : Int32)), .val (.int (p0 &&& (7 : Int32))), .val (.int (p1 &&& (7 : Int32))), .val (.int (8 : Int32)), .unset] [(.int (8 : Int32)), (.int (8 : Int32))]))
    refine own_st ?_ (fun t k => XS.icmpNo X30.here hx rfl (hb hby at_152) rfl (teq (by decide : (8 : Int32) = (8 : Int32))).2 k)
    show own_G p.tables e below _ _ (T30.setTop (mkF m 155 #[.val (.int p0), .val (.int p1), .val (.ref b1), .val (.int (0 : Int32)), .val (.int (1 : Int32)), .val (.int (2 : Int32)), .val (.int (3 : Int32)), .val (.int (4 : Int32)), .val (.int (5 : Int32)), .val (.int (6 : Int32)), .val (.int (7 : Int32)), .val (.int (0 : Int32)), .val (.int (p0 &&& (7 : Int32))), .val (.int (p1 &&& (7 : Int32))), .val (.int (8 : Int32)), .unset] []))
    refine own_st ?_ (fun t k => XS.iconst X30.here hx rfl (hb hby at_155) k)
    show own_G p.tables e below _ _ (T30.setTop (mkF m 156 #[.val (.int p0), .val (.int p1), .val (.ref b1), .val (.int (0 : Int32)), .val (.int (1 : Int32)), .val (.int (2 : Int32)), .val (.int (3 : Int32)), .val (.int (4 : Int32)), .val (.int (5 : Int32)), .val (.int (6 : Int32)), .val (.int (7 : Int32)), .val (.int (0 : Int32)), .val (.int (p0 &&& (7 : Int32))), .val (.int (p1 &&& (7 : Int32))), .val (.int (8 : Int32)), .unset] [(.int (1 : Int32))]))
    refine own_st ?_ (fun t k => XS.goto X30.here hx rfl (pc0 := 156) (pc' := 160) rfl (hb hby at_156) (by decide) (by decide) k)
    show own_G p.tables e below _ _ (T30.setTop (mkF m 160 #[.val (.int p0), .val (.int p1), .val (.ref b1), .val (.int (0 : Int32)), .val (.int (1 : Int32)), .val (.int (2 : Int32)), .val (.int (3 : Int32)), .val (.int (4 : Int32)), .val (.int (5 : Int32)), .val (.int (6 : Int32)), .val (.int (7 : Int32)), .val (.int (0 : Int32)), .val (.int (p0 &&& (7 : Int32))), .val (.int (p1 &&& (7 : Int32))), .val (.int (8 : Int32)), .unset] [(.int (1 : Int32))]))
    refine own_st ?_ (fun t k => XS.istore X30.here hx rfl (hb hby at_160) rfl (l' := #[.val (.int p0), .val (.int p1), .val (.ref b1), .val (.int (0 : Int32)), .val (.int (1 : Int32)), .val (.int (2 : Int32)), .val (.int (3 : Int32)), .val (.int (4 : Int32)), .val (.int (5 : Int32)), .val (.int (6 : Int32)), .val (.int (7 : Int32)), .val (.int (0 : Int32)), .val (.int (p0 &&& (7 : Int32))), .val (.int (p1 &&& (7 : Int32))), .val (.int (8 : Int32)), .val (.int (1 : Int32))]) rfl k)
    show own_G p.tables e below _ _ (T30.setTop (mkF m 162 #[.val (.int p0), .val (.int p1), .val (.ref b1), .val (.int (0 : Int32)), .val (.int (1 : Int32)), .val (.int (2 : Int32)), .val (.int (3 : Int32)), .val (.int (4 : Int32)), .val (.int (5 : Int32)), .val (.int (6 : Int32)), .val (.int (7 : Int32)), .val (.int (0 : Int32)), .val (.int (p0 &&& (7 : Int32))), .val (.int (p1 &&& (7 : Int32))), .val (.int (8 : Int32)), .val (.int (1 : Int32))] []))
    refine own_st ?_ (fun t k => XS.iload X30.here hx rfl (hb hby at_162) rfl k)
    show own_G p.tables e below _ _ (T30.setTop (mkF m 164 #[.val (.int p0), .val (.int p1), .val (.ref b1), .val (.int (0 : Int32)), .val (.int (1 : Int32)), .val (.int (2 : Int32)), .val (.int (3 : Int32)), .val (.int (4 : Int32)), .val (.int (5 : Int32)), .val (.int (6 : Int32)), .val (.int (7 : Int32)), .val (.int (0 : Int32)), .val (.int (p0 &&& (7 : Int32))), .val (.int (p1 &&& (7 : Int32))), .val (.int (8 : Int32)), .val (.int (1 : Int32))] [(.int (1 : Int32))]))
    refine own_st ?_ (fun t k => XS.ifYes X30.here hx rfl (pc0 := 164) (pc' := 169) rfl (hb hby at_164) rfl ((if0 _ _).trans (feq (by decide : ¬ ((1 : Int32) = (0 : Int32)))).2) (by decide) (by decide) k)
    show own_G p.tables e below _ _ (T30.setTop (mkF m 169 #[.val (.int p0), .val (.int p1), .val (.ref b1), .val (.int (0 : Int32)), .val (.int (1 : Int32)), .val (.int (2 : Int32)), .val (.int (3 : Int32)), .val (.int (4 : Int32)), .val (.int (5 : Int32)), .val (.int (6 : Int32)), .val (.int (7 : Int32)), .val (.int (0 : Int32)), .val (.int (p0 &&& (7 : Int32))), .val (.int (p1 &&& (7 : Int32))), .val (.int (8 : Int32)), .val (.int (1 : Int32))] []))
    refine own_st ?_ (fun t k => XS.aloadN X30.here hx rfl (hb hby at_169) rfl rfl k)
    show own_G p.tables e below _ _ (T30.setTop (mkF m 170 #[.val (.int p0), .val (.int p1), .val (.ref b1), .val (.int (0 : Int32)), .val (.int (1 : Int32)), .val (.int (2 : Int32)), .val (.int (3 : Int32)), .val (.int (4 : Int32)), .val (.int (5 : Int32)), .val (.int (6 : Int32)), .val (.int (7 : Int32)), .val (.int (0 : Int32)), .val (.int (p0 &&& (7 : Int32))), .val (.int (p1 &&& (7 : Int32))), .val (.int (8 : Int32)), .val (.int (1 : Int32))] [(.ref b1)]))
    obtain ⟨cq33, kq33, q33a, q33b, q33c⟩ := isOf hZ rfl F31_E
    obtain ⟨_, _, ⟨T33, L33, k33, n33⟩, -, X33, ⟨Lc33, hQ33, l33, y33, z33⟩, st33⟩ := X30.virtualBack hx (y := (⟨"com/example/supplant/supplant/automata/TransducerBuilder", "stateCount", "()I"⟩ : MethodName)) (z := (⟨"com/example/supplant/supplant/automata/TransducerBuilder", "stateCount", "()I"⟩ : MethodName)) hown (mvT hZ (hw _ (List.mem_of_getElem? (i := 60) rfl))) (mvT hZ (hw _ (List.mem_of_getElem? (i := 61) rfl))) (notFace_of_selects (args := #[]) (mvT hZ (hw _ (List.mem_of_getElem? (i := 63) rfl)))) (mvT hZ (hw _ (List.mem_of_getElem? (i := 63) rfl))) (mvT hZ (hw _ (List.mem_of_getElem? (i := 62) rfl))) (by decide) (backOf (W := 0) (rm9 l Z _ hw [] b1 (9 : Int32) T30.heap n0 Zs32 Fd30) hZ (hw _ (List.mem_of_getElem? (i := 64) rfl)) (hw _ (List.mem_of_getElem? (i := 2) rfl)) (by decide) (by decide)) q33a q33c (g := (mkF m 170 #[.val (.int p0), .val (.int p1), .val (.ref b1), .val (.int (0 : Int32)), .val (.int (1 : Int32)), .val (.int (2 : Int32)), .val (.int (3 : Int32)), .val (.int (4 : Int32)), .val (.int (5 : Int32)), .val (.int (6 : Int32)), .val (.int (7 : Int32)), .val (.int (0 : Int32)), .val (.int (p0 &&& (7 : Int32))), .val (.int (p1 &&& (7 : Int32))), .val (.int (8 : Int32)), .val (.int (1 : Int32))] [(.ref b1)])) rfl (by rw [hml]; rfl) (Steps.refl _) (argsL := []) (rest := []) (lenOf pd_6 rfl) rfl (by show 2 * 0 + _ ≤ _; exact Nat.le_of_eq rfl) (hb hby at_170) (fun _ _ => ⟨rfl, rfl, (by decide : 6 + 0 ≤ _), (by decide : 66 + 0 ≤ _)⟩)
    dsimp only [Pt.U, Pt.locs, Pt.cells, Pt.slots] at X33 l33 y33 z33 st33 hQ33
    subst l33 y33 z33
    obtain ⟨rfl, N33q, e33⟩ := hQ33
    have N33 := Fr.app N30 N33q
    refine own_st ?_ (fun t k => st33.trans k)
    show own_G p.tables e below _ _ (T33.setTop (mkF m 173 #[.val (.int p0), .val (.int p1), .val (.ref b1), .val (.int (0 : Int32)), .val (.int (1 : Int32)), .val (.int (2 : Int32)), .val (.int (3 : Int32)), .val (.int (4 : Int32)), .val (.int (5 : Int32)), .val (.int (6 : Int32)), .val (.int (7 : Int32)), .val (.int (0 : Int32)), .val (.int (p0 &&& (7 : Int32))), .val (.int (p1 &&& (7 : Int32))), .val (.int (8 : Int32)), .val (.int (1 : Int32))] [(.int (9 : Int32))]))
    refine own_st ?_ (fun t k => XS.bipush X33.here hx rfl (hb hby at_173) k)
    show own_G p.tables e below _ _ (T33.setTop (mkF m 175 #[.val (.int p0), .val (.int p1), .val (.ref b1), .val (.int (0 : Int32)), .val (.int (1 : Int32)), .val (.int (2 : Int32)), .val (.int (3 : Int32)), .val (.int (4 : Int32)), .val (.int (5 : Int32)), .val (.int (6 : Int32)), .val (.int (7 : Int32)), .val (.int (0 : Int32)), .val (.int (p0 &&& (7 : Int32))), .val (.int (p1 &&& (7 : Int32))), .val (.int (8 : Int32)), .val (.int (1 : Int32))] [(.int (9 : Int32)), (.int (9 : Int32))]))
    refine own_st ?_ (fun t k => XS.icmpYes X33.here hx rfl (pc0 := 175) (pc' := 180) rfl (hb hby at_175) rfl (teq (by decide : (9 : Int32) = (9 : Int32))).1 (by decide) (by decide) k)
    show own_G p.tables e below _ _ (T33.setTop (mkF m 180 #[.val (.int p0), .val (.int p1), .val (.ref b1), .val (.int (0 : Int32)), .val (.int (1 : Int32)), .val (.int (2 : Int32)), .val (.int (3 : Int32)), .val (.int (4 : Int32)), .val (.int (5 : Int32)), .val (.int (6 : Int32)), .val (.int (7 : Int32)), .val (.int (0 : Int32)), .val (.int (p0 &&& (7 : Int32))), .val (.int (p1 &&& (7 : Int32))), .val (.int (8 : Int32)), .val (.int (1 : Int32))] []))
    refine own_st ?_ (fun t k => XS.aloadN X33.here hx rfl (hb hby at_180) rfl rfl k)
    show own_G p.tables e below _ _ (T33.setTop (mkF m 181 #[.val (.int p0), .val (.int p1), .val (.ref b1), .val (.int (0 : Int32)), .val (.int (1 : Int32)), .val (.int (2 : Int32)), .val (.int (3 : Int32)), .val (.int (4 : Int32)), .val (.int (5 : Int32)), .val (.int (6 : Int32)), .val (.int (7 : Int32)), .val (.int (0 : Int32)), .val (.int (p0 &&& (7 : Int32))), .val (.int (p1 &&& (7 : Int32))), .val (.int (8 : Int32)), .val (.int (1 : Int32))] [(.ref b1)]))
    refine own_st ?_ (fun t k => XS.iload X33.here hx rfl (hb hby at_181) rfl k)
    show own_G p.tables e below _ _ (T33.setTop (mkF m 183 #[.val (.int p0), .val (.int p1), .val (.ref b1), .val (.int (0 : Int32)), .val (.int (1 : Int32)), .val (.int (2 : Int32)), .val (.int (3 : Int32)), .val (.int (4 : Int32)), .val (.int (5 : Int32)), .val (.int (6 : Int32)), .val (.int (7 : Int32)), .val (.int (0 : Int32)), .val (.int (p0 &&& (7 : Int32))), .val (.int (p1 &&& (7 : Int32))), .val (.int (8 : Int32)), .val (.int (1 : Int32))] [(.int (p0 &&& (7 : Int32))), (.ref b1)]))
    obtain ⟨cq34, kq34, q34a, q34b, q34c⟩ := isOf hZ e33 F31_E
    obtain ⟨_, _, ⟨T34, L34, k34, n34⟩, -, X34, ⟨Lc34, hQ34, l34, y34, z34⟩, st34⟩ := X33.virtualBack hx (y := (⟨"com/example/supplant/supplant/automata/TransducerBuilder", "isFinal", "(I)Z"⟩ : MethodName)) (z := (⟨"com/example/supplant/supplant/automata/TransducerBuilder", "isFinal", "(I)Z"⟩ : MethodName)) hown (mvT hZ (hw _ (List.mem_of_getElem? (i := 65) rfl))) (mvT hZ (hw _ (List.mem_of_getElem? (i := 66) rfl))) (notFace_of_selects (args := #[]) (mvT hZ (hw _ (List.mem_of_getElem? (i := 68) rfl)))) (mvT hZ (hw _ (List.mem_of_getElem? (i := 68) rfl))) (mvT hZ (hw _ (List.mem_of_getElem? (i := 67) rfl))) (by decide) (backOf (W := 0) (rm10 l Z _ hw [] b1 (p0 &&& (7 : Int32)) t30 (16 : Int32) (fun _ => 0) (0 : Int32) T30.heap n0 Zs32 Ff30 V30 (own_mask7 p0).1 (Nat.lt_trans (own_mask7 p0).2 (by decide)) rfl (by decide)) hZ (hw _ (List.mem_of_getElem? (i := 69) rfl)) (hw _ (List.mem_of_getElem? (i := 2) rfl)) (by decide) (by decide)) q34a q34c (g := (mkF m 183 #[.val (.int p0), .val (.int p1), .val (.ref b1), .val (.int (0 : Int32)), .val (.int (1 : Int32)), .val (.int (2 : Int32)), .val (.int (3 : Int32)), .val (.int (4 : Int32)), .val (.int (5 : Int32)), .val (.int (6 : Int32)), .val (.int (7 : Int32)), .val (.int (0 : Int32)), .val (.int (p0 &&& (7 : Int32))), .val (.int (p1 &&& (7 : Int32))), .val (.int (8 : Int32)), .val (.int (1 : Int32))] [(.int (p0 &&& (7 : Int32))), (.ref b1)])) rfl (by rw [hml]; rfl) (Steps.refl _) (argsL := [(.int (p0 &&& (7 : Int32)))]) (rest := []) (lenOf pd_7 rfl) rfl (by show 2 * 0 + _ ≤ _; exact Nat.le_of_eq rfl) (hb hby at_183) (fun _ _ => ⟨rfl, e33, (by decide : 6 + 0 ≤ _), (by decide : 66 + 0 ≤ _)⟩)
    dsimp only [Pt.U, Pt.locs, Pt.cells, Pt.slots] at X34 l34 y34 z34 st34 hQ34
    subst l34 y34 z34
    obtain ⟨rfl, N34q, e34⟩ := hQ34
    have N34 := Fr.app N33 N34q
    refine own_st ?_ (fun t k => st34.trans k)
    show own_G p.tables e below _ _ (T34.setTop (mkF m 186 #[.val (.int p0), .val (.int p1), .val (.ref b1), .val (.int (0 : Int32)), .val (.int (1 : Int32)), .val (.int (2 : Int32)), .val (.int (3 : Int32)), .val (.int (4 : Int32)), .val (.int (5 : Int32)), .val (.int (6 : Int32)), .val (.int (7 : Int32)), .val (.int (0 : Int32)), .val (.int (p0 &&& (7 : Int32))), .val (.int (p1 &&& (7 : Int32))), .val (.int (8 : Int32)), .val (.int (1 : Int32))] [(.int (0 : Int32))]))
    refine own_st ?_ (fun t k => XS.iload X34.here hx rfl (hb hby at_186) rfl k)
    show own_G p.tables e below _ _ (T34.setTop (mkF m 188 #[.val (.int p0), .val (.int p1), .val (.ref b1), .val (.int (0 : Int32)), .val (.int (1 : Int32)), .val (.int (2 : Int32)), .val (.int (3 : Int32)), .val (.int (4 : Int32)), .val (.int (5 : Int32)), .val (.int (6 : Int32)), .val (.int (7 : Int32)), .val (.int (0 : Int32)), .val (.int (p0 &&& (7 : Int32))), .val (.int (p1 &&& (7 : Int32))), .val (.int (8 : Int32)), .val (.int (1 : Int32))] [(.int (0 : Int32)), (.int (0 : Int32))]))
    refine own_st ?_ (fun t k => XS.icmpYes X34.here hx rfl (pc0 := 188) (pc' := 193) rfl (hb hby at_188) rfl (teq (by decide : (0 : Int32) = (0 : Int32))).1 (by decide) (by decide) k)
    show own_G p.tables e below _ _ (T34.setTop (mkF m 193 #[.val (.int p0), .val (.int p1), .val (.ref b1), .val (.int (0 : Int32)), .val (.int (1 : Int32)), .val (.int (2 : Int32)), .val (.int (3 : Int32)), .val (.int (4 : Int32)), .val (.int (5 : Int32)), .val (.int (6 : Int32)), .val (.int (7 : Int32)), .val (.int (0 : Int32)), .val (.int (p0 &&& (7 : Int32))), .val (.int (p1 &&& (7 : Int32))), .val (.int (8 : Int32)), .val (.int (1 : Int32))] []))
    by_cases hgf : (p1 &&& (7 : Int32)) = (p0 &&& (7 : Int32))
    · refine own_st ?_ (fun t k => XS.aloadN X34.here hx rfl (hb hby at_193) rfl rfl k)
      show own_G p.tables e below _ _ (T34.setTop (mkF m 194 #[.val (.int p0), .val (.int p1), .val (.ref b1), .val (.int (0 : Int32)), .val (.int (1 : Int32)), .val (.int (2 : Int32)), .val (.int (3 : Int32)), .val (.int (4 : Int32)), .val (.int (5 : Int32)), .val (.int (6 : Int32)), .val (.int (7 : Int32)), .val (.int (0 : Int32)), .val (.int (p0 &&& (7 : Int32))), .val (.int (p1 &&& (7 : Int32))), .val (.int (8 : Int32)), .val (.int (1 : Int32))] [(.ref b1)]))
      refine own_st ?_ (fun t k => XS.iload X34.here hx rfl (hb hby at_194) rfl k)
      show own_G p.tables e below _ _ (T34.setTop (mkF m 196 #[.val (.int p0), .val (.int p1), .val (.ref b1), .val (.int (0 : Int32)), .val (.int (1 : Int32)), .val (.int (2 : Int32)), .val (.int (3 : Int32)), .val (.int (4 : Int32)), .val (.int (5 : Int32)), .val (.int (6 : Int32)), .val (.int (7 : Int32)), .val (.int (0 : Int32)), .val (.int (p0 &&& (7 : Int32))), .val (.int (p1 &&& (7 : Int32))), .val (.int (8 : Int32)), .val (.int (1 : Int32))] [(.int (p1 &&& (7 : Int32))), (.ref b1)]))
      obtain ⟨cq35, kq35, q35a, q35b, q35c⟩ := isOf hZ e34 F31_E
      obtain ⟨_, _, ⟨T35, L35, k35, n35⟩, -, X35, ⟨Lc35, hQ35, l35, y35, z35⟩, st35⟩ := X34.virtualBack hx (y := (⟨"com/example/supplant/supplant/automata/TransducerBuilder", "isFinal", "(I)Z"⟩ : MethodName)) (z := (⟨"com/example/supplant/supplant/automata/TransducerBuilder", "isFinal", "(I)Z"⟩ : MethodName)) hown (mvT hZ (hw _ (List.mem_of_getElem? (i := 65) rfl))) (mvT hZ (hw _ (List.mem_of_getElem? (i := 66) rfl))) (notFace_of_selects (args := #[]) (mvT hZ (hw _ (List.mem_of_getElem? (i := 68) rfl)))) (mvT hZ (hw _ (List.mem_of_getElem? (i := 68) rfl))) (mvT hZ (hw _ (List.mem_of_getElem? (i := 67) rfl))) (by decide) (backOf (W := 0) (rm10 l Z _ hw [] b1 (p1 &&& (7 : Int32)) t30 (16 : Int32) (fun _ => 0) (0 : Int32) T30.heap n0 Zs32 Ff30 V30 (own_mask7 p1).1 (Nat.lt_trans (own_mask7 p1).2 (by decide)) rfl (by decide)) hZ (hw _ (List.mem_of_getElem? (i := 69) rfl)) (hw _ (List.mem_of_getElem? (i := 2) rfl)) (by decide) (by decide)) q35a q35c (g := (mkF m 196 #[.val (.int p0), .val (.int p1), .val (.ref b1), .val (.int (0 : Int32)), .val (.int (1 : Int32)), .val (.int (2 : Int32)), .val (.int (3 : Int32)), .val (.int (4 : Int32)), .val (.int (5 : Int32)), .val (.int (6 : Int32)), .val (.int (7 : Int32)), .val (.int (0 : Int32)), .val (.int (p0 &&& (7 : Int32))), .val (.int (p1 &&& (7 : Int32))), .val (.int (8 : Int32)), .val (.int (1 : Int32))] [(.int (p1 &&& (7 : Int32))), (.ref b1)])) rfl (by rw [hml]; rfl) (Steps.refl _) (argsL := [(.int (p1 &&& (7 : Int32)))]) (rest := []) (lenOf pd_7 rfl) rfl (by show 2 * 0 + _ ≤ _; exact Nat.le_of_eq rfl) (hb hby at_196) (fun _ _ => ⟨rfl, e34, (by decide : 6 + 0 ≤ _), (by decide : 66 + 0 ≤ _)⟩)
      dsimp only [Pt.U, Pt.locs, Pt.cells, Pt.slots] at X35 l35 y35 z35 st35 hQ35
      subst l35 y35 z35
      obtain ⟨rfl, N35q, e35⟩ := hQ35
      have N35 := Fr.app N34 N35q
      refine own_st ?_ (fun t k => st35.trans k)
      show own_G p.tables e below _ _ (T35.setTop (mkF m 199 #[.val (.int p0), .val (.int p1), .val (.ref b1), .val (.int (0 : Int32)), .val (.int (1 : Int32)), .val (.int (2 : Int32)), .val (.int (3 : Int32)), .val (.int (4 : Int32)), .val (.int (5 : Int32)), .val (.int (6 : Int32)), .val (.int (7 : Int32)), .val (.int (0 : Int32)), .val (.int (p0 &&& (7 : Int32))), .val (.int (p1 &&& (7 : Int32))), .val (.int (8 : Int32)), .val (.int (1 : Int32))] [(.int (0 : Int32))]))
      refine own_st ?_ (fun t k => XS.iload X35.here hx rfl (hb hby at_199) rfl k)
      show own_G p.tables e below _ _ (T35.setTop (mkF m 201 #[.val (.int p0), .val (.int p1), .val (.ref b1), .val (.int (0 : Int32)), .val (.int (1 : Int32)), .val (.int (2 : Int32)), .val (.int (3 : Int32)), .val (.int (4 : Int32)), .val (.int (5 : Int32)), .val (.int (6 : Int32)), .val (.int (7 : Int32)), .val (.int (0 : Int32)), .val (.int (p0 &&& (7 : Int32))), .val (.int (p1 &&& (7 : Int32))), .val (.int (8 : Int32)), .val (.int (1 : Int32))] [(.int (0 : Int32)), (.int (0 : Int32))]))
      refine own_st ?_ (fun t k => XS.ifYes X35.here hx rfl (pc0 := 201) (pc' := 215) rfl (hb hby at_201) rfl ((if0 _ _).trans (teq (by decide : (0 : Int32) = (0 : Int32))).1) (by decide) (by decide) k)
      show own_G p.tables e below _ _ (T35.setTop (mkF m 215 #[.val (.int p0), .val (.int p1), .val (.ref b1), .val (.int (0 : Int32)), .val (.int (1 : Int32)), .val (.int (2 : Int32)), .val (.int (3 : Int32)), .val (.int (4 : Int32)), .val (.int (5 : Int32)), .val (.int (6 : Int32)), .val (.int (7 : Int32)), .val (.int (0 : Int32)), .val (.int (p0 &&& (7 : Int32))), .val (.int (p1 &&& (7 : Int32))), .val (.int (8 : Int32)), .val (.int (1 : Int32))] [(.int (0 : Int32))]))
      refine own_st ?_ (fun t k => XS.iconst X35.here hx rfl (hb hby at_215) k)
      show own_G p.tables e below _ _ (T35.setTop (mkF m 216 #[.val (.int p0), .val (.int p1), .val (.ref b1), .val (.int (0 : Int32)), .val (.int (1 : Int32)), .val (.int (2 : Int32)), .val (.int (3 : Int32)), .val (.int (4 : Int32)), .val (.int (5 : Int32)), .val (.int (6 : Int32)), .val (.int (7 : Int32)), .val (.int (0 : Int32)), .val (.int (p0 &&& (7 : Int32))), .val (.int (p1 &&& (7 : Int32))), .val (.int (8 : Int32)), .val (.int (1 : Int32))] [(.int (0 : Int32)), (.int (0 : Int32))]))
      refine own_st ?_ (fun t k => XS.icmpYes X35.here hx rfl (pc0 := 216) (pc' := 221) rfl (hb hby at_216) rfl (teq (by decide : (0 : Int32) = (0 : Int32))).1 (by decide) (by decide) k)
      show own_G p.tables e below _ _ (T35.setTop (mkF m 221 #[.val (.int p0), .val (.int p1), .val (.ref b1), .val (.int (0 : Int32)), .val (.int (1 : Int32)), .val (.int (2 : Int32)), .val (.int (3 : Int32)), .val (.int (4 : Int32)), .val (.int (5 : Int32)), .val (.int (6 : Int32)), .val (.int (7 : Int32)), .val (.int (0 : Int32)), .val (.int (p0 &&& (7 : Int32))), .val (.int (p1 &&& (7 : Int32))), .val (.int (8 : Int32)), .val (.int (1 : Int32))] []))
      refine own_st ?_ (fun t k => XS.aloadN X35.here hx rfl (hb hby at_221) rfl rfl k)
      show own_G p.tables e below _ _ (T35.setTop (mkF m 222 #[.val (.int p0), .val (.int p1), .val (.ref b1), .val (.int (0 : Int32)), .val (.int (1 : Int32)), .val (.int (2 : Int32)), .val (.int (3 : Int32)), .val (.int (4 : Int32)), .val (.int (5 : Int32)), .val (.int (6 : Int32)), .val (.int (7 : Int32)), .val (.int (0 : Int32)), .val (.int (p0 &&& (7 : Int32))), .val (.int (p1 &&& (7 : Int32))), .val (.int (8 : Int32)), .val (.int (1 : Int32))] [(.ref b1)]))
      refine own_st ?_ (fun t k => XS.bipush X35.here hx rfl (hb hby at_222) k)
      show own_G p.tables e below _ _ (T35.setTop (mkF m 224 #[.val (.int p0), .val (.int p1), .val (.ref b1), .val (.int (0 : Int32)), .val (.int (1 : Int32)), .val (.int (2 : Int32)), .val (.int (3 : Int32)), .val (.int (4 : Int32)), .val (.int (5 : Int32)), .val (.int (6 : Int32)), .val (.int (7 : Int32)), .val (.int (0 : Int32)), .val (.int (p0 &&& (7 : Int32))), .val (.int (p1 &&& (7 : Int32))), .val (.int (8 : Int32)), .val (.int (1 : Int32))] [(.int (8 : Int32)), (.ref b1)]))
      obtain ⟨cq36, kq36, q36a, q36b, q36c⟩ := isOf hZ e35 F31_E
      obtain ⟨_, _, ⟨T36, L36, k36, n36⟩, -, X36, ⟨Lc36, hQ36, l36, y36, z36⟩, st36⟩ := X35.virtualBack hx (y := (⟨"com/example/supplant/supplant/automata/TransducerBuilder", "isFinal", "(I)Z"⟩ : MethodName)) (z := (⟨"com/example/supplant/supplant/automata/TransducerBuilder", "isFinal", "(I)Z"⟩ : MethodName)) hown (mvT hZ (hw _ (List.mem_of_getElem? (i := 65) rfl))) (mvT hZ (hw _ (List.mem_of_getElem? (i := 66) rfl))) (notFace_of_selects (args := #[]) (mvT hZ (hw _ (List.mem_of_getElem? (i := 68) rfl)))) (mvT hZ (hw _ (List.mem_of_getElem? (i := 68) rfl))) (mvT hZ (hw _ (List.mem_of_getElem? (i := 67) rfl))) (by decide) (backOf (W := 0) (rm10 l Z _ hw [] b1 (8 : Int32) t30 (16 : Int32) (fun _ => 0) (0 : Int32) T30.heap n0 Zs32 Ff30 V30 (by decide) (by decide) rfl (by decide)) hZ (hw _ (List.mem_of_getElem? (i := 69) rfl)) (hw _ (List.mem_of_getElem? (i := 2) rfl)) (by decide) (by decide)) q36a q36c (g := (mkF m 224 #[.val (.int p0), .val (.int p1), .val (.ref b1), .val (.int (0 : Int32)), .val (.int (1 : Int32)), .val (.int (2 : Int32)), .val (.int (3 : Int32)), .val (.int (4 : Int32)), .val (.int (5 : Int32)), .val (.int (6 : Int32)), .val (.int (7 : Int32)), .val (.int (0 : Int32)), .val (.int (p0 &&& (7 : Int32))), .val (.int (p1 &&& (7 : Int32))), .val (.int (8 : Int32)), .val (.int (1 : Int32))] [(.int (8 : Int32)), (.ref b1)])) rfl (by rw [hml]; rfl) (Steps.refl _) (argsL := [(.int (8 : Int32))]) (rest := []) (lenOf pd_7 rfl) rfl (by show 2 * 0 + _ ≤ _; exact Nat.le_of_eq rfl) (hb hby at_224) (fun _ _ => ⟨rfl, e35, (by decide : 6 + 0 ≤ _), (by decide : 66 + 0 ≤ _)⟩)
      dsimp only [Pt.U, Pt.locs, Pt.cells, Pt.slots] at X36 l36 y36 z36 st36 hQ36
      subst l36 y36 z36
      obtain ⟨rfl, N36q, e36⟩ := hQ36
      have N36 := Fr.app N35 N36q
      refine own_st ?_ (fun t k => st36.trans k)
      show own_G p.tables e below _ _ (T36.setTop (mkF m 227 #[.val (.int p0), .val (.int p1), .val (.ref b1), .val (.int (0 : Int32)), .val (.int (1 : Int32)), .val (.int (2 : Int32)), .val (.int (3 : Int32)), .val (.int (4 : Int32)), .val (.int (5 : Int32)), .val (.int (6 : Int32)), .val (.int (7 : Int32)), .val (.int (0 : Int32)), .val (.int (p0 &&& (7 : Int32))), .val (.int (p1 &&& (7 : Int32))), .val (.int (8 : Int32)), .val (.int (1 : Int32))] [(.int (0 : Int32))]))
      refine own_st ?_ (fun t k => XS.ifNo X36.here hx rfl (hb hby at_227) rfl ((if0 _ _).trans (teq (by decide : (0 : Int32) = (0 : Int32))).2) k)
      show own_G p.tables e below _ _ (T36.setTop (mkF m 230 #[.val (.int p0), .val (.int p1), .val (.ref b1), .val (.int (0 : Int32)), .val (.int (1 : Int32)), .val (.int (2 : Int32)), .val (.int (3 : Int32)), .val (.int (4 : Int32)), .val (.int (5 : Int32)), .val (.int (6 : Int32)), .val (.int (7 : Int32)), .val (.int (0 : Int32)), .val (.int (p0 &&& (7 : Int32))), .val (.int (p1 &&& (7 : Int32))), .val (.int (8 : Int32)), .val (.int (1 : Int32))] []))
      refine own_st ?_ (fun t k => XS.iconst X36.here hx rfl (hb hby at_230) k)
      show own_G p.tables e below _ _ (T36.setTop (mkF m 231 #[.val (.int p0), .val (.int p1), .val (.ref b1), .val (.int (0 : Int32)), .val (.int (1 : Int32)), .val (.int (2 : Int32)), .val (.int (3 : Int32)), .val (.int (4 : Int32)), .val (.int (5 : Int32)), .val (.int (6 : Int32)), .val (.int (7 : Int32)), .val (.int (0 : Int32)), .val (.int (p0 &&& (7 : Int32))), .val (.int (p1 &&& (7 : Int32))), .val (.int (8 : Int32)), .val (.int (1 : Int32))] [(.int (1 : Int32))]))
      refine own_st ?_ (fun t k => XS.goto X36.here hx rfl (pc0 := 231) (pc' := 235) rfl (hb hby at_231) (by decide) (by decide) k)
      show own_G p.tables e below _ _ (T36.setTop (mkF m 235 #[.val (.int p0), .val (.int p1), .val (.ref b1), .val (.int (0 : Int32)), .val (.int (1 : Int32)), .val (.int (2 : Int32)), .val (.int (3 : Int32)), .val (.int (4 : Int32)), .val (.int (5 : Int32)), .val (.int (6 : Int32)), .val (.int (7 : Int32)), .val (.int (0 : Int32)), .val (.int (p0 &&& (7 : Int32))), .val (.int (p1 &&& (7 : Int32))), .val (.int (8 : Int32)), .val (.int (1 : Int32))] [(.int (1 : Int32))]))
      exact own_retN X36 hx hlk (t := .boolean) hret (by simp) (hb hby at_235) (by decide) (by decide) (z' := (1 : Int32)) rfl ⟨rfl, N36⟩
    · refine own_st ?_ (fun t k => XS.aloadN X34.here hx rfl (hb hby at_193) rfl rfl k)
      show own_G p.tables e below _ _ (T34.setTop (mkF m 194 #[.val (.int p0), .val (.int p1), .val (.ref b1), .val (.int (0 : Int32)), .val (.int (1 : Int32)), .val (.int (2 : Int32)), .val (.int (3 : Int32)), .val (.int (4 : Int32)), .val (.int (5 : Int32)), .val (.int (6 : Int32)), .val (.int (7 : Int32)), .val (.int (0 : Int32)), .val (.int (p0 &&& (7 : Int32))), .val (.int (p1 &&& (7 : Int32))), .val (.int (8 : Int32)), .val (.int (1 : Int32))] [(.ref b1)]))
      refine own_st ?_ (fun t k => XS.iload X34.here hx rfl (hb hby at_194) rfl k)
      show own_G p.tables e below _ _ (T34.setTop (mkF m 196 #[.val (.int p0), .val (.int p1), .val (.ref b1), .val (.int (0 : Int32)), .val (.int (1 : Int32)), .val (.int (2 : Int32)), .val (.int (3 : Int32)), .val (.int (4 : Int32)), .val (.int (5 : Int32)), .val (.int (6 : Int32)), .val (.int (7 : Int32)), .val (.int (0 : Int32)), .val (.int (p0 &&& (7 : Int32))), .val (.int (p1 &&& (7 : Int32))), .val (.int (8 : Int32)), .val (.int (1 : Int32))] [(.int (p1 &&& (7 : Int32))), (.ref b1)]))
      obtain ⟨cq37, kq37, q37a, q37b, q37c⟩ := isOf hZ e34 F31_E
      obtain ⟨_, _, ⟨T37, L37, k37, n37⟩, -, X37, ⟨Lc37, hQ37, l37, y37, z37⟩, st37⟩ := X34.virtualBack hx (y := (⟨"com/example/supplant/supplant/automata/TransducerBuilder", "isFinal", "(I)Z"⟩ : MethodName)) (z := (⟨"com/example/supplant/supplant/automata/TransducerBuilder", "isFinal", "(I)Z"⟩ : MethodName)) hown (mvT hZ (hw _ (List.mem_of_getElem? (i := 65) rfl))) (mvT hZ (hw _ (List.mem_of_getElem? (i := 66) rfl))) (notFace_of_selects (args := #[]) (mvT hZ (hw _ (List.mem_of_getElem? (i := 68) rfl)))) (mvT hZ (hw _ (List.mem_of_getElem? (i := 68) rfl))) (mvT hZ (hw _ (List.mem_of_getElem? (i := 67) rfl))) (by decide) (backOf (W := 0) (rm10 l Z _ hw [] b1 (p1 &&& (7 : Int32)) t30 (16 : Int32) (fun _ => 0) (0 : Int32) T30.heap n0 Zs32 Ff30 V30 (own_mask7 p1).1 (Nat.lt_trans (own_mask7 p1).2 (by decide)) rfl (by decide)) hZ (hw _ (List.mem_of_getElem? (i := 69) rfl)) (hw _ (List.mem_of_getElem? (i := 2) rfl)) (by decide) (by decide)) q37a q37c (g := (mkF m 196 #[.val (.int p0), .val (.int p1), .val (.ref b1), .val (.int (0 : Int32)), .val (.int (1 : Int32)), .val (.int (2 : Int32)), .val (.int (3 : Int32)), .val (.int (4 : Int32)), .val (.int (5 : Int32)), .val (.int (6 : Int32)), .val (.int (7 : Int32)), .val (.int (0 : Int32)), .val (.int (p0 &&& (7 : Int32))), .val (.int (p1 &&& (7 : Int32))), .val (.int (8 : Int32)), .val (.int (1 : Int32))] [(.int (p1 &&& (7 : Int32))), (.ref b1)])) rfl (by rw [hml]; rfl) (Steps.refl _) (argsL := [(.int (p1 &&& (7 : Int32)))]) (rest := []) (lenOf pd_7 rfl) rfl (by show 2 * 0 + _ ≤ _; exact Nat.le_of_eq rfl) (hb hby at_196) (fun _ _ => ⟨rfl, e34, (by decide : 6 + 0 ≤ _), (by decide : 66 + 0 ≤ _)⟩)
      dsimp only [Pt.U, Pt.locs, Pt.cells, Pt.slots] at X37 l37 y37 z37 st37 hQ37
      subst l37 y37 z37
      obtain ⟨rfl, N37q, e37⟩ := hQ37
      have N37 := Fr.app N34 N37q
      refine own_st ?_ (fun t k => st37.trans k)
      show own_G p.tables e below _ _ (T37.setTop (mkF m 199 #[.val (.int p0), .val (.int p1), .val (.ref b1), .val (.int (0 : Int32)), .val (.int (1 : Int32)), .val (.int (2 : Int32)), .val (.int (3 : Int32)), .val (.int (4 : Int32)), .val (.int (5 : Int32)), .val (.int (6 : Int32)), .val (.int (7 : Int32)), .val (.int (0 : Int32)), .val (.int (p0 &&& (7 : Int32))), .val (.int (p1 &&& (7 : Int32))), .val (.int (8 : Int32)), .val (.int (1 : Int32))] [(.int (0 : Int32))]))
      refine own_st ?_ (fun t k => XS.iload X37.here hx rfl (hb hby at_199) rfl k)
      show own_G p.tables e below _ _ (T37.setTop (mkF m 201 #[.val (.int p0), .val (.int p1), .val (.ref b1), .val (.int (0 : Int32)), .val (.int (1 : Int32)), .val (.int (2 : Int32)), .val (.int (3 : Int32)), .val (.int (4 : Int32)), .val (.int (5 : Int32)), .val (.int (6 : Int32)), .val (.int (7 : Int32)), .val (.int (0 : Int32)), .val (.int (p0 &&& (7 : Int32))), .val (.int (p1 &&& (7 : Int32))), .val (.int (8 : Int32)), .val (.int (1 : Int32))] [(.int (0 : Int32)), (.int (0 : Int32))]))
      refine own_st ?_ (fun t k => XS.ifYes X37.here hx rfl (pc0 := 201) (pc' := 215) rfl (hb hby at_201) rfl ((if0 _ _).trans (teq (by decide : (0 : Int32) = (0 : Int32))).1) (by decide) (by decide) k)
      show own_G p.tables e below _ _ (T37.setTop (mkF m 215 #[.val (.int p0), .val (.int p1), .val (.ref b1), .val (.int (0 : Int32)), .val (.int (1 : Int32)), .val (.int (2 : Int32)), .val (.int (3 : Int32)), .val (.int (4 : Int32)), .val (.int (5 : Int32)), .val (.int (6 : Int32)), .val (.int (7 : Int32)), .val (.int (0 : Int32)), .val (.int (p0 &&& (7 : Int32))), .val (.int (p1 &&& (7 : Int32))), .val (.int (8 : Int32)), .val (.int (1 : Int32))] [(.int (0 : Int32))]))
      refine own_st ?_ (fun t k => XS.iconst X37.here hx rfl (hb hby at_215) k)
      show own_G p.tables e below _ _ (T37.setTop (mkF m 216 #[.val (.int p0), .val (.int p1), .val (.ref b1), .val (.int (0 : Int32)), .val (.int (1 : Int32)), .val (.int (2 : Int32)), .val (.int (3 : Int32)), .val (.int (4 : Int32)), .val (.int (5 : Int32)), .val (.int (6 : Int32)), .val (.int (7 : Int32)), .val (.int (0 : Int32)), .val (.int (p0 &&& (7 : Int32))), .val (.int (p1 &&& (7 : Int32))), .val (.int (8 : Int32)), .val (.int (1 : Int32))] [(.int (0 : Int32)), (.int (0 : Int32))]))
      refine own_st ?_ (fun t k => XS.icmpYes X37.here hx rfl (pc0 := 216) (pc' := 221) rfl (hb hby at_216) rfl (teq (by decide : (0 : Int32) = (0 : Int32))).1 (by decide) (by decide) k)
      show own_G p.tables e below _ _ (T37.setTop (mkF m 221 #[.val (.int p0), .val (.int p1), .val (.ref b1), .val (.int (0 : Int32)), .val (.int (1 : Int32)), .val (.int (2 : Int32)), .val (.int (3 : Int32)), .val (.int (4 : Int32)), .val (.int (5 : Int32)), .val (.int (6 : Int32)), .val (.int (7 : Int32)), .val (.int (0 : Int32)), .val (.int (p0 &&& (7 : Int32))), .val (.int (p1 &&& (7 : Int32))), .val (.int (8 : Int32)), .val (.int (1 : Int32))] []))
      refine own_st ?_ (fun t k => XS.aloadN X37.here hx rfl (hb hby at_221) rfl rfl k)
      show own_G p.tables e below _ _ (T37.setTop (mkF m 222 #[.val (.int p0), .val (.int p1), .val (.ref b1), .val (.int (0 : Int32)), .val (.int (1 : Int32)), .val (.int (2 : Int32)), .val (.int (3 : Int32)), .val (.int (4 : Int32)), .val (.int (5 : Int32)), .val (.int (6 : Int32)), .val (.int (7 : Int32)), .val (.int (0 : Int32)), .val (.int (p0 &&& (7 : Int32))), .val (.int (p1 &&& (7 : Int32))), .val (.int (8 : Int32)), .val (.int (1 : Int32))] [(.ref b1)]))
      refine own_st ?_ (fun t k => XS.bipush X37.here hx rfl (hb hby at_222) k)
      show own_G p.tables e below _ _ (T37.setTop (mkF m 224 #[.val (.int p0), .val (.int p1), .val (.ref b1), .val (.int (0 : Int32)), .val (.int (1 : Int32)), .val (.int (2 : Int32)), .val (.int (3 : Int32)), .val (.int (4 : Int32)), .val (.int (5 : Int32)), .val (.int (6 : Int32)), .val (.int (7 : Int32)), .val (.int (0 : Int32)), .val (.int (p0 &&& (7 : Int32))), .val (.int (p1 &&& (7 : Int32))), .val (.int (8 : Int32)), .val (.int (1 : Int32))] [(.int (8 : Int32)), (.ref b1)]))
      obtain ⟨cq38, kq38, q38a, q38b, q38c⟩ := isOf hZ e37 F31_E
      obtain ⟨_, _, ⟨T38, L38, k38, n38⟩, -, X38, ⟨Lc38, hQ38, l38, y38, z38⟩, st38⟩ := X37.virtualBack hx (y := (⟨"com/example/supplant/supplant/automata/TransducerBuilder", "isFinal", "(I)Z"⟩ : MethodName)) (z := (⟨"com/example/supplant/supplant/automata/TransducerBuilder", "isFinal", "(I)Z"⟩ : MethodName)) hown (mvT hZ (hw _ (List.mem_of_getElem? (i := 65) rfl))) (mvT hZ (hw _ (List.mem_of_getElem? (i := 66) rfl))) (notFace_of_selects (args := #[]) (mvT hZ (hw _ (List.mem_of_getElem? (i := 68) rfl)))) (mvT hZ (hw _ (List.mem_of_getElem? (i := 68) rfl))) (mvT hZ (hw _ (List.mem_of_getElem? (i := 67) rfl))) (by decide) (backOf (W := 0) (rm10 l Z _ hw [] b1 (8 : Int32) t30 (16 : Int32) (fun _ => 0) (0 : Int32) T30.heap n0 Zs32 Ff30 V30 (by decide) (by decide) rfl (by decide)) hZ (hw _ (List.mem_of_getElem? (i := 69) rfl)) (hw _ (List.mem_of_getElem? (i := 2) rfl)) (by decide) (by decide)) q38a q38c (g := (mkF m 224 #[.val (.int p0), .val (.int p1), .val (.ref b1), .val (.int (0 : Int32)), .val (.int (1 : Int32)), .val (.int (2 : Int32)), .val (.int (3 : Int32)), .val (.int (4 : Int32)), .val (.int (5 : Int32)), .val (.int (6 : Int32)), .val (.int (7 : Int32)), .val (.int (0 : Int32)), .val (.int (p0 &&& (7 : Int32))), .val (.int (p1 &&& (7 : Int32))), .val (.int (8 : Int32)), .val (.int (1 : Int32))] [(.int (8 : Int32)), (.ref b1)])) rfl (by rw [hml]; rfl) (Steps.refl _) (argsL := [(.int (8 : Int32))]) (rest := []) (lenOf pd_7 rfl) rfl (by show 2 * 0 + _ ≤ _; exact Nat.le_of_eq rfl) (hb hby at_224) (fun _ _ => ⟨rfl, e37, (by decide : 6 + 0 ≤ _), (by decide : 66 + 0 ≤ _)⟩)
      dsimp only [Pt.U, Pt.locs, Pt.cells, Pt.slots] at X38 l38 y38 z38 st38 hQ38
      subst l38 y38 z38
      obtain ⟨rfl, N38q, e38⟩ := hQ38
      have N38 := Fr.app N37 N38q
      refine own_st ?_ (fun t k => st38.trans k)
      show own_G p.tables e below _ _ (T38.setTop (mkF m 227 #[.val (.int p0), .val (.int p1), .val (.ref b1), .val (.int (0 : Int32)), .val (.int (1 : Int32)), .val (.int (2 : Int32)), .val (.int (3 : Int32)), .val (.int (4 : Int32)), .val (.int (5 : Int32)), .val (.int (6 : Int32)), .val (.int (7 : Int32)), .val (.int (0 : Int32)), .val (.int (p0 &&& (7 : Int32))), .val (.int (p1 &&& (7 : Int32))), .val (.int (8 : Int32)), .val (.int (1 : Int32))] [(.int (0 : Int32))]))
      refine own_st ?_ (fun t k => XS.ifNo X38.here hx rfl (hb hby at_227) rfl ((if0 _ _).trans (teq (by decide : (0 : Int32) = (0 : Int32))).2) k)
      show own_G p.tables e below _ _ (T38.setTop (mkF m 230 #[.val (.int p0), .val (.int p1), .val (.ref b1), .val (.int (0 : Int32)), .val (.int (1 : Int32)), .val (.int (2 : Int32)), .val (.int (3 : Int32)), .val (.int (4 : Int32)), .val (.int (5 : Int32)), .val (.int (6 : Int32)), .val (.int (7 : Int32)), .val (.int (0 : Int32)), .val (.int (p0 &&& (7 : Int32))), .val (.int (p1 &&& (7 : Int32))), .val (.int (8 : Int32)), .val (.int (1 : Int32))] []))
      refine own_st ?_ (fun t k => XS.iconst X38.here hx rfl (hb hby at_230) k)
      show own_G p.tables e below _ _ (T38.setTop (mkF m 231 #[.val (.int p0), .val (.int p1), .val (.ref b1), .val (.int (0 : Int32)), .val (.int (1 : Int32)), .val (.int (2 : Int32)), .val (.int (3 : Int32)), .val (.int (4 : Int32)), .val (.int (5 : Int32)), .val (.int (6 : Int32)), .val (.int (7 : Int32)), .val (.int (0 : Int32)), .val (.int (p0 &&& (7 : Int32))), .val (.int (p1 &&& (7 : Int32))), .val (.int (8 : Int32)), .val (.int (1 : Int32))] [(.int (1 : Int32))]))
      refine own_st ?_ (fun t k => XS.goto X38.here hx rfl (pc0 := 231) (pc' := 235) rfl (hb hby at_231) (by decide) (by decide) k)
      show own_G p.tables e below _ _ (T38.setTop (mkF m 235 #[.val (.int p0), .val (.int p1), .val (.ref b1), .val (.int (0 : Int32)), .val (.int (1 : Int32)), .val (.int (2 : Int32)), .val (.int (3 : Int32)), .val (.int (4 : Int32)), .val (.int (5 : Int32)), .val (.int (6 : Int32)), .val (.int (7 : Int32)), .val (.int (0 : Int32)), .val (.int (p0 &&& (7 : Int32))), .val (.int (p1 &&& (7 : Int32))), .val (.int (8 : Int32)), .val (.int (1 : Int32))] [(.int (1 : Int32))]))
      exact own_retN X38 hx hlk (t := .boolean) hret (by simp) (hb hby at_235) (by decide) (by decide) (z' := (1 : Int32)) rfl ⟨rfl, N38⟩
  · refine own_st ?_ (fun t k => XS.ifNo X27.here hx rfl (hb hby at_60) rfl ((if0 _ _).trans (feq hc60).1) k)
    show own_G p.tables e below _ _ (T27.setTop (mkF m 63 #[.val (.int p0), .val (.int p1), .val (.ref b1), .val (.int (0 : Int32)), .val (.int (1 : Int32)), .val (.int (2 : Int32)), .val (.int (3 : Int32)), .val (.int (4 : Int32)), .val (.int (5 : Int32)), .val (.int (6 : Int32)), .val (.int (7 : Int32)), .unset, .unset, .unset, .unset, .unset] []))
    refine own_st ?_ (fun t k => XS.iconst X27.here hx rfl (hb hby at_63) k)
    show own_G p.tables e below _ _ (T27.setTop (mkF m 64 #[.val (.int p0), .val (.int p1), .val (.ref b1), .val (.int (0 : Int32)), .val (.int (1 : Int32)), .val (.int (2 : Int32)), .val (.int (3 : Int32)), .val (.int (4 : Int32)), .val (.int (5 : Int32)), .val (.int (6 : Int32)), .val (.int (7 : Int32)), .unset, .unset, .unset, .unset, .unset] [(.int (1 : Int32))]))
    refine own_st ?_ (fun t k => XS.goto X27.here hx rfl (pc0 := 64) (pc' := 68) rfl (hb hby at_64) (by decide) (by decide) k)
    show own_G p.tables e below _ _ (T27.setTop (mkF m 68 #[.val (.int p0), .val (.int p1), .val (.ref b1), .val (.int (0 : Int32)), .val (.int (1 : Int32)), .val (.int (2 : Int32)), .val (.int (3 : Int32)), .val (.int (4 : Int32)), .val (.int (5 : Int32)), .val (.int (6 : Int32)), .val (.int (7 : Int32)), .unset, .unset, .unset, .unset, .unset] [(.int (1 : Int32))]))
    refine own_st ?_ (fun t k => XS.istore X27.here hx rfl (hb hby at_68) rfl (l' := #[.val (.int p0), .val (.int p1), .val (.ref b1), .val (.int (0 : Int32)), .val (.int (1 : Int32)), .val (.int (2 : Int32)), .val (.int (3 : Int32)), .val (.int (4 : Int32)), .val (.int (5 : Int32)), .val (.int (6 : Int32)), .val (.int (7 : Int32)), .val (.int (1 : Int32)), .unset, .unset, .unset, .unset]) rfl k)
    show own_G p.tables e below _ _ (T27.setTop (mkF m 70 #[.val (.int p0), .val (.int p1), .val (.ref b1), .val (.int (0 : Int32)), .val (.int (1 : Int32)), .val (.int (2 : Int32)), .val (.int (3 : Int32)), .val (.int (4 : Int32)), .val (.int (5 : Int32)), .val (.int (6 : Int32)), .val (.int (7 : Int32)), .val (.int (1 : Int32)), .unset, .unset, .unset, .unset] []))
    refine own_st ?_ (fun t k => XS.iloadN X27.here hx rfl (hb hby at_70) rfl k)
    show own_G p.tables e below _ _ (T27.setTop (mkF m 71 #[.val (.int p0), .val (.int p1), .val (.ref b1), .val (.int (0 : Int32)), .val (.int (1 : Int32)), .val (.int (2 : Int32)), .val (.int (3 : Int32)), .val (.int (4 : Int32)), .val (.int (5 : Int32)), .val (.int (6 : Int32)), .val (.int (7 : Int32)), .val (.int (1 : Int32)), .unset, .unset, .unset, .unset] [(.int p0)]))
    refine own_st ?_ (fun t k => XS.bipush X27.here hx rfl (hb hby at_71) k)
    show own_G p.tables e below _ _ (T27.setTop (mkF m 73 #[.val (.int p0), .val (.int p1), .val (.ref b1), .val (.int (0 : Int32)), .val (.int (1 : Int32)), .val (.int (2 : Int32)), .val (.int (3 : Int32)), .val (.int (4 : Int32)), .val (.int (5 : Int32)), .val (.int (6 : Int32)), .val (.int (7 : Int32)), .val (.int (1 : Int32)), .unset, .unset, .unset, .unset] [(.int (7 : Int32)), (.int p0)]))
    refine own_st ?_ (fun t k => XS.iand X27.here hx rfl (hb hby at_73) rfl k)
    show own_G p.tables e below _ _ (T27.setTop (mkF m 74 #[.val (.int p0), .val (.int p1), .val (.ref b1), .val (.int (0 : Int32)), .val (.int (1 : Int32)), .val (.int (2 : Int32)), .val (.int (3 : Int32)), .val (.int (4 : Int32)), .val (.int (5 : Int32)), .val (.int (6 : Int32)), .val (.int (7 : Int32)), .val (.int (1 : Int32)), .unset, .unset, .unset, .unset] [(.int (p0 &&& (7 : Int32)))]))
    refine own_st ?_ (fun t k => XS.istore X27.here hx rfl (hb hby at_74) rfl (l' := #[.val (.int p0), .val (.int p1), .val (.ref b1), .val (.int (0 : Int32)), .val (.int (1 : Int32)), .val (.int (2 : Int32)), .val (.int (3 : Int32)), .val (.int (4 : Int32)), .val (.int (5 : Int32)), .val (.int (6 : Int32)), .val (.int (7 : Int32)), .val (.int (1 : Int32)), .val (.int (p0 &&& (7 : Int32))), .unset, .unset, .unset]) rfl k)
    show own_G p.tables e below _ _ (T27.setTop (mkF m 76 #[.val (.int p0), .val (.int p1), .val (.ref b1), .val (.int (0 : Int32)), .val (.int (1 : Int32)), .val (.int (2 : Int32)), .val (.int (3 : Int32)), .val (.int (4 : Int32)), .val (.int (5 : Int32)), .val (.int (6 : Int32)), .val (.int (7 : Int32)), .val (.int (1 : Int32)), .val (.int (p0 &&& (7 : Int32))), .unset, .unset, .unset] []))
    refine own_st ?_ (fun t k => XS.iloadN X27.here hx rfl (hb hby at_76) rfl k)
    show own_G p.tables e below _ _ (T27.setTop (mkF m 77 #[.val (.int p0), .val (.int p1), .val (.ref b1), .val (.int (0 : Int32)), .val (.int (1 : Int32)), .val (.int (2 : Int32)), .val (.int (3 : Int32)), .val (.int (4 : Int32)), .val (.int (5 : Int32)), .val (.int (6 : Int32)), .val (.int (7 : Int32)), .val (.int (1 : Int32)), .val (.int (p0 &&& (7 : Int32))), .unset, .unset, .unset] [(.int p1)]))
    refine own_st ?_ (fun t k => XS.bipush X27.here hx rfl (hb hby at_77) k)
    show own_G p.tables e below _ _ (T27.setTop (mkF m 79 #[.val (.int p0), .val (.int p1), .val (.ref b1), .val (.int (0 : Int32)), .val (.int (1 : Int32)), .val (.int (2 : Int32)), .val (.int (3 : Int32)), .val (.int (4 : Int32)), .val (.int (5 : Int32)), .val (.int (6 : Int32)), .val (.int (7 : Int32)), .val (.int (1 : Int32)), .val (.int (p0 &&& (7 : Int32))), .unset, .unset, .unset] [(.int (7 : Int32)), (.int p1)]))
    refine own_st ?_ (fun t k => XS.iand X27.here hx rfl (hb hby at_79) rfl k)
    show own_G p.tables e below _ _ (T27.setTop (mkF m 80 #[.val (.int p0), .val (.int p1), .val (.ref b1), .val (.int (0 : Int32)), .val (.int (1 : Int32)), .val (.int (2 : Int32)), .val (.int (3 : Int32)), .val (.int (4 : Int32)), .val (.int (5 : Int32)), .val (.int (6 : Int32)), .val (.int (7 : Int32)), .val (.int (1 : Int32)), .val (.int (p0 &&& (7 : Int32))), .unset, .unset, .unset] [(.int (p1 &&& (7 : Int32)))]))
    refine own_st ?_ (fun t k => XS.istore X27.here hx rfl (hb hby at_80) rfl (l' := #[.val (.int p0), .val (.int p1), .val (.ref b1), .val (.int (0 : Int32)), .val (.int (1 : Int32)), .val (.int (2 : Int32)), .val (.int (3 : Int32)), .val (.int (4 : Int32)), .val (.int (5 : Int32)), .val (.int (6 : Int32)), .val (.int (7 : Int32)), .val (.int (1 : Int32)), .val (.int (p0 &&& (7 : Int32))), .val (.int (p1 &&& (7 : Int32))), .unset, .unset]) rfl k)
    show own_G p.tables e below _ _ (T27.setTop (mkF m 82 #[.val (.int p0), .val (.int p1), .val (.ref b1), .val (.int (0 : Int32)), .val (.int (1 : Int32)), .val (.int (2 : Int32)), .val (.int (3 : Int32)), .val (.int (4 : Int32)), .val (.int (5 : Int32)), .val (.int (6 : Int32)), .val (.int (7 : Int32)), .val (.int (1 : Int32)), .val (.int (p0 &&& (7 : Int32))), .val (.int (p1 &&& (7 : Int32))), .unset, .unset] []))
    refine own_st ?_ (fun t k => XS.iload X27.here hx rfl (hb hby at_82) rfl k)
    show own_G p.tables e below _ _ (T27.setTop (mkF m 84 #[.val (.int p0), .val (.int p1), .val (.ref b1), .val (.int (0 : Int32)), .val (.int (1 : Int32)), .val (.int (2 : Int32)), .val (.int (3 : Int32)), .val (.int (4 : Int32)), .val (.int (5 : Int32)), .val (.int (6 : Int32)), .val (.int (7 : Int32)), .val (.int (1 : Int32)), .val (.int (p0 &&& (7 : Int32))), .val (.int (p1 &&& (7 : Int32))), .unset, .unset] [(.int (1 : Int32))]))
    refine own_st ?_ (fun t k => XS.ifNo X27.here hx rfl (hb hby at_84) rfl ((if0 _ _).trans (feq (by decide : ¬ ((1 : Int32) = (0 : Int32)))).1) k)
    show own_G p.tables e below _ _ (T27.setTop (mkF m 87 #[.val (.int p0), .val (.int p1), .val (.ref b1), .val (.int (0 : Int32)), .val (.int (1 : Int32)), .val (.int (2 : Int32)), .val (.int (3 : Int32)), .val (.int (4 : Int32)), .val (.int (5 : Int32)), .val (.int (6 : Int32)), .val (.int (7 : Int32)), .val (.int (1 : Int32)), .val (.int (p0 &&& (7 : Int32))), .val (.int (p1 &&& (7 : Int32))), .unset, .unset] []))
    refine own_st ?_ (fun t k => XS.aloadN X27.here hx rfl (hb hby at_87) rfl rfl k)
    show own_G p.tables e below _ _ (T27.setTop (mkF m 88 #[.val (.int p0), .val (.int p1), .val (.ref b1), .val (.int (0 : Int32)), .val (.int (1 : Int32)), .val (.int (2 : Int32)), .val (.int (3 : Int32)), .val (.int (4 : Int32)), .val (.int (5 : Int32)), .val (.int (6 : Int32)), .val (.int (7 : Int32)), .val (.int (1 : Int32)), .val (.int (p0 &&& (7 : Int32))), .val (.int (p1 &&& (7 : Int32))), .unset, .unset] [(.ref b1)]))
    refine own_st ?_ (fun t k => XS.iload X27.here hx rfl (hb hby at_88) rfl k)
    show own_G p.tables e below _ _ (T27.setTop (mkF m 90 #[.val (.int p0), .val (.int p1), .val (.ref b1), .val (.int (0 : Int32)), .val (.int (1 : Int32)), .val (.int (2 : Int32)), .val (.int (3 : Int32)), .val (.int (4 : Int32)), .val (.int (5 : Int32)), .val (.int (6 : Int32)), .val (.int (7 : Int32)), .val (.int (1 : Int32)), .val (.int (p0 &&& (7 : Int32))), .val (.int (p1 &&& (7 : Int32))), .unset, .unset] [(.int (p0 &&& (7 : Int32))), (.ref b1)]))
    refine own_st ?_ (fun t k => XS.iconst X27.here hx rfl (hb hby at_90) k)
    show own_G p.tables e below _ _ (T27.setTop (mkF m 91 #[.val (.int p0), .val (.int p1), .val (.ref b1), .val (.int (0 : Int32)), .val (.int (1 : Int32)), .val (.int (2 : Int32)), .val (.int (3 : Int32)), .val (.int (4 : Int32)), .val (.int (5 : Int32)), .val (.int (6 : Int32)), .val (.int (7 : Int32)), .val (.int (1 : Int32)), .val (.int (p0 &&& (7 : Int32))), .val (.int (p1 &&& (7 : Int32))), .unset, .unset] [(.int (1 : Int32)), (.int (p0 &&& (7 : Int32))), (.ref b1)]))
    obtain ⟨cq39, kq39, q39a, q39b, q39c⟩ := isOf hZ rfl F28_E
    obtain ⟨_, _, ⟨T39, L39, k39, n39⟩, -, X39, ⟨Lc39, hQ39, l39, y39, z39⟩, st39⟩ := X27.virtualBack hx (y := (⟨"com/example/supplant/supplant/automata/TransducerBuilder", "setFinal", "(IZ)V"⟩ : MethodName)) (z := (⟨"com/example/supplant/supplant/automata/TransducerBuilder", "setFinal", "(IZ)V"⟩ : MethodName)) hown (mvT hZ (hw _ (List.mem_of_getElem? (i := 70) rfl))) (mvT hZ (hw _ (List.mem_of_getElem? (i := 71) rfl))) (notFace_of_selects (args := #[]) (mvT hZ (hw _ (List.mem_of_getElem? (i := 73) rfl)))) (mvT hZ (hw _ (List.mem_of_getElem? (i := 73) rfl))) (mvT hZ (hw _ (List.mem_of_getElem? (i := 72) rfl))) (by decide) (backOf (W := 0) (rm11 l Z _ hw [] b1 (p0 &&& (7 : Int32)) t27 (fun _ => 0) T27.heap n0 Zs29 g_t27 Ff27 V27 hne27 (own_mask7 p0).1 (own_mask7 p0).2) hZ (hw _ (List.mem_of_getElem? (i := 74) rfl)) (hw _ (List.mem_of_getElem? (i := 2) rfl)) (by decide) (by decide)) q39a q39c (g := (mkF m 91 #[.val (.int p0), .val (.int p1), .val (.ref b1), .val (.int (0 : Int32)), .val (.int (1 : Int32)), .val (.int (2 : Int32)), .val (.int (3 : Int32)), .val (.int (4 : Int32)), .val (.int (5 : Int32)), .val (.int (6 : Int32)), .val (.int (7 : Int32)), .val (.int (1 : Int32)), .val (.int (p0 &&& (7 : Int32))), .val (.int (p1 &&& (7 : Int32))), .unset, .unset] [(.int (1 : Int32)), (.int (p0 &&& (7 : Int32))), (.ref b1)])) rfl (by rw [hml]; rfl) (Steps.refl _) (argsL := [(.int (p0 &&& (7 : Int32))), (.int (1 : Int32))]) (rest := []) (lenOf pd_8 rfl) rfl (by show 2 * 0 + _ ≤ _; exact Nat.le_of_eq rfl) (hb hby at_91) (fun _ _ => ⟨rfl, rfl, (by decide : 5 + 0 ≤ _), (by decide : 50 + 0 ≤ _)⟩)
    dsimp only [Pt.U, Pt.locs, Pt.cells, Pt.slots] at X39 l39 y39 z39 st39 hQ39
    subst l39 y39 z39
    obtain ⟨rfl, N39q, hq39⟩ := hQ39
    have N39 := Fr.app N27 N39q
    obtain ⟨K39, V39⟩ := hq39
    have F40_E : Exa Z T39.heap b1 "com/example/supplant/supplant/automata/TransducerBuilder" := F28_E.keep K39
    have F41_finals : Fld Z T39.heap b1 "com/example/supplant/supplant/automata/TransducerBuilder" "finals" "[Z" (.ref t27) := Ff27.keep K39 (ninS hne27 nin0)
    have F42_stateCount : Fld Z T39.heap b1 "com/example/supplant/supplant/automata/TransducerBuilder" "stateCount" "I" (.int (8 : Int32)) := Fd27.keep K39 (ninS hne27 nin0)
    have Zs43 : n0 ≤ T39.heap.size := Nat.le_trans Zs29 K39.1
    refine own_st ?_ (fun t k => st39.trans k)
    show own_G p.tables e below _ _ (T39.setTop (mkF m 94 #[.val (.int p0), .val (.int p1), .val (.ref b1), .val (.int (0 : Int32)), .val (.int (1 : Int32)), .val (.int (2 : Int32)), .val (.int (3 : Int32)), .val (.int (4 : Int32)), .val (.int (5 : Int32)), .val (.int (6 : Int32)), .val (.int (7 : Int32)), .val (.int (1 : Int32)), .val (.int (p0 &&& (7 : Int32))), .val (.int (p1 &&& (7 : Int32))), .unset, .unset] []))
    refine own_st ?_ (fun t k => XS.aloadN X39.here hx rfl (hb hby at_94) rfl rfl k)
    show own_G p.tables e below _ _ (T39.setTop (mkF m 95 #[.val (.int p0), .val (.int p1), .val (.ref b1), .val (.int (0 : Int32)), .val (.int (1 : Int32)), .val (.int (2 : Int32)), .val (.int (3 : Int32)), .val (.int (4 : Int32)), .val (.int (5 : Int32)), .val (.int (6 : Int32)), .val (.int (7 : Int32)), .val (.int (1 : Int32)), .val (.int (p0 &&& (7 : Int32))), .val (.int (p1 &&& (7 : Int32))), .unset, .unset] [(.ref b1)]))
    obtain ⟨cq44, kq44, q44a, q44b, q44c⟩ := isOf hZ rfl F40_E
    obtain ⟨_, _, ⟨T44, L44, k44, n44⟩, -, X44, ⟨Lc44, hQ44, l44, y44, z44⟩, st44⟩ := X39.virtualBack hx (y := (⟨"com/example/supplant/supplant/automata/TransducerBuilder", "addState", "()I"⟩ : MethodName)) (z := (⟨"com/example/supplant/supplant/automata/TransducerBuilder", "addState", "()I"⟩ : MethodName)) hown (mvT hZ (hw _ (List.mem_of_getElem? (i := 41) rfl))) (mvT hZ (hw _ (List.mem_of_getElem? (i := 42) rfl))) (notFace_of_selects (args := #[]) (mvT hZ (hw _ (List.mem_of_getElem? (i := 44) rfl)))) (mvT hZ (hw _ (List.mem_of_getElem? (i := 44) rfl))) (mvT hZ (hw _ (List.mem_of_getElem? (i := 43) rfl))) (by decide) (backOf (W := 0) (rm6g l Z _ hw [] b1 t27 (own_upd (fun _ => 0) (p0 &&& (7 : Int32)).toNatClampNeg (1 : Int32)) T39.heap n0 Zs43 g_b1 g_t27 F40_E F41_finals F42_stateCount V39 hne27 (fun i hi => if_neg (by have := (own_mask7 p0).2; omega))) hZ (hw _ (List.mem_of_getElem? (i := 45) rfl)) (hw _ (List.mem_of_getElem? (i := 2) rfl)) (by decide) (by decide)) q44a q44c (g := (mkF m 95 #[.val (.int p0), .val (.int p1), .val (.ref b1), .val (.int (0 : Int32)), .val (.int (1 : Int32)), .val (.int (2 : Int32)), .val (.int (3 : Int32)), .val (.int (4 : Int32)), .val (.int (5 : Int32)), .val (.int (6 : Int32)), .val (.int (7 : Int32)), .val (.int (1 : Int32)), .val (.int (p0 &&& (7 : Int32))), .val (.int (p1 &&& (7 : Int32))), .unset, .unset] [(.ref b1)])) rfl (by rw [hml]; rfl) (Steps.refl _) (argsL := []) (rest := []) (lenOf pd_6 rfl) rfl (by show 2 * 0 + _ ≤ _; exact Nat.le_of_eq rfl) (hb hby at_95) (fun _ _ => ⟨rfl, rfl, (by decide : 5 + 1 ≤ _), (by decide : 50 + 16 ≤ _)⟩)
    dsimp only [Pt.U, Pt.locs, Pt.cells, Pt.slots] at X44 l44 y44 z44 st44 hQ44
    subst l44 y44 z44
    obtain ⟨rfl, N44q, hq44⟩ := hQ44
    have N44 := Fr.app N39 N44q
    obtain ⟨K44, t44, g_t44, hne44, Ff44, Fc44, V44⟩ := hq44
    have F45_E : Exa Z T44.heap b1 "com/example/supplant/supplant/automata/TransducerBuilder" := F40_E.keep K44
    have Zs46 : n0 ≤ T44.heap.size := Nat.le_trans Zs43 K44.1
    have Fd44 : Fld Z T44.heap b1 "com/example/supplant/supplant/automata/TransducerBuilder" "stateCount" "I" (.int (9 : Int32)) := Fc44
    refine own_st ?_ (fun t k => st44.trans k)
    show own_G p.tables e below _ _ (T44.setTop (mkF m 98 #[.val (.int p0), .val (.int p1), .val (.ref b1), .val (.int (0 : Int32)), .val (.int (1 : Int32)), .val (.int (2 : Int32)), .val (.int (3 : Int32)), .val (.int (4 : Int32)), .val (.int (5 : Int32)), .val (.int (6 : Int32)), .val (.int (7 : Int32)), .val (.int (1 : Int32)), .val (.int (p0 &&& (7 : Int32))), .val (.int (p1 &&& (7 : Int32))), .unset, .unset] [(.int (8 : Int32))]))
    refine own_st ?_ (fun t k => XS.istore X44.here hx rfl (hb hby at_98) rfl (l' := #[.val (.int p0), .val (.int p1), .val (.ref b1), .val (.int (0 : Int32)), .val (.int (1 : Int32)), .val (.int (2 : Int32)), .val (.int (3 : Int32)), .val (.int (4 : Int32)), .val (.int (5 : Int32)), .val (.int (6 : Int32)), .val (.int (7 : Int32)), .val (.int (1 : Int32)), .val (.int (p0 &&& (7 : Int32))), .val (.int (p1 &&& (7 : Int32))), .val (.int (8 : Int32)), .unset]) rfl k)
    show own_G p.tables e below _ _ (T44.setTop (mkF m 100 #[.val (.int p0), .val (.int p1), .val (.ref b1), .val (.int (0 : Int32)), .val (.int (1 : Int32)), .val (.int (2 : Int32)), .val (.int (3 : Int32)), .val (.int (4 : Int32)), .val (.int (5 : Int32)), .val (.int (6 : Int32)), .val (.int (7 : Int32)), .val (.int (1 : Int32)), .val (.int (p0 &&& (7 : Int32))), .val (.int (p1 &&& (7 : Int32))), .val (.int (8 : Int32)), .unset] []))
    refine own_st ?_ (fun t k => XS.iloadN X44.here hx rfl (hb hby at_100) rfl k)
    show own_G p.tables e below _ _ (T44.setTop (mkF m 101 #[.val (.int p0), .val (.int p1), .val (.ref b1), .val (.int (0 : Int32)), .val (.int (1 : Int32)), .val (.int (2 : Int32)), .val (.int (3 : Int32)), .val (.int (4 : Int32)), .val (.int (5 : Int32)), .val (.int (6 : Int32)), .val (.int (7 : Int32)), .val (.int (1 : Int32)), .val (.int (p0 &&& (7 : Int32))), .val (.int (p1 &&& (7 : Int32))), .val (.int (8 : Int32)), .unset] [(.int (0 : Int32))]))
    refine own_st ?_ (fun t k => XS.ifNo X44.here hx rfl (hb hby at_101) rfl ((if0 _ _).trans (teq (by decide : (0 : Int32) = (0 : Int32))).2) k)
    show own_G p.tables e below _ _ (T44.setTop (mkF m 104 #[.val (.int p0), .val (.int p1), .val (.ref b1), .val (.int (0 : Int32)), .val (.int (1 : Int32)), .val (.int (2 : Int32)), .val (.int (3 : Int32)), .val (.int (4 : Int32)), .val (.int (5 : Int32)), .val (.int (6 : Int32)), .val (.int (7 : Int32)), .val (.int (1 : Int32)), .val (.int (p0 &&& (7 : Int32))), .val (.int (p1 &&& (7 : Int32))), .val (.int (8 : Int32)), .unset] []))
    refine own_st ?_ (fun t k => XS.iload X44.here hx rfl (hb hby at_104) rfl k)
    show own_G p.tables e below _ _ (T44.setTop (mkF m 106 #[.val (.int p0), .val (.int p1), .val (.ref b1), .val (.int (0 : Int32)), .val (.int (1 : Int32)), .val (.int (2 : Int32)), .val (.int (3 : Int32)), .val (.int (4 : Int32)), .val (.int (5 : Int32)), .val (.int (6 : Int32)), .val (.int (7 : Int32)), .val (.int (1 : Int32)), .val (.int (p0 &&& (7 : Int32))), .val (.int (p1 &&& (7 : Int32))), .val (.int (8 : Int32)), .unset] [(.int (1 : Int32))]))
    refine own_st ?_ (fun t k => XS.iconst X44.here hx rfl (hb hby at_106) k)
    show own_G p.tables e below _ _ (T44.setTop (mkF m 107 #[.val (.int p0), .val (.int p1), .val (.ref b1), .val (.int (0 : Int32)), .val (.int (1 : Int32)), .val (.int (2 : Int32)), .val (.int (3 : Int32)), .val (.int (4 : Int32)), .val (.int (5 : Int32)), .val (.int (6 : Int32)), .val (.int (7 : Int32)), .val (.int (1 : Int32)), .val (.int (p0 &&& (7 : Int32))), .val (.int (p1 &&& (7 : Int32))), .val (.int (8 : Int32)), .unset] [(.int (1 : Int32)), (.int (1 : Int32))]))
    refine own_st ?_ (fun t k => XS.icmpNo X44.here hx rfl (hb hby at_107) rfl (teq (by decide : (1 : Int32) = (1 : Int32))).2 k)
    show own_G p.tables e below _ _ (T44.setTop (mkF m 110 #[.val (.int p0), .val (.int p1), .val (.ref b1), .val (.int (0 : Int32)), .val (.int (1 : Int32)), .val (.int (2 : Int32)), .val (.int (3 : Int32)), .val (.int (4 : Int32)), .val (.int (5 : Int32)), .val (.int (6 : Int32)), .val (.int (7 : Int32)), .val (.int (1 : Int32)), .val (.int (p0 &&& (7 : Int32))), .val (.int (p1 &&& (7 : Int32))), .val (.int (8 : Int32)), .unset] []))
    refine own_st ?_ (fun t k => XS.iload X44.here hx rfl (hb hby at_110) rfl k)
    show own_G p.tables e below _ _ (T44.setTop (mkF m 112 #[.val (.int p0), .val (.int p1), .val (.ref b1), .val (.int (0 : Int32)), .val (.int (1 : Int32)), .val (.int (2 : Int32)), .val (.int (3 : Int32)), .val (.int (4 : Int32)), .val (.int (5 : Int32)), .val (.int (6 : Int32)), .val (.int (7 : Int32)), .val (.int (1 : Int32)), .val (.int (p0 &&& (7 : Int32))), .val (.int (p1 &&& (7 : Int32))), .val (.int (8 : Int32)), .unset] [(.int (2 : Int32))]))
    refine own_st ?_ (fun t k => XS.iconst X44.here hx rfl (hb hby at_112) k)
    show own_G p.tables e below _ _ (T44.setTop (mkF m 113 #[.val (.int p0), .val (.int p1), .val (.ref b1), .val (.int (0 : Int32)), .val (.int (1 : Int32)), .val (.int (2 : Int32)), .val (.int (3 : Int32)), .val (.int (4 : Int32)), .val (.int (5 : Int32)), .val (.int (6 : Int32)), .val (.int (7 : Int32)), .val (.int (1 : Int32)), .val (.int (p0 &&& (7 : Int32))), .val (.int (p1 &&& (7 : Int32))), .val (.int (8 : Int32)), .unset] [(.int (2 : Int32)), (.int (2 : Int32))]))
    refine own_st ?_ (fun t k => XS.icmpNo X44.here hx rfl (hb hby at_113) rfl (teq (by decide : (2 : Int32) = (2 : Int32))).2 k)
    show own_G p.tables e below _ _ (T44.setTop (mkF m 116 #[.val (.int p0), .val (.int p1), .val (.ref b1), .val (.int (0 : Int32)), .val (.int (1 : Int32)), .val (.int (2 : Int32)), .val (.int (3 : Int32)), .val (.int (4 : Int32)), .val (.int (5 : Int32)), .val (.int (6 : Int32)), .val (.int (7 : Int32)), .val (.int (1 : Int32)), .val (.int (p0 &&& (7 : Int32))), .val (.int (p1 &&& (7 : Int32))), .val (.int (8 : Int32)), .unset] []))
    refine own_st ?_ (fun t k => XS.iload X44.here hx rfl (hb hby at_116) rfl k)
    show own_G p.tables e below _ _ (T44.setTop (mkF m 118 #[.val (.int p0), .val (.int p1), .val (.ref b1), .val (.int (0 : Int32)), .val (.int (1 : Int32)), .val (.int (2 : Int32)), .val (.int (3 : Int32)), .val (.int (4 : Int32)), .val (.int (5 : Int32)), .val (.int (6 : Int32)), .val (.int (7 : Int32)), .val (.int (1 : Int32)), .val (.int (p0 &&& (7 : Int32))), .val (.int (p1 &&& (7 : Int32))), .val (.int (8 : Int32)), .unset] [(.int (3 : Int32))]))
    refine own_st ?_ (fun t k => XS.iconst X44.here hx rfl (hb hby at_118) k)
    show own_G p.tables e below _ _ (T44.setTop (mkF m 119 #[.val (.int p0), .val (.int p1), .val (.ref b1), .val (.int (0 : Int32)), .val (.int (1 : Int32)), .val (.int (2 : Int32)), .val (.int (3 : Int32)), .val (.int (4 : Int32)), .val (.int (5 : Int32)), .val (.int (6 : Int32)), .val (.int (7 : Int32)), .val (.int (1 : Int32)), .val (.int (p0 &&& (7 : Int32))), .val (.int (p1 &&& (7 : Int32))), .val (.int (8 : Int32)), .unset] [(.int (3 : Int32)), (.int (3 : Int32))]))
    refine own_st ?_ (fun t k => XS.icmpNo X44.here hx rfl (hb hby at_119) rfl (teq (by decide : (3 : Int32) = (3 : Int32))).2 k)
    show own_G p.tables e below _ _ (T44.setTop (mkF m 122 #[.val (.int p0), .val (.int p1), .val (.ref b1), .val (.int (0 : Int32)), .val (.int (1 : Int32)), .val (.int (2 : Int32)), .val (.int (3 : Int32)), .val (.int (4 : Int32)), .val (.int (5 : Int32)), .val (.int (6 : Int32)), .val (.int (7 : Int32)), .val (.int (1 : Int32)), .val (.int (p0 &&& (7 : Int32))), .val (.int (p1 &&& (7 : Int32))), .val (.int (8 : Int32)), .unset] []))
    refine own_st ?_ (fun t k => XS.iload X44.here hx rfl (hb hby at_122) rfl k)
    show own_G p.tables e below _ _ (T44.setTop (mkF m 124 #[.val (.int p0), .val (.int p1), .val (.ref b1), .val (.int (0 : Int32)), .val (.int (1 : Int32)), .val (.int (2 : Int32)), .val (.int (3 : Int32)), .val (.int (4 : Int32)), .val (.int (5 : Int32)), .val (.int (6 : Int32)), .val (.int (7 : Int32)), .val (.int (1 : Int32)), .val (.int (p0 &&& (7 : Int32))), .val (.int (p1 &&& (7 : Int32))), .val (.int (8 : Int32)), .unset] [(.int (4 : Int32))]))
    refine own_st ?_ (fun t k => XS.iconst X44.here hx rfl (hb hby at_124) k)
    show own_G p.tables e below _ _ (T44.setTop (mkF m 125 #[.val (.int p0), .val (.int p1), .val (.ref b1), .val (.int (0 : Int32)), .val (.int (1 : Int32)), .val (.int (2 : Int32)), .val (.int (3 : Int32)), .val (.int (4 : Int32)), .val (.int (5 : Int32)), .val (.int (6 : Int32)), .val (.int (7 : Int32)), .val (.int (1 : Int32)), .val (.int (p0 &&& (7 : Int32))), .val (.int (p1 &&& (7 : Int32))), .val (.int (8 : Int32)), .unset] [(.int (4 : Int32)), (.int (4 : Int32))]))
    refine own_st ?_ (fun t k => XS.icmpNo X44.here hx rfl (hb hby at_125) rfl (teq (by decide : (4 : Int32) = (4 : Int32))).2 k)
    show own_G p.tables e below _ _ (T44.setTop (mkF m 128 #[.val (.int p0), .val (.int p1), .val (.ref b1), .val (.int (0 : Int32)), .val (.int (1 : Int32)), .val (.int (2 : Int32)), .val (.int (3 : Int32)), .val (.int (4 : Int32)), .val (.int (5 : Int32)), .val (.int (6 : Int32)), .val (.int (7 : Int32)), .val (.int (1 : Int32)), .val (.int (p0 &&& (7 : Int32))), .val (.int (p1 &&& (7 : Int32))), .val (.int (8 : Int32)), .unset] []))
    refine own_st ?_ (fun t k => XS.iload X44.here hx rfl (hb hby at_128) rfl k)
    show own_G p.tables e below _ _ (T44.setTop (mkF m 130 #[.val (.int p0), .val (.int p1), .val (.ref b1), .val (.int (0 : Int32)), .val (.int (1 : Int32)), .val (.int (2 : Int32)), .val (.int (3 : Int32)), .val (.int (4 : Int32)), .val (.int (5 : Int32)), .val (.int (6 : Int32)), .val (.int (7 : Int32)), .val (.int (1 : Int32)), .val (.int (p0 &&& (7 : Int32))), .val (.int (p1 &&& (7 : Int32))), .val (.int (8 : Int32)), .unset] [(.int (5 : Int32))]))
    refine own_st ?_ (fun t k => XS.iconst X44.here hx rfl (hb hby at_130) k)
    show own_G p.tables e below _ _ (T44.setTop (mkF m 131 #[.val (.int p0), .val (.int p1), .val (.ref b1), .val (.int (0 : Int32)), .val (.int (1 : Int32)), .val (.int (2 : Int32)), .val (.int (3 : Int32)), .val (.int (4 : Int32)), .val (.int (5 : Int32)), .val (.int (6 : Int32)), .val (.int (7 : Int32)), .val (.int (1 : Int32)), .val (.int (p0 &&& (7 : Int32))), .val (.int (p1 &&& (7 : Int32))), .val (.int (8 : Int32)), .unset] [(.int (5 : Int32)), (.int (5 : Int32))]))
    refine own_st ?_ (fun t k => XS.icmpNo X44.here hx rfl (hb hby at_131) rfl (teq (by decide : (5 : Int32) = (5 : Int32))).2 k)
    show own_G p.tables e below _ _ (T44.setTop (mkF m 134 #[.val (.int p0), .val (.int p1), .val (.ref b1), .val (.int (0 : Int32)), .val (.int (1 : Int32)), .val (.int (2 : Int32)), .val (.int (3 : Int32)), .val (.int (4 : Int32)), .val (.int (5 : Int32)), .val (.int (6 : Int32)), .val (.int (7 : Int32)), .val (.int (1 : Int32)), .val (.int (p0 &&& (7 : Int32))), .val (.int (p1 &&& (7 : Int32))), .val (.int (8 : Int32)), .unset] []))
    refine own_st ?_ (fun t k => XS.iload X44.here hx rfl (hb hby at_134) rfl k)
    show own_G p.tables e below _ _ (T44.setTop (mkF m 136 #[.val (.int p0), .val (.int p1), .val (.ref b1), .val (.int (0 : Int32)), .val (.int (1 : Int32)), .val (.int (2 : Int32)), .val (.int (3 : Int32)), .val (.int (4 : Int32)), .val (.int (5 : Int32)), .val (.int (6 : Int32)), .val (.int (7 : Int32)), .val (.int (1 : Int32)), .val (.int (p0 &&& (7 : Int32))), .val (.int (p1 &&& (7 : Int32))), .val (.int (8 : Int32)), .unset] [(.int (6 : Int32))]))
    refine own_st ?_ (fun t k => XS.bipush X44.here hx rfl (hb hby at_136) k)
    show own_G p.tables e below _ _ (T44.setTop (mkF m 138 #[.val (.int p0), .val (.int p1), .val (.ref b1), .val (.int (0 : Int32)), .val (.int (1 : Int32)), .val (.int (2 : Int32)), .val (.int (3 : Int32)), .val (.int (4 : Int32)), .val (.int (5 : Int32)), .val (.int (6 : Int32)), .val (.int (7 : Int32)), .val (.int (1 : Int32)), .val (.int (p0 &&& (7 : Int32))), .val (.int (p1 &&& (7 : Int32))), .val (.int (8 : Int32)), .unset] [(.int (6 : Int32)), (.int (6 : Int32))]))
    refine own_st ?_ (fun t k => XS.icmpNo X44.here hx rfl (hb hby at_138) rfl (teq (by decide : (6 : Int32) = (6 : Int32))).2 k)
    show own_G p.tables e below _ _ (T44.setTop (mkF m 141 #[.val (.int p0), .val (.int p1), .val (.ref b1), .val (.int (0 : Int32)), .val (.int (1 : Int32)), .val (.int (2 : Int32)), .val (.int (3 : Int32)), .val (.int (4 : Int32)), .val (.int (5 : Int32)), .val (.int (6 : Int32)), .val (.int (7 : Int32)), .val (.int (1 : Int32)), .val (.int (p0 &&& (7 : Int32))), .val (.int (p1 &&& (7 : Int32))), .val (.int (8 : Int32)), .unset] []))
    refine own_st ?_ (fun t k => XS.iload X44.here hx rfl (hb hby at_141) rfl k)
    show own_G p.tables e below _ _ (T44.setTop (mkF m 143 #[.val (.int p0), .val (.int p1), .val (.ref b1), .val (.int (0 : Int32)), .val (.int (1 : Int32)), .val (.int (2 : Int32)), .val (.int (3 : Int32)), .val (.int (4 : Int32)), .val (.int (5 : Int32)), .val (.int (6 : Int32)), .val (.int (7 : Int32)), .val (.int (1 : Int32)), .val (.int (p0 &&& (7 : Int32))), .val (.int (p1 &&& (7 : Int32))), .val (.int (8 : Int32)), .unset] [(.int (7 : Int32))]))
    refine own_st ?_ (fun t k => XS.bipush X44.here hx rfl (hb hby at_143) k)
    show own_G p.tables e below _ _ (T44.setTop (mkF m 145 #[.val (.int p0), .val (.int p1), .val (.ref b1), .val (.int (0 : Int32)), .val (.int (1 : Int32)), .val (.int (2 : Int32)), .val (.int (3 : Int32)), .val (.int (4 : Int32)), .val (.int (5 : Int32)), .val (.int (6 : Int32)), .val (.int (7 : Int32)), .val (.int (1 : Int32)), .val (.int (p0 &&& (7 : Int32))), .val (.int (p1 &&& (7 : Int32))), .val (.int (8 : Int32)), .unset] [(.int (7 : Int32)), (.int (7 : Int32))]))
    refine own_st ?_ (fun t k => XS.icmpNo X44.here hx rfl (hb hby at_145) rfl (teq (by decide : (7 : Int32) = (7 : Int32))).2 k)
    show own_G p.tables e below _ _ (T44.setTop (mkF m 148 #[.val (.int p0), .val (.int p1), .val (.ref b1), .val (.int (0 : Int32)), .val (.int (1 : Int32)), .val (.int (2 : Int32)), .val (.int (3 : Int32)), .val (.int (4 : Int32)), .val (.int (5 : Int32)), .val (.int (6 : Int32)), .val (.int (7 : Int32)), .val (.int (1 : Int32)), .val (.int (p0 &&& (7 : Int32))), .val (.int (p1 &&& (7 : Int32))), .val (.int (8 : Int32)), .unset] []))
    refine own_st ?_ (fun t k => XS.iload X44.here hx rfl (hb hby at_148) rfl k)
    show own_G p.tables e below _ _ (T44.setTop (mkF m 150 #[.val (.int p0), .val (.int p1), .val (.ref b1), .val (.int (0 : Int32)), .val (.int (1 : Int32)), .val (.int (2 : Int32)), .val (.int (3 : Int32)), .val (.int (4 : Int32)), .val (.int (5 : Int32)), .val (.int (6 : Int32)), .val (.int (7 : Int32)), .val (.int (1 : Int32)), .val (.int (p0 &&& (7 : Int32))), .val (.int (p1 &&& (7 : Int32))), .val (.int (8 : Int32)), .unset] [(.int (8 : Int32))]))
    refine own_st ?_ (fun t k => XS.bipush X44.here hx rfl (hb hby at_150) k)
    show own_G p.tables e below _ _ (T44.setTop (mkF m 152 #[.val (.int p0), .val (.int p1), .val (.ref b1), .val (.int (0 : Int32)), .val (.int (1 : Int32)), .val (.int (2 : Int32)), .val (.int (3 : Int32)), .val (.int (4 : Int32)), .val (.int (5 : Int32)), .val (.int (6 : Int32)), .val (.int (7 : Int32)), .val (.int (1 : Int32)), .val (.int (p0 &&& (7 : Int32))), .val (.int (p1 &&& (7 : Int32))), .val (.int (8 : Int32)), .unset] [(.int (8 : Int32)), (.int (8 : Int32))]))
    refine own_st ?_ (fun t k => XS.icmpNo X44.here hx rfl (hb hby at_152) rfl (teq (by decide : (8 : Int32) = (8 : Int32))).2 k)
    show own_G p.tables e below _ _ (T44.setTop (mkF m 155 #[.val (.int p0), .val (.int p1), .val (.ref b1), .val (.int (0 : Int32)), .val (.int (1 : Int32)), .val (.int (2 : Int32)), .val (.int (3 : Int32)), .val (.int (4 : Int32)), .val (.int (5 : Int32)), .val (.int (6 : Int32)), .val (.int (7 : Int32)), .val (.int (1 : Int32)), .val (.int (p0 &&& (7 : Int32))), .val (.int (p1 &&& (7 : Int32))), .val (.int (8 : Int32)), .unset] []))
    refine own_st ?_ (fun t k => XS.iconst X44.here hx rfl (hb hby at_155) k)
    show own_G p.tables e below _ _ (T44.setTop (mkF m 156 #[.val (.int p0), .val (.int p1), .val (.ref b1), .val (.int (0 : Int32)), .val (.int (1 : Int32)), .val (.int (2 : Int32)), .val (.int (3 : Int32)), .val (.int (4 : Int32)), .val (.int (5 : Int32)), .val (.int (6 : Int32)), .val (.int (7 : Int32)), .val (.int (1 : Int32)), .val (.int (p0 &&& (7 : Int32))), .val (.int (p1 &&& (7 : Int32))), .val (.int (8 : Int32)), .unset] [(.int (1 : Int32))]))
    refine own_st ?_ (fun t k => XS.goto X44.here hx rfl (pc0 := 156) (pc' := 160) rfl (hb hby at_156) (by decide) (by decide) k)
    show own_G p.tables e below _ _ (T44.setTop (mkF m 160 #[.val (.int p0), .val (.int p1), .val (.ref b1), .val (.int (0 : Int32)), .val (.int (1 : Int32)), .val (.int (2 : Int32)), .val (.int (3 : Int32)), .val (.int (4 : Int32)), .val (.int (5 : Int32)), .val (.int (6 : Int32)), .val (.int (7 : Int32)), .val (.int (1 : Int32)), .val (.int (p0 &&& (7 : Int32))), .val (.int (p1 &&& (7 : Int32))), .val (.int (8 : Int32)), .unset] [(.int (1 : Int32))]))
    refine own_st ?_ (fun t k => XS.istore X44.here hx rfl (hb hby at_160) rfl (l' := #[.val (.int p0), .val (.int p1), .val (.ref b1), .val (.int (0 : Int32)), .val (.int (1 : Int32)), .val (.int (2 : Int32)), .val (.int (3 : Int32)), .val (.int (4 : Int32)), .val (.int (5 : Int32)), .val (.int (6 : Int32)), .val (.int (7 : Int32)), .val (.int (1 : Int32)), .val (.int (p0 &&& (7 : Int32))), .val (.int (p1 &&& (7 : Int32))), .val (.int (8 : Int32)), .val (.int (1 : Int32))]) rfl k)
    show own_G p.tables e below _ _ (T44.setTop (mkF m 162 #[.val (.int p0), .val (.int p1), .val (.ref b1), .val (.int (0 : Int32)), .val (.int (1 : Int32)), .val (.int (2 : Int32)), .val (.int (3 : Int32)), .val (.int (4 : Int32)), .val (.int (5 : Int32)), .val (.int (6 : Int32)), .val (.int (7 : Int32)), .val (.int (1 : Int32)), .val (.int (p0 &&& (7 : Int32))), .val (.int (p1 &&& (7 : Int32))), .val (.int (8 : Int32)), .val (.int (1 : Int32))] []))
    refine own_st ?_ (fun t k => XS.iload X44.here hx rfl (hb hby at_162) rfl k)
    show own_G p.tables e below _ _ (T44.setTop (mkF m 164 #[.val (.int p0), .val (.int p1), .val (.ref b1), .val (.int (0 : Int32)), .val (.int (1 : Int32)), .val (.int (2 : Int32)), .val (.int (3 : Int32)), .val (.int (4 : Int32)), .val (.int (5 : Int32)), .val (.int (6 : Int32)), .val (.int (7 : Int32)), .val (.int (1 : Int32)), .val (.int (p0 &&& (7 : Int32))), .val (.int (p1 &&& (7 : Int32))), .val (.int (8 : Int32)), .val (.int (1 : Int32))] [(.int (1 : Int32))]))
    refine own_st ?_ (fun t k => XS.ifYes X44.here hx rfl (pc0 := 164) (pc' := 169) rfl (hb hby at_164) rfl ((if0 _ _).trans (feq (by decide : ¬ ((1 : Int32) = (0 : Int32)))).2) (by decide) (by decide) k)
    show own_G p.tables e below _ _ (T44.setTop (mkF m 169 #[.val (.int p0), .val (.int p1), .val (.ref b1), .val (.int (0 : Int32)), .val (.int (1 : Int32)), .val (.int (2 : Int32)), .val (.int (3 : Int32)), .val (.int (4 : Int32)), .val (.int (5 : Int32)), .val (.int (6 : Int32)), .val (.int (7 : Int32)), .val (.int (1 : Int32)), .val (.int (p0 &&& (7 : Int32))), .val (.int (p1 &&& (7 : Int32))), .val (.int (8 : Int32)), .val (.int (1 : Int32))] []))
    refine own_st ?_ (fun t k => XS.aloadN X44.here hx rfl (hb hby at_169) rfl rfl k)
    show own_G p.tables e below _ _ (T44.setTop (mkF m 170 #[.val (.int p0), .val (.int p1), .val (.ref b1), .val (.int (0 : Int32)), .val (.int (1 : Int32)), .val (.int (2 : Int32)), .val (.int (3 : Int32)), .val (.int (4 : Int32)), .val (.int (5 : Int32)), .val (.int (6 : Int32)), .val (.int (7 : Int32)), .val (.int (1 : Int32)), .val (.int (p0 &&& (7 : Int32))), .val (.int (p1 &&& (7 : Int32))), .val (.int (8 : Int32)), .val (.int (1 : Int32))] [(.ref b1)]))
    obtain ⟨cq47, kq47, q47a, q47b, q47c⟩ := isOf hZ rfl F45_E
    obtain ⟨_, _, ⟨T47, L47, k47, n47⟩, -, X47, ⟨Lc47, hQ47, l47, y47, z47⟩, st47⟩ := X44.virtualBack hx (y := (⟨"com/example/supplant/supplant/automata/TransducerBuilder", "stateCount", "()I"⟩ : MethodName)) (z := (⟨"com/example/supplant/supplant/automata/TransducerBuilder", "stateCount", "()I"⟩ : MethodName)) hown (mvT hZ (hw _ (List.mem_of_getElem? (i := 60) rfl))) (mvT hZ (hw _ (List.mem_of_getElem? (i := 61) rfl))) (notFace_of_selects (args := #[]) (mvT hZ (hw _ (List.mem_of_getElem? (i := 63) rfl)))) (mvT hZ (hw _ (List.mem_of_getElem? (i := 63) rfl))) (mvT hZ (hw _ (List.mem_of_getElem? (i := 62) rfl))) (by decide) (backOf (W := 0) (rm9 l Z _ hw [] b1 (9 : Int32) T44.heap n0 Zs46 Fd44) hZ (hw _ (List.mem_of_getElem? (i := 64) rfl)) (hw _ (List.mem_of_getElem? (i := 2) rfl)) (by decide) (by decide)) q47a q47c (g := (mkF m 170 #[.val (.int p0), .val (.int p1), .val (.ref b1), .val (.int (0 : Int32)), .val (.int (1 : Int32)), .val (.int (2 : Int32)), .val (.int (3 : Int32)), .val (.int (4 : Int32)), .val (.int (5 : Int32)), .val (.int (6 : Int32)), .val (.int (7 : Int32)), .val (.int (1 : Int32)), .val (.int (p0 &&& (7 : Int32))), .val (.int (p1 &&& (7 : Int32))), .val (.int (8 : Int32)), .val (.int (1 : Int32))] [(.ref b1)])) rfl (by rw [hml]; rfl) (Steps.refl _) (argsL := []) (rest := []) (lenOf pd_6 rfl) rfl (by show 2 * 0 + _ ≤ _; exact Nat.le_of_eq rfl) (hb hby at_170) (fun _ _ => ⟨rfl, rfl, (by decide : 6 + 0 ≤ _), (by decide : 66 + 0 ≤ _)⟩)
    dsimp only [Pt.U, Pt.locs, Pt.cells, Pt.slots] at X47 l47 y47 z47 st47 hQ47
    subst l47 y47 z47
    obtain ⟨rfl, N47q, e47⟩ := hQ47
    have N47 := Fr.app N44 N47q
    refine own_st ?_ (fun t k => st47.trans k)
    show own_G p.tables e below _ _ (T47.setTop (mkF m 173 #[.val (.int p0), .val (.int p1), .val (.ref b1), .val (.int (0 : Int32)), .val (.int (1 : Int32)), .val (.int (2 : Int32)), .val (.int (3 : Int32)), .val (.int (4 : Int32)), .val (.int (5 : Int32)), .val (.int (6 : Int32)), .val (.int (7 : Int32)), .val (.int (1 : Int32)), .val (.int (p0 &&& (7 : Int32))), .val (.int (p1 &&& (7 : Int32))), .val (.int (8 : Int32)), .val (.int (1 : Int32))] [(.int (9 : Int32))]))
    refine own_st ?_ (fun t k => XS.bipush X47.here hx rfl (hb hby at_173) k)
    show own_G p.tables e below _ _ (T47.setTop (mkF m 175 #[.val (.int p0), .val (.int p1), .val (.ref b1), .val (.int (0 : Int32)), .val (.int (1 : Int32)), .val (.int (2 : Int32)), .val (.int (3 : Int32)), .val (.int (4 : Int32)), .val (.int (5 : Int32)), .val (.int (6 : Int32)), .val (.int (7 : Int32)), .val (.int (1 : Int32)), .val (.int (p0 &&& (7 : Int32))), .val (.int (p1 &&& (7 : Int32))), .val (.int (8 : Int32)), .val (.int (1 : Int32))] [(.int (9 : Int32)), (.int (9 : Int32))]))
    refine own_st ?_ (fun t k => XS.icmpYes X47.here hx rfl (pc0 := 175) (pc' := 180) rfl (hb hby at_175) rfl (teq (by decide : (9 : Int32) = (9 : Int32))).1 (by decide) (by decide) k)
    show own_G p.tables e below _ _ (T47.setTop (mkF m 180 #[.val (.int p0), .val (.int p1), .val (.ref b1), .val (.int (0 : Int32)), .val (.int (1 : Int32)), .val (.int (2 : Int32)), .val (.int (3 : Int32)), .val (.int (4 : Int32)), .val (.int (5 : Int32)), .val (.int (6 : Int32)), .val (.int (7 : Int32)), .val (.int (1 : Int32)), .val (.int (p0 &&& (7 : Int32))), .val (.int (p1 &&& (7 : Int32))), .val (.int (8 : Int32)), .val (.int (1 : Int32))] []))
    refine own_st ?_ (fun t k => XS.aloadN X47.here hx rfl (hb hby at_180) rfl rfl k)
    show own_G p.tables e below _ _ (T47.setTop (mkF m 181 #[.val (.int p0), .val (.int p1), .val (.ref b1), .val (.int (0 : Int32)), .val (.int (1 : Int32)), .val (.int (2 : Int32)), .val (.int (3 : Int32)), .val (.int (4 : Int32)), .val (.int (5 : Int32)), .val (.int (6 : Int32)), .val (.int (7 : Int32)), .val (.int (1 : Int32)), .val (.int (p0 &&& (7 : Int32))), .val (.int (p1 &&& (7 : Int32))), .val (.int (8 : Int32)), .val (.int (1 : Int32))] [(.ref b1)]))
    refine own_st ?_ (fun t k => XS.iload X47.here hx rfl (hb hby at_181) rfl k)
    show own_G p.tables e below _ _ (T47.setTop (mkF m 183 #[.val (.int p0), .val (.int p1), .val (.ref b1), .val (.int (0 : Int32)), .val (.int (1 : Int32)), .val (.int (2 : Int32)), .val (.int (3 : Int32)), .val (.int (4 : Int32)), .val (.int (5 : Int32)), .val (.int (6 : Int32)), .val (.int (7 : Int32)), .val (.int (1 : Int32)), .val (.int (p0 &&& (7 : Int32))), .val (.int (p1 &&& (7 : Int32))), .val (.int (8 : Int32)), .val (.int (1 : Int32))] [(.int (p0 &&& (7 : Int32))), (.ref b1)]))
    obtain ⟨cq48, kq48, q48a, q48b, q48c⟩ := isOf hZ e47 F45_E
    obtain ⟨_, _, ⟨T48, L48, k48, n48⟩, -, X48, ⟨Lc48, hQ48, l48, y48, z48⟩, st48⟩ := X47.virtualBack hx (y := (⟨"com/example/supplant/supplant/automata/TransducerBuilder", "isFinal", "(I)Z"⟩ : MethodName)) (z := (⟨"com/example/supplant/supplant/automata/TransducerBuilder", "isFinal", "(I)Z"⟩ : MethodName)) hown (mvT hZ (hw _ (List.mem_of_getElem? (i := 65) rfl))) (mvT hZ (hw _ (List.mem_of_getElem? (i := 66) rfl))) (notFace_of_selects (args := #[]) (mvT hZ (hw _ (List.mem_of_getElem? (i := 68) rfl)))) (mvT hZ (hw _ (List.mem_of_getElem? (i := 68) rfl))) (mvT hZ (hw _ (List.mem_of_getElem? (i := 67) rfl))) (by decide) (backOf (W := 0) (rm10 l Z _ hw [] b1 (p0 &&& (7 : Int32)) t44 (16 : Int32) (own_upd (fun _ => 0) (p0 &&& (7 : Int32)).toNatClampNeg (1 : Int32)) (1 : Int32) T44.heap n0 Zs46 Ff44 V44 (own_mask7 p0).1 (Nat.lt_trans (own_mask7 p0).2 (by decide)) (if_pos rfl) (by decide)) hZ (hw _ (List.mem_of_getElem? (i := 69) rfl)) (hw _ (List.mem_of_getElem? (i := 2) rfl)) (by decide) (by decide)) q48a q48c (g := (mkF m 183 #[.val (.int p0), .val (.int p1), .val (.ref b1), .val (.int (0 : Int32)), .val (.int (1 : Int32)), .val (.int (2 : Int32)), .val (.int (3 : Int32)), .val (.int (4 : Int32)), .val (.int (5 : Int32)), .val (.int (6 : Int32)), .val (.int (7 : Int32)), .val (.int (1 : Int32)), .val (.int (p0 &&& (7 : Int32))), .val (.int (p1 &&& (7 : Int32))), .val (.int (8 : Int32)), .val (.int (1 : Int32))] [(.int (p0 &&& (7 : Int32))), (.ref b1)])) rfl (by rw [hml]; rfl) (Steps.refl _) (argsL := [(.int (p0 &&& (7 : Int32)))]) (rest := []) (lenOf pd_7 rfl) rfl (by show 2 * 0 + _ ≤ _; exact Nat.le_of_eq rfl) (hb hby at_183) (fun _ _ => ⟨rfl, e47, (by decide : 6 + 0 ≤ _), (by decide : 66 + 0 ≤ _)⟩)
    dsimp only [Pt.U, Pt.locs, Pt.cells, Pt.slots] at X48 l48 y48 z48 st48 hQ48
    subst l48 y48 z48
    obtain ⟨rfl, N48q, e48⟩ := hQ48
    have N48 := Fr.app N47 N48q
    refine own_st ?_ (fun t k => st48.trans k)
    show own_G p.tables e below _ _ (T48.setTop (mkF m 186 #[.val (.int p0), .val (.int p1), .val (.ref b1), .val (.int (0 : Int32)), .val (.int (1 : Int32)), .val (.int (2 : Int32)), .val (.int (3 : Int32)), .val (.int (4 : Int32)), .val (.int (5 : Int32)), .val (.int (6 : Int32)), .val (.int (7 : Int32)), .val (.int (1 : Int32)), .val (.int (p0 &&& (7 : Int32))), .val (.int (p1 &&& (7 : Int32))), .val (.int (8 : Int32)), .val (.int (1 : Int32))] [(.int (1 : Int32))]))
    refine own_st ?_ (fun t k => XS.iload X48.here hx rfl (hb hby at_186) rfl k)
    show own_G p.tables e below _ _ (T48.setTop (mkF m 188 #[.val (.int p0), .val (.int p1), .val (.ref b1), .val (.int (0 : Int32)), .val (.int (1 : Int32)), .val (.int (2 : Int32)), .val (.int (3 : Int32)), .val (.int (4 : Int32)), .val (.int (5 : Int32)), .val (.int (6 : Int32)), .val (.int (7 : Int32)), .val (.int (1 : Int32)), .val (.int (p0 &&& (7 : Int32))), .val (.int (p1 &&& (7 : Int32))), .val (.int (8 : Int32)), .val (.int (1 : Int32))] [(.int (1 : Int32)), (.int (1 : Int32))]))
    refine own_st ?_ (fun t k => XS.icmpYes X48.here hx rfl (pc0 := 188) (pc' := 193) rfl (hb hby at_188) rfl (teq (by decide : (1 : Int32) = (1 : Int32))).1 (by decide) (by decide) k)
    show own_G p.tables e below _ _ (T48.setTop (mkF m 193 #[.val (.int p0), .val (.int p1), .val (.ref b1), .val (.int (0 : Int32)), .val (.int (1 : Int32)), .val (.int (2 : Int32)), .val (.int (3 : Int32)), .val (.int (4 : Int32)), .val (.int (5 : Int32)), .val (.int (6 : Int32)), .val (.int (7 : Int32)), .val (.int (1 : Int32)), .val (.int (p0 &&& (7 : Int32))), .val (.int (p1 &&& (7 : Int32))), .val (.int (8 : Int32)), .val (.int (1 : Int32))] []))
    by_cases hgf : (p1 &&& (7 : Int32)) = (p0 &&& (7 : Int32))
    · refine own_st ?_ (fun t k => XS.aloadN X48.here hx rfl (hb hby at_193) rfl rfl k)
      show own_G p.tables e below _ _ (T48.setTop (mkF m 194 #[.val (.int p0), .val (.int p1), .val (.ref b1), .val (.int (0 : Int32)), .val (.int (1 : Int32)), .val (.int (2 : Int32)), .val (.int (3 : Int32)), .val (.int (4 : Int32)), .val (.int (5 : Int32)), .val (.int (6 : Int32)), .val (.int (7 : Int32)), .val (.int (1 : Int32)), .val (.int (p0 &&& (7 : Int32))), .val (.int (p1 &&& (7 : Int32))), .val (.int (8 : Int32)), .val (.int (1 : Int32))] [(.ref b1)]))
      refine own_st ?_ (fun t k => XS.iload X48.here hx rfl (hb hby at_194) rfl k)
      show own_G p.tables e below _ _ (T48.setTop (mkF m 196 #[.val (.int p0), .val (.int p1), .val (.ref b1), .val (.int (0 : Int32)), .val (.int (1 : Int32)), .val (.int (2 : Int32)), .val (.int (3 : Int32)), .val (.int (4 : Int32)), .val (.int (5 : Int32)), .val (.int (6 : Int32)), .val (.int (7 : Int32)), .val (.int (1 : Int32)), .val (.int (p0 &&& (7 : Int32))), .val (.int (p1 &&& (7 : Int32))), .val (.int (8 : Int32)), .val (.int (1 : Int32))] [(.int (p1 &&& (7 : Int32))), (.ref b1)]))
      obtain ⟨cq49, kq49, q49a, q49b, q49c⟩ := isOf hZ e48 F45_E
      obtain ⟨_, _, ⟨T49, L49, k49, n49⟩, -, X49, ⟨Lc49, hQ49, l49, y49, z49⟩, st49⟩ := X48.virtualBack hx (y := (⟨"com/example/supplant/supplant/automata/TransducerBuilder", "isFinal", "(I)Z"⟩ : MethodName)) (z := (⟨"com/example/supplant/supplant/automata/TransducerBuilder", "isFinal", "(I)Z"⟩ : MethodName)) hown (mvT hZ (hw _ (List.mem_of_getElem? (i := 65) rfl))) (mvT hZ (hw _ (List.mem_of_getElem? (i := 66) rfl))) (notFace_of_selects (args := #[]) (mvT hZ (hw _ (List.mem_of_getElem? (i := 68) rfl)))) (mvT hZ (hw _ (List.mem_of_getElem? (i := 68) rfl))) (mvT hZ (hw _ (List.mem_of_getElem? (i := 67) rfl))) (by decide) (backOf (W := 0) (rm10 l Z _ hw [] b1 (p1 &&& (7 : Int32)) t44 (16 : Int32) (own_upd (fun _ => 0) (p0 &&& (7 : Int32)).toNatClampNeg (1 : Int32)) (1 : Int32) T44.heap n0 Zs46 Ff44 V44 (own_mask7 p1).1 (Nat.lt_trans (own_mask7 p1).2 (by decide)) (if_pos (congrArg Int32.toNatClampNeg hgf)) (by decide)) hZ (hw _ (List.mem_of_getElem? (i := 69) rfl)) (hw _ (List.mem_of_getElem? (i := 2) rfl)) (by decide) (by decide)) q49a q49c (g := (mkF m 196 #[.val (.int p0), .val (.int p1), .val (.ref b1), .val (.int (0 : Int32)), .val (.int (1 : Int32)), .val (.int (2 : Int32)), .val (.int (3 : Int32)), .val (.int (4 : Int32)), .val (.int (5 : Int32)), .val (.int (6 : Int32)), .val (.int (7 : Int32)), .val (.int (1 : Int32)), .val (.int (p0 &&& (7 : Int32))), .val (.int (p1 &&& (7 : Int32))), .val (.int (8 : Int32)), .val (.int (1 : Int32))] [(.int (p1 &&& (7 : Int32))), (.ref b1)])) rfl (by rw [hml]; rfl) (Steps.refl _) (argsL := [(.int (p1 &&& (7 : Int32)))]) (rest := []) (lenOf pd_7 rfl) rfl (by show 2 * 0 + _ ≤ _; exact Nat.le_of_eq rfl) (hb hby at_196) (fun _ _ => ⟨rfl, e48, (by decide : 6 + 0 ≤ _), (by decide : 66 + 0 ≤ _)⟩)
      dsimp only [Pt.U, Pt.locs, Pt.cells, Pt.slots] at X49 l49 y49 z49 st49 hQ49
      subst l49 y49 z49
      obtain ⟨rfl, N49q, e49⟩ := hQ49
      have N49 := Fr.app N48 N49q
      refine own_st ?_ (fun t k => st49.trans k)
      show own_G p.tables e below _ _ (T49.setTop (mkF m 199 #[.val (.int p0), .val (.int p1), .val (.ref b1), .val (.int (0 : Int32)), .val (.int (1 : Int32)), .val (.int (2 : Int32)), .val (.int (3 : Int32)), .val (.int (4 : Int32)), .val (.int (5 : Int32)), .val (.int (6 : Int32)), .val (.int (7 : Int32)), .val (.int (1 : Int32)), .val (.int (p0 &&& (7 : Int32))), .val (.int (p1 &&& (7 : Int32))), .val (.int (8 : Int32)), .val (.int (1 : Int32))] [(.int (1 : Int32))]))
      refine own_st ?_ (fun t k => XS.iload X49.here hx rfl (hb hby at_199) rfl k)
      show own_G p.tables e below _ _ (T49.setTop (mkF m 201 #[.val (.int p0), .val (.int p1), .val (.ref b1), .val (.int (0 : Int32)), .val (.int (1 : Int32)), .val (.int (2 : Int32)), .val (.int (3 : Int32)), .val (.int (4 : Int32)), .val (.int (5 : Int32)), .val (.int (6 : Int32)), .val (.int (7 : Int32)), .val (.int (1 : Int32)), .val (.int (p0 &&& (7 : Int32))), .val (.int (p1 &&& (7 : Int32))), .val (.int (8 : Int32)), .val (.int (1 : Int32))] [(.int (1 : Int32)), (.int (1 : Int32))]))
      refine own_st ?_ (fun t k => XS.ifNo X49.here hx rfl (hb hby at_201) rfl ((if0 _ _).trans (feq (by decide : ¬ ((1 : Int32) = (0 : Int32)))).1) k)
      show own_G p.tables e below _ _ (T49.setTop (mkF m 204 #[.val (.int p0), .val (.int p1), .val (.ref b1), .val (.int (0 : Int32)), .val (.int (1 : Int32)), .val (.int (2 : Int32)), .val (.int (3 : Int32)), .val (.int (4 : Int32)), .val (.int (5 : Int32)), .val (.int (6 : Int32)), .val (.int (7 : Int32)), .val (.int (1 : Int32)), .val (.int (p0 &&& (7 : Int32))), .val (.int (p1 &&& (7 : Int32))), .val (.int (8 : Int32)), .val (.int (1 : Int32))] [(.int (1 : Int32))]))
      refine own_st ?_ (fun t k => XS.iload X49.here hx rfl (hb hby at_204) rfl k)
      show own_G p.tables e below _ _ (T49.setTop (mkF m 206 #[.val (.int p0), .val (.int p1), .val (.ref b1), .val (.int (0 : Int32)), .val (.int (1 : Int32)), .val (.int (2 : Int32)), .val (.int (3 : Int32)), .val (.int (4 : Int32)), .val (.int (5 : Int32)), .val (.int (6 : Int32)), .val (.int (7 : Int32)), .val (.int (1 : Int32)), .val (.int (p0 &&& (7 : Int32))), .val (.int (p1 &&& (7 : Int32))), .val (.int (8 : Int32)), .val (.int (1 : Int32))] [(.int (p1 &&& (7 : Int32))), (.int (1 : Int32))]))
      refine own_st ?_ (fun t k => XS.iload X49.here hx rfl (hb hby at_206) rfl k)
      show own_G p.tables e below _ _ (T49.setTop (mkF m 208 #[.val (.int p0), .val (.int p1), .val (.ref b1), .val (.int (0 : Int32)), .val (.int (1 : Int32)), .val (.int (2 : Int32)), .val (.int (3 : Int32)), .val (.int (4 : Int32)), .val (.int (5 : Int32)), .val (.int (6 : Int32)), .val (.int (7 : Int32)), .val (.int (1 : Int32)), .val (.int (p0 &&& (7 : Int32))), .val (.int (p1 &&& (7 : Int32))), .val (.int (8 : Int32)), .val (.int (1 : Int32))] [(.int (p0 &&& (7 : Int32))), (.int (p1 &&& (7 : Int32))), (.int (1 : Int32))]))
      refine own_st ?_ (fun t k => XS.icmpNo X49.here hx rfl (hb hby at_208) rfl (teq hgf).2 k)
      show own_G p.tables e below _ _ (T49.setTop (mkF m 211 #[.val (.int p0), .val (.int p1), .val (.ref b1), .val (.int (0 : Int32)), .val (.int (1 : Int32)), .val (.int (2 : Int32)), .val (.int (3 : Int32)), .val (.int (4 : Int32)), .val (.int (5 : Int32)), .val (.int (6 : Int32)), .val (.int (7 : Int32)), .val (.int (1 : Int32)), .val (.int (p0 &&& (7 : Int32))), .val (.int (p1 &&& (7 : Int32))), .val (.int (8 : Int32)), .val (.int (1 : Int32))] [(.int (1 : Int32))]))
      refine own_st ?_ (fun t k => XS.iconst X49.here hx rfl (hb hby at_211) k)
      show own_G p.tables e below _ _ (T49.setTop (mkF m 212 #[.val (.int p0), .val (.int p1), .val (.ref b1), .val (.int (0 : Int32)), .val (.int (1 : Int32)), .val (.int (2 : Int32)), .val (.int (3 : Int32)), .val (.int (4 : Int32)), .val (.int (5 : Int32)), .val (.int (6 : Int32)), .val (.int (7 : Int32)), .val (.int (1 : Int32)), .val (.int (p0 &&& (7 : Int32))), .val (.int (p1 &&& (7 : Int32))), .val (.int (8 : Int32)), .val (.int (1 : Int32))] [(.int (1 : Int32)), (.int (1 : Int32))]))
      refine own_st ?_ (fun t k => XS.goto X49.here hx rfl (pc0 := 212) (pc' := 216) rfl (hb hby at_212) (by decide) (by decide) k)
      show own_G p.tables e below _ _ (T49.setTop (mkF m 216 #[.val (.int p0), .val (.int p1), .val (.ref b1), .val (.int (0 : Int32)), .val (.int (1 : Int32)), .val (.int (2 : Int32)), .val (.int (3 : Int32)), .val (.int (4 : Int32)), .val (.int (5 : Int32)), .val (.int (6 : Int32)), .val (.int (7 : Int32)), .val (.int (1 : Int32)), .val (.int (p0 &&& (7 : Int32))), .val (.int (p1 &&& (7 : Int32))), .val (.int (8 : Int32)), .val (.int (1 : Int32))] [(.int (1 : Int32)), (.int (1 : Int32))]))
      refine own_st ?_ (fun t k => XS.icmpYes X49.here hx rfl (pc0 := 216) (pc' := 221) rfl (hb hby at_216) rfl (teq (by decide : (1 : Int32) = (1 : Int32))).1 (by decide) (by decide) k)
      show own_G p.tables e below _ _ (T49.setTop (mkF m 221 #[.val (.int p0), .val (.int p1), .val (.ref b1), .val (.int (0 : Int32)), .val (.int (1 : Int32)), .val (.int (2 : Int32)), .val (.int (3 : Int32)), .val (.int (4 : Int32)), .val (.int (5 : Int32)), .val (.int (6 : Int32)), .val (.int (7 : Int32)), .val (.int (1 : Int32)), .val (.int (p0 &&& (7 : Int32))), .val (.int (p1 &&& (7 : Int32))), .val (.int (8 : Int32)), .val (.int (1 : Int32))] []))
      refine own_st ?_ (fun t k => XS.aloadN X49.here hx rfl (hb hby at_221) rfl rfl k)
      show own_G p.tables e below _ _ (T49.setTop (mkF m 222 #[.val (.int p0), .val (.int p1), .val (.ref b1), .val (.int (0 : Int32)), .val (.int (1 : Int32)), .val (.int (2 : Int32)), .val (.int (3 : Int32)), .val (.int (4 : Int32)), .val (.int (5 : Int32)), .val (.int (6 : Int32)), .val (.int (7 : Int32)), .val (.int (1 : Int32)), .val (.int (p0 &&& (7 : Int32))), .val (.int (p1 &&& (7 : Int32))), .val (.int (8 : Int32)), .val (.int (1 : Int32))] [(.ref b1)]))
      refine own_st ?_ (fun t k => XS.bipush X49.here hx rfl (hb hby at_222) k)
      show own_G p.tables e below _ _ (T49.setTop (mkF m 224 #[.val (.int p0), .val (.int p1), .val (.ref b1), .val (.int (0 : Int32)), .val (.int (1 : Int32)), .val (.int (2 : Int32)), .val (.int (3 : Int32)), .val (.int (4 : Int32)), .val (.int (5 : Int32)), .val (.int (6 : Int32)), .val (.int (7 : Int32)), .val (.int (1 : Int32)), .val (.int (p0 &&& (7 : Int32))), .val (.int (p1 &&& (7 : Int32))), .val (.int (8 : Int32)), .val (.int (1 : Int32))] [(.int (8 : Int32)), (.ref b1)]))
      obtain ⟨cq50, kq50, q50a, q50b, q50c⟩ := isOf hZ e49 F45_E
      obtain ⟨_, _, ⟨T50, L50, k50, n50⟩, -, X50, ⟨Lc50, hQ50, l50, y50, z50⟩, st50⟩ := X49.virtualBack hx (y := (⟨"com/example/supplant/supplant/automata/TransducerBuilder", "isFinal", "(I)Z"⟩ : MethodName)) (z := (⟨"com/example/supplant/supplant/automata/TransducerBuilder", "isFinal", "(I)Z"⟩ : MethodName)) hown (mvT hZ (hw _ (List.mem_of_getElem? (i := 65) rfl))) (mvT hZ (hw _ (List.mem_of_getElem? (i := 66) rfl))) (notFace_of_selects (args := #[]) (mvT hZ (hw _ (List.mem_of_getElem? (i := 68) rfl)))) (mvT hZ (hw _ (List.mem_of_getElem? (i := 68) rfl))) (mvT hZ (hw _ (List.mem_of_getElem? (i := 67) rfl))) (by decide) (backOf (W := 0) (rm10 l Z _ hw [] b1 (8 : Int32) t44 (16 : Int32) (own_upd (fun _ => 0) (p0 &&& (7 : Int32)).toNatClampNeg (1 : Int32)) (0 : Int32) T44.heap n0 Zs46 Ff44 V44 (by decide) (by decide) (if_neg (by have := (own_mask7 p0).2; have e8 : (8 : Int32).toNatClampNeg = 8 := (by decide); omega)) (by decide)) hZ (hw _ (List.mem_of_getElem? (i := 69) rfl)) (hw _ (List.mem_of_getElem? (i := 2) rfl)) (by decide) (by decide)) q50a q50c (g := (mkF m 224 #[.val (.int p0), .val (.int p1), .val (.ref b1), .val (.int (0 : Int32)), .val (.int (1 : Int32)), .val (.int (2 : Int32)), .val (.int (3 : Int32)), .val (.int (4 : Int32)), .val (.int (5 : Int32)), .val (.int (6 : Int32)), .val (.int (7 : Int32)), .val (.int (1 : Int32)), .val (.int (p0 &&& (7 : Int32))), .val (.int (p1 &&& (7 : Int32))), .val (.int (8 : Int32)), .val (.int (1 : Int32))] [(.int (8 : Int32)), (.ref b1)])) rfl (by rw [hml]; rfl) (Steps.refl _) (argsL := [(.int (8 : Int32))]) (rest := []) (lenOf pd_7 rfl) rfl (by show 2 * 0 + _ ≤ _; exact Nat.le_of_eq rfl) (hb hby at_224) (fun _ _ => ⟨rfl, e49, (by decide : 6 + 0 ≤ _), (by decide : 66 + 0 ≤ _)⟩)
      dsimp only [Pt.U, Pt.locs, Pt.cells, Pt.slots] at X50 l50 y50 z50 st50 hQ50
      subst l50 y50 z50
      obtain ⟨rfl, N50q, e50⟩ := hQ50
      have N50 := Fr.app N49 N50q
      refine own_st ?_ (fun t k => st50.trans k)
      show own_G p.tables e below _ _ (T50.setTop (mkF m 227 #[.val (.int p0), .val (.int p1), .val (.ref b1), .val (.int (0 : Int32)), .val (.int (1 : Int32)), .val (.int (2 : Int32)), .val (.int (3 : Int32)), .val (.int (4 : Int32)), .val (.int (5 : Int32)), .val (.int (6 : Int32)), .val (.int (7 : Int32)), .val (.int (1 : Int32)), .val (.int (p0 &&& (7 : Int32))), .val (.int (p1 &&& (7 : Int32))), .val (.int (8 : Int32)), .val (.int (1 : Int32))] [(.int (0 : Int32))]))
      refine own_st ?_ (fun t k => XS.ifNo X50.here hx rfl (hb hby at_227) rfl ((if0 _ _).trans (teq (by decide : (0 : Int32) = (0 : Int32))).2) k)
      show own_G p.tables e below _ _ (T50.setTop (mkF m 230 #[.val (.int p0), .val (.int p1), .val (.ref b1), .val (.int (0 : Int32)), .val (.int (1 : Int32)), .val (.int (2 : Int32)), .val (.int (3 : Int32)), .val (.int (4 : Int32)), .val (.int (5 : Int32)), .val (.int (6 : Int32)), .val (.int (7 : Int32)), .val (.int (1 : Int32)), .val (.int (p0 &&& (7 : Int32))), .val (.int (p1 &&& (7 : Int32))), .val (.int (8 : Int32)), .val (.int (1 : Int32))] []))
      refine own_st ?_ (fun t k => XS.iconst X50.here hx rfl (hb hby at_230) k)
      show own_G p.tables e below _ _ (T50.setTop (mkF m 231 #[.val (.int p0), .val (.int p1), .val (.ref b1), .val (.int (0 : Int32)), .val (.int (1 : Int32)), .val (.int (2 : Int32)), .val (.int (3 : Int32)), .val (.int (4 : Int32)), .val (.int (5 : Int32)), .val (.int (6 : Int32)), .val (.int (7 : Int32)), .val (.int (1 : Int32)), .val (.int (p0 &&& (7 : Int32))), .val (.int (p1 &&& (7 : Int32))), .val (.int (8 : Int32)), .val (.int (1 : Int32))] [(.int (1 : Int32))]))
      refine own_st ?_ (fun t k => XS.goto X50.here hx rfl (pc0 := 231) (pc' := 235) rfl (hb hby at_231) (by decide) (by decide) k)
      show own_G p.tables e below _ _ (T50.setTop (mkF m 235 #[.val (.int p0), .val (.int p1), .val (.ref b1), .val (.int (0 : Int32)), .val (.int (1 : Int32)), .val (.int (2 : Int32)), .val (.int (3 : Int32)), .val (.int (4 : Int32)), .val (.int (5 : Int32)), .val (.int (6 : Int32)), .val (.int (7 : Int32)), .val (.int (1 : Int32)), .val (.int (p0 &&& (7 : Int32))), .val (.int (p1 &&& (7 : Int32))), .val (.int (8 : Int32)), .val (.int (1 : Int32))] [(.int (1 : Int32))]))
      exact own_retN X50 hx hlk (t := .boolean) hret (by simp) (hb hby at_235) (by decide) (by decide) (z' := (1 : Int32)) rfl ⟨rfl, N50⟩
    · refine own_st ?_ (fun t k => XS.aloadN X48.here hx rfl (hb hby at_193) rfl rfl k)
      show own_G p.tables e below _ _ (T48.setTop (mkF m 194 #[.val (.int p0), .val (.int p1), .val (.ref b1), .val (.int (0 : Int32)), .val (.int (1 : Int32)), .val (.int (2 : Int32)), .val (.int (3 : Int32)), .val (.int (4 : Int32)), .val (.int (5 : Int32)), .val (.int (6 : Int32)), .val (.int (7 : Int32)), .val (.int (1 : Int32)), .val (.int (p0 &&& (7 : Int32))), .val (.int (p1 &&& (7 : Int32))), .val (.int (8 : Int32)), .val (.int (1 : Int32))] [(.ref b1)]))
      refine own_st ?_ (fun t k => XS.iload X48.here hx rfl (hb hby at_194) rfl k)
      show own_G p.tables e below _ _ (T48.setTop (mkF m 196 #[.val (.int p0), .val (.int p1), .val (.ref b1), .val (.int (0 : Int32)), .val (.int (1 : Int32)), .val (.int (2 : Int32)), .val (.int (3 : Int32)), .val (.int (4 : Int32)), .val (.int (5 : Int32)), .val (.int (6 : Int32)), .val (.int (7 : Int32)), .val (.int (1 : Int32)), .val (.int (p0 &&& (7 : Int32))), .val (.int (p1 &&& (7 : Int32))), .val (.int (8 : Int32)), .val (.int (1 : Int32))] [(.int (p1 &&& (7 : Int32))), (.ref b1)]))
      obtain ⟨cq51, kq51, q51a, q51b, q51c⟩ := isOf hZ e48 F45_E
      obtain ⟨_, _, ⟨T51, L51, k51, n51⟩, -, X51, ⟨Lc51, hQ51, l51, y51, z51⟩, st51⟩ := X48.virtualBack hx (y := (⟨"com/example/supplant/supplant/automata/TransducerBuilder", "isFinal", "(I)Z"⟩ : MethodName)) (z := (⟨"com/example/supplant/supplant/automata/TransducerBuilder", "isFinal", "(I)Z"⟩ : MethodName)) hown (mvT hZ (hw _ (List.mem_of_getElem? (i := 65) rfl))) (mvT hZ (hw _ (List.mem_of_getElem? (i := 66) rfl))) (notFace_of_selects (args := #[]) (mvT hZ (hw _ (List.mem_of_getElem? (i := 68) rfl)))) (mvT hZ (hw _ (List.mem_of_getElem? (i := 68) rfl))) (mvT hZ (hw _ (List.mem_of_getElem? (i := 67) rfl))) (by decide) (backOf (W := 0) (rm10 l Z _ hw [] b1 (p1 &&& (7 : Int32)) t44 (16 : Int32) (own_upd (fun _ => 0) (p0 &&& (7 : Int32)).toNatClampNeg (1 : Int32)) (0 : Int32) T44.heap n0 Zs46 Ff44 V44 (own_mask7 p1).1 (Nat.lt_trans (own_mask7 p1).2 (by decide)) (if_neg fun q => hgf (own_clamp_inj (own_mask7 p1).1 (own_mask7 p0).1 q)) (by decide)) hZ (hw _ (List.mem_of_getElem? (i := 69) rfl)) (hw _ (List.mem_of_getElem? (i := 2) rfl)) (by decide) (by decide)) q51a q51c (g := (mkF m 196 #[.val (.int p0), .val (.int p1), .val (.ref b1), .val (.int (0 : Int32)), .val (.int (1 : Int32)), .val (.int (2 : Int32)), .val (.int (3 : Int32)), .val (.int (4 : Int32)), .val (.int (5 : Int32)), .val (.int (6 : Int32)), .val (.int (7 : Int32)), .val (.int (1 : Int32)), .val (.int (p0 &&& (7 : Int32))), .val (.int (p1 &&& (7 : Int32))), .val (.int (8 : Int32)), .val (.int (1 : Int32))] [(.int (p1 &&& (7 : Int32))), (.ref b1)])) rfl (by rw [hml]; rfl) (Steps.refl _) (argsL := [(.int (p1 &&& (7 : Int32)))]) (rest := []) (lenOf pd_7 rfl) rfl (by show 2 * 0 + _ ≤ _; exact Nat.le_of_eq rfl) (hb hby at_196) (fun _ _ => ⟨rfl, e48, (by decide : 6 + 0 ≤ _), (by decide : 66 + 0 ≤ _)⟩)
      dsimp only [Pt.U, Pt.locs, Pt.cells, Pt.slots] at X51 l51 y51 z51 st51 hQ51
      subst l51 y51 z51
      obtain ⟨rfl, N51q, e51⟩ := hQ51
      have N51 := Fr.app N48 N51q
      refine own_st ?_ (fun t k => st51.trans k)
      show own_G p.tables e below _ _ (T51.setTop (mkF m 199 #[.val (.int p0), .val (.int p1), .val (.ref b1), .val (.int (0 : Int32)), .val (.int (1 : Int32)), .val (.int (2 : Int32)), .val (.int (3 : Int32)), .val (.int (4 : Int32)), .val (.int (5 : Int32)), .val (.int (6 : Int32)), .val (.int (7 : Int32)), .val (.int (1 : Int32)), .val (.int (p0 &&& (7 : Int32))), .val (.int (p1 &&& (7 : Int32))), .val (.int (8 : Int32)), .val (.int (1 : Int32))] [(.int (0 : Int32))]))
      refine own_st ?_ (fun t k => XS.iload X51.here hx rfl (hb hby at_199) rfl k)
      show own_G p.tables e below _ _ (T51.setTop (mkF m 201 #[.val (.int p0), .val (.int p1), .val (.ref b1), .val (.int (0 : Int32)), .val (.int (1 : Int32)), .val (.int (2 : Int32)), .val (.int (3 : Int32)), .val (.int (4 : Int32)), .val (.int (5 : Int32)), .val (.int (6 : Int32)), .val (.int (7 : Int32)), .val (.int (1 : Int32)), .val (.int (p0 &&& (7 : Int32))), .val (.int (p1 &&& (7 : Int32))), .val (.int (8 : Int32)), .val (.int (1 : Int32))] [(.int (1 : Int32)), (.int (0 : Int32))]))
      refine own_st ?_ (fun t k => XS.ifNo X51.here hx rfl (hb hby at_201) rfl ((if0 _ _).trans (feq (by decide : ¬ ((1 : Int32) = (0 : Int32)))).1) k)
      show own_G p.tables e below _ _ (T51.setTop (mkF m 204 #[.val (.int p0), .val (.int p1), .val (.ref b1), .val (.int (0 : Int32)), .val (.int (1 : Int32)), .val (.int (2 : Int32)), .val (.int (3 : Int32)), .val (.int (4 : Int32)), .val (.int (5 : Int32)), .val (.int (6 : Int32)), .val (.int (7 : Int32)), .val (.int (1 : Int32)), .val (.int (p0 &&& (7 : Int32))), .val (.int (p1 &&& (7 : Int32))), .val (.int (8 : Int32)), .val (.int (1 : Int32))] [(.int (0 : Int32))]))
      refine own_st ?_ (fun t k => XS.iload X51.here hx rfl (hb hby at_204) rfl k)
      show own_G p.tables e below _ _ (T51.setTop (mkF m 206 #[.val (.int p0), .val (.int p1), .val (.ref b1), .val (.int (0 : Int32)), .val (.int (1 : Int32)), .val (.int (2 : Int32)), .val (.int (3 : Int32)), .val (.int (4 : Int32)), .val (.int (5 : Int32)), .val (.int (6 : Int32)), .val (.int (7 : Int32)), .val (.int (1 : Int32)), .val (.int (p0 &&& (7 : Int32))), .val (.int (p1 &&& (7 : Int32))), .val (.int (8 : Int32)), .val (.int (1 : Int32))] [(.int (p1 &&& (7 : Int32))), (.int (0 : Int32))]))
      refine own_st ?_ (fun t k => XS.iload X51.here hx rfl (hb hby at_206) rfl k)
      show own_G p.tables e below _ _ (T51.setTop (mkF m 208 #[.val (.int p0), .val (.int p1), .val (.ref b1), .val (.int (0 : Int32)), .val (.int (1 : Int32)), .val (.int (2 : Int32)), .val (.int (3 : Int32)), .val (.int (4 : Int32)), .val (.int (5 : Int32)), .val (.int (6 : Int32)), .val (.int (7 : Int32)), .val (.int (1 : Int32)), .val (.int (p0 &&& (7 : Int32))), .val (.int (p1 &&& (7 : Int32))), .val (.int (8 : Int32)), .val (.int (1 : Int32))] [(.int (p0 &&& (7 : Int32))), (.int (p1 &&& (7 : Int32))), (.int (0 : Int32))]))
      refine own_st ?_ (fun t k => XS.icmpYes X51.here hx rfl (pc0 := 208) (pc' := 215) rfl (hb hby at_208) rfl (feq hgf).2 (by decide) (by decide) k)
      show own_G p.tables e below _ _ (T51.setTop (mkF m 215 #[.val (.int p0), .val (.int p1), .val (.ref b1), .val (.int (0 : Int32)), .val (.int (1 : Int32)), .val (.int (2 : Int32)), .val (.int (3 : Int32)), .val (.int (4 : Int32)), .val (.int (5 : Int32)), .val (.int (6 : Int32)), .val (.int (7 : Int32)), .val (.int (1 : Int32)), .val (.int (p0 &&& (7 : Int32))), .val (.int (p1 &&& (7 : Int32))), .val (.int (8 : Int32)), .val (.int (1 : Int32))] [(.int (0 : Int32))]))
      refine own_st ?_ (fun t k => XS.iconst X51.here hx rfl (hb hby at_215) k)
      show own_G p.tables e below _ _ (T51.setTop (mkF m 216 #[.val (.int p0), .val (.int p1), .val (.ref b1), .val (.int (0 : Int32)), .val (.int (1 : Int32)), .val (.int (2 : Int32)), .val (.int (3 : Int32)), .val (.int (4 : Int32)), .val (.int (5 : Int32)), .val (.int (6 : Int32)), .val (.int (7 : Int32)), .val (.int (1 : Int32)), .val (.int (p0 &&& (7 : Int32))), .val (.int (p1 &&& (7 : Int32))), .val (.int (8 : Int32)), .val (.int (1 : Int32))] [(.int (0 : Int32)), (.int (0 : Int32))]))
      refine own_st ?_ (fun t k => XS.icmpYes X51.here hx rfl (pc0 := 216) (pc' := 221) rfl (hb hby at_216) rfl (teq (by decide : (0 : Int32) = (0 : Int32))).1 (by decide) (by decide) k)
      show own_G p.tables e below _ _ (T51.setTop (mkF m 221 #[.val (.int p0), .val (.int p1), .val (.ref b1), .val (.int (0 : Int32)), .val (.int (1 : Int32)), .val (.int (2 : Int32)), .val (.int (3 : Int32)), .val (.int (4 : Int32)), .val (.int (5 : Int32)), .val (.int (6 : Int32)), .val (.int (7 : Int32)), .val (.int (1 : Int32)), .val (.int (p0 &&& (7 : Int32))), .val (.int (p1 &&& (7 : Int32))), .val (.int (8 : Int32)), .val (.int (1 : Int32))] []))
      refine own_st ?_ (fun t k => XS.aloadN X51.here hx rfl (hb hby at_221) rfl rfl k)
      show own_G p.tables e below _ _ (T51.setTop (mkF m 222 #[.val (.int p0), .val (.int p1), .val (.ref b1), .val (.int (0 : Int32)), .val (.int (1 : Int32)), .val (.int (2 : Int32)), .val (.int (3 : Int32)), .val (.int (4 : Int32)), .val (.int (5 : Int32)), .val (.int (6 : Int32)), .val (.int (7 : Int32)), .val (.int (1 : Int32)), .val (.int (p0 &&& (7 : Int32))), .val (.int (p1 &&& (7 : Int32))), .val (.int (8 : Int32)), .val (.int (1 : Int32))] [(.ref b1)]))
      refine own_st ?_ (fun t k => XS.bipush X51.here hx rfl (hb hby at_222) k)
      show own_G p.tables e below _ _ (T51.setTop (mkF m 224 #[.val (.int p0), .val (.int p1), .val (.ref b1), .val (.int (0 : Int32)), .val (.int (1 : Int32)), .val (.int (2 : Int32)), .val (.int (3 : Int32)), .val (.int (4 : Int32)), .val (.int (5 : Int32)), .val (.int (6 : Int32)), .val (.int (7 : Int32)), .val (.int (1 : Int32)), .val (.int (p0 &&& (7 : Int32))), .val (.int (p1 &&& (7 : Int32))), .val (.int (8 : Int32)), .val (.int (1 : Int32))] [(.int (8 : Int32)), (.ref b1)]))
      obtain ⟨cq52, kq52, q52a, q52b, q52c⟩ := isOf hZ e51 F45_E
      obtain ⟨_, _, ⟨T52, L52, k52, n52⟩, -, X52, ⟨Lc52, hQ52, l52, y52, z52⟩, st52⟩ := X51.virtualBack hx (y := (⟨"com/example/supplant/supplant/automata/TransducerBuilder", "isFinal", "(I)Z"⟩ : MethodName)) (z := (⟨"com/example/supplant/supplant/automata/TransducerBuilder", "isFinal", "(I)Z"⟩ : MethodName)) hown (mvT hZ (hw _ (List.mem_of_getElem? (i := 65) rfl))) (mvT hZ (hw _ (List.mem_of_getElem? (i := 66) rfl))) (notFace_of_selects (args := #[]) (mvT hZ (hw _ (List.mem_of_getElem? (i := 68) rfl)))) (mvT hZ (hw _ (List.mem_of_getElem? (i := 68) rfl))) (mvT hZ (hw _ (List.mem_of_getElem? (i := 67) rfl))) (by decide) (backOf (W := 0) (rm10 l Z _ hw [] b1 (8 : Int32) t44 (16 : Int32) (own_upd (fun _ => 0) (p0 &&& (7 : Int32)).toNatClampNeg (1 : Int32)) (0 : Int32) T44.heap n0 Zs46 Ff44 V44 (by decide) (by decide) (if_neg (by have := (own_mask7 p0).2; have e8 : (8 : Int32).toNatClampNeg = 8 := (by decide); omega)) (by decide)) hZ (hw _ (List.mem_of_getElem? (i := 69) rfl)) (hw _ (List.mem_of_getElem? (i := 2) rfl)) (by decide) (by decide)) q52a q52c (g := (mkF m 224 #[.val (.int p0), .val (.int p1), .val (.ref b1), .val (.int (0 : Int32)), .val (.int (1 : Int32)), .val (.int (2 : Int32)), .val (.int (3 : Int32)), .val (.int (4 : Int32)), .val (.int (5 : Int32)), .val (.int (6 : Int32)), .val (.int (7 : Int32)), .val (.int (1 : Int32)), .val (.int (p0 &&& (7 : Int32))), .val (.int (p1 &&& (7 : Int32))), .val (.int (8 : Int32)), .val (.int (1 : Int32))] [(.int (8 : Int32)), (.ref b1)])) rfl (by rw [hml]; rfl) (Steps.refl _) (argsL := [(.int (8 : Int32))]) (rest := []) (lenOf pd_7 rfl) rfl (by show 2 * 0 + _ ≤ _; exact Nat.le_of_eq rfl) (hb hby at_224) (fun _ _ => ⟨rfl, e51, (by decide : 6 + 0 ≤ _), (by decide : 66 + 0 ≤ _)⟩)
      dsimp only [Pt.U, Pt.locs, Pt.cells, Pt.slots] at X52 l52 y52 z52 st52 hQ52
      subst l52 y52 z52
      obtain ⟨rfl, N52q, e52⟩ := hQ52
      have N52 := Fr.app N51 N52q
      refine own_st ?_ (fun t k => st52.trans k)
      show own_G p.tables e below _ _ (T52.setTop (mkF m 227 #[.val (.int p0), .val (.int p1), .val (.ref b1), .val (.int (0 : Int32)), .val (.int (1 : Int32)), .val (.int (2 : Int32)), .val (.int (3 : Int32)), .val (.int (4 : Int32)), .val (.int (5 : Int32)), .val (.int (6 : Int32)), .val (.int (7 : Int32)), .val (.int (1 : Int32)), .val (.int (p0 &&& (7 : Int32))), .val (.int (p1 &&& (7 : Int32))), .val (.int (8 : Int32)), .val (.int (1 : Int32))] [(.int (0 : Int32))]))
      refine own_st ?_ (fun t k => XS.ifNo X52.here hx rfl (hb hby at_227) rfl ((if0 _ _).trans (teq (by decide : (0 : Int32) = (0 : Int32))).2) k)
      show own_G p.tables e below _ _ (T52.setTop (mkF m 230 #[.val (.int p0), .val (.int p1), .val (.ref b1), .val (.int (0 : Int32)), .val (.int (1 : Int32)), .val (.int (2 : Int32)), .val (.int (3 : Int32)), .val (.int (4 : Int32)), .val (.int (5 : Int32)), .val (.int (6 : Int32)), .val (.int (7 : Int32)), .val (.int (1 : Int32)), .val (.int (p0 &&& (7 : Int32))), .val (.int (p1 &&& (7 : Int32))), .val (.int (8 : Int32)), .val (.int (1 : Int32))] []))
      refine own_st ?_ (fun t k => XS.iconst X52.here hx rfl (hb hby at_230) k)
      show own_G p.tables e below _ _ (T52.setTop (mkF m 231 #[.val (.int p0), .val (.int p1), .val (.ref b1), .val (.int (0 : Int32)), .val (.int (1 : Int32)), .val (.int (2 : Int32)), .val (.int (3 : Int32)), .val (.int (4 : Int32)), .val (.int (5 : Int32)), .val (.int (6 : Int32)), .val (.int (7 : Int32)), .val (.int (1 : Int32)), .val (.int (p0 &&& (7 : Int32))), .val (.int (p1 &&& (7 : Int32))), .val (.int (8 : Int32)), .val (.int (1 : Int32))] [(.int (1 : Int32))]))
      refine own_st ?_ (fun t k => XS.goto X52.here hx rfl (pc0 := 231) (pc' := 235) rfl (hb hby at_231) (by decide) (by decide) k)
      show own_G p.tables e below _ _ (T52.setTop (mkF m 235 #[.val (.int p0), .val (.int p1), .val (.ref b1), .val (.int (0 : Int32)), .val (.int (1 : Int32)), .val (.int (2 : Int32)), .val (.int (3 : Int32)), .val (.int (4 : Int32)), .val (.int (5 : Int32)), .val (.int (6 : Int32)), .val (.int (7 : Int32)), .val (.int (1 : Int32)), .val (.int (p0 &&& (7 : Int32))), .val (.int (p1 &&& (7 : Int32))), .val (.int (8 : Int32)), .val (.int (1 : Int32))] [(.int (1 : Int32))]))
      exact own_retN X52 hx hlk (t := .boolean) hret (by simp) (hb hby at_235) (by decide) (by decide) (z' := (1 : Int32)) rfl ⟨rfl, N52⟩
set_option maxRecDepth 65536 in
set_option maxHeartbeats 40000000 in
theorem comes_1 {Post : Tables → Env → Array Value → State → Outcome → State → Prop} (hpost : ∀ tb e args s v u, (limb_1_1.after args s (.returned v) u = true ∧ limb_1_2.after args s (.returned v) u = true ∧ True) → FrameEnd s (.returned v) u (Jvm.fieldLocs frame_1_writes args s ++ Jvm.arrayLocs frame_1_arrays args s ++ Jvm.staticLocs frame_1_statics s) 24 256 → Post tb e args s (.returned v) u) :
    ArmFor flags0 classFile x code maxLocals ret World_1 tables_1 room_1 Calls_1 rest_1 Pre_1 Post := by
  intro l hfl _ _ p e ha hc hk s m args below hf hA hF happ hP
  obtain ⟨hcalls, hrest, hpre⟩ := hP
  obtain ⟨-, -, -, hnamed, -, -, -, hat⟩ := (Spec.applies_iff hf).mp happ
  obtain ⟨hg, hn⟩ := and_e (Cond.before_iff.mp (show (Jvm.Cond.and given_1 narrow_1).before args s = true from hpre))
  obtain ⟨hcount, hgs0⟩ := and_e hg
  obtain ⟨w0, w1, rfl⟩ : ∃ w0 w1 : Value, args = #[w0, w1] := by
    have hs : args.size = 2 := by simpa [Cond.value, given_1] using hcount
    obtain ⟨L⟩ := args
    match L, hs with
    | [w0, w1], _ => exact ⟨w0, w1, rfl⟩
  have hw := fun d (hd : d ∈ tables_1) => atoms_spec (ws := Jvm.Cond.code x code maxLocals ret :: tables_1) hat d (List.mem_cons_of_mem _ hd)
  obtain ⟨hv0, hgs1⟩ := and_e hgs0
  obtain ⟨i0, ei0⟩ := is_v hv0
  obtain rfl : w0 = (.int i0) := Option.some.inj ei0
  have hv1 := hgs1
  obtain ⟨i1, ei1⟩ := is_v hv1
  obtain rfl : w1 = (.int i1) := Option.some.inj ei1
  obtain ⟨n, o, h1, h2, h3, _, L, rfl, ⟨rfl, N⟩, hq⟩ := rm0 l s _ hw tables_1 i0 i1  s.heap s.heap.size (Nat.le_refl _)  p e ha hc hk s m _ below hf ((Spec.applies_iff_loose hf).mp happ).1 ⟨rfl, State.Warmed39.refl s, rfl⟩ trivial
  skip
  refine ⟨n, _, h1, h2, h3, hpost _ _ _ _ _ _ ⟨Cond.after_iff.mpr rfl, Cond.after_iff.mpr (eq_i res_at (Term.int_eval (1)) rfl), trivial⟩ ⟨⟨_, rfl⟩, hq.2.1, (hq.2.2.sift fun y hy => Or.inr (N y hy)).mono (by decide) (by decide)⟩⟩
theorem main_1_1 : Claimed_1_1 := comes_1 fun _ _ _ _ _ _ h hF => ⟨h.1, hF⟩
theorem main_1_2 : Claimed_1_2 := comes_1 fun _ _ _ _ _ _ h hF => ⟨h.2.1, hF⟩
end Jvm.Pilot.@@N@@
namespace Jvm.Pilot.@@N@@
open Jvm Jvm.ClassFile Sem Op Lib Jvm.Free Jvm.Stand Jvm.Pilot.@@N@@.Jvm.D
/-! MADE BY PROGRAM (witnessworld.py) out of the Statement's table words and the real class files: 17 classes; the members and pool entries that the words name. The judged class is class 1, her method 1. -/
namespace start1
open Jvm.ClassFile
def u (s : String) : CpInfo := .utf8 (stringToUtf16 s)
/-- a pool by its gaps: so many unusable entries, then the entry; so many at the end -/
def gap : Nat → List CpInfo → List CpInfo
  | 0, r => r
  | n + 1, r => .unusable :: gap n r
def poolList (es : List (Nat × CpInfo)) (last : Nat) : List CpInfo := es.foldr (fun e r => gap e.1 (e.2 :: r)) (gap last [])
def pool (es : List (Nat × CpInfo)) (last : Nat) : Array CpInfo := ⟨poolList es last⟩
def fileOf (pool : Array CpInfo) (this : Nat) (attrs : Array Attribute := #[]) (ms : Array MethodInfo := #[]) (fl : Nat := 33) (sup : Nat := 0) (ifs : Array Nat := #[]) (fds : Array FieldInfo := #[]) : ClassFile where
  minorVersion := 0
  majorVersion := 65
  constantPool := pool
  accessFlags := fl
  thisClass := this
  superClass := sup
  interfaces := ifs
  fields := fds
  methods := ms
  attributes := attrs
def plain (name : String) (sup : Option ClassId) : Class where
  name := name
  kind := .ordinary
  loader := none
  accessFlags := 33
  super := sup
  interfaces := #[]
  cf := none
  fields := #[]
  methods := #[]
  instanceTypes := #[]
  staticTypes := #[]
  resolved := #[]
  callSites := []
  init := .initialized
  statics := none
  mirror := none

def pool0 : Array CpInfo := pool [(5, u "<init>"), (0, u "()V"), (1, .class_ 10), (1, u "java/lang/Object")] 113

def k0c0 : Code := { maxStack := 0, maxLocals := 1, code := object_method_1_code, exceptionTable := #[], attributes := #[] }
def k0m0 : Method := { name := "<init>", desc := "()V", sig := { parameters := [], returnType := none }, accessFlags := 1, code := some k0c0 }
/-- java/lang/Object -/
def k0 : Class := { plain "java/lang/Object" none with
  accessFlags := 33
  interfaces := #[]
  cf := some (fileOf pool0 8 #[] #[{ accessFlags := 1, nameIndex := 5, descriptorIndex := 6, attributes := #[] }] 33 0 #[] #[])
  fields := #[]
  methods := #[k0m0]
  instanceTypes := #[]
  staticTypes := #[]
  resolved := Array.replicate 124 none
  statics := none }

def pool1 : Array CpInfo := pool [(2, .class_ 4), (1, u "java/lang/Object"), (0, u "<init>"), (0, u "()V"), (0, .class_ 8), (0, u "com/example/supplant/supplant/automata/TransducerBuilder"), (0, .methodref 7 10), (0, .nameAndType 5 11), (0, u "(Lcom/example/supplant/supplant/automata/SymbolTable;)V"), (0, .methodref 7 13), (0, .nameAndType 14 15), (0, u "addState"), (0, u "()I"), (0, .methodref 7 17), (0, .nameAndType 18 19), (0, u "setFinal"), (0, u "(IZ)V"), (0, .methodref 7 21), (0, .nameAndType 22 15), (0, u "stateCount"), (0, .methodref 7 24), (0, .nameAndType 25 26), (0, u "isFinal"), (0, u "(I)Z"), (0, .class_ 28), (0, u "com/example/supplant/supplant/automata/TransducerBuilderAddStatePinLaw"), (2, u "law"), (0, u "(II)Z")] 3

def k1m0 : Method := { name := "<init>", desc := "()V", sig := { parameters := [], returnType := none }, accessFlags := 1, code := none }
def k1c1 : Code := { maxStack := 3, maxLocals := 16, code := code, exceptionTable := #[], attributes := #[] }
def k1m1 : Method := { name := "law", desc := "(II)Z", sig := { parameters := [.int, .int], returnType := some .boolean }, accessFlags := 9, code := some k1c1 }
/-- com/example/supplant/supplant/automata/TransducerBuilderAddStatePinLaw -/
def k1 : Class := { plain "com/example/supplant/supplant/automata/TransducerBuilderAddStatePinLaw" (some 0) with
  accessFlags := 49
  interfaces := #[]
  cf := some (fileOf pool1 27 #[] #[{ accessFlags := 1, nameIndex := 5, descriptorIndex := 6, attributes := #[] }, { accessFlags := 9, nameIndex := 31, descriptorIndex := 32, attributes := #[] }] 49 2 #[] #[])
  fields := #[]
  methods := #[k1m0, k1m1]
  instanceTypes := #[]
  staticTypes := #[]
  resolved := Array.replicate 36 none
  statics := none }

def pool2 : Array CpInfo := pool [(1, .methodref 2 3), (0, .class_ 4), (0, .nameAndType 5 6), (0, u "java/lang/Object"), (0, u "<init>"), (0, u "()V"), (0, .class_ 8), (0, u "java/util/BitSet"), (0, .methodref 7 3), (0, .fieldref 11 12), (0, .class_ 13), (0, .nameAndType 14 15), (0, u "com/example/supplant/supplant/automata/TransducerBuilder"), (0, u "alphabet"), (0, u "Ljava/util/BitSet;"), (0, .fieldref 11 17), (0, .nameAndType 18 19), (0, u "finals"), (0, u "[Z"), (0, .fieldref 11 21), (0, .nameAndType 22 23), (0, u "arcs"), (0, u "[I"), (0, .fieldref 11 25), (0, .nameAndType 26 27), (0, u "symbols"), (0, u "Lcom/example/supplant/supplant/automata/SymbolTable;"), (7, .fieldref 11 36), (0, .nameAndType 37 38), (0, u "stateCount"), (0, u "I"), (0, .methodref 40 41), (0, .class_ 42), (0, .nameAndType 43 44), (0, u "java/util/Arrays"), (0, u "copyOf"), (0, u "([ZI)[Z"), (2, u "arcCount"), (13, u "()I"), (2, u "addState"), (2, u "isFinal"), (0, u "(I)Z"), (2, u "setFinal"), (0, u "(IZ)V"), (57, u "(Lcom/example/supplant/supplant/automata/SymbolTable;)V")] 37

def k2c0 : Code := { maxStack := 3, maxLocals := 2, code := prog_18_method_1_code, exceptionTable := #[], attributes := #[] }
def k2m0 : Method := { name := "<init>", desc := "(Lcom/example/supplant/supplant/automata/SymbolTable;)V", sig := { parameters := [(.object "com/example/supplant/supplant/automata/SymbolTable")], returnType := none }, accessFlags := 0, code := some k2c0 }
def k2c1 : Code := { maxStack := 4, maxLocals := 1, code := prog_18_method_5_code, exceptionTable := #[], attributes := #[] }
def k2m1 : Method := { name := "addState", desc := "()I", sig := { parameters := [], returnType := some .int }, accessFlags := 0, code := some k2c1 }
def k2c2 : Code := { maxStack := 1, maxLocals := 1, code := prog_18_method_6_code, exceptionTable := #[], attributes := #[] }
def k2m2 : Method := { name := "stateCount", desc := "()I", sig := { parameters := [], returnType := some .int }, accessFlags := 0, code := some k2c2 }
def k2c3 : Code := { maxStack := 3, maxLocals := 3, code := prog_18_method_7_code, exceptionTable := #[], attributes := #[] }
def k2m3 : Method := { name := "setFinal", desc := "(IZ)V", sig := { parameters := [.int, .boolean], returnType := none }, accessFlags := 0, code := some k2c3 }
def k2c4 : Code := { maxStack := 2, maxLocals := 2, code := prog_18_method_8_code, exceptionTable := #[], attributes := #[] }
def k2m4 : Method := { name := "isFinal", desc := "(I)Z", sig := { parameters := [.int], returnType := some .boolean }, accessFlags := 0, code := some k2c4 }
/-- com/example/supplant/supplant/automata/TransducerBuilder -/
def k2 : Class := { plain "com/example/supplant/supplant/automata/TransducerBuilder" (some 0) with
  accessFlags := 48
  interfaces := #[]
  cf := some (fileOf pool2 11 #[] #[{ accessFlags := 0, nameIndex := 5, descriptorIndex := 130, attributes := #[] }, { accessFlags := 0, nameIndex := 64, descriptorIndex := 61, attributes := #[] }, { accessFlags := 0, nameIndex := 37, descriptorIndex := 61, attributes := #[] }, { accessFlags := 0, nameIndex := 71, descriptorIndex := 72, attributes := #[] }, { accessFlags := 0, nameIndex := 67, descriptorIndex := 68, attributes := #[] }] 48 2 #[] #[{ accessFlags := 18, nameIndex := 26, descriptorIndex := 27, attributes := #[] }, { accessFlags := 18, nameIndex := 14, descriptorIndex := 15, attributes := #[] }, { accessFlags := 2, nameIndex := 18, descriptorIndex := 19, attributes := #[] }, { accessFlags := 2, nameIndex := 37, descriptorIndex := 38, attributes := #[] }, { accessFlags := 2, nameIndex := 22, descriptorIndex := 23, attributes := #[] }, { accessFlags := 2, nameIndex := 47, descriptorIndex := 38, attributes := #[] }])
  fields := #[{ name := "symbols", type := (.object "com/example/supplant/supplant/automata/SymbolTable"), accessFlags := 18, slot := 0, constantValue := 0 }, { name := "alphabet", type := (.object "java/util/BitSet"), accessFlags := 18, slot := 1, constantValue := 0 }, { name := "finals", type := (.array .boolean), accessFlags := 2, slot := 2, constantValue := 0 }, { name := "stateCount", type := .int, accessFlags := 2, slot := 3, constantValue := 0 }, { name := "arcs", type := (.array .int), accessFlags := 2, slot := 4, constantValue := 0 }, { name := "arcCount", type := .int, accessFlags := 2, slot := 5, constantValue := 0 }]
  methods := #[k2m0, k2m1, k2m2, k2m3, k2m4]
  instanceTypes := #[(.object "com/example/supplant/supplant/automata/SymbolTable"), (.object "java/util/BitSet"), (.array .boolean), .int, (.array .int), .int]
  staticTypes := #[]
  resolved := Array.replicate 168 none
  statics := none }

def pool3 : Array CpInfo := pool [(1, .class_ 2), (0, u "java/lang/Cloneable"), (0, .class_ 4), (0, u "java/lang/Object")] 2

/-- java/lang/Cloneable -/
def k3 : Class := { plain "java/lang/Cloneable" (some 0) with
  accessFlags := 1537
  interfaces := #[]
  cf := some (fileOf pool3 1 #[] #[] 1537 3 #[] #[])
  fields := #[]
  methods := #[]
  instanceTypes := #[]
  staticTypes := #[]
  resolved := Array.replicate 7 none
  statics := none }

def pool4 : Array CpInfo := pool [(1, .class_ 2), (0, u "java/io/Serializable"), (0, .class_ 4), (0, u "java/lang/Object")] 2

/-- java/io/Serializable -/
def k4 : Class := { plain "java/io/Serializable" (some 0) with
  accessFlags := 1537
  interfaces := #[]
  cf := some (fileOf pool4 1 #[] #[] 1537 3 #[] #[])
  fields := #[]
  methods := #[]
  instanceTypes := #[]
  staticTypes := #[]
  resolved := Array.replicate 7 none
  statics := none }

def pool5 : Array CpInfo := pool [(1, .class_ 2), (0, u "java/util/BitSet"), (2, u "$assertionsDisabled"), (0, u "Z"), (0, .fieldref 1 8), (0, .nameAndType 9 10), (0, u "wordsInUse"), (0, u "I"), (0, .fieldref 1 12), (0, .nameAndType 13 14), (0, u "words"), (0, u "[J"), (3, .nameAndType 19 20), (0, u "<init>"), (0, u "()V"), (0, .methodref 22 18), (0, .class_ 23), (0, u "java/lang/Object"), (0, .fieldref 1 25), (0, .nameAndType 26 6), (0, u "sizeIsSticky"), (0, .methodref 1 28), (0, .nameAndType 29 30), (0, u "initWords"), (0, u "(I)V"), (21, .methodref 1 53), (0, .nameAndType 54 55), (0, u "wordIndex"), (0, u "(I)I"), (213, .class_ 270), (0, u "java/util/BitSet$1BitSetSpliterator"), (22, u "serialPersistentFields"), (0, u "[Ljava/io/ObjectStreamField;"), (0, .class_ 296), (0, u "java/lang/Cloneable"), (0, .class_ 298), (0, u "java/io/Serializable"), (0, u "ADDRESS_BITS_PER_WORD"), (2, u "BITS_PER_WORD"), (1, u "BIT_INDEX_MASK"), (1, u "WORD_MASK"), (0, u "J"), (0, u "serialVersionUID")] 108

def k5c0 : Code := { maxStack := 2, maxLocals := 1, code := jdk_92_method_1_code, exceptionTable := #[], attributes := #[] }
def k5m0 : Method := { name := "wordIndex", desc := "(I)I", sig := { parameters := [.int], returnType := some .int }, accessFlags := 10, code := some k5c0 }
def k5c1 : Code := { maxStack := 2, maxLocals := 1, code := jdk_92_method_4_code, exceptionTable := #[], attributes := #[] }
def k5m1 : Method := { name := "<init>", desc := "()V", sig := { parameters := [], returnType := none }, accessFlags := 1, code := some k5c1 }
def k5c2 : Code := { maxStack := 3, maxLocals := 2, code := jdk_92_method_6_code, exceptionTable := #[], attributes := #[] }
def k5m2 : Method := { name := "initWords", desc := "(I)V", sig := { parameters := [.int], returnType := none }, accessFlags := 2, code := some k5c2 }
/-- java/util/BitSet -/
def k5 : Class := { plain "java/util/BitSet" (some 0) with
  accessFlags := 33
  interfaces := #[3, 4]
  cf := some (fileOf pool5 1 #[.nestMembers #[269]] #[{ accessFlags := 10, nameIndex := 54, descriptorIndex := 55, attributes := #[] }, { accessFlags := 1, nameIndex := 19, descriptorIndex := 20, attributes := #[] }, { accessFlags := 2, nameIndex := 29, descriptorIndex := 30, attributes := #[] }] 33 22 #[295, 297] #[{ accessFlags := 26, nameIndex := 299, descriptorIndex := 10, attributes := #[] }, { accessFlags := 26, nameIndex := 302, descriptorIndex := 10, attributes := #[] }, { accessFlags := 26, nameIndex := 304, descriptorIndex := 10, attributes := #[] }, { accessFlags := 26, nameIndex := 306, descriptorIndex := 307, attributes := #[] }, { accessFlags := 26, nameIndex := 293, descriptorIndex := 294, attributes := #[] }, { accessFlags := 2, nameIndex := 13, descriptorIndex := 14, attributes := #[] }, { accessFlags := 130, nameIndex := 9, descriptorIndex := 10, attributes := #[] }, { accessFlags := 130, nameIndex := 26, descriptorIndex := 6, attributes := #[] }, { accessFlags := 26, nameIndex := 308, descriptorIndex := 307, attributes := #[] }, { accessFlags := 4120, nameIndex := 5, descriptorIndex := 6, attributes := #[] }])
  fields := #[{ name := "ADDRESS_BITS_PER_WORD", type := .int, accessFlags := 26, slot := 0, constantValue := 0 }, { name := "BITS_PER_WORD", type := .int, accessFlags := 26, slot := 1, constantValue := 0 }, { name := "BIT_INDEX_MASK", type := .int, accessFlags := 26, slot := 2, constantValue := 0 }, { name := "WORD_MASK", type := .long, accessFlags := 26, slot := 3, constantValue := 0 }, { name := "serialPersistentFields", type := (.array (.object "java/io/ObjectStreamField")), accessFlags := 26, slot := 4, constantValue := 0 }, { name := "words", type := (.array .long), accessFlags := 2, slot := 0, constantValue := 0 }, { name := "wordsInUse", type := .int, accessFlags := 130, slot := 1, constantValue := 0 }, { name := "sizeIsSticky", type := .boolean, accessFlags := 130, slot := 2, constantValue := 0 }, { name := "serialVersionUID", type := .long, accessFlags := 26, slot := 5, constantValue := 0 }, { name := "$assertionsDisabled", type := .boolean, accessFlags := 4120, slot := 6, constantValue := 0 }]
  methods := #[k5m0, k5m1, k5m2]
  instanceTypes := #[(.array .long), .int, .boolean]
  staticTypes := #[.int, .int, .int, .long, (.array (.object "java/io/ObjectStreamField")), .long, .boolean]
  resolved := Array.replicate 417 none
  statics := none }

def pool6 : Array CpInfo := pool [(2, .class_ 4), (1, u "java/lang/Object"), (0, u "<init>"), (0, u "()V"), (7, .class_ 16), (1, u "java/util/Arrays"), (57, .class_ 76), (1, u "java/util/Arrays$NaturalOrder"), (36, .class_ 115), (1, u "java/util/Arrays$LegacyMergeSort"), (1, u "Z"), (32, .methodref 151 152), (0, .class_ 153), (0, .nameAndType 154 155), (0, u "java/lang/System"), (0, u "arraycopy"), (0, u "(Ljava/lang/Object;ILjava/lang/Object;II)V"), (146, u "copyOf"), (1, .methodref 305 306), (0, .class_ 307), (0, .nameAndType 308 309), (0, u "java/lang/Math"), (0, u "min"), (0, u "(II)I"), (65, .class_ 376), (0, u "java/util/Arrays$ArrayList"), (68, u "$assertionsDisabled"), (269, u "MIN_ARRAY_SORT_GRAN"), (0, u "I"), (2, u "INSERTIONSORT_THRESHOLD"), (156, u "([ZI)[Z"), (98, .class_ 976), (0, u "java/util/Arrays$ArrayItr")] 52

def k6m0 : Method := { name := "<init>", desc := "()V", sig := { parameters := [], returnType := none }, accessFlags := 2, code := none }
def k6c1 : Code := { maxStack := 6, maxLocals := 3, code := jdk_65_method_128_code, exceptionTable := #[], attributes := #[] }
def k6m1 : Method := { name := "copyOf", desc := "([ZI)[Z", sig := { parameters := [(.array .boolean), .int], returnType := some (.array .boolean) }, accessFlags := 9, code := some k6c1 }
/-- java/util/Arrays -/
def k6 : Class := { plain "java/util/Arrays" (some 0) with
  accessFlags := 49
  interfaces := #[]
  cf := some (fileOf pool6 14 #[.nestMembers #[975, 375, 113, 74]] #[{ accessFlags := 2, nameIndex := 5, descriptorIndex := 6, attributes := #[] }, { accessFlags := 9, nameIndex := 302, descriptorIndex := 876, attributes := #[] }] 49 2 #[] #[{ accessFlags := 26, nameIndex := 715, descriptorIndex := 716, attributes := #[] }, { accessFlags := 26, nameIndex := 719, descriptorIndex := 716, attributes := #[] }, { accessFlags := 4120, nameIndex := 445, descriptorIndex := 117, attributes := #[] }])
  fields := #[{ name := "MIN_ARRAY_SORT_GRAN", type := .int, accessFlags := 26, slot := 0, constantValue := 0 }, { name := "INSERTIONSORT_THRESHOLD", type := .int, accessFlags := 26, slot := 1, constantValue := 0 }, { name := "$assertionsDisabled", type := .boolean, accessFlags := 4120, slot := 2, constantValue := 0 }]
  methods := #[k6m0, k6m1]
  instanceTypes := #[]
  staticTypes := #[.int, .int, .boolean]
  resolved := Array.replicate 1029 none
  statics := none }

def pool7 : Array CpInfo := pool [(1, .class_ 2), (0, u "java/lang/Math"), (1, .class_ 6), (1, u "java/lang/Object"), (0, u "<init>"), (0, u "()V"), (89, .class_ 100), (1, u "java/lang/Math$RandomNumberGeneratorHolder"), (71, u "negativeZeroFloatBits"), (0, u "J"), (2, u "negativeZeroDoubleBits"), (24, u "min"), (43, u "$assertionsDisabled"), (0, u "Z"), (88, u "(II)I"), (2, u "twoToTheDoubleScaleDown"), (0, u "D"), (4, u "twoToTheDoubleScaleUp"), (9, u "E"), (3, u "PI"), (2, u "TAU"), (2, u "DEGREES_TO_RADIANS"), (0, u "RADIANS_TO_DEGREES")] 94

def k7m0 : Method := { name := "<init>", desc := "()V", sig := { parameters := [], returnType := none }, accessFlags := 2, code := none }
def k7c1 : Code := { maxStack := 2, maxLocals := 2, code := jdk_29_method_69_code, exceptionTable := #[], attributes := #[] }
def k7m1 : Method := { name := "min", desc := "(II)I", sig := { parameters := [.int, .int], returnType := some .int }, accessFlags := 9, code := some k7c1 }
/-- java/lang/Math -/
def k7 : Class := { plain "java/lang/Math" (some 0) with
  accessFlags := 49
  interfaces := #[]
  cf := some (fileOf pool7 1 #[.nestMembers #[98]] #[{ accessFlags := 2, nameIndex := 7, descriptorIndex := 8, attributes := #[] }, { accessFlags := 9, nameIndex := 201, descriptorIndex := 335, attributes := #[] }] 49 4 #[] #[{ accessFlags := 25, nameIndex := 354, descriptorIndex := 339, attributes := #[] }, { accessFlags := 25, nameIndex := 358, descriptorIndex := 339, attributes := #[] }, { accessFlags := 25, nameIndex := 361, descriptorIndex := 339, attributes := #[] }, { accessFlags := 26, nameIndex := 364, descriptorIndex := 339, attributes := #[] }, { accessFlags := 26, nameIndex := 365, descriptorIndex := 339, attributes := #[] }, { accessFlags := 26, nameIndex := 172, descriptorIndex := 173, attributes := #[] }, { accessFlags := 26, nameIndex := 176, descriptorIndex := 173, attributes := #[] }, { accessFlags := 8, nameIndex := 344, descriptorIndex := 339, attributes := #[] }, { accessFlags := 8, nameIndex := 338, descriptorIndex := 339, attributes := #[] }, { accessFlags := 4120, nameIndex := 245, descriptorIndex := 246, attributes := #[] }])
  fields := #[{ name := "E", type := .double, accessFlags := 25, slot := 0, constantValue := 0 }, { name := "PI", type := .double, accessFlags := 25, slot := 1, constantValue := 0 }, { name := "TAU", type := .double, accessFlags := 25, slot := 2, constantValue := 0 }, { name := "DEGREES_TO_RADIANS", type := .double, accessFlags := 26, slot := 3, constantValue := 0 }, { name := "RADIANS_TO_DEGREES", type := .double, accessFlags := 26, slot := 4, constantValue := 0 }, { name := "negativeZeroFloatBits", type := .long, accessFlags := 26, slot := 5, constantValue := 0 }, { name := "negativeZeroDoubleBits", type := .long, accessFlags := 26, slot := 6, constantValue := 0 }, { name := "twoToTheDoubleScaleUp", type := .double, accessFlags := 8, slot := 7, constantValue := 0 }, { name := "twoToTheDoubleScaleDown", type := .double, accessFlags := 8, slot := 8, constantValue := 0 }, { name := "$assertionsDisabled", type := .boolean, accessFlags := 4120, slot := 9, constantValue := 0 }]
  methods := #[k7m0, k7m1]
  instanceTypes := #[]
  staticTypes := #[.double, .double, .double, .double, .double, .long, .long, .double, .double, .boolean]
  resolved := Array.replicate 460 none
  statics := none }

def pool8 : Array CpInfo := pool [(2, .class_ 4), (1, u "java/lang/Object"), (0, u "<init>"), (0, u "()V"), (1, .class_ 10), (1, u "java/lang/System"), (0, u "allowSecurityManager"), (0, u "I"), (16, u "cons"), (0, u "Ljava/io/Console;"), (77, .class_ 110), (1, u "java/lang/System$CallersHolder"), (43, u "initialErrStream"), (0, u "Ljava/io/PrintStream;"), (19, u "security"), (0, u "Ljava/lang/SecurityManager;"), (31, .class_ 209), (0, u "java/lang/System$1"), (7, u "props"), (0, u "Ljava/util/Properties;"), (2, u "lineSeparator"), (0, u "Ljava/lang/String;"), (96, .class_ 321), (1, u "java/lang/System$LoggerFinder"), (5, .class_ 328), (0, u "java/lang/System$Logger"), (67, u "err"), (2, u "out"), (91, u "notSupportedJnuEncoding"), (15, u "in"), (17, u "initialIn"), (0, u "Ljava/io/InputStream;"), (35, u "bootLayer"), (0, u "Ljava/lang/ModuleLayer;"), (99, .class_ 664), (0, u "java/lang/System$2"), (9, u "NEVER"), (2, u "MAYBE"), (49, u "arraycopy"), (0, u "(Ljava/lang/Object;ILjava/lang/Object;II)V"), (72, .class_ 802), (0, u "java/lang/System$Logger$Level")] 31

def k8m0 : Method := { name := "<init>", desc := "()V", sig := { parameters := [], returnType := none }, accessFlags := 2, code := none }
def k8m1 : Method := { name := "arraycopy", desc := "(Ljava/lang/Object;ILjava/lang/Object;II)V", sig := { parameters := [(.object "java/lang/Object"), .int, (.object "java/lang/Object"), .int, .int], returnType := none }, accessFlags := 265, code := none }
/-- java/lang/System -/
def k8 : Class := { plain "java/lang/System" (some 0) with
  accessFlags := 49
  interfaces := #[]
  cf := some (fileOf pool8 8 #[.nestMembers #[319, 327, 801, 108, 663, 208]] #[{ accessFlags := 2, nameIndex := 5, descriptorIndex := 6, attributes := #[] }, { accessFlags := 265, nameIndex := 727, descriptorIndex := 728, attributes := #[] }] 49 2 #[] #[{ accessFlags := 25, nameIndex := 507, descriptorIndex := 526, attributes := #[] }, { accessFlags := 25, nameIndex := 399, descriptorIndex := 155, attributes := #[] }, { accessFlags := 25, nameIndex := 396, descriptorIndex := 155, attributes := #[] }, { accessFlags := 10, nameIndex := 525, descriptorIndex := 526, attributes := #[] }, { accessFlags := 26, nameIndex := 674, descriptorIndex := 12, attributes := #[] }, { accessFlags := 26, nameIndex := 677, descriptorIndex := 12, attributes := #[] }, { accessFlags := 10, nameIndex := 11, descriptorIndex := 12, attributes := #[] }, { accessFlags := 74, nameIndex := 175, descriptorIndex := 176, attributes := #[] }, { accessFlags := 10, nameIndex := 491, descriptorIndex := 222, attributes := #[] }, { accessFlags := 74, nameIndex := 29, descriptorIndex := 30, attributes := #[] }, { accessFlags := 74, nameIndex := 154, descriptorIndex := 155, attributes := #[] }, { accessFlags := 10, nameIndex := 217, descriptorIndex := 218, attributes := #[] }, { accessFlags := 10, nameIndex := 221, descriptorIndex := 222, attributes := #[] }, { accessFlags := 8, nameIndex := 562, descriptorIndex := 563, attributes := #[] }])
  fields := #[{ name := "in", type := (.object "java/io/InputStream"), accessFlags := 25, slot := 0, constantValue := 0 }, { name := "out", type := (.object "java/io/PrintStream"), accessFlags := 25, slot := 1, constantValue := 0 }, { name := "err", type := (.object "java/io/PrintStream"), accessFlags := 25, slot := 2, constantValue := 0 }, { name := "initialIn", type := (.object "java/io/InputStream"), accessFlags := 10, slot := 3, constantValue := 0 }, { name := "NEVER", type := .int, accessFlags := 26, slot := 4, constantValue := 0 }, { name := "MAYBE", type := .int, accessFlags := 26, slot := 5, constantValue := 0 }, { name := "allowSecurityManager", type := .int, accessFlags := 10, slot := 6, constantValue := 0 }, { name := "security", type := (.object "java/lang/SecurityManager"), accessFlags := 74, slot := 7, constantValue := 0 }, { name := "notSupportedJnuEncoding", type := (.object "java/lang/String"), accessFlags := 10, slot := 8, constantValue := 0 }, { name := "cons", type := (.object "java/io/Console"), accessFlags := 74, slot := 9, constantValue := 0 }, { name := "initialErrStream", type := (.object "java/io/PrintStream"), accessFlags := 74, slot := 10, constantValue := 0 }, { name := "props", type := (.object "java/util/Properties"), accessFlags := 10, slot := 11, constantValue := 0 }, { name := "lineSeparator", type := (.object "java/lang/String"), accessFlags := 10, slot := 12, constantValue := 0 }, { name := "bootLayer", type := (.object "java/lang/ModuleLayer"), accessFlags := 8, slot := 13, constantValue := 0 }]
  methods := #[k8m0, k8m1]
  instanceTypes := #[]
  staticTypes := #[(.object "java/io/InputStream"), (.object "java/io/PrintStream"), (.object "java/io/PrintStream"), (.object "java/io/InputStream"), .int, .int, .int, (.object "java/lang/SecurityManager"), (.object "java/lang/String"), (.object "java/io/Console"), (.object "java/io/PrintStream"), (.object "java/util/Properties"), (.object "java/lang/String"), (.object "java/lang/ModuleLayer")]
  resolved := Array.replicate 834 none
  statics := none }

/-- the primitive boolean -/
def k9 : Class := { plain "boolean" none with kind := .primitive 'Z', accessFlags := 0x411 }
/-- [Z -/
def k10 : Class := { plain "[Z" (some 0) with kind := .array 9 .boolean, interfaces := #[3, 4], accessFlags := 1041 }

/-- the primitive byte -/
def k11 : Class := { plain "byte" none with kind := .primitive 'B', accessFlags := 0x411 }
/-- [B -/
def k12 : Class := { plain "[B" (some 0) with kind := .array 11 .byte, interfaces := #[3, 4], accessFlags := 1041 }

/-- the primitive int -/
def k13 : Class := { plain "int" none with kind := .primitive 'I', accessFlags := 0x411 }
/-- [I -/
def k14 : Class := { plain "[I" (some 0) with kind := .array 13 .int, interfaces := #[3, 4], accessFlags := 1041 }

/-- the primitive long -/
def k15 : Class := { plain "long" none with kind := .primitive 'J', accessFlags := 0x411 }
/-- [J -/
def k16 : Class := { plain "[J" (some 0) with kind := .array 15 .long, interfaces := #[3, 4], accessFlags := 1041 }

def heap : Heap := #[]
def classes : Array Class := #[k0, k1, k2, k3, k4, k5, k6, k7, k8, k9, k10, k11, k12, k13, k14, k15, k16]
def interned : List (Array UInt16 × Addr) := []
def slotsUsed : Nat := 0
def theMethod : MethodId := ⟨1, 1⟩
def args0 : Array Value := #[.int 13, .int 5]
def aboutOver (below : List Frame) : State where
  vm := { classes := classes, interned := interned.toArray }
  heap := heap
  slotsUsed := slotsUsed
  threads := #[{ frames := .invoking theMethod args0 :: below }]
def below0 : List Frame := [.native { method := ⟨0, 0⟩, args := #[] }]
def about1 : State := aboutOver below0
def p0 : Program := .bare "" "" ""
def e0 : Env := launch0.env 0 0 0
theorem w_frames : about1.frames = Frame.invoking theMethod args0 :: below0 := rfl
set_option maxRecDepth 65536 in
theorem w_args : argsFit about1.vm theMethod args0 = true := by decide +kernel
set_option maxRecDepth 65536 in
theorem w_heap : heapFits about1 = true := by decide +kernel
set_option maxRecDepth 65536 in
theorem w_runnable : about1.curStatus? = some .runnable := by decide +kernel
set_option maxRecDepth 65536 in
theorem w_alone : about1.alone = true := by decide +kernel
set_option maxRecDepth 65536 in
theorem w_named : about1.methodNamed? x = some theMethod := by decide +kernel
set_option maxRecDepth 65536 in
theorem w_hears : about1.hears theMethod below0 = true := by decide +kernel
set_option maxRecDepth 65536 in
theorem w_ripe : about1.ripe theMethod args0 below0 = true := by decide +kernel
theorem w_running : about1.status = .running := rfl
set_option maxRecDepth 65536 in
theorem w_room : about1.hasRoom e0.platform room_1 = true :=
  launch0.hasRoom_least _ room_1 (by decide +kernel) (by decide +kernel) (by decide +kernel) (by decide +kernel) (by decide +kernel) (by decide +kernel)
theorem allAtoms_all (ts : List Jvm.Cond) (a : Array Jvm.Value) (st : Jvm.State) : (allAtoms ts).before a st = ts.all (fun c => c.before a st) := by
  induction ts with
  | nil => rfl
  | cons c t ih =>
    show (Jvm.Cond.and c (allAtoms t)).before a st = _
    rw [Jvm.Cond.before_and, ih, List.all_cons]
def words1 : List Jvm.Cond := Jvm.Cond.code x code maxLocals ret :: tables_1
/-- a 'code' word, met by the world's own term for the bytes: nothing is compared byte by byte -/
theorem code_word {y : MethodName} {bytes : ByteArray} {mx : Nat} {rt : Option FieldType} {a : Array Value} {s : State} {m : MethodId} {meth : Method} {c : Code} (h1 : s.methodNamed? y = some m) (h2 : s.vm.method? m = some meth) (h3 : meth.code = some c) (h4 : c.code = bytes)
    (h5 : (c.maxLocals == mx && c.exceptionTable.isEmpty && decide (c.maxStack ≤ mostOperands) && decide (meth.sig.returnType = rt) && !meth.locks && decide (parseMethodDescriptor y.desc = some meth.sig)) = true) : (Jvm.Cond.code y bytes mx rt).before a s = true := by
  simp only [Bool.and_eq_true, beq_iff_eq, Bool.not_eq_true', decide_eq_true_eq] at h5
  obtain ⟨⟨⟨⟨⟨g1, g2⟩, g3⟩, g4⟩, g5⟩, g6⟩ := h5
  simp [Cond.before, Cond.holds, Cond.value, h1, h2, h3, h4, g1, g2, g3, g4, g5, g6]
def isCode : Jvm.Cond → Bool
  | .code _ _ _ _ => true
  | _ => false
theorem all_split {L : List Jvm.Cond} {P : Jvm.Cond → Bool} (h1 : L.all (fun c => isCode c || P c) = true) (h2 : ∀ c ∈ L.filter isCode, P c = true) : L.all P = true := by
  refine List.all_eq_true.mpr fun c hc => ?_
  have h := List.all_eq_true.mp h1 c hc
  rcases Bool.eq_false_or_eq_true (isCode c) with hi | hi
  · exact h2 c (List.mem_filter.mpr ⟨hc, hi⟩)
  · simpa [hi] using h
set_option maxRecDepth 65536 in
theorem w_c0 : (Jvm.Cond.code x code maxLocals ret).before args0 about1 = true := code_word (m := ⟨1, 1⟩) (meth := k1m1) (c := k1c1) (by decide +kernel) rfl rfl rfl (by decide +kernel)
set_option maxRecDepth 65536 in
theorem w_c1 : (Jvm.Cond.code ({ cls := "com/example/supplant/supplant/automata/TransducerBuilder", name := "<init>", desc := "(Lcom/example/supplant/supplant/automata/SymbolTable;)V" } : Jvm.MethodName) prog_18_method_1_code (2 : Nat) (Option.none : Option Jvm.ClassFile.FieldType)).before args0 about1 = true := code_word (m := ⟨2, 0⟩) (meth := k2m0) (c := k2c0) (by decide +kernel) rfl rfl rfl (by decide +kernel)
set_option maxRecDepth 65536 in
theorem w_c2 : (Jvm.Cond.code ({ cls := "java/lang/Object", name := "<init>", desc := "()V" } : Jvm.MethodName) object_method_1_code (1 : Nat) (Option.none : Option Jvm.ClassFile.FieldType)).before args0 about1 = true := code_word (m := ⟨0, 0⟩) (meth := k0m0) (c := k0c0) (by decide +kernel) rfl rfl rfl (by decide +kernel)
set_option maxRecDepth 65536 in
theorem w_c3 : (Jvm.Cond.code ({ cls := "java/util/BitSet", name := "<init>", desc := "()V" } : Jvm.MethodName) jdk_92_method_4_code (1 : Nat) (Option.none : Option Jvm.ClassFile.FieldType)).before args0 about1 = true := code_word (m := ⟨5, 1⟩) (meth := k5m1) (c := k5c1) (by decide +kernel) rfl rfl rfl (by decide +kernel)
set_option maxRecDepth 65536 in
theorem w_c4 : (Jvm.Cond.code ({ cls := "java/util/BitSet", name := "initWords", desc := "(I)V" } : Jvm.MethodName) jdk_92_method_6_code (2 : Nat) (Option.none : Option Jvm.ClassFile.FieldType)).before args0 about1 = true := code_word (m := ⟨5, 2⟩) (meth := k5m2) (c := k5c2) (by decide +kernel) rfl rfl rfl (by decide +kernel)
set_option maxRecDepth 65536 in
theorem w_c5 : (Jvm.Cond.code ({ cls := "java/util/BitSet", name := "wordIndex", desc := "(I)I" } : Jvm.MethodName) jdk_92_method_1_code (1 : Nat) (Option.some Jvm.ClassFile.FieldType.int)).before args0 about1 = true := code_word (m := ⟨5, 0⟩) (meth := k5m0) (c := k5c0) (by decide +kernel) rfl rfl rfl (by decide +kernel)
set_option maxRecDepth 65536 in
theorem w_c6 : (Jvm.Cond.code ({ cls := "com/example/supplant/supplant/automata/TransducerBuilder", name := "addState", desc := "()I" } : Jvm.MethodName) prog_18_method_5_code (1 : Nat) (Option.some Jvm.ClassFile.FieldType.int)).before args0 about1 = true := code_word (m := ⟨2, 1⟩) (meth := k2m1) (c := k2c1) (by decide +kernel) rfl rfl rfl (by decide +kernel)
set_option maxRecDepth 65536 in
theorem w_c7 : (Jvm.Cond.code ({ cls := "java/util/Arrays", name := "copyOf", desc := "([ZI)[Z" } : Jvm.MethodName) jdk_65_method_128_code (3 : Nat) (Option.some (Jvm.ClassFile.FieldType.array Jvm.ClassFile.FieldType.boolean))).before args0 about1 = true := code_word (m := ⟨6, 1⟩) (meth := k6m1) (c := k6c1) (by decide +kernel) rfl rfl rfl (by decide +kernel)
set_option maxRecDepth 65536 in
theorem w_c8 : (Jvm.Cond.code ({ cls := "java/lang/Math", name := "min", desc := "(II)I" } : Jvm.MethodName) jdk_29_method_69_code (2 : Nat) (Option.some Jvm.ClassFile.FieldType.int)).before args0 about1 = true := code_word (m := ⟨7, 1⟩) (meth := k7m1) (c := k7c1) (by decide +kernel) rfl rfl rfl (by decide +kernel)
set_option maxRecDepth 65536 in
theorem w_c9 : (Jvm.Cond.code ({ cls := "com/example/supplant/supplant/automata/TransducerBuilder", name := "stateCount", desc := "()I" } : Jvm.MethodName) prog_18_method_6_code (1 : Nat) (Option.some Jvm.ClassFile.FieldType.int)).before args0 about1 = true := code_word (m := ⟨2, 2⟩) (meth := k2m2) (c := k2c2) (by decide +kernel) rfl rfl rfl (by decide +kernel)
set_option maxRecDepth 65536 in
theorem w_c10 : (Jvm.Cond.code ({ cls := "com/example/supplant/supplant/automata/TransducerBuilder", name := "isFinal", desc := "(I)Z" } : Jvm.MethodName) prog_18_method_8_code (2 : Nat) (Option.some Jvm.ClassFile.FieldType.boolean)).before args0 about1 = true := code_word (m := ⟨2, 4⟩) (meth := k2m4) (c := k2c4) (by decide +kernel) rfl rfl rfl (by decide +kernel)
set_option maxRecDepth 65536 in
theorem w_c11 : (Jvm.Cond.code ({ cls := "com/example/supplant/supplant/automata/TransducerBuilder", name := "setFinal", desc := "(IZ)V" } : Jvm.MethodName) prog_18_method_7_code (3 : Nat) (Option.none : Option Jvm.ClassFile.FieldType)).before args0 about1 = true := code_word (m := ⟨2, 3⟩) (meth := k2m3) (c := k2c3) (by decide +kernel) rfl rfl rfl (by decide +kernel)
def codes1 : List Jvm.Cond := [Jvm.Cond.code x code maxLocals ret, Jvm.Cond.code ({ cls := "com/example/supplant/supplant/automata/TransducerBuilder", name := "<init>", desc := "(Lcom/example/supplant/supplant/automata/SymbolTable;)V" } : Jvm.MethodName) prog_18_method_1_code (2 : Nat) (Option.none : Option Jvm.ClassFile.FieldType), Jvm.Cond.code ({ cls := "java/lang/Object", name := "<init>", desc := "()V" } : Jvm.MethodName) object_method_1_code (1 : Nat) (Option.none : Option Jvm.ClassFile.FieldType), Jvm.Cond.code ({ cls := "java/util/BitSet", name := "<init>", desc := "()V" } : Jvm.MethodName) jdk_92_method_4_code (1 : Nat) (Option.none : Option Jvm.ClassFile.FieldType), Jvm.Cond.code ({ cls := "java/util/BitSet", name := "initWords", desc := "(I)V" } : Jvm.MethodName) jdk_92_method_6_code (2 : Nat) (Option.none : Option Jvm.ClassFile.FieldType), Jvm.Cond.code ({ cls := "java/util/BitSet", name := "wordIndex", desc := "(I)I" } : Jvm.MethodName) jdk_92_method_1_code (1 : Nat) (Option.some Jvm.ClassFile.FieldType.int), Jvm.Cond.code ({ cls := "com/example/supplant/supplant/automata/TransducerBuilder", name := "addState", desc := "()I" } : Jvm.MethodName) prog_18_method_5_code (1 : Nat) (Option.some Jvm.ClassFile.FieldType.int), Jvm.Cond.code ({ cls := "java/util/Arrays", name := "copyOf", desc := "([ZI)[Z" } : Jvm.MethodName) jdk_65_method_128_code (3 : Nat) (Option.some (Jvm.ClassFile.FieldType.array Jvm.ClassFile.FieldType.boolean)), Jvm.Cond.code ({ cls := "java/lang/Math", name := "min", desc := "(II)I" } : Jvm.MethodName) jdk_29_method_69_code (2 : Nat) (Option.some Jvm.ClassFile.FieldType.int), Jvm.Cond.code ({ cls := "com/example/supplant/supplant/automata/TransducerBuilder", name := "stateCount", desc := "()I" } : Jvm.MethodName) prog_18_method_6_code (1 : Nat) (Option.some Jvm.ClassFile.FieldType.int), Jvm.Cond.code ({ cls := "com/example/supplant/supplant/automata/TransducerBuilder", name := "isFinal", desc := "(I)Z" } : Jvm.MethodName) prog_18_method_8_code (2 : Nat) (Option.some Jvm.ClassFile.FieldType.boolean), Jvm.Cond.code ({ cls := "com/example/supplant/supplant/automata/TransducerBuilder", name := "setFinal", desc := "(IZ)V" } : Jvm.MethodName) prog_18_method_7_code (3 : Nat) (Option.none : Option Jvm.ClassFile.FieldType)]
set_option maxRecDepth 65536 in
theorem codes_eq : words1.filter isCode = codes1 := rfl
theorem w_codes : ∀ c ∈ words1.filter isCode, c.before args0 about1 = true := by
  rw [codes_eq]
  intro c hc
  simp only [codes1, List.mem_cons, List.not_mem_nil, or_false] at hc
  rcases hc with rfl | rfl | rfl | rfl | rfl | rfl | rfl | rfl | rfl | rfl | rfl | rfl
  · exact w_c0
  · exact w_c1
  · exact w_c2
  · exact w_c3
  · exact w_c4
  · exact w_c5
  · exact w_c6
  · exact w_c7
  · exact w_c8
  · exact w_c9
  · exact w_c10
  · exact w_c11
set_option maxRecDepth 65536 in
theorem w_t1 : (words1.take 24).all (fun c => isCode c || c.before args0 about1) = true := by decide +kernel
set_option maxRecDepth 65536 in
theorem w_t2 : ((words1.drop 24).take 24).all (fun c => isCode c || c.before args0 about1) = true := by decide +kernel
set_option maxRecDepth 65536 in
theorem w_t3 : (((words1.drop 24).drop 24).take 24).all (fun c => isCode c || c.before args0 about1) = true := by decide +kernel
set_option maxRecDepth 65536 in
theorem w_t4 : (((words1.drop 24).drop 24).drop 24).all (fun c => isCode c || c.before args0 about1) = true := by decide +kernel
theorem w_tables : (allAtoms (Jvm.Cond.code x code maxLocals ret :: tables_1)).before args0 about1 = true := by
  rw [allAtoms_all]
  show words1.all (fun c => c.before args0 about1) = true
  refine all_split ?_ w_codes
  rw [← List.take_append_drop 24 words1, List.all_append, w_t1, ← List.take_append_drop 24 (words1.drop 24), List.all_append, w_t2, ← List.take_append_drop 24 ((words1.drop 24).drop 24), List.all_append, w_t3, w_t4]
  rfl
set_option maxRecDepth 65536 in
theorem w_case : (Jvm.Cond.and given_1 narrow_1).before args0 about1 = true := by decide +kernel
theorem w_applies : (headSpec (Jvm.Cond.code x code maxLocals ret :: tables_1) room_1).applies x e0.platform about1 = true :=
  (Spec.applies_iff w_frames).mpr ⟨w_running, w_runnable, w_alone, w_named, w_hears, w_ripe, w_room, w_tables⟩
theorem atStart : AtStart classFile x code maxLocals ret World_1 tables_1 room_1 Calls_1 rest_1 Pre_1 launch0 p0 e0 about1 theMethod args0 below0 :=
  ⟨lists_1, trivial, launch0.admits_env _ _ _, launch0.least_env, fairChoices_fair.cas, fairChoices_fair.clock, w_frames, w_args, w_heap, w_applies, trivial, trivial, w_case⟩
end start1
theorem witness_1 : WitnessClaimed_1 := ⟨start1.p0, start1.e0, start1.about1, start1.theMethod, start1.args0, start1.below0, start1.atStart⟩
end Jvm.Pilot.@@N@@
