import JvmDerived
import JvmDerived.Pilot.@@N@@Statement
import JvmDerived.Pilot.@@N@@Code
set_option linter.unusedVariables false
set_option linter.unusedSimpArgs false
@@BLOCK:NumsL.lean.txt@@
@@BLOCK:Masks.lean.txt@@
namespace Jvm.Pilot.@@N@@
open Jvm Jvm.ClassFile Sem Op Lib Jvm.Free Jvm.Stand Jvm.LawKit Jvm.RoadKit Bundle Jvm.Pilot.@@N@@.Jvm.D
def own_G (tb : Tables) (e : Env) (below : List Frame) (En : Outcome → State → List Loc → Prop) (Q : Option Value → Heap → List Loc → Prop) (U : State) : Prop :=
  ∃ t o, Steps tb e below U t ∧ t.status = .running ∧ Ended t below o ∧ ∃ v L, o = .returned v ∧ Q v t.heap L ∧ En o t L
/-- the frame at the end, counted from s -/
def own_E (s : State) (nc ns : Nat) (o : Outcome) (t : State) (L : List Loc) : Prop := FrameEnd s o t L nc ns
theorem own_st {tb : Tables} {e : Env} {below : List Frame} {En : Outcome → State → List Loc → Prop} {Q : Option Value → Heap → List Loc → Prop} {U U' : State} (h : own_G tb e below En Q U') (st : ∀ t, Steps tb e below U' t → Steps tb e below U t) : own_G tb e below En Q U := by
  obtain ⟨t, o, h1, h2⟩ := h
  exact ⟨t, o, st t h1, h2⟩
section OwnRet
variable {p : Program} {l : Launch} {e : Env} {R : Room} {s : State} {m : MethodId} {args : Array Value} {below : List Frame} {meth : Method} {c : Code} {T : State} {locs : List Loc} {cells slots : Nat}
theorem own_retN (X : Stand p l e R s m args below meth c T locs cells slots) (hx : p.tables.exec = Jvm.exec) (hlk : meth.locks = false) {pc : Nat} {Ls : Array Slot} {z z' : Int32} {t : FieldType} {rest : List Value} (hret : meth.sig.returnType = some t) (ht : t = .boolean ∨ t = .byte ∨ t = .char ∨ t = .short)
    (hd : decode c.code pc = .ok (.ireturn, 1)) {Q : Option Value → Heap → List Loc → Prop} {nc ns : Nat} (hc : cells ≤ nc) (hs : slots ≤ ns) (hz : nar t z = z') (hQ : Q (some (.int z')) T.heap locs) : own_G p.tables e below (own_E s nc ns) Q (T.setTop (mkF m pc Ls (.int z :: rest))) := by
  subst hz
  obtain ⟨fs, hr, hrun, hended, hW, hsame⟩ := X.leave (v := some (.int (nar t z))) (fun h => by rw [hret] at h; cases h) hlk
  exact ⟨_, _, retN X hx hret ht hd hr, hrun, hended, _, _, rfl, hQ, ⟨_, rfl⟩, hW, hsame.mono hc hs⟩
theorem own_retI (X : Stand p l e R s m args below meth c T locs cells slots) (hx : p.tables.exec = Jvm.exec) (hlk : meth.locks = false) {pc : Nat} {Ls : Array Slot} {z : Int32} {rest : List Value} (hret : meth.sig.returnType = some .int)
    (hd : decode c.code pc = .ok (.ireturn, 1)) {Q : Option Value → Heap → List Loc → Prop} {nc ns : Nat} (hc : cells ≤ nc) (hs : slots ≤ ns) (hQ : Q (some (.int z)) T.heap locs) : own_G p.tables e below (own_E s nc ns) Q (T.setTop (mkF m pc Ls (.int z :: rest))) := by
  obtain ⟨fs, hr, hrun, hended, hW, hsame⟩ := X.leave (v := some (.int z)) (fun h => by rw [hret] at h; cases h) hlk
  exact ⟨_, _, retOut X hx hret rfl (Or.inl ⟨rfl, Or.inl rfl, _, rfl⟩) hd hr, hrun, hended, _, _, rfl, hQ, ⟨_, rfl⟩, hW, hsame.mono hc hs⟩
theorem own_retJ (X : Stand p l e R s m args below meth c T locs cells slots) (hx : p.tables.exec = Jvm.exec) (hlk : meth.locks = false) {pc : Nat} {Ls : Array Slot} {z : Int64} {rest : List Value} (hret : meth.sig.returnType = some .long)
    (hd : decode c.code pc = .ok (.lreturn, 1)) {Q : Option Value → Heap → List Loc → Prop} {nc ns : Nat} (hc : cells ≤ nc) (hs : slots ≤ ns) (hQ : Q (some (.long z)) T.heap locs) : own_G p.tables e below (own_E s nc ns) Q (T.setTop (mkF m pc Ls (.long z :: rest))) := by
  obtain ⟨fs, hr, hrun, hended, hW, hsame⟩ := X.leave (v := some (.long z)) (fun h => by rw [hret] at h; cases h) hlk
  exact ⟨_, _, retOut X hx hret rfl (Or.inr (Or.inl ⟨rfl, rfl, _, rfl⟩)) hd hr, hrun, hended, _, _, rfl, hQ, ⟨_, rfl⟩, hW, hsame.mono hc hs⟩
theorem own_retA (X : Stand p l e R s m args below meth c T locs cells slots) (hx : p.tables.exec = Jvm.exec) (hlk : meth.locks = false) {pc : Nat} {Ls : Array Slot} {z : Value} {t : FieldType} {rest : List Value} (hret : meth.sig.returnType = some t) (ht : t.isReference = true) (hn : narrow t z = z) (hv : z.isRef = true)
    (hd : decode c.code pc = .ok (.areturn, 1)) {Q : Option Value → Heap → List Loc → Prop} {nc ns : Nat} (hc : cells ≤ nc) (hs : slots ≤ ns) (hQ : Q (some z) T.heap locs) : own_G p.tables e below (own_E s nc ns) Q (T.setTop (mkF m pc Ls (z :: rest))) := by
  obtain ⟨fs, hr, hrun, hended, hW, hsame⟩ := X.leave (v := some z) (fun h => by rw [hret] at h; cases h) hlk
  exact ⟨_, _, retOut X hx hret hn (Or.inr (Or.inr (Or.inr (Or.inr ⟨rfl, ht, hv⟩)))) hd hr, hrun, hended, _, _, rfl, hQ, ⟨_, rfl⟩, hW, hsame.mono hc hs⟩
theorem own_retV (X : Stand p l e R s m args below meth c T locs cells slots) (hx : p.tables.exec = Jvm.exec) (hlk : meth.locks = false) {pc : Nat} {Ls : Array Slot} (hret : meth.sig.returnType = none)
    (hd : decode c.code pc = .ok (.return_, 1)) {Q : Option Value → Heap → List Loc → Prop} {nc ns : Nat} (hc : cells ≤ nc) (hs : slots ≤ ns) (hQ : Q none T.heap locs) : own_G p.tables e below (own_E s nc ns) Q (T.setTop (mkF m pc Ls [])) := by
  obtain ⟨fs, hr, hrun, hended, hW, hsame⟩ := X.leave (v := none) (fun _ => rfl) hlk
  exact ⟨_, _, X.returnOut hx hret hd hr, hrun, hended, _, _, rfl, hQ, ⟨_, rfl⟩, hW, hsame.mono hc hs⟩
/-- the wide frame at the end: Strings may have been interned -/
def own_EW (s : State) (nc ns : Nat) (o : Outcome) (t : State) (L : List Loc) : Prop := ReturnedEndW s o t L nc ns
theorem own_retNW {vm1 : Vm} (X : Stand p l e R (s.setVm vm1) m args below meth c T locs cells slots) (hx : p.tables.exec = Jvm.exec) (hlk : meth.locks = false) {k : Nat} (hS : s.Since vm1 k) (hk : k ≤ T.heap.size) {pc : Nat} {Ls : Array Slot} {z z' : Int32} {t : FieldType} {rest : List Value} (hret : meth.sig.returnType = some t) (ht : t = .boolean ∨ t = .byte ∨ t = .char ∨ t = .short)
    (hd : decode c.code pc = .ok (.ireturn, 1)) {Q : Option Value → Heap → List Loc → Prop} {nc ns : Nat} (hc : cells ≤ nc) (hs : slots ≤ ns) (hz : nar t z = z') (hQ : Q (some (.int z')) T.heap locs) : own_G p.tables e below (own_EW s nc ns) Q (T.setTop (mkF m pc Ls (.int z :: rest))) := by
  subst hz
  obtain ⟨fs, hr, hrun, hended, h1, h2, h3, h4⟩ := X.leaveW hS hk (v := some (.int (nar t z))) (fun h => by rw [hret] at h; cases h) hlk
  exact ⟨_, _, retN X hx hret ht hd hr, hrun, hended, _, _, rfl, hQ, h1, h2, h3, h4.mono hc hs⟩
end OwnRet
/-- it returns r; nothing old is written (own_QV: the heap is as it was) -/
def own_QL (r : Value) (n0 : Nat) (v : Option Value) (h : Heap) (L : List Loc) : Prop := v = some r ∧ Fr n0 L
def own_QN (h0 : Heap) (n0 : Nat) (v : Option Value) (h : Heap) (L : List Loc) : Prop := v = none ∧ Fr n0 L ∧ h = h0
def own_QV (r : Value) (h0 : Heap) (n0 : Nat) (v : Option Value) (h : Heap) (L : List Loc) : Prop := v = some r ∧ Fr n0 L ∧ h = h0
theorem d1_0 : decode prog_15_method_7_code 0 = .ok (.iload_n 1, 1) := by decide +kernel
theorem d1_1 : decode prog_15_method_7_code 1 = .ok (.iconst 3, 1) := by decide +kernel
theorem d1_2 : decode prog_15_method_7_code 2 = .ok (.if_icmp .lt 14, 3) := by decide +kernel
theorem d1_5 : decode prog_15_method_7_code 5 = .ok (.iload_n 0, 1) := by decide +kernel
theorem d1_6 : decode prog_15_method_7_code 6 = .ok (.iload_n 1, 1) := by decide +kernel
theorem d1_7 : decode prog_15_method_7_code 7 = .ok (.if_icmp .ne 7, 3) := by decide +kernel
theorem d1_10 : decode prog_15_method_7_code 10 = .ok (.iconst 1, 1) := by decide +kernel
theorem d1_11 : decode prog_15_method_7_code 11 = .ok (.goto 4, 3) := by decide +kernel
theorem d1_14 : decode prog_15_method_7_code 14 = .ok (.iconst 0, 1) := by decide +kernel
theorem d1_15 : decode prog_15_method_7_code 15 = .ok (.ireturn, 1) := by decide +kernel
theorem d1_16 : decode prog_15_method_7_code 16 = .ok (.iload_n 0, 1) := by decide +kernel
theorem d1_17 : decode prog_15_method_7_code 17 = .ok (.iconst 1, 1) := by decide +kernel
theorem d1_18 : decode prog_15_method_7_code 18 = .ok (.if_icmp .eq 8, 3) := by decide +kernel
theorem d1_21 : decode prog_15_method_7_code 21 = .ok (.iload_n 0, 1) := by decide +kernel
theorem d1_22 : decode prog_15_method_7_code 22 = .ok (.iconst 2, 1) := by decide +kernel
theorem d1_23 : decode prog_15_method_7_code 23 = .ok (.if_icmp .ne 7, 3) := by decide +kernel
theorem d1_26 : decode prog_15_method_7_code 26 = .ok (.iconst 1, 1) := by decide +kernel
theorem d1_27 : decode prog_15_method_7_code 27 = .ok (.goto 4, 3) := by decide +kernel
theorem d1_30 : decode prog_15_method_7_code 30 = .ok (.iconst 0, 1) := by decide +kernel
theorem d1_31 : decode prog_15_method_7_code 31 = .ok (.ireturn, 1) := by decide +kernel
def f1 (p0 : Int32) (p1 : Int32) : Int32 := (if p1 < (3 : Int32) then (if p0 = (1 : Int32) then (1 : Int32) else (if p0 = (2 : Int32) then (1 : Int32) else (0 : Int32))) else (if p0 = p1 then (1 : Int32) else (0 : Int32)))
theorem pn_1 : plainName "com/example/supplant/supplant/automata/SymbolTable" = true := by first | (simp [plainName, overriddenIn]; done) | decide +kernel
theorem ef_1 (m : MethodId) (p0 : Int32) (p1 : Int32) : entryFrame m #[(.int p0), (.int p1)] 2 = mkF m 0 #[.val (.int p0), .val (.int p1)] [] := by first | (simp [entryFrame, mkF, argsToLocals, Value.category]; done) | rfl
set_option maxRecDepth 65536 in
set_option maxHeartbeats 40000000 in
theorem rm1 (l : Launch) (Z : State) (a0 : Array Value) (hw : ∀ d ∈ tables_1, d.before a0 Z = true) (ws : List Jvm.Cond) (p0 : Int32) (p1 : Int32) (h0 : Heap) (n0 : Nat) (Z0 : n0 ≤ h0.size) :
    MetFree l (⟨"com/example/supplant/supplant/automata/SymbolTable", "reads", "(II)Z"⟩ : MethodName) (head1 (Jvm.Cond.code (⟨"com/example/supplant/supplant/automata/SymbolTable", "reads", "(II)Z"⟩ : MethodName) prog_15_method_7_code 2 (some .boolean) :: ws) ({ frames := 0, cells := 0, slots := 0, locals := 0 } : Room)) (fun a U => a = #[(.int p0), (.int p1)] ∧ Z.Warmed39 U.vm ∧ U.heap = h0) (fun _ _ _ _ _ => True) (fun _ U o U' => ∃ v L, o = .returned v ∧ own_QV (.int (f1 p0 p1 )) h0 n0 v U'.heap L ∧ FrameEnd U o U' L ({ frames := 0, cells := 0, slots := 0, locals := 0 } : Room).cells ({ frames := 0, cells := 0, slots := 0, locals := 0 } : Room).slots) := by
  refine MetFree.of_bodySF (plainFor_of_name pn_1) hisR ?_
  intro p e s m args below meth c s₁ Bd hml0 hP hK
  obtain ⟨rfl, hZ, hh⟩ := hP
  have hx := Bd.exec
  have hby := Bd.bytes
  have hlk : meth.locks = false := BodyLoose.notSynchronized Bd
  have hret := Bd.returns
  have hml : c.maxLocals = 2 := hml0
  have hown : s.vm.findClass "com/example/supplant/supplant/automata/SymbolTable" = some m.cls := findClass_of_methodNamed Bd.named
  have hnm := (name_of_methodNamed Bd.named Bd.method).1
  have X0 : Stand p l e ({ frames := 0, cells := 0, slots := 0, locals := 0 } : Room) s m #[(.int p0), (.int p1)] below meth c s₁ [] 0 0 := Stand.of_body Bd
  have e0 : s₁.heap = h0 := by rw [← hh, Bd.state]; rfl
  have N0 := Fr.nil n0
  show own_G p.tables e below (own_E s ({ frames := 0, cells := 0, slots := 0, locals := 0 } : Room).cells ({ frames := 0, cells := 0, slots := 0, locals := 0 } : Room).slots) (own_QV (.int (f1 p0 p1 )) h0 n0) (s₁.setTop (entryFrame m #[(.int p0), (.int p1)] 2))
  refine own_st ?_ (fun t k => castTop (ef_1 m p0 p1) k)
  show own_G p.tables e below _ _ (s₁.setTop (mkF m 0 #[.val (.int p0), .val (.int p1)] []))
  refine own_st ?_ (fun t k => XS.iloadN X0.here hx rfl (hb hby d1_0) rfl k)
  show own_G p.tables e below _ _ (s₁.setTop (mkF m 1 #[.val (.int p0), .val (.int p1)] [(.int p1)]))
  refine own_st ?_ (fun t k => XS.iconst X0.here hx rfl (hb hby d1_1) k)
  show own_G p.tables e below _ _ (s₁.setTop (mkF m 2 #[.val (.int p0), .val (.int p1)] [(.int (3 : Int32)), (.int p1)]))
  by_cases hc2 : p1 < (3 : Int32)
  · refine own_st ?_ (fun t k => XS.icmpYes X0.here hx rfl (pc0 := 2) (pc' := 16) rfl (hb hby d1_2) rfl (tlt hc2).1 (by decide) (by decide) k)
    show own_G p.tables e below _ _ (s₁.setTop (mkF m 16 #[.val (.int p0), .val (.int p1)] []))
    refine own_st ?_ (fun t k => XS.iloadN X0.here hx rfl (hb hby d1_16) rfl k)
    show own_G p.tables e below _ _ (s₁.setTop (mkF m 17 #[.val (.int p0), .val (.int p1)] [(.int p0)]))
    refine own_st ?_ (fun t k => XS.iconst X0.here hx rfl (hb hby d1_17) k)
    show own_G p.tables e below _ _ (s₁.setTop (mkF m 18 #[.val (.int p0), .val (.int p1)] [(.int (1 : Int32)), (.int p0)]))
    by_cases hc18 : p0 = (1 : Int32)
    · refine own_st ?_ (fun t k => XS.icmpYes X0.here hx rfl (pc0 := 18) (pc' := 26) rfl (hb hby d1_18) rfl (teq hc18).1 (by decide) (by decide) k)
      show own_G p.tables e below _ _ (s₁.setTop (mkF m 26 #[.val (.int p0), .val (.int p1)] []))
      refine own_st ?_ (fun t k => XS.iconst X0.here hx rfl (hb hby d1_26) k)
      show own_G p.tables e below _ _ (s₁.setTop (mkF m 27 #[.val (.int p0), .val (.int p1)] [(.int (1 : Int32))]))
      refine own_st ?_ (fun t k => XS.goto X0.here hx rfl (pc0 := 27) (pc' := 31) rfl (hb hby d1_27) (by decide) (by decide) k)
      show own_G p.tables e below _ _ (s₁.setTop (mkF m 31 #[.val (.int p0), .val (.int p1)] [(.int (1 : Int32))]))
      refine own_retN X0 hx hlk (t := .boolean) hret (by simp) (hb hby d1_31) (by decide) (by decide) (z' := (1 : Int32)) rfl ⟨?_, N0, e0⟩
      rw [show f1 p0 p1  = (1 : Int32) from (if_pos hc2).trans ((if_pos hc18).trans (rfl))]
    · refine own_st ?_ (fun t k => XS.icmpNo X0.here hx rfl (hb hby d1_18) rfl (feq hc18).1 k)
      show own_G p.tables e below _ _ (s₁.setTop (mkF m 21 #[.val (.int p0), .val (.int p1)] []))
      refine own_st ?_ (fun t k => XS.iloadN X0.here hx rfl (hb hby d1_21) rfl k)
      show own_G p.tables e below _ _ (s₁.setTop (mkF m 22 #[.val (.int p0), .val (.int p1)] [(.int p0)]))
      refine own_st ?_ (fun t k => XS.iconst X0.here hx rfl (hb hby d1_22) k)
      show own_G p.tables e below _ _ (s₁.setTop (mkF m 23 #[.val (.int p0), .val (.int p1)] [(.int (2 : Int32)), (.int p0)]))
      by_cases hc23 : p0 = (2 : Int32)
      · refine own_st ?_ (fun t k => XS.icmpNo X0.here hx rfl (hb hby d1_23) rfl (teq hc23).2 k)
        show own_G p.tables e below _ _ (s₁.setTop (mkF m 26 #[.val (.int p0), .val (.int p1)] []))
        refine own_st ?_ (fun t k => XS.iconst X0.here hx rfl (hb hby d1_26) k)
        show own_G p.tables e below _ _ (s₁.setTop (mkF m 27 #[.val (.int p0), .val (.int p1)] [(.int (1 : Int32))]))
        refine own_st ?_ (fun t k => XS.goto X0.here hx rfl (pc0 := 27) (pc' := 31) rfl (hb hby d1_27) (by decide) (by decide) k)
        show own_G p.tables e below _ _ (s₁.setTop (mkF m 31 #[.val (.int p0), .val (.int p1)] [(.int (1 : Int32))]))
        refine own_retN X0 hx hlk (t := .boolean) hret (by simp) (hb hby d1_31) (by decide) (by decide) (z' := (1 : Int32)) rfl ⟨?_, N0, e0⟩
        rw [show f1 p0 p1  = (1 : Int32) from (if_pos hc2).trans ((if_neg hc18).trans ((if_pos hc23).trans (rfl)))]
      · refine own_st ?_ (fun t k => XS.icmpYes X0.here hx rfl (pc0 := 23) (pc' := 30) rfl (hb hby d1_23) rfl (feq hc23).2 (by decide) (by decide) k)
        show own_G p.tables e below _ _ (s₁.setTop (mkF m 30 #[.val (.int p0), .val (.int p1)] []))
        refine own_st ?_ (fun t k => XS.iconst X0.here hx rfl (hb hby d1_30) k)
        show own_G p.tables e below _ _ (s₁.setTop (mkF m 31 #[.val (.int p0), .val (.int p1)] [(.int (0 : Int32))]))
        refine own_retN X0 hx hlk (t := .boolean) hret (by simp) (hb hby d1_31) (by decide) (by decide) (z' := (0 : Int32)) rfl ⟨?_, N0, e0⟩
        rw [show f1 p0 p1  = (0 : Int32) from (if_pos hc2).trans ((if_neg hc18).trans ((if_neg hc23).trans (rfl)))]
  · refine own_st ?_ (fun t k => XS.icmpNo X0.here hx rfl (hb hby d1_2) rfl (flt hc2).1 k)
    show own_G p.tables e below _ _ (s₁.setTop (mkF m 5 #[.val (.int p0), .val (.int p1)] []))
    refine own_st ?_ (fun t k => XS.iloadN X0.here hx rfl (hb hby d1_5) rfl k)
    show own_G p.tables e below _ _ (s₁.setTop (mkF m 6 #[.val (.int p0), .val (.int p1)] [(.int p0)]))
    refine own_st ?_ (fun t k => XS.iloadN X0.here hx rfl (hb hby d1_6) rfl k)
    show own_G p.tables e below _ _ (s₁.setTop (mkF m 7 #[.val (.int p0), .val (.int p1)] [(.int p1), (.int p0)]))
    by_cases hc7 : p0 = p1
    · refine own_st ?_ (fun t k => XS.icmpNo X0.here hx rfl (hb hby d1_7) rfl (teq hc7).2 k)
      show own_G p.tables e below _ _ (s₁.setTop (mkF m 10 #[.val (.int p0), .val (.int p1)] []))
      refine own_st ?_ (fun t k => XS.iconst X0.here hx rfl (hb hby d1_10) k)
      show own_G p.tables e below _ _ (s₁.setTop (mkF m 11 #[.val (.int p0), .val (.int p1)] [(.int (1 : Int32))]))
      refine own_st ?_ (fun t k => XS.goto X0.here hx rfl (pc0 := 11) (pc' := 15) rfl (hb hby d1_11) (by decide) (by decide) k)
      show own_G p.tables e below _ _ (s₁.setTop (mkF m 15 #[.val (.int p0), .val (.int p1)] [(.int (1 : Int32))]))
      refine own_retN X0 hx hlk (t := .boolean) hret (by simp) (hb hby d1_15) (by decide) (by decide) (z' := (1 : Int32)) rfl ⟨?_, N0, e0⟩
      rw [show f1 p0 p1  = (1 : Int32) from (if_neg hc2).trans ((if_pos hc7).trans (rfl))]
    · refine own_st ?_ (fun t k => XS.icmpYes X0.here hx rfl (pc0 := 7) (pc' := 14) rfl (hb hby d1_7) rfl (feq hc7).2 (by decide) (by decide) k)
      show own_G p.tables e below _ _ (s₁.setTop (mkF m 14 #[.val (.int p0), .val (.int p1)] []))
      refine own_st ?_ (fun t k => XS.iconst X0.here hx rfl (hb hby d1_14) k)
      show own_G p.tables e below _ _ (s₁.setTop (mkF m 15 #[.val (.int p0), .val (.int p1)] [(.int (0 : Int32))]))
      refine own_retN X0 hx hlk (t := .boolean) hret (by simp) (hb hby d1_15) (by decide) (by decide) (z' := (0 : Int32)) rfl ⟨?_, N0, e0⟩
      rw [show f1 p0 p1  = (0 : Int32) from (if_neg hc2).trans ((if_neg hc7).trans (rfl))]
theorem pd_0 : parseMethodDescriptor "(II)Z" = some ⟨[.int, .int], some .boolean⟩ := by decide +kernel
def f0_174 (i6 : Int32) (i8 : Int32) (i9 : Int32) : Int32 := (if (f1 i8 i6) = i9 then (1 : Int32) else (0 : Int32))
def f0_59 (i2 : Int32) (i3 : Int32) (i5 : Int32) (i6 : Int32) : Int32 := (if (i2 &&& (3 : Int32)) = (0 : Int32) then (f0_174 i6 i6 (1 : Int32) ) else (if (i2 &&& (3 : Int32)) = (1 : Int32) then (if (i3 &&& (1 : Int32)) = (0 : Int32) then (if i5 = (0 : Int32) then (f0_174 i6 (1 : Int32) (1 : Int32) ) else (f0_174 i6 (1 : Int32) (0 : Int32) )) else (if i5 = (0 : Int32) then (f0_174 i6 (2 : Int32) (1 : Int32) ) else (f0_174 i6 (2 : Int32) (0 : Int32) ))) else (if (i2 &&& (3 : Int32)) = (2 : Int32) then (f0_174 i6 (0 : Int32) (0 : Int32) ) else (if i3 = (1 : Int32) then (if i3 = i6 then (f0_174 i6 i3 (1 : Int32) ) else (if i5 = (0 : Int32) then (f0_174 i6 i3 (1 : Int32) ) else (f0_174 i6 i3 (0 : Int32) ))) else (if i3 = (2 : Int32) then (if i3 = i6 then (f0_174 i6 i3 (1 : Int32) ) else (if i5 = (0 : Int32) then (f0_174 i6 i3 (1 : Int32) ) else (f0_174 i6 i3 (0 : Int32) ))) else (if i3 = i6 then (f0_174 i6 i3 (1 : Int32) ) else (if i5 = (0 : Int32) then (f0_174 i6 i3 (0 : Int32) ) else (f0_174 i6 i3 (0 : Int32) ))))))))
def f0 (p0 : Int32) (p1 : Int32) (p2 : Int32) (p3 : Int32) : Int32 := (if (p0 &&& (3 : Int32)) < (2 : Int32) then (if (p0 &&& (3 : Int32)) = (0 : Int32) then (f0_59 p2 p3 (0 : Int32) (1 : Int32) ) else (if (p0 &&& (3 : Int32)) = (1 : Int32) then (f0_59 p2 p3 (0 : Int32) (2 : Int32) ) else (if (p1 &&& (2147483647 : Int32)) < (3 : Int32) then (f0_59 p2 p3 (0 : Int32) ((p1 &&& (2147483647 : Int32)) + (3 : Int32)) ) else (f0_59 p2 p3 (0 : Int32) (p1 &&& (2147483647 : Int32)) )))) else (if (p0 &&& (3 : Int32)) = (0 : Int32) then (f0_59 p2 p3 (1 : Int32) (1 : Int32) ) else (if (p0 &&& (3 : Int32)) = (1 : Int32) then (f0_59 p2 p3 (1 : Int32) (2 : Int32) ) else (if (p1 &&& (2147483647 : Int32)) < (3 : Int32) then (f0_59 p2 p3 (1 : Int32) ((p1 &&& (2147483647 : Int32)) + (3 : Int32)) ) else (f0_59 p2 p3 (1 : Int32) (p1 &&& (2147483647 : Int32)) )))))
theorem pn_0 : plainName "com/example/supplant/supplant/automata/SymbolTableReadsPinLaw" = true := by first | (simp [plainName, overriddenIn]; done) | decide +kernel
set_option maxRecDepth 65536 in
set_option maxHeartbeats 40000000 in
theorem sg0_174 (s0 : Slot) (s1 : Slot) (s2 : Slot) (s3 : Slot) (s4 : Slot) (s5 : Slot) (i6 : Int32) (s7 : Slot) (i8 : Int32) (i9 : Int32) (s10 : Slot) {p : Program} {l : Launch} {e : Env} {s : State} {m : MethodId} {args : Array Value} {below : List Frame} {meth : Method} {c : Code} {T0 : State} {locs : List Loc} {Z : State} {a0 : Array Value} {h0 : Heap} {n0 : Nat} (X0 : Stand p l e room_1 s m args below meth c T0 locs 0 0) (N0 : Fr n0 locs) (hx : p.tables.exec = Jvm.exec) (hlk : meth.locks = false) (hZ : Z.Warmed39 s.vm) (hw : ∀ d ∈ tables_1, d.before a0 Z = true) (hby : c.code = code) (hml : c.maxLocals = 11) (hown : s.vm.findClass "com/example/supplant/supplant/automata/SymbolTableReadsPinLaw" = some m.cls) (hret : meth.sig.returnType = (some .boolean)) (e0 : T0.heap = h0) (Z0 : n0 ≤ h0.size) :
    own_G p.tables e below (own_E s 0 0) (own_QV (.int (f0_174 i6 i8 i9 )) h0 n0) (T0.setTop (mkF m 174 #[s0, s1, s2, s3, s4, s5, .val (.int i6), s7, .val (.int i8), .val (.int i9), s10] [])) := by
  refine own_st ?_ (fun t k => XS.iload X0.here hx rfl (hb hby at_174) rfl k)
  show own_G p.tables e below _ _ (T0.setTop (mkF m 176 #[s0, s1, s2, s3, s4, s5, .val (.int i6), s7, .val (.int i8), .val (.int i9), s10] [(.int i8)]))
  refine own_st ?_ (fun t k => XS.iload X0.here hx rfl (hb hby at_176) rfl k)
  show own_G p.tables e below _ _ (T0.setTop (mkF m 178 #[s0, s1, s2, s3, s4, s5, .val (.int i6), s7, .val (.int i8), .val (.int i9), s10] [(.int i6), (.int i8)]))
  obtain ⟨_, _, ⟨T1, L1, k1, n1⟩, -, X1, ⟨Lc1, hQ1, l1, y1, z1⟩, st1⟩ := Jvm.LawKit.callS X0 hx (y := (⟨"com/example/supplant/supplant/automata/SymbolTable", "reads", "(II)Z"⟩ : MethodName)) hown (mvT hZ (hw _ (List.mem_of_getElem? (i := 0) rfl))) (mvT hZ (hw _ (List.mem_of_getElem? (i := 1) rfl))) (mvT hZ (hw _ (List.mem_of_getElem? (i := 2) rfl))) (mvT hZ (hw _ (List.mem_of_getElem? (i := 3) rfl))) (by decide) (backOf (W := 0) (rm1 l Z _ hw [] i8 i6  h0 n0 Z0 ) hZ (hw _ (List.mem_of_getElem? (i := 3) rfl)) (hw _ (List.mem_of_getElem? (i := 2) rfl)) (by decide) (by decide)) (g := (mkF m 178 #[s0, s1, s2, s3, s4, s5, .val (.int i6), s7, .val (.int i8), .val (.int i9), s10] [(.int i6), (.int i8)])) rfl (by rw [hml]; rfl) (argsL := [(.int i8), (.int i6)]) (rest := []) (lenOf pd_0 rfl) rfl (by show 2 * 0 + _ ≤ _; exact Nat.le_of_eq rfl) (hb hby at_178) (fun _ _ => ⟨rfl, e0, (by decide : 0 + 0 ≤ _), (by decide : 0 + 0 ≤ _)⟩)
  dsimp only [Pt.U, Pt.locs, Pt.cells, Pt.slots] at X1 l1 y1 z1 st1 hQ1
  subst l1 y1 z1
  obtain ⟨rfl, N1q, e1⟩ := hQ1
  have N1 := Fr.app N0 N1q
  refine own_st ?_ st1
  show own_G p.tables e below _ _ (T1.setTop (mkF m 181 #[s0, s1, s2, s3, s4, s5, .val (.int i6), s7, .val (.int i8), .val (.int i9), s10] [(.int (f1 i8 i6))]))
  refine own_st ?_ (fun t k => XS.iload X1.here hx rfl (hb hby at_181) rfl k)
  show own_G p.tables e below _ _ (T1.setTop (mkF m 183 #[s0, s1, s2, s3, s4, s5, .val (.int i6), s7, .val (.int i8), .val (.int i9), s10] [(.int i9), (.int (f1 i8 i6))]))
  by_cases hc183 : (f1 i8 i6) = i9
  · refine own_st ?_ (fun t k => XS.icmpNo X1.here hx rfl (hb hby at_183) rfl (teq hc183).2 k)
    show own_G p.tables e below _ _ (T1.setTop (mkF m 186 #[s0, s1, s2, s3, s4, s5, .val (.int i6), s7, .val (.int i8), .val (.int i9), s10] []))
    refine own_st ?_ (fun t k => XS.iconst X1.here hx rfl (hb hby at_186) k)
    show own_G p.tables e below _ _ (T1.setTop (mkF m 187 #[s0, s1, s2, s3, s4, s5, .val (.int i6), s7, .val (.int i8), .val (.int i9), s10] [(.int (1 : Int32))]))
    refine own_st ?_ (fun t k => XS.goto X1.here hx rfl (pc0 := 187) (pc' := 191) rfl (hb hby at_187) (by decide) (by decide) k)
    show own_G p.tables e below _ _ (T1.setTop (mkF m 191 #[s0, s1, s2, s3, s4, s5, .val (.int i6), s7, .val (.int i8), .val (.int i9), s10] [(.int (1 : Int32))]))
    refine own_retN X1 hx hlk (t := .boolean) hret (by simp) (hb hby at_191) (by decide) (by decide) (z' := (1 : Int32)) rfl ⟨?_, N1, e1⟩
    rw [show f0_174 i6 i8 i9  = (1 : Int32) from (if_pos hc183).trans (rfl)]
  · refine own_st ?_ (fun t k => XS.icmpYes X1.here hx rfl (pc0 := 183) (pc' := 190) rfl (hb hby at_183) rfl (feq hc183).2 (by decide) (by decide) k)
    show own_G p.tables e below _ _ (T1.setTop (mkF m 190 #[s0, s1, s2, s3, s4, s5, .val (.int i6), s7, .val (.int i8), .val (.int i9), s10] []))
    refine own_st ?_ (fun t k => XS.iconst X1.here hx rfl (hb hby at_190) k)
    show own_G p.tables e below _ _ (T1.setTop (mkF m 191 #[s0, s1, s2, s3, s4, s5, .val (.int i6), s7, .val (.int i8), .val (.int i9), s10] [(.int (0 : Int32))]))
    refine own_retN X1 hx hlk (t := .boolean) hret (by simp) (hb hby at_191) (by decide) (by decide) (z' := (0 : Int32)) rfl ⟨?_, N1, e1⟩
    rw [show f0_174 i6 i8 i9  = (0 : Int32) from (if_neg hc183).trans (rfl)]
set_option maxRecDepth 65536 in
set_option maxHeartbeats 40000000 in
theorem sg0_59 (s0 : Slot) (s1 : Slot) (i2 : Int32) (i3 : Int32) (s4 : Slot) (i5 : Int32) (i6 : Int32) {p : Program} {l : Launch} {e : Env} {s : State} {m : MethodId} {args : Array Value} {below : List Frame} {meth : Method} {c : Code} {T0 : State} {locs : List Loc} {Z : State} {a0 : Array Value} {h0 : Heap} {n0 : Nat} (X0 : Stand p l e room_1 s m args below meth c T0 locs 0 0) (N0 : Fr n0 locs) (hx : p.tables.exec = Jvm.exec) (hlk : meth.locks = false) (hZ : Z.Warmed39 s.vm) (hw : ∀ d ∈ tables_1, d.before a0 Z = true) (hby : c.code = code) (hml : c.maxLocals = 11) (hown : s.vm.findClass "com/example/supplant/supplant/automata/SymbolTableReadsPinLaw" = some m.cls) (hret : meth.sig.returnType = (some .boolean)) (e0 : T0.heap = h0) (Z0 : n0 ≤ h0.size) :
    own_G p.tables e below (own_E s 0 0) (own_QV (.int (f0_59 i2 i3 i5 i6 )) h0 n0) (T0.setTop (mkF m 59 #[s0, s1, .val (.int i2), .val (.int i3), s4, .val (.int i5), .val (.int i6), .unset, .unset, .unset, .unset] [])) := by
  refine own_st ?_ (fun t k => XS.iloadN X0.here hx rfl (hb hby at_59) rfl k)
  show own_G p.tables e below _ _ (T0.setTop (mkF m 60 #[s0, s1, .val (.int i2), .val (.int i3), s4, .val (.int i5), .val (.int i6), .unset, .unset, .unset, .unset] [(.int i2)]))
  refine own_st ?_ (fun t k => XS.iconst X0.here hx rfl (hb hby at_60) k)
  show own_G p.tables e below _ _ (T0.setTop (mkF m 61 #[s0, s1, .val (.int i2), .val (.int i3), s4, .val (.int i5), .val (.int i6), .unset, .unset, .unset, .unset] [(.int (3 : Int32)), (.int i2)]))
  refine own_st ?_ (fun t k => XS.iand X0.here hx rfl (hb hby at_61) rfl k)
  show own_G p.tables e below _ _ (T0.setTop (mkF m 62 #[s0, s1, .val (.int i2), .val (.int i3), s4, .val (.int i5), .val (.int i6), .unset, .unset, .unset, .unset] [(.int (i2 &&& (3 : Int32)))]))
  refine own_st ?_ (fun t k => XS.istore X0.here hx rfl (hb hby at_62) rfl (l' := #[s0, s1, .val (.int i2), .val (.int i3), s4, .val (.int i5), .val (.int i6), .val (.int (i2 &&& (3 : Int32))), .unset, .unset, .unset]) rfl k)
  show own_G p.tables e below _ _ (T0.setTop (mkF m 64 #[s0, s1, .val (.int i2), .val (.int i3), s4, .val (.int i5), .val (.int i6), .val (.int (i2 &&& (3 : Int32))), .unset, .unset, .unset] []))
  refine own_st ?_ (fun t k => XS.iload X0.here hx rfl (hb hby at_64) rfl k)
  show own_G p.tables e below _ _ (T0.setTop (mkF m 66 #[s0, s1, .val (.int i2), .val (.int i3), s4, .val (.int i5), .val (.int i6), .val (.int (i2 &&& (3 : Int32))), .unset, .unset, .unset] [(.int (i2 &&& (3 : Int32)))]))
  by_cases hc66 : (i2 &&& (3 : Int32)) = (0 : Int32)
  · refine own_st ?_ (fun t k => XS.ifNo X0.here hx rfl (hb hby at_66) rfl ((if0 _ _).trans (teq hc66).2) k)
    show own_G p.tables e below _ _ (T0.setTop (mkF m 69 #[s0, s1, .val (.int i2), .val (.int i3), s4, .val (.int i5), .val (.int i6), .val (.int (i2 &&& (3 : Int32))), .unset, .unset, .unset] []))
    refine own_st ?_ (fun t k => XS.iload X0.here hx rfl (hb hby at_69) rfl k)
    show own_G p.tables e below _ _ (T0.setTop (mkF m 71 #[s0, s1, .val (.int i2), .val (.int i3), s4, .val (.int i5), .val (.int i6), .val (.int (i2 &&& (3 : Int32))), .unset, .unset, .unset] [(.int i6)]))
    refine own_st ?_ (fun t k => XS.istore X0.here hx rfl (hb hby at_71) rfl (l' := #[s0, s1, .val (.int i2), .val (.int i3), s4, .val (.int i5), .val (.int i6), .val (.int (i2 &&& (3 : Int32))), .val (.int i6), .unset, .unset]) rfl k)
    show own_G p.tables e below _ _ (T0.setTop (mkF m 73 #[s0, s1, .val (.int i2), .val (.int i3), s4, .val (.int i5), .val (.int i6), .val (.int (i2 &&& (3 : Int32))), .val (.int i6), .unset, .unset] []))
    refine own_st ?_ (fun t k => XS.iconst X0.here hx rfl (hb hby at_73) k)
    show own_G p.tables e below _ _ (T0.setTop (mkF m 74 #[s0, s1, .val (.int i2), .val (.int i3), s4, .val (.int i5), .val (.int i6), .val (.int (i2 &&& (3 : Int32))), .val (.int i6), .unset, .unset] [(.int (1 : Int32))]))
    refine own_st ?_ (fun t k => XS.istore X0.here hx rfl (hb hby at_74) rfl (l' := #[s0, s1, .val (.int i2), .val (.int i3), s4, .val (.int i5), .val (.int i6), .val (.int (i2 &&& (3 : Int32))), .val (.int i6), .val (.int (1 : Int32)), .unset]) rfl k)
    show own_G p.tables e below _ _ (T0.setTop (mkF m 76 #[s0, s1, .val (.int i2), .val (.int i3), s4, .val (.int i5), .val (.int i6), .val (.int (i2 &&& (3 : Int32))), .val (.int i6), .val (.int (1 : Int32)), .unset] []))
    refine own_st ?_ (fun t k => XS.goto X0.here hx rfl (pc0 := 76) (pc' := 174) rfl (hb hby at_76) (by decide) (by decide) k)
    show own_G p.tables e below _ _ (T0.setTop (mkF m 174 #[s0, s1, .val (.int i2), .val (.int i3), s4, .val (.int i5), .val (.int i6), .val (.int (i2 &&& (3 : Int32))), .val (.int i6), .val (.int (1 : Int32)), .unset] []))
    rw [show f0_59 i2 i3 i5 i6  = (f0_174 i6 i6 (1 : Int32) ) from (if_pos hc66).trans (rfl)]
    exact sg0_174 (s0) (s1) (.val (.int i2)) (.val (.int i3)) (s4) (.val (.int i5)) i6 (.val (.int (i2 &&& (3 : Int32)))) i6 (1 : Int32) (.unset)  X0 N0 hx hlk hZ hw hby hml hown hret e0 Z0
  · refine own_st ?_ (fun t k => XS.ifYes X0.here hx rfl (pc0 := 66) (pc' := 79) rfl (hb hby at_66) rfl ((if0 _ _).trans (feq hc66).2) (by decide) (by decide) k)
    show own_G p.tables e below _ _ (T0.setTop (mkF m 79 #[s0, s1, .val (.int i2), .val (.int i3), s4, .val (.int i5), .val (.int i6), .val (.int (i2 &&& (3 : Int32))), .unset, .unset, .unset] []))
    refine own_st ?_ (fun t k => XS.iload X0.here hx rfl (hb hby at_79) rfl k)
    show own_G p.tables e below _ _ (T0.setTop (mkF m 81 #[s0, s1, .val (.int i2), .val (.int i3), s4, .val (.int i5), .val (.int i6), .val (.int (i2 &&& (3 : Int32))), .unset, .unset, .unset] [(.int (i2 &&& (3 : Int32)))]))
    refine own_st ?_ (fun t k => XS.iconst X0.here hx rfl (hb hby at_81) k)
    show own_G p.tables e below _ _ (T0.setTop (mkF m 82 #[s0, s1, .val (.int i2), .val (.int i3), s4, .val (.int i5), .val (.int i6), .val (.int (i2 &&& (3 : Int32))), .unset, .unset, .unset] [(.int (1 : Int32)), (.int (i2 &&& (3 : Int32)))]))
    by_cases hc82 : (i2 &&& (3 : Int32)) = (1 : Int32)
    · refine own_st ?_ (fun t k => XS.icmpNo X0.here hx rfl (hb hby at_82) rfl (teq hc82).2 k)
      show own_G p.tables e below _ _ (T0.setTop (mkF m 85 #[s0, s1, .val (.int i2), .val (.int i3), s4, .val (.int i5), .val (.int i6), .val (.int (i2 &&& (3 : Int32))), .unset, .unset, .unset] []))
      refine own_st ?_ (fun t k => XS.iloadN X0.here hx rfl (hb hby at_85) rfl k)
      show own_G p.tables e below _ _ (T0.setTop (mkF m 86 #[s0, s1, .val (.int i2), .val (.int i3), s4, .val (.int i5), .val (.int i6), .val (.int (i2 &&& (3 : Int32))), .unset, .unset, .unset] [(.int i3)]))
      refine own_st ?_ (fun t k => XS.iconst X0.here hx rfl (hb hby at_86) k)
      show own_G p.tables e below _ _ (T0.setTop (mkF m 87 #[s0, s1, .val (.int i2), .val (.int i3), s4, .val (.int i5), .val (.int i6), .val (.int (i2 &&& (3 : Int32))), .unset, .unset, .unset] [(.int (1 : Int32)), (.int i3)]))
      refine own_st ?_ (fun t k => XS.iand X0.here hx rfl (hb hby at_87) rfl k)
      show own_G p.tables e below _ _ (T0.setTop (mkF m 88 #[s0, s1, .val (.int i2), .val (.int i3), s4, .val (.int i5), .val (.int i6), .val (.int (i2 &&& (3 : Int32))), .unset, .unset, .unset] [(.int (i3 &&& (1 : Int32)))]))
      by_cases hc88 : (i3 &&& (1 : Int32)) = (0 : Int32)
      · refine own_st ?_ (fun t k => XS.ifNo X0.here hx rfl (hb hby at_88) rfl ((if0 _ _).trans (teq hc88).2) k)
        show own_G p.tables e below _ _ (T0.setTop (mkF m 91 #[s0, s1, .val (.int i2), .val (.int i3), s4, .val (.int i5), .val (.int i6), .val (.int (i2 &&& (3 : Int32))), .unset, .unset, .unset] []))
        refine own_st ?_ (fun t k => XS.iconst X0.here hx rfl (hb hby at_91) k)
        show own_G p.tables e below _ _ (T0.setTop (mkF m 92 #[s0, s1, .val (.int i2), .val (.int i3), s4, .val (.int i5), .val (.int i6), .val (.int (i2 &&& (3 : Int32))), .unset, .unset, .unset] [(.int (1 : Int32))]))
        refine own_st ?_ (fun t k => XS.goto X0.here hx rfl (pc0 := 92) (pc' := 96) rfl (hb hby at_92) (by decide) (by decide) k)
        show own_G p.tables e below _ _ (T0.setTop (mkF m 96 #[s0, s1, .val (.int i2), .val (.int i3), s4, .val (.int i5), .val (.int i6), .val (.int (i2 &&& (3 : Int32))), .unset, .unset, .unset] [(.int (1 : Int32))]))
        refine own_st ?_ (fun t k => XS.istore X0.here hx rfl (hb hby at_96) rfl (l' := #[s0, s1, .val (.int i2), .val (.int i3), s4, .val (.int i5), .val (.int i6), .val (.int (i2 &&& (3 : Int32))), .val (.int (1 : Int32)), .unset, .unset]) rfl k)
        show own_G p.tables e below _ _ (T0.setTop (mkF m 98 #[s0, s1, .val (.int i2), .val (.int i3), s4, .val (.int i5), .val (.int i6), .val (.int (i2 &&& (3 : Int32))), .val (.int (1 : Int32)), .unset, .unset] []))
        refine own_st ?_ (fun t k => XS.iload X0.here hx rfl (hb hby at_98) rfl k)
        show own_G p.tables e below _ _ (T0.setTop (mkF m 100 #[s0, s1, .val (.int i2), .val (.int i3), s4, .val (.int i5), .val (.int i6), .val (.int (i2 &&& (3 : Int32))), .val (.int (1 : Int32)), .unset, .unset] [(.int i5)]))
        by_cases hc100 : i5 = (0 : Int32)
        · refine own_st ?_ (fun t k => XS.ifNo X0.here hx rfl (hb hby at_100) rfl ((if0 _ _).trans (teq hc100).2) k)
          show own_G p.tables e below _ _ (T0.setTop (mkF m 103 #[s0, s1, .val (.int i2), .val (.int i3), s4, .val (.int i5), .val (.int i6), .val (.int (i2 &&& (3 : Int32))), .val (.int (1 : Int32)), .unset, .unset] []))
          refine own_st ?_ (fun t k => XS.iconst X0.here hx rfl (hb hby at_103) k)
          show own_G p.tables e below _ _ (T0.setTop (mkF m 104 #[s0, s1, .val (.int i2), .val (.int i3), s4, .val (.int i5), .val (.int i6), .val (.int (i2 &&& (3 : Int32))), .val (.int (1 : Int32)), .unset, .unset] [(.int (1 : Int32))]))
          refine own_st ?_ (fun t k => XS.goto X0.here hx rfl (pc0 := 104) (pc' := 108) rfl (hb hby at_104) (by decide) (by decide) k)
          show own_G p.tables e below _ _ (T0.setTop (mkF m 108 #[s0, s1, .val (.int i2), .val (.int i3), s4, .val (.int i5), .val (.int i6), .val (.int (i2 &&& (3 : Int32))), .val (.int (1 : Int32)), .unset, .unset] [(.int (1 : Int32))]))
          refine own_st ?_ (fun t k => XS.istore X0.here hx rfl (hb hby at_108) rfl (l' := #[s0, s1, .val (.int i2), .val (.int i3), s4, .val (.int i5), .val (.int i6), .val (.int (i2 &&& (3 : Int32))), .val (.int (1 : Int32)), .val (.int (1 : Int32)), .unset]) rfl k)
          show own_G p.tables e below _ _ (T0.setTop (mkF m 110 #[s0, s1, .val (.int i2), .val (.int i3), s4, .val (.int i5), .val (.int i6), .val (.int (i2 &&& (3 : Int32))), .val (.int (1 : Int32)), .val (.int (1 : Int32)), .unset] []))
          refine own_st ?_ (fun t k => XS.goto X0.here hx rfl (pc0 := 110) (pc' := 174) rfl (hb hby at_110) (by decide) (by decide) k)
          show own_G p.tables e below _ _ (T0.setTop (mkF m 174 #[s0, s1, .val (.int i2), .val (.int i3), s4, .val (.int i5), .val (.int i6), .val (.int (i2 &&& (3 : Int32))), .val (.int (1 : Int32)), .val (.int (1 : Int32)), .unset] []))
          rw [show f0_59 i2 i3 i5 i6  = (f0_174 i6 (1 : Int32) (1 : Int32) ) from (if_neg hc66).trans ((if_pos hc82).trans ((if_pos hc88).trans ((if_pos hc100).trans (rfl))))]
          exact sg0_174 (s0) (s1) (.val (.int i2)) (.val (.int i3)) (s4) (.val (.int i5)) i6 (.val (.int (i2 &&& (3 : Int32)))) (1 : Int32) (1 : Int32) (.unset)  X0 N0 hx hlk hZ hw hby hml hown hret e0 Z0
        · refine own_st ?_ (fun t k => XS.ifYes X0.here hx rfl (pc0 := 100) (pc' := 107) rfl (hb hby at_100) rfl ((if0 _ _).trans (feq hc100).2) (by decide) (by decide) k)
          show own_G p.tables e below _ _ (T0.setTop (mkF m 107 #[s0, s1, .val (.int i2), .val (.int i3), s4, .val (.int i5), .val (.int i6), .val (.int (i2 &&& (3 : Int32))), .val (.int (1 : Int32)), .unset, .unset] []))
          refine own_st ?_ (fun t k => XS.iconst X0.here hx rfl (hb hby at_107) k)
          show own_G p.tables e below _ _ (T0.setTop (mkF m 108 #[s0, s1, .val (.int i2), .val (.int i3), s4, .val (.int i5), .val (.int i6), .val (.int (i2 &&& (3 : Int32))), .val (.int (1 : Int32)), .unset, .unset] [(.int (0 : Int32))]))
          refine own_st ?_ (fun t k => XS.istore X0.here hx rfl (hb hby at_108) rfl (l' := #[s0, s1, .val (.int i2), .val (.int i3), s4, .val (.int i5), .val (.int i6), .val (.int (i2 &&& (3 : Int32))), .val (.int (1 : Int32)), .val (.int (0 : Int32)), .unset]) rfl k)
          show own_G p.tables e below _ _ (T0.setTop (mkF m 110 #[s0, s1, .val (.int i2), .val (.int i3), s4, .val (.int i5), .val (.int i6), .val (.int (i2 &&& (3 : Int32))), .val (.int (1 : Int32)), .val (.int (0 : Int32)), .unset] []))
          refine own_st ?_ (fun t k => XS.goto X0.here hx rfl (pc0 := 110) (pc' := 174) rfl (hb hby at_110) (by decide) (by decide) k)
          show own_G p.tables e below _ _ (T0.setTop (mkF m 174 #[s0, s1, .val (.int i2), .val (.int i3), s4, .val (.int i5), .val (.int i6), .val (.int (i2 &&& (3 : Int32))), .val (.int (1 : Int32)), .val (.int (0 : Int32)), .unset] []))
          rw [show f0_59 i2 i3 i5 i6  = (f0_174 i6 (1 : Int32) (0 : Int32) ) from (if_neg hc66).trans ((if_pos hc82).trans ((if_pos hc88).trans ((if_neg hc100).trans (rfl))))]
          exact sg0_174 (s0) (s1) (.val (.int i2)) (.val (.int i3)) (s4) (.val (.int i5)) i6 (.val (.int (i2 &&& (3 : Int32)))) (1 : Int32) (0 : Int32) (.unset)  X0 N0 hx hlk hZ hw hby hml hown hret e0 Z0
      · refine own_st ?_ (fun t k => XS.ifYes X0.here hx rfl (pc0 := 88) (pc' := 95) rfl (hb hby at_88) rfl ((if0 _ _).trans (feq hc88).2) (by decide) (by decide) k)
        show own_G p.tables e below _ _ (T0.setTop (mkF m 95 #[s0, s1, .val (.int i2), .val (.int i3), s4, .val (.int i5), .val (.int i6), .val (.int (i2 &&& (3 : Int32))), .unset, .unset, .unset] []))
        refine own_st ?_ (fun t k => XS.iconst X0.here hx rfl (hb hby at_95) k)
        show own_G p.tables e below _ _ (T0.setTop (mkF m 96 #[s0, s1, .val (.int i2), .val (.int i3), s4, .val (.int i5), .val (.int i6), .val (.int (i2 &&& (3 : Int32))), .unset, .unset, .unset] [(.int (2 : Int32))]))
        refine own_st ?_ (fun t k => XS.istore X0.here hx rfl (hb hby at_96) rfl (l' := #[s0, s1, .val (.int i2), .val (.int i3), s4, .val (.int i5), .val (.int i6), .val (.int (i2 &&& (3 : Int32))), .val (.int (2 : Int32)), .unset, .unset]) rfl k)
        show own_G p.tables e below _ _ (T0.setTop (mkF m 98 #[s0, s1, .val (.int i2), .val (.int i3), s4, .val (.int i5), .val (.int i6), .val (.int (i2 &&& (3 : Int32))), .val (.int (2 : Int32)), .unset, .unset] []))
        refine own_st ?_ (fun t k => XS.iload X0.here hx rfl (hb hby at_98) rfl k)
        show own_G p.tables e below _ _ (T0.setTop (mkF m 100 #[s0, s1, .val (.int i2), .val (.int i3), s4, .val (.int i5), .val (.int i6), .val (.int (i2 &&& (3 : Int32))), .val (.int (2 : Int32)), .unset, .unset] [(.int i5)]))
        by_cases hc100 : i5 = (0 : Int32)
        · refine own_st ?_ (fun t k => XS.ifNo X0.here hx rfl (hb hby at_100) rfl ((if0 _ _).trans (teq hc100).2) k)
          show own_G p.tables e below _ _ (T0.setTop (mkF m 103 #[s0, s1, .val (.int i2), .val (.int i3), s4, .val (.int i5), .val (.int i6), .val (.int (i2 &&& (3 : Int32))), .val (.int (2 : Int32)), .unset, .unset] []))
          refine own_st ?_ (fun t k => XS.iconst X0.here hx rfl (hb hby at_103) k)
          show own_G p.tables e below _ _ (T0.setTop (mkF m 104 #[s0, s1, .val (.int i2), .val (.int i3), s4, .val (.int i5), .val (.int i6), .val (.int (i2 &&& (3 : Int32))), .val (.int (2 : Int32)), .unset, .unset] [(.int (1 : Int32))]))
          refine own_st ?_ (fun t k => XS.goto X0.here hx rfl (pc0 := 104) (pc' := 108) rfl (hb hby at_104) (by decide) (by decide) k)
          show own_G p.tables e below _ _ (T0.setTop (mkF m 108 #[s0, s1, .val (.int i2), .val (.int i3), s4, .val (.int i5), .val (.int i6), .val (.int (i2 &&& (3 : Int32))), .val (.int (2 : Int32)), .unset, .unset] [(.int (1 : Int32))]))
          refine own_st ?_ (fun t k => XS.istore X0.here hx rfl (hb hby at_108) rfl (l' := #[s0, s1, .val (.int i2), .val (.int i3), s4, .val (.int i5), .val (.int i6), .val (.int (i2 &&& (3 : Int32))), .val (.int (2 : Int32)), .val (.int (1 : Int32)), .unset]) rfl k)
          show own_G p.tables e below _ _ (T0.setTop (mkF m 110 #[s0, s1, .val (.int i2), .val (.int i3), s4, .val (.int i5), .val (.int i6), .val (.int (i2 &&& (3 : Int32))), .val (.int (2 : Int32)), .val (.int (1 : Int32)), .unset] []))
          refine own_st ?_ (fun t k => XS.goto X0.here hx rfl (pc0 := 110) (pc' := 174) rfl (hb hby at_110) (by decide) (by decide) k)
          show own_G p.tables e below _ _ (T0.setTop (mkF m 174 #[s0, s1, .val (.int i2), .val (.int i3), s4, .val (.int i5), .val (.int i6), .val (.int (i2 &&& (3 : Int32))), .val (.int (2 : Int32)), .val (.int (1 : Int32)), .unset] []))
          rw [show f0_59 i2 i3 i5 i6  = (f0_174 i6 (2 : Int32) (1 : Int32) ) from (if_neg hc66).trans ((if_pos hc82).trans ((if_neg hc88).trans ((if_pos hc100).trans (rfl))))]
          exact sg0_174 (s0) (s1) (.val (.int i2)) (.val (.int i3)) (s4) (.val (.int i5)) i6 (.val (.int (i2 &&& (3 : Int32)))) (2 : Int32) (1 : Int32) (.unset)  X0 N0 hx hlk hZ hw hby hml hown hret e0 Z0
        · refine own_st ?_ (fun t k => XS.ifYes X0.here hx rfl (pc0 := 100) (pc' := 107) rfl (hb hby at_100) rfl ((if0 _ _).trans (feq hc100).2) (by decide) (by decide) k)
          show own_G p.tables e below _ _ (T0.setTop (mkF m 107 #[s0, s1, .val (.int i2), .val (.int i3), s4, .val (.int i5), .val (.int i6), .val (.int (i2 &&& (3 : Int32))), .val (.int (2 : Int32)), .unset, .unset] []))
          refine own_st ?_ (fun t k => XS.iconst X0.here hx rfl (hb hby at_107) k)
          show own_G p.tables e below _ _ (T0.setTop (mkF m 108 #[s0, s1, .val (.int i2), .val (.int i3), s4, .val (.int i5), .val (.int i6), .val (.int (i2 &&& (3 : Int32))), .val (.int (2 : Int32)), .unset, .unset] [(.int (0 : Int32))]))
          refine own_st ?_ (fun t k => XS.istore X0.here hx rfl (hb hby at_108) rfl (l' := #[s0, s1, .val (.int i2), .val (.int i3), s4, .val (.int i5), .val (.int i6), .val (.int (i2 &&& (3 : Int32))), .val (.int (2 : Int32)), .val (.int (0 : Int32)), .unset]) rfl k)
          show own_G p.tables e below _ _ (T0.setTop (mkF m 110 #[s0, s1, .val (.int i2), .val (.int i3), s4, .val (.int i5), .val (.int i6), .val (.int (i2 &&& (3 : Int32))), .val (.int (2 : Int32)), .val (.int (0 : Int32)), .unset] []))
          refine own_st ?_ (fun t k => XS.goto X0.here hx rfl (pc0 := 110) (pc' := 174) rfl (hb hby at_110) (by decide) (by decide) k)
          show own_G p.tables e below _ _ (T0.setTop (mkF m 174 #[s0, s1, .val (.int i2), .val (.int i3), s4, .val (.int i5), .val (.int i6), .val (.int (i2 &&& (3 : Int32))), .val (.int (2 : Int32)), .val (.int (0 : Int32)), .unset] []))
          rw [show f0_59 i2 i3 i5 i6  = (f0_174 i6 (2 : Int32) (0 : Int32) ) from (if_neg hc66).trans ((if_pos hc82).trans ((if_neg hc88).trans ((if_neg hc100).trans (rfl))))]
          exact sg0_174 (s0) (s1) (.val (.int i2)) (.val (.int i3)) (s4) (.val (.int i5)) i6 (.val (.int (i2 &&& (3 : Int32)))) (2 : Int32) (0 : Int32) (.unset)  X0 N0 hx hlk hZ hw hby hml hown hret e0 Z0
    · refine own_st ?_ (fun t k => XS.icmpYes X0.here hx rfl (pc0 := 82) (pc' := 113) rfl (hb hby at_82) rfl (feq hc82).2 (by decide) (by decide) k)
      show own_G p.tables e below _ _ (T0.setTop (mkF m 113 #[s0, s1, .val (.int i2), .val (.int i3), s4, .val (.int i5), .val (.int i6), .val (.int (i2 &&& (3 : Int32))), .unset, .unset, .unset] []))
      refine own_st ?_ (fun t k => XS.iload X0.here hx rfl (hb hby at_113) rfl k)
      show own_G p.tables e below _ _ (T0.setTop (mkF m 115 #[s0, s1, .val (.int i2), .val (.int i3), s4, .val (.int i5), .val (.int i6), .val (.int (i2 &&& (3 : Int32))), .unset, .unset, .unset] [(.int (i2 &&& (3 : Int32)))]))
      refine own_st ?_ (fun t k => XS.iconst X0.here hx rfl (hb hby at_115) k)
      show own_G p.tables e below _ _ (T0.setTop (mkF m 116 #[s0, s1, .val (.int i2), .val (.int i3), s4, .val (.int i5), .val (.int i6), .val (.int (i2 &&& (3 : Int32))), .unset, .unset, .unset] [(.int (2 : Int32)), (.int (i2 &&& (3 : Int32)))]))
      by_cases hc116 : (i2 &&& (3 : Int32)) = (2 : Int32)
      · refine own_st ?_ (fun t k => XS.icmpNo X0.here hx rfl (hb hby at_116) rfl (teq hc116).2 k)
        show own_G p.tables e below _ _ (T0.setTop (mkF m 119 #[s0, s1, .val (.int i2), .val (.int i3), s4, .val (.int i5), .val (.int i6), .val (.int (i2 &&& (3 : Int32))), .unset, .unset, .unset] []))
        refine own_st ?_ (fun t k => XS.iconst X0.here hx rfl (hb hby at_119) k)
        show own_G p.tables e below _ _ (T0.setTop (mkF m 120 #[s0, s1, .val (.int i2), .val (.int i3), s4, .val (.int i5), .val (.int i6), .val (.int (i2 &&& (3 : Int32))), .unset, .unset, .unset] [(.int (0 : Int32))]))
        refine own_st ?_ (fun t k => XS.istore X0.here hx rfl (hb hby at_120) rfl (l' := #[s0, s1, .val (.int i2), .val (.int i3), s4, .val (.int i5), .val (.int i6), .val (.int (i2 &&& (3 : Int32))), .val (.int (0 : Int32)), .unset, .unset]) rfl k)
        show own_G p.tables e below _ _ (T0.setTop (mkF m 122 #[s0, s1, .val (.int i2), .val (.int i3), s4, .val (.int i5), .val (.int i6), .val (.int (i2 &&& (3 : Int32))), .val (.int (0 : Int32)), .unset, .unset] []))
        refine own_st ?_ (fun t k => XS.iconst X0.here hx rfl (hb hby at_122) k)
        show own_G p.tables e below _ _ (T0.setTop (mkF m 123 #[s0, s1, .val (.int i2), .val (.int i3), s4, .val (.int i5), .val (.int i6), .val (.int (i2 &&& (3 : Int32))), .val (.int (0 : Int32)), .unset, .unset] [(.int (0 : Int32))]))
        refine own_st ?_ (fun t k => XS.istore X0.here hx rfl (hb hby at_123) rfl (l' := #[s0, s1, .val (.int i2), .val (.int i3), s4, .val (.int i5), .val (.int i6), .val (.int (i2 &&& (3 : Int32))), .val (.int (0 : Int32)), .val (.int (0 : Int32)), .unset]) rfl k)
        show own_G p.tables e below _ _ (T0.setTop (mkF m 125 #[s0, s1, .val (.int i2), .val (.int i3), s4, .val (.int i5), .val (.int i6), .val (.int (i2 &&& (3 : Int32))), .val (.int (0 : Int32)), .val (.int (0 : Int32)), .unset] []))
        refine own_st ?_ (fun t k => XS.goto X0.here hx rfl (pc0 := 125) (pc' := 174) rfl (hb hby at_125) (by decide) (by decide) k)
        show own_G p.tables e below _ _ (T0.setTop (mkF m 174 #[s0, s1, .val (.int i2), .val (.int i3), s4, .val (.int i5), .val (.int i6), .val (.int (i2 &&& (3 : Int32))), .val (.int (0 : Int32)), .val (.int (0 : Int32)), .unset] []))
        rw [show f0_59 i2 i3 i5 i6  = (f0_174 i6 (0 : Int32) (0 : Int32) ) from (if_neg hc66).trans ((if_neg hc82).trans ((if_pos hc116).trans (rfl)))]
        exact sg0_174 (s0) (s1) (.val (.int i2)) (.val (.int i3)) (s4) (.val (.int i5)) i6 (.val (.int (i2 &&& (3 : Int32)))) (0 : Int32) (0 : Int32) (.unset)  X0 N0 hx hlk hZ hw hby hml hown hret e0 Z0
      · refine own_st ?_ (fun t k => XS.icmpYes X0.here hx rfl (pc0 := 116) (pc' := 128) rfl (hb hby at_116) rfl (feq hc116).2 (by decide) (by decide) k)
        show own_G p.tables e below _ _ (T0.setTop (mkF m 128 #[s0, s1, .val (.int i2), .val (.int i3), s4, .val (.int i5), .val (.int i6), .val (.int (i2 &&& (3 : Int32))), .unset, .unset, .unset] []))
        refine own_st ?_ (fun t k => XS.iloadN X0.here hx rfl (hb hby at_128) rfl k)
        show own_G p.tables e below _ _ (T0.setTop (mkF m 129 #[s0, s1, .val (.int i2), .val (.int i3), s4, .val (.int i5), .val (.int i6), .val (.int (i2 &&& (3 : Int32))), .unset, .unset, .unset] [(.int i3)]))
        refine own_st ?_ (fun t k => XS.istore X0.here hx rfl (hb hby at_129) rfl (l' := #[s0, s1, .val (.int i2), .val (.int i3), s4, .val (.int i5), .val (.int i6), .val (.int (i2 &&& (3 : Int32))), .val (.int i3), .unset, .unset]) rfl k)
        show own_G p.tables e below _ _ (T0.setTop (mkF m 131 #[s0, s1, .val (.int i2), .val (.int i3), s4, .val (.int i5), .val (.int i6), .val (.int (i2 &&& (3 : Int32))), .val (.int i3), .unset, .unset] []))
        refine own_st ?_ (fun t k => XS.iload X0.here hx rfl (hb hby at_131) rfl k)
        show own_G p.tables e below _ _ (T0.setTop (mkF m 133 #[s0, s1, .val (.int i2), .val (.int i3), s4, .val (.int i5), .val (.int i6), .val (.int (i2 &&& (3 : Int32))), .val (.int i3), .unset, .unset] [(.int i3)]))
        refine own_st ?_ (fun t k => XS.iconst X0.here hx rfl (hb hby at_133) k)
        show own_G p.tables e below _ _ (T0.setTop (mkF m 134 #[s0, s1, .val (.int i2), .val (.int i3), s4, .val (.int i5), .val (.int i6), .val (.int (i2 &&& (3 : Int32))), .val (.int i3), .unset, .unset] [(.int (1 : Int32)), (.int i3)]))
        by_cases hc134 : i3 = (1 : Int32)
        · refine own_st ?_ (fun t k => XS.icmpYes X0.here hx rfl (pc0 := 134) (pc' := 143) rfl (hb hby at_134) rfl (teq hc134).1 (by decide) (by decide) k)
          show own_G p.tables e below _ _ (T0.setTop (mkF m 143 #[s0, s1, .val (.int i2), .val (.int i3), s4, .val (.int i5), .val (.int i6), .val (.int (i2 &&& (3 : Int32))), .val (.int i3), .unset, .unset] []))
          refine own_st ?_ (fun t k => XS.iconst X0.here hx rfl (hb hby at_143) k)
          show own_G p.tables e below _ _ (T0.setTop (mkF m 144 #[s0, s1, .val (.int i2), .val (.int i3), s4, .val (.int i5), .val (.int i6), .val (.int (i2 &&& (3 : Int32))), .val (.int i3), .unset, .unset] [(.int (1 : Int32))]))
          refine own_st ?_ (fun t k => XS.goto X0.here hx rfl (pc0 := 144) (pc' := 148) rfl (hb hby at_144) (by decide) (by decide) k)
          show own_G p.tables e below _ _ (T0.setTop (mkF m 148 #[s0, s1, .val (.int i2), .val (.int i3), s4, .val (.int i5), .val (.int i6), .val (.int (i2 &&& (3 : Int32))), .val (.int i3), .unset, .unset] [(.int (1 : Int32))]))
          refine own_st ?_ (fun t k => XS.istore X0.here hx rfl (hb hby at_148) rfl (l' := #[s0, s1, .val (.int i2), .val (.int i3), s4, .val (.int i5), .val (.int i6), .val (.int (i2 &&& (3 : Int32))), .val (.int i3), .unset, .val (.int (1 : Int32))]) rfl k)
          show own_G p.tables e below _ _ (T0.setTop (mkF m 150 #[s0, s1, .val (.int i2), .val (.int i3), s4, .val (.int i5), .val (.int i6), .val (.int (i2 &&& (3 : Int32))), .val (.int i3), .unset, .val (.int (1 : Int32))] []))
          refine own_st ?_ (fun t k => XS.iload X0.here hx rfl (hb hby at_150) rfl k)
          show own_G p.tables e below _ _ (T0.setTop (mkF m 152 #[s0, s1, .val (.int i2), .val (.int i3), s4, .val (.int i5), .val (.int i6), .val (.int (i2 &&& (3 : Int32))), .val (.int i3), .unset, .val (.int (1 : Int32))] [(.int i3)]))
          refine own_st ?_ (fun t k => XS.iload X0.here hx rfl (hb hby at_152) rfl k)
          show own_G p.tables e below _ _ (T0.setTop (mkF m 154 #[s0, s1, .val (.int i2), .val (.int i3), s4, .val (.int i5), .val (.int i6), .val (.int (i2 &&& (3 : Int32))), .val (.int i3), .unset, .val (.int (1 : Int32))] [(.int i6), (.int i3)]))
          by_cases hc154 : i3 = i6
          · refine own_st ?_ (fun t k => XS.icmpYes X0.here hx rfl (pc0 := 154) (pc' := 167) rfl (hb hby at_154) rfl (teq hc154).1 (by decide) (by decide) k)
            show own_G p.tables e below _ _ (T0.setTop (mkF m 167 #[s0, s1, .val (.int i2), .val (.int i3), s4, .val (.int i5), .val (.int i6), .val (.int (i2 &&& (3 : Int32))), .val (.int i3), .unset, .val (.int (1 : Int32))] []))
            refine own_st ?_ (fun t k => XS.iconst X0.here hx rfl (hb hby at_167) k)
            show own_G p.tables e below _ _ (T0.setTop (mkF m 168 #[s0, s1, .val (.int i2), .val (.int i3), s4, .val (.int i5), .val (.int i6), .val (.int (i2 &&& (3 : Int32))), .val (.int i3), .unset, .val (.int (1 : Int32))] [(.int (1 : Int32))]))
            refine own_st ?_ (fun t k => XS.goto X0.here hx rfl (pc0 := 168) (pc' := 172) rfl (hb hby at_168) (by decide) (by decide) k)
            show own_G p.tables e below _ _ (T0.setTop (mkF m 172 #[s0, s1, .val (.int i2), .val (.int i3), s4, .val (.int i5), .val (.int i6), .val (.int (i2 &&& (3 : Int32))), .val (.int i3), .unset, .val (.int (1 : Int32))] [(.int (1 : Int32))]))
            refine own_st ?_ (fun t k => XS.istore X0.here hx rfl (hb hby at_172) rfl (l' := #[s0, s1, .val (.int i2), .val (.int i3), s4, .val (.int i5), .val (.int i6), .val (.int (i2 &&& (3 : Int32))), .val (.int i3), .val (.int (1 : Int32)), .val (.int (1 : Int32))]) rfl k)
            show own_G p.tables e below _ _ (T0.setTop (mkF m 174 #[s0, s1, .val (.int i2), .val (.int i3), s4, .val (.int i5), .val (.int i6), .val (.int (i2 &&& (3 : Int32))), .val (.int i3), .val (.int (1 : Int32)), .val (.int (1 : Int32))] []))
            rw [show f0_59 i2 i3 i5 i6  = (f0_174 i6 i3 (1 : Int32) ) from (if_neg hc66).trans ((if_neg hc82).trans ((if_neg hc116).trans ((if_pos hc134).trans ((if_pos hc154).trans (rfl)))))]
            exact sg0_174 (s0) (s1) (.val (.int i2)) (.val (.int i3)) (s4) (.val (.int i5)) i6 (.val (.int (i2 &&& (3 : Int32)))) i3 (1 : Int32) (.val (.int (1 : Int32)))  X0 N0 hx hlk hZ hw hby hml hown hret e0 Z0
          · refine own_st ?_ (fun t k => XS.icmpNo X0.here hx rfl (hb hby at_154) rfl (feq hc154).1 k)
            show own_G p.tables e below _ _ (T0.setTop (mkF m 157 #[s0, s1, .val (.int i2), .val (.int i3), s4, .val (.int i5), .val (.int i6), .val (.int (i2 &&& (3 : Int32))), .val (.int i3), .unset, .val (.int (1 : Int32))] []))
            refine own_st ?_ (fun t k => XS.iload X0.here hx rfl (hb hby at_157) rfl k)
            show own_G p.tables e below _ _ (T0.setTop (mkF m 159 #[s0, s1, .val (.int i2), .val (.int i3), s4, .val (.int i5), .val (.int i6), .val (.int (i2 &&& (3 : Int32))), .val (.int i3), .unset, .val (.int (1 : Int32))] [(.int i5)]))
            by_cases hc159 : i5 = (0 : Int32)
            · refine own_st ?_ (fun t k => XS.ifNo X0.here hx rfl (hb hby at_159) rfl ((if0 _ _).trans (teq hc159).2) k)
              show own_G p.tables e below _ _ (T0.setTop (mkF m 162 #[s0, s1, .val (.int i2), .val (.int i3), s4, .val (.int i5), .val (.int i6), .val (.int (i2 &&& (3 : Int32))), .val (.int i3), .unset, .val (.int (1 : Int32))] []))
              refine own_st ?_ (fun t k => XS.iload X0.here hx rfl (hb hby at_162) rfl k)
              show own_G p.tables e below _ _ (T0.setTop (mkF m 164 #[s0, s1, .val (.int i2), .val (.int i3), s4, .val (.int i5), .val (.int i6), .val (.int (i2 &&& (3 : Int32))), .val (.int i3), .unset, .val (.int (1 : Int32))] [(.int (1 : Int32))]))
              refine own_st ?_ (fun t k => XS.ifNo X0.here hx rfl (hb hby at_164) rfl ((if0 _ _).trans (feq (by decide : ¬ ((1 : Int32) = (0 : Int32)))).1) k)
              show own_G p.tables e below _ _ (T0.setTop (mkF m 167 #[s0, s1, .val (.int i2), .val (.int i3), s4, .val (.int i5), .val (.int i6), .val (.int (i2 &&& (3 : Int32))), .val (.int i3), .unset, .val (.int (1 : Int32))] []))
              refine own_st ?_ (fun t k => XS.iconst X0.here hx rfl (hb hby at_167) k)
              show own_G p.tables e below _ _ (T0.setTop (mkF m 168 #[s0, s1, .val (.int i2), .val (.int i3), s4, .val (.int i5), .val (.int i6), .val (.int (i2 &&& (3 : Int32))), .val (.int i3), .unset, .val (.int (1 : Int32))] [(.int (1 : Int32))]))
              refine own_st ?_ (fun t k => XS.goto X0.here hx rfl (pc0 := 168) (pc' := 172) rfl (hb hby at_168) (by decide) (by decide) k)
              show own_G p.tables e below _ _ (T0.setTop (mkF m 172 #[s0, s1, .val (.int i2), .val (.int i3), s4, .val (.int i5), .val (.int i6), .val (.int (i2 &&& (3 : Int32))), .val (.int i3), .unset, .val (.int (1 : Int32))] [(.int (1 : Int32))]))
              refine own_st ?_ (fun t k => XS.istore X0.here hx rfl (hb hby at_172) rfl (l' := #[s0, s1, .val (.int i2), .val (.int i3), s4, .val (.int i5), .val (.int i6), .val (.int (i2 &&& (3 : Int32))), .val (.int i3), .val (.int (1 : Int32)), .val (.int (1 : Int32))]) rfl k)
              show own_G p.tables e below _ _ (T0.setTop (mkF m 174 #[s0, s1, .val (.int i2), .val (.int i3), s4, .val (.int i5), .val (.int i6), .val (.int (i2 &&& (3 : Int32))), .val (.int i3), .val (.int (1 : Int32)), .val (.int (1 : Int32))] []))
              rw [show f0_59 i2 i3 i5 i6  = (f0_174 i6 i3 (1 : Int32) ) from (if_neg hc66).trans ((if_neg hc82).trans ((if_neg hc116).trans ((if_pos hc134).trans ((if_neg hc154).trans ((if_pos hc159).trans (rfl))))))]
              exact sg0_174 (s0) (s1) (.val (.int i2)) (.val (.int i3)) (s4) (.val (.int i5)) i6 (.val (.int (i2 &&& (3 : Int32)))) i3 (1 : Int32) (.val (.int (1 : Int32)))  X0 N0 hx hlk hZ hw hby hml hown hret e0 Z0
            · refine own_st ?_ (fun t k => XS.ifYes X0.here hx rfl (pc0 := 159) (pc' := 171) rfl (hb hby at_159) rfl ((if0 _ _).trans (feq hc159).2) (by decide) (by decide) k)
              show own_G p.tables e below _ _ (T0.setTop (mkF m 171 #[s0, s1, .val (.int i2), .val (.int i3), s4, .val (.int i5), .val (.int i6), .val (.int (i2 &&& (3 : Int32))), .val (.int i3), .unset, .val (.int (1 : Int32))] []))
              refine own_st ?_ (fun t k => XS.iconst X0.here hx rfl (hb hby at_171) k)
              show own_G p.tables e below _ _ (T0.setTop (mkF m 172 #[s0, s1, .val (.int i2), .val (.int i3), s4, .val (.int i5), .val (.int i6), .val (.int (i2 &&& (3 : Int32))), .val (.int i3), .unset, .val (.int (1 : Int32))] [(.int (0 : Int32))]))
              refine own_st ?_ (fun t k => XS.istore X0.here hx rfl (hb hby at_172) rfl (l' := #[s0, s1, .val (.int i2), .val (.int i3), s4, .val (.int i5), .val (.int i6), .val (.int (i2 &&& (3 : Int32))), .val (.int i3), .val (.int (0 : Int32)), .val (.int (1 : Int32))]) rfl k)
              show own_G p.tables e below _ _ (T0.setTop (mkF m 174 #[s0, s1, .val (.int i2), .val (.int i3), s4, .val (.int i5), .val (.int i6), .val (.int (i2 &&& (3 : Int32))), .val (.int i3), .val (.int (0 : Int32)), .val (.int (1 : Int32))] []))
              rw [show f0_59 i2 i3 i5 i6  = (f0_174 i6 i3 (0 : Int32) ) from (if_neg hc66).trans ((if_neg hc82).trans ((if_neg hc116).trans ((if_pos hc134).trans ((if_neg hc154).trans ((if_neg hc159).trans (rfl))))))]
              exact sg0_174 (s0) (s1) (.val (.int i2)) (.val (.int i3)) (s4) (.val (.int i5)) i6 (.val (.int (i2 &&& (3 : Int32)))) i3 (0 : Int32) (.val (.int (1 : Int32)))  X0 N0 hx hlk hZ hw hby hml hown hret e0 Z0
        · refine own_st ?_ (fun t k => XS.icmpNo X0.here hx rfl (hb hby at_134) rfl (feq hc134).1 k)
          show own_G p.tables e below _ _ (T0.setTop (mkF m 137 #[s0, s1, .val (.int i2), .val (.int i3), s4, .val (.int i5), .val (.int i6), .val (.int (i2 &&& (3 : Int32))), .val (.int i3), .unset, .unset] []))
          refine own_st ?_ (fun t k => XS.iload X0.here hx rfl (hb hby at_137) rfl k)
          show own_G p.tables e below _ _ (T0.setTop (mkF m 139 #[s0, s1, .val (.int i2), .val (.int i3), s4, .val (.int i5), .val (.int i6), .val (.int (i2 &&& (3 : Int32))), .val (.int i3), .unset, .unset] [(.int i3)]))
          refine own_st ?_ (fun t k => XS.iconst X0.here hx rfl (hb hby at_139) k)
          show own_G p.tables e below _ _ (T0.setTop (mkF m 140 #[s0, s1, .val (.int i2), .val (.int i3), s4, .val (.int i5), .val (.int i6), .val (.int (i2 &&& (3 : Int32))), .val (.int i3), .unset, .unset] [(.int (2 : Int32)), (.int i3)]))
          by_cases hc140 : i3 = (2 : Int32)
          · refine own_st ?_ (fun t k => XS.icmpNo X0.here hx rfl (hb hby at_140) rfl (teq hc140).2 k)
            show own_G p.tables e below _ _ (T0.setTop (mkF m 143 #[s0, s1, .val (.int i2), .val (.int i3), s4, .val (.int i5), .val (.int i6), .val (.int (i2 &&& (3 : Int32))), .val (.int i3), .unset, .unset] []))
            refine own_st ?_ (fun t k => XS.iconst X0.here hx rfl (hb hby at_143) k)
            show own_G p.tables e below _ _ (T0.setTop (mkF m 144 #[s0, s1, .val (.int i2), .val (.int i3), s4, .val (.int i5), .val (.int i6), .val (.int (i2 &&& (3 : Int32))), .val (.int i3), .unset, .unset] [(.int (1 : Int32))]))
            refine own_st ?_ (fun t k => XS.goto X0.here hx rfl (pc0 := 144) (pc' := 148) rfl (hb hby at_144) (by decide) (by decide) k)
            show own_G p.tables e below _ _ (T0.setTop (mkF m 148 #[s0, s1, .val (.int i2), .val (.int i3), s4, .val (.int i5), .val (.int i6), .val (.int (i2 &&& (3 : Int32))), .val (.int i3), .unset, .unset] [(.int (1 : Int32))]))
            refine own_st ?_ (fun t k => XS.istore X0.here hx rfl (hb hby at_148) rfl (l' := #[s0, s1, .val (.int i2), .val (.int i3), s4, .val (.int i5), .val (.int i6), .val (.int (i2 &&& (3 : Int32))), .val (.int i3), .unset, .val (.int (1 : Int32))]) rfl k)
            show own_G p.tables e below _ _ (T0.setTop (mkF m 150 #[s0, s1, .val (.int i2), .val (.int i3), s4, .val (.int i5), .val (.int i6), .val (.int (i2 &&& (3 : Int32))), .val (.int i3), .unset, .val (.int (1 : Int32))] []))
            refine own_st ?_ (fun t k => XS.iload X0.here hx rfl (hb hby at_150) rfl k)
            show own_G p.tables e below _ _ (T0.setTop (mkF m 152 #[s0, s1, .val (.int i2), .val (.int i3), s4, .val (.int i5), .val (.int i6), .val (.int (i2 &&& (3 : Int32))), .val (.int i3), .unset, .val (.int (1 : Int32))] [(.int i3)]))
            refine own_st ?_ (fun t k => XS.iload X0.here hx rfl (hb hby at_152) rfl k)
            show own_G p.tables e below _ _ (T0.setTop (mkF m 154 #[s0, s1, .val (.int i2), .val (.int i3), s4, .val (.int i5), .val (.int i6), .val (.int (i2 &&& (3 : Int32))), .val (.int i3), .unset, .val (.int (1 : Int32))] [(.int i6), (.int i3)]))
            by_cases hc154 : i3 = i6
            · refine own_st ?_ (fun t k => XS.icmpYes X0.here hx rfl (pc0 := 154) (pc' := 167) rfl (hb hby at_154) rfl (teq hc154).1 (by decide) (by decide) k)
              show own_G p.tables e below _ _ (T0.setTop (mkF m 167 #[s0, s1, .val (.int i2), .val (.int i3), s4, .val (.int i5), .val (.int i6), .val (.int (i2 &&& (3 : Int32))), .val (.int i3), .unset, .val (.int (1 : Int32))] []))
              refine own_st ?_ (fun t k => XS.iconst X0.here hx rfl (hb hby at_167) k)
              show own_G p.tables e below _ _ (T0.setTop (mkF m 168 #[s0, s1, .val (.int i2), .val (.int i3), s4, .val (.int i5), .val (.int i6), .val (.int (i2 &&& (3 : Int32))), .val (.int i3), .unset, .val (.int (1 : Int32))] [(.int (1 : Int32))]))
              refine own_st ?_ (fun t k => XS.goto X0.here hx rfl (pc0 := 168) (pc' := 172) rfl (hb hby at_168) (by decide) (by decide) k)
              show own_G p.tables e below _ _ (T0.setTop (mkF m 172 #[s0, s1, .val (.int i2), .val (.int i3), s4, .val (.int i5), .val (.int i6), .val (.int (i2 &&& (3 : Int32))), .val (.int i3), .unset, .val (.int (1 : Int32))] [(.int (1 : Int32))]))
              refine own_st ?_ (fun t k => XS.istore X0.here hx rfl (hb hby at_172) rfl (l' := #[s0, s1, .val (.int i2), .val (.int i3), s4, .val (.int i5), .val (.int i6), .val (.int (i2 &&& (3 : Int32))), .val (.int i3), .val (.int (1 : Int32)), .val (.int (1 : Int32))]) rfl k)
              show own_G p.tables e below _ _ (T0.setTop (mkF m 174 #[s0, s1, .val (.int i2), .val (.int i3), s4, .val (.int i5), .val (.int i6), .val (.int (i2 &&& (3 : Int32))), .val (.int i3), .val (.int (1 : Int32)), .val (.int (1 : Int32))] []))
              rw [show f0_59 i2 i3 i5 i6  = (f0_174 i6 i3 (1 : Int32) ) from (if_neg hc66).trans ((if_neg hc82).trans ((if_neg hc116).trans ((if_neg hc134).trans ((if_pos hc140).trans ((if_pos hc154).trans (rfl))))))]
              exact sg0_174 (s0) (s1) (.val (.int i2)) (.val (.int i3)) (s4) (.val (.int i5)) i6 (.val (.int (i2 &&& (3 : Int32)))) i3 (1 : Int32) (.val (.int (1 : Int32)))  X0 N0 hx hlk hZ hw hby hml hown hret e0 Z0
            · refine own_st ?_ (fun t k => XS.icmpNo X0.here hx rfl (hb hby at_154) rfl (feq hc154).1 k)
              show own_G p.tables e below _ _ (T0.setTop (mkF m 157 #[s0, s1, .val (.int i2), .val (.int i3), s4, .val (.int i5), .val (.int i6), .val (.int (i2 &&& (3 : Int32))), .val (.int i3), .unset, .val (.int (1 : Int32))] []))
              refine own_st ?_ (fun t k => XS.iload X0.here hx rfl (hb hby at_157) rfl k)
              show own_G p.tables e below _ _ (T0.setTop (mkF m 159 #[s0, s1, .val (.int i2), .val (.int i3), s4, .val (.int i5), .val (.int i6), .val (.int (i2 &&& (3 : Int32))), .val (.int i3), .unset, .val (.int (1 : Int32))] [(.int i5)]))
              by_cases hc159 : i5 = (0 : Int32)
              · refine own_st ?_ (fun t k => XS.ifNo X0.here hx rfl (hb hby at_159) rfl ((if0 _ _).trans (teq hc159).2) k)
                show own_G p.tables e below _ _ (T0.setTop (mkF m 162 #[s0, s1, .val (.int i2), .val (.int i3), s4, .val (.int i5), .val (.int i6), .val (.int (i2 &&& (3 : Int32))), .val (.int i3), .unset, .val (.int (1 : Int32))] []))
                refine own_st ?_ (fun t k => XS.iload X0.here hx rfl (hb hby at_162) rfl k)
                show own_G p.tables e below _ _ (T0.setTop (mkF m 164 #[s0, s1, .val (.int i2), .val (.int i3), s4, .val (.int i5), .val (.int i6), .val (.int (i2 &&& (3 : Int32))), .val (.int i3), .unset, .val (.int (1 : Int32))] [(.int (1 : Int32))]))
                refine own_st ?_ (fun t k => XS.ifNo X0.here hx rfl (hb hby at_164) rfl ((if0 _ _).trans (feq (by decide : ¬ ((1 : Int32) = (0 : Int32)))).1) k)
                show own_G p.tables e below _ _ (T0.setTop (mkF m 167 #[s0, s1, .val (.int i2), .val (.int i3), s4, .val (.int i5), .val (.int i6), .val (.int (i2 &&& (3 : Int32))), .val (.int i3), .unset, .val (.int (1 : Int32))] []))
                refine own_st ?_ (fun t k => XS.iconst X0.here hx rfl (hb hby at_167) k)
                show own_G p.tables e below _ _ (T0.setTop (mkF m 168 #[s0, s1, .val (.int i2), .val (.int i3), s4, .val (.int i5), .val (.int i6), .val (.int (i2 &&& (3 : Int32))), .val (.int i3), .unset, .val (.int (1 : Int32))] [(.int (1 : Int32))]))
                refine own_st ?_ (fun t k => XS.goto X0.here hx rfl (pc0 := 168) (pc' := 172) rfl (hb hby at_168) (by decide) (by decide) k)
                show own_G p.tables e below _ _ (T0.setTop (mkF m 172 #[s0, s1, .val (.int i2), .val (.int i3), s4, .val (.int i5), .val (.int i6), .val (.int (i2 &&& (3 : Int32))), .val (.int i3), .unset, .val (.int (1 : Int32))] [(.int (1 : Int32))]))
                refine own_st ?_ (fun t k => XS.istore X0.here hx rfl (hb hby at_172) rfl (l' := #[s0, s1, .val (.int i2), .val (.int i3), s4, .val (.int i5), .val (.int i6), .val (.int (i2 &&& (3 : Int32))), .val (.int i3), .val (.int (1 : Int32)), .val (.int (1 : Int32))]) rfl k)
                show own_G p.tables e below _ _ (T0.setTop (mkF m 174 #[s0, s1, .val (.int i2), .val (.int i3), s4, .val (.int i5), .val (.int i6), .val (.int (i2 &&& (3 : Int32))), .val (.int i3), .val (.int (1 : Int32)), .val (.int (1 : Int32))] []))
                rw [show f0_59 i2 i3 i5 i6  = (f0_174 i6 i3 (1 : Int32) ) from (if_neg hc66).trans ((if_neg hc82).trans ((if_neg hc116).trans ((if_neg hc134).trans ((if_pos hc140).trans ((if_neg hc154).trans ((if_pos hc159).trans (rfl)))))))]
                exact sg0_174 (s0) (s1) (.val (.int i2)) (.val (.int i3)) (s4) (.val (.int i5)) i6 (.val (.int (i2 &&& (3 : Int32)))) i3 (1 : Int32) (.val (.int (1 : Int32)))  X0 N0 hx hlk hZ hw hby hml hown hret e0 Z0
              · refine own_st ?_ (fun t k => XS.ifYes X0.here hx rfl (pc0 := 159) (pc' := 171) rfl (hb hby at_159) rfl ((if0 _ _).trans (feq hc159).2) (by decide) (by decide) k)
                show own_G p.tables e below _ _ (T0.setTop (mkF m 171 #[s0, s1, .val (.int i2), .val (.int i3), s4, .val (.int i5), .val (.int i6), .val (.int (i2 &&& (3 : Int32))), .val (.int i3), .unset, .val (.int (1 : Int32))] []))
                refine own_st ?_ (fun t k => XS.iconst X0.here hx rfl (hb hby at_171) k)
                show own_G p.tables e below _ _ (T0.setTop (mkF m 172 #[s0, s1, .val (.int i2), .val (.int i3), s4, .val (.int i5), .val (.int i6), .val (.int (i2 &&& (3 : Int32))), .val (.int i3), .unset, .val (.int (1 : Int32))] [(.int (0 : Int32))]))
                refine own_st ?_ (fun t k => XS.istore X0.here hx rfl (hb hby at_172) rfl (l' := #[s0, s1, .val (.int i2), .val (.int i3), s4, .val (.int i5), .val (.int i6), .val (.int (i2 &&& (3 : Int32))), .val (.int i3), .val (.int (0 : Int32)), .val (.int (1 : Int32))]) rfl k)
                show own_G p.tables e below _ _ (T0.setTop (mkF m 174 #[s0, s1, .val (.int i2), .val (.int i3), s4, .val (.int i5), .val (.int i6), .val (.int (i2 &&& (3 : Int32))), .val (.int i3), .val (.int (0 : Int32)), .val (.int (1 : Int32))] []))
                rw [show f0_59 i2 i3 i5 i6  = (f0_174 i6 i3 (0 : Int32) ) from (if_neg hc66).trans ((if_neg hc82).trans ((if_neg hc116).trans ((if_neg hc134).trans ((if_pos hc140).trans ((if_neg hc154).trans ((if_neg hc159).trans (rfl)))))))]
                exact sg0_174 (s0) (s1) (.val (.int i2)) (.val (.int i3)) (s4) (.val (.int i5)) i6 (.val (.int (i2 &&& (3 : Int32)))) i3 (0 : Int32) (.val (.int (1 : Int32)))  X0 N0 hx hlk hZ hw hby hml hown hret e0 Z0
          · refine own_st ?_ (fun t k => XS.icmpYes X0.here hx rfl (pc0 := 140) (pc' := 147) rfl (hb hby at_140) rfl (feq hc140).2 (by decide) (by decide) k)
            show own_G p.tables e below _ _ (T0.setTop (mkF m 147 #[s0, s1, .val (.int i2), .val (.int i3), s4, .val (.int i5), .val (.int i6), .val (.int (i2 &&& (3 : Int32))), .val (.int i3), .unset, .unset] []))
            refine own_st ?_ (fun t k => XS.iconst X0.here hx rfl (hb hby at_147) k)
            show own_G p.tables e below _ _ (T0.setTop (mkF m 148 #[s0, s1, .val (.int i2), .val (.int i3), s4, .val (.int i5), .val (.int i6), .val (.int (i2 &&& (3 : Int32))), .val (.int i3), .unset, .unset] [(.int (0 : Int32))]))
            refine own_st ?_ (fun t k => XS.istore X0.here hx rfl (hb hby at_148) rfl (l' := #[s0, s1, .val (.int i2), .val (.int i3), s4, .val (.int i5), .val (.int i6), .val (.int (i2 &&& (3 : Int32))), .val (.int i3), .unset, .val (.int (0 : Int32))]) rfl k)
            show own_G p.tables e below _ _ (T0.setTop (mkF m 150 #[s0, s1, .val (.int i2), .val (.int i3), s4, .val (.int i5), .val (.int i6), .val (.int (i2 &&& (3 : Int32))), .val (.int i3), .unset, .val (.int (0 : Int32))] []))
            refine own_st ?_ (fun t k => XS.iload X0.here hx rfl (hb hby at_150) rfl k)
            show own_G p.tables e below _ _ (T0.setTop (mkF m 152 #[s0, s1, .val (.int i2), .val (.int i3), s4, .val (.int i5), .val (.int i6), .val (.int (i2 &&& (3 : Int32))), .val (.int i3), .unset, .val (.int (0 : Int32))] [(.int i3)]))
            refine own_st ?_ (fun t k => XS.iload X0.here hx rfl (hb hby at_152) rfl k)
            show own_G p.tables e below _ _ (T0.setTop (mkF m 154 #[s0, s1, .val (.int i2), .val (.int i3), s4, .val (.int i5), .val (.int i6), .val (.int (i2 &&& (3 : Int32))), .val (.int i3), .unset, .val (.int (0 : Int32))] [(.int i6), (.int i3)]))
            by_cases hc154 : i3 = i6
            · refine own_st ?_ (fun t k => XS.icmpYes X0.here hx rfl (pc0 := 154) (pc' := 167) rfl (hb hby at_154) rfl (teq hc154).1 (by decide) (by decide) k)
              show own_G p.tables e below _ _ (T0.setTop (mkF m 167 #[s0, s1, .val (.int i2), .val (.int i3), s4, .val (.int i5), .val (.int i6), .val (.int (i2 &&& (3 : Int32))), .val (.int i3), .unset, .val (.int (0 : Int32))] []))
              refine own_st ?_ (fun t k => XS.iconst X0.here hx rfl (hb hby at_167) k)
              show own_G p.tables e below _ _ (T0.setTop (mkF m 168 #[s0, s1, .val (.int i2), .val (.int i3), s4, .val (.int i5), .val (.int i6), .val (.int (i2 &&& (3 : Int32))), .val (.int i3), .unset, .val (.int (0 : Int32))] [(.int (1 : Int32))]))
              refine own_st ?_ (fun t k => XS.goto X0.here hx rfl (pc0 := 168) (pc' := 172) rfl (hb hby at_168) (by decide) (by decide) k)
              show own_G p.tables e below _ _ (T0.setTop (mkF m 172 #[s0, s1, .val (.int i2), .val (.int i3), s4, .val (.int i5), .val (.int i6), .val (.int (i2 &&& (3 : Int32))), .val (.int i3), .unset, .val (.int (0 : Int32))] [(.int (1 : Int32))]))
              refine own_st ?_ (fun t k => XS.istore X0.here hx rfl (hb hby at_172) rfl (l' := #[s0, s1, .val (.int i2), .val (.int i3), s4, .val (.int i5), .val (.int i6), .val (.int (i2 &&& (3 : Int32))), .val (.int i3), .val (.int (1 : Int32)), .val (.int (0 : Int32))]) rfl k)
              show own_G p.tables e below _ _ (T0.setTop (mkF m 174 #[s0, s1, .val (.int i2), .val (.int i3), s4, .val (.int i5), .val (.int i6), .val (.int (i2 &&& (3 : Int32))), .val (.int i3), .val (.int (1 : Int32)), .val (.int (0 : Int32))] []))
              rw [show f0_59 i2 i3 i5 i6  = (f0_174 i6 i3 (1 : Int32) ) from (if_neg hc66).trans ((if_neg hc82).trans ((if_neg hc116).trans ((if_neg hc134).trans ((if_neg hc140).trans ((if_pos hc154).trans (rfl))))))]
              exact sg0_174 (s0) (s1) (.val (.int i2)) (.val (.int i3)) (s4) (.val (.int i5)) i6 (.val (.int (i2 &&& (3 : Int32)))) i3 (1 : Int32) (.val (.int (0 : Int32)))  X0 N0 hx hlk hZ hw hby hml hown hret e0 Z0
            · refine own_st ?_ (fun t k => XS.icmpNo X0.here hx rfl (hb hby at_154) rfl (feq hc154).1 k)
              show own_G p.tables e below _ _ (T0.setTop (mkF m 157 #[s0, s1, .val (.int i2), .val (.int i3), s4, .val (.int i5), .val (.int i6), .val (.int (i2 &&& (3 : Int32))), .val (.int i3), .unset, .val (.int (0 : Int32))] []))
              refine own_st ?_ (fun t k => XS.iload X0.here hx rfl (hb hby at_157) rfl k)
              show own_G p.tables e below _ _ (T0.setTop (mkF m 159 #[s0, s1, .val (.int i2), .val (.int i3), s4, .val (.int i5), .val (.int i6), .val (.int (i2 &&& (3 : Int32))), .val (.int i3), .unset, .val (.int (0 : Int32))] [(.int i5)]))
              by_cases hc159 : i5 = (0 : Int32)
              · refine own_st ?_ (fun t k => XS.ifNo X0.here hx rfl (hb hby at_159) rfl ((if0 _ _).trans (teq hc159).2) k)
                show own_G p.tables e below _ _ (T0.setTop (mkF m 162 #[s0, s1, .val (.int i2), .val (.int i3), s4, .val (.int i5), .val (.int i6), .val (.int (i2 &&& (3 : Int32))), .val (.int i3), .unset, .val (.int (0 : Int32))] []))
                refine own_st ?_ (fun t k => XS.iload X0.here hx rfl (hb hby at_162) rfl k)
                show own_G p.tables e below _ _ (T0.setTop (mkF m 164 #[s0, s1, .val (.int i2), .val (.int i3), s4, .val (.int i5), .val (.int i6), .val (.int (i2 &&& (3 : Int32))), .val (.int i3), .unset, .val (.int (0 : Int32))] [(.int (0 : Int32))]))
                refine own_st ?_ (fun t k => XS.ifYes X0.here hx rfl (pc0 := 164) (pc' := 171) rfl (hb hby at_164) rfl ((if0 _ _).trans (teq (by decide : (0 : Int32) = (0 : Int32))).1) (by decide) (by decide) k)
                show own_G p.tables e below _ _ (T0.setTop (mkF m 171 #[s0, s1, .val (.int i2), .val (.int i3), s4, .val (.int i5), .val (.int i6), .val (.int (i2 &&& (3 : Int32))), .val (.int i3), .unset, .val (.int (0 : Int32))] []))
                refine own_st ?_ (fun t k => XS.iconst X0.here hx rfl (hb hby at_171) k)
                show own_G p.tables e below _ _ (T0.setTop (mkF m 172 #[s0, s1, .val (.int i2), .val (.int i3), s4, .val (.int i5), .val (.int i6), .val (.int (i2 &&& (3 : Int32))), .val (.int i3), .unset, .val (.int (0 : Int32))] [(.int (0 : Int32))]))
                refine own_st ?_ (fun t k => XS.istore X0.here hx rfl (hb hby at_172) rfl (l' := #[s0, s1, .val (.int i2), .val (.int i3), s4, .val (.int i5), .val (.int i6), .val (.int (i2 &&& (3 : Int32))), .val (.int i3), .val (.int (0 : Int32)), .val (.int (0 : Int32))]) rfl k)
                show own_G p.tables e below _ _ (T0.setTop (mkF m 174 #[s0, s1, .val (.int i2), .val (.int i3), s4, .val (.int i5), .val (.int i6), .val (.int (i2 &&& (3 : Int32))), .val (.int i3), .val (.int (0 : Int32)), .val (.int (0 : Int32))] []))
                rw [show f0_59 i2 i3 i5 i6  = (f0_174 i6 i3 (0 : Int32) ) from (if_neg hc66).trans ((if_neg hc82).trans ((if_neg hc116).trans ((if_neg hc134).trans ((if_neg hc140).trans ((if_neg hc154).trans ((if_pos hc159).trans (rfl)))))))]
                exact sg0_174 (s0) (s1) (.val (.int i2)) (.val (.int i3)) (s4) (.val (.int i5)) i6 (.val (.int (i2 &&& (3 : Int32)))) i3 (0 : Int32) (.val (.int (0 : Int32)))  X0 N0 hx hlk hZ hw hby hml hown hret e0 Z0
              · refine own_st ?_ (fun t k => XS.ifYes X0.here hx rfl (pc0 := 159) (pc' := 171) rfl (hb hby at_159) rfl ((if0 _ _).trans (feq hc159).2) (by decide) (by decide) k)
                show own_G p.tables e below _ _ (T0.setTop (mkF m 171 #[s0, s1, .val (.int i2), .val (.int i3), s4, .val (.int i5), .val (.int i6), .val (.int (i2 &&& (3 : Int32))), .val (.int i3), .unset, .val (.int (0 : Int32))] []))
                refine own_st ?_ (fun t k => XS.iconst X0.here hx rfl (hb hby at_171) k)
                show own_G p.tables e below _ _ (T0.setTop (mkF m 172 #[s0, s1, .val (.int i2), .val (.int i3), s4, .val (.int i5), .val (.int i6), .val (.int (i2 &&& (3 : Int32))), .val (.int i3), .unset, .val (.int (0 : Int32))] [(.int (0 : Int32))]))
                refine own_st ?_ (fun t k => XS.istore X0.here hx rfl (hb hby at_172) rfl (l' := #[s0, s1, .val (.int i2), .val (.int i3), s4, .val (.int i5), .val (.int i6), .val (.int (i2 &&& (3 : Int32))), .val (.int i3), .val (.int (0 : Int32)), .val (.int (0 : Int32))]) rfl k)
                show own_G p.tables e below _ _ (T0.setTop (mkF m 174 #[s0, s1, .val (.int i2), .val (.int i3), s4, .val (.int i5), .val (.int i6), .val (.int (i2 &&& (3 : Int32))), .val (.int i3), .val (.int (0 : Int32)), .val (.int (0 : Int32))] []))
                rw [show f0_59 i2 i3 i5 i6  = (f0_174 i6 i3 (0 : Int32) ) from (if_neg hc66).trans ((if_neg hc82).trans ((if_neg hc116).trans ((if_neg hc134).trans ((if_neg hc140).trans ((if_neg hc154).trans ((if_neg hc159).trans (rfl)))))))]
                exact sg0_174 (s0) (s1) (.val (.int i2)) (.val (.int i3)) (s4) (.val (.int i5)) i6 (.val (.int (i2 &&& (3 : Int32)))) i3 (0 : Int32) (.val (.int (0 : Int32)))  X0 N0 hx hlk hZ hw hby hml hown hret e0 Z0
theorem ef_0 (m : MethodId) (p0 : Int32) (p1 : Int32) (p2 : Int32) (p3 : Int32) : entryFrame m #[(.int p0), (.int p1), (.int p2), (.int p3)] maxLocals = mkF m 0 #[.val (.int p0), .val (.int p1), .val (.int p2), .val (.int p3), .unset, .unset, .unset, .unset, .unset, .unset, .unset] [] := by first | (simp [entryFrame, mkF, argsToLocals, Value.category, maxLocals]; done) | rfl
set_option maxRecDepth 65536 in
set_option maxHeartbeats 40000000 in
theorem rm0 (l : Launch) (Z : State) (a0 : Array Value) (hw : ∀ d ∈ tables_1, d.before a0 Z = true) (ws : List Jvm.Cond) (p0 : Int32) (p1 : Int32) (p2 : Int32) (p3 : Int32) (h0 : Heap) (n0 : Nat) (Z0 : n0 ≤ h0.size) :
    MetFree l x (head1 (Jvm.Cond.code x code maxLocals ret :: ws) room_1) (fun a U => a = #[(.int p0), (.int p1), (.int p2), (.int p3)] ∧ Z.Warmed39 U.vm ∧ U.heap = h0) (fun _ _ _ _ _ => True) (fun _ U o U' => ∃ v L, o = .returned v ∧ own_QV (.int (f0 p0 p1 p2 p3 )) h0 n0 v U'.heap L ∧ FrameEnd U o U' L room_1.cells room_1.slots) := by
  refine MetFree.of_bodySF (plainFor_of_name pn_0) hisR ?_
  intro p e s m args below meth c s₁ Bd hml0 hP hK
  obtain ⟨rfl, hZ, hh⟩ := hP
  have hx := Bd.exec
  have hby := Bd.bytes
  have hlk : meth.locks = false := BodyLoose.notSynchronized Bd
  have hret := Bd.returns
  have hml : c.maxLocals = 11 := hml0
  have hown : s.vm.findClass "com/example/supplant/supplant/automata/SymbolTableReadsPinLaw" = some m.cls := findClass_of_methodNamed Bd.named
  have hnm := (name_of_methodNamed Bd.named Bd.method).1
  have X0 : Stand p l e room_1 s m #[(.int p0), (.int p1), (.int p2), (.int p3)] below meth c s₁ [] 0 0 := Stand.of_body Bd
  have e0 : s₁.heap = h0 := by rw [← hh, Bd.state]; rfl
  have N0 := Fr.nil n0
  show own_G p.tables e below (own_E s room_1.cells room_1.slots) (own_QV (.int (f0 p0 p1 p2 p3 )) h0 n0) (s₁.setTop (entryFrame m #[(.int p0), (.int p1), (.int p2), (.int p3)] maxLocals))
  refine own_st ?_ (fun t k => castTop (ef_0 m p0 p1 p2 p3) k)
  show own_G p.tables e below _ _ (s₁.setTop (mkF m 0 #[.val (.int p0), .val (.int p1), .val (.int p2), .val (.int p3), .unset, .unset, .unset, .unset, .unset, .unset, .unset] []))
  refine own_st ?_ (fun t k => XS.iloadN X0.here hx rfl (hb hby at_0) rfl k)
  show own_G p.tables e below _ _ (s₁.setTop (mkF m 1 #[.val (.int p0), .val (.int p1), .val (.int p2), .val (.int p3), .unset, .unset, .unset, .unset, .unset, .unset, .unset] [(.int p0)]))
  refine own_st ?_ (fun t k => XS.iconst X0.here hx rfl (hb hby at_1) k)
  show own_G p.tables e below _ _ (s₁.setTop (mkF m 2 #[.val (.int p0), .val (.int p1), .val (.int p2), .val (.int p3), .unset, .unset, .unset, .unset, .unset, .unset, .unset] [(.int (3 : Int32)), (.int p0)]))
  refine own_st ?_ (fun t k => XS.iand X0.here hx rfl (hb hby at_2) rfl k)
  show own_G p.tables e below _ _ (s₁.setTop (mkF m 3 #[.val (.int p0), .val (.int p1), .val (.int p2), .val (.int p3), .unset, .unset, .unset, .unset, .unset, .unset, .unset] [(.int (p0 &&& (3 : Int32)))]))
  refine own_st ?_ (fun t k => XS.istore X0.here hx rfl (hb hby at_3) rfl (l' := #[.val (.int p0), .val (.int p1), .val (.int p2), .val (.int p3), .val (.int (p0 &&& (3 : Int32))), .unset, .unset, .unset, .unset, .unset, .unset]) rfl k)
  show own_G p.tables e below _ _ (s₁.setTop (mkF m 5 #[.val (.int p0), .val (.int p1), .val (.int p2), .val (.int p3), .val (.int (p0 &&& (3 : Int32))), .unset, .unset, .unset, .unset, .unset, .unset] []))
  refine own_st ?_ (fun t k => XS.iload X0.here hx rfl (hb hby at_5) rfl k)
  show own_G p.tables e below _ _ (s₁.setTop (mkF m 7 #[.val (.int p0), .val (.int p1), .val (.int p2), .val (.int p3), .val (.int (p0 &&& (3 : Int32))), .unset, .unset, .unset, .unset, .unset, .unset] [(.int (p0 &&& (3 : Int32)))]))
  refine own_st ?_ (fun t k => XS.iconst X0.here hx rfl (hb hby at_7) k)
  show own_G p.tables e below _ _ (s₁.setTop (mkF m 8 #[.val (.int p0), .val (.int p1), .val (.int p2), .val (.int p3), .val (.int (p0 &&& (3 : Int32))), .unset, .unset, .unset, .unset, .unset, .unset] [(.int (2 : Int32)), (.int (p0 &&& (3 : Int32)))]))
  by_cases hc8 : (p0 &&& (3 : Int32)) < (2 : Int32)
  · refine own_st ?_ (fun t k => XS.icmpYes X0.here hx rfl (pc0 := 8) (pc' := 15) rfl (hb hby at_8) rfl (tlt hc8).1 (by decide) (by decide) k)
    show own_G p.tables e below _ _ (s₁.setTop (mkF m 15 #[.val (.int p0), .val (.int p1), .val (.int p2), .val (.int p3), .val (.int (p0 &&& (3 : Int32))), .unset, .unset, .unset, .unset, .unset, .unset] []))
    refine own_st ?_ (fun t k => XS.iconst X0.here hx rfl (hb hby at_15) k)
    show own_G p.tables e below _ _ (s₁.setTop (mkF m 16 #[.val (.int p0), .val (.int p1), .val (.int p2), .val (.int p3), .val (.int (p0 &&& (3 : Int32))), .unset, .unset, .unset, .unset, .unset, .unset] [(.int (0 : Int32))]))
    refine own_st ?_ (fun t k => XS.istore X0.here hx rfl (hb hby at_16) rfl (l' := #[.val (.int p0), .val (.int p1), .val (.int p2), .val (.int p3), .val (.int (p0 &&& (3 : Int32))), .val (.int (0 : Int32)), .unset, .unset, .unset, .unset, .unset]) rfl k)
    show own_G p.tables e below _ _ (s₁.setTop (mkF m 18 #[.val (.int p0), .val (.int p1), .val (.int p2), .val (.int p3), .val (.int (p0 &&& (3 : Int32))), .val (.int (0 : Int32)), .unset, .unset, .unset, .unset, .unset] []))
    refine own_st ?_ (fun t k => XS.iload X0.here hx rfl (hb hby at_18) rfl k)
    show own_G p.tables e below _ _ (s₁.setTop (mkF m 20 #[.val (.int p0), .val (.int p1), .val (.int p2), .val (.int p3), .val (.int (p0 &&& (3 : Int32))), .val (.int (0 : Int32)), .unset, .unset, .unset, .unset, .unset] [(.int (p0 &&& (3 : Int32)))]))
    by_cases hc20 : (p0 &&& (3 : Int32)) = (0 : Int32)
    · refine own_st ?_ (fun t k => XS.ifNo X0.here hx rfl (hb hby at_20) rfl ((if0 _ _).trans (teq hc20).2) k)
      show own_G p.tables e below _ _ (s₁.setTop (mkF m 23 #[.val (.int p0), .val (.int p1), .val (.int p2), .val (.int p3), .val (.int (p0 &&& (3 : Int32))), .val (.int (0 : Int32)), .unset, .unset, .unset, .unset, .unset] []))
      refine own_st ?_ (fun t k => XS.iconst X0.here hx rfl (hb hby at_23) k)
      show own_G p.tables e below _ _ (s₁.setTop (mkF m 24 #[.val (.int p0), .val (.int p1), .val (.int p2), .val (.int p3), .val (.int (p0 &&& (3 : Int32))), .val (.int (0 : Int32)), .unset, .unset, .unset, .unset, .unset] [(.int (1 : Int32))]))
      refine own_st ?_ (fun t k => XS.istore X0.here hx rfl (hb hby at_24) rfl (l' := #[.val (.int p0), .val (.int p1), .val (.int p2), .val (.int p3), .val (.int (p0 &&& (3 : Int32))), .val (.int (0 : Int32)), .val (.int (1 : Int32)), .unset, .unset, .unset, .unset]) rfl k)
      show own_G p.tables e below _ _ (s₁.setTop (mkF m 26 #[.val (.int p0), .val (.int p1), .val (.int p2), .val (.int p3), .val (.int (p0 &&& (3 : Int32))), .val (.int (0 : Int32)), .val (.int (1 : Int32)), .unset, .unset, .unset, .unset] []))
      refine own_st ?_ (fun t k => XS.goto X0.here hx rfl (pc0 := 26) (pc' := 59) rfl (hb hby at_26) (by decide) (by decide) k)
      show own_G p.tables e below _ _ (s₁.setTop (mkF m 59 #[.val (.int p0), .val (.int p1), .val (.int p2), .val (.int p3), .val (.int (p0 &&& (3 : Int32))), .val (.int (0 : Int32)), .val (.int (1 : Int32)), .unset, .unset, .unset, .unset] []))
      rw [show f0 p0 p1 p2 p3  = (f0_59 p2 p3 (0 : Int32) (1 : Int32) ) from (if_pos hc8).trans ((if_pos hc20).trans (rfl))]
      exact sg0_59 (.val (.int p0)) (.val (.int p1)) p2 p3 (.val (.int (p0 &&& (3 : Int32)))) (0 : Int32) (1 : Int32)  X0 N0 hx hlk hZ hw hby hml hown hret e0 Z0
    · refine own_st ?_ (fun t k => XS.ifYes X0.here hx rfl (pc0 := 20) (pc' := 29) rfl (hb hby at_20) rfl ((if0 _ _).trans (feq hc20).2) (by decide) (by decide) k)
      show own_G p.tables e below _ _ (s₁.setTop (mkF m 29 #[.val (.int p0), .val (.int p1), .val (.int p2), .val (.int p3), .val (.int (p0 &&& (3 : Int32))), .val (.int (0 : Int32)), .unset, .unset, .unset, .unset, .unset] []))
      refine own_st ?_ (fun t k => XS.iload X0.here hx rfl (hb hby at_29) rfl k)
      show own_G p.tables e below _ _ (s₁.setTop (mkF m 31 #[.val (.int p0), .val (.int p1), .val (.int p2), .val (.int p3), .val (.int (p0 &&& (3 : Int32))), .val (.int (0 : Int32)), .unset, .unset, .unset, .unset, .unset] [(.int (p0 &&& (3 : Int32)))]))
      refine own_st ?_ (fun t k => XS.iconst X0.here hx rfl (hb hby at_31) k)
      show own_G p.tables e below _ _ (s₁.setTop (mkF m 32 #[.val (.int p0), .val (.int p1), .val (.int p2), .val (.int p3), .val (.int (p0 &&& (3 : Int32))), .val (.int (0 : Int32)), .unset, .unset, .unset, .unset, .unset] [(.int (1 : Int32)), (.int (p0 &&& (3 : Int32)))]))
      by_cases hc32 : (p0 &&& (3 : Int32)) = (1 : Int32)
      · refine own_st ?_ (fun t k => XS.icmpNo X0.here hx rfl (hb hby at_32) rfl (teq hc32).2 k)
        show own_G p.tables e below _ _ (s₁.setTop (mkF m 35 #[.val (.int p0), .val (.int p1), .val (.int p2), .val (.int p3), .val (.int (p0 &&& (3 : Int32))), .val (.int (0 : Int32)), .unset, .unset, .unset, .unset, .unset] []))
        refine own_st ?_ (fun t k => XS.iconst X0.here hx rfl (hb hby at_35) k)
        show own_G p.tables e below _ _ (s₁.setTop (mkF m 36 #[.val (.int p0), .val (.int p1), .val (.int p2), .val (.int p3), .val (.int (p0 &&& (3 : Int32))), .val (.int (0 : Int32)), .unset, .unset, .unset, .unset, .unset] [(.int (2 : Int32))]))
        refine own_st ?_ (fun t k => XS.istore X0.here hx rfl (hb hby at_36) rfl (l' := #[.val (.int p0), .val (.int p1), .val (.int p2), .val (.int p3), .val (.int (p0 &&& (3 : Int32))), .val (.int (0 : Int32)), .val (.int (2 : Int32)), .unset, .unset, .unset, .unset]) rfl k)
        show own_G p.tables e below _ _ (s₁.setTop (mkF m 38 #[.val (.int p0), .val (.int p1), .val (.int p2), .val (.int p3), .val (.int (p0 &&& (3 : Int32))), .val (.int (0 : Int32)), .val (.int (2 : Int32)), .unset, .unset, .unset, .unset] []))
        refine own_st ?_ (fun t k => XS.goto X0.here hx rfl (pc0 := 38) (pc' := 59) rfl (hb hby at_38) (by decide) (by decide) k)
        show own_G p.tables e below _ _ (s₁.setTop (mkF m 59 #[.val (.int p0), .val (.int p1), .val (.int p2), .val (.int p3), .val (.int (p0 &&& (3 : Int32))), .val (.int (0 : Int32)), .val (.int (2 : Int32)), .unset, .unset, .unset, .unset] []))
        rw [show f0 p0 p1 p2 p3  = (f0_59 p2 p3 (0 : Int32) (2 : Int32) ) from (if_pos hc8).trans ((if_neg hc20).trans ((if_pos hc32).trans (rfl)))]
        exact sg0_59 (.val (.int p0)) (.val (.int p1)) p2 p3 (.val (.int (p0 &&& (3 : Int32)))) (0 : Int32) (2 : Int32)  X0 N0 hx hlk hZ hw hby hml hown hret e0 Z0
      · refine own_st ?_ (fun t k => XS.icmpYes X0.here hx rfl (pc0 := 32) (pc' := 41) rfl (hb hby at_32) rfl (feq hc32).2 (by decide) (by decide) k)
        show own_G p.tables e below _ _ (s₁.setTop (mkF m 41 #[.val (.int p0), .val (.int p1), .val (.int p2), .val (.int p3), .val (.int (p0 &&& (3 : Int32))), .val (.int (0 : Int32)), .unset, .unset, .unset, .unset, .unset] []))
        refine own_st ?_ (fun t k => XS.iloadN X0.here hx rfl (hb hby at_41) rfl k)
        show own_G p.tables e below _ _ (s₁.setTop (mkF m 42 #[.val (.int p0), .val (.int p1), .val (.int p2), .val (.int p3), .val (.int (p0 &&& (3 : Int32))), .val (.int (0 : Int32)), .unset, .unset, .unset, .unset, .unset] [(.int p1)]))
        refine own_st ?_ (X0.ldcInt hx hown (mvT hZ (hw _ (List.mem_of_getElem? (i := 4) rfl))) (g := (mkF m 42 #[.val (.int p0), .val (.int p1), .val (.int p2), .val (.int p3), .val (.int (p0 &&& (3 : Int32))), .val (.int (0 : Int32)), .unset, .unset, .unset, .unset, .unset] [(.int p1)])) rfl (hb hby at_42))
        show own_G p.tables e below _ _ (s₁.setTop (mkF m 44 #[.val (.int p0), .val (.int p1), .val (.int p2), .val (.int p3), .val (.int (p0 &&& (3 : Int32))), .val (.int (0 : Int32)), .unset, .unset, .unset, .unset, .unset] [(.int (2147483647 : Int32)), (.int p1)]))
        refine own_st ?_ (fun t k => XS.iand X0.here hx rfl (hb hby at_44) rfl k)
        show own_G p.tables e below _ _ (s₁.setTop (mkF m 45 #[.val (.int p0), .val (.int p1), .val (.int p2), .val (.int p3), .val (.int (p0 &&& (3 : Int32))), .val (.int (0 : Int32)), .unset, .unset, .unset, .unset, .unset] [(.int (p1 &&& (2147483647 : Int32)))]))
        refine own_st ?_ (fun t k => XS.istore X0.here hx rfl (hb hby at_45) rfl (l' := #[.val (.int p0), .val (.int p1), .val (.int p2), .val (.int p3), .val (.int (p0 &&& (3 : Int32))), .val (.int (0 : Int32)), .val (.int (p1 &&& (2147483647 : Int32))), .unset, .unset, .unset, .unset]) rfl k)
        show own_G p.tables e below _ _ (s₁.setTop (mkF m 47 #[.val (.int p0), .val (.int p1), .val (.int p2), .val (.int p3), .val (.int (p0 &&& (3 : Int32))), .val (.int (0 : Int32)), .val (.int (p1 &&& (2147483647 : Int32))), .unset, .unset, .unset, .unset] []))
        refine own_st ?_ (fun t k => XS.iload X0.here hx rfl (hb hby at_47) rfl k)
        show own_G p.tables e below _ _ (s₁.setTop (mkF m 49 #[.val (.int p0), .val (.int p1), .val (.int p2), .val (.int p3), .val (.int (p0 &&& (3 : Int32))), .val (.int (0 : Int32)), .val (.int (p1 &&& (2147483647 : Int32))), .unset, .unset, .unset, .unset] [(.int (p1 &&& (2147483647 : Int32)))]))
        refine own_st ?_ (fun t k => XS.iconst X0.here hx rfl (hb hby at_49) k)
        show own_G p.tables e below _ _ (s₁.setTop (mkF m 50 #[.val (.int p0), .val (.int p1), .val (.int p2), .val (.int p3), .val (.int (p0 &&& (3 : Int32))), .val (.int (0 : Int32)), .val (.int (p1 &&& (2147483647 : Int32))), .unset, .unset, .unset, .unset] [(.int (3 : Int32)), (.int (p1 &&& (2147483647 : Int32)))]))
        by_cases hc50 : (p1 &&& (2147483647 : Int32)) < (3 : Int32)
        · refine own_st ?_ (fun t k => XS.icmpNo X0.here hx rfl (hb hby at_50) rfl (tlt hc50).2.1 k)
          show own_G p.tables e below _ _ (s₁.setTop (mkF m 53 #[.val (.int p0), .val (.int p1), .val (.int p2), .val (.int p3), .val (.int (p0 &&& (3 : Int32))), .val (.int (0 : Int32)), .val (.int (p1 &&& (2147483647 : Int32))), .unset, .unset, .unset, .unset] []))
          refine own_st ?_ (fun t k => XS.iload X0.here hx rfl (hb hby at_53) rfl k)
          show own_G p.tables e below _ _ (s₁.setTop (mkF m 55 #[.val (.int p0), .val (.int p1), .val (.int p2), .val (.int p3), .val (.int (p0 &&& (3 : Int32))), .val (.int (0 : Int32)), .val (.int (p1 &&& (2147483647 : Int32))), .unset, .unset, .unset, .unset] [(.int (p1 &&& (2147483647 : Int32)))]))
          refine own_st ?_ (fun t k => XS.iconst X0.here hx rfl (hb hby at_55) k)
          show own_G p.tables e below _ _ (s₁.setTop (mkF m 56 #[.val (.int p0), .val (.int p1), .val (.int p2), .val (.int p3), .val (.int (p0 &&& (3 : Int32))), .val (.int (0 : Int32)), .val (.int (p1 &&& (2147483647 : Int32))), .unset, .unset, .unset, .unset] [(.int (3 : Int32)), (.int (p1 &&& (2147483647 : Int32)))]))
          refine own_st ?_ (fun t k => XS.iadd X0.here hx rfl (hb hby at_56) rfl k)
          show own_G p.tables e below _ _ (s₁.setTop (mkF m 57 #[.val (.int p0), .val (.int p1), .val (.int p2), .val (.int p3), .val (.int (p0 &&& (3 : Int32))), .val (.int (0 : Int32)), .val (.int (p1 &&& (2147483647 : Int32))), .unset, .unset, .unset, .unset] [(.int ((p1 &&& (2147483647 : Int32)) + (3 : Int32)))]))
          refine own_st ?_ (fun t k => XS.istore X0.here hx rfl (hb hby at_57) rfl (l' := #[.val (.int p0), .val (.int p1), .val (.int p2), .val (.int p3), .val (.int (p0 &&& (3 : Int32))), .val (.int (0 : Int32)), .val (.int ((p1 &&& (2147483647 : Int32)) + (3 : Int32))), .unset, .unset, .unset, .unset]) rfl k)
          show own_G p.tables e below _ _ (s₁.setTop (mkF m 59 #[.val (.int p0), .val (.int p1), .val (.int p2), .val (.int p3), .val (.int (p0 &&& (3 : Int32))), .val (.int (0 : Int32)), .val (.int ((p1 &&& (2147483647 : Int32)) + (3 : Int32))), .unset, .unset, .unset, .unset] []))
          rw [show f0 p0 p1 p2 p3  = (f0_59 p2 p3 (0 : Int32) ((p1 &&& (2147483647 : Int32)) + (3 : Int32)) ) from (if_pos hc8).trans ((if_neg hc20).trans ((if_neg hc32).trans ((if_pos hc50).trans (rfl))))]
          exact sg0_59 (.val (.int p0)) (.val (.int p1)) p2 p3 (.val (.int (p0 &&& (3 : Int32)))) (0 : Int32) ((p1 &&& (2147483647 : Int32)) + (3 : Int32))  X0 N0 hx hlk hZ hw hby hml hown hret e0 Z0
        · refine own_st ?_ (fun t k => XS.icmpYes X0.here hx rfl (pc0 := 50) (pc' := 59) rfl (hb hby at_50) rfl (flt hc50).2.1 (by decide) (by decide) k)
          show own_G p.tables e below _ _ (s₁.setTop (mkF m 59 #[.val (.int p0), .val (.int p1), .val (.int p2), .val (.int p3), .val (.int (p0 &&& (3 : Int32))), .val (.int (0 : Int32)), .val (.int (p1 &&& (2147483647 : Int32))), .unset, .unset, .unset, .unset] []))
          rw [show f0 p0 p1 p2 p3  = (f0_59 p2 p3 (0 : Int32) (p1 &&& (2147483647 : Int32)) ) from (if_pos hc8).trans ((if_neg hc20).trans ((if_neg hc32).trans ((if_neg hc50).trans (rfl))))]
          exact sg0_59 (.val (.int p0)) (.val (.int p1)) p2 p3 (.val (.int (p0 &&& (3 : Int32)))) (0 : Int32) (p1 &&& (2147483647 : Int32))  X0 N0 hx hlk hZ hw hby hml hown hret e0 Z0
  · refine own_st ?_ (fun t k => XS.icmpNo X0.here hx rfl (hb hby at_8) rfl (flt hc8).1 k)
    show own_G p.tables e below _ _ (s₁.setTop (mkF m 11 #[.val (.int p0), .val (.int p1), .val (.int p2), .val (.int p3), .val (.int (p0 &&& (3 : Int32))), .unset, .unset, .unset, .unset, .unset, .unset] []))
    refine own_st ?_ (fun t k => XS.iconst X0.here hx rfl (hb hby at_11) k)
    show own_G p.tables e below _ _ (s₁.setTop (mkF m 12 #[.val (.int p0), .val (.int p1), .val (.int p2), .val (.int p3), .val (.int (p0 &&& (3 : Int32))), .unset, .unset, .unset, .unset, .unset, .unset] [(.int (1 : Int32))]))
    refine own_st ?_ (fun t k => XS.goto X0.here hx rfl (pc0 := 12) (pc' := 16) rfl (hb hby at_12) (by decide) (by decide) k)
    show own_G p.tables e below _ _ (s₁.setTop (mkF m 16 #[.val (.int p0), .val (.int p1), .val (.int p2), .val (.int p3), .val (.int (p0 &&& (3 : Int32))), .unset, .unset, .unset, .unset, .unset, .unset] [(.int (1 : Int32))]))
    refine own_st ?_ (fun t k => XS.istore X0.here hx rfl (hb hby at_16) rfl (l' := #[.val (.int p0), .val (.int p1), .val (.int p2), .val (.int p3), .val (.int (p0 &&& (3 : Int32))), .val (.int (1 : Int32)), .unset, .unset, .unset, .unset, .unset]) rfl k)
    show own_G p.tables e below _ _ (s₁.setTop (mkF m 18 #[.val (.int p0), .val (.int p1), .val (.int p2), .val (.int p3), .val (.int (p0 &&& (3 : Int32))), .val (.int (1 : Int32)), .unset, .unset, .unset, .unset, .unset] []))
    refine own_st ?_ (fun t k => XS.iload X0.here hx rfl (hb hby at_18) rfl k)
    show own_G p.tables e below _ _ (s₁.setTop (mkF m 20 #[.val (.int p0), .val (.int p1), .val (.int p2), .val (.int p3), .val (.int (p0 &&& (3 : Int32))), .val (.int (1 : Int32)), .unset, .unset, .unset, .unset, .unset] [(.int (p0 &&& (3 : Int32)))]))
    by_cases hc20 : (p0 &&& (3 : Int32)) = (0 : Int32)
    · refine own_st ?_ (fun t k => XS.ifNo X0.here hx rfl (hb hby at_20) rfl ((if0 _ _).trans (teq hc20).2) k)
      show own_G p.tables e below _ _ (s₁.setTop (mkF m 23 #[.val (.int p0), .val (.int p1), .val (.int p2), .val (.int p3), .val (.int (p0 &&& (3 : Int32))), .val (.int (1 : Int32)), .unset, .unset, .unset, .unset, .unset] []))
      refine own_st ?_ (fun t k => XS.iconst X0.here hx rfl (hb hby at_23) k)
      show own_G p.tables e below _ _ (s₁.setTop (mkF m 24 #[.val (.int p0), .val (.int p1), .val (.int p2), .val (.int p3), .val (.int (p0 &&& (3 : Int32))), .val (.int (1 : Int32)), .unset, .unset, .unset, .unset, .unset] [(.int (1 : Int32))]))
      refine own_st ?_ (fun t k => XS.istore X0.here hx rfl (hb hby at_24) rfl (l' := #[.val (.int p0), .val (.int p1), .val (.int p2), .val (.int p3), .val (.int (p0 &&& (3 : Int32))), .val (.int (1 : Int32)), .val (.int (1 : Int32)), .unset, .unset, .unset, .unset]) rfl k)
      show own_G p.tables e below _ _ (s₁.setTop (mkF m 26 #[.val (.int p0), .val (.int p1), .val (.int p2), .val (.int p3), .val (.int (p0 &&& (3 : Int32))), .val (.int (1 : Int32)), .val (.int (1 : Int32)), .unset, .unset, .unset, .unset] []))
      refine own_st ?_ (fun t k => XS.goto X0.here hx rfl (pc0 := 26) (pc' := 59) rfl (hb hby at_26) (by decide) (by decide) k)
      show own_G p.tables e below _ _ (s₁.setTop (mkF m 59 #[.val (.int p0), .val (.int p1), .val (.int p2), .val (.int p3), .val (.int (p0 &&& (3 : Int32))), .val (.int (1 : Int32)), .val (.int (1 : Int32)), .unset, .unset, .unset, .unset] []))
      rw [show f0 p0 p1 p2 p3  = (f0_59 p2 p3 (1 : Int32) (1 : Int32) ) from (if_neg hc8).trans ((if_pos hc20).trans (rfl))]
      exact sg0_59 (.val (.int p0)) (.val (.int p1)) p2 p3 (.val (.int (p0 &&& (3 : Int32)))) (1 : Int32) (1 : Int32)  X0 N0 hx hlk hZ hw hby hml hown hret e0 Z0
    · refine own_st ?_ (fun t k => XS.ifYes X0.here hx rfl (pc0 := 20) (pc' := 29) rfl (hb hby at_20) rfl ((if0 _ _).trans (feq hc20).2) (by decide) (by decide) k)
      show own_G p.tables e below _ _ (s₁.setTop (mkF m 29 #[.val (.int p0), .val (.int p1), .val (.int p2), .val (.int p3), .val (.int (p0 &&& (3 : Int32))), .val (.int (1 : Int32)), .unset, .unset, .unset, .unset, .unset] []))
      refine own_st ?_ (fun t k => XS.iload X0.here hx rfl (hb hby at_29) rfl k)
      show own_G p.tables e below _ _ (s₁.setTop (mkF m 31 #[.val (.int p0), .val (.int p1), .val (.int p2), .val (.int p3), .val (.int (p0 &&& (3 : Int32))), .val (.int (1 : Int32)), .unset, .unset, .unset, .unset, .unset] [(.int (p0 &&& (3 : Int32)))]))
      refine own_st ?_ (fun t k => XS.iconst X0.here hx rfl (hb hby at_31) k)
      show own_G p.tables e below _ _ (s₁.setTop (mkF m 32 #[.val (.int p0), .val (.int p1), .val (.int p2), .val (.int p3), .val (.int (p0 &&& (3 : Int32))), .val (.int (1 : Int32)), .unset, .unset, .unset, .unset, .unset] [(.int (1 : Int32)), (.int (p0 &&& (3 : Int32)))]))
      by_cases hc32 : (p0 &&& (3 : Int32)) = (1 : Int32)
      · refine own_st ?_ (fun t k => XS.icmpNo X0.here hx rfl (hb hby at_32) rfl (teq hc32).2 k)
        show own_G p.tables e below _ _ (s₁.setTop (mkF m 35 #[.val (.int p0), .val (.int p1), .val (.int p2), .val (.int p3), .val (.int (p0 &&& (3 : Int32))), .val (.int (1 : Int32)), .unset, .unset, .unset, .unset, .unset] []))
        refine own_st ?_ (fun t k => XS.iconst X0.here hx rfl (hb hby at_35) k)
        show own_G p.tables e below _ _ (s₁.setTop (mkF m 36 #[.val (.int p0), .val (.int p1), .val (.int p2), .val (.int p3), .val (.int (p0 &&& (3 : Int32))), .val (.int (1 : Int32)), .unset, .unset, .unset, .unset, .unset] [(.int (2 : Int32))]))
        refine own_st ?_ (fun t k => XS.istore X0.here hx rfl (hb hby at_36) rfl (l' := #[.val (.int p0), .val (.int p1), .val (.int p2), .val (.int p3), .val (.int (p0 &&& (3 : Int32))), .val (.int (1 : Int32)), .val (.int (2 : Int32)), .unset, .unset, .unset, .unset]) rfl k)
        show own_G p.tables e below _ _ (s₁.setTop (mkF m 38 #[.val (.int p0), .val (.int p1), .val (.int p2), .val (.int p3), .val (.int (p0 &&& (3 : Int32))), .val (.int (1 : Int32)), .val (.int (2 : Int32)), .unset, .unset, .unset, .unset] []))
        refine own_st ?_ (fun t k => XS.goto X0.here hx rfl (pc0 := 38) (pc' := 59) rfl (hb hby at_38) (by decide) (by decide) k)
        show own_G p.tables e below _ _ (s₁.setTop (mkF m 59 #[.val (.int p0), .val (.int p1), .val (.int p2), .val (.int p3), .val (.int (p0 &&& (3 : Int32))), .val (.int (1 : Int32)), .val (.int (2 : Int32)), .unset, .unset, .unset, .unset] []))
        rw [show f0 p0 p1 p2 p3  = (f0_59 p2 p3 (1 : Int32) (2 : Int32) ) from (if_neg hc8).trans ((if_neg hc20).trans ((if_pos hc32).trans (rfl)))]
        exact sg0_59 (.val (.int p0)) (.val (.int p1)) p2 p3 (.val (.int (p0 &&& (3 : Int32)))) (1 : Int32) (2 : Int32)  X0 N0 hx hlk hZ hw hby hml hown hret e0 Z0
      · refine own_st ?_ (fun t k => XS.icmpYes X0.here hx rfl (pc0 := 32) (pc' := 41) rfl (hb hby at_32) rfl (feq hc32).2 (by decide) (by decide) k)
        show own_G p.tables e below _ _ (s₁.setTop (mkF m 41 #[.val (.int p0), .val (.int p1), .val (.int p2), .val (.int p3), .val (.int (p0 &&& (3 : Int32))), .val (.int (1 : Int32)), .unset, .unset, .unset, .unset, .unset] []))
        refine own_st ?_ (fun t k => XS.iloadN X0.here hx rfl (hb hby at_41) rfl k)
        show own_G p.tables e below _ _ (s₁.setTop (mkF m 42 #[.val (.int p0), .val (.int p1), .val (.int p2), .val (.int p3), .val (.int (p0 &&& (3 : Int32))), .val (.int (1 : Int32)), .unset, .unset, .unset, .unset, .unset] [(.int p1)]))
        refine own_st ?_ (X0.ldcInt hx hown (mvT hZ (hw _ (List.mem_of_getElem? (i := 4) rfl))) (g := (mkF m 42 #[.val (.int p0), .val (.int p1), .val (.int p2), .val (.int p3), .val (.int (p0 &&& (3 : Int32))), .val (.int (1 : Int32)), .unset, .unset, .unset, .unset, .unset] [(.int p1)])) rfl (hb hby at_42))
        show own_G p.tables e below _ _ (s₁.setTop (mkF m 44 #[.val (.int p0), .val (.int p1), .val (.int p2), .val (.int p3), .val (.int (p0 &&& (3 : Int32))), .val (.int (1 : Int32)), .unset, .unset, .unset, .unset, .unset] [(.int (2147483647 : Int32)), (.int p1)]))
        refine own_st ?_ (fun t k => XS.iand X0.here hx rfl (hb hby at_44) rfl k)
        show own_G p.tables e below _ _ (s₁.setTop (mkF m 45 #[.val (.int p0), .val (.int p1), .val (.int p2), .val (.int p3), .val (.int (p0 &&& (3 : Int32))), .val (.int (1 : Int32)), .unset, .unset, .unset, .unset, .unset] [(.int (p1 &&& (2147483647 : Int32)))]))
        refine own_st ?_ (fun t k => XS.istore X0.here hx rfl (hb hby at_45) rfl (l' := #[.val (.int p0), .val (.int p1), .val (.int p2), .val (.int p3), .val (.int (p0 &&& (3 : Int32))), .val (.int (1 : Int32)), .val (.int (p1 &&& (2147483647 : Int32))), .unset, .unset, .unset, .unset]) rfl k)
        show own_G p.tables e below _ _ (s₁.setTop (mkF m 47 #[.val (.int p0), .val (.int p1), .val (.int p2), .val (.int p3), .val (.int (p0 &&& (3 : Int32))), .val (.int (1 : Int32)), .val (.int (p1 &&& (2147483647 : Int32))), .unset, .unset, .unset, .unset] []))
        refine own_st ?_ (fun t k => XS.iload X0.here hx rfl (hb hby at_47) rfl k)
        show own_G p.tables e below _ _ (s₁.setTop (mkF m 49 #[.val (.int p0), .val (.int p1), .val (.int p2), .val (.int p3), .val (.int (p0 &&& (3 : Int32))), .val (.int (1 : Int32)), .val (.int (p1 &&& (2147483647 : Int32))), .unset, .unset, .unset, .unset] [(.int (p1 &&& (2147483647 : Int32)))]))
        refine own_st ?_ (fun t k => XS.iconst X0.here hx rfl (hb hby at_49) k)
        show own_G p.tables e below _ _ (s₁.setTop (mkF m 50 #[.val (.int p0), .val (.int p1), .val (.int p2), .val (.int p3), .val (.int (p0 &&& (3 : Int32))), .val (.int (1 : Int32)), .val (.int (p1 &&& (2147483647 : Int32))), .unset, .unset, .unset, .unset] [(.int (3 : Int32)), (.int (p1 &&& (2147483647 : Int32)))]))
        by_cases hc50 : (p1 &&& (2147483647 : Int32)) < (3 : Int32)
        · refine own_st ?_ (fun t k => XS.icmpNo X0.here hx rfl (hb hby at_50) rfl (tlt hc50).2.1 k)
          show own_G p.tables e below _ _ (s₁.setTop (mkF m 53 #[.val (.int p0), .val (.int p1), .val (.int p2), .val (.int p3), .val (.int (p0 &&& (3 : Int32))), .val (.int (1 : Int32)), .val (.int (p1 &&& (2147483647 : Int32))), .unset, .unset, .unset, .unset] []))
          refine own_st ?_ (fun t k => XS.iload X0.here hx rfl (hb hby at_53) rfl k)
          show own_G p.tables e below _ _ (s₁.setTop (mkF m 55 #[.val (.int p0), .val (.int p1), .val (.int p2), .val (.int p3), .val (.int (p0 &&& (3 : Int32))), .val (.int (1 : Int32)), .val (.int (p1 &&& (2147483647 : Int32))), .unset, .unset, .unset, .unset] [(.int (p1 &&& (2147483647 : Int32)))]))
          refine own_st ?_ (fun t k => XS.iconst X0.here hx rfl (hb hby at_55) k)
          show own_G p.tables e below _ _ (s₁.setTop (mkF m 56 #[.val (.int p0), .val (.int p1), .val (.int p2), .val (.int p3), .val (.int (p0 &&& (3 : Int32))), .val (.int (1 : Int32)), .val (.int (p1 &&& (2147483647 : Int32))), .unset, .unset, .unset, .unset] [(.int (3 : Int32)), (.int (p1 &&& (2147483647 : Int32)))]))
          refine own_st ?_ (fun t k => XS.iadd X0.here hx rfl (hb hby at_56) rfl k)
          show own_G p.tables e below _ _ (s₁.setTop (mkF m 57 #[.val (.int p0), .val (.int p1), .val (.int p2), .val (.int p3), .val (.int (p0 &&& (3 : Int32))), .val (.int (1 : Int32)), .val (.int (p1 &&& (2147483647 : Int32))), .unset, .unset, .unset, .unset] [(.int ((p1 &&& (2147483647 : Int32)) + (3 : Int32)))]))
          refine own_st ?_ (fun t k => XS.istore X0.here hx rfl (hb hby at_57) rfl (l' := #[.val (.int p0), .val (.int p1), .val (.int p2), .val (.int p3), .val (.int (p0 &&& (3 : Int32))), .val (.int (1 : Int32)), .val (.int ((p1 &&& (2147483647 : Int32)) + (3 : Int32))), .unset, .unset, .unset, .unset]) rfl k)
          show own_G p.tables e below _ _ (s₁.setTop (mkF m 59 #[.val (.int p0), .val (.int p1), .val (.int p2), .val (.int p3), .val (.int (p0 &&& (3 : Int32))), .val (.int (1 : Int32)), .val (.int ((p1 &&& (2147483647 : Int32)) + (3 : Int32))), .unset, .unset, .unset, .unset] []))
          rw [show f0 p0 p1 p2 p3  = (f0_59 p2 p3 (1 : Int32) ((p1 &&& (2147483647 : Int32)) + (3 : Int32)) ) from (if_neg hc8).trans ((if_neg hc20).trans ((if_neg hc32).trans ((if_pos hc50).trans (rfl))))]
          exact sg0_59 (.val (.int p0)) (.val (.int p1)) p2 p3 (.val (.int (p0 &&& (3 : Int32)))) (1 : Int32) ((p1 &&& (2147483647 : Int32)) + (3 : Int32))  X0 N0 hx hlk hZ hw hby hml hown hret e0 Z0
        · refine own_st ?_ (fun t k => XS.icmpYes X0.here hx rfl (pc0 := 50) (pc' := 59) rfl (hb hby at_50) rfl (flt hc50).2.1 (by decide) (by decide) k)
          show own_G p.tables e below _ _ (s₁.setTop (mkF m 59 #[.val (.int p0), .val (.int p1), .val (.int p2), .val (.int p3), .val (.int (p0 &&& (3 : Int32))), .val (.int (1 : Int32)), .val (.int (p1 &&& (2147483647 : Int32))), .unset, .unset, .unset, .unset] []))
          rw [show f0 p0 p1 p2 p3  = (f0_59 p2 p3 (1 : Int32) (p1 &&& (2147483647 : Int32)) ) from (if_neg hc8).trans ((if_neg hc20).trans ((if_neg hc32).trans ((if_neg hc50).trans (rfl))))]
          exact sg0_59 (.val (.int p0)) (.val (.int p1)) p2 p3 (.val (.int (p0 &&& (3 : Int32)))) (1 : Int32) (p1 &&& (2147483647 : Int32))  X0 N0 hx hlk hZ hw hby hml hown hret e0 Z0
theorem own_a (i2 i3 y : Int32) (hy : y = 1 ∨ y = 2) : f0_59 i2 i3 0 y = 1 := by
  have L : y < 3 := by rcases hy with h | h <;> rw [h] <;> decide
  have A : ∀ x : Int32, (x = 1 ∨ x = 2) → f0_174 y x 1 = 1 := by
    intro x hx; unfold f0_174 f1; rw [if_pos L]
    by_cases h1 : x = 1
    · rw [if_pos h1, if_pos rfl]
    · rw [if_neg h1, if_pos (hx.resolve_left h1), if_pos rfl]
  have B : ∀ x : Int32, ¬ x = 1 → ¬ x = 2 → f0_174 y x 0 = 1 := by
    intro x h1 h2; unfold f0_174 f1; rw [if_pos L, if_neg h1, if_neg h2, if_pos rfl]
  have Z : (0 : Int32) = 0 := rfl
  unfold f0_59
  simp only [if_pos Z]
  by_cases c0 : (i2 &&& (3 : Int32)) = 0
  · rw [if_pos c0]; exact A _ hy
  rw [if_neg c0]
  by_cases c1 : (i2 &&& (3 : Int32)) = 1
  · rw [if_pos c1]
    by_cases d : (i3 &&& (1 : Int32)) = 0
    · rw [if_pos d]; exact A _ (.inl rfl)
    · rw [if_neg d]; exact A _ (.inr rfl)
  rw [if_neg c1]
  by_cases c2 : (i2 &&& (3 : Int32)) = 2
  · rw [if_pos c2]; exact B _ (by decide) (by decide)
  rw [if_neg c2]
  by_cases d1 : i3 = 1
  · rw [if_pos d1]
    by_cases e : i3 = y
    · rw [if_pos e]; exact A _ (.inl d1)
    · rw [if_neg e]; exact A _ (.inl d1)
  rw [if_neg d1]
  by_cases d2 : i3 = 2
  · rw [if_pos d2]
    by_cases e : i3 = y
    · rw [if_pos e]; exact A _ (.inr d2)
    · rw [if_neg e]; exact A _ (.inr d2)
  rw [if_neg d2]
  have e : ¬ i3 = y := fun q => by rcases hy with h | h; exact d1 (q.trans h); exact d2 (q.trans h)
  rw [if_neg e]; exact B _ d1 d2
theorem own_b (i2 i3 y : Int32) (h : ¬ y < 3) : f0_59 i2 i3 1 y = 1 := by
  have n0 : ¬ (0 : Int32) = y := fun q => h (by rw [← q]; decide)
  have n1 : ¬ (1 : Int32) = y := fun q => h (by rw [← q]; decide)
  have n2 : ¬ (2 : Int32) = y := fun q => h (by rw [← q]; decide)
  have A : ∀ x : Int32, x = y → f0_174 y x 1 = 1 := by
    intro x hx; unfold f0_174 f1; rw [if_neg h, if_pos hx, if_pos rfl]
  have B : ∀ x : Int32, ¬ x = y → f0_174 y x 0 = 1 := by
    intro x h1; unfold f0_174 f1; rw [if_neg h, if_neg h1, if_pos rfl]
  have Z : ¬ (1 : Int32) = 0 := by decide
  unfold f0_59
  simp only [if_neg Z]
  by_cases c0 : (i2 &&& (3 : Int32)) = 0
  · rw [if_pos c0]; exact A _ rfl
  rw [if_neg c0]
  by_cases c1 : (i2 &&& (3 : Int32)) = 1
  · rw [if_pos c1]
    by_cases d : (i3 &&& (1 : Int32)) = 0
    · rw [if_pos d]; exact B _ n1
    · rw [if_neg d]; exact B _ n2
  rw [if_neg c1]
  by_cases c2 : (i2 &&& (3 : Int32)) = 2
  · rw [if_pos c2]; exact B _ n0
  rw [if_neg c2]
  by_cases e : i3 = y
  · simp only [if_pos e]
    by_cases d1 : i3 = 1
    · rw [if_pos d1]; exact A _ e
    rw [if_neg d1]
    by_cases d2 : i3 = 2
    · rw [if_pos d2]; exact A _ e
    rw [if_neg d2]; exact A _ e
  · simp only [if_neg e]
    by_cases d1 : i3 = 1
    · rw [if_pos d1]; exact B _ e
    rw [if_neg d1]
    by_cases d2 : i3 = 2
    · rw [if_pos d2]; exact B _ e
    rw [if_neg d2]; exact B _ e
theorem own_mask (x : Int32) : 0 ≤ (x &&& 2147483647).toInt := by
  have h := Jvm.Kit.i32_mask x 2147483647 (k := 31) (by decide) (by decide)
  rw [h]; exact Int.emod_nonneg _ (by decide)
theorem own_law (p0 p1 p2 p3 : Int32) : f0 p0 p1 p2 p3 = 1 := by
  have e2 : (2 : Int32).toInt = 2 := by decide
  have e3 : (3 : Int32).toInt = 3 := by decide
  have hk := Jvm.Kit.i32_mask p0 3 (k := 2) (by decide) (by decide)
  have hm := own_mask p1
  unfold f0
  generalize (p0 &&& (3 : Int32)) = k at *
  generalize (p1 &&& (2147483647 : Int32)) = y at *
  have h3 : ∀ z : Int32, ¬ z < 3 ↔ 3 ≤ z.toInt := fun z => by rw [Int32.lt_iff_toInt_lt, e3]; omega
  by_cases hc : k < 2
  · rw [if_pos hc]
    rw [Int32.lt_iff_toInt_lt, e2] at hc
    by_cases h0 : k = 0
    · rw [if_pos h0]; exact own_a _ _ _ (.inl rfl)
    · rw [if_neg h0]
      by_cases h1 : k = 1
      · rw [if_pos h1]; exact own_a _ _ _ (.inr rfl)
      · exfalso
        have q0 : k.toInt ≠ 0 := fun q => h0 (Int32.toInt_inj.mp (by rw [q]; decide))
        have q1 : k.toInt ≠ 1 := fun q => h1 (Int32.toInt_inj.mp (by rw [q]; decide))
        omega
  · rw [if_neg hc]
    have n0 : ¬ k = 0 := fun q => hc (by rw [q]; decide)
    have n1 : ¬ k = 1 := fun q => hc (by rw [q]; decide)
    rw [if_neg n0, if_neg n1]
    by_cases hy : y < 3
    · rw [if_pos hy]
      rw [Int32.lt_iff_toInt_lt, e3] at hy
      refine own_b _ _ _ ((h3 _).mpr ?_)
      rw [Jvm.Kit.i32_add (by rw [e3]; omega) (by rw [e3]; omega), e3]; omega
    · rw [if_neg hy]; exact own_b _ _ _ hy
set_option maxRecDepth 65536 in
set_option maxHeartbeats 40000000 in
theorem comes_1 {Post : Tables → Env → Array Value → State → Outcome → State → Prop} (hpost : ∀ tb e args s v u, (limb_1_1.after args s (.returned v) u = true ∧ limb_1_2.after args s (.returned v) u = true ∧ True) → FrameEnd s (.returned v) u (Jvm.fieldLocs frame_1_writes args s ++ Jvm.arrayLocs frame_1_arrays args s ++ Jvm.staticLocs frame_1_statics s) 0 0 → Post tb e args s (.returned v) u) :
    ArmFor flags0 classFile x code maxLocals ret World_1 tables_1 room_1 Calls_1 rest_1 Pre_1 Post := by
  intro l hfl _ _ p e ha hc hk s m args below hf hA hF happ hP
  obtain ⟨hcalls, hrest, hpre⟩ := hP
  obtain ⟨-, -, -, hnamed, -, -, -, hat⟩ := (Spec.applies_iff hf).mp happ
  obtain ⟨hg, hn⟩ := and_e (Cond.before_iff.mp (show (Jvm.Cond.and given_1 narrow_1).before args s = true from hpre))
  obtain ⟨hcount, hgs0⟩ := and_e hg
  obtain ⟨w0, w1, w2, w3, rfl⟩ : ∃ w0 w1 w2 w3 : Value, args = #[w0, w1, w2, w3] := by
    have hs : args.size = 4 := by simpa [Cond.value, given_1] using hcount
    obtain ⟨L⟩ := args
    match L, hs with
    | [w0, w1, w2, w3], _ => exact ⟨w0, w1, w2, w3, rfl⟩
  have hw := fun d (hd : d ∈ tables_1) => atoms_spec (ws := Jvm.Cond.code x code maxLocals ret :: tables_1) hat d (List.mem_cons_of_mem _ hd)
  obtain ⟨hv0, hgs1⟩ := and_e hgs0
  obtain ⟨i0, ei0⟩ := is_v hv0
  obtain rfl : w0 = (.int i0) := Option.some.inj ei0
  obtain ⟨hv1, hgs2⟩ := and_e hgs1
  obtain ⟨i1, ei1⟩ := is_v hv1
  obtain rfl : w1 = (.int i1) := Option.some.inj ei1
  obtain ⟨hv2, hgs3⟩ := and_e hgs2
  obtain ⟨i2, ei2⟩ := is_v hv2
  obtain rfl : w2 = (.int i2) := Option.some.inj ei2
  have hv3 := hgs3
  obtain ⟨i3, ei3⟩ := is_v hv3
  obtain rfl : w3 = (.int i3) := Option.some.inj ei3
  obtain ⟨n, o, h1, h2, h3, _, L, rfl, ⟨rfl, N, -⟩, hq⟩ := rm0 l s _ hw tables_1 i0 i1 i2 i3  s.heap s.heap.size (Nat.le_refl _)  p e ha hc hk s m _ below hf ((Spec.applies_iff_loose hf).mp happ).1 ⟨rfl, State.Warmed39.refl s, rfl⟩ trivial
  rw [own_law i0 i1 i2 i3] at h3
  refine ⟨n, _, h1, h2, h3, hpost _ _ _ _ _ _ ⟨Cond.after_iff.mpr rfl, Cond.after_iff.mpr (eq_i res_at (Term.int_eval (1)) rfl), trivial⟩ ⟨⟨_, rfl⟩, hq.2.1, (hq.2.2.sift fun y hy => Or.inr (N y hy)).mono (by decide) (by decide)⟩⟩
theorem main_1_1 : Claimed_1_1 := comes_1 fun _ _ _ _ _ _ h hF => ⟨h.1, hF⟩
theorem main_1_2 : Claimed_1_2 := comes_1 fun _ _ _ _ _ _ h hF => ⟨h.2.1, hF⟩
end Jvm.Pilot.@@N@@
namespace Jvm.Pilot.@@N@@
open Jvm Jvm.ClassFile Sem Op Lib Jvm.Free Jvm.Stand Jvm.Pilot.@@N@@.Jvm.D
/-! MADE BY PROGRAM (witnessworld.py) out of the Statement's table words and the real class files: 9 classes; the members and pool entries that the words name. The judged class is class 1, her method 1. -/
namespace start1
open Jvm.ClassFile
def u (s : String) : CpInfo := .utf8 (stringToUtf16 s)
/-- a pool by its gaps: so many unusable entries, then the entry; so many at the end -/
def gap : Nat → List CpInfo → List CpInfo
  | 0, r => r
  | n + 1, r => .unusable :: gap n r
def poolList (es : List (Nat × CpInfo)) (last : Nat) : List CpInfo := es.foldr (fun e r => gap e.1 (e.2 :: r)) (gap last [])
def pool (es : List (Nat × CpInfo)) (last : Nat) : Array CpInfo := ⟨poolList es last⟩
def fileOf (pool : Array CpInfo) (this : Nat) (attrs : Array Attribute := #[]) (ms : Array MethodInfo := #[]) (fl : Nat := 33) (sup : Nat := 0) (ifs : Array Nat := #[]) (fds : Array FieldInfo := #[]) : ClassFile where
  minorVersion := 0
  majorVersion := 65
  constantPool := pool
  accessFlags := fl
  thisClass := this
  superClass := sup
  interfaces := ifs
  fields := fds
  methods := ms
  attributes := attrs
def plain (name : String) (sup : Option ClassId) : Class where
  name := name
  kind := .ordinary
  loader := none
  accessFlags := 33
  super := sup
  interfaces := #[]
  cf := none
  fields := #[]
  methods := #[]
  instanceTypes := #[]
  staticTypes := #[]
  resolved := #[]
  callSites := []
  init := .initialized
  statics := none
  mirror := none

def pool0 : Array CpInfo := pool [(5, u "<init>"), (0, u "()V"), (1, .class_ 10), (1, u "java/lang/Object")] 113

def k0m0 : Method := { name := "<init>", desc := "()V", sig := { parameters := [], returnType := none }, accessFlags := 1, code := none }
/-- java/lang/Object -/
def k0 : Class := { plain "java/lang/Object" none with
  accessFlags := 33
  interfaces := #[]
  cf := some (fileOf pool0 8 #[] #[{ accessFlags := 1, nameIndex := 5, descriptorIndex := 6, attributes := #[] }] 33 0 #[] #[])
  fields := #[]
  methods := #[k0m0]
  instanceTypes := #[]
  staticTypes := #[]
  resolved := Array.replicate 124 none
  statics := none }

def pool1 : Array CpInfo := pool [(2, .class_ 4), (1, u "java/lang/Object"), (0, u "<init>"), (0, u "()V"), (0, .class_ 8), (0, u "com/example/supplant/supplant/automata/SymbolTable"), (0, .integer 2147483647), (0, .methodref 7 11), (0, .nameAndType 12 13), (0, u "reads"), (0, u "(II)Z"), (0, .class_ 15), (0, u "com/example/supplant/supplant/automata/SymbolTableReadsPinLaw"), (2, u "law"), (0, u "(IIII)Z")] 3

def k1m0 : Method := { name := "<init>", desc := "()V", sig := { parameters := [], returnType := none }, accessFlags := 1, code := none }
def k1c1 : Code := { maxStack := 2, maxLocals := 11, code := code, exceptionTable := #[], attributes := #[] }
def k1m1 : Method := { name := "law", desc := "(IIII)Z", sig := { parameters := [.int, .int, .int, .int], returnType := some .boolean }, accessFlags := 9, code := some k1c1 }
/-- com/example/supplant/supplant/automata/SymbolTableReadsPinLaw -/
def k1 : Class := { plain "com/example/supplant/supplant/automata/SymbolTableReadsPinLaw" (some 0) with
  accessFlags := 49
  interfaces := #[]
  cf := some (fileOf pool1 14 #[] #[{ accessFlags := 1, nameIndex := 5, descriptorIndex := 6, attributes := #[] }, { accessFlags := 9, nameIndex := 18, descriptorIndex := 19, attributes := #[] }] 49 2 #[] #[])
  fields := #[]
  methods := #[k1m0, k1m1]
  instanceTypes := #[]
  staticTypes := #[]
  resolved := Array.replicate 23 none
  statics := none }

def pool2 : Array CpInfo := pool [(2, .class_ 4), (1, u "java/lang/Object"), (0, u "<init>"), (0, u "()V"), (4, .class_ 13), (1, u "com/example/supplant/supplant/automata/SymbolTable"), (0, u "symbols"), (0, u "Ljava/util/List;"), (5, u "codes"), (0, u "Ljava/util/Map;"), (5, u "auxiliaries"), (0, u "Ljava/util/BitSet;"), (66, u "EPSILON"), (0, u "I"), (2, u "UNKNOWN"), (1, u "IDENTITY"), (1, u "FIRST_SYMBOL"), (14, u "reads"), (0, u "(II)Z")] 17

def k2m0 : Method := { name := "<init>", desc := "()V", sig := { parameters := [], returnType := none }, accessFlags := 1, code := none }
def k2c1 : Code := { maxStack := 2, maxLocals := 2, code := prog_15_method_7_code, exceptionTable := #[], attributes := #[] }
def k2m1 : Method := { name := "reads", desc := "(II)Z", sig := { parameters := [.int, .int], returnType := some .boolean }, accessFlags := 8, code := some k2c1 }
/-- com/example/supplant/supplant/automata/SymbolTable -/
def k2 : Class := { plain "com/example/supplant/supplant/automata/SymbolTable" (some 0) with
  accessFlags := 49
  interfaces := #[]
  cf := some (fileOf pool2 11 #[] #[{ accessFlags := 1, nameIndex := 5, descriptorIndex := 6, attributes := #[] }, { accessFlags := 8, nameIndex := 119, descriptorIndex := 120, attributes := #[] }] 49 2 #[] #[{ accessFlags := 25, nameIndex := 96, descriptorIndex := 97, attributes := #[] }, { accessFlags := 25, nameIndex := 100, descriptorIndex := 97, attributes := #[] }, { accessFlags := 25, nameIndex := 102, descriptorIndex := 97, attributes := #[] }, { accessFlags := 25, nameIndex := 104, descriptorIndex := 97, attributes := #[] }, { accessFlags := 18, nameIndex := 14, descriptorIndex := 15, attributes := #[] }, { accessFlags := 18, nameIndex := 21, descriptorIndex := 22, attributes := #[] }, { accessFlags := 18, nameIndex := 28, descriptorIndex := 29, attributes := #[] }])
  fields := #[{ name := "EPSILON", type := .int, accessFlags := 25, slot := 0, constantValue := 0 }, { name := "UNKNOWN", type := .int, accessFlags := 25, slot := 1, constantValue := 0 }, { name := "IDENTITY", type := .int, accessFlags := 25, slot := 2, constantValue := 0 }, { name := "FIRST_SYMBOL", type := .int, accessFlags := 25, slot := 3, constantValue := 0 }, { name := "symbols", type := (.object "java/util/List"), accessFlags := 18, slot := 0, constantValue := 0 }, { name := "codes", type := (.object "java/util/Map"), accessFlags := 18, slot := 1, constantValue := 0 }, { name := "auxiliaries", type := (.object "java/util/BitSet"), accessFlags := 18, slot := 2, constantValue := 0 }]
  methods := #[k2m0, k2m1]
  instanceTypes := #[(.object "java/util/List"), (.object "java/util/Map"), (.object "java/util/BitSet")]
  staticTypes := #[.int, .int, .int, .int]
  resolved := Array.replicate 138 none
  statics := none }

def pool3 : Array CpInfo := pool [(1, u "java/lang/Cloneable"), (0, .class_ 1), (0, u "java/lang/Object"), (0, .class_ 3)] 3

/-- java/lang/Cloneable -/
def k3 : Class := { plain "java/lang/Cloneable" (some 0) with
  accessFlags := 1537
  interfaces := #[]
  cf := some (fileOf pool3 2 #[] #[] 1537 4 #[] #[])
  fields := #[]
  methods := #[]
  instanceTypes := #[]
  staticTypes := #[]
  resolved := Array.replicate 8 none
  statics := none }

def pool4 : Array CpInfo := pool [(1, u "java/io/Serializable"), (0, .class_ 1), (0, u "java/lang/Object"), (0, .class_ 3)] 3

/-- java/io/Serializable -/
def k4 : Class := { plain "java/io/Serializable" (some 0) with
  accessFlags := 1537
  interfaces := #[]
  cf := some (fileOf pool4 2 #[] #[] 1537 4 #[] #[])
  fields := #[]
  methods := #[]
  instanceTypes := #[]
  staticTypes := #[]
  resolved := Array.replicate 8 none
  statics := none }

/-- the primitive byte -/
def k5 : Class := { plain "byte" none with kind := .primitive 'B', accessFlags := 0x411 }
/-- [B -/
def k6 : Class := { plain "[B" (some 0) with kind := .array 5 .byte, interfaces := #[3, 4], accessFlags := 1041 }

/-- the primitive int -/
def k7 : Class := { plain "int" none with kind := .primitive 'I', accessFlags := 0x411 }
/-- [I -/
def k8 : Class := { plain "[I" (some 0) with kind := .array 7 .int, interfaces := #[3, 4], accessFlags := 1041 }

def heap : Heap := #[]
def classes : Array Class := #[k0, k1, k2, k3, k4, k5, k6, k7, k8]
def interned : List (Array UInt16 × Addr) := []
def slotsUsed : Nat := 0
def theMethod : MethodId := ⟨1, 1⟩
def args0 : Array Value := #[.int 2, .int 7, .int 3, .int 7]
def aboutOver (below : List Frame) : State where
  vm := { classes := classes, interned := interned.toArray }
  heap := heap
  slotsUsed := slotsUsed
  threads := #[{ frames := .invoking theMethod args0 :: below }]
def below0 : List Frame := [.native { method := ⟨0, 0⟩, args := #[] }]
def about1 : State := aboutOver below0
def p0 : Program := .bare "" "" ""
def e0 : Env := launch0.env 0 0 0
theorem w_frames : about1.frames = Frame.invoking theMethod args0 :: below0 := rfl
set_option maxRecDepth 65536 in
theorem w_args : argsFit about1.vm theMethod args0 = true := by decide +kernel
set_option maxRecDepth 65536 in
theorem w_heap : heapFits about1 = true := by decide +kernel
set_option maxRecDepth 65536 in
theorem w_runnable : about1.curStatus? = some .runnable := by decide +kernel
set_option maxRecDepth 65536 in
theorem w_alone : about1.alone = true := by decide +kernel
set_option maxRecDepth 65536 in
theorem w_named : about1.methodNamed? x = some theMethod := by decide +kernel
set_option maxRecDepth 65536 in
theorem w_hears : about1.hears theMethod below0 = true := by decide +kernel
set_option maxRecDepth 65536 in
theorem w_ripe : about1.ripe theMethod args0 below0 = true := by decide +kernel
theorem w_running : about1.status = .running := rfl
set_option maxRecDepth 65536 in
theorem w_room : about1.hasRoom e0.platform room_1 = true :=
  launch0.hasRoom_least _ room_1 (by decide +kernel) (by decide +kernel) (by decide +kernel) (by decide +kernel) (by decide +kernel) (by decide +kernel)
theorem allAtoms_all (ts : List Jvm.Cond) (a : Array Jvm.Value) (st : Jvm.State) : (allAtoms ts).before a st = ts.all (fun c => c.before a st) := by
  induction ts with
  | nil => rfl
  | cons c t ih =>
    show (Jvm.Cond.and c (allAtoms t)).before a st = _
    rw [Jvm.Cond.before_and, ih, List.all_cons]
def words1 : List Jvm.Cond := Jvm.Cond.code x code maxLocals ret :: tables_1
/-- a 'code' word, met by the world's own term for the bytes: nothing is compared byte by byte -/
theorem code_word {y : MethodName} {bytes : ByteArray} {mx : Nat} {rt : Option FieldType} {a : Array Value} {s : State} {m : MethodId} {meth : Method} {c : Code} (h1 : s.methodNamed? y = some m) (h2 : s.vm.method? m = some meth) (h3 : meth.code = some c) (h4 : c.code = bytes)
    (h5 : (c.maxLocals == mx && c.exceptionTable.isEmpty && decide (c.maxStack ≤ mostOperands) && decide (meth.sig.returnType = rt) && !meth.locks && decide (parseMethodDescriptor y.desc = some meth.sig)) = true) : (Jvm.Cond.code y bytes mx rt).before a s = true := by
  simp only [Bool.and_eq_true, beq_iff_eq, Bool.not_eq_true', decide_eq_true_eq] at h5
  obtain ⟨⟨⟨⟨⟨g1, g2⟩, g3⟩, g4⟩, g5⟩, g6⟩ := h5
  simp [Cond.before, Cond.holds, Cond.value, h1, h2, h3, h4, g1, g2, g3, g4, g5, g6]
def isCode : Jvm.Cond → Bool
  | .code _ _ _ _ => true
  | _ => false
theorem all_split {L : List Jvm.Cond} {P : Jvm.Cond → Bool} (h1 : L.all (fun c => isCode c || P c) = true) (h2 : ∀ c ∈ L.filter isCode, P c = true) : L.all P = true := by
  refine List.all_eq_true.mpr fun c hc => ?_
  have h := List.all_eq_true.mp h1 c hc
  rcases Bool.eq_false_or_eq_true (isCode c) with hi | hi
  · exact h2 c (List.mem_filter.mpr ⟨hc, hi⟩)
  · simpa [hi] using h
set_option maxRecDepth 65536 in
theorem w_c0 : (Jvm.Cond.code x code maxLocals ret).before args0 about1 = true := code_word (m := ⟨1, 1⟩) (meth := k1m1) (c := k1c1) (by decide +kernel) rfl rfl rfl (by decide +kernel)
set_option maxRecDepth 65536 in
theorem w_c1 : (Jvm.Cond.code ({ cls := "com/example/supplant/supplant/automata/SymbolTable", name := "reads", desc := "(II)Z" } : Jvm.MethodName) prog_15_method_7_code (2 : Nat) (Option.some Jvm.ClassFile.FieldType.boolean)).before args0 about1 = true := code_word (m := ⟨2, 1⟩) (meth := k2m1) (c := k2c1) (by decide +kernel) rfl rfl rfl (by decide +kernel)
def codes1 : List Jvm.Cond := [Jvm.Cond.code x code maxLocals ret, Jvm.Cond.code ({ cls := "com/example/supplant/supplant/automata/SymbolTable", name := "reads", desc := "(II)Z" } : Jvm.MethodName) prog_15_method_7_code (2 : Nat) (Option.some Jvm.ClassFile.FieldType.boolean)]
set_option maxRecDepth 65536 in
theorem codes_eq : words1.filter isCode = codes1 := rfl
theorem w_codes : ∀ c ∈ words1.filter isCode, c.before args0 about1 = true := by
  rw [codes_eq]
  intro c hc
  simp only [codes1, List.mem_cons, List.not_mem_nil, or_false] at hc
  rcases hc with rfl | rfl
  · exact w_c0
  · exact w_c1
set_option maxRecDepth 65536 in
theorem w_t1 : words1.all (fun c => isCode c || c.before args0 about1) = true := by decide +kernel
theorem w_tables : (allAtoms (Jvm.Cond.code x code maxLocals ret :: tables_1)).before args0 about1 = true := by
  rw [allAtoms_all]
  show words1.all (fun c => c.before args0 about1) = true
  refine all_split ?_ w_codes
  rw [w_t1]
set_option maxRecDepth 65536 in
theorem w_case : (Jvm.Cond.and given_1 narrow_1).before args0 about1 = true := by decide +kernel
theorem w_applies : (headSpec (Jvm.Cond.code x code maxLocals ret :: tables_1) room_1).applies x e0.platform about1 = true :=
  (Spec.applies_iff w_frames).mpr ⟨w_running, w_runnable, w_alone, w_named, w_hears, w_ripe, w_room, w_tables⟩
theorem atStart : AtStart classFile x code maxLocals ret World_1 tables_1 room_1 Calls_1 rest_1 Pre_1 launch0 p0 e0 about1 theMethod args0 below0 :=
  ⟨lists_1, trivial, launch0.admits_env _ _ _, launch0.least_env, fairChoices_fair.cas, fairChoices_fair.clock, w_frames, w_args, w_heap, w_applies, trivial, trivial, w_case⟩
end start1
theorem witness_1 : WitnessClaimed_1 := ⟨start1.p0, start1.e0, start1.about1, start1.theMethod, start1.args0, start1.below0, start1.atStart⟩
end Jvm.Pilot.@@N@@
