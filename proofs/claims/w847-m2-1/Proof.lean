import JvmDerived
import JvmDerived.Pilot.@@N@@Statement
import JvmDerived.Pilot.@@N@@Code
set_option linter.unusedVariables false
set_option linter.unusedSimpArgs false
@@BLOCK:NumsL.lean.txt@@
@@BLOCK:Masks.lean.txt@@
namespace Jvm.Pilot.@@N@@
open Jvm Jvm.ClassFile Sem Op Lib Jvm.Free Jvm.Stand Jvm.LawKit Jvm.RoadKit Bundle Jvm.Pilot.@@N@@.Jvm.D
def own_G (tb : Tables) (e : Env) (below : List Frame) (En : Outcome → State → List Loc → Prop) (Q : Option Value → Heap → List Loc → Prop) (U : State) : Prop :=
  ∃ t o, Steps tb e below U t ∧ t.status = .running ∧ Ended t below o ∧ ∃ v L, o = .returned v ∧ Q v t.heap L ∧ En o t L
/-- the frame at the end, counted from s -/
def own_E (s : State) (nc ns : Nat) (o : Outcome) (t : State) (L : List Loc) : Prop := FrameEnd s o t L nc ns
theorem own_st {tb : Tables} {e : Env} {below : List Frame} {En : Outcome → State → List Loc → Prop} {Q : Option Value → Heap → List Loc → Prop} {U U' : State} (h : own_G tb e below En Q U') (st : ∀ t, Steps tb e below U' t → Steps tb e below U t) : own_G tb e below En Q U := by
  obtain ⟨t, o, h1, h2⟩ := h
  exact ⟨t, o, st t h1, h2⟩
section OwnRet
variable {p : Program} {l : Launch} {e : Env} {R : Room} {s : State} {m : MethodId} {args : Array Value} {below : List Frame} {meth : Method} {c : Code} {T : State} {locs : List Loc} {cells slots : Nat}
theorem own_retN (X : Stand p l e R s m args below meth c T locs cells slots) (hx : p.tables.exec = Jvm.exec) (hlk : meth.locks = false) {pc : Nat} {Ls : Array Slot} {z z' : Int32} {t : FieldType} {rest : List Value} (hret : meth.sig.returnType = some t) (ht : t = .boolean ∨ t = .byte ∨ t = .char ∨ t = .short)
    (hd : decode c.code pc = .ok (.ireturn, 1)) {Q : Option Value → Heap → List Loc → Prop} {nc ns : Nat} (hc : cells ≤ nc) (hs : slots ≤ ns) (hz : nar t z = z') (hQ : Q (some (.int z')) T.heap locs) : own_G p.tables e below (own_E s nc ns) Q (T.setTop (mkF m pc Ls (.int z :: rest))) := by
  subst hz
  obtain ⟨fs, hr, hrun, hended, hW, hsame⟩ := X.leave (v := some (.int (nar t z))) (fun h => by rw [hret] at h; cases h) hlk
  exact ⟨_, _, retN X hx hret ht hd hr, hrun, hended, _, _, rfl, hQ, ⟨_, rfl⟩, hW, hsame.mono hc hs⟩
theorem own_retI (X : Stand p l e R s m args below meth c T locs cells slots) (hx : p.tables.exec = Jvm.exec) (hlk : meth.locks = false) {pc : Nat} {Ls : Array Slot} {z : Int32} {rest : List Value} (hret : meth.sig.returnType = some .int)
    (hd : decode c.code pc = .ok (.ireturn, 1)) {Q : Option Value → Heap → List Loc → Prop} {nc ns : Nat} (hc : cells ≤ nc) (hs : slots ≤ ns) (hQ : Q (some (.int z)) T.heap locs) : own_G p.tables e below (own_E s nc ns) Q (T.setTop (mkF m pc Ls (.int z :: rest))) := by
  obtain ⟨fs, hr, hrun, hended, hW, hsame⟩ := X.leave (v := some (.int z)) (fun h => by rw [hret] at h; cases h) hlk
  exact ⟨_, _, retOut X hx hret rfl (Or.inl ⟨rfl, Or.inl rfl, _, rfl⟩) hd hr, hrun, hended, _, _, rfl, hQ, ⟨_, rfl⟩, hW, hsame.mono hc hs⟩
theorem own_retJ (X : Stand p l e R s m args below meth c T locs cells slots) (hx : p.tables.exec = Jvm.exec) (hlk : meth.locks = false) {pc : Nat} {Ls : Array Slot} {z : Int64} {rest : List Value} (hret : meth.sig.returnType = some .long)
    (hd : decode c.code pc = .ok (.lreturn, 1)) {Q : Option Value → Heap → List Loc → Prop} {nc ns : Nat} (hc : cells ≤ nc) (hs : slots ≤ ns) (hQ : Q (some (.long z)) T.heap locs) : own_G p.tables e below (own_E s nc ns) Q (T.setTop (mkF m pc Ls (.long z :: rest))) := by
  obtain ⟨fs, hr, hrun, hended, hW, hsame⟩ := X.leave (v := some (.long z)) (fun h => by rw [hret] at h; cases h) hlk
  exact ⟨_, _, retOut X hx hret rfl (Or.inr (Or.inl ⟨rfl, rfl, _, rfl⟩)) hd hr, hrun, hended, _, _, rfl, hQ, ⟨_, rfl⟩, hW, hsame.mono hc hs⟩
theorem own_retA (X : Stand p l e R s m args below meth c T locs cells slots) (hx : p.tables.exec = Jvm.exec) (hlk : meth.locks = false) {pc : Nat} {Ls : Array Slot} {z : Value} {t : FieldType} {rest : List Value} (hret : meth.sig.returnType = some t) (ht : t.isReference = true) (hn : narrow t z = z) (hv : z.isRef = true)
    (hd : decode c.code pc = .ok (.areturn, 1)) {Q : Option Value → Heap → List Loc → Prop} {nc ns : Nat} (hc : cells ≤ nc) (hs : slots ≤ ns) (hQ : Q (some z) T.heap locs) : own_G p.tables e below (own_E s nc ns) Q (T.setTop (mkF m pc Ls (z :: rest))) := by
  obtain ⟨fs, hr, hrun, hended, hW, hsame⟩ := X.leave (v := some z) (fun h => by rw [hret] at h; cases h) hlk
  exact ⟨_, _, retOut X hx hret hn (Or.inr (Or.inr (Or.inr (Or.inr ⟨rfl, ht, hv⟩)))) hd hr, hrun, hended, _, _, rfl, hQ, ⟨_, rfl⟩, hW, hsame.mono hc hs⟩
theorem own_retV (X : Stand p l e R s m args below meth c T locs cells slots) (hx : p.tables.exec = Jvm.exec) (hlk : meth.locks = false) {pc : Nat} {Ls : Array Slot} (hret : meth.sig.returnType = none)
    (hd : decode c.code pc = .ok (.return_, 1)) {Q : Option Value → Heap → List Loc → Prop} {nc ns : Nat} (hc : cells ≤ nc) (hs : slots ≤ ns) (hQ : Q none T.heap locs) : own_G p.tables e below (own_E s nc ns) Q (T.setTop (mkF m pc Ls [])) := by
  obtain ⟨fs, hr, hrun, hended, hW, hsame⟩ := X.leave (v := none) (fun _ => rfl) hlk
  exact ⟨_, _, X.returnOut hx hret hd hr, hrun, hended, _, _, rfl, hQ, ⟨_, rfl⟩, hW, hsame.mono hc hs⟩
/-- the wide frame at the end: Strings may have been interned -/
def own_EW (s : State) (nc ns : Nat) (o : Outcome) (t : State) (L : List Loc) : Prop := ReturnedEndW s o t L nc ns
theorem own_retNW {vm1 : Vm} (X : Stand p l e R (s.setVm vm1) m args below meth c T locs cells slots) (hx : p.tables.exec = Jvm.exec) (hlk : meth.locks = false) {k : Nat} (hS : s.Since vm1 k) (hk : k ≤ T.heap.size) {pc : Nat} {Ls : Array Slot} {z z' : Int32} {t : FieldType} {rest : List Value} (hret : meth.sig.returnType = some t) (ht : t = .boolean ∨ t = .byte ∨ t = .char ∨ t = .short)
    (hd : decode c.code pc = .ok (.ireturn, 1)) {Q : Option Value → Heap → List Loc → Prop} {nc ns : Nat} (hc : cells ≤ nc) (hs : slots ≤ ns) (hz : nar t z = z') (hQ : Q (some (.int z')) T.heap locs) : own_G p.tables e below (own_EW s nc ns) Q (T.setTop (mkF m pc Ls (.int z :: rest))) := by
  subst hz
  obtain ⟨fs, hr, hrun, hended, h1, h2, h3, h4⟩ := X.leaveW hS hk (v := some (.int (nar t z))) (fun h => by rw [hret] at h; cases h) hlk
  exact ⟨_, _, retN X hx hret ht hd hr, hrun, hended, _, _, rfl, hQ, h1, h2, h3, h4.mono hc hs⟩
end OwnRet
/-- it returns r; nothing old is written (own_QV: the heap is as it was) -/
def own_QL (r : Value) (n0 : Nat) (v : Option Value) (h : Heap) (L : List Loc) : Prop := v = some r ∧ Fr n0 L
def own_QN (h0 : Heap) (n0 : Nat) (v : Option Value) (h : Heap) (L : List Loc) : Prop := v = none ∧ Fr n0 L ∧ h = h0
def own_QV (r : Value) (h0 : Heap) (n0 : Nat) (v : Option Value) (h : Heap) (L : List Loc) : Prop := v = some r ∧ Fr n0 L ∧ h = h0
theorem d1_0 : decode method_2_code 0 = .ok (.iload_n 0, 1) := by decide +kernel
theorem d1_1 : decode method_2_code 1 = .ok (.ifCond .ne 7, 3) := by decide +kernel
theorem d1_4 : decode method_2_code 4 = .ok (.getstatic 7, 3) := by decide +kernel
theorem d1_7 : decode method_2_code 7 = .ok (.areturn, 1) := by decide +kernel
theorem d1_8 : decode method_2_code 8 = .ok (.iload_n 0, 1) := by decide +kernel
theorem d1_9 : decode method_2_code 9 = .ok (.iconst 1, 1) := by decide +kernel
theorem d1_10 : decode method_2_code 10 = .ok (.if_icmp .ne 7, 3) := by decide +kernel
theorem d1_13 : decode method_2_code 13 = .ok (.getstatic 13, 3) := by decide +kernel
theorem d1_16 : decode method_2_code 16 = .ok (.areturn, 1) := by decide +kernel
theorem d1_17 : decode method_2_code 17 = .ok (.iload_n 0, 1) := by decide +kernel
theorem d1_18 : decode method_2_code 18 = .ok (.iconst 2, 1) := by decide +kernel
theorem d1_19 : decode method_2_code 19 = .ok (.if_icmp .ne 7, 3) := by decide +kernel
theorem d1_22 : decode method_2_code 22 = .ok (.getstatic 16, 3) := by decide +kernel
theorem d1_25 : decode method_2_code 25 = .ok (.areturn, 1) := by decide +kernel
theorem d1_26 : decode method_2_code 26 = .ok (.iload_n 0, 1) := by decide +kernel
theorem d1_27 : decode method_2_code 27 = .ok (.iconst 3, 1) := by decide +kernel
theorem d1_28 : decode method_2_code 28 = .ok (.if_icmp .ne 7, 3) := by decide +kernel
theorem d1_31 : decode method_2_code 31 = .ok (.getstatic 19, 3) := by decide +kernel
theorem d1_34 : decode method_2_code 34 = .ok (.areturn, 1) := by decide +kernel
theorem d1_35 : decode method_2_code 35 = .ok (.iload_n 0, 1) := by decide +kernel
theorem d1_36 : decode method_2_code 36 = .ok (.iconst 4, 1) := by decide +kernel
theorem d1_37 : decode method_2_code 37 = .ok (.if_icmp .ne 7, 3) := by decide +kernel
theorem d1_40 : decode method_2_code 40 = .ok (.getstatic 22, 3) := by decide +kernel
theorem d1_43 : decode method_2_code 43 = .ok (.areturn, 1) := by decide +kernel
theorem d1_44 : decode method_2_code 44 = .ok (.getstatic 25, 3) := by decide +kernel
theorem d1_47 : decode method_2_code 47 = .ok (.areturn, 1) := by decide +kernel
def f1 (p0 : Int32) (w_LOW : Addr) (w_SUBSTANTIAL : Addr) (w_HIGH : Addr) (w_NOT_NOTIFIED_LOW : Addr) (w_NOT_NOTIFIED_SUBSTANTIAL : Addr) (w_NOT_NOTIFIED_HIGH : Addr) : Addr := (if p0 = (0 : Int32) then w_LOW else (if p0 = (1 : Int32) then w_SUBSTANTIAL else (if p0 = (2 : Int32) then w_HIGH else (if p0 = (3 : Int32) then w_NOT_NOTIFIED_LOW else (if p0 = (4 : Int32) then w_NOT_NOTIFIED_SUBSTANTIAL else w_NOT_NOTIFIED_HIGH)))))
theorem pn_1 : plainName "com/example/crossgate/crossgate/LevelOfAssuranceSatisfiesPinLaw" = true := by first | (simp [plainName, overriddenIn]; done) | decide +kernel
theorem ef_1 (m : MethodId) (p0 : Int32) : entryFrame m #[(.int p0)] 1 = mkF m 0 #[.val (.int p0)] [] := by first | (simp [entryFrame, mkF, argsToLocals, Value.category]; done) | rfl
set_option maxRecDepth 65536 in
set_option maxHeartbeats 40000000 in
theorem rm1 (l : Launch) (Z : State) (a0 : Array Value) (hw : ∀ d ∈ tables_1, d.before a0 Z = true) (ws : List Jvm.Cond) (p0 : Int32) (w_LOW : Addr) (w_SUBSTANTIAL : Addr) (w_HIGH : Addr) (w_NOT_NOTIFIED_LOW : Addr) (w_NOT_NOTIFIED_SUBSTANTIAL : Addr) (w_NOT_NOTIFIED_HIGH : Addr) (h0 : Heap) (n0 : Nat) (Z0 : n0 ≤ h0.size) (S_LOW : Sta Z h0 "com/example/crossgate/crossgate/LevelOfAssurance" "LOW" "Lcom/example/crossgate/crossgate/LevelOfAssurance;" (.ref w_LOW)) (S_SUBSTANTIAL : Sta Z h0 "com/example/crossgate/crossgate/LevelOfAssurance" "SUBSTANTIAL" "Lcom/example/crossgate/crossgate/LevelOfAssurance;" (.ref w_SUBSTANTIAL)) (S_HIGH : Sta Z h0 "com/example/crossgate/crossgate/LevelOfAssurance" "HIGH" "Lcom/example/crossgate/crossgate/LevelOfAssurance;" (.ref w_HIGH)) (S_NOT_NOTIFIED_LOW : Sta Z h0 "com/example/crossgate/crossgate/LevelOfAssurance" "NOT_NOTIFIED_LOW" "Lcom/example/crossgate/crossgate/LevelOfAssurance;" (.ref w_NOT_NOTIFIED_LOW)) (S_NOT_NOTIFIED_SUBSTANTIAL : Sta Z h0 "com/example/crossgate/crossgate/LevelOfAssurance" "NOT_NOTIFIED_SUBSTANTIAL" "Lcom/example/crossgate/crossgate/LevelOfAssurance;" (.ref w_NOT_NOTIFIED_SUBSTANTIAL)) (S_NOT_NOTIFIED_HIGH : Sta Z h0 "com/example/crossgate/crossgate/LevelOfAssurance" "NOT_NOTIFIED_HIGH" "Lcom/example/crossgate/crossgate/LevelOfAssurance;" (.ref w_NOT_NOTIFIED_HIGH)) :
    MetFree l (⟨"com/example/crossgate/crossgate/LevelOfAssuranceSatisfiesPinLaw", "pick", "(I)Lcom/example/crossgate/crossgate/LevelOfAssurance;"⟩ : MethodName) (head1 (Jvm.Cond.code (⟨"com/example/crossgate/crossgate/LevelOfAssuranceSatisfiesPinLaw", "pick", "(I)Lcom/example/crossgate/crossgate/LevelOfAssurance;"⟩ : MethodName) method_2_code 1 (some (.object "com/example/crossgate/crossgate/LevelOfAssurance")) :: ws) ({ frames := 0, cells := 0, slots := 0, locals := 0 } : Room)) (fun a U => a = #[(.int p0)] ∧ Z.Warmed39 U.vm ∧ U.heap = h0) (fun _ _ _ _ _ => True) (fun _ U o U' => ∃ v L, o = .returned v ∧ own_QV (.ref (f1 p0 w_LOW w_SUBSTANTIAL w_HIGH w_NOT_NOTIFIED_LOW w_NOT_NOTIFIED_SUBSTANTIAL w_NOT_NOTIFIED_HIGH)) h0 n0 v U'.heap L ∧ FrameEnd U o U' L ({ frames := 0, cells := 0, slots := 0, locals := 0 } : Room).cells ({ frames := 0, cells := 0, slots := 0, locals := 0 } : Room).slots) := by
  refine MetFree.of_bodySF (plainFor_of_name pn_1) hisR ?_
  intro p e s m args below meth c s₁ Bd hml0 hP hK
  obtain ⟨rfl, hZ, hh⟩ := hP
  have hx := Bd.exec
  have hby := Bd.bytes
  have hlk : meth.locks = false := BodyLoose.notSynchronized Bd
  have hret := Bd.returns
  have hml : c.maxLocals = 1 := hml0
  have hown : s.vm.findClass "com/example/crossgate/crossgate/LevelOfAssuranceSatisfiesPinLaw" = some m.cls := findClass_of_methodNamed Bd.named
  have hnm := (name_of_methodNamed Bd.named Bd.method).1
  have X0 : Stand p l e ({ frames := 0, cells := 0, slots := 0, locals := 0 } : Room) s m #[(.int p0)] below meth c s₁ [] 0 0 := Stand.of_body Bd
  have e0 : s₁.heap = h0 := by rw [← hh, Bd.state]; rfl
  have N0 := Fr.nil n0
  show own_G p.tables e below (own_E s ({ frames := 0, cells := 0, slots := 0, locals := 0 } : Room).cells ({ frames := 0, cells := 0, slots := 0, locals := 0 } : Room).slots) (own_QV (.ref (f1 p0 w_LOW w_SUBSTANTIAL w_HIGH w_NOT_NOTIFIED_LOW w_NOT_NOTIFIED_SUBSTANTIAL w_NOT_NOTIFIED_HIGH)) h0 n0) (s₁.setTop (entryFrame m #[(.int p0)] 1))
  refine own_st ?_ (fun t k => castTop (ef_1 m p0) k)
  show own_G p.tables e below _ _ (s₁.setTop (mkF m 0 #[.val (.int p0)] []))
  refine own_st ?_ (fun t k => XS.iloadN X0.here hx rfl (hb hby d1_0) rfl k)
  show own_G p.tables e below _ _ (s₁.setTop (mkF m 1 #[.val (.int p0)] [(.int p0)]))
  by_cases hc1 : p0 = (0 : Int32)
  · refine own_st ?_ (fun t k => XS.ifNo X0.here hx rfl (hb hby d1_1) rfl ((if0 _ _).trans (teq hc1).2) k)
    show own_G p.tables e below _ _ (s₁.setTop (mkF m 4 #[.val (.int p0)] []))
    obtain ⟨T1, X1, e1, st1⟩ := getS2 X0 hx hZ hown (host := "") (Or.inl (hw _ (List.mem_of_getElem? (i := 5) rfl))) Via.refl e0 S_LOW (g := (mkF m 4 #[.val (.int p0)] [])) rfl (hb hby d1_4)
    refine own_st ?_ st1
    show own_G p.tables e below _ _ (T1.setTop (mkF m 7 #[.val (.int p0)] [(.ref w_LOW)]))
    refine own_retA X1 hx hlk hret rfl rfl rfl (hb hby d1_7) (by decide) (by decide) ⟨?_, N0, e1⟩
    rw [show f1 p0 w_LOW w_SUBSTANTIAL w_HIGH w_NOT_NOTIFIED_LOW w_NOT_NOTIFIED_SUBSTANTIAL w_NOT_NOTIFIED_HIGH = w_LOW from (if_pos hc1).trans (rfl)]
  · refine own_st ?_ (fun t k => XS.ifYes X0.here hx rfl (pc0 := 1) (pc' := 8) rfl (hb hby d1_1) rfl ((if0 _ _).trans (feq hc1).2) (by decide) (by decide) k)
    show own_G p.tables e below _ _ (s₁.setTop (mkF m 8 #[.val (.int p0)] []))
    refine own_st ?_ (fun t k => XS.iloadN X0.here hx rfl (hb hby d1_8) rfl k)
    show own_G p.tables e below _ _ (s₁.setTop (mkF m 9 #[.val (.int p0)] [(.int p0)]))
    refine own_st ?_ (fun t k => XS.iconst X0.here hx rfl (hb hby d1_9) k)
    show own_G p.tables e below _ _ (s₁.setTop (mkF m 10 #[.val (.int p0)] [(.int (1 : Int32)), (.int p0)]))
    by_cases hc10 : p0 = (1 : Int32)
    · refine own_st ?_ (fun t k => XS.icmpNo X0.here hx rfl (hb hby d1_10) rfl (teq hc10).2 k)
      show own_G p.tables e below _ _ (s₁.setTop (mkF m 13 #[.val (.int p0)] []))
      obtain ⟨T2, X2, e2, st2⟩ := getS2 X0 hx hZ hown (host := "") (Or.inl (hw _ (List.mem_of_getElem? (i := 19) rfl))) Via.refl e0 S_SUBSTANTIAL (g := (mkF m 13 #[.val (.int p0)] [])) rfl (hb hby d1_13)
      refine own_st ?_ st2
      show own_G p.tables e below _ _ (T2.setTop (mkF m 16 #[.val (.int p0)] [(.ref w_SUBSTANTIAL)]))
      refine own_retA X2 hx hlk hret rfl rfl rfl (hb hby d1_16) (by decide) (by decide) ⟨?_, N0, e2⟩
      rw [show f1 p0 w_LOW w_SUBSTANTIAL w_HIGH w_NOT_NOTIFIED_LOW w_NOT_NOTIFIED_SUBSTANTIAL w_NOT_NOTIFIED_HIGH = w_SUBSTANTIAL from (if_neg hc1).trans ((if_pos hc10).trans (rfl))]
    · refine own_st ?_ (fun t k => XS.icmpYes X0.here hx rfl (pc0 := 10) (pc' := 17) rfl (hb hby d1_10) rfl (feq hc10).2 (by decide) (by decide) k)
      show own_G p.tables e below _ _ (s₁.setTop (mkF m 17 #[.val (.int p0)] []))
      refine own_st ?_ (fun t k => XS.iloadN X0.here hx rfl (hb hby d1_17) rfl k)
      show own_G p.tables e below _ _ (s₁.setTop (mkF m 18 #[.val (.int p0)] [(.int p0)]))
      refine own_st ?_ (fun t k => XS.iconst X0.here hx rfl (hb hby d1_18) k)
      show own_G p.tables e below _ _ (s₁.setTop (mkF m 19 #[.val (.int p0)] [(.int (2 : Int32)), (.int p0)]))
      by_cases hc19 : p0 = (2 : Int32)
      · refine own_st ?_ (fun t k => XS.icmpNo X0.here hx rfl (hb hby d1_19) rfl (teq hc19).2 k)
        show own_G p.tables e below _ _ (s₁.setTop (mkF m 22 #[.val (.int p0)] []))
        obtain ⟨T3, X3, e3, st3⟩ := getS2 X0 hx hZ hown (host := "") (Or.inl (hw _ (List.mem_of_getElem? (i := 17) rfl))) Via.refl e0 S_HIGH (g := (mkF m 22 #[.val (.int p0)] [])) rfl (hb hby d1_22)
        refine own_st ?_ st3
        show own_G p.tables e below _ _ (T3.setTop (mkF m 25 #[.val (.int p0)] [(.ref w_HIGH)]))
        refine own_retA X3 hx hlk hret rfl rfl rfl (hb hby d1_25) (by decide) (by decide) ⟨?_, N0, e3⟩
        rw [show f1 p0 w_LOW w_SUBSTANTIAL w_HIGH w_NOT_NOTIFIED_LOW w_NOT_NOTIFIED_SUBSTANTIAL w_NOT_NOTIFIED_HIGH = w_HIGH from (if_neg hc1).trans ((if_neg hc10).trans ((if_pos hc19).trans (rfl)))]
      · refine own_st ?_ (fun t k => XS.icmpYes X0.here hx rfl (pc0 := 19) (pc' := 26) rfl (hb hby d1_19) rfl (feq hc19).2 (by decide) (by decide) k)
        show own_G p.tables e below _ _ (s₁.setTop (mkF m 26 #[.val (.int p0)] []))
        refine own_st ?_ (fun t k => XS.iloadN X0.here hx rfl (hb hby d1_26) rfl k)
        show own_G p.tables e below _ _ (s₁.setTop (mkF m 27 #[.val (.int p0)] [(.int p0)]))
        refine own_st ?_ (fun t k => XS.iconst X0.here hx rfl (hb hby d1_27) k)
        show own_G p.tables e below _ _ (s₁.setTop (mkF m 28 #[.val (.int p0)] [(.int (3 : Int32)), (.int p0)]))
        by_cases hc28 : p0 = (3 : Int32)
        · refine own_st ?_ (fun t k => XS.icmpNo X0.here hx rfl (hb hby d1_28) rfl (teq hc28).2 k)
          show own_G p.tables e below _ _ (s₁.setTop (mkF m 31 #[.val (.int p0)] []))
          obtain ⟨T4, X4, e4, st4⟩ := getS2 X0 hx hZ hown (host := "") (Or.inl (hw _ (List.mem_of_getElem? (i := 8) rfl))) Via.refl e0 S_NOT_NOTIFIED_LOW (g := (mkF m 31 #[.val (.int p0)] [])) rfl (hb hby d1_31)
          refine own_st ?_ st4
          show own_G p.tables e below _ _ (T4.setTop (mkF m 34 #[.val (.int p0)] [(.ref w_NOT_NOTIFIED_LOW)]))
          refine own_retA X4 hx hlk hret rfl rfl rfl (hb hby d1_34) (by decide) (by decide) ⟨?_, N0, e4⟩
          rw [show f1 p0 w_LOW w_SUBSTANTIAL w_HIGH w_NOT_NOTIFIED_LOW w_NOT_NOTIFIED_SUBSTANTIAL w_NOT_NOTIFIED_HIGH = w_NOT_NOTIFIED_LOW from (if_neg hc1).trans ((if_neg hc10).trans ((if_neg hc19).trans ((if_pos hc28).trans (rfl))))]
        · refine own_st ?_ (fun t k => XS.icmpYes X0.here hx rfl (pc0 := 28) (pc' := 35) rfl (hb hby d1_28) rfl (feq hc28).2 (by decide) (by decide) k)
          show own_G p.tables e below _ _ (s₁.setTop (mkF m 35 #[.val (.int p0)] []))
          refine own_st ?_ (fun t k => XS.iloadN X0.here hx rfl (hb hby d1_35) rfl k)
          show own_G p.tables e below _ _ (s₁.setTop (mkF m 36 #[.val (.int p0)] [(.int p0)]))
          refine own_st ?_ (fun t k => XS.iconst X0.here hx rfl (hb hby d1_36) k)
          show own_G p.tables e below _ _ (s₁.setTop (mkF m 37 #[.val (.int p0)] [(.int (4 : Int32)), (.int p0)]))
          by_cases hc37 : p0 = (4 : Int32)
          · refine own_st ?_ (fun t k => XS.icmpNo X0.here hx rfl (hb hby d1_37) rfl (teq hc37).2 k)
            show own_G p.tables e below _ _ (s₁.setTop (mkF m 40 #[.val (.int p0)] []))
            obtain ⟨T5, X5, e5, st5⟩ := getS2 X0 hx hZ hown (host := "") (Or.inl (hw _ (List.mem_of_getElem? (i := 23) rfl))) Via.refl e0 S_NOT_NOTIFIED_SUBSTANTIAL (g := (mkF m 40 #[.val (.int p0)] [])) rfl (hb hby d1_40)
            refine own_st ?_ st5
            show own_G p.tables e below _ _ (T5.setTop (mkF m 43 #[.val (.int p0)] [(.ref w_NOT_NOTIFIED_SUBSTANTIAL)]))
            refine own_retA X5 hx hlk hret rfl rfl rfl (hb hby d1_43) (by decide) (by decide) ⟨?_, N0, e5⟩
            rw [show f1 p0 w_LOW w_SUBSTANTIAL w_HIGH w_NOT_NOTIFIED_LOW w_NOT_NOTIFIED_SUBSTANTIAL w_NOT_NOTIFIED_HIGH = w_NOT_NOTIFIED_SUBSTANTIAL from (if_neg hc1).trans ((if_neg hc10).trans ((if_neg hc19).trans ((if_neg hc28).trans ((if_pos hc37).trans (rfl)))))]
          · refine own_st ?_ (fun t k => XS.icmpYes X0.here hx rfl (pc0 := 37) (pc' := 44) rfl (hb hby d1_37) rfl (feq hc37).2 (by decide) (by decide) k)
            show own_G p.tables e below _ _ (s₁.setTop (mkF m 44 #[.val (.int p0)] []))
            obtain ⟨T6, X6, e6, st6⟩ := getS2 X0 hx hZ hown (host := "") (Or.inl (hw _ (List.mem_of_getElem? (i := 21) rfl))) Via.refl e0 S_NOT_NOTIFIED_HIGH (g := (mkF m 44 #[.val (.int p0)] [])) rfl (hb hby d1_44)
            refine own_st ?_ st6
            show own_G p.tables e below _ _ (T6.setTop (mkF m 47 #[.val (.int p0)] [(.ref w_NOT_NOTIFIED_HIGH)]))
            refine own_retA X6 hx hlk hret rfl rfl rfl (hb hby d1_47) (by decide) (by decide) ⟨?_, N0, e6⟩
            rw [show f1 p0 w_LOW w_SUBSTANTIAL w_HIGH w_NOT_NOTIFIED_LOW w_NOT_NOTIFIED_SUBSTANTIAL w_NOT_NOTIFIED_HIGH = w_NOT_NOTIFIED_HIGH from (if_neg hc1).trans ((if_neg hc10).trans ((if_neg hc19).trans ((if_neg hc28).trans ((if_neg hc37).trans (rfl)))))]
theorem d2_0 : decode prog_11_method_6_code 0 = .ok (.aload_n 0, 1) := by decide +kernel
theorem d2_1 : decode prog_11_method_6_code 1 = .ok (.getfield 45, 3) := by decide +kernel
theorem d2_4 : decode prog_11_method_6_code 4 = .ok (.ifCond .le 14, 3) := by decide +kernel
theorem d2_7 : decode prog_11_method_6_code 7 = .ok (.aload_n 1, 1) := by decide +kernel
theorem d2_8 : decode prog_11_method_6_code 8 = .ok (.getfield 45, 3) := by decide +kernel
theorem d2_11 : decode prog_11_method_6_code 11 = .ok (.ifCond .le 7, 3) := by decide +kernel
theorem d2_14 : decode prog_11_method_6_code 14 = .ok (.iconst 1, 1) := by decide +kernel
theorem d2_15 : decode prog_11_method_6_code 15 = .ok (.goto 4, 3) := by decide +kernel
theorem d2_18 : decode prog_11_method_6_code 18 = .ok (.iconst 0, 1) := by decide +kernel
theorem d2_19 : decode prog_11_method_6_code 19 = .ok (.istore_n 2, 1) := by decide +kernel
theorem d2_20 : decode prog_11_method_6_code 20 = .ok (.aload_n 0, 1) := by decide +kernel
theorem d2_21 : decode prog_11_method_6_code 21 = .ok (.aload_n 1, 1) := by decide +kernel
theorem d2_22 : decode prog_11_method_6_code 22 = .ok (.if_acmp .eq 18, 3) := by decide +kernel
theorem d2_25 : decode prog_11_method_6_code 25 = .ok (.iload_n 2, 1) := by decide +kernel
theorem d2_26 : decode prog_11_method_6_code 26 = .ok (.ifCond .eq 18, 3) := by decide +kernel
theorem d2_29 : decode prog_11_method_6_code 29 = .ok (.aload_n 0, 1) := by decide +kernel
theorem d2_30 : decode prog_11_method_6_code 30 = .ok (.getfield 45, 3) := by decide +kernel
theorem d2_33 : decode prog_11_method_6_code 33 = .ok (.aload_n 1, 1) := by decide +kernel
theorem d2_34 : decode prog_11_method_6_code 34 = .ok (.getfield 45, 3) := by decide +kernel
theorem d2_37 : decode prog_11_method_6_code 37 = .ok (.if_icmp .lt 7, 3) := by decide +kernel
theorem d2_40 : decode prog_11_method_6_code 40 = .ok (.iconst 1, 1) := by decide +kernel
theorem d2_41 : decode prog_11_method_6_code 41 = .ok (.goto 4, 3) := by decide +kernel
theorem d2_44 : decode prog_11_method_6_code 44 = .ok (.iconst 0, 1) := by decide +kernel
theorem d2_45 : decode prog_11_method_6_code 45 = .ok (.ireturn, 1) := by decide +kernel
def f2 (a0 : Addr) (a1 : Addr) (v_rank_a0 : Int32) (v_rank_a1 : Int32) : Int32 := (if (0 : Int32) < v_rank_a0 then (if (0 : Int32) < v_rank_a1 then (if a0 = a1 then (1 : Int32) else (if v_rank_a0 < v_rank_a1 then (0 : Int32) else (1 : Int32))) else (if a0 = a1 then (1 : Int32) else (0 : Int32))) else (if a0 = a1 then (1 : Int32) else (0 : Int32)))
theorem pn_2 : plainName "com/example/crossgate/crossgate/LevelOfAssurance" = true := by first | (simp [plainName, overriddenIn]; done) | decide +kernel
theorem ef_2 (m : MethodId) (a0 : Addr) (a1 : Addr) : entryFrame m #[(.ref a0), (.ref a1)] 3 = mkF m 0 #[.val (.ref a0), .val (.ref a1), .unset] [] := by first | (simp [entryFrame, mkF, argsToLocals, Value.category]; done) | rfl
set_option maxRecDepth 65536 in
set_option maxHeartbeats 40000000 in
theorem rm2 (l : Launch) (Z : State) (a0 : Array Value) (hw : ∀ d ∈ tables_1, d.before a0 Z = true) (ws : List Jvm.Cond) (a0 : Addr) (a1 : Addr) (v_rank_a0 : Int32) (v_rank_a1 : Int32) (h0 : Heap) (n0 : Nat) (Z0 : n0 ≤ h0.size) (F_rank_a0 : Fld Z h0 a0 "com/example/crossgate/crossgate/LevelOfAssurance" "rank" "I" (.int v_rank_a0)) (F_rank_a1 : Fld Z h0 a1 "com/example/crossgate/crossgate/LevelOfAssurance" "rank" "I" (.int v_rank_a1)) :
    MetFree l (⟨"com/example/crossgate/crossgate/LevelOfAssurance", "satisfies", "(Lcom/example/crossgate/crossgate/LevelOfAssurance;)Z"⟩ : MethodName) (head1 (Jvm.Cond.code (⟨"com/example/crossgate/crossgate/LevelOfAssurance", "satisfies", "(Lcom/example/crossgate/crossgate/LevelOfAssurance;)Z"⟩ : MethodName) prog_11_method_6_code 3 (some .boolean) :: ws) ({ frames := 0, cells := 0, slots := 0, locals := 0 } : Room)) (fun a U => a = #[(.ref a0), (.ref a1)] ∧ Z.Warmed39 U.vm ∧ U.heap = h0) (fun _ _ _ _ _ => True) (fun _ U o U' => ∃ v L, o = .returned v ∧ own_QV (.int (f2 a0 a1 v_rank_a0 v_rank_a1)) h0 n0 v U'.heap L ∧ FrameEnd U o U' L ({ frames := 0, cells := 0, slots := 0, locals := 0 } : Room).cells ({ frames := 0, cells := 0, slots := 0, locals := 0 } : Room).slots) := by
  refine MetFree.of_bodySF (plainFor_of_name pn_2) hisR ?_
  intro p e s m args below meth c s₁ Bd hml0 hP hK
  obtain ⟨rfl, hZ, hh⟩ := hP
  have hx := Bd.exec
  have hby := Bd.bytes
  have hlk : meth.locks = false := BodyLoose.notSynchronized Bd
  have hret := Bd.returns
  have hml : c.maxLocals = 3 := hml0
  have hown : s.vm.findClass "com/example/crossgate/crossgate/LevelOfAssurance" = some m.cls := findClass_of_methodNamed Bd.named
  have hnm := (name_of_methodNamed Bd.named Bd.method).1
  have X0 : Stand p l e ({ frames := 0, cells := 0, slots := 0, locals := 0 } : Room) s m #[(.ref a0), (.ref a1)] below meth c s₁ [] 0 0 := Stand.of_body Bd
  have e0 : s₁.heap = h0 := by rw [← hh, Bd.state]; rfl
  have N0 := Fr.nil n0
  show own_G p.tables e below (own_E s ({ frames := 0, cells := 0, slots := 0, locals := 0 } : Room).cells ({ frames := 0, cells := 0, slots := 0, locals := 0 } : Room).slots) (own_QV (.int (f2 a0 a1 v_rank_a0 v_rank_a1)) h0 n0) (s₁.setTop (entryFrame m #[(.ref a0), (.ref a1)] 3))
  refine own_st ?_ (fun t k => castTop (ef_2 m a0 a1) k)
  show own_G p.tables e below _ _ (s₁.setTop (mkF m 0 #[.val (.ref a0), .val (.ref a1), .unset] []))
  refine own_st ?_ (fun t k => XS.aloadN X0.here hx rfl (hb hby d2_0) rfl rfl k)
  show own_G p.tables e below _ _ (s₁.setTop (mkF m 1 #[.val (.ref a0), .val (.ref a1), .unset] [(.ref a0)]))
  obtain ⟨T1, X1, e1, st1⟩ := getF X0 hx hZ hown (host := "") (Or.inl (hw _ (List.mem_of_getElem? (i := 15) rfl))) Via.refl e0 F_rank_a0 (g := (mkF m 1 #[.val (.ref a0), .val (.ref a1), .unset] [(.ref a0)])) rfl rfl (hb hby d2_1)
  refine own_st ?_ st1
  show own_G p.tables e below _ _ (T1.setTop (mkF m 4 #[.val (.ref a0), .val (.ref a1), .unset] [(.int v_rank_a0)]))
  by_cases hc4 : (0 : Int32) < v_rank_a0
  · refine own_st ?_ (fun t k => XS.ifNo X1.here hx rfl (hb hby d2_4) rfl ((if0 _ _).trans (tlt hc4).2.2.2) k)
    show own_G p.tables e below _ _ (T1.setTop (mkF m 7 #[.val (.ref a0), .val (.ref a1), .unset] []))
    refine own_st ?_ (fun t k => XS.aloadN X1.here hx rfl (hb hby d2_7) rfl rfl k)
    show own_G p.tables e below _ _ (T1.setTop (mkF m 8 #[.val (.ref a0), .val (.ref a1), .unset] [(.ref a1)]))
    obtain ⟨T2, X2, e2, st2⟩ := getF X1 hx hZ hown (host := "") (Or.inl (hw _ (List.mem_of_getElem? (i := 15) rfl))) Via.refl e1 F_rank_a1 (g := (mkF m 8 #[.val (.ref a0), .val (.ref a1), .unset] [(.ref a1)])) rfl rfl (hb hby d2_8)
    refine own_st ?_ st2
    show own_G p.tables e below _ _ (T2.setTop (mkF m 11 #[.val (.ref a0), .val (.ref a1), .unset] [(.int v_rank_a1)]))
    by_cases hc11 : (0 : Int32) < v_rank_a1
    · refine own_st ?_ (fun t k => XS.ifNo X2.here hx rfl (hb hby d2_11) rfl ((if0 _ _).trans (tlt hc11).2.2.2) k)
      show own_G p.tables e below _ _ (T2.setTop (mkF m 14 #[.val (.ref a0), .val (.ref a1), .unset] []))
      refine own_st ?_ (fun t k => XS.iconst X2.here hx rfl (hb hby d2_14) k)
      show own_G p.tables e below _ _ (T2.setTop (mkF m 15 #[.val (.ref a0), .val (.ref a1), .unset] [(.int (1 : Int32))]))
      refine own_st ?_ (fun t k => XS.goto X2.here hx rfl (pc0 := 15) (pc' := 19) rfl (hb hby d2_15) (by decide) (by decide) k)
      show own_G p.tables e below _ _ (T2.setTop (mkF m 19 #[.val (.ref a0), .val (.ref a1), .unset] [(.int (1 : Int32))]))
      refine own_st ?_ (fun t k => XS.istoreN X2.here hx rfl (hb hby d2_19) rfl (l' := #[.val (.ref a0), .val (.ref a1), .val (.int (1 : Int32))]) rfl k)
      show own_G p.tables e below _ _ (T2.setTop (mkF m 20 #[.val (.ref a0), .val (.ref a1), .val (.int (1 : Int32))] []))
      refine own_st ?_ (fun t k => XS.aloadN X2.here hx rfl (hb hby d2_20) rfl rfl k)
      show own_G p.tables e below _ _ (T2.setTop (mkF m 21 #[.val (.ref a0), .val (.ref a1), .val (.int (1 : Int32))] [(.ref a0)]))
      refine own_st ?_ (fun t k => XS.aloadN X2.here hx rfl (hb hby d2_21) rfl rfl k)
      show own_G p.tables e below _ _ (T2.setTop (mkF m 22 #[.val (.ref a0), .val (.ref a1), .val (.int (1 : Int32))] [(.ref a1), (.ref a0)]))
      by_cases ha22 : a0 = a1
      · refine own_st ?_ (fun t k => Jvm.RoadKit.acmp (g := (mkF m 22 #[.val (.ref a0), .val (.ref a1), .val (.int (1 : Int32))] [(.ref a1), (.ref a0)])) X2 hx rfl rfl rfl (pc0 := 22) (pc' := 40) (same := true) rfl (hb hby d2_22) rfl (decide_eq_true (congrArg Value.ref ha22)) (by decide) (by decide) k)
        show own_G p.tables e below _ _ (T2.setTop (mkF m 40 #[.val (.ref a0), .val (.ref a1), .val (.int (1 : Int32))] []))
        refine own_st ?_ (fun t k => XS.iconst X2.here hx rfl (hb hby d2_40) k)
        show own_G p.tables e below _ _ (T2.setTop (mkF m 41 #[.val (.ref a0), .val (.ref a1), .val (.int (1 : Int32))] [(.int (1 : Int32))]))
        refine own_st ?_ (fun t k => XS.goto X2.here hx rfl (pc0 := 41) (pc' := 45) rfl (hb hby d2_41) (by decide) (by decide) k)
        show own_G p.tables e below _ _ (T2.setTop (mkF m 45 #[.val (.ref a0), .val (.ref a1), .val (.int (1 : Int32))] [(.int (1 : Int32))]))
        refine own_retN X2 hx hlk (t := .boolean) hret (by simp) (hb hby d2_45) (by decide) (by decide) (z' := (1 : Int32)) rfl ⟨?_, N0, e2⟩
        rw [show f2 a0 a1 v_rank_a0 v_rank_a1 = (1 : Int32) from (if_pos hc4).trans ((if_pos hc11).trans ((if_pos ha22).trans (rfl)))]
      · refine own_st ?_ (fun t k => Jvm.RoadKit.acmp (g := (mkF m 22 #[.val (.ref a0), .val (.ref a1), .val (.int (1 : Int32))] [(.ref a1), (.ref a0)])) X2 hx rfl rfl rfl (pc0 := 22) (pc' := 25) (same := false) rfl (hb hby d2_22) rfl (decide_eq_false fun q => ha22 (Value.ref.inj q)) (by decide) (by decide) k)
        show own_G p.tables e below _ _ (T2.setTop (mkF m 25 #[.val (.ref a0), .val (.ref a1), .val (.int (1 : Int32))] []))
        refine own_st ?_ (fun t k => XS.iloadN X2.here hx rfl (hb hby d2_25) rfl k)
        show own_G p.tables e below _ _ (T2.setTop (mkF m 26 #[.val (.ref a0), .val (.ref a1), .val (.int (1 : Int32))] [(.int (1 : Int32))]))
        refine own_st ?_ (fun t k => XS.ifNo X2.here hx rfl (hb hby d2_26) rfl ((if0 _ _).trans (feq (by decide : ¬ ((1 : Int32) = (0 : Int32)))).1) k)
        show own_G p.tables e below _ _ (T2.setTop (mkF m 29 #[.val (.ref a0), .val (.ref a1), .val (.int (1 : Int32))] []))
        refine own_st ?_ (fun t k => XS.aloadN X2.here hx rfl (hb hby d2_29) rfl rfl k)
        show own_G p.tables e below _ _ (T2.setTop (mkF m 30 #[.val (.ref a0), .val (.ref a1), .val (.int (1 : Int32))] [(.ref a0)]))
        obtain ⟨T3, X3, e3, st3⟩ := getF X2 hx hZ hown (host := "") (Or.inl (hw _ (List.mem_of_getElem? (i := 15) rfl))) Via.refl e2 F_rank_a0 (g := (mkF m 30 #[.val (.ref a0), .val (.ref a1), .val (.int (1 : Int32))] [(.ref a0)])) rfl rfl (hb hby d2_30)
        refine own_st ?_ st3
        show own_G p.tables e below _ _ (T3.setTop (mkF m 33 #[.val (.ref a0), .val (.ref a1), .val (.int (1 : Int32))] [(.int v_rank_a0)]))
        refine own_st ?_ (fun t k => XS.aloadN X3.here hx rfl (hb hby d2_33) rfl rfl k)
        show own_G p.tables e below _ _ (T3.setTop (mkF m 34 #[.val (.ref a0), .val (.ref a1), .val (.int (1 : Int32))] [(.ref a1), (.int v_rank_a0)]))
        obtain ⟨T4, X4, e4, st4⟩ := getF X3 hx hZ hown (host := "") (Or.inl (hw _ (List.mem_of_getElem? (i := 15) rfl))) Via.refl e3 F_rank_a1 (g := (mkF m 34 #[.val (.ref a0), .val (.ref a1), .val (.int (1 : Int32))] [(.ref a1), (.int v_rank_a0)])) rfl rfl (hb hby d2_34)
        refine own_st ?_ st4
        show own_G p.tables e below _ _ (T4.setTop (mkF m 37 #[.val (.ref a0), .val (.ref a1), .val (.int (1 : Int32))] [(.int v_rank_a1), (.int v_rank_a0)]))
        by_cases hc37 : v_rank_a0 < v_rank_a1
        · refine own_st ?_ (fun t k => XS.icmpYes X4.here hx rfl (pc0 := 37) (pc' := 44) rfl (hb hby d2_37) rfl (tlt hc37).1 (by decide) (by decide) k)
          show own_G p.tables e below _ _ (T4.setTop (mkF m 44 #[.val (.ref a0), .val (.ref a1), .val (.int (1 : Int32))] []))
          refine own_st ?_ (fun t k => XS.iconst X4.here hx rfl (hb hby d2_44) k)
          show own_G p.tables e below _ _ (T4.setTop (mkF m 45 #[.val (.ref a0), .val (.ref a1), .val (.int (1 : Int32))] [(.int (0 : Int32))]))
          refine own_retN X4 hx hlk (t := .boolean) hret (by simp) (hb hby d2_45) (by decide) (by decide) (z' := (0 : Int32)) rfl ⟨?_, N0, e4⟩
          rw [show f2 a0 a1 v_rank_a0 v_rank_a1 = (0 : Int32) from (if_pos hc4).trans ((if_pos hc11).trans ((if_neg ha22).trans ((if_pos hc37).trans (rfl))))]
        · refine own_st ?_ (fun t k => XS.icmpNo X4.here hx rfl (hb hby d2_37) rfl (flt hc37).1 k)
          show own_G p.tables e below _ _ (T4.setTop (mkF m 40 #[.val (.ref a0), .val (.ref a1), .val (.int (1 : Int32))] []))
          refine own_st ?_ (fun t k => XS.iconst X4.here hx rfl (hb hby d2_40) k)
          show own_G p.tables e below _ _ (T4.setTop (mkF m 41 #[.val (.ref a0), .val (.ref a1), .val (.int (1 : Int32))] [(.int (1 : Int32))]))
          refine own_st ?_ (fun t k => XS.goto X4.here hx rfl (pc0 := 41) (pc' := 45) rfl (hb hby d2_41) (by decide) (by decide) k)
          show own_G p.tables e below _ _ (T4.setTop (mkF m 45 #[.val (.ref a0), .val (.ref a1), .val (.int (1 : Int32))] [(.int (1 : Int32))]))
          refine own_retN X4 hx hlk (t := .boolean) hret (by simp) (hb hby d2_45) (by decide) (by decide) (z' := (1 : Int32)) rfl ⟨?_, N0, e4⟩
          rw [show f2 a0 a1 v_rank_a0 v_rank_a1 = (1 : Int32) from (if_pos hc4).trans ((if_pos hc11).trans ((if_neg ha22).trans ((if_neg hc37).trans (rfl))))]
    · refine own_st ?_ (fun t k => XS.ifYes X2.here hx rfl (pc0 := 11) (pc' := 18) rfl (hb hby d2_11) rfl ((if0 _ _).trans (flt hc11).2.2.2) (by decide) (by decide) k)
      show own_G p.tables e below _ _ (T2.setTop (mkF m 18 #[.val (.ref a0), .val (.ref a1), .unset] []))
      refine own_st ?_ (fun t k => XS.iconst X2.here hx rfl (hb hby d2_18) k)
      show own_G p.tables e below _ _ (T2.setTop (mkF m 19 #[.val (.ref a0), .val (.ref a1), .unset] [(.int (0 : Int32))]))
      refine own_st ?_ (fun t k => XS.istoreN X2.here hx rfl (hb hby d2_19) rfl (l' := #[.val (.ref a0), .val (.ref a1), .val (.int (0 : Int32))]) rfl k)
      show own_G p.tables e below _ _ (T2.setTop (mkF m 20 #[.val (.ref a0), .val (.ref a1), .val (.int (0 : Int32))] []))
      refine own_st ?_ (fun t k => XS.aloadN X2.here hx rfl (hb hby d2_20) rfl rfl k)
      show own_G p.tables e below _ _ (T2.setTop (mkF m 21 #[.val (.ref a0), .val (.ref a1), .val (.int (0 : Int32))] [(.ref a0)]))
      refine own_st ?_ (fun t k => XS.aloadN X2.here hx rfl (hb hby d2_21) rfl rfl k)
      show own_G p.tables e below _ _ (T2.setTop (mkF m 22 #[.val (.ref a0), .val (.ref a1), .val (.int (0 : Int32))] [(.ref a1), (.ref a0)]))
      by_cases ha22 : a0 = a1
      · refine own_st ?_ (fun t k => Jvm.RoadKit.acmp (g := (mkF m 22 #[.val (.ref a0), .val (.ref a1), .val (.int (0 : Int32))] [(.ref a1), (.ref a0)])) X2 hx rfl rfl rfl (pc0 := 22) (pc' := 40) (same := true) rfl (hb hby d2_22) rfl (decide_eq_true (congrArg Value.ref ha22)) (by decide) (by decide) k)
        show own_G p.tables e below _ _ (T2.setTop (mkF m 40 #[.val (.ref a0), .val (.ref a1), .val (.int (0 : Int32))] []))
        refine own_st ?_ (fun t k => XS.iconst X2.here hx rfl (hb hby d2_40) k)
        show own_G p.tables e below _ _ (T2.setTop (mkF m 41 #[.val (.ref a0), .val (.ref a1), .val (.int (0 : Int32))] [(.int (1 : Int32))]))
        refine own_st ?_ (fun t k => XS.goto X2.here hx rfl (pc0 := 41) (pc' := 45) rfl (hb hby d2_41) (by decide) (by decide) k)
        show own_G p.tables e below _ _ (T2.setTop (mkF m 45 #[.val (.ref a0), .val (.ref a1), .val (.int (0 : Int32))] [(.int (1 : Int32))]))
        refine own_retN X2 hx hlk (t := .boolean) hret (by simp) (hb hby d2_45) (by decide) (by decide) (z' := (1 : Int32)) rfl ⟨?_, N0, e2⟩
        rw [show f2 a0 a1 v_rank_a0 v_rank_a1 = (1 : Int32) from (if_pos hc4).trans ((if_neg hc11).trans ((if_pos ha22).trans (rfl)))]
      · refine own_st ?_ (fun t k => Jvm.RoadKit.acmp (g := (mkF m 22 #[.val (.ref a0), .val (.ref a1), .val (.int (0 : Int32))] [(.ref a1), (.ref a0)])) X2 hx rfl rfl rfl (pc0 := 22) (pc' := 25) (same := false) rfl (hb hby d2_22) rfl (decide_eq_false fun q => ha22 (Value.ref.inj q)) (by decide) (by decide) k)
        show own_G p.tables e below _ _ (T2.setTop (mkF m 25 #[.val (.ref a0), .val (.ref a1), .val (.int (0 : Int32))] []))
        refine own_st ?_ (fun t k => XS.iloadN X2.here hx rfl (hb hby d2_25) rfl k)
        show own_G p.tables e below _ _ (T2.setTop (mkF m 26 #[.val (.ref a0), .val (.ref a1), .val (.int (0 : Int32))] [(.int (0 : Int32))]))
        refine own_st ?_ (fun t k => XS.ifYes X2.here hx rfl (pc0 := 26) (pc' := 44) rfl (hb hby d2_26) rfl ((if0 _ _).trans (teq (by decide : (0 : Int32) = (0 : Int32))).1) (by decide) (by decide) k)
        show own_G p.tables e below _ _ (T2.setTop (mkF m 44 #[.val (.ref a0), .val (.ref a1), .val (.int (0 : Int32))] []))
        refine own_st ?_ (fun t k => XS.iconst X2.here hx rfl (hb hby d2_44) k)
        show own_G p.tables e below _ _ (T2.setTop (mkF m 45 #[.val (.ref a0), .val (.ref a1), .val (.int (0 : Int32))] [(.int (0 : Int32))]))
        refine own_retN X2 hx hlk (t := .boolean) hret (by simp) (hb hby d2_45) (by decide) (by decide) (z' := (0 : Int32)) rfl ⟨?_, N0, e2⟩
        rw [show f2 a0 a1 v_rank_a0 v_rank_a1 = (0 : Int32) from (if_pos hc4).trans ((if_neg hc11).trans ((if_neg ha22).trans (rfl)))]
  · refine own_st ?_ (fun t k => XS.ifYes X1.here hx rfl (pc0 := 4) (pc' := 18) rfl (hb hby d2_4) rfl ((if0 _ _).trans (flt hc4).2.2.2) (by decide) (by decide) k)
    show own_G p.tables e below _ _ (T1.setTop (mkF m 18 #[.val (.ref a0), .val (.ref a1), .unset] []))
    refine own_st ?_ (fun t k => XS.iconst X1.here hx rfl (hb hby d2_18) k)
    show own_G p.tables e below _ _ (T1.setTop (mkF m 19 #[.val (.ref a0), .val (.ref a1), .unset] [(.int (0 : Int32))]))
    refine own_st ?_ (fun t k => XS.istoreN X1.here hx rfl (hb hby d2_19) rfl (l' := #[.val (.ref a0), .val (.ref a1), .val (.int (0 : Int32))]) rfl k)
    show own_G p.tables e below _ _ (T1.setTop (mkF m 20 #[.val (.ref a0), .val (.ref a1), .val (.int (0 : Int32))] []))
    refine own_st ?_ (fun t k => XS.aloadN X1.here hx rfl (hb hby d2_20) rfl rfl k)
    show own_G p.tables e below _ _ (T1.setTop (mkF m 21 #[.val (.ref a0), .val (.ref a1), .val (.int (0 : Int32))] [(.ref a0)]))
    refine own_st ?_ (fun t k => XS.aloadN X1.here hx rfl (hb hby d2_21) rfl rfl k)
    show own_G p.tables e below _ _ (T1.setTop (mkF m 22 #[.val (.ref a0), .val (.ref a1), .val (.int (0 : Int32))] [(.ref a1), (.ref a0)]))
    by_cases ha22 : a0 = a1
    · refine own_st ?_ (fun t k => Jvm.RoadKit.acmp (g := (mkF m 22 #[.val (.ref a0), .val (.ref a1), .val (.int (0 : Int32))] [(.ref a1), (.ref a0)])) X1 hx rfl rfl rfl (pc0 := 22) (pc' := 40) (same := true) rfl (hb hby d2_22) rfl (decide_eq_true (congrArg Value.ref ha22)) (by decide) (by decide) k)
      show own_G p.tables e below _ _ (T1.setTop (mkF m 40 #[.val (.ref a0), .val (.ref a1), .val (.int (0 : Int32))] []))
      refine own_st ?_ (fun t k => XS.iconst X1.here hx rfl (hb hby d2_40) k)
      show own_G p.tables e below _ _ (T1.setTop (mkF m 41 #[.val (.ref a0), .val (.ref a1), .val (.int (0 : Int32))] [(.int (1 : Int32))]))
      refine own_st ?_ (fun t k => XS.goto X1.here hx rfl (pc0 := 41) (pc' := 45) rfl (hb hby d2_41) (by decide) (by decide) k)
      show own_G p.tables e below _ _ (T1.setTop (mkF m 45 #[.val (.ref a0), .val (.ref a1), .val (.int (0 : Int32))] [(.int (1 : Int32))]))
      refine own_retN X1 hx hlk (t := .boolean) hret (by simp) (hb hby d2_45) (by decide) (by decide) (z' := (1 : Int32)) rfl ⟨?_, N0, e1⟩
      rw [show f2 a0 a1 v_rank_a0 v_rank_a1 = (1 : Int32) from (if_neg hc4).trans ((if_pos ha22).trans (rfl))]
    · refine own_st ?_ (fun t k => Jvm.RoadKit.acmp (g := (mkF m 22 #[.val (.ref a0), .val (.ref a1), .val (.int (0 : Int32))] [(.ref a1), (.ref a0)])) X1 hx rfl rfl rfl (pc0 := 22) (pc' := 25) (same := false) rfl (hb hby d2_22) rfl (decide_eq_false fun q => ha22 (Value.ref.inj q)) (by decide) (by decide) k)
      show own_G p.tables e below _ _ (T1.setTop (mkF m 25 #[.val (.ref a0), .val (.ref a1), .val (.int (0 : Int32))] []))
      refine own_st ?_ (fun t k => XS.iloadN X1.here hx rfl (hb hby d2_25) rfl k)
      show own_G p.tables e below _ _ (T1.setTop (mkF m 26 #[.val (.ref a0), .val (.ref a1), .val (.int (0 : Int32))] [(.int (0 : Int32))]))
      refine own_st ?_ (fun t k => XS.ifYes X1.here hx rfl (pc0 := 26) (pc' := 44) rfl (hb hby d2_26) rfl ((if0 _ _).trans (teq (by decide : (0 : Int32) = (0 : Int32))).1) (by decide) (by decide) k)
      show own_G p.tables e below _ _ (T1.setTop (mkF m 44 #[.val (.ref a0), .val (.ref a1), .val (.int (0 : Int32))] []))
      refine own_st ?_ (fun t k => XS.iconst X1.here hx rfl (hb hby d2_44) k)
      show own_G p.tables e below _ _ (T1.setTop (mkF m 45 #[.val (.ref a0), .val (.ref a1), .val (.int (0 : Int32))] [(.int (0 : Int32))]))
      refine own_retN X1 hx hlk (t := .boolean) hret (by simp) (hb hby d2_45) (by decide) (by decide) (z' := (0 : Int32)) rfl ⟨?_, N0, e1⟩
      rw [show f2 a0 a1 v_rank_a0 v_rank_a1 = (0 : Int32) from (if_neg hc4).trans ((if_neg ha22).trans (rfl))]
theorem own_eqf {args : Array Value} {s : State} {t : Term} {C n d : String} {k : Int32} {w : Addr} (h : (Jvm.Cond.eq (.field t C n d) (.int k)).value args s none s [] = some true) (ev : t.eval args s none [] s = some (.ref w)) : Fld s s.heap w C n d (.int k) := by
  refine Fld.start ?_
  have e := fld_at (C := C) (n := n) (dd := d) ev
  cases hv : s.fieldOf? w C n d with
  | none => simp [Jvm.Cond.value, e, hv] at h
  | some v => cases v <;> simp_all [Jvm.Cond.value, Term.eval]
theorem own_small {n : Nat} {P : Int32 → Prop} (h : ∀ k : Fin n, P (Int32.ofInt (k.1 : Int))) (c : Int32) (h0 : 0 ≤ c.toInt) (h1 : c.toInt < n) : P c := by
  have e : c.toInt = ((c.toInt.toNat : Nat) : Int) := by omega
  have q := h ⟨c.toInt.toNat, by omega⟩
  rw [show (((⟨c.toInt.toNat, by omega⟩ : Fin n).1 : Nat) : Int) = c.toInt from e.symm, Int32.ofInt_toInt] at q
  exact q
def own_rank (p : Int32) : Int32 := (if p = (0 : Int32) then (1 : Int32) else (if p = (1 : Int32) then (2 : Int32) else (if p = (2 : Int32) then (3 : Int32) else (if p = (3 : Int32) then (0 : Int32) else (if p = (4 : Int32) then (0 : Int32) else (0 : Int32))))))
def own_ord (p : Int32) : Int32 := (if p = (0 : Int32) then (0 : Int32) else (if p = (1 : Int32) then (1 : Int32) else (if p = (2 : Int32) then (2 : Int32) else (if p = (3 : Int32) then (3 : Int32) else (if p = (4 : Int32) then (4 : Int32) else (5 : Int32))))))
theorem own_pe {Z : State} {h : Heap} {w_LOW w_SUBSTANTIAL w_HIGH w_NOT_NOTIFIED_LOW w_NOT_NOTIFIED_SUBSTANTIAL w_NOT_NOTIFIED_HIGH : Addr} (E_LOW : Exa Z h w_LOW "com/example/crossgate/crossgate/LevelOfAssurance") (E_SUBSTANTIAL : Exa Z h w_SUBSTANTIAL "com/example/crossgate/crossgate/LevelOfAssurance") (E_HIGH : Exa Z h w_HIGH "com/example/crossgate/crossgate/LevelOfAssurance") (E_NOT_NOTIFIED_LOW : Exa Z h w_NOT_NOTIFIED_LOW "com/example/crossgate/crossgate/LevelOfAssurance") (E_NOT_NOTIFIED_SUBSTANTIAL : Exa Z h w_NOT_NOTIFIED_SUBSTANTIAL "com/example/crossgate/crossgate/LevelOfAssurance") (E_NOT_NOTIFIED_HIGH : Exa Z h w_NOT_NOTIFIED_HIGH "com/example/crossgate/crossgate/LevelOfAssurance") (p : Int32) : Exa Z h (f1 p w_LOW w_SUBSTANTIAL w_HIGH w_NOT_NOTIFIED_LOW w_NOT_NOTIFIED_SUBSTANTIAL w_NOT_NOTIFIED_HIGH) "com/example/crossgate/crossgate/LevelOfAssurance" := by
  unfold f1
  by_cases c0 : p = (0 : Int32)
  · rw [if_pos c0]; exact E_LOW
  · rw [if_neg c0]
    by_cases c1 : p = (1 : Int32)
    · rw [if_pos c1]; exact E_SUBSTANTIAL
    · rw [if_neg c1]
      by_cases c2 : p = (2 : Int32)
      · rw [if_pos c2]; exact E_HIGH
      · rw [if_neg c2]
        by_cases c3 : p = (3 : Int32)
        · rw [if_pos c3]; exact E_NOT_NOTIFIED_LOW
        · rw [if_neg c3]
          by_cases c4 : p = (4 : Int32)
          · rw [if_pos c4]; exact E_NOT_NOTIFIED_SUBSTANTIAL
          · rw [if_neg c4]
            exact E_NOT_NOTIFIED_HIGH
theorem own_pr {Z : State} {h : Heap} {w_LOW w_SUBSTANTIAL w_HIGH w_NOT_NOTIFIED_LOW w_NOT_NOTIFIED_SUBSTANTIAL w_NOT_NOTIFIED_HIGH : Addr} (F_rank_LOW : Fld Z h w_LOW "com/example/crossgate/crossgate/LevelOfAssurance" "rank" "I" (.int 1)) (F_rank_SUBSTANTIAL : Fld Z h w_SUBSTANTIAL "com/example/crossgate/crossgate/LevelOfAssurance" "rank" "I" (.int 2)) (F_rank_HIGH : Fld Z h w_HIGH "com/example/crossgate/crossgate/LevelOfAssurance" "rank" "I" (.int 3)) (F_rank_NOT_NOTIFIED_LOW : Fld Z h w_NOT_NOTIFIED_LOW "com/example/crossgate/crossgate/LevelOfAssurance" "rank" "I" (.int 0)) (F_rank_NOT_NOTIFIED_SUBSTANTIAL : Fld Z h w_NOT_NOTIFIED_SUBSTANTIAL "com/example/crossgate/crossgate/LevelOfAssurance" "rank" "I" (.int 0)) (F_rank_NOT_NOTIFIED_HIGH : Fld Z h w_NOT_NOTIFIED_HIGH "com/example/crossgate/crossgate/LevelOfAssurance" "rank" "I" (.int 0)) (p : Int32) : Fld Z h (f1 p w_LOW w_SUBSTANTIAL w_HIGH w_NOT_NOTIFIED_LOW w_NOT_NOTIFIED_SUBSTANTIAL w_NOT_NOTIFIED_HIGH) "com/example/crossgate/crossgate/LevelOfAssurance" "rank" "I" (.int (own_rank p)) := by
  unfold f1 own_rank
  by_cases c0 : p = (0 : Int32)
  · rw [if_pos c0, if_pos c0]; exact F_rank_LOW
  · rw [if_neg c0, if_neg c0]
    by_cases c1 : p = (1 : Int32)
    · rw [if_pos c1, if_pos c1]; exact F_rank_SUBSTANTIAL
    · rw [if_neg c1, if_neg c1]
      by_cases c2 : p = (2 : Int32)
      · rw [if_pos c2, if_pos c2]; exact F_rank_HIGH
      · rw [if_neg c2, if_neg c2]
        by_cases c3 : p = (3 : Int32)
        · rw [if_pos c3, if_pos c3]; exact F_rank_NOT_NOTIFIED_LOW
        · rw [if_neg c3, if_neg c3]
          by_cases c4 : p = (4 : Int32)
          · rw [if_pos c4, if_pos c4]; exact F_rank_NOT_NOTIFIED_SUBSTANTIAL
          · rw [if_neg c4, if_neg c4]
            exact F_rank_NOT_NOTIFIED_HIGH
theorem own_po {Z : State} {h : Heap} {w_LOW w_SUBSTANTIAL w_HIGH w_NOT_NOTIFIED_LOW w_NOT_NOTIFIED_SUBSTANTIAL w_NOT_NOTIFIED_HIGH : Addr} (F_ordinal_LOW : Fld Z h w_LOW "java/lang/Enum" "ordinal" "I" (.int 0)) (F_ordinal_SUBSTANTIAL : Fld Z h w_SUBSTANTIAL "java/lang/Enum" "ordinal" "I" (.int 1)) (F_ordinal_HIGH : Fld Z h w_HIGH "java/lang/Enum" "ordinal" "I" (.int 2)) (F_ordinal_NOT_NOTIFIED_LOW : Fld Z h w_NOT_NOTIFIED_LOW "java/lang/Enum" "ordinal" "I" (.int 3)) (F_ordinal_NOT_NOTIFIED_SUBSTANTIAL : Fld Z h w_NOT_NOTIFIED_SUBSTANTIAL "java/lang/Enum" "ordinal" "I" (.int 4)) (F_ordinal_NOT_NOTIFIED_HIGH : Fld Z h w_NOT_NOTIFIED_HIGH "java/lang/Enum" "ordinal" "I" (.int 5)) (p : Int32) : Fld Z h (f1 p w_LOW w_SUBSTANTIAL w_HIGH w_NOT_NOTIFIED_LOW w_NOT_NOTIFIED_SUBSTANTIAL w_NOT_NOTIFIED_HIGH) "java/lang/Enum" "ordinal" "I" (.int (own_ord p)) := by
  unfold f1 own_ord
  by_cases c0 : p = (0 : Int32)
  · rw [if_pos c0, if_pos c0]; exact F_ordinal_LOW
  · rw [if_neg c0, if_neg c0]
    by_cases c1 : p = (1 : Int32)
    · rw [if_pos c1, if_pos c1]; exact F_ordinal_SUBSTANTIAL
    · rw [if_neg c1, if_neg c1]
      by_cases c2 : p = (2 : Int32)
      · rw [if_pos c2, if_pos c2]; exact F_ordinal_HIGH
      · rw [if_neg c2, if_neg c2]
        by_cases c3 : p = (3 : Int32)
        · rw [if_pos c3, if_pos c3]; exact F_ordinal_NOT_NOTIFIED_LOW
        · rw [if_neg c3, if_neg c3]
          by_cases c4 : p = (4 : Int32)
          · rw [if_pos c4, if_pos c4]; exact F_ordinal_NOT_NOTIFIED_SUBSTANTIAL
          · rw [if_neg c4, if_neg c4]
            exact F_ordinal_NOT_NOTIFIED_HIGH

theorem pd_0 : parseMethodDescriptor "(I)Lcom/example/crossgate/crossgate/LevelOfAssurance;" = some ⟨[.int], some (.object "com/example/crossgate/crossgate/LevelOfAssurance")⟩ := by decide +kernel
theorem pd_1 : parseMethodDescriptor "(Lcom/example/crossgate/crossgate/LevelOfAssurance;)Z" = some ⟨[(.object "com/example/crossgate/crossgate/LevelOfAssurance")], some .boolean⟩ := by decide +kernel
def f0 (p0 : Int32) (p1 : Int32) (w_LOW : Addr) (w_SUBSTANTIAL : Addr) (w_HIGH : Addr) (w_NOT_NOTIFIED_LOW : Addr) (w_NOT_NOTIFIED_SUBSTANTIAL : Addr) (w_NOT_NOTIFIED_HIGH : Addr) : Int32 := (if ((p0 &&& (2147483647 : Int32)) - ((p0 &&& (2147483647 : Int32)) / (6 : Int32)) * (6 : Int32)) = ((p1 &&& (2147483647 : Int32)) - ((p1 &&& (2147483647 : Int32)) / (6 : Int32)) * (6 : Int32)) then (if (f2 (f1 ((p0 &&& (2147483647 : Int32)) - ((p0 &&& (2147483647 : Int32)) / (6 : Int32)) * (6 : Int32)) w_LOW w_SUBSTANTIAL w_HIGH w_NOT_NOTIFIED_LOW w_NOT_NOTIFIED_SUBSTANTIAL w_NOT_NOTIFIED_HIGH) (f1 ((p1 &&& (2147483647 : Int32)) - ((p1 &&& (2147483647 : Int32)) / (6 : Int32)) * (6 : Int32)) w_LOW w_SUBSTANTIAL w_HIGH w_NOT_NOTIFIED_LOW w_NOT_NOTIFIED_SUBSTANTIAL w_NOT_NOTIFIED_HIGH) (own_rank ((p0 &&& (2147483647 : Int32)) - ((p0 &&& (2147483647 : Int32)) / (6 : Int32)) * (6 : Int32))) (own_rank ((p1 &&& (2147483647 : Int32)) - ((p1 &&& (2147483647 : Int32)) / (6 : Int32)) * (6 : Int32)))) = (1 : Int32) then (1 : Int32) else (0 : Int32)) else (if ((p0 &&& (2147483647 : Int32)) - ((p0 &&& (2147483647 : Int32)) / (6 : Int32)) * (6 : Int32)) < (3 : Int32) then (if ((p1 &&& (2147483647 : Int32)) - ((p1 &&& (2147483647 : Int32)) / (6 : Int32)) * (6 : Int32)) < (3 : Int32) then (if ((p1 &&& (2147483647 : Int32)) - ((p1 &&& (2147483647 : Int32)) / (6 : Int32)) * (6 : Int32)) < ((p0 &&& (2147483647 : Int32)) - ((p0 &&& (2147483647 : Int32)) / (6 : Int32)) * (6 : Int32)) then (if (f2 (f1 ((p0 &&& (2147483647 : Int32)) - ((p0 &&& (2147483647 : Int32)) / (6 : Int32)) * (6 : Int32)) w_LOW w_SUBSTANTIAL w_HIGH w_NOT_NOTIFIED_LOW w_NOT_NOTIFIED_SUBSTANTIAL w_NOT_NOTIFIED_HIGH) (f1 ((p1 &&& (2147483647 : Int32)) - ((p1 &&& (2147483647 : Int32)) / (6 : Int32)) * (6 : Int32)) w_LOW w_SUBSTANTIAL w_HIGH w_NOT_NOTIFIED_LOW w_NOT_NOTIFIED_SUBSTANTIAL w_NOT_NOTIFIED_HIGH) (own_rank ((p0 &&& (2147483647 : Int32)) - ((p0 &&& (2147483647 : Int32)) / (6 : Int32)) * (6 : Int32))) (own_rank ((p1 &&& (2147483647 : Int32)) - ((p1 &&& (2147483647 : Int32)) / (6 : Int32)) * (6 : Int32)))) = (1 : Int32) then (1 : Int32) else (0 : Int32)) else (if (f2 (f1 ((p0 &&& (2147483647 : Int32)) - ((p0 &&& (2147483647 : Int32)) / (6 : Int32)) * (6 : Int32)) w_LOW w_SUBSTANTIAL w_HIGH w_NOT_NOTIFIED_LOW w_NOT_NOTIFIED_SUBSTANTIAL w_NOT_NOTIFIED_HIGH) (f1 ((p1 &&& (2147483647 : Int32)) - ((p1 &&& (2147483647 : Int32)) / (6 : Int32)) * (6 : Int32)) w_LOW w_SUBSTANTIAL w_HIGH w_NOT_NOTIFIED_LOW w_NOT_NOTIFIED_SUBSTANTIAL w_NOT_NOTIFIED_HIGH) (own_rank ((p0 &&& (2147483647 : Int32)) - ((p0 &&& (2147483647 : Int32)) / (6 : Int32)) * (6 : Int32))) (own_rank ((p1 &&& (2147483647 : Int32)) - ((p1 &&& (2147483647 : Int32)) / (6 : Int32)) * (6 : Int32)))) = (0 : Int32) then (1 : Int32) else (0 : Int32))) else (if (f2 (f1 ((p0 &&& (2147483647 : Int32)) - ((p0 &&& (2147483647 : Int32)) / (6 : Int32)) * (6 : Int32)) w_LOW w_SUBSTANTIAL w_HIGH w_NOT_NOTIFIED_LOW w_NOT_NOTIFIED_SUBSTANTIAL w_NOT_NOTIFIED_HIGH) (f1 ((p1 &&& (2147483647 : Int32)) - ((p1 &&& (2147483647 : Int32)) / (6 : Int32)) * (6 : Int32)) w_LOW w_SUBSTANTIAL w_HIGH w_NOT_NOTIFIED_LOW w_NOT_NOTIFIED_SUBSTANTIAL w_NOT_NOTIFIED_HIGH) (own_rank ((p0 &&& (2147483647 : Int32)) - ((p0 &&& (2147483647 : Int32)) / (6 : Int32)) * (6 : Int32))) (own_rank ((p1 &&& (2147483647 : Int32)) - ((p1 &&& (2147483647 : Int32)) / (6 : Int32)) * (6 : Int32)))) = (0 : Int32) then (1 : Int32) else (0 : Int32))) else (if (f2 (f1 ((p0 &&& (2147483647 : Int32)) - ((p0 &&& (2147483647 : Int32)) / (6 : Int32)) * (6 : Int32)) w_LOW w_SUBSTANTIAL w_HIGH w_NOT_NOTIFIED_LOW w_NOT_NOTIFIED_SUBSTANTIAL w_NOT_NOTIFIED_HIGH) (f1 ((p1 &&& (2147483647 : Int32)) - ((p1 &&& (2147483647 : Int32)) / (6 : Int32)) * (6 : Int32)) w_LOW w_SUBSTANTIAL w_HIGH w_NOT_NOTIFIED_LOW w_NOT_NOTIFIED_SUBSTANTIAL w_NOT_NOTIFIED_HIGH) (own_rank ((p0 &&& (2147483647 : Int32)) - ((p0 &&& (2147483647 : Int32)) / (6 : Int32)) * (6 : Int32))) (own_rank ((p1 &&& (2147483647 : Int32)) - ((p1 &&& (2147483647 : Int32)) / (6 : Int32)) * (6 : Int32)))) = (0 : Int32) then (1 : Int32) else (0 : Int32))))
theorem pn_0 : plainName "com/example/crossgate/crossgate/LevelOfAssuranceSatisfiesPinLaw" = true := by first | (simp [plainName, overriddenIn]; done) | decide +kernel
theorem ef_0 (m : MethodId) (p0 : Int32) (p1 : Int32) : entryFrame m #[(.int p0), (.int p1)] maxLocals = mkF m 0 #[.val (.int p0), .val (.int p1), .unset, .unset, .unset, .unset, .unset] [] := by first | (simp [entryFrame, mkF, argsToLocals, Value.category, maxLocals]; done) | rfl
set_option maxRecDepth 65536 in
set_option maxHeartbeats 40000000 in
theorem rm0 (l : Launch) (Z : State) (a0 : Array Value) (hw : ∀ d ∈ tables_1, d.before a0 Z = true) (ws : List Jvm.Cond) (p0 : Int32) (p1 : Int32) (w_LOW : Addr) (w_SUBSTANTIAL : Addr) (w_HIGH : Addr) (w_NOT_NOTIFIED_LOW : Addr) (w_NOT_NOTIFIED_SUBSTANTIAL : Addr) (w_NOT_NOTIFIED_HIGH : Addr) (h0 : Heap) (n0 : Nat) (Z0 : n0 ≤ h0.size) (E_LOW : Exa Z h0 w_LOW "com/example/crossgate/crossgate/LevelOfAssurance") (E_SUBSTANTIAL : Exa Z h0 w_SUBSTANTIAL "com/example/crossgate/crossgate/LevelOfAssurance") (E_HIGH : Exa Z h0 w_HIGH "com/example/crossgate/crossgate/LevelOfAssurance") (E_NOT_NOTIFIED_LOW : Exa Z h0 w_NOT_NOTIFIED_LOW "com/example/crossgate/crossgate/LevelOfAssurance") (E_NOT_NOTIFIED_SUBSTANTIAL : Exa Z h0 w_NOT_NOTIFIED_SUBSTANTIAL "com/example/crossgate/crossgate/LevelOfAssurance") (E_NOT_NOTIFIED_HIGH : Exa Z h0 w_NOT_NOTIFIED_HIGH "com/example/crossgate/crossgate/LevelOfAssurance") (F_rank_LOW : Fld Z h0 w_LOW "com/example/crossgate/crossgate/LevelOfAssurance" "rank" "I" (.int 1)) (F_rank_SUBSTANTIAL : Fld Z h0 w_SUBSTANTIAL "com/example/crossgate/crossgate/LevelOfAssurance" "rank" "I" (.int 2)) (F_rank_HIGH : Fld Z h0 w_HIGH "com/example/crossgate/crossgate/LevelOfAssurance" "rank" "I" (.int 3)) (F_rank_NOT_NOTIFIED_LOW : Fld Z h0 w_NOT_NOTIFIED_LOW "com/example/crossgate/crossgate/LevelOfAssurance" "rank" "I" (.int 0)) (F_rank_NOT_NOTIFIED_SUBSTANTIAL : Fld Z h0 w_NOT_NOTIFIED_SUBSTANTIAL "com/example/crossgate/crossgate/LevelOfAssurance" "rank" "I" (.int 0)) (F_rank_NOT_NOTIFIED_HIGH : Fld Z h0 w_NOT_NOTIFIED_HIGH "com/example/crossgate/crossgate/LevelOfAssurance" "rank" "I" (.int 0)) (S_LOW : Sta Z h0 "com/example/crossgate/crossgate/LevelOfAssurance" "LOW" "Lcom/example/crossgate/crossgate/LevelOfAssurance;" (.ref w_LOW)) (S_SUBSTANTIAL : Sta Z h0 "com/example/crossgate/crossgate/LevelOfAssurance" "SUBSTANTIAL" "Lcom/example/crossgate/crossgate/LevelOfAssurance;" (.ref w_SUBSTANTIAL)) (S_HIGH : Sta Z h0 "com/example/crossgate/crossgate/LevelOfAssurance" "HIGH" "Lcom/example/crossgate/crossgate/LevelOfAssurance;" (.ref w_HIGH)) (S_NOT_NOTIFIED_LOW : Sta Z h0 "com/example/crossgate/crossgate/LevelOfAssurance" "NOT_NOTIFIED_LOW" "Lcom/example/crossgate/crossgate/LevelOfAssurance;" (.ref w_NOT_NOTIFIED_LOW)) (S_NOT_NOTIFIED_SUBSTANTIAL : Sta Z h0 "com/example/crossgate/crossgate/LevelOfAssurance" "NOT_NOTIFIED_SUBSTANTIAL" "Lcom/example/crossgate/crossgate/LevelOfAssurance;" (.ref w_NOT_NOTIFIED_SUBSTANTIAL)) (S_NOT_NOTIFIED_HIGH : Sta Z h0 "com/example/crossgate/crossgate/LevelOfAssurance" "NOT_NOTIFIED_HIGH" "Lcom/example/crossgate/crossgate/LevelOfAssurance;" (.ref w_NOT_NOTIFIED_HIGH)) :
    MetFree l x (head1 (Jvm.Cond.code x code maxLocals ret :: ws) room_1) (fun a U => a = #[(.int p0), (.int p1)] ∧ Z.Warmed39 U.vm ∧ U.heap = h0) (fun _ _ _ _ _ => True) (fun _ U o U' => ∃ v L, o = .returned v ∧ own_QV (.int (f0 p0 p1 w_LOW w_SUBSTANTIAL w_HIGH w_NOT_NOTIFIED_LOW w_NOT_NOTIFIED_SUBSTANTIAL w_NOT_NOTIFIED_HIGH)) h0 n0 v U'.heap L ∧ FrameEnd U o U' L room_1.cells room_1.slots) := by
  refine MetFree.of_bodySF (plainFor_of_name pn_0) hisR ?_
  intro p e s m args below meth c s₁ Bd hml0 hP hK
  obtain ⟨rfl, hZ, hh⟩ := hP
  have hx := Bd.exec
  have hby := Bd.bytes
  have hlk : meth.locks = false := BodyLoose.notSynchronized Bd
  have hret := Bd.returns
  have hml : c.maxLocals = 7 := hml0
  have hown : s.vm.findClass "com/example/crossgate/crossgate/LevelOfAssuranceSatisfiesPinLaw" = some m.cls := findClass_of_methodNamed Bd.named
  have hnm := (name_of_methodNamed Bd.named Bd.method).1
  have X0 : Stand p l e room_1 s m #[(.int p0), (.int p1)] below meth c s₁ [] 0 0 := Stand.of_body Bd
  have e0 : s₁.heap = h0 := by rw [← hh, Bd.state]; rfl
  have N0 := Fr.nil n0
  show own_G p.tables e below (own_E s room_1.cells room_1.slots) (own_QV (.int (f0 p0 p1 w_LOW w_SUBSTANTIAL w_HIGH w_NOT_NOTIFIED_LOW w_NOT_NOTIFIED_SUBSTANTIAL w_NOT_NOTIFIED_HIGH)) h0 n0) (s₁.setTop (entryFrame m #[(.int p0), (.int p1)] maxLocals))
  refine own_st ?_ (fun t k => castTop (ef_0 m p0 p1) k)
  show own_G p.tables e below _ _ (s₁.setTop (mkF m 0 #[.val (.int p0), .val (.int p1), .unset, .unset, .unset, .unset, .unset] []))
  refine own_st ?_ (fun t k => XS.iloadN X0.here hx rfl (hb hby at_0) rfl k)
  show own_G p.tables e below _ _ (s₁.setTop (mkF m 1 #[.val (.int p0), .val (.int p1), .unset, .unset, .unset, .unset, .unset] [(.int p0)]))
  refine own_st ?_ (X0.ldcInt hx hown (mvT hZ (hw _ (List.mem_of_getElem? (i := 0) rfl))) (g := (mkF m 1 #[.val (.int p0), .val (.int p1), .unset, .unset, .unset, .unset, .unset] [(.int p0)])) rfl (hb hby at_1))
  show own_G p.tables e below _ _ (s₁.setTop (mkF m 3 #[.val (.int p0), .val (.int p1), .unset, .unset, .unset, .unset, .unset] [(.int (2147483647 : Int32)), (.int p0)]))
  refine own_st ?_ (fun t k => XS.iand X0.here hx rfl (hb hby at_3) rfl k)
  show own_G p.tables e below _ _ (s₁.setTop (mkF m 4 #[.val (.int p0), .val (.int p1), .unset, .unset, .unset, .unset, .unset] [(.int (p0 &&& (2147483647 : Int32)))]))
  refine own_st ?_ (fun t k => XS.bipush X0.here hx rfl (hb hby at_4) k)
  show own_G p.tables e below _ _ (s₁.setTop (mkF m 6 #[.val (.int p0), .val (.int p1), .unset, .unset, .unset, .unset, .unset] [(.int (6 : Int32)), (.int (p0 &&& (2147483647 : Int32)))]))
  refine own_st ?_ (fun t k => XS.irem X0.here hx rfl (hb hby at_6) rfl (by decide) k)
  show own_G p.tables e below _ _ (s₁.setTop (mkF m 7 #[.val (.int p0), .val (.int p1), .unset, .unset, .unset, .unset, .unset] [(.int ((p0 &&& (2147483647 : Int32)) - ((p0 &&& (2147483647 : Int32)) / (6 : Int32)) * (6 : Int32)))]))
  refine own_st ?_ (fun t k => XS.istoreN X0.here hx rfl (hb hby at_7) rfl (l' := #[.val (.int p0), .val (.int p1), .val (.int ((p0 &&& (2147483647 : Int32)) - ((p0 &&& (2147483647 : Int32)) / (6 : Int32)) * (6 : Int32))), .unset, .unset, .unset, .unset]) rfl k)
  show own_G p.tables e below _ _ (s₁.setTop (mkF m 8 #[.val (.int p0), .val (.int p1), .val (.int ((p0 &&& (2147483647 : Int32)) - ((p0 &&& (2147483647 : Int32)) / (6 : Int32)) * (6 : Int32))), .unset, .unset, .unset, .unset] []))
  refine own_st ?_ (fun t k => XS.iloadN X0.here hx rfl (hb hby at_8) rfl k)
  show own_G p.tables e below _ _ (s₁.setTop (mkF m 9 #[.val (.int p0), .val (.int p1), .val (.int ((p0 &&& (2147483647 : Int32)) - ((p0 &&& (2147483647 : Int32)) / (6 : Int32)) * (6 : Int32))), .unset, .unset, .unset, .unset] [(.int p1)]))
  refine own_st ?_ (X0.ldcInt hx hown (mvT hZ (hw _ (List.mem_of_getElem? (i := 0) rfl))) (g := (mkF m 9 #[.val (.int p0), .val (.int p1), .val (.int ((p0 &&& (2147483647 : Int32)) - ((p0 &&& (2147483647 : Int32)) / (6 : Int32)) * (6 : Int32))), .unset, .unset, .unset, .unset] [(.int p1)])) rfl (hb hby at_9))
  show own_G p.tables e below _ _ (s₁.setTop (mkF m 11 #[.val (.int p0), .val (.int p1), .val (.int ((p0 &&& (2147483647 : Int32)) - ((p0 &&& (2147483647 : Int32)) / (6 : Int32)) * (6 : Int32))), .unset, .unset, .unset, .unset] [(.int (2147483647 : Int32)), (.int p1)]))
  refine own_st ?_ (fun t k => XS.iand X0.here hx rfl (hb hby at_11) rfl k)
  show own_G p.tables e below _ _ (s₁.setTop (mkF m 12 #[.val (.int p0), .val (.int p1), .val (.int ((p0 &&& (2147483647 : Int32)) - ((p0 &&& (2147483647 : Int32)) / (6 : Int32)) * (6 : Int32))), .unset, .unset, .unset, .unset] [(.int (p1 &&& (2147483647 : Int32)))]))
  refine own_st ?_ (fun t k => XS.bipush X0.here hx rfl (hb hby at_12) k)
  show own_G p.tables e below _ _ (s₁.setTop (mkF m 14 #[.val (.int p0), .val (.int p1), .val (.int ((p0 &&& (2147483647 : Int32)) - ((p0 &&& (2147483647 : Int32)) / (6 : Int32)) * (6 : Int32))), .unset, .unset, .unset, .unset] [(.int (6 : Int32)), (.int (p1 &&& (2147483647 : Int32)))]))
  refine own_st ?_ (fun t k => XS.irem X0.here hx rfl (hb hby at_14) rfl (by decide) k)
  show own_G p.tables e below _ _ (s₁.setTop (mkF m 15 #[.val (.int p0), .val (.int p1), .val (.int ((p0 &&& (2147483647 : Int32)) - ((p0 &&& (2147483647 : Int32)) / (6 : Int32)) * (6 : Int32))), .unset, .unset, .unset, .unset] [(.int ((p1 &&& (2147483647 : Int32)) - ((p1 &&& (2147483647 : Int32)) / (6 : Int32)) * (6 : Int32)))]))
  refine own_st ?_ (fun t k => XS.istoreN X0.here hx rfl (hb hby at_15) rfl (l' := #[.val (.int p0), .val (.int p1), .val (.int ((p0 &&& (2147483647 : Int32)) - ((p0 &&& (2147483647 : Int32)) / (6 : Int32)) * (6 : Int32))), .val (.int ((p1 &&& (2147483647 : Int32)) - ((p1 &&& (2147483647 : Int32)) / (6 : Int32)) * (6 : Int32))), .unset, .unset, .unset]) rfl k)
  show own_G p.tables e below _ _ (s₁.setTop (mkF m 16 #[.val (.int p0), .val (.int p1), .val (.int ((p0 &&& (2147483647 : Int32)) - ((p0 &&& (2147483647 : Int32)) / (6 : Int32)) * (6 : Int32))), .val (.int ((p1 &&& (2147483647 : Int32)) - ((p1 &&& (2147483647 : Int32)) / (6 : Int32)) * (6 : Int32))), .unset, .unset, .unset] []))
  refine own_st ?_ (fun t k => XS.iloadN X0.here hx rfl (hb hby at_16) rfl k)
  show own_G p.tables e below _ _ (s₁.setTop (mkF m 17 #[.val (.int p0), .val (.int p1), .val (.int ((p0 &&& (2147483647 : Int32)) - ((p0 &&& (2147483647 : Int32)) / (6 : Int32)) * (6 : Int32))), .val (.int ((p1 &&& (2147483647 : Int32)) - ((p1 &&& (2147483647 : Int32)) / (6 : Int32)) * (6 : Int32))), .unset, .unset, .unset] [(.int ((p0 &&& (2147483647 : Int32)) - ((p0 &&& (2147483647 : Int32)) / (6 : Int32)) * (6 : Int32)))]))
  obtain ⟨_, _, ⟨T1, L1, k1, n1⟩, -, X1, ⟨Lc1, hQ1, l1, y1, z1⟩, st1⟩ := Jvm.LawKit.callS X0 hx (y := (⟨"com/example/crossgate/crossgate/LevelOfAssuranceSatisfiesPinLaw", "pick", "(I)Lcom/example/crossgate/crossgate/LevelOfAssurance;"⟩ : MethodName)) hown (mvT hZ (hw _ (List.mem_of_getElem? (i := 1) rfl))) (mvT hZ (hw _ (List.mem_of_getElem? (i := 2) rfl))) (mvT hZ (hw _ (List.mem_of_getElem? (i := 3) rfl))) (mvT hZ (hw _ (List.mem_of_getElem? (i := 4) rfl))) (by decide) (backOf (W := 0) (rm1 l Z _ hw [] ((p0 &&& (2147483647 : Int32)) - ((p0 &&& (2147483647 : Int32)) / (6 : Int32)) * (6 : Int32)) w_LOW w_SUBSTANTIAL w_HIGH w_NOT_NOTIFIED_LOW w_NOT_NOTIFIED_SUBSTANTIAL w_NOT_NOTIFIED_HIGH h0 n0 Z0 S_LOW S_SUBSTANTIAL S_HIGH S_NOT_NOTIFIED_LOW S_NOT_NOTIFIED_SUBSTANTIAL S_NOT_NOTIFIED_HIGH) hZ (hw _ (List.mem_of_getElem? (i := 4) rfl)) (hw _ (List.mem_of_getElem? (i := 3) rfl)) (by decide) (by decide)) (g := (mkF m 17 #[.val (.int p0), .val (.int p1), .val (.int ((p0 &&& (2147483647 : Int32)) - ((p0 &&& (2147483647 : Int32)) / (6 : Int32)) * (6 : Int32))), .val (.int ((p1 &&& (2147483647 : Int32)) - ((p1 &&& (2147483647 : Int32)) / (6 : Int32)) * (6 : Int32))), .unset, .unset, .unset] [(.int ((p0 &&& (2147483647 : Int32)) - ((p0 &&& (2147483647 : Int32)) / (6 : Int32)) * (6 : Int32)))])) rfl (by rw [hml]; rfl) (argsL := [(.int ((p0 &&& (2147483647 : Int32)) - ((p0 &&& (2147483647 : Int32)) / (6 : Int32)) * (6 : Int32)))]) (rest := []) (lenOf pd_0 rfl) rfl (by show 2 * 0 + _ ≤ _; exact Nat.le_of_eq rfl) (hb hby at_17) (fun _ _ => ⟨rfl, e0, (by decide : 0 + 0 ≤ _), (by decide : 0 + 0 ≤ _)⟩)
  dsimp only [Pt.U, Pt.locs, Pt.cells, Pt.slots] at X1 l1 y1 z1 st1 hQ1
  subst l1 y1 z1
  obtain ⟨rfl, N1q, e1⟩ := hQ1
  have N1 := Fr.app N0 N1q
  refine own_st ?_ st1
  show own_G p.tables e below _ _ (T1.setTop (mkF m 20 #[.val (.int p0), .val (.int p1), .val (.int ((p0 &&& (2147483647 : Int32)) - ((p0 &&& (2147483647 : Int32)) / (6 : Int32)) * (6 : Int32))), .val (.int ((p1 &&& (2147483647 : Int32)) - ((p1 &&& (2147483647 : Int32)) / (6 : Int32)) * (6 : Int32))), .unset, .unset, .unset] [(.ref (f1 ((p0 &&& (2147483647 : Int32)) - ((p0 &&& (2147483647 : Int32)) / (6 : Int32)) * (6 : Int32)) w_LOW w_SUBSTANTIAL w_HIGH w_NOT_NOTIFIED_LOW w_NOT_NOTIFIED_SUBSTANTIAL w_NOT_NOTIFIED_HIGH))]))
  refine own_st ?_ (fun t k => XS.astore X1.here hx rfl (hb hby at_20) rfl rfl (l' := #[.val (.int p0), .val (.int p1), .val (.int ((p0 &&& (2147483647 : Int32)) - ((p0 &&& (2147483647 : Int32)) / (6 : Int32)) * (6 : Int32))), .val (.int ((p1 &&& (2147483647 : Int32)) - ((p1 &&& (2147483647 : Int32)) / (6 : Int32)) * (6 : Int32))), .val (.ref (f1 ((p0 &&& (2147483647 : Int32)) - ((p0 &&& (2147483647 : Int32)) / (6 : Int32)) * (6 : Int32)) w_LOW w_SUBSTANTIAL w_HIGH w_NOT_NOTIFIED_LOW w_NOT_NOTIFIED_SUBSTANTIAL w_NOT_NOTIFIED_HIGH)), .unset, .unset]) rfl k)
  show own_G p.tables e below _ _ (T1.setTop (mkF m 22 #[.val (.int p0), .val (.int p1), .val (.int ((p0 &&& (2147483647 : Int32)) - ((p0 &&& (2147483647 : Int32)) / (6 : Int32)) * (6 : Int32))), .val (.int ((p1 &&& (2147483647 : Int32)) - ((p1 &&& (2147483647 : Int32)) / (6 : Int32)) * (6 : Int32))), .val (.ref (f1 ((p0 &&& (2147483647 : Int32)) - ((p0 &&& (2147483647 : Int32)) / (6 : Int32)) * (6 : Int32)) w_LOW w_SUBSTANTIAL w_HIGH w_NOT_NOTIFIED_LOW w_NOT_NOTIFIED_SUBSTANTIAL w_NOT_NOTIFIED_HIGH)), .unset, .unset] []))
  refine own_st ?_ (fun t k => XS.iloadN X1.here hx rfl (hb hby at_22) rfl k)
  show own_G p.tables e below _ _ (T1.setTop (mkF m 23 #[.val (.int p0), .val (.int p1), .val (.int ((p0 &&& (2147483647 : Int32)) - ((p0 &&& (2147483647 : Int32)) / (6 : Int32)) * (6 : Int32))), .val (.int ((p1 &&& (2147483647 : Int32)) - ((p1 &&& (2147483647 : Int32)) / (6 : Int32)) * (6 : Int32))), .val (.ref (f1 ((p0 &&& (2147483647 : Int32)) - ((p0 &&& (2147483647 : Int32)) / (6 : Int32)) * (6 : Int32)) w_LOW w_SUBSTANTIAL w_HIGH w_NOT_NOTIFIED_LOW w_NOT_NOTIFIED_SUBSTANTIAL w_NOT_NOTIFIED_HIGH)), .unset, .unset] [(.int ((p1 &&& (2147483647 : Int32)) - ((p1 &&& (2147483647 : Int32)) / (6 : Int32)) * (6 : Int32)))]))
  obtain ⟨_, _, ⟨T2, L2, k2, n2⟩, -, X2, ⟨Lc2, hQ2, l2, y2, z2⟩, st2⟩ := Jvm.LawKit.callS X1 hx (y := (⟨"com/example/crossgate/crossgate/LevelOfAssuranceSatisfiesPinLaw", "pick", "(I)Lcom/example/crossgate/crossgate/LevelOfAssurance;"⟩ : MethodName)) hown (mvT hZ (hw _ (List.mem_of_getElem? (i := 1) rfl))) (mvT hZ (hw _ (List.mem_of_getElem? (i := 2) rfl))) (mvT hZ (hw _ (List.mem_of_getElem? (i := 3) rfl))) (mvT hZ (hw _ (List.mem_of_getElem? (i := 4) rfl))) (by decide) (backOf (W := 0) (rm1 l Z _ hw [] ((p1 &&& (2147483647 : Int32)) - ((p1 &&& (2147483647 : Int32)) / (6 : Int32)) * (6 : Int32)) w_LOW w_SUBSTANTIAL w_HIGH w_NOT_NOTIFIED_LOW w_NOT_NOTIFIED_SUBSTANTIAL w_NOT_NOTIFIED_HIGH h0 n0 Z0 S_LOW S_SUBSTANTIAL S_HIGH S_NOT_NOTIFIED_LOW S_NOT_NOTIFIED_SUBSTANTIAL S_NOT_NOTIFIED_HIGH) hZ (hw _ (List.mem_of_getElem? (i := 4) rfl)) (hw _ (List.mem_of_getElem? (i := 3) rfl)) (by decide) (by decide)) (g := (mkF m 23 #[.val (.int p0), .val (.int p1), .val (.int ((p0 &&& (2147483647 : Int32)) - ((p0 &&& (2147483647 : Int32)) / (6 : Int32)) * (6 : Int32))), .val (.int ((p1 &&& (2147483647 : Int32)) - ((p1 &&& (2147483647 : Int32)) / (6 : Int32)) * (6 : Int32))), .val (.ref (f1 ((p0 &&& (2147483647 : Int32)) - ((p0 &&& (2147483647 : Int32)) / (6 : Int32)) * (6 : Int32)) w_LOW w_SUBSTANTIAL w_HIGH w_NOT_NOTIFIED_LOW w_NOT_NOTIFIED_SUBSTANTIAL w_NOT_NOTIFIED_HIGH)), .unset, .unset] [(.int ((p1 &&& (2147483647 : Int32)) - ((p1 &&& (2147483647 : Int32)) / (6 : Int32)) * (6 : Int32)))])) rfl (by rw [hml]; rfl) (argsL := [(.int ((p1 &&& (2147483647 : Int32)) - ((p1 &&& (2147483647 : Int32)) / (6 : Int32)) * (6 : Int32)))]) (rest := []) (lenOf pd_0 rfl) rfl (by show 2 * 0 + _ ≤ _; exact Nat.le_of_eq rfl) (hb hby at_23) (fun _ _ => ⟨rfl, e1, (by decide : 0 + 0 ≤ _), (by decide : 0 + 0 ≤ _)⟩)
  dsimp only [Pt.U, Pt.locs, Pt.cells, Pt.slots] at X2 l2 y2 z2 st2 hQ2
  subst l2 y2 z2
  obtain ⟨rfl, N2q, e2⟩ := hQ2
  have N2 := Fr.app N1 N2q
  refine own_st ?_ st2
  show own_G p.tables e below _ _ (T2.setTop (mkF m 26 #[.val (.int p0), .val (.int p1), .val (.int ((p0 &&& (2147483647 : Int32)) - ((p0 &&& (2147483647 : Int32)) / (6 : Int32)) * (6 : Int32))), .val (.int ((p1 &&& (2147483647 : Int32)) - ((p1 &&& (2147483647 : Int32)) / (6 : Int32)) * (6 : Int32))), .val (.ref (f1 ((p0 &&& (2147483647 : Int32)) - ((p0 &&& (2147483647 : Int32)) / (6 : Int32)) * (6 : Int32)) w_LOW w_SUBSTANTIAL w_HIGH w_NOT_NOTIFIED_LOW w_NOT_NOTIFIED_SUBSTANTIAL w_NOT_NOTIFIED_HIGH)), .unset, .unset] [(.ref (f1 ((p1 &&& (2147483647 : Int32)) - ((p1 &&& (2147483647 : Int32)) / (6 : Int32)) * (6 : Int32)) w_LOW w_SUBSTANTIAL w_HIGH w_NOT_NOTIFIED_LOW w_NOT_NOTIFIED_SUBSTANTIAL w_NOT_NOTIFIED_HIGH))]))
  refine own_st ?_ (fun t k => XS.astore X2.here hx rfl (hb hby at_26) rfl rfl (l' := #[.val (.int p0), .val (.int p1), .val (.int ((p0 &&& (2147483647 : Int32)) - ((p0 &&& (2147483647 : Int32)) / (6 : Int32)) * (6 : Int32))), .val (.int ((p1 &&& (2147483647 : Int32)) - ((p1 &&& (2147483647 : Int32)) / (6 : Int32)) * (6 : Int32))), .val (.ref (f1 ((p0 &&& (2147483647 : Int32)) - ((p0 &&& (2147483647 : Int32)) / (6 : Int32)) * (6 : Int32)) w_LOW w_SUBSTANTIAL w_HIGH w_NOT_NOTIFIED_LOW w_NOT_NOTIFIED_SUBSTANTIAL w_NOT_NOTIFIED_HIGH)), .val (.ref (f1 ((p1 &&& (2147483647 : Int32)) - ((p1 &&& (2147483647 : Int32)) / (6 : Int32)) * (6 : Int32)) w_LOW w_SUBSTANTIAL w_HIGH w_NOT_NOTIFIED_LOW w_NOT_NOTIFIED_SUBSTANTIAL w_NOT_NOTIFIED_HIGH)), .unset]) rfl k)
  show own_G p.tables e below _ _ (T2.setTop (mkF m 28 #[.val (.int p0), .val (.int p1), .val (.int ((p0 &&& (2147483647 : Int32)) - ((p0 &&& (2147483647 : Int32)) / (6 : Int32)) * (6 : Int32))), .val (.int ((p1 &&& (2147483647 : Int32)) - ((p1 &&& (2147483647 : Int32)) / (6 : Int32)) * (6 : Int32))), .val (.ref (f1 ((p0 &&& (2147483647 : Int32)) - ((p0 &&& (2147483647 : Int32)) / (6 : Int32)) * (6 : Int32)) w_LOW w_SUBSTANTIAL w_HIGH w_NOT_NOTIFIED_LOW w_NOT_NOTIFIED_SUBSTANTIAL w_NOT_NOTIFIED_HIGH)), .val (.ref (f1 ((p1 &&& (2147483647 : Int32)) - ((p1 &&& (2147483647 : Int32)) / (6 : Int32)) * (6 : Int32)) w_LOW w_SUBSTANTIAL w_HIGH w_NOT_NOTIFIED_LOW w_NOT_NOTIFIED_SUBSTANTIAL w_NOT_NOTIFIED_HIGH)), .unset] []))
  refine own_st ?_ (fun t k => XS.iloadN X2.here hx rfl (hb hby at_28) rfl k)
  show own_G p.tables e below _ _ (T2.setTop (mkF m 29 #[.val (.int p0), .val (.int p1), .val (.int ((p0 &&& (2147483647 : Int32)) - ((p0 &&& (2147483647 : Int32)) / (6 : Int32)) * (6 : Int32))), .val (.int ((p1 &&& (2147483647 : Int32)) - ((p1 &&& (2147483647 : Int32)) / (6 : Int32)) * (6 : Int32))), .val (.ref (f1 ((p0 &&& (2147483647 : Int32)) - ((p0 &&& (2147483647 : Int32)) / (6 : Int32)) * (6 : Int32)) w_LOW w_SUBSTANTIAL w_HIGH w_NOT_NOTIFIED_LOW w_NOT_NOTIFIED_SUBSTANTIAL w_NOT_NOTIFIED_HIGH)), .val (.ref (f1 ((p1 &&& (2147483647 : Int32)) - ((p1 &&& (2147483647 : Int32)) / (6 : Int32)) * (6 : Int32)) w_LOW w_SUBSTANTIAL w_HIGH w_NOT_NOTIFIED_LOW w_NOT_NOTIFIED_SUBSTANTIAL w_NOT_NOTIFIED_HIGH)), .unset] [(.int ((p0 &&& (2147483647 : Int32)) - ((p0 &&& (2147483647 : Int32)) / (6 : Int32)) * (6 : Int32)))]))
  refine own_st ?_ (fun t k => XS.iloadN X2.here hx rfl (hb hby at_29) rfl k)
  show own_G p.tables e below _ _ (T2.setTop (mkF m 30 #[.val (.int p0), .val (.int p1), .val (.int ((p0 &&& (2147483647 : Int32)) - ((p0 &&& (2147483647 : Int32)) / (6 : Int32)) * (6 : Int32))), .val (.int ((p1 &&& (2147483647 : Int32)) - ((p1 &&& (2147483647 : Int32)) / (6 : Int32)) * (6 : Int32))), .val (.ref (f1 ((p0 &&& (2147483647 : Int32)) - ((p0 &&& (2147483647 : Int32)) / (6 : Int32)) * (6 : Int32)) w_LOW w_SUBSTANTIAL w_HIGH w_NOT_NOTIFIED_LOW w_NOT_NOTIFIED_SUBSTANTIAL w_NOT_NOTIFIED_HIGH)), .val (.ref (f1 ((p1 &&& (2147483647 : Int32)) - ((p1 &&& (2147483647 : Int32)) / (6 : Int32)) * (6 : Int32)) w_LOW w_SUBSTANTIAL w_HIGH w_NOT_NOTIFIED_LOW w_NOT_NOTIFIED_SUBSTANTIAL w_NOT_NOTIFIED_HIGH)), .unset] [(.int ((p1 &&& (2147483647 : Int32)) - ((p1 &&& (2147483647 : Int32)) / (6 : Int32)) * (6 : Int32))), (.int ((p0 &&& (2147483647 : Int32)) - ((p0 &&& (2147483647 : Int32)) / (6 : Int32)) * (6 : Int32)))]))
  by_cases hc30 : ((p0 &&& (2147483647 : Int32)) - ((p0 &&& (2147483647 : Int32)) / (6 : Int32)) * (6 : Int32)) = ((p1 &&& (2147483647 : Int32)) - ((p1 &&& (2147483647 : Int32)) / (6 : Int32)) * (6 : Int32))
  · refine own_st ?_ (fun t k => XS.icmpNo X2.here hx rfl (hb hby at_30) rfl (teq hc30).2 k)
    show own_G p.tables e below _ _ (T2.setTop (mkF m 33 #[.val (.int p0), .val (.int p1), .val (.int ((p0 &&& (2147483647 : Int32)) - ((p0 &&& (2147483647 : Int32)) / (6 : Int32)) * (6 : Int32))), .val (.int ((p1 &&& (2147483647 : Int32)) - ((p1 &&& (2147483647 : Int32)) / (6 : Int32)) * (6 : Int32))), .val (.ref (f1 ((p0 &&& (2147483647 : Int32)) - ((p0 &&& (2147483647 : Int32)) / (6 : Int32)) * (6 : Int32)) w_LOW w_SUBSTANTIAL w_HIGH w_NOT_NOTIFIED_LOW w_NOT_NOTIFIED_SUBSTANTIAL w_NOT_NOTIFIED_HIGH)), .val (.ref (f1 ((p1 &&& (2147483647 : Int32)) - ((p1 &&& (2147483647 : Int32)) / (6 : Int32)) * (6 : Int32)) w_LOW w_SUBSTANTIAL w_HIGH w_NOT_NOTIFIED_LOW w_NOT_NOTIFIED_SUBSTANTIAL w_NOT_NOTIFIED_HIGH)), .unset] []))
    refine own_st ?_ (fun t k => XS.iconst X2.here hx rfl (hb hby at_33) k)
    show own_G p.tables e below _ _ (T2.setTop (mkF m 34 #[.val (.int p0), .val (.int p1), .val (.int ((p0 &&& (2147483647 : Int32)) - ((p0 &&& (2147483647 : Int32)) / (6 : Int32)) * (6 : Int32))), .val (.int ((p1 &&& (2147483647 : Int32)) - ((p1 &&& (2147483647 : Int32)) / (6 : Int32)) * (6 : Int32))), .val (.ref (f1 ((p0 &&& (2147483647 : Int32)) - ((p0 &&& (2147483647 : Int32)) / (6 : Int32)) * (6 : Int32)) w_LOW w_SUBSTANTIAL w_HIGH w_NOT_NOTIFIED_LOW w_NOT_NOTIFIED_SUBSTANTIAL w_NOT_NOTIFIED_HIGH)), .val (.ref (f1 ((p1 &&& (2147483647 : Int32)) - ((p1 &&& (2147483647 : Int32)) / (6 : Int32)) * (6 : Int32)) w_LOW w_SUBSTANTIAL w_HIGH w_NOT_NOTIFIED_LOW w_NOT_NOTIFIED_SUBSTANTIAL w_NOT_NOTIFIED_HIGH)), .unset] [(.int (1 : Int32))]))
    refine own_st ?_ (fun t k => XS.istore X2.here hx rfl (hb hby at_34) rfl (l' := #[.val (.int p0), .val (.int p1), .val (.int ((p0 &&& (2147483647 : Int32)) - ((p0 &&& (2147483647 : Int32)) / (6 : Int32)) * (6 : Int32))), .val (.int ((p1 &&& (2147483647 : Int32)) - ((p1 &&& (2147483647 : Int32)) / (6 : Int32)) * (6 : Int32))), .val (.ref (f1 ((p0 &&& (2147483647 : Int32)) - ((p0 &&& (2147483647 : Int32)) / (6 : Int32)) * (6 : Int32)) w_LOW w_SUBSTANTIAL w_HIGH w_NOT_NOTIFIED_LOW w_NOT_NOTIFIED_SUBSTANTIAL w_NOT_NOTIFIED_HIGH)), .val (.ref (f1 ((p1 &&& (2147483647 : Int32)) - ((p1 &&& (2147483647 : Int32)) / (6 : Int32)) * (6 : Int32)) w_LOW w_SUBSTANTIAL w_HIGH w_NOT_NOTIFIED_LOW w_NOT_NOTIFIED_SUBSTANTIAL w_NOT_NOTIFIED_HIGH)), .val (.int (1 : Int32))]) rfl k)
    show own_G p.tables e below _ _ (T2.setTop (mkF m 36 #[.val (.int p0), .val (.int p1), .val (.int ((p0 &&& (2147483647 : Int32)) - ((p0 &&& (2147483647 : Int32)) / (6 : Int32)) * (6 : Int32))), .val (.int ((p1 &&& (2147483647 : Int32)) - ((p1 &&& (2147483647 : Int32)) / (6 : Int32)) * (6 : Int32))), .val (.ref (f1 ((p0 &&& (2147483647 : Int32)) - ((p0 &&& (2147483647 : Int32)) / (6 : Int32)) * (6 : Int32)) w_LOW w_SUBSTANTIAL w_HIGH w_NOT_NOTIFIED_LOW w_NOT_NOTIFIED_SUBSTANTIAL w_NOT_NOTIFIED_HIGH)), .val (.ref (f1 ((p1 &&& (2147483647 : Int32)) - ((p1 &&& (2147483647 : Int32)) / (6 : Int32)) * (6 : Int32)) w_LOW w_SUBSTANTIAL w_HIGH w_NOT_NOTIFIED_LOW w_NOT_NOTIFIED_SUBSTANTIAL w_NOT_NOTIFIED_HIGH)), .val (.int (1 : Int32))] []))
    refine own_st ?_ (fun t k => XS.goto X2.here hx rfl (pc0 := 36) (pc' := 67) rfl (hb hby at_36) (by decide) (by decide) k)
    show own_G p.tables e below _ _ (T2.setTop (mkF m 67 #[.val (.int p0), .val (.int p1), .val (.int ((p0 &&& (2147483647 : Int32)) - ((p0 &&& (2147483647 : Int32)) / (6 : Int32)) * (6 : Int32))), .val (.int ((p1 &&& (2147483647 : Int32)) - ((p1 &&& (2147483647 : Int32)) / (6 : Int32)) * (6 : Int32))), .val (.ref (f1 ((p0 &&& (2147483647 : Int32)) - ((p0 &&& (2147483647 : Int32)) / (6 : Int32)) * (6 : Int32)) w_LOW w_SUBSTANTIAL w_HIGH w_NOT_NOTIFIED_LOW w_NOT_NOTIFIED_SUBSTANTIAL w_NOT_NOTIFIED_HIGH)), .val (.ref (f1 ((p1 &&& (2147483647 : Int32)) - ((p1 &&& (2147483647 : Int32)) / (6 : Int32)) * (6 : Int32)) w_LOW w_SUBSTANTIAL w_HIGH w_NOT_NOTIFIED_LOW w_NOT_NOTIFIED_SUBSTANTIAL w_NOT_NOTIFIED_HIGH)), .val (.int (1 : Int32))] []))
    refine own_st ?_ (fun t k => XS.aload X2.here hx rfl (hb hby at_67) rfl rfl k)
    show own_G p.tables e below _ _ (T2.setTop (mkF m 69 #[.val (.int p0), .val (.int p1), .val (.int ((p0 &&& (2147483647 : Int32)) - ((p0 &&& (2147483647 : Int32)) / (6 : Int32)) * (6 : Int32))), .val (.int ((p1 &&& (2147483647 : Int32)) - ((p1 &&& (2147483647 : Int32)) / (6 : Int32)) * (6 : Int32))), .val (.ref (f1 ((p0 &&& (2147483647 : Int32)) - ((p0 &&& (2147483647 : Int32)) / (6 : Int32)) * (6 : Int32)) w_LOW w_SUBSTANTIAL w_HIGH w_NOT_NOTIFIED_LOW w_NOT_NOTIFIED_SUBSTANTIAL w_NOT_NOTIFIED_HIGH)), .val (.ref (f1 ((p1 &&& (2147483647 : Int32)) - ((p1 &&& (2147483647 : Int32)) / (6 : Int32)) * (6 : Int32)) w_LOW w_SUBSTANTIAL w_HIGH w_NOT_NOTIFIED_LOW w_NOT_NOTIFIED_SUBSTANTIAL w_NOT_NOTIFIED_HIGH)), .val (.int (1 : Int32))] [(.ref (f1 ((p0 &&& (2147483647 : Int32)) - ((p0 &&& (2147483647 : Int32)) / (6 : Int32)) * (6 : Int32)) w_LOW w_SUBSTANTIAL w_HIGH w_NOT_NOTIFIED_LOW w_NOT_NOTIFIED_SUBSTANTIAL w_NOT_NOTIFIED_HIGH))]))
    refine own_st ?_ (fun t k => XS.aload X2.here hx rfl (hb hby at_69) rfl rfl k)
    show own_G p.tables e below _ _ (T2.setTop (mkF m 71 #[.val (.int p0), .val (.int p1), .val (.int ((p0 &&& (2147483647 : Int32)) - ((p0 &&& (2147483647 : Int32)) / (6 : Int32)) * (6 : Int32))), .val (.int ((p1 &&& (2147483647 : Int32)) - ((p1 &&& (2147483647 : Int32)) / (6 : Int32)) * (6 : Int32))), .val (.ref (f1 ((p0 &&& (2147483647 : Int32)) - ((p0 &&& (2147483647 : Int32)) / (6 : Int32)) * (6 : Int32)) w_LOW w_SUBSTANTIAL w_HIGH w_NOT_NOTIFIED_LOW w_NOT_NOTIFIED_SUBSTANTIAL w_NOT_NOTIFIED_HIGH)), .val (.ref (f1 ((p1 &&& (2147483647 : Int32)) - ((p1 &&& (2147483647 : Int32)) / (6 : Int32)) * (6 : Int32)) w_LOW w_SUBSTANTIAL w_HIGH w_NOT_NOTIFIED_LOW w_NOT_NOTIFIED_SUBSTANTIAL w_NOT_NOTIFIED_HIGH)), .val (.int (1 : Int32))] [(.ref (f1 ((p1 &&& (2147483647 : Int32)) - ((p1 &&& (2147483647 : Int32)) / (6 : Int32)) * (6 : Int32)) w_LOW w_SUBSTANTIAL w_HIGH w_NOT_NOTIFIED_LOW w_NOT_NOTIFIED_SUBSTANTIAL w_NOT_NOTIFIED_HIGH)), (.ref (f1 ((p0 &&& (2147483647 : Int32)) - ((p0 &&& (2147483647 : Int32)) / (6 : Int32)) * (6 : Int32)) w_LOW w_SUBSTANTIAL w_HIGH w_NOT_NOTIFIED_LOW w_NOT_NOTIFIED_SUBSTANTIAL w_NOT_NOTIFIED_HIGH))]))
    obtain ⟨cq3, kq3, q3a, q3b, q3c⟩ := isOf hZ e2 (own_pe E_LOW E_SUBSTANTIAL E_HIGH E_NOT_NOTIFIED_LOW E_NOT_NOTIFIED_SUBSTANTIAL E_NOT_NOTIFIED_HIGH ((p0 &&& (2147483647 : Int32)) - ((p0 &&& (2147483647 : Int32)) / (6 : Int32)) * (6 : Int32)))
    obtain ⟨_, _, ⟨T3, L3, k3, n3⟩, -, X3, ⟨Lc3, hQ3, l3, y3, z3⟩, st3⟩ := X2.virtualBack hx (y := (⟨"com/example/crossgate/crossgate/LevelOfAssurance", "satisfies", "(Lcom/example/crossgate/crossgate/LevelOfAssurance;)Z"⟩ : MethodName)) (z := (⟨"com/example/crossgate/crossgate/LevelOfAssurance", "satisfies", "(Lcom/example/crossgate/crossgate/LevelOfAssurance;)Z"⟩ : MethodName)) hown (mvT hZ (hw _ (List.mem_of_getElem? (i := 10) rfl))) (mvT hZ (hw _ (List.mem_of_getElem? (i := 11) rfl))) (notFace_of_selects (args := #[]) (mvT hZ (hw _ (List.mem_of_getElem? (i := 13) rfl)))) (mvT hZ (hw _ (List.mem_of_getElem? (i := 13) rfl))) (mvT hZ (hw _ (List.mem_of_getElem? (i := 12) rfl))) (by decide) (backOf (W := 0) (rm2 l Z _ hw [] (f1 ((p0 &&& (2147483647 : Int32)) - ((p0 &&& (2147483647 : Int32)) / (6 : Int32)) * (6 : Int32)) w_LOW w_SUBSTANTIAL w_HIGH w_NOT_NOTIFIED_LOW w_NOT_NOTIFIED_SUBSTANTIAL w_NOT_NOTIFIED_HIGH) (f1 ((p1 &&& (2147483647 : Int32)) - ((p1 &&& (2147483647 : Int32)) / (6 : Int32)) * (6 : Int32)) w_LOW w_SUBSTANTIAL w_HIGH w_NOT_NOTIFIED_LOW w_NOT_NOTIFIED_SUBSTANTIAL w_NOT_NOTIFIED_HIGH) (own_rank ((p0 &&& (2147483647 : Int32)) - ((p0 &&& (2147483647 : Int32)) / (6 : Int32)) * (6 : Int32))) (own_rank ((p1 &&& (2147483647 : Int32)) - ((p1 &&& (2147483647 : Int32)) / (6 : Int32)) * (6 : Int32))) h0 n0 Z0 (own_pr F_rank_LOW F_rank_SUBSTANTIAL F_rank_HIGH F_rank_NOT_NOTIFIED_LOW F_rank_NOT_NOTIFIED_SUBSTANTIAL F_rank_NOT_NOTIFIED_HIGH ((p0 &&& (2147483647 : Int32)) - ((p0 &&& (2147483647 : Int32)) / (6 : Int32)) * (6 : Int32))) (own_pr F_rank_LOW F_rank_SUBSTANTIAL F_rank_HIGH F_rank_NOT_NOTIFIED_LOW F_rank_NOT_NOTIFIED_SUBSTANTIAL F_rank_NOT_NOTIFIED_HIGH ((p1 &&& (2147483647 : Int32)) - ((p1 &&& (2147483647 : Int32)) / (6 : Int32)) * (6 : Int32)))) hZ (hw _ (List.mem_of_getElem? (i := 14) rfl)) (hw _ (List.mem_of_getElem? (i := 6) rfl)) (by decide) (by decide)) q3a q3c (g := (mkF m 71 #[.val (.int p0), .val (.int p1), .val (.int ((p0 &&& (2147483647 : Int32)) - ((p0 &&& (2147483647 : Int32)) / (6 : Int32)) * (6 : Int32))), .val (.int ((p1 &&& (2147483647 : Int32)) - ((p1 &&& (2147483647 : Int32)) / (6 : Int32)) * (6 : Int32))), .val (.ref (f1 ((p0 &&& (2147483647 : Int32)) - ((p0 &&& (2147483647 : Int32)) / (6 : Int32)) * (6 : Int32)) w_LOW w_SUBSTANTIAL w_HIGH w_NOT_NOTIFIED_LOW w_NOT_NOTIFIED_SUBSTANTIAL w_NOT_NOTIFIED_HIGH)), .val (.ref (f1 ((p1 &&& (2147483647 : Int32)) - ((p1 &&& (2147483647 : Int32)) / (6 : Int32)) * (6 : Int32)) w_LOW w_SUBSTANTIAL w_HIGH w_NOT_NOTIFIED_LOW w_NOT_NOTIFIED_SUBSTANTIAL w_NOT_NOTIFIED_HIGH)), .val (.int (1 : Int32))] [(.ref (f1 ((p1 &&& (2147483647 : Int32)) - ((p1 &&& (2147483647 : Int32)) / (6 : Int32)) * (6 : Int32)) w_LOW w_SUBSTANTIAL w_HIGH w_NOT_NOTIFIED_LOW w_NOT_NOTIFIED_SUBSTANTIAL w_NOT_NOTIFIED_HIGH)), (.ref (f1 ((p0 &&& (2147483647 : Int32)) - ((p0 &&& (2147483647 : Int32)) / (6 : Int32)) * (6 : Int32)) w_LOW w_SUBSTANTIAL w_HIGH w_NOT_NOTIFIED_LOW w_NOT_NOTIFIED_SUBSTANTIAL w_NOT_NOTIFIED_HIGH))])) rfl (by rw [hml]; rfl) (Steps.refl _) (argsL := [(.ref (f1 ((p1 &&& (2147483647 : Int32)) - ((p1 &&& (2147483647 : Int32)) / (6 : Int32)) * (6 : Int32)) w_LOW w_SUBSTANTIAL w_HIGH w_NOT_NOTIFIED_LOW w_NOT_NOTIFIED_SUBSTANTIAL w_NOT_NOTIFIED_HIGH))]) (rest := []) (lenOf pd_1 rfl) rfl (by show 2 * 0 + _ ≤ _; exact Nat.le_of_eq rfl) (hb hby at_71) (fun _ _ => ⟨rfl, e2, (by decide : 0 + 0 ≤ _), (by decide : 0 + 0 ≤ _)⟩)
    dsimp only [Pt.U, Pt.locs, Pt.cells, Pt.slots] at X3 l3 y3 z3 st3 hQ3
    subst l3 y3 z3
    obtain ⟨rfl, N3q, e3⟩ := hQ3
    have N3 := Fr.app N2 N3q
    refine own_st ?_ (fun t k => st3.trans k)
    show own_G p.tables e below _ _ (T3.setTop (mkF m 74 #[.val (.int p0), .val (.int p1), .val (.int ((p0 &&& (2147483647 : Int32)) - ((p0 &&& (2147483647 : Int32)) / (6 : Int32)) * (6 : Int32))), .val (.int ((p1 &&& (2147483647 : Int32)) - ((p1 &&& (2147483647 : Int32)) / (6 : Int32)) * (6 : Int32))), .val (.ref (f1 ((p0 &&& (2147483647 : Int32)) - ((p0 &&& (2147483647 : Int32)) / (6 : Int32)) * (6 : Int32)) w_LOW w_SUBSTANTIAL w_HIGH w_NOT_NOTIFIED_LOW w_NOT_NOTIFIED_SUBSTANTIAL w_NOT_NOTIFIED_HIGH)), .val (.ref (f1 ((p1 &&& (2147483647 : Int32)) - ((p1 &&& (2147483647 : Int32)) / (6 : Int32)) * (6 : Int32)) w_LOW w_SUBSTANTIAL w_HIGH w_NOT_NOTIFIED_LOW w_NOT_NOTIFIED_SUBSTANTIAL w_NOT_NOTIFIED_HIGH)), .val (.int (1 : Int32))] [(.int (f2 (f1 ((p0 &&& (2147483647 : Int32)) - ((p0 &&& (2147483647 : Int32)) / (6 : Int32)) * (6 : Int32)) w_LOW w_SUBSTANTIAL w_HIGH w_NOT_NOTIFIED_LOW w_NOT_NOTIFIED_SUBSTANTIAL w_NOT_NOTIFIED_HIGH) (f1 ((p1 &&& (2147483647 : Int32)) - ((p1 &&& (2147483647 : Int32)) / (6 : Int32)) * (6 : Int32)) w_LOW w_SUBSTANTIAL w_HIGH w_NOT_NOTIFIED_LOW w_NOT_NOTIFIED_SUBSTANTIAL w_NOT_NOTIFIED_HIGH) (own_rank ((p0 &&& (2147483647 : Int32)) - ((p0 &&& (2147483647 : Int32)) / (6 : Int32)) * (6 : Int32))) (own_rank ((p1 &&& (2147483647 : Int32)) - ((p1 &&& (2147483647 : Int32)) / (6 : Int32)) * (6 : Int32)))))]))
    refine own_st ?_ (fun t k => XS.iload X3.here hx rfl (hb hby at_74) rfl k)
    show own_G p.tables e below _ _ (T3.setTop (mkF m 76 #[.val (.int p0), .val (.int p1), .val (.int ((p0 &&& (2147483647 : Int32)) - ((p0 &&& (2147483647 : Int32)) / (6 : Int32)) * (6 : Int32))), .val (.int ((p1 &&& (2147483647 : Int32)) - ((p1 &&& (2147483647 : Int32)) / (6 : Int32)) * (6 : Int32))), .val (.ref (f1 ((p0 &&& (2147483647 : Int32)) - ((p0 &&& (2147483647 : Int32)) / (6 : Int32)) * (6 : Int32)) w_LOW w_SUBSTANTIAL w_HIGH w_NOT_NOTIFIED_LOW w_NOT_NOTIFIED_SUBSTANTIAL w_NOT_NOTIFIED_HIGH)), .val (.ref (f1 ((p1 &&& (2147483647 : Int32)) - ((p1 &&& (2147483647 : Int32)) / (6 : Int32)) * (6 : Int32)) w_LOW w_SUBSTANTIAL w_HIGH w_NOT_NOTIFIED_LOW w_NOT_NOTIFIED_SUBSTANTIAL w_NOT_NOTIFIED_HIGH)), .val (.int (1 : Int32))] [(.int (1 : Int32)), (.int (f2 (f1 ((p0 &&& (2147483647 : Int32)) - ((p0 &&& (2147483647 : Int32)) / (6 : Int32)) * (6 : Int32)) w_LOW w_SUBSTANTIAL w_HIGH w_NOT_NOTIFIED_LOW w_NOT_NOTIFIED_SUBSTANTIAL w_NOT_NOTIFIED_HIGH) (f1 ((p1 &&& (2147483647 : Int32)) - ((p1 &&& (2147483647 : Int32)) / (6 : Int32)) * (6 : Int32)) w_LOW w_SUBSTANTIAL w_HIGH w_NOT_NOTIFIED_LOW w_NOT_NOTIFIED_SUBSTANTIAL w_NOT_NOTIFIED_HIGH) (own_rank ((p0 &&& (2147483647 : Int32)) - ((p0 &&& (2147483647 : Int32)) / (6 : Int32)) * (6 : Int32))) (own_rank ((p1 &&& (2147483647 : Int32)) - ((p1 &&& (2147483647 : Int32)) / (6 : Int32)) * (6 : Int32)))))]))
    by_cases hc76 : (f2 (f1 ((p0 &&& (2147483647 : Int32)) - ((p0 &&& (2147483647 : Int32)) / (6 : Int32)) * (6 : Int32)) w_LOW w_SUBSTANTIAL w_HIGH w_NOT_NOTIFIED_LOW w_NOT_NOTIFIED_SUBSTANTIAL w_NOT_NOTIFIED_HIGH) (f1 ((p1 &&& (2147483647 : Int32)) - ((p1 &&& (2147483647 : Int32)) / (6 : Int32)) * (6 : Int32)) w_LOW w_SUBSTANTIAL w_HIGH w_NOT_NOTIFIED_LOW w_NOT_NOTIFIED_SUBSTANTIAL w_NOT_NOTIFIED_HIGH) (own_rank ((p0 &&& (2147483647 : Int32)) - ((p0 &&& (2147483647 : Int32)) / (6 : Int32)) * (6 : Int32))) (own_rank ((p1 &&& (2147483647 : Int32)) - ((p1 &&& (2147483647 : Int32)) / (6 : Int32)) * (6 : Int32)))) = (1 : Int32)
    · refine own_st ?_ (fun t k => XS.icmpNo X3.here hx rfl (hb hby at_76) rfl (teq hc76).2 k)
      show own_G p.tables e below _ _ (T3.setTop (mkF m 79 #[.val (.int p0), .val (.int p1), .val (.int ((p0 &&& (2147483647 : Int32)) - ((p0 &&& (2147483647 : Int32)) / (6 : Int32)) * (6 : Int32))), .val (.int ((p1 &&& (2147483647 : Int32)) - ((p1 &&& (2147483647 : Int32)) / (6 : Int32)) * (6 : Int32))), .val (.ref (f1 ((p0 &&& (2147483647 : Int32)) - ((p0 &&& (2147483647 : Int32)) / (6 : Int32)) * (6 : Int32)) w_LOW w_SUBSTANTIAL w_HIGH w_NOT_NOTIFIED_LOW w_NOT_NOTIFIED_SUBSTANTIAL w_NOT_NOTIFIED_HIGH)), .val (.ref (f1 ((p1 &&& (2147483647 : Int32)) - ((p1 &&& (2147483647 : Int32)) / (6 : Int32)) * (6 : Int32)) w_LOW w_SUBSTANTIAL w_HIGH w_NOT_NOTIFIED_LOW w_NOT_NOTIFIED_SUBSTANTIAL w_NOT_NOTIFIED_HIGH)), .val (.int (1 : Int32))] []))
      refine own_st ?_ (fun t k => XS.iconst X3.here hx rfl (hb hby at_79) k)
      show own_G p.tables e below _ _ (T3.setTop (mkF m 80 #[.val (.int p0), .val (.int p1), .val (.int ((p0 &&& (2147483647 : Int32)) - ((p0 &&& (2147483647 : Int32)) / (6 : Int32)) * (6 : Int32))), .val (.int ((p1 &&& (2147483647 : Int32)) - ((p1 &&& (2147483647 : Int32)) / (6 : Int32)) * (6 : Int32))), .val (.ref (f1 ((p0 &&& (2147483647 : Int32)) - ((p0 &&& (2147483647 : Int32)) / (6 : Int32)) * (6 : Int32)) w_LOW w_SUBSTANTIAL w_HIGH w_NOT_NOTIFIED_LOW w_NOT_NOTIFIED_SUBSTANTIAL w_NOT_NOTIFIED_HIGH)), .val (.ref (f1 ((p1 &&& (2147483647 : Int32)) - ((p1 &&& (2147483647 : Int32)) / (6 : Int32)) * (6 : Int32)) w_LOW w_SUBSTANTIAL w_HIGH w_NOT_NOTIFIED_LOW w_NOT_NOTIFIED_SUBSTANTIAL w_NOT_NOTIFIED_HIGH)), .val (.int (1 : Int32))] [(.int (1 : Int32))]))
      refine own_st ?_ (fun t k => XS.goto X3.here hx rfl (pc0 := 80) (pc' := 84) rfl (hb hby at_80) (by decide) (by decide) k)
      show own_G p.tables e below _ _ (T3.setTop (mkF m 84 #[.val (.int p0), .val (.int p1), .val (.int ((p0 &&& (2147483647 : Int32)) - ((p0 &&& (2147483647 : Int32)) / (6 : Int32)) * (6 : Int32))), .val (.int ((p1 &&& (2147483647 : Int32)) - ((p1 &&& (2147483647 : Int32)) / (6 : Int32)) * (6 : Int32))), .val (.ref (f1 ((p0 &&& (2147483647 : Int32)) - ((p0 &&& (2147483647 : Int32)) / (6 : Int32)) * (6 : Int32)) w_LOW w_SUBSTANTIAL w_HIGH w_NOT_NOTIFIED_LOW w_NOT_NOTIFIED_SUBSTANTIAL w_NOT_NOTIFIED_HIGH)), .val (.ref (f1 ((p1 &&& (2147483647 : Int32)) - ((p1 &&& (2147483647 : Int32)) / (6 : Int32)) * (6 : Int32)) w_LOW w_SUBSTANTIAL w_HIGH w_NOT_NOTIFIED_LOW w_NOT_NOTIFIED_SUBSTANTIAL w_NOT_NOTIFIED_HIGH)), .val (.int (1 : Int32))] [(.int (1 : Int32))]))
      refine own_retN X3 hx hlk (t := .boolean) hret (by simp) (hb hby at_84) (by decide) (by decide) (z' := (1 : Int32)) rfl ⟨?_, N3, e3⟩
      rw [show f0 p0 p1 w_LOW w_SUBSTANTIAL w_HIGH w_NOT_NOTIFIED_LOW w_NOT_NOTIFIED_SUBSTANTIAL w_NOT_NOTIFIED_HIGH = (1 : Int32) from (if_pos hc30).trans ((if_pos hc76).trans (rfl))]
    · refine own_st ?_ (fun t k => XS.icmpYes X3.here hx rfl (pc0 := 76) (pc' := 83) rfl (hb hby at_76) rfl (feq hc76).2 (by decide) (by decide) k)
      show own_G p.tables e below _ _ (T3.setTop (mkF m 83 #[.val (.int p0), .val (.int p1), .val (.int ((p0 &&& (2147483647 : Int32)) - ((p0 &&& (2147483647 : Int32)) / (6 : Int32)) * (6 : Int32))), .val (.int ((p1 &&& (2147483647 : Int32)) - ((p1 &&& (2147483647 : Int32)) / (6 : Int32)) * (6 : Int32))), .val (.ref (f1 ((p0 &&& (2147483647 : Int32)) - ((p0 &&& (2147483647 : Int32)) / (6 : Int32)) * (6 : Int32)) w_LOW w_SUBSTANTIAL w_HIGH w_NOT_NOTIFIED_LOW w_NOT_NOTIFIED_SUBSTANTIAL w_NOT_NOTIFIED_HIGH)), .val (.ref (f1 ((p1 &&& (2147483647 : Int32)) - ((p1 &&& (2147483647 : Int32)) / (6 : Int32)) * (6 : Int32)) w_LOW w_SUBSTANTIAL w_HIGH w_NOT_NOTIFIED_LOW w_NOT_NOTIFIED_SUBSTANTIAL w_NOT_NOTIFIED_HIGH)), .val (.int (1 : Int32))] []))
      refine own_st ?_ (fun t k => XS.iconst X3.here hx rfl (hb hby at_83) k)
      show own_G p.tables e below _ _ (T3.setTop (mkF m 84 #[.val (.int p0), .val (.int p1), .val (.int ((p0 &&& (2147483647 : Int32)) - ((p0 &&& (2147483647 : Int32)) / (6 : Int32)) * (6 : Int32))), .val (.int ((p1 &&& (2147483647 : Int32)) - ((p1 &&& (2147483647 : Int32)) / (6 : Int32)) * (6 : Int32))), .val (.ref (f1 ((p0 &&& (2147483647 : Int32)) - ((p0 &&& (2147483647 : Int32)) / (6 : Int32)) * (6 : Int32)) w_LOW w_SUBSTANTIAL w_HIGH w_NOT_NOTIFIED_LOW w_NOT_NOTIFIED_SUBSTANTIAL w_NOT_NOTIFIED_HIGH)), .val (.ref (f1 ((p1 &&& (2147483647 : Int32)) - ((p1 &&& (2147483647 : Int32)) / (6 : Int32)) * (6 : Int32)) w_LOW w_SUBSTANTIAL w_HIGH w_NOT_NOTIFIED_LOW w_NOT_NOTIFIED_SUBSTANTIAL w_NOT_NOTIFIED_HIGH)), .val (.int (1 : Int32))] [(.int (0 : Int32))]))
      refine own_retN X3 hx hlk (t := .boolean) hret (by simp) (hb hby at_84) (by decide) (by decide) (z' := (0 : Int32)) rfl ⟨?_, N3, e3⟩
      rw [show f0 p0 p1 w_LOW w_SUBSTANTIAL w_HIGH w_NOT_NOTIFIED_LOW w_NOT_NOTIFIED_SUBSTANTIAL w_NOT_NOTIFIED_HIGH = (0 : Int32) from (if_pos hc30).trans ((if_neg hc76).trans (rfl))]
  · refine own_st ?_ (fun t k => XS.icmpYes X2.here hx rfl (pc0 := 30) (pc' := 39) rfl (hb hby at_30) rfl (feq hc30).2 (by decide) (by decide) k)
    show own_G p.tables e below _ _ (T2.setTop (mkF m 39 #[.val (.int p0), .val (.int p1), .val (.int ((p0 &&& (2147483647 : Int32)) - ((p0 &&& (2147483647 : Int32)) / (6 : Int32)) * (6 : Int32))), .val (.int ((p1 &&& (2147483647 : Int32)) - ((p1 &&& (2147483647 : Int32)) / (6 : Int32)) * (6 : Int32))), .val (.ref (f1 ((p0 &&& (2147483647 : Int32)) - ((p0 &&& (2147483647 : Int32)) / (6 : Int32)) * (6 : Int32)) w_LOW w_SUBSTANTIAL w_HIGH w_NOT_NOTIFIED_LOW w_NOT_NOTIFIED_SUBSTANTIAL w_NOT_NOTIFIED_HIGH)), .val (.ref (f1 ((p1 &&& (2147483647 : Int32)) - ((p1 &&& (2147483647 : Int32)) / (6 : Int32)) * (6 : Int32)) w_LOW w_SUBSTANTIAL w_HIGH w_NOT_NOTIFIED_LOW w_NOT_NOTIFIED_SUBSTANTIAL w_NOT_NOTIFIED_HIGH)), .unset] []))
    refine own_st ?_ (fun t k => XS.iloadN X2.here hx rfl (hb hby at_39) rfl k)
    show own_G p.tables e below _ _ (T2.setTop (mkF m 40 #[.val (.int p0), .val (.int p1), .val (.int ((p0 &&& (2147483647 : Int32)) - ((p0 &&& (2147483647 : Int32)) / (6 : Int32)) * (6 : Int32))), .val (.int ((p1 &&& (2147483647 : Int32)) - ((p1 &&& (2147483647 : Int32)) / (6 : Int32)) * (6 : Int32))), .val (.ref (f1 ((p0 &&& (2147483647 : Int32)) - ((p0 &&& (2147483647 : Int32)) / (6 : Int32)) * (6 : Int32)) w_LOW w_SUBSTANTIAL w_HIGH w_NOT_NOTIFIED_LOW w_NOT_NOTIFIED_SUBSTANTIAL w_NOT_NOTIFIED_HIGH)), .val (.ref (f1 ((p1 &&& (2147483647 : Int32)) - ((p1 &&& (2147483647 : Int32)) / (6 : Int32)) * (6 : Int32)) w_LOW w_SUBSTANTIAL w_HIGH w_NOT_NOTIFIED_LOW w_NOT_NOTIFIED_SUBSTANTIAL w_NOT_NOTIFIED_HIGH)), .unset] [(.int ((p0 &&& (2147483647 : Int32)) - ((p0 &&& (2147483647 : Int32)) / (6 : Int32)) * (6 : Int32)))]))
    refine own_st ?_ (fun t k => XS.iconst X2.here hx rfl (hb hby at_40) k)
    show own_G p.tables e below _ _ (T2.setTop (mkF m 41 #[.val (.int p0), .val (.int p1), .val (.int ((p0 &&& (2147483647 : Int32)) - ((p0 &&& (2147483647 : Int32)) / (6 : Int32)) * (6 : Int32))), .val (.int ((p1 &&& (2147483647 : Int32)) - ((p1 &&& (2147483647 : Int32)) / (6 : Int32)) * (6 : Int32))), .val (.ref (f1 ((p0 &&& (2147483647 : Int32)) - ((p0 &&& (2147483647 : Int32)) / (6 : Int32)) * (6 : Int32)) w_LOW w_SUBSTANTIAL w_HIGH w_NOT_NOTIFIED_LOW w_NOT_NOTIFIED_SUBSTANTIAL w_NOT_NOTIFIED_HIGH)), .val (.ref (f1 ((p1 &&& (2147483647 : Int32)) - ((p1 &&& (2147483647 : Int32)) / (6 : Int32)) * (6 : Int32)) w_LOW w_SUBSTANTIAL w_HIGH w_NOT_NOTIFIED_LOW w_NOT_NOTIFIED_SUBSTANTIAL w_NOT_NOTIFIED_HIGH)), .unset] [(.int (3 : Int32)), (.int ((p0 &&& (2147483647 : Int32)) - ((p0 &&& (2147483647 : Int32)) / (6 : Int32)) * (6 : Int32)))]))
    by_cases hc41 : ((p0 &&& (2147483647 : Int32)) - ((p0 &&& (2147483647 : Int32)) / (6 : Int32)) * (6 : Int32)) < (3 : Int32)
    · refine own_st ?_ (fun t k => XS.icmpNo X2.here hx rfl (hb hby at_41) rfl (tlt hc41).2.1 k)
      show own_G p.tables e below _ _ (T2.setTop (mkF m 44 #[.val (.int p0), .val (.int p1), .val (.int ((p0 &&& (2147483647 : Int32)) - ((p0 &&& (2147483647 : Int32)) / (6 : Int32)) * (6 : Int32))), .val (.int ((p1 &&& (2147483647 : Int32)) - ((p1 &&& (2147483647 : Int32)) / (6 : Int32)) * (6 : Int32))), .val (.ref (f1 ((p0 &&& (2147483647 : Int32)) - ((p0 &&& (2147483647 : Int32)) / (6 : Int32)) * (6 : Int32)) w_LOW w_SUBSTANTIAL w_HIGH w_NOT_NOTIFIED_LOW w_NOT_NOTIFIED_SUBSTANTIAL w_NOT_NOTIFIED_HIGH)), .val (.ref (f1 ((p1 &&& (2147483647 : Int32)) - ((p1 &&& (2147483647 : Int32)) / (6 : Int32)) * (6 : Int32)) w_LOW w_SUBSTANTIAL w_HIGH w_NOT_NOTIFIED_LOW w_NOT_NOTIFIED_SUBSTANTIAL w_NOT_NOTIFIED_HIGH)), .unset] []))
      refine own_st ?_ (fun t k => XS.iloadN X2.here hx rfl (hb hby at_44) rfl k)
      show own_G p.tables e below _ _ (T2.setTop (mkF m 45 #[.val (.int p0), .val (.int p1), .val (.int ((p0 &&& (2147483647 : Int32)) - ((p0 &&& (2147483647 : Int32)) / (6 : Int32)) * (6 : Int32))), .val (.int ((p1 &&& (2147483647 : Int32)) - ((p1 &&& (2147483647 : Int32)) / (6 : Int32)) * (6 : Int32))), .val (.ref (f1 ((p0 &&& (2147483647 : Int32)) - ((p0 &&& (2147483647 : Int32)) / (6 : Int32)) * (6 : Int32)) w_LOW w_SUBSTANTIAL w_HIGH w_NOT_NOTIFIED_LOW w_NOT_NOTIFIED_SUBSTANTIAL w_NOT_NOTIFIED_HIGH)), .val (.ref (f1 ((p1 &&& (2147483647 : Int32)) - ((p1 &&& (2147483647 : Int32)) / (6 : Int32)) * (6 : Int32)) w_LOW w_SUBSTANTIAL w_HIGH w_NOT_NOTIFIED_LOW w_NOT_NOTIFIED_SUBSTANTIAL w_NOT_NOTIFIED_HIGH)), .unset] [(.int ((p1 &&& (2147483647 : Int32)) - ((p1 &&& (2147483647 : Int32)) / (6 : Int32)) * (6 : Int32)))]))
      refine own_st ?_ (fun t k => XS.iconst X2.here hx rfl (hb hby at_45) k)
      show own_G p.tables e below _ _ (T2.setTop (mkF m 46 #[.val (.int p0), .val (.int p1), .val (.int ((p0 &&& (2147483647 : Int32)) - ((p0 &&& (2147483647 : Int32)) / (6 : Int32)) * (6 : Int32))), .val (.int ((p1 &&& (2147483647 : Int32)) - ((p1 &&& (2147483647 : Int32)) / (6 : Int32)) * (6 : Int32))), .val (.ref (f1 ((p0 &&& (2147483647 : Int32)) - ((p0 &&& (2147483647 : Int32)) / (6 : Int32)) * (6 : Int32)) w_LOW w_SUBSTANTIAL w_HIGH w_NOT_NOTIFIED_LOW w_NOT_NOTIFIED_SUBSTANTIAL w_NOT_NOTIFIED_HIGH)), .val (.ref (f1 ((p1 &&& (2147483647 : Int32)) - ((p1 &&& (2147483647 : Int32)) / (6 : Int32)) * (6 : Int32)) w_LOW w_SUBSTANTIAL w_HIGH w_NOT_NOTIFIED_LOW w_NOT_NOTIFIED_SUBSTANTIAL w_NOT_NOTIFIED_HIGH)), .unset] [(.int (3 : Int32)), (.int ((p1 &&& (2147483647 : Int32)) - ((p1 &&& (2147483647 : Int32)) / (6 : Int32)) * (6 : Int32)))]))
      by_cases hc46 : ((p1 &&& (2147483647 : Int32)) - ((p1 &&& (2147483647 : Int32)) / (6 : Int32)) * (6 : Int32)) < (3 : Int32)
      · refine own_st ?_ (fun t k => XS.icmpNo X2.here hx rfl (hb hby at_46) rfl (tlt hc46).2.1 k)
        show own_G p.tables e below _ _ (T2.setTop (mkF m 49 #[.val (.int p0), .val (.int p1), .val (.int ((p0 &&& (2147483647 : Int32)) - ((p0 &&& (2147483647 : Int32)) / (6 : Int32)) * (6 : Int32))), .val (.int ((p1 &&& (2147483647 : Int32)) - ((p1 &&& (2147483647 : Int32)) / (6 : Int32)) * (6 : Int32))), .val (.ref (f1 ((p0 &&& (2147483647 : Int32)) - ((p0 &&& (2147483647 : Int32)) / (6 : Int32)) * (6 : Int32)) w_LOW w_SUBSTANTIAL w_HIGH w_NOT_NOTIFIED_LOW w_NOT_NOTIFIED_SUBSTANTIAL w_NOT_NOTIFIED_HIGH)), .val (.ref (f1 ((p1 &&& (2147483647 : Int32)) - ((p1 &&& (2147483647 : Int32)) / (6 : Int32)) * (6 : Int32)) w_LOW w_SUBSTANTIAL w_HIGH w_NOT_NOTIFIED_LOW w_NOT_NOTIFIED_SUBSTANTIAL w_NOT_NOTIFIED_HIGH)), .unset] []))
        refine own_st ?_ (fun t k => XS.iloadN X2.here hx rfl (hb hby at_49) rfl k)
        show own_G p.tables e below _ _ (T2.setTop (mkF m 50 #[.val (.int p0), .val (.int p1), .val (.int ((p0 &&& (2147483647 : Int32)) - ((p0 &&& (2147483647 : Int32)) / (6 : Int32)) * (6 : Int32))), .val (.int ((p1 &&& (2147483647 : Int32)) - ((p1 &&& (2147483647 : Int32)) / (6 : Int32)) * (6 : Int32))), .val (.ref (f1 ((p0 &&& (2147483647 : Int32)) - ((p0 &&& (2147483647 : Int32)) / (6 : Int32)) * (6 : Int32)) w_LOW w_SUBSTANTIAL w_HIGH w_NOT_NOTIFIED_LOW w_NOT_NOTIFIED_SUBSTANTIAL w_NOT_NOTIFIED_HIGH)), .val (.ref (f1 ((p1 &&& (2147483647 : Int32)) - ((p1 &&& (2147483647 : Int32)) / (6 : Int32)) * (6 : Int32)) w_LOW w_SUBSTANTIAL w_HIGH w_NOT_NOTIFIED_LOW w_NOT_NOTIFIED_SUBSTANTIAL w_NOT_NOTIFIED_HIGH)), .unset] [(.int ((p0 &&& (2147483647 : Int32)) - ((p0 &&& (2147483647 : Int32)) / (6 : Int32)) * (6 : Int32)))]))
        refine own_st ?_ (fun t k => XS.iloadN X2.here hx rfl (hb hby at_50) rfl k)
        show own_G p.tables e below _ _ (T2.setTop (mkF m 51 #[.val (.int p0), .val (.int p1), .val (.int ((p0 &&& (2147483647 : Int32)) - ((p0 &&& (2147483647 : Int32)) / (6 : Int32)) * (6 : Int32))), .val (.int ((p1 &&& (2147483647 : Int32)) - ((p1 &&& (2147483647 : Int32)) / (6 : Int32)) * (6 : Int32))), .val (.ref (f1 ((p0 &&& (2147483647 : Int32)) - ((p0 &&& (2147483647 : Int32)) / (6 : Int32)) * (6 : Int32)) w_LOW w_SUBSTANTIAL w_HIGH w_NOT_NOTIFIED_LOW w_NOT_NOTIFIED_SUBSTANTIAL w_NOT_NOTIFIED_HIGH)), .val (.ref (f1 ((p1 &&& (2147483647 : Int32)) - ((p1 &&& (2147483647 : Int32)) / (6 : Int32)) * (6 : Int32)) w_LOW w_SUBSTANTIAL w_HIGH w_NOT_NOTIFIED_LOW w_NOT_NOTIFIED_SUBSTANTIAL w_NOT_NOTIFIED_HIGH)), .unset] [(.int ((p1 &&& (2147483647 : Int32)) - ((p1 &&& (2147483647 : Int32)) / (6 : Int32)) * (6 : Int32))), (.int ((p0 &&& (2147483647 : Int32)) - ((p0 &&& (2147483647 : Int32)) / (6 : Int32)) * (6 : Int32)))]))
        by_cases hc51 : ((p1 &&& (2147483647 : Int32)) - ((p1 &&& (2147483647 : Int32)) / (6 : Int32)) * (6 : Int32)) < ((p0 &&& (2147483647 : Int32)) - ((p0 &&& (2147483647 : Int32)) / (6 : Int32)) * (6 : Int32))
        · refine own_st ?_ (fun t k => XS.icmpNo X2.here hx rfl (hb hby at_51) rfl (tlt hc51).2.2.2 k)
          show own_G p.tables e below _ _ (T2.setTop (mkF m 54 #[.val (.int p0), .val (.int p1), .val (.int ((p0 &&& (2147483647 : Int32)) - ((p0 &&& (2147483647 : Int32)) / (6 : Int32)) * (6 : Int32))), .val (.int ((p1 &&& (2147483647 : Int32)) - ((p1 &&& (2147483647 : Int32)) / (6 : Int32)) * (6 : Int32))), .val (.ref (f1 ((p0 &&& (2147483647 : Int32)) - ((p0 &&& (2147483647 : Int32)) / (6 : Int32)) * (6 : Int32)) w_LOW w_SUBSTANTIAL w_HIGH w_NOT_NOTIFIED_LOW w_NOT_NOTIFIED_SUBSTANTIAL w_NOT_NOTIFIED_HIGH)), .val (.ref (f1 ((p1 &&& (2147483647 : Int32)) - ((p1 &&& (2147483647 : Int32)) / (6 : Int32)) * (6 : Int32)) w_LOW w_SUBSTANTIAL w_HIGH w_NOT_NOTIFIED_LOW w_NOT_NOTIFIED_SUBSTANTIAL w_NOT_NOTIFIED_HIGH)), .unset] []))
          refine own_st ?_ (fun t k => XS.iconst X2.here hx rfl (hb hby at_54) k)
          show own_G p.tables e below _ _ (T2.setTop (mkF m 55 #[.val (.int p0), .val (.int p1), .val (.int ((p0 &&& (2147483647 : Int32)) - ((p0 &&& (2147483647 : Int32)) / (6 : Int32)) * (6 : Int32))), .val (.int ((p1 &&& (2147483647 : Int32)) - ((p1 &&& (2147483647 : Int32)) / (6 : Int32)) * (6 : Int32))), .val (.ref (f1 ((p0 &&& (2147483647 : Int32)) - ((p0 &&& (2147483647 : Int32)) / (6 : Int32)) * (6 : Int32)) w_LOW w_SUBSTANTIAL w_HIGH w_NOT_NOTIFIED_LOW w_NOT_NOTIFIED_SUBSTANTIAL w_NOT_NOTIFIED_HIGH)), .val (.ref (f1 ((p1 &&& (2147483647 : Int32)) - ((p1 &&& (2147483647 : Int32)) / (6 : Int32)) * (6 : Int32)) w_LOW w_SUBSTANTIAL w_HIGH w_NOT_NOTIFIED_LOW w_NOT_NOTIFIED_SUBSTANTIAL w_NOT_NOTIFIED_HIGH)), .unset] [(.int (1 : Int32))]))
          refine own_st ?_ (fun t k => XS.goto X2.here hx rfl (pc0 := 55) (pc' := 59) rfl (hb hby at_55) (by decide) (by decide) k)
          show own_G p.tables e below _ _ (T2.setTop (mkF m 59 #[.val (.int p0), .val (.int p1), .val (.int ((p0 &&& (2147483647 : Int32)) - ((p0 &&& (2147483647 : Int32)) / (6 : Int32)) * (6 : Int32))), .val (.int ((p1 &&& (2147483647 : Int32)) - ((p1 &&& (2147483647 : Int32)) / (6 : Int32)) * (6 : Int32))), .val (.ref (f1 ((p0 &&& (2147483647 : Int32)) - ((p0 &&& (2147483647 : Int32)) / (6 : Int32)) * (6 : Int32)) w_LOW w_SUBSTANTIAL w_HIGH w_NOT_NOTIFIED_LOW w_NOT_NOTIFIED_SUBSTANTIAL w_NOT_NOTIFIED_HIGH)), .val (.ref (f1 ((p1 &&& (2147483647 : Int32)) - ((p1 &&& (2147483647 : Int32)) / (6 : Int32)) * (6 : Int32)) w_LOW w_SUBSTANTIAL w_HIGH w_NOT_NOTIFIED_LOW w_NOT_NOTIFIED_SUBSTANTIAL w_NOT_NOTIFIED_HIGH)), .unset] [(.int (1 : Int32))]))
          refine own_st ?_ (fun t k => XS.istore X2.here hx rfl (hb hby at_59) rfl (l' := #[.val (.int p0), .val (.int p1), .val (.int ((p0 &&& (2147483647 : Int32)) - ((p0 &&& (2147483647 : Int32)) / (6 : Int32)) * (6 : Int32))), .val (.int ((p1 &&& (2147483647 : Int32)) - ((p1 &&& (2147483647 : Int32)) / (6 : Int32)) * (6 : Int32))), .val (.ref (f1 ((p0 &&& (2147483647 : Int32)) - ((p0 &&& (2147483647 : Int32)) / (6 : Int32)) * (6 : Int32)) w_LOW w_SUBSTANTIAL w_HIGH w_NOT_NOTIFIED_LOW w_NOT_NOTIFIED_SUBSTANTIAL w_NOT_NOTIFIED_HIGH)), .val (.ref (f1 ((p1 &&& (2147483647 : Int32)) - ((p1 &&& (2147483647 : Int32)) / (6 : Int32)) * (6 : Int32)) w_LOW w_SUBSTANTIAL w_HIGH w_NOT_NOTIFIED_LOW w_NOT_NOTIFIED_SUBSTANTIAL w_NOT_NOTIFIED_HIGH)), .val (.int (1 : Int32))]) rfl k)
          show own_G p.tables e below _ _ (T2.setTop (mkF m 61 #[.val (.int p0), .val (.int p1), .val (.int ((p0 &&& (2147483647 : Int32)) - ((p0 &&& (2147483647 : Int32)) / (6 : Int32)) * (6 : Int32))), .val (.int ((p1 &&& (2147483647 : Int32)) - ((p1 &&& (2147483647 : Int32)) / (6 : Int32)) * (6 : Int32))), .val (.ref (f1 ((p0 &&& (2147483647 : Int32)) - ((p0 &&& (2147483647 : Int32)) / (6 : Int32)) * (6 : Int32)) w_LOW w_SUBSTANTIAL w_HIGH w_NOT_NOTIFIED_LOW w_NOT_NOTIFIED_SUBSTANTIAL w_NOT_NOTIFIED_HIGH)), .val (.ref (f1 ((p1 &&& (2147483647 : Int32)) - ((p1 &&& (2147483647 : Int32)) / (6 : Int32)) * (6 : Int32)) w_LOW w_SUBSTANTIAL w_HIGH w_NOT_NOTIFIED_LOW w_NOT_NOTIFIED_SUBSTANTIAL w_NOT_NOTIFIED_HIGH)), .val (.int (1 : Int32))] []))
          refine own_st ?_ (fun t k => XS.goto X2.here hx rfl (pc0 := 61) (pc' := 67) rfl (hb hby at_61) (by decide) (by decide) k)
          show own_G p.tables e below _ _ (T2.setTop (mkF m 67 #[.val (.int p0), .val (.int p1), .val (.int ((p0 &&& (2147483647 : Int32)) - ((p0 &&& (2147483647 : Int32)) / (6 : Int32)) * (6 : Int32))), .val (.int ((p1 &&& (2147483647 : Int32)) - ((p1 &&& (2147483647 : Int32)) / (6 : Int32)) * (6 : Int32))), .val (.ref (f1 ((p0 &&& (2147483647 : Int32)) - ((p0 &&& (2147483647 : Int32)) / (6 : Int32)) * (6 : Int32)) w_LOW w_SUBSTANTIAL w_HIGH w_NOT_NOTIFIED_LOW w_NOT_NOTIFIED_SUBSTANTIAL w_NOT_NOTIFIED_HIGH)), .val (.ref (f1 ((p1 &&& (2147483647 : Int32)) - ((p1 &&& (2147483647 : Int32)) / (6 : Int32)) * (6 : Int32)) w_LOW w_SUBSTANTIAL w_HIGH w_NOT_NOTIFIED_LOW w_NOT_NOTIFIED_SUBSTANTIAL w_NOT_NOTIFIED_HIGH)), .val (.int (1 : Int32))] []))
          refine own_st ?_ (fun t k => XS.aload X2.here hx rfl (hb hby at_67) rfl rfl k)
          show own_G p.tables e below _ _ (T2.setTop (mkF m 69 #[.val (.int p0), .val (.int p1), .val (.int ((p0 &&& (2147483647 : Int32)) - ((p0 &&& (2147483647 : Int32)) / (6 : Int32)) * (6 : Int32))), .val (.int ((p1 &&& (2147483647 : Int32)) - ((p1 &&& (2147483647 : Int32)) / (6 : Int32)) * (6 : Int32))), .val (.ref (f1 ((p0 &&& (2147483647 : Int32)) - ((p0 &&& (2147483647 : Int32)) / (6 : Int32)) * (6 : Int32)) w_LOW w_SUBSTANTIAL w_HIGH w_NOT_NOTIFIED_LOW w_NOT_NOTIFIED_SUBSTANTIAL w_NOT_NOTIFIED_HIGH)), .val (.ref (f1 ((p1 &&& (2147483647 : Int32)) - ((p1 &&& (2147483647 : Int32)) / (6 : Int32)) * (6 : Int32)) w_LOW w_SUBSTANTIAL w_HIGH w_NOT_NOTIFIED_LOW w_NOT_NOTIFIED_SUBSTANTIAL w_NOT_NOTIFIED_HIGH)), .val (.int (1 : Int32))] [(.ref (f1 ((p0 &&& (2147483647 : Int32)) - ((p0 &&& (2147483647 : Int32)) / (6 : Int32)) * (6 : Int32)) w_LOW w_SUBSTANTIAL w_HIGH w_NOT_NOTIFIED_LOW w_NOT_NOTIFIED_SUBSTANTIAL w_NOT_NOTIFIED_HIGH))]))
          refine own_st ?_ (fun t k => XS.aload X2.here hx rfl (hb hby at_69) rfl rfl k)
          show own_G p.tables e below _ _ (T2.setTop (mkF m 71 #[.val (.int p0), .val (.int p1), .val (.int ((p0 &&& (2147483647 : Int32)) - ((p0 &&& (2147483647 : Int32)) / (6 : Int32)) * (6 : Int32))), .val (.int ((p1 &&& (2147483647 : Int32)) - ((p1 &&& (2147483647 : Int32)) / (6 : Int32)) * (6 : Int32))), .val (.ref (f1 ((p0 &&& (2147483647 : Int32)) - ((p0 &&& (2147483647 : Int32)) / (6 : Int32)) * (6 : Int32)) w_LOW w_SUBSTANTIAL w_HIGH w_NOT_NOTIFIED_LOW w_NOT_NOTIFIED_SUBSTANTIAL w_NOT_NOTIFIED_HIGH)), .val (.ref (f1 ((p1 &&& (2147483647 : Int32)) - ((p1 &&& (2147483647 : Int32)) / (6 : Int32)) * (6 : Int32)) w_LOW w_SUBSTANTIAL w_HIGH w_NOT_NOTIFIED_LOW w_NOT_NOTIFIED_SUBSTANTIAL w_NOT_NOTIFIED_HIGH)), .val (.int (1 : Int32))] [(.ref (f1 ((p1 &&& (2147483647 : Int32)) - ((p1 &&& (2147483647 : Int32)) / (6 : Int32)) * (6 : Int32)) w_LOW w_SUBSTANTIAL w_HIGH w_NOT_NOTIFIED_LOW w_NOT_NOTIFIED_SUBSTANTIAL w_NOT_NOTIFIED_HIGH)), (.ref (f1 ((p0 &&& (2147483647 : Int32)) - ((p0 &&& (2147483647 : Int32)) / (6 : Int32)) * (6 : Int32)) w_LOW w_SUBSTANTIAL w_HIGH w_NOT_NOTIFIED_LOW w_NOT_NOTIFIED_SUBSTANTIAL w_NOT_NOTIFIED_HIGH))]))
          obtain ⟨cq4, kq4, q4a, q4b, q4c⟩ := isOf hZ e2 (own_pe E_LOW E_SUBSTANTIAL E_HIGH E_NOT_NOTIFIED_LOW E_NOT_NOTIFIED_SUBSTANTIAL E_NOT_NOTIFIED_HIGH ((p0 &&& (2147483647 : Int32)) - ((p0 &&& (2147483647 : Int32)) / (6 : Int32)) * (6 : Int32)))
          obtain ⟨_, _, ⟨T4, L4, k4, n4⟩, -, X4, ⟨Lc4, hQ4, l4, y4, z4⟩, st4⟩ := X2.virtualBack hx (y := (⟨"com/example/crossgate/crossgate/LevelOfAssurance", "satisfies", "(Lcom/example/crossgate/crossgate/LevelOfAssurance;)Z"⟩ : MethodName)) (z := (⟨"com/example/crossgate/crossgate/LevelOfAssurance", "satisfies", "(Lcom/example/crossgate/crossgate/LevelOfAssurance;)Z"⟩ : MethodName)) hown (mvT hZ (hw _ (List.mem_of_getElem? (i := 10) rfl))) (mvT hZ (hw _ (List.mem_of_getElem? (i := 11) rfl))) (notFace_of_selects (args := #[]) (mvT hZ (hw _ (List.mem_of_getElem? (i := 13) rfl)))) (mvT hZ (hw _ (List.mem_of_getElem? (i := 13) rfl))) (mvT hZ (hw _ (List.mem_of_getElem? (i := 12) rfl))) (by decide) (backOf (W := 0) (rm2 l Z _ hw [] (f1 ((p0 &&& (2147483647 : Int32)) - ((p0 &&& (2147483647 : Int32)) / (6 : Int32)) * (6 : Int32)) w_LOW w_SUBSTANTIAL w_HIGH w_NOT_NOTIFIED_LOW w_NOT_NOTIFIED_SUBSTANTIAL w_NOT_NOTIFIED_HIGH) (f1 ((p1 &&& (2147483647 : Int32)) - ((p1 &&& (2147483647 : Int32)) / (6 : Int32)) * (6 : Int32)) w_LOW w_SUBSTANTIAL w_HIGH w_NOT_NOTIFIED_LOW w_NOT_NOTIFIED_SUBSTANTIAL w_NOT_NOTIFIED_HIGH) (own_rank ((p0 &&& (2147483647 : Int32)) - ((p0 &&& (2147483647 : Int32)) / (6 : Int32)) * (6 : Int32))) (own_rank ((p1 &&& (2147483647 : Int32)) - ((p1 &&& (2147483647 : Int32)) / (6 : Int32)) * (6 : Int32))) h0 n0 Z0 (own_pr F_rank_LOW F_rank_SUBSTANTIAL F_rank_HIGH F_rank_NOT_NOTIFIED_LOW F_rank_NOT_NOTIFIED_SUBSTANTIAL F_rank_NOT_NOTIFIED_HIGH ((p0 &&& (2147483647 : Int32)) - ((p0 &&& (2147483647 : Int32)) / (6 : Int32)) * (6 : Int32))) (own_pr F_rank_LOW F_rank_SUBSTANTIAL F_rank_HIGH F_rank_NOT_NOTIFIED_LOW F_rank_NOT_NOTIFIED_SUBSTANTIAL F_rank_NOT_NOTIFIED_HIGH ((p1 &&& (2147483647 : Int32)) - ((p1 &&& (2147483647 : Int32)) / (6 : Int32)) * (6 : Int32)))) hZ (hw _ (List.mem_of_getElem? (i := 14) rfl)) (hw _ (List.mem_of_getElem? (i := 6) rfl)) (by decide) (by decide)) q4a q4c (g := (mkF m 71 #[.val (.int p0), .val (.int p1), .val (.int ((p0 &&& (2147483647 : Int32)) - ((p0 &&& (2147483647 : Int32)) / (6 : Int32)) * (6 : Int32))), .val (.int ((p1 &&& (2147483647 : Int32)) - ((p1 &&& (2147483647 : Int32)) / (6 : Int32)) * (6 : Int32))), .val (.ref (f1 ((p0 &&& (2147483647 : Int32)) - ((p0 &&& (2147483647 : Int32)) / (6 : Int32)) * (6 : Int32)) w_LOW w_SUBSTANTIAL w_HIGH w_NOT_NOTIFIED_LOW w_NOT_NOTIFIED_SUBSTANTIAL w_NOT_NOTIFIED_HIGH)), .val (.ref (f1 ((p1 &&& (2147483647 : Int32)) - ((p1 &&& (2147483647 : Int32)) / (6 : Int32)) * (6 : Int32)) w_LOW w_SUBSTANTIAL w_HIGH w_NOT_NOTIFIED_LOW w_NOT_NOTIFIED_SUBSTANTIAL w_NOT_NOTIFIED_HIGH)), .val (.int (1 : Int32))] [(.ref (f1 ((p1 &&& (2147483647 : Int32)) - ((p1 &&& (2147483647 : Int32)) / (6 : Int32)) * (6 : Int32)) w_LOW w_SUBSTANTIAL w_HIGH w_NOT_NOTIFIED_LOW w_NOT_NOTIFIED_SUBSTANTIAL w_NOT_NOTIFIED_HIGH)), (.ref (f1 ((p0 &&& (2147483647 : Int32)) - ((p0 &&& (2147483647 : Int32)) / (6 : Int32)) * (6 : Int32)) w_LOW w_SUBSTANTIAL w_HIGH w_NOT_NOTIFIED_LOW w_NOT_NOTIFIED_SUBSTANTIAL w_NOT_NOTIFIED_HIGH))])) rfl (by rw [hml]; rfl) (Steps.refl _) (argsL := [(.ref (f1 ((p1 &&& (2147483647 : Int32)) - ((p1 &&& (2147483647 : Int32)) / (6 : Int32)) * (6 : Int32)) w_LOW w_SUBSTANTIAL w_HIGH w_NOT_NOTIFIED_LOW w_NOT_NOTIFIED_SUBSTANTIAL w_NOT_NOTIFIED_HIGH))]) (rest := []) (lenOf pd_1 rfl) rfl (by show 2 * 0 + _ ≤ _; exact Nat.le_of_eq rfl) (hb hby at_71) (fun _ _ => ⟨rfl, e2, (by decide : 0 + 0 ≤ _), (by decide : 0 + 0 ≤ _)⟩)
          dsimp only [Pt.U, Pt.locs, Pt.cells, Pt.slots] at X4 l4 y4 z4 st4 hQ4
          subst l4 y4 z4
          obtain ⟨rfl, N4q, e4⟩ := hQ4
          have N4 := Fr.app N2 N4q
          refine own_st ?_ (fun t k => st4.trans k)
          show own_G p.tables e below _ _ (T4.setTop (mkF m 74 #[.val (.int p0), .val (.int p1), .val (.int ((p0 &&& (2147483647 : Int32)) - ((p0 &&& (2147483647 : Int32)) / (6 : Int32)) * (6 : Int32))), .val (.int ((p1 &&& (2147483647 : Int32)) - ((p1 &&& (2147483647 : Int32)) / (6 : Int32)) * (6 : Int32))), .val (.ref (f1 ((p0 &&& (2147483647 : Int32)) - ((p0 &&& (2147483647 : Int32)) / (6 : Int32)) * (6 : Int32)) w_LOW w_SUBSTANTIAL w_HIGH w_NOT_NOTIFIED_LOW w_NOT_NOTIFIED_SUBSTANTIAL w_NOT_NOTIFIED_HIGH)), .val (.ref (f1 ((p1 &&& (2147483647 : Int32)) - ((p1 &&& (2147483647 : Int32)) / (6 : Int32)) * (6 : Int32)) w_LOW w_SUBSTANTIAL w_HIGH w_NOT_NOTIFIED_LOW w_NOT_NOTIFIED_SUBSTANTIAL w_NOT_NOTIFIED_HIGH)), .val (.int (1 : Int32))] [(.int (f2 (f1 ((p0 &&& (2147483647 : Int32)) - ((p0 &&& (2147483647 : Int32)) / (6 : Int32)) * (6 : Int32)) w_LOW w_SUBSTANTIAL w_HIGH w_NOT_NOTIFIED_LOW w_NOT_NOTIFIED_SUBSTANTIAL w_NOT_NOTIFIED_HIGH) (f1 ((p1 &&& (2147483647 : Int32)) - ((p1 &&& (2147483647 : Int32)) / (6 : Int32)) * (6 : Int32)) w_LOW w_SUBSTANTIAL w_HIGH w_NOT_NOTIFIED_LOW w_NOT_NOTIFIED_SUBSTANTIAL w_NOT_NOTIFIED_HIGH) (own_rank ((p0 &&& (2147483647 : Int32)) - ((p0 &&& (2147483647 : Int32)) / (6 : Int32)) * (6 : Int32))) (own_rank ((p1 &&& (2147483647 : Int32)) - ((p1 &&& (2147483647 : Int32)) / (6 : Int32)) * (6 : Int32)))))]))
          refine own_st ?_ (fun t k => XS.iload X4.here hx rfl (hb hby at_74) rfl k)
          show own_G p.tables e below _ _ (T4.setTop (mkF m 76 #[.val (.int p0), .val (.int p1), .val (.int ((p0 &&& (2147483647 : Int32)) - ((p0 &&& (2147483647 : Int32)) / (6 : Int32)) * (6 : Int32))), .val (.int ((p1 &&& (2147483647 : Int32)) - ((p1 &&& (2147483647 : Int32)) / (6 : Int32)) * (6 : Int32))), .val (.ref (f1 ((p0 &&& (2147483647 : Int32)) - ((p0 &&& (2147483647 : Int32)) / (6 : Int32)) * (6 : Int32)) w_LOW w_SUBSTANTIAL w_HIGH w_NOT_NOTIFIED_LOW w_NOT_NOTIFIED_SUBSTANTIAL w_NOT_NOTIFIED_HIGH)), .val (.ref (f1 ((p1 &&& (2147483647 : Int32)) - ((p1 &&& (2147483647 : Int32)) / (6 : Int32)) * (6 : Int32)) w_LOW w_SUBSTANTIAL w_HIGH w_NOT_NOTIFIED_LOW w_NOT_NOTIFIED_SUBSTANTIAL w_NOT_NOTIFIED_HIGH)), .val (.int (1 : Int32))] [(.int (1 : Int32)), (.int (f2 (f1 ((p0 &&& (2147483647 : Int32)) - ((p0 &&& (2147483647 : Int32)) / (6 : Int32)) * (6 : Int32)) w_LOW w_SUBSTANTIAL w_HIGH w_NOT_NOTIFIED_LOW w_NOT_NOTIFIED_SUBSTANTIAL w_NOT_NOTIFIED_HIGH) (f1 ((p1 &&& (2147483647 : Int32)) - ((p1 &&& (2147483647 : Int32)) / (6 : Int32)) * (6 : Int32)) w_LOW w_SUBSTANTIAL w_HIGH w_NOT_NOTIFIED_LOW w_NOT_NOTIFIED_SUBSTANTIAL w_NOT_NOTIFIED_HIGH) (own_rank ((p0 &&& (2147483647 : Int32)) - ((p0 &&& (2147483647 : Int32)) / (6 : Int32)) * (6 : Int32))) (own_rank ((p1 &&& (2147483647 : Int32)) - ((p1 &&& (2147483647 : Int32)) / (6 : Int32)) * (6 : Int32)))))]))
          by_cases hc76 : (f2 (f1 ((p0 &&& (2147483647 : Int32)) - ((p0 &&& (2147483647 : Int32)) / (6 : Int32)) * (6 : Int32)) w_LOW w_SUBSTANTIAL w_HIGH w_NOT_NOTIFIED_LOW w_NOT_NOTIFIED_SUBSTANTIAL w_NOT_NOTIFIED_HIGH) (f1 ((p1 &&& (2147483647 : Int32)) - ((p1 &&& (2147483647 : Int32)) / (6 : Int32)) * (6 : Int32)) w_LOW w_SUBSTANTIAL w_HIGH w_NOT_NOTIFIED_LOW w_NOT_NOTIFIED_SUBSTANTIAL w_NOT_NOTIFIED_HIGH) (own_rank ((p0 &&& (2147483647 : Int32)) - ((p0 &&& (2147483647 : Int32)) / (6 : Int32)) * (6 : Int32))) (own_rank ((p1 &&& (2147483647 : Int32)) - ((p1 &&& (2147483647 : Int32)) / (6 : Int32)) * (6 : Int32)))) = (1 : Int32)
          · refine own_st ?_ (fun t k => XS.icmpNo X4.here hx rfl (hb hby at_76) rfl (teq hc76).2 k)
            show own_G p.tables e below _ _ (T4.setTop (mkF m 79 #[.val (.int p0), .val (.int p1), .val (.int ((p0 &&& (2147483647 : Int32)) - ((p0 &&& (2147483647 : Int32)) / (6 : Int32)) * (6 : Int32))), .val (.int ((p1 &&& (2147483647 : Int32)) - ((p1 &&& (2147483647 : Int32)) / (6 : Int32)) * (6 : Int32))), .val (.ref (f1 ((p0 &&& (2147483647 : Int32)) - ((p0 &&& (2147483647 : Int32)) / (6 : Int32)) * (6 : Int32)) w_LOW w_SUBSTANTIAL w_HIGH w_NOT_NOTIFIED_LOW w_NOT_NOTIFIED_SUBSTANTIAL w_NOT_NOTIFIED_HIGH)), .val (.ref (f1 ((p1 &&& (2147483647 : Int32)) - ((p1 &&& (2147483647 : Int32)) / (6 : Int32)) * (6 : Int32)) w_LOW w_SUBSTANTIAL w_HIGH w_NOT_NOTIFIED_LOW w_NOT_NOTIFIED_SUBSTANTIAL w_NOT_NOTIFIED_HIGH)), .val (.int (1 : Int32))] []))
            refine own_st ?_ (fun t k => XS.iconst X4.here hx rfl (hb hby at_79) k)
            show own_G p.tables e below _ _ (T4.setTop (mkF m 80 #[.val (.int p0), .val (.int p1), .val (.int ((p0 &&& (2147483647 : Int32)) - ((p0 &&& (2147483647 : Int32)) / (6 : Int32)) * (6 : Int32))), .val (.int ((p1 &&& (2147483647 : Int32)) - ((p1 &&& (2147483647 : Int32)) / (6 : Int32)) * (6 : Int32))), .val (.ref (f1 ((p0 &&& (2147483647 : Int32)) - ((p0 &&& (2147483647 : Int32)) / (6 : Int32)) * (6 : Int32)) w_LOW w_SUBSTANTIAL w_HIGH w_NOT_NOTIFIED_LOW w_NOT_NOTIFIED_SUBSTANTIAL w_NOT_NOTIFIED_HIGH)), .val (.ref (f1 ((p1 &&& (2147483647 : Int32)) - ((p1 &&& (2147483647 : Int32)) / (6 : Int32)) * (6 : Int32)) w_LOW w_SUBSTANTIAL w_HIGH w_NOT_NOTIFIED_LOW w_NOT_NOTIFIED_SUBSTANTIAL w_NOT_NOTIFIED_HIGH)), .val (.int (1 : Int32))] [(.int (1 : Int32))]))
            refine own_st ?_ (fun t k => XS.goto X4.here hx rfl (pc0 := 80) (pc' := 84) rfl (hb hby at_80) (by decide) (by decide) k)
            show own_G p.tables e below _ _ (T4.setTop (mkF m 84 #[.val (.int p0), .val (.int p1), .val (.int ((p0 &&& (2147483647 : Int32)) - ((p0 &&& (2147483647 : Int32)) / (6 : Int32)) * (6 : Int32))), .val (.int ((p1 &&& (2147483647 : Int32)) - ((p1 &&& (2147483647 : Int32)) / (6 : Int32)) * (6 : Int32))), .val (.ref (f1 ((p0 &&& (2147483647 : Int32)) - ((p0 &&& (2147483647 : Int32)) / (6 : Int32)) * (6 : Int32)) w_LOW w_SUBSTANTIAL w_HIGH w_NOT_NOTIFIED_LOW w_NOT_NOTIFIED_SUBSTANTIAL w_NOT_NOTIFIED_HIGH)), .val (.ref (f1 ((p1 &&& (2147483647 : Int32)) - ((p1 &&& (2147483647 : Int32)) / (6 : Int32)) * (6 : Int32)) w_LOW w_SUBSTANTIAL w_HIGH w_NOT_NOTIFIED_LOW w_NOT_NOTIFIED_SUBSTANTIAL w_NOT_NOTIFIED_HIGH)), .val (.int (1 : Int32))] [(.int (1 : Int32))]))
            refine own_retN X4 hx hlk (t := .boolean) hret (by simp) (hb hby at_84) (by decide) (by decide) (z' := (1 : Int32)) rfl ⟨?_, N4, e4⟩
            rw [show f0 p0 p1 w_LOW w_SUBSTANTIAL w_HIGH w_NOT_NOTIFIED_LOW w_NOT_NOTIFIED_SUBSTANTIAL w_NOT_NOTIFIED_HIGH = (1 : Int32) from (if_neg hc30).trans ((if_pos hc41).trans ((if_pos hc46).trans ((if_pos hc51).trans ((if_pos hc76).trans (rfl)))))]
          · refine own_st ?_ (fun t k => XS.icmpYes X4.here hx rfl (pc0 := 76) (pc' := 83) rfl (hb hby at_76) rfl (feq hc76).2 (by decide) (by decide) k)
            show own_G p.tables e below _ _ (T4.setTop (mkF m 83 #[.val (.int p0), .val (.int p1), .val (.int ((p0 &&& (2147483647 : Int32)) - ((p0 &&& (2147483647 : Int32)) / (6 : Int32)) * (6 : Int32))), .val (.int ((p1 &&& (2147483647 : Int32)) - ((p1 &&& (2147483647 : Int32)) / (6 : Int32)) * (6 : Int32))), .val (.ref (f1 ((p0 &&& (2147483647 : Int32)) - ((p0 &&& (2147483647 : Int32)) / (6 : Int32)) * (6 : Int32)) w_LOW w_SUBSTANTIAL w_HIGH w_NOT_NOTIFIED_LOW w_NOT_NOTIFIED_SUBSTANTIAL w_NOT_NOTIFIED_HIGH)), .val (.ref (f1 ((p1 &&& (2147483647 : Int32)) - ((p1 &&& (2147483647 : Int32)) / (6 : Int32)) * (6 : Int32)) w_LOW w_SUBSTANTIAL w_HIGH w_NOT_NOTIFIED_LOW w_NOT_NOTIFIED_SUBSTANTIAL w_NOT_NOTIFIED_HIGH)), .val (.int (1 : Int32))] []))
            refine own_st ?_ (fun t k => XS.iconst X4.here hx rfl (hb hby at_83) k)
            show own_G p.tables e below _ _ (T4.setTop (mkF m 84 #[.val (.int p0), .val (.int p1), .val (.int ((p0 &&& (2147483647 : Int32)) - ((p0 &&& (2147483647 : Int32)) / (6 : Int32)) * (6 : Int32))), .val (.int ((p1 &&& (2147483647 : Int32)) - ((p1 &&& (2147483647 : Int32)) / (6 : Int32)) * (6 : Int32))), .val (.ref (f1 ((p0 &&& (2147483647 : Int32)) - ((p0 &&& (2147483647 : Int32)) / (6 : Int32)) * (6 : Int32)) w_LOW w_SUBSTANTIAL w_HIGH w_NOT_NOTIFIED_LOW w_NOT_NOTIFIED_SUBSTANTIAL w_NOT_NOTIFIED_HIGH)), .val (.ref (f1 ((p1 &&& (2147483647 : Int32)) - ((p1 &&& (2147483647 : Int32)) / (6 : Int32)) * (6 : Int32)) w_LOW w_SUBSTANTIAL w_HIGH w_NOT_NOTIFIED_LOW w_NOT_NOTIFIED_SUBSTANTIAL w_NOT_NOTIFIED_HIGH)), .val (.int (1 : Int32))] [(.int (0 : Int32))]))
            refine own_retN X4 hx hlk (t := .boolean) hret (by simp) (hb hby at_84) (by decide) (by decide) (z' := (0 : Int32)) rfl ⟨?_, N4, e4⟩
            rw [show f0 p0 p1 w_LOW w_SUBSTANTIAL w_HIGH w_NOT_NOTIFIED_LOW w_NOT_NOTIFIED_SUBSTANTIAL w_NOT_NOTIFIED_HIGH = (0 : Int32) from (if_neg hc30).trans ((if_pos hc41).trans ((if_pos hc46).trans ((if_pos hc51).trans ((if_neg hc76).trans (rfl)))))]
        · refine own_st ?_ (fun t k => XS.icmpYes X2.here hx rfl (pc0 := 51) (pc' := 58) rfl (hb hby at_51) rfl (flt hc51).2.2.2 (by decide) (by decide) k)
          show own_G p.tables e below _ _ (T2.setTop (mkF m 58 #[.val (.int p0), .val (.int p1), .val (.int ((p0 &&& (2147483647 : Int32)) - ((p0 &&& (2147483647 : Int32)) / (6 : Int32)) * (6 : Int32))), .val (.int ((p1 &&& (2147483647 : Int32)) - ((p1 &&& (2147483647 : Int32)) / (6 : Int32)) * (6 : Int32))), .val (.ref (f1 ((p0 &&& (2147483647 : Int32)) - ((p0 &&& (2147483647 : Int32)) / (6 : Int32)) * (6 : Int32)) w_LOW w_SUBSTANTIAL w_HIGH w_NOT_NOTIFIED_LOW w_NOT_NOTIFIED_SUBSTANTIAL w_NOT_NOTIFIED_HIGH)), .val (.ref (f1 ((p1 &&& (2147483647 : Int32)) - ((p1 &&& (2147483647 : Int32)) / (6 : Int32)) * (6 : Int32)) w_LOW w_SUBSTANTIAL w_HIGH w_NOT_NOTIFIED_LOW w_NOT_NOTIFIED_SUBSTANTIAL w_NOT_NOTIFIED_HIGH)), .unset] []))
          refine own_st ?_ (fun t k => XS.iconst X2.here hx rfl (hb hby at_58) k)
          show own_G p.tables e below _ _ (T2.setTop (mkF m 59 #[.val (.int p0), .val (.int p1), .val (.int ((p0 &&& (2147483647 : Int32)) - ((p0 &&& (2147483647 : Int32)) / (6 : Int32)) * (6 : Int32))), .val (.int ((p1 &&& (2147483647 : Int32)) - ((p1 &&& (2147483647 : Int32)) / (6 : Int32)) * (6 : Int32))), .val (.ref (f1 ((p0 &&& (2147483647 : Int32)) - ((p0 &&& (2147483647 : Int32)) / (6 : Int32)) * (6 : Int32)) w_LOW w_SUBSTANTIAL w_HIGH w_NOT_NOTIFIED_LOW w_NOT_NOTIFIED_SUBSTANTIAL w_NOT_NOTIFIED_HIGH)), .val (.ref (f1 ((p1 &&& (2147483647 : Int32)) - ((p1 &&& (2147483647 : Int32)) / (6 : Int32)) * (6 : Int32)) w_LOW w_SUBSTANTIAL w_HIGH w_NOT_NOTIFIED_LOW w_NOT_NOTIFIED_SUBSTANTIAL w_NOT_NOTIFIED_HIGH)), .unset] [(.int (0 : Int32))]))
          refine own_st ?_ (fun t k => XS.istore X2.here hx rfl (hb hby at_59) rfl (l' := #[.val (.int p0), .val (.int p1), .val (.int ((p0 &&& (2147483647 : Int32)) - ((p0 &&& (2147483647 : Int32)) / (6 : Int32)) * (6 : Int32))), .val (.int ((p1 &&& (2147483647 : Int32)) - ((p1 &&& (2147483647 : Int32)) / (6 : Int32)) * (6 : Int32))), .val (.ref (f1 ((p0 &&& (2147483647 : Int32)) - ((p0 &&& (2147483647 : Int32)) / (6 : Int32)) * (6 : Int32)) w_LOW w_SUBSTANTIAL w_HIGH w_NOT_NOTIFIED_LOW w_NOT_NOTIFIED_SUBSTANTIAL w_NOT_NOTIFIED_HIGH)), .val (.ref (f1 ((p1 &&& (2147483647 : Int32)) - ((p1 &&& (2147483647 : Int32)) / (6 : Int32)) * (6 : Int32)) w_LOW w_SUBSTANTIAL w_HIGH w_NOT_NOTIFIED_LOW w_NOT_NOTIFIED_SUBSTANTIAL w_NOT_NOTIFIED_HIGH)), .val (.int (0 : Int32))]) rfl k)
          show own_G p.tables e below _ _ (T2.setTop (mkF m 61 #[.val (.int p0), .val (.int p1), .val (.int ((p0 &&& (2147483647 : Int32)) - ((p0 &&& (2147483647 : Int32)) / (6 : Int32)) * (6 : Int32))), .val (.int ((p1 &&& (2147483647 : Int32)) - ((p1 &&& (2147483647 : Int32)) / (6 : Int32)) * (6 : Int32))), .val (.ref (f1 ((p0 &&& (2147483647 : Int32)) - ((p0 &&& (2147483647 : Int32)) / (6 : Int32)) * (6 : Int32)) w_LOW w_SUBSTANTIAL w_HIGH w_NOT_NOTIFIED_LOW w_NOT_NOTIFIED_SUBSTANTIAL w_NOT_NOTIFIED_HIGH)), .val (.ref (f1 ((p1 &&& (2147483647 : Int32)) - ((p1 &&& (2147483647 : Int32)) / (6 : Int32)) * (6 : Int32)) w_LOW w_SUBSTANTIAL w_HIGH w_NOT_NOTIFIED_LOW w_NOT_NOTIFIED_SUBSTANTIAL w_NOT_NOTIFIED_HIGH)), .val (.int (0 : Int32))] []))
          refine own_st ?_ (fun t k => XS.goto X2.here hx rfl (pc0 := 61) (pc' := 67) rfl (hb hby at_61) (by decide) (by decide) k)
          show own_G p.tables e below _ _ (T2.setTop (mkF m 67 #[.val (.int p0), .val (.int p1), .val (.int ((p0 &&& (2147483647 : Int32)) - ((p0 &&& (2147483647 : Int32)) / (6 : Int32)) * (6 : Int32))), .val (.int ((p1 &&& (2147483647 : Int32)) - ((p1 &&& (2147483647 : Int32)) / (6 : Int32)) * (6 : Int32))), .val (.ref (f1 ((p0 &&& (2147483647 : Int32)) - ((p0 &&& (2147483647 : Int32)) / (6 : Int32)) * (6 : Int32)) w_LOW w_SUBSTANTIAL w_HIGH w_NOT_NOTIFIED_LOW w_NOT_NOTIFIED_SUBSTANTIAL w_NOT_NOTIFIED_HIGH)), .val (.ref (f1 ((p1 &&& (2147483647 : Int32)) - ((p1 &&& (2147483647 : Int32)) / (6 : Int32)) * (6 : Int32)) w_LOW w_SUBSTANTIAL w_HIGH w_NOT_NOTIFIED_LOW w_NOT_NOTIFIED_SUBSTANTIAL w_NOT_NOTIFIED_HIGH)), .val (.int (0 : Int32))] []))
          refine own_st ?_ (fun t k => XS.aload X2.here hx rfl (hb hby at_67) rfl rfl k)
          show own_G p.tables e below _ _ (T2.setTop (mkF m 69 #[.val (.int p0), .val (.int p1), .val (.int ((p0 &&& (2147483647 : Int32)) - ((p0 &&& (2147483647 : Int32)) / (6 : Int32)) * (6 : Int32))), .val (.int ((p1 &&& (2147483647 : Int32)) - ((p1 &&& (2147483647 : Int32)) / (6 : Int32)) * (6 : Int32))), .val (.ref (f1 ((p0 &&& (2147483647 : Int32)) - ((p0 &&& (2147483647 : Int32)) / (6 : Int32)) * (6 : Int32)) w_LOW w_SUBSTANTIAL w_HIGH w_NOT_NOTIFIED_LOW w_NOT_NOTIFIED_SUBSTANTIAL w_NOT_NOTIFIED_HIGH)), .val (.ref (f1 ((p1 &&& (2147483647 : Int32)) - ((p1 &&& (2147483647 : Int32)) / (6 : Int32)) * (6 : Int32)) w_LOW w_SUBSTANTIAL w_HIGH w_NOT_NOTIFIED_LOW w_NOT_NOTIFIED_SUBSTANTIAL w_NOT_NOTIFIED_HIGH)), .val (.int (0 : Int32))] [(.ref (f1 ((p0 &&& (2147483647 : Int32)) - ((p0 &&& (2147483647 : Int32)) / (6 : Int32)) * (6 : Int32)) w_LOW w_SUBSTANTIAL w_HIGH w_NOT_NOTIFIED_LOW w_NOT_NOTIFIED_SUBSTANTIAL w_NOT_NOTIFIED_HIGH))]))
          refine own_st ?_ (fun t k => XS.aload X2.here hx rfl (hb hby at_69) rfl rfl k)
          show own_G p.tables e below _ _ (T2.setTop (mkF m 71 #[.val (.int p0), .val (.int p1), .val (.int ((p0 &&& (2147483647 : Int32)) - ((p0 &&& (2147483647 : Int32)) / (6 : Int32)) * (6 : Int32))), .val (.int ((p1 &&& (2147483647 : Int32)) - ((p1 &&& (2147483647 : Int32)) / (6 : Int32)) * (6 : Int32))), .val (.ref (f1 ((p0 &&& (2147483647 : Int32)) - ((p0 &&& (2147483647 : Int32)) / (6 : Int32)) * (6 : Int32)) w_LOW w_SUBSTANTIAL w_HIGH w_NOT_NOTIFIED_LOW w_NOT_NOTIFIED_SUBSTANTIAL w_NOT_NOTIFIED_HIGH)), .val (.ref (f1 ((p1 &&& (2147483647 : Int32)) - ((p1 &&& (2147483647 : Int32)) / (6 : Int32)) * (6 : Int32)) w_LOW w_SUBSTANTIAL w_HIGH w_NOT_NOTIFIED_LOW w_NOT_NOTIFIED_SUBSTANTIAL w_NOT_NOTIFIED_HIGH)), .val (.int (0 : Int32))] [(.ref (f1 ((p1 &&& (2147483647 : Int32)) - ((p1 &&& (2147483647 : Int32)) / (6 : Int32)) * (6 : Int32)) w_LOW w_SUBSTANTIAL w_HIGH w_NOT_NOTIFIED_LOW w_NOT_NOTIFIED_SUBSTANTIAL w_NOT_NOTIFIED_HIGH)), (.ref (f1 ((p0 &&& (2147483647 : Int32)) - ((p0 &&& (2147483647 : Int32)) / (6 : Int32)) * (6 : Int32)) w_LOW w_SUBSTANTIAL w_HIGH w_NOT_NOTIFIED_LOW w_NOT_NOTIFIED_SUBSTANTIAL w_NOT_NOTIFIED_HIGH))]))
          obtain ⟨cq5, kq5, q5a, q5b, q5c⟩ := isOf hZ e2 (own_pe E_LOW E_SUBSTANTIAL E_HIGH E_NOT_NOTIFIED_LOW E_NOT_NOTIFIED_SUBSTANTIAL E_NOT_NOTIFIED_HIGH ((p0 &&& (2147483647 : Int32)) - ((p0 &&& (2147483647 : Int32)) / (6 : Int32)) * (6 : Int32)))
          obtain ⟨_, _, ⟨T5, L5, k5, n5⟩, -, X5, ⟨Lc5, hQ5, l5, y5, z5⟩, st5⟩ := X2.virtualBack hx (y := (⟨"com/example/crossgate/crossgate/LevelOfAssurance", "satisfies", "(Lcom/example/crossgate/crossgate/LevelOfAssurance;)Z"⟩ : MethodName)) (z := (⟨"com/example/crossgate/crossgate/LevelOfAssurance", "satisfies", "(Lcom/example/crossgate/crossgate/LevelOfAssurance;)Z"⟩ : MethodName)) hown (mvT hZ (hw _ (List.mem_of_getElem? (i := 10) rfl))) (mvT hZ (hw _ (List.mem_of_getElem? (i := 11) rfl))) (notFace_of_selects (args := #[]) (mvT hZ (hw _ (List.mem_of_getElem? (i := 13) rfl)))) (mvT hZ (hw _ (List.mem_of_getElem? (i := 13) rfl))) (mvT hZ (hw _ (List.mem_of_getElem? (i := 12) rfl))) (by decide) (backOf (W := 0) (rm2 l Z _ hw [] (f1 ((p0 &&& (2147483647 : Int32)) - ((p0 &&& (2147483647 : Int32)) / (6 : Int32)) * (6 : Int32)) w_LOW w_SUBSTANTIAL w_HIGH w_NOT_NOTIFIED_LOW w_NOT_NOTIFIED_SUBSTANTIAL w_NOT_NOTIFIED_HIGH) (f1 ((p1 &&& (2147483647 : Int32)) - ((p1 &&& (2147483647 : Int32)) / (6 : Int32)) * (6 : Int32)) w_LOW w_SUBSTANTIAL w_HIGH w_NOT_NOTIFIED_LOW w_NOT_NOTIFIED_SUBSTANTIAL w_NOT_NOTIFIED_HIGH) (own_rank ((p0 &&& (2147483647 : Int32)) - ((p0 &&& (2147483647 : Int32)) / (6 : Int32)) * (6 : Int32))) (own_rank ((p1 &&& (2147483647 : Int32)) - ((p1 &&& (2147483647 : Int32)) / (6 : Int32)) * (6 : Int32))) h0 n0 Z0 (own_pr F_rank_LOW F_rank_SUBSTANTIAL F_rank_HIGH F_rank_NOT_NOTIFIED_LOW F_rank_NOT_NOTIFIED_SUBSTANTIAL F_rank_NOT_NOTIFIED_HIGH ((p0 &&& (2147483647 : Int32)) - ((p0 &&& (2147483647 : Int32)) / (6 : Int32)) * (6 : Int32))) (own_pr F_rank_LOW F_rank_SUBSTANTIAL F_rank_HIGH F_rank_NOT_NOTIFIED_LOW F_rank_NOT_NOTIFIED_SUBSTANTIAL F_rank_NOT_NOTIFIED_HIGH ((p1 &&& (2147483647 : Int32)) - ((p1 &&& (2147483647 : Int32)) / (6 : Int32)) * (6 : Int32)))) hZ (hw _ (List.mem_of_getElem? (i := 14) rfl)) (hw _ (List.mem_of_getElem? (i := 6) rfl)) (by decide) (by decide)) q5a q5c (g := (mkF m 71 #[.val (.int p0), .val (.int p1), .val (.int ((p0 &&& (2147483647 : Int32)) - ((p0 &&& (2147483647 : Int32)) / (6 : Int32)) * (6 : Int32))), .val (.int ((p1 &&& (2147483647 : Int32)) - ((p1 &&& (2147483647 : Int32)) / (6 : Int32)) * (6 : Int32))), .val (.ref (f1 ((p0 &&& (2147483647 : Int32)) - ((p0 &&& (2147483647 : Int32)) / (6 : Int32)) * (6 : Int32)) w_LOW w_SUBSTANTIAL w_HIGH w_NOT_NOTIFIED_LOW w_NOT_NOTIFIED_SUBSTANTIAL w_NOT_NOTIFIED_HIGH)), .val (.ref (f1 ((p1 &&& (2147483647 : Int32)) - ((p1 &&& (2147483647 : Int32)) / (6 : Int32)) * (6 : Int32)) w_LOW w_SUBSTANTIAL w_HIGH w_NOT_NOTIFIED_LOW w_NOT_NOTIFIED_SUBSTANTIAL w_NOT_NOTIFIED_HIGH)), .val (.int (0 : Int32))] [(.ref (f1 ((p1 &&& (2147483647 : Int32)) - ((p1 &&& (2147483647 : Int32)) / (6 : Int32)) * (6 : Int32)) w_LOW w_SUBSTANTIAL w_HIGH w_NOT_NOTIFIED_LOW w_NOT_NOTIFIED_SUBSTANTIAL w_NOT_NOTIFIED_HIGH)), (.ref (f1 ((p0 &&& (2147483647 : Int32)) - ((p0 &&& (2147483647 : Int32)) / (6 : Int32)) * (6 : Int32)) w_LOW w_SUBSTANTIAL w_HIGH w_NOT_NOTIFIED_LOW w_NOT_NOTIFIED_SUBSTANTIAL w_NOT_NOTIFIED_HIGH))])) rfl (by rw [hml]; rfl) (Steps.refl _) (argsL := [(.ref (f1 ((p1 &&& (2147483647 : Int32)) - ((p1 &&& (2147483647 : Int32)) / (6 : Int32)) * (6 : Int32)) w_LOW w_SUBSTANTIAL w_HIGH w_NOT_NOTIFIED_LOW w_NOT_NOTIFIED_SUBSTANTIAL w_NOT_NOTIFIED_HIGH))]) (rest := []) (lenOf pd_1 rfl) rfl (by show 2 * 0 + _ ≤ _; exact Nat.le_of_eq rfl) (hb hby at_71) (fun _ _ => ⟨rfl, e2, (by decide : 0 + 0 ≤ _), (by decide : 0 + 0 ≤ _)⟩)
          dsimp only [Pt.U, Pt.locs, Pt.cells, Pt.slots] at X5 l5 y5 z5 st5 hQ5
          subst l5 y5 z5
          obtain ⟨rfl, N5q, e5⟩ := hQ5
          have N5 := Fr.app N2 N5q
          refine own_st ?_ (fun t k => st5.trans k)
          show own_G p.tables e below _ _ (T5.setTop (mkF m 74 #[.val (.int p0), .val (.int p1), .val (.int ((p0 &&& (2147483647 : Int32)) - ((p0 &&& (2147483647 : Int32)) / (6 : Int32)) * (6 : Int32))), .val (.int ((p1 &&& (2147483647 : Int32)) - ((p1 &&& (2147483647 : Int32)) / (6 : Int32)) * (6 : Int32))), .val (.ref (f1 ((p0 &&& (2147483647 : Int32)) - ((p0 &&& (2147483647 : Int32)) / (6 : Int32)) * (6 : Int32)) w_LOW w_SUBSTANTIAL w_HIGH w_NOT_NOTIFIED_LOW w_NOT_NOTIFIED_SUBSTANTIAL w_NOT_NOTIFIED_HIGH)), .val (.ref (f1 ((p1 &&& (2147483647 : Int32)) - ((p1 &&& (2147483647 : Int32)) / (6 : Int32)) * (6 : Int32)) w_LOW w_SUBSTANTIAL w_HIGH w_NOT_NOTIFIED_LOW w_NOT_NOTIFIED_SUBSTANTIAL w_NOT_NOTIFIED_HIGH)), .val (.int (0 : Int32))] [(.int (f2 (f1 ((p0 &&& (2147483647 : Int32)) - ((p0 &&& (2147483647 : Int32)) / (6 : Int32)) * (6 : Int32)) w_LOW w_SUBSTANTIAL w_HIGH w_NOT_NOTIFIED_LOW w_NOT_NOTIFIED_SUBSTANTIAL w_NOT_NOTIFIED_HIGH) (f1 ((p1 &&& (2147483647 : Int32)) - ((p1 &&& (2147483647 : Int32)) / (6 : Int32)) * (6 : Int32)) w_LOW w_SUBSTANTIAL w_HIGH w_NOT_NOTIFIED_LOW w_NOT_NOTIFIED_SUBSTANTIAL w_NOT_NOTIFIED_HIGH) (own_rank ((p0 &&& (2147483647 : Int32)) - ((p0 &&& (2147483647 : Int32)) / (6 : Int32)) * (6 : Int32))) (own_rank ((p1 &&& (2147483647 : Int32)) - ((p1 &&& (2147483647 : Int32)) / (6 : Int32)) * (6 : Int32)))))]))
          refine own_st ?_ (fun t k => XS.iload X5.here hx rfl (hb hby at_74) rfl k)
          show own_G p.tables e below _ _ (T5.setTop (mkF m 76 #[.val (.int p0), .val (.int p1), .val (.int ((p0 &&& (2147483647 : Int32)) - ((p0 &&& (2147483647 : Int32)) / (6 : Int32)) * (6 : Int32))), .val (.int ((p1 &&& (2147483647 : Int32)) - ((p1 &&& (2147483647 : Int32)) / (6 : Int32)) * (6 : Int32))), .val (.ref (f1 ((p0 &&& (2147483647 : Int32)) - ((p0 &&& (2147483647 : Int32)) / (6 : Int32)) * (6 : Int32)) w_LOW w_SUBSTANTIAL w_HIGH w_NOT_NOTIFIED_LOW w_NOT_NOTIFIED_SUBSTANTIAL w_NOT_NOTIFIED_HIGH)), .val (.ref (f1 ((p1 &&& (2147483647 : Int32)) - ((p1 &&& (2147483647 : Int32)) / (6 : Int32)) * (6 : Int32)) w_LOW w_SUBSTANTIAL w_HIGH w_NOT_NOTIFIED_LOW w_NOT_NOTIFIED_SUBSTANTIAL w_NOT_NOTIFIED_HIGH)), .val (.int (0 : Int32))] [(.int (0 : Int32)), (.int (f2 (f1 ((p0 &&& (2147483647 : Int32)) - ((p0 &&& (2147483647 : Int32)) / (6 : Int32)) * (6 : Int32)) w_LOW w_SUBSTANTIAL w_HIGH w_NOT_NOTIFIED_LOW w_NOT_NOTIFIED_SUBSTANTIAL w_NOT_NOTIFIED_HIGH) (f1 ((p1 &&& (2147483647 : Int32)) - ((p1 &&& (2147483647 : Int32)) / (6 : Int32)) * (6 : Int32)) w_LOW w_SUBSTANTIAL w_HIGH w_NOT_NOTIFIED_LOW w_NOT_NOTIFIED_SUBSTANTIAL w_NOT_NOTIFIED_HIGH) (own_rank ((p0 &&& (2147483647 : Int32)) - ((p0 &&& (2147483647 : Int32)) / (6 : Int32)) * (6 : Int32))) (own_rank ((p1 &&& (2147483647 : Int32)) - ((p1 &&& (2147483647 : Int32)) / (6 : Int32)) * (6 : Int32)))))]))
          by_cases hc76 : (f2 (f1 ((p0 &&& (2147483647 : Int32)) - ((p0 &&& (2147483647 : Int32)) / (6 : Int32)) * (6 : Int32)) w_LOW w_SUBSTANTIAL w_HIGH w_NOT_NOTIFIED_LOW w_NOT_NOTIFIED_SUBSTANTIAL w_NOT_NOTIFIED_HIGH) (f1 ((p1 &&& (2147483647 : Int32)) - ((p1 &&& (2147483647 : Int32)) / (6 : Int32)) * (6 : Int32)) w_LOW w_SUBSTANTIAL w_HIGH w_NOT_NOTIFIED_LOW w_NOT_NOTIFIED_SUBSTANTIAL w_NOT_NOTIFIED_HIGH) (own_rank ((p0 &&& (2147483647 : Int32)) - ((p0 &&& (2147483647 : Int32)) / (6 : Int32)) * (6 : Int32))) (own_rank ((p1 &&& (2147483647 : Int32)) - ((p1 &&& (2147483647 : Int32)) / (6 : Int32)) * (6 : Int32)))) = (0 : Int32)
          · refine own_st ?_ (fun t k => XS.icmpNo X5.here hx rfl (hb hby at_76) rfl (teq hc76).2 k)
            show own_G p.tables e below _ _ (T5.setTop (mkF m 79 #[.val (.int p0), .val (.int p1), .val (.int ((p0 &&& (2147483647 : Int32)) - ((p0 &&& (2147483647 : Int32)) / (6 : Int32)) * (6 : Int32))), .val (.int ((p1 &&& (2147483647 : Int32)) - ((p1 &&& (2147483647 : Int32)) / (6 : Int32)) * (6 : Int32))), .val (.ref (f1 ((p0 &&& (2147483647 : Int32)) - ((p0 &&& (2147483647 : Int32)) / (6 : Int32)) * (6 : Int32)) w_LOW w_SUBSTANTIAL w_HIGH w_NOT_NOTIFIED_LOW w_NOT_NOTIFIED_SUBSTANTIAL w_NOT_NOTIFIED_HIGH)), .val (.ref (f1 ((p1 &&& (2147483647 : Int32)) - ((p1 &&& (2147483647 : Int32)) / (6 : Int32)) * (6 : Int32)) w_LOW w_SUBSTANTIAL w_HIGH w_NOT_NOTIFIED_LOW w_NOT_NOTIFIED_SUBSTANTIAL w_NOT_NOTIFIED_HIGH)), .val (.int (0 : Int32))] []))
            refine own_st ?_ (fun t k => XS.iconst X5.here hx rfl (hb hby at_79) k)
            show own_G p.tables e below _ _ (T5.setTop (mkF m 80 #[.val (.int p0), .val (.int p1), .val (.int ((p0 &&& (2147483647 : Int32)) - ((p0 &&& (2147483647 : Int32)) / (6 : Int32)) * (6 : Int32))), .val (.int ((p1 &&& (2147483647 : Int32)) - ((p1 &&& (2147483647 : Int32)) / (6 : Int32)) * (6 : Int32))), .val (.ref (f1 ((p0 &&& (2147483647 : Int32)) - ((p0 &&& (2147483647 : Int32)) / (6 : Int32)) * (6 : Int32)) w_LOW w_SUBSTANTIAL w_HIGH w_NOT_NOTIFIED_LOW w_NOT_NOTIFIED_SUBSTANTIAL w_NOT_NOTIFIED_HIGH)), .val (.ref (f1 ((p1 &&& (2147483647 : Int32)) - ((p1 &&& (2147483647 : Int32)) / (6 : Int32)) * (6 : Int32)) w_LOW w_SUBSTANTIAL w_HIGH w_NOT_NOTIFIED_LOW w_NOT_NOTIFIED_SUBSTANTIAL w_NOT_NOTIFIED_HIGH)), .val (.int (0 : Int32))] [(.int (1 : Int32))]))
            refine own_st ?_ (fun t k => XS.goto X5.here hx rfl (pc0 := 80) (pc' := 84) rfl (hb hby at_80) (by decide) (by decide) k)
            show own_G p.tables e below _ _ (T5.setTop (mkF m 84 #[.val (.int p0), .val (.int p1), .val (.int ((p0 &&& (2147483647 : Int32)) - ((p0 &&& (2147483647 : Int32)) / (6 : Int32)) * (6 : Int32))), .val (.int ((p1 &&& (2147483647 : Int32)) - ((p1 &&& (2147483647 : Int32)) / (6 : Int32)) * (6 : Int32))), .val (.ref (f1 ((p0 &&& (2147483647 : Int32)) - ((p0 &&& (2147483647 : Int32)) / (6 : Int32)) * (6 : Int32)) w_LOW w_SUBSTANTIAL w_HIGH w_NOT_NOTIFIED_LOW w_NOT_NOTIFIED_SUBSTANTIAL w_NOT_NOTIFIED_HIGH)), .val (.ref (f1 ((p1 &&& (2147483647 : Int32)) - ((p1 &&& (2147483647 : Int32)) / (6 : Int32)) * (6 : Int32)) w_LOW w_SUBSTANTIAL w_HIGH w_NOT_NOTIFIED_LOW w_NOT_NOTIFIED_SUBSTANTIAL w_NOT_NOTIFIED_HIGH)), .val (.int (0 : Int32))] [(.int (1 : Int32))]))
            refine own_retN X5 hx hlk (t := .boolean) hret (by simp) (hb hby at_84) (by decide) (by decide) (z' := (1 : Int32)) rfl ⟨?_, N5, e5⟩
            rw [show f0 p0 p1 w_LOW w_SUBSTANTIAL w_HIGH w_NOT_NOTIFIED_LOW w_NOT_NOTIFIED_SUBSTANTIAL w_NOT_NOTIFIED_HIGH = (1 : Int32) from (if_neg hc30).trans ((if_pos hc41).trans ((if_pos hc46).trans ((if_neg hc51).trans ((if_pos hc76).trans (rfl)))))]
          · refine own_st ?_ (fun t k => XS.icmpYes X5.here hx rfl (pc0 := 76) (pc' := 83) rfl (hb hby at_76) rfl (feq hc76).2 (by decide) (by decide) k)
            show own_G p.tables e below _ _ (T5.setTop (mkF m 83 #[.val (.int p0), .val (.int p1), .val (.int ((p0 &&& (2147483647 : Int32)) - ((p0 &&& (2147483647 : Int32)) / (6 : Int32)) * (6 : Int32))), .val (.int ((p1 &&& (2147483647 : Int32)) - ((p1 &&& (2147483647 : Int32)) / (6 : Int32)) * (6 : Int32))), .val (.ref (f1 ((p0 &&& (2147483647 : Int32)) - ((p0 &&& (2147483647 : Int32)) / (6 : Int32)) * (6 : Int32)) w_LOW w_SUBSTANTIAL w_HIGH w_NOT_NOTIFIED_LOW w_NOT_NOTIFIED_SUBSTANTIAL w_NOT_NOTIFIED_HIGH)), .val (.ref (f1 ((p1 &&& (2147483647 : Int32)) - ((p1 &&& (2147483647 : Int32)) / (6 : Int32)) * (6 : Int32)) w_LOW w_SUBSTANTIAL w_HIGH w_NOT_NOTIFIED_LOW w_NOT_NOTIFIED_SUBSTANTIAL w_NOT_NOTIFIED_HIGH)), .val (.int (0 : Int32))] []))
            refine own_st ?_ (fun t k => XS.iconst X5.here hx rfl (hb hby at_83) k)
            show own_G p.tables e below _ _ (T5.setTop (mkF m 84 #[.val (.int p0), .val (.int p1), .val (.int ((p0 &&& (2147483647 : Int32)) - ((p0 &&& (2147483647 : Int32)) / (6 : Int32)) * (6 : Int32))), .val (.int ((p1 &&& (2147483647 : Int32)) - ((p1 &&& (2147483647 : Int32)) / (6 : Int32)) * (6 : Int32))), .val (.ref (f1 ((p0 &&& (2147483647 : Int32)) - ((p0 &&& (2147483647 : Int32)) / (6 : Int32)) * (6 : Int32)) w_LOW w_SUBSTANTIAL w_HIGH w_NOT_NOTIFIED_LOW w_NOT_NOTIFIED_SUBSTANTIAL w_NOT_NOTIFIED_HIGH)), .val (.ref (f1 ((p1 &&& (2147483647 : Int32)) - ((p1 &&& (2147483647 : Int32)) / (6 : Int32)) * (6 : Int32)) w_LOW w_SUBSTANTIAL w_HIGH w_NOT_NOTIFIED_LOW w_NOT_NOTIFIED_SUBSTANTIAL w_NOT_NOTIFIED_HIGH)), .val (.int (0 : Int32))] [(.int (0 : Int32))]))
            refine own_retN X5 hx hlk (t := .boolean) hret (by simp) (hb hby at_84) (by decide) (by decide) (z' := (0 : Int32)) rfl ⟨?_, N5, e5⟩
            rw [show f0 p0 p1 w_LOW w_SUBSTANTIAL w_HIGH w_NOT_NOTIFIED_LOW w_NOT_NOTIFIED_SUBSTANTIAL w_NOT_NOTIFIED_HIGH = (0 : Int32) from (if_neg hc30).trans ((if_pos hc41).trans ((if_pos hc46).trans ((if_neg hc51).trans ((if_neg hc76).trans (rfl)))))]
      · refine own_st ?_ (fun t k => XS.icmpYes X2.here hx rfl (pc0 := 46) (pc' := 64) rfl (hb hby at_46) rfl (flt hc46).2.1 (by decide) (by decide) k)
        show own_G p.tables e below _ _ (T2.setTop (mkF m 64 #[.val (.int p0), .val (.int p1), .val (.int ((p0 &&& (2147483647 : Int32)) - ((p0 &&& (2147483647 : Int32)) / (6 : Int32)) * (6 : Int32))), .val (.int ((p1 &&& (2147483647 : Int32)) - ((p1 &&& (2147483647 : Int32)) / (6 : Int32)) * (6 : Int32))), .val (.ref (f1 ((p0 &&& (2147483647 : Int32)) - ((p0 &&& (2147483647 : Int32)) / (6 : Int32)) * (6 : Int32)) w_LOW w_SUBSTANTIAL w_HIGH w_NOT_NOTIFIED_LOW w_NOT_NOTIFIED_SUBSTANTIAL w_NOT_NOTIFIED_HIGH)), .val (.ref (f1 ((p1 &&& (2147483647 : Int32)) - ((p1 &&& (2147483647 : Int32)) / (6 : Int32)) * (6 : Int32)) w_LOW w_SUBSTANTIAL w_HIGH w_NOT_NOTIFIED_LOW w_NOT_NOTIFIED_SUBSTANTIAL w_NOT_NOTIFIED_HIGH)), .unset] []))
        refine own_st ?_ (fun t k => XS.iconst X2.here hx rfl (hb hby at_64) k)
        show own_G p.tables e below _ _ (T2.setTop (mkF m 65 #[.val (.int p0), .val (.int p1), .val (.int ((p0 &&& (2147483647 : Int32)) - ((p0 &&& (2147483647 : Int32)) / (6 : Int32)) * (6 : Int32))), .val (.int ((p1 &&& (2147483647 : Int32)) - ((p1 &&& (2147483647 : Int32)) / (6 : Int32)) * (6 : Int32))), .val (.ref (f1 ((p0 &&& (2147483647 : Int32)) - ((p0 &&& (2147483647 : Int32)) / (6 : Int32)) * (6 : Int32)) w_LOW w_SUBSTANTIAL w_HIGH w_NOT_NOTIFIED_LOW w_NOT_NOTIFIED_SUBSTANTIAL w_NOT_NOTIFIED_HIGH)), .val (.ref (f1 ((p1 &&& (2147483647 : Int32)) - ((p1 &&& (2147483647 : Int32)) / (6 : Int32)) * (6 : Int32)) w_LOW w_SUBSTANTIAL w_HIGH w_NOT_NOTIFIED_LOW w_NOT_NOTIFIED_SUBSTANTIAL w_NOT_NOTIFIED_HIGH)), .unset] [(.int (0 : Int32))]))
        refine own_st ?_ (fun t k => XS.istore X2.here hx rfl (hb hby at_65) rfl (l' := #[.val (.int p0), .val (.int p1), .val (.int ((p0 &&& (2147483647 : Int32)) - ((p0 &&& (2147483647 : Int32)) / (6 : Int32)) * (6 : Int32))), .val (.int ((p1 &&& (2147483647 : Int32)) - ((p1 &&& (2147483647 : Int32)) / (6 : Int32)) * (6 : Int32))), .val (.ref (f1 ((p0 &&& (2147483647 : Int32)) - ((p0 &&& (2147483647 : Int32)) / (6 : Int32)) * (6 : Int32)) w_LOW w_SUBSTANTIAL w_HIGH w_NOT_NOTIFIED_LOW w_NOT_NOTIFIED_SUBSTANTIAL w_NOT_NOTIFIED_HIGH)), .val (.ref (f1 ((p1 &&& (2147483647 : Int32)) - ((p1 &&& (2147483647 : Int32)) / (6 : Int32)) * (6 : Int32)) w_LOW w_SUBSTANTIAL w_HIGH w_NOT_NOTIFIED_LOW w_NOT_NOTIFIED_SUBSTANTIAL w_NOT_NOTIFIED_HIGH)), .val (.int (0 : Int32))]) rfl k)
        show own_G p.tables e below _ _ (T2.setTop (mkF m 67 #[.val (.int p0), .val (.int p1), .val (.int ((p0 &&& (2147483647 : Int32)) - ((p0 &&& (2147483647 : Int32)) / (6 : Int32)) * (6 : Int32))), .val (.int ((p1 &&& (2147483647 : Int32)) - ((p1 &&& (2147483647 : Int32)) / (6 : Int32)) * (6 : Int32))), .val (.ref (f1 ((p0 &&& (2147483647 : Int32)) - ((p0 &&& (2147483647 : Int32)) / (6 : Int32)) * (6 : Int32)) w_LOW w_SUBSTANTIAL w_HIGH w_NOT_NOTIFIED_LOW w_NOT_NOTIFIED_SUBSTANTIAL w_NOT_NOTIFIED_HIGH)), .val (.ref (f1 ((p1 &&& (2147483647 : Int32)) - ((p1 &&& (2147483647 : Int32)) / (6 : Int32)) * (6 : Int32)) w_LOW w_SUBSTANTIAL w_HIGH w_NOT_NOTIFIED_LOW w_NOT_NOTIFIED_SUBSTANTIAL w_NOT_NOTIFIED_HIGH)), .val (.int (0 : Int32))] []))
        refine own_st ?_ (fun t k => XS.aload X2.here hx rfl (hb hby at_67) rfl rfl k)
        show own_G p.tables e below _ _ (T2.setTop (mkF m 69 #[.val (.int p0), .val (.int p1), .val (.int ((p0 &&& (2147483647 : Int32)) - ((p0 &&& (2147483647 : Int32)) / (6 : Int32)) * (6 : Int32))), .val (.int ((p1 &&& (2147483647 : Int32)) - ((p1 &&& (2147483647 : Int32)) / (6 : Int32)) * (6 : Int32))), .val (.ref (f1 ((p0 &&& (2147483647 : Int32)) - ((p0 &&& (2147483647 : Int32)) / (6 : Int32)) * (6 : Int32)) w_LOW w_SUBSTANTIAL w_HIGH w_NOT_NOTIFIED_LOW w_NOT_NOTIFIED_SUBSTANTIAL w_NOT_NOTIFIED_HIGH)), .val (.ref (f1 ((p1 &&& (2147483647 : Int32)) - ((p1 &&& (2147483647 : Int32)) / (6 : Int32)) * (6 : Int32)) w_LOW w_SUBSTANTIAL w_HIGH w_NOT_NOTIFIED_LOW w_NOT_NOTIFIED_SUBSTANTIAL w_NOT_NOTIFIED_HIGH)), .val (.int (0 : Int32))] [(.ref (f1 ((p0 &&& (2147483647 : Int32)) - ((p0 &&& (2147483647 : Int32)) / (6 : Int32)) * (6 : Int32)) w_LOW w_SUBSTANTIAL w_HIGH w_NOT_NOTIFIED_LOW w_NOT_NOTIFIED_SUBSTANTIAL w_NOT_NOTIFIED_HIGH))]))
        refine own_st ?_ (fun t k => XS.aload X2.here hx rfl (hb hby at_69) rfl rfl k)
        show own_G p.tables e below _ _ (T2.setTop (mkF m 71 #[.val (.int p0), .val (.int p1), .val (.int ((p0 &&& (2147483647 : Int32)) - ((p0 &&& (2147483647 : Int32)) / (6 : Int32)) * (6 : Int32))), .val (.int ((p1 &&& (2147483647 : Int32)) - ((p1 &&& (2147483647 : Int32)) / (6 : Int32)) * (6 : Int32))), .val (.ref (f1 ((p0 &&& (2147483647 : Int32)) - ((p0 &&& (2147483647 : Int32)) / (6 : Int32)) * (6 : Int32)) w_LOW w_SUBSTANTIAL w_HIGH w_NOT_NOTIFIED_LOW w_NOT_NOTIFIED_SUBSTANTIAL w_NOT_NOTIFIED_HIGH)), .val (.ref (f1 ((p1 &&& (2147483647 : Int32)) - ((p1 &&& (2147483647 : Int32)) / (6 : Int32)) * (6 : Int32)) w_LOW w_SUBSTANTIAL w_HIGH w_NOT_NOTIFIED_LOW w_NOT_NOTIFIED_SUBSTANTIAL w_NOT_NOTIFIED_HIGH)), .val (.int (0 : Int32))] [(.ref (f1 ((p1 &&& (2147483647 : Int32)) - ((p1 &&& (2147483647 : Int32)) / (6 : Int32)) * (6 : Int32)) w_LOW w_SUBSTANTIAL w_HIGH w_NOT_NOTIFIED_LOW w_NOT_NOTIFIED_SUBSTANTIAL w_NOT_NOTIFIED_HIGH)), (.ref (f1 ((p0 &&& (2147483647 : Int32)) - ((p0 &&& (2147483647 : Int32)) / (6 : Int32)) * (6 : Int32)) w_LOW w_SUBSTANTIAL w_HIGH w_NOT_NOTIFIED_LOW w_NOT_NOTIFIED_SUBSTANTIAL w_NOT_NOTIFIED_HIGH))]))
        obtain ⟨cq6, kq6, q6a, q6b, q6c⟩ := isOf hZ e2 (own_pe E_LOW E_SUBSTANTIAL E_HIGH E_NOT_NOTIFIED_LOW E_NOT_NOTIFIED_SUBSTANTIAL E_NOT_NOTIFIED_HIGH ((p0 &&& (2147483647 : Int32)) - ((p0 &&& (2147483647 : Int32)) / (6 : Int32)) * (6 : Int32)))
        obtain ⟨_, _, ⟨T6, L6, k6, n6⟩, -, X6, ⟨Lc6, hQ6, l6, y6, z6⟩, st6⟩ := X2.virtualBack hx (y := (⟨"com/example/crossgate/crossgate/LevelOfAssurance", "satisfies", "(Lcom/example/crossgate/crossgate/LevelOfAssurance;)Z"⟩ : MethodName)) (z := (⟨"com/example/crossgate/crossgate/LevelOfAssurance", "satisfies", "(Lcom/example/crossgate/crossgate/LevelOfAssurance;)Z"⟩ : MethodName)) hown (mvT hZ (hw _ (List.mem_of_getElem? (i := 10) rfl))) (mvT hZ (hw _ (List.mem_of_getElem? (i := 11) rfl))) (notFace_of_selects (args := #[]) (mvT hZ (hw _ (List.mem_of_getElem? (i := 13) rfl)))) (mvT hZ (hw _ (List.mem_of_getElem? (i := 13) rfl))) (mvT hZ (hw _ (List.mem_of_getElem? (i := 12) rfl))) (by decide) (backOf (W := 0) (rm2 l Z _ hw [] (f1 ((p0 &&& (2147483647 : Int32)) - ((p0 &&& (2147483647 : Int32)) / (6 : Int32)) * (6 : Int32)) w_LOW w_SUBSTANTIAL w_HIGH w_NOT_NOTIFIED_LOW w_NOT_NOTIFIED_SUBSTANTIAL w_NOT_NOTIFIED_HIGH) (f1 ((p1 &&& (2147483647 : Int32)) - ((p1 &&& (2147483647 : Int32)) / (6 : Int32)) * (6 : Int32)) w_LOW w_SUBSTANTIAL w_HIGH w_NOT_NOTIFIED_LOW w_NOT_NOTIFIED_SUBSTANTIAL w_NOT_NOTIFIED_HIGH) (own_rank ((p0 &&& (2147483647 : Int32)) - ((p0 &&& (2147483647 : Int32)) / (6 : Int32)) * (6 : Int32))) (own_rank ((p1 &&& (2147483647 : Int32)) - ((p1 &&& (2147483647 : Int32)) / (6 : Int32)) * (6 : Int32))) h0 n0 Z0 (own_pr F_rank_LOW F_rank_SUBSTANTIAL F_rank_HIGH F_rank_NOT_NOTIFIED_LOW F_rank_NOT_NOTIFIED_SUBSTANTIAL F_rank_NOT_NOTIFIED_HIGH ((p0 &&& (2147483647 : Int32)) - ((p0 &&& (2147483647 : Int32)) / (6 : Int32)) * (6 : Int32))) (own_pr F_rank_LOW F_rank_SUBSTANTIAL F_rank_HIGH F_rank_NOT_NOTIFIED_LOW F_rank_NOT_NOTIFIED_SUBSTANTIAL F_rank_NOT_NOTIFIED_HIGH ((p1 &&& (2147483647 : Int32)) - ((p1 &&& (2147483647 : Int32)) / (6 : Int32)) * (6 : Int32)))) hZ (hw _ (List.mem_of_getElem? (i := 14) rfl)) (hw _ (List.mem_of_getElem? (i := 6) rfl)) (by decide) (by decide)) q6a q6c (g := (mkF m 71 #[.val (.int p0), .val (.int p1), .val (.int ((p0 &&& (2147483647 : Int32)) - ((p0 &&& (2147483647 : Int32)) / (6 : Int32)) * (6 : Int32))), .val (.int ((p1 &&& (2147483647 : Int32)) - ((p1 &&& (2147483647 : Int32)) / (6 : Int32)) * (6 : Int32))), .val (.ref (f1 ((p0 &&& (2147483647 : Int32)) - ((p0 &&& (2147483647 : Int32)) / (6 : Int32)) * (6 : Int32)) w_LOW w_SUBSTANTIAL w_HIGH w_NOT_NOTIFIED_LOW w_NOT_NOTIFIED_SUBSTANTIAL w_NOT_NOTIFIED_HIGH)), .val (.ref (f1 ((p1 &&& (2147483647 : Int32)) - ((p1 &&& (2147483647 : Int32)) / (6 : Int32)) * (6 : Int32)) w_LOW w_SUBSTANTIAL w_HIGH w_NOT_NOTIFIED_LOW w_NOT_NOTIFIED_SUBSTANTIAL w_NOT_NOTIFIED_HIGH)), .val (.int (0 : Int32))] [(.ref (f1 ((p1 &&& (2147483647 : Int32)) - ((p1 &&& (2147483647 : Int32)) / (6 : Int32)) * (6 : Int32)) w_LOW w_SUBSTANTIAL w_HIGH w_NOT_NOTIFIED_LOW w_NOT_NOTIFIED_SUBSTANTIAL w_NOT_NOTIFIED_HIGH)), (.ref (f1 ((p0 &&& (2147483647 : Int32)) - ((p0 &&& (2147483647 : Int32)) / (6 : Int32)) * (6 : Int32)) w_LOW w_SUBSTANTIAL w_HIGH w_NOT_NOTIFIED_LOW w_NOT_NOTIFIED_SUBSTANTIAL w_NOT_NOTIFIED_HIGH))])) rfl (by rw [hml]; rfl) (Steps.refl _) (argsL := [(.ref (f1 ((p1 &&& (2147483647 : Int32)) - ((p1 &&& (2147483647 : Int32)) / (6 : Int32)) * (6 : Int32)) w_LOW w_SUBSTANTIAL w_HIGH w_NOT_NOTIFIED_LOW w_NOT_NOTIFIED_SUBSTANTIAL w_NOT_NOTIFIED_HIGH))]) (rest := []) (lenOf pd_1 rfl) rfl (by show 2 * 0 + _ ≤ _; exact Nat.le_of_eq rfl) (hb hby at_71) (fun _ _ => ⟨rfl, e2, (by decide : 0 + 0 ≤ _), (by decide : 0 + 0 ≤ _)⟩)
        dsimp only [Pt.U, Pt.locs, Pt.cells, Pt.slots] at X6 l6 y6 z6 st6 hQ6
        subst l6 y6 z6
        obtain ⟨rfl, N6q, e6⟩ := hQ6
        have N6 := Fr.app N2 N6q
        refine own_st ?_ (fun t k => st6.trans k)
        show own_G p.tables e below _ _ (T6.setTop (mkF m 74 #[.val (.int p0), .val (.int p1), .val (.int ((p0 &&& (2147483647 : Int32)) - ((p0 &&& (2147483647 : Int32)) / (6 : Int32)) * (6 : Int32))), .val (.int ((p1 &&& (2147483647 : Int32)) - ((p1 &&& (2147483647 : Int32)) / (6 : Int32)) * (6 : Int32))), .val (.ref (f1 ((p0 &&& (2147483647 : Int32)) - ((p0 &&& (2147483647 : Int32)) / (6 : Int32)) * (6 : Int32)) w_LOW w_SUBSTANTIAL w_HIGH w_NOT_NOTIFIED_LOW w_NOT_NOTIFIED_SUBSTANTIAL w_NOT_NOTIFIED_HIGH)), .val (.ref (f1 ((p1 &&& (2147483647 : Int32)) - ((p1 &&& (2147483647 : Int32)) / (6 : Int32)) * (6 : Int32)) w_LOW w_SUBSTANTIAL w_HIGH w_NOT_NOTIFIED_LOW w_NOT_NOTIFIED_SUBSTANTIAL w_NOT_NOTIFIED_HIGH)), .val (.int (0 : Int32))] [(.int (f2 (f1 ((p0 &&& (2147483647 : Int32)) - ((p0 &&& (2147483647 : Int32)) / (6 : Int32)) * (6 : Int32)) w_LOW w_SUBSTANTIAL w_HIGH w_NOT_NOTIFIED_LOW w_NOT_NOTIFIED_SUBSTANTIAL w_NOT_NOTIFIED_HIGH) (f1 ((p1 &&& (2147483647 : Int32)) - ((p1 &&& (2147483647 : Int32)) / (6 : Int32)) * (6 : Int32)) w_LOW w_SUBSTANTIAL w_HIGH w_NOT_NOTIFIED_LOW w_NOT_NOTIFIED_SUBSTANTIAL w_NOT_NOTIFIED_HIGH) (own_rank ((p0 &&& (2147483647 : Int32)) - ((p0 &&& (2147483647 : Int32)) / (6 : Int32)) * (6 : Int32))) (own_rank ((p1 &&& (2147483647 : Int32)) - ((p1 &&& (2147483647 : Int32)) / (6 : Int32)) * (6 : Int32)))))]))
        refine own_st ?_ (fun t k => XS.iload X6.here hx rfl (hb hby at_74) rfl k)
        show own_G p.tables e below _ _ (T6.setTop (mkF m 76 #[.val (.int p0), .val (.int p1), .val (.int ((p0 &&& (2147483647 : Int32)) - ((p0 &&& (2147483647 : Int32)) / (6 : Int32)) * (6 : Int32))), .val (.int ((p1 &&& (2147483647 : Int32)) - ((p1 &&& (2147483647 : Int32)) / (6 : Int32)) * (6 : Int32))), .val (.ref (f1 ((p0 &&& (2147483647 : Int32)) - ((p0 &&& (2147483647 : Int32)) / (6 : Int32)) * (6 : Int32)) w_LOW w_SUBSTANTIAL w_HIGH w_NOT_NOTIFIED_LOW w_NOT_NOTIFIED_SUBSTANTIAL w_NOT_NOTIFIED_HIGH)), .val (.ref (f1 ((p1 &&& (2147483647 : Int32)) - ((p1 &&& (2147483647 : Int32)) / (6 : Int32)) * (6 : Int32)) w_LOW w_SUBSTANTIAL w_HIGH w_NOT_NOTIFIED_LOW w_NOT_NOTIFIED_SUBSTANTIAL w_NOT_NOTIFIED_HIGH)), .val (.int (0 : Int32))] [(.int (0 : Int32)), (.int (f2 (f1 ((p0 &&& (2147483647 : Int32)) - ((p0 &&& (2147483647 : Int32)) / (6 : Int32)) * (6 : Int32)) w_LOW w_SUBSTANTIAL w_HIGH w_NOT_NOTIFIED_LOW w_NOT_NOTIFIED_SUBSTANTIAL w_NOT_NOTIFIED_HIGH) (f1 ((p1 &&& (2147483647 : Int32)) - ((p1 &&& (2147483647 : Int32)) / (6 : Int32)) * (6 : Int32)) w_LOW w_SUBSTANTIAL w_HIGH w_NOT_NOTIFIED_LOW w_NOT_NOTIFIED_SUBSTANTIAL w_NOT_NOTIFIED_HIGH) (own_rank ((p0 &&& (2147483647 : Int32)) - ((p0 &&& (2147483647 : Int32)) / (6 : Int32)) * (6 : Int32))) (own_rank ((p1 &&& (2147483647 : Int32)) - ((p1 &&& (2147483647 : Int32)) / (6 : Int32)) * (6 : Int32)))))]))
        by_cases hc76 : (f2 (f1 ((p0 &&& (2147483647 : Int32)) - ((p0 &&& (2147483647 : Int32)) / (6 : Int32)) * (6 : Int32)) w_LOW w_SUBSTANTIAL w_HIGH w_NOT_NOTIFIED_LOW w_NOT_NOTIFIED_SUBSTANTIAL w_NOT_NOTIFIED_HIGH) (f1 ((p1 &&& (2147483647 : Int32)) - ((p1 &&& (2147483647 : Int32)) / (6 : Int32)) * (6 : Int32)) w_LOW w_SUBSTANTIAL w_HIGH w_NOT_NOTIFIED_LOW w_NOT_NOTIFIED_SUBSTANTIAL w_NOT_NOTIFIED_HIGH) (own_rank ((p0 &&& (2147483647 : Int32)) - ((p0 &&& (2147483647 : Int32)) / (6 : Int32)) * (6 : Int32))) (own_rank ((p1 &&& (2147483647 : Int32)) - ((p1 &&& (2147483647 : Int32)) / (6 : Int32)) * (6 : Int32)))) = (0 : Int32)
        · refine own_st ?_ (fun t k => XS.icmpNo X6.here hx rfl (hb hby at_76) rfl (teq hc76).2 k)
          show own_G p.tables e below _ _ (T6.setTop (mkF m 79 #[.val (.int p0), .val (.int p1), .val (.int ((p0 &&& (2147483647 : Int32)) - ((p0 &&& (2147483647 : Int32)) / (6 : Int32)) * (6 : Int32))), .val (.int ((p1 &&& (2147483647 : Int32)) - ((p1 &&& (2147483647 : Int32)) / (6 : Int32)) * (6 : Int32))), .val (.ref (f1 ((p0 &&& (2147483647 : Int32)) - ((p0 &&& (2147483647 : Int32)) / (6 : Int32)) * (6 : Int32)) w_LOW w_SUBSTANTIAL w_HIGH w_NOT_NOTIFIED_LOW w_NOT_NOTIFIED_SUBSTANTIAL w_NOT_NOTIFIED_HIGH)), .val (.ref (f1 ((p1 &&& (2147483647 : Int32)) - ((p1 &&& (2147483647 : Int32)) / (6 : Int32)) * (6 : Int32)) w_LOW w_SUBSTANTIAL w_HIGH w_NOT_NOTIFIED_LOW w_NOT_NOTIFIED_SUBSTANTIAL w_NOT_NOTIFIED_HIGH)), .val (.int (0 : Int32))] []))
          refine own_st ?_ (fun t k => XS.iconst X6.here hx rfl (hb hby at_79) k)
          show own_G p.tables e below _ _ (T6.setTop (mkF m 80 #[.val (.int p0), .val (.int p1), .val (.int ((p0 &&& (2147483647 : Int32)) - ((p0 &&& (2147483647 : Int32)) / (6 : Int32)) * (6 : Int32))), .val (.int ((p1 &&& (2147483647 : Int32)) - ((p1 &&& (2147483647 : Int32)) / (6 : Int32)) * (6 : Int32))), .val (.ref (f1 ((p0 &&& (2147483647 : Int32)) - ((p0 &&& (2147483647 : Int32)) / (6 : Int32)) * (6 : Int32)) w_LOW w_SUBSTANTIAL w_HIGH w_NOT_NOTIFIED_LOW w_NOT_NOTIFIED_SUBSTANTIAL w_NOT_NOTIFIED_HIGH)), .val (.ref (f1 ((p1 &&& (2147483647 : Int32)) - ((p1 &&& (2147483647 : Int32)) / (6 : Int32)) * (6 : Int32)) w_LOW w_SUBSTANTIAL w_HIGH w_NOT_NOTIFIED_LOW w_NOT_NOTIFIED_SUBSTANTIAL w_NOT_NOTIFIED_HIGH)), .val (.int (0 : Int32))] [(.int (1 : Int32))]))
          refine own_st ?_ (fun t k => XS.goto X6.here hx rfl (pc0 := 80) (pc' := 84) rfl (hb hby at_80) (by decide) (by decide) k)
          show own_G p.tables e below _ _ (T6.setTop (mkF m 84 #[.val (.int p0), .val (.int p1), .val (.int ((p0 &&& (2147483647 : Int32)) - ((p0 &&& (2147483647 : Int32)) / (6 : Int32)) * (6 : Int32))), .val (.int ((p1 &&& (2147483647 : Int32)) - ((p1 &&& (2147483647 : Int32)) / (6 : Int32)) * (6 : Int32))), .val (.ref (f1 ((p0 &&& (2147483647 : Int32)) - ((p0 &&& (2147483647 : Int32)) / (6 : Int32)) * (6 : Int32)) w_LOW w_SUBSTANTIAL w_HIGH w_NOT_NOTIFIED_LOW w_NOT_NOTIFIED_SUBSTANTIAL w_NOT_NOTIFIED_HIGH)), .val (.ref (f1 ((p1 &&& (2147483647 : Int32)) - ((p1 &&& (2147483647 : Int32)) / (6 : Int32)) * (6 : Int32)) w_LOW w_SUBSTANTIAL w_HIGH w_NOT_NOTIFIED_LOW w_NOT_NOTIFIED_SUBSTANTIAL w_NOT_NOTIFIED_HIGH)), .val (.int (0 : Int32))] [(.int (1 : Int32))]))
          refine own_retN X6 hx hlk (t := .boolean) hret (by simp) (hb hby at_84) (by decide) (by decide) (z' := (1 : Int32)) rfl ⟨?_, N6, e6⟩
          rw [show f0 p0 p1 w_LOW w_SUBSTANTIAL w_HIGH w_NOT_NOTIFIED_LOW w_NOT_NOTIFIED_SUBSTANTIAL w_NOT_NOTIFIED_HIGH = (1 : Int32) from (if_neg hc30).trans ((if_pos hc41).trans ((if_neg hc46).trans ((if_pos hc76).trans (rfl))))]
        · refine own_st ?_ (fun t k => XS.icmpYes X6.here hx rfl (pc0 := 76) (pc' := 83) rfl (hb hby at_76) rfl (feq hc76).2 (by decide) (by decide) k)
          show own_G p.tables e below _ _ (T6.setTop (mkF m 83 #[.val (.int p0), .val (.int p1), .val (.int ((p0 &&& (2147483647 : Int32)) - ((p0 &&& (2147483647 : Int32)) / (6 : Int32)) * (6 : Int32))), .val (.int ((p1 &&& (2147483647 : Int32)) - ((p1 &&& (2147483647 : Int32)) / (6 : Int32)) * (6 : Int32))), .val (.ref (f1 ((p0 &&& (2147483647 : Int32)) - ((p0 &&& (2147483647 : Int32)) / (6 : Int32)) * (6 : Int32)) w_LOW w_SUBSTANTIAL w_HIGH w_NOT_NOTIFIED_LOW w_NOT_NOTIFIED_SUBSTANTIAL w_NOT_NOTIFIED_HIGH)), .val (.ref (f1 ((p1 &&& (2147483647 : Int32)) - ((p1 &&& (2147483647 : Int32)) / (6 : Int32)) * (6 : Int32)) w_LOW w_SUBSTANTIAL w_HIGH w_NOT_NOTIFIED_LOW w_NOT_NOTIFIED_SUBSTANTIAL w_NOT_NOTIFIED_HIGH)), .val (.int (0 : Int32))] []))
          refine own_st ?_ (fun t k => XS.iconst X6.here hx rfl (hb hby at_83) k)
          show own_G p.tables e below _ _ (T6.setTop (mkF m 84 #[.val (.int p0), .val (.int p1), .val (.int ((p0 &&& (2147483647 : Int32)) - ((p0 &&& (2147483647 : Int32)) / (6 : Int32)) * (6 : Int32))), .val (.int ((p1 &&& (2147483647 : Int32)) - ((p1 &&& (2147483647 : Int32)) / (6 : Int32)) * (6 : Int32))), .val (.ref (f1 ((p0 &&& (2147483647 : Int32)) - ((p0 &&& (2147483647 : Int32)) / (6 : Int32)) * (6 : Int32)) w_LOW w_SUBSTANTIAL w_HIGH w_NOT_NOTIFIED_LOW w_NOT_NOTIFIED_SUBSTANTIAL w_NOT_NOTIFIED_HIGH)), .val (.ref (f1 ((p1 &&& (2147483647 : Int32)) - ((p1 &&& (2147483647 : Int32)) / (6 : Int32)) * (6 : Int32)) w_LOW w_SUBSTANTIAL w_HIGH w_NOT_NOTIFIED_LOW w_NOT_NOTIFIED_SUBSTANTIAL w_NOT_NOTIFIED_HIGH)), .val (.int (0 : Int32))] [(.int (0 : Int32))]))
          refine own_retN X6 hx hlk (t := .boolean) hret (by simp) (hb hby at_84) (by decide) (by decide) (z' := (0 : Int32)) rfl ⟨?_, N6, e6⟩
          rw [show f0 p0 p1 w_LOW w_SUBSTANTIAL w_HIGH w_NOT_NOTIFIED_LOW w_NOT_NOTIFIED_SUBSTANTIAL w_NOT_NOTIFIED_HIGH = (0 : Int32) from (if_neg hc30).trans ((if_pos hc41).trans ((if_neg hc46).trans ((if_neg hc76).trans (rfl))))]
    · refine own_st ?_ (fun t k => XS.icmpYes X2.here hx rfl (pc0 := 41) (pc' := 64) rfl (hb hby at_41) rfl (flt hc41).2.1 (by decide) (by decide) k)
      show own_G p.tables e below _ _ (T2.setTop (mkF m 64 #[.val (.int p0), .val (.int p1), .val (.int ((p0 &&& (2147483647 : Int32)) - ((p0 &&& (2147483647 : Int32)) / (6 : Int32)) * (6 : Int32))), .val (.int ((p1 &&& (2147483647 : Int32)) - ((p1 &&& (2147483647 : Int32)) / (6 : Int32)) * (6 : Int32))), .val (.ref (f1 ((p0 &&& (2147483647 : Int32)) - ((p0 &&& (2147483647 : Int32)) / (6 : Int32)) * (6 : Int32)) w_LOW w_SUBSTANTIAL w_HIGH w_NOT_NOTIFIED_LOW w_NOT_NOTIFIED_SUBSTANTIAL w_NOT_NOTIFIED_HIGH)), .val (.ref (f1 ((p1 &&& (2147483647 : Int32)) - ((p1 &&& (2147483647 : Int32)) / (6 : Int32)) * (6 : Int32)) w_LOW w_SUBSTANTIAL w_HIGH w_NOT_NOTIFIED_LOW w_NOT_NOTIFIED_SUBSTANTIAL w_NOT_NOTIFIED_HIGH)), .unset] []))
      refine own_st ?_ (fun t k => XS.iconst X2.here hx rfl (hb hby at_64) k)
      show own_G p.tables e below _ _ (T2.setTop (mkF m 65 #[.val (.int p0), .val (.int p1), .val (.int ((p0 &&& (2147483647 : Int32)) - ((p0 &&& (2147483647 : Int32)) / (6 : Int32)) * (6 : Int32))), .val (.int ((p1 &&& (2147483647 : Int32)) - ((p1 &&& (2147483647 : Int32)) / (6 : Int32)) * (6 : Int32))), .val (.ref (f1 ((p0 &&& (2147483647 : Int32)) - ((p0 &&& (2147483647 : Int32)) / (6 : Int32)) * (6 : Int32)) w_LOW w_SUBSTANTIAL w_HIGH w_NOT_NOTIFIED_LOW w_NOT_NOTIFIED_SUBSTANTIAL w_NOT_NOTIFIED_HIGH)), .val (.ref (f1 ((p1 &&& (2147483647 : Int32)) - ((p1 &&& (2147483647 : Int32)) / (6 : Int32)) * (6 : Int32)) w_LOW w_SUBSTANTIAL w_HIGH w_NOT_NOTIFIED_LOW w_NOT_NOTIFIED_SUBSTANTIAL w_NOT_NOTIFIED_HIGH)), .unset] [(.int (0 : Int32))]))
      refine own_st ?_ (fun t k => XS.istore X2.here hx rfl (hb hby at_65) rfl (l' := #[.val (.int p0), .val (.int p1), .val (.int ((p0 &&& (2147483647 : Int32)) - ((p0 &&& (2147483647 : Int32)) / (6 : Int32)) * (6 : Int32))), .val (.int ((p1 &&& (2147483647 : Int32)) - ((p1 &&& (2147483647 : Int32)) / (6 : Int32)) * (6 : Int32))), .val (.ref (f1 ((p0 &&& (2147483647 : Int32)) - ((p0 &&& (2147483647 : Int32)) / (6 : Int32)) * (6 : Int32)) w_LOW w_SUBSTANTIAL w_HIGH w_NOT_NOTIFIED_LOW w_NOT_NOTIFIED_SUBSTANTIAL w_NOT_NOTIFIED_HIGH)), .val (.ref (f1 ((p1 &&& (2147483647 : Int32)) - ((p1 &&& (2147483647 : Int32)) / (6 : Int32)) * (6 : Int32)) w_LOW w_SUBSTANTIAL w_HIGH w_NOT_NOTIFIED_LOW w_NOT_NOTIFIED_SUBSTANTIAL w_NOT_NOTIFIED_HIGH)), .val (.int (0 : Int32))]) rfl k)
      show own_G p.tables e below _ _ (T2.setTop (mkF m 67 #[.val (.int p0), .val (.int p1), .val (.int ((p0 &&& (2147483647 : Int32)) - ((p0 &&& (2147483647 : Int32)) / (6 : Int32)) * (6 : Int32))), .val (.int ((p1 &&& (2147483647 : Int32)) - ((p1 &&& (2147483647 : Int32)) / (6 : Int32)) * (6 : Int32))), .val (.ref (f1 ((p0 &&& (2147483647 : Int32)) - ((p0 &&& (2147483647 : Int32)) / (6 : Int32)) * (6 : Int32)) w_LOW w_SUBSTANTIAL w_HIGH w_NOT_NOTIFIED_LOW w_NOT_NOTIFIED_SUBSTANTIAL w_NOT_NOTIFIED_HIGH)), .val (.ref (f1 ((p1 &&& (2147483647 : Int32)) - ((p1 &&& (2147483647 : Int32)) / (6 : Int32)) * (6 : Int32)) w_LOW w_SUBSTANTIAL w_HIGH w_NOT_NOTIFIED_LOW w_NOT_NOTIFIED_SUBSTANTIAL w_NOT_NOTIFIED_HIGH)), .val (.int (0 : Int32))] []))
      refine own_st ?_ (fun t k => XS.aload X2.here hx rfl (hb hby at_67) rfl rfl k)
      show own_G p.tables e below _ _ (T2.setTop (mkF m 69 #[.val (.int p0), .val (.int p1), .val (.int ((p0 &&& (2147483647 : Int32)) - ((p0 &&& (2147483647 : Int32)) / (6 : Int32)) * (6 : Int32))), .val (.int ((p1 &&& (2147483647 : Int32)) - ((p1 &&& (2147483647 : Int32)) / (6 : Int32)) * (6 : Int32))), .val (.ref (f1 ((p0 &&& (2147483647 : Int32)) - ((p0 &&& (2147483647 : Int32)) / (6 : Int32)) * (6 : Int32)) w_LOW w_SUBSTANTIAL w_HIGH w_NOT_NOTIFIED_LOW w_NOT_NOTIFIED_SUBSTANTIAL w_NOT_NOTIFIED_HIGH)), .val (.ref (f1 ((p1 &&& (2147483647 : Int32)) - ((p1 &&& (2147483647 : Int32)) / (6 : Int32)) * (6 : Int32)) w_LOW w_SUBSTANTIAL w_HIGH w_NOT_NOTIFIED_LOW w_NOT_NOTIFIED_SUBSTANTIAL w_NOT_NOTIFIED_HIGH)), .val (.int (0 : Int32))] [(.ref (f1 ((p0 &&& (2147483647 : Int32)) - ((p0 &&& (2147483647 : Int32)) / (6 : Int32)) * (6 : Int32)) w_LOW w_SUBSTANTIAL w_HIGH w_NOT_NOTIFIED_LOW w_NOT_NOTIFIED_SUBSTANTIAL w_NOT_NOTIFIED_HIGH))]))
      refine own_st ?_ (fun t k => XS.aload X2.here hx rfl (hb hby at_69) rfl rfl k)
      show own_G p.tables e below _ _ (T2.setTop (mkF m 71 #[.val (.int p0), .val (.int p1), .val (.int ((p0 &&& (2147483647 : Int32)) - ((p0 &&& (2147483647 : Int32)) / (6 : Int32)) * (6 : Int32))), .val (.int ((p1 &&& (2147483647 : Int32)) - ((p1 &&& (2147483647 : Int32)) / (6 : Int32)) * (6 : Int32))), .val (.ref (f1 ((p0 &&& (2147483647 : Int32)) - ((p0 &&& (2147483647 : Int32)) / (6 : Int32)) * (6 : Int32)) w_LOW w_SUBSTANTIAL w_HIGH w_NOT_NOTIFIED_LOW w_NOT_NOTIFIED_SUBSTANTIAL w_NOT_NOTIFIED_HIGH)), .val (.ref (f1 ((p1 &&& (2147483647 : Int32)) - ((p1 &&& (2147483647 : Int32)) / (6 : Int32)) * (6 : Int32)) w_LOW w_SUBSTANTIAL w_HIGH w_NOT_NOTIFIED_LOW w_NOT_NOTIFIED_SUBSTANTIAL w_NOT_NOTIFIED_HIGH)), .val (.int (0 : Int32))] [(.ref (f1 ((p1 &&& (2147483647 : Int32)) - ((p1 &&& (2147483647 : Int32)) / (6 : Int32)) * (6 : Int32)) w_LOW w_SUBSTANTIAL w_HIGH w_NOT_NOTIFIED_LOW w_NOT_NOTIFIED_SUBSTANTIAL w_NOT_NOTIFIED_HIGH)), (.ref (f1 ((p0 &&& (2147483647 : Int32)) - ((p0 &&& (2147483647 : Int32)) / (6 : Int32)) * (6 : Int32)) w_LOW w_SUBSTANTIAL w_HIGH w_NOT_NOTIFIED_LOW w_NOT_NOTIFIED_SUBSTANTIAL w_NOT_NOTIFIED_HIGH))]))
      obtain ⟨cq7, kq7, q7a, q7b, q7c⟩ := isOf hZ e2 (own_pe E_LOW E_SUBSTANTIAL E_HIGH E_NOT_NOTIFIED_LOW E_NOT_NOTIFIED_SUBSTANTIAL E_NOT_NOTIFIED_HIGH ((p0 &&& (2147483647 : Int32)) - ((p0 &&& (2147483647 : Int32)) / (6 : Int32)) * (6 : Int32)))
      obtain ⟨_, _, ⟨T7, L7, k7, n7⟩, -, X7, ⟨Lc7, hQ7, l7, y7, z7⟩, st7⟩ := X2.virtualBack hx (y := (⟨"com/example/crossgate/crossgate/LevelOfAssurance", "satisfies", "(Lcom/example/crossgate/crossgate/LevelOfAssurance;)Z"⟩ : MethodName)) (z := (⟨"com/example/crossgate/crossgate/LevelOfAssurance", "satisfies", "(Lcom/example/crossgate/crossgate/LevelOfAssurance;)Z"⟩ : MethodName)) hown (mvT hZ (hw _ (List.mem_of_getElem? (i := 10) rfl))) (mvT hZ (hw _ (List.mem_of_getElem? (i := 11) rfl))) (notFace_of_selects (args := #[]) (mvT hZ (hw _ (List.mem_of_getElem? (i := 13) rfl)))) (mvT hZ (hw _ (List.mem_of_getElem? (i := 13) rfl))) (mvT hZ (hw _ (List.mem_of_getElem? (i := 12) rfl))) (by decide) (backOf (W := 0) (rm2 l Z _ hw [] (f1 ((p0 &&& (2147483647 : Int32)) - ((p0 &&& (2147483647 : Int32)) / (6 : Int32)) * (6 : Int32)) w_LOW w_SUBSTANTIAL w_HIGH w_NOT_NOTIFIED_LOW w_NOT_NOTIFIED_SUBSTANTIAL w_NOT_NOTIFIED_HIGH) (f1 ((p1 &&& (2147483647 : Int32)) - ((p1 &&& (2147483647 : Int32)) / (6 : Int32)) * (6 : Int32)) w_LOW w_SUBSTANTIAL w_HIGH w_NOT_NOTIFIED_LOW w_NOT_NOTIFIED_SUBSTANTIAL w_NOT_NOTIFIED_HIGH) (own_rank ((p0 &&& (2147483647 : Int32)) - ((p0 &&& (2147483647 : Int32)) / (6 : Int32)) * (6 : Int32))) (own_rank ((p1 &&& (2147483647 : Int32)) - ((p1 &&& (2147483647 : Int32)) / (6 : Int32)) * (6 : Int32))) h0 n0 Z0 (own_pr F_rank_LOW F_rank_SUBSTANTIAL F_rank_HIGH F_rank_NOT_NOTIFIED_LOW F_rank_NOT_NOTIFIED_SUBSTANTIAL F_rank_NOT_NOTIFIED_HIGH ((p0 &&& (2147483647 : Int32)) - ((p0 &&& (2147483647 : Int32)) / (6 : Int32)) * (6 : Int32))) (own_pr F_rank_LOW F_rank_SUBSTANTIAL F_rank_HIGH F_rank_NOT_NOTIFIED_LOW F_rank_NOT_NOTIFIED_SUBSTANTIAL F_rank_NOT_NOTIFIED_HIGH ((p1 &&& (2147483647 : Int32)) - ((p1 &&& (2147483647 : Int32)) / (6 : Int32)) * (6 : Int32)))) hZ (hw _ (List.mem_of_getElem? (i := 14) rfl)) (hw _ (List.mem_of_getElem? (i := 6) rfl)) (by decide) (by decide)) q7a q7c (g := (mkF m 71 #[.val (.int p0), .val (.int p1), .val (.int ((p0 &&& (2147483647 : Int32)) - ((p0 &&& (2147483647 : Int32)) / (6 : Int32)) * (6 : Int32))), .val (.int ((p1 &&& (2147483647 : Int32)) - ((p1 &&& (2147483647 : Int32)) / (6 : Int32)) * (6 : Int32))), .val (.ref (f1 ((p0 &&& (2147483647 : Int32)) - ((p0 &&& (2147483647 : Int32)) / (6 : Int32)) * (6 : Int32)) w_LOW w_SUBSTANTIAL w_HIGH w_NOT_NOTIFIED_LOW w_NOT_NOTIFIED_SUBSTANTIAL w_NOT_NOTIFIED_HIGH)), .val (.ref (f1 ((p1 &&& (2147483647 : Int32)) - ((p1 &&& (2147483647 : Int32)) / (6 : Int32)) * (6 : Int32)) w_LOW w_SUBSTANTIAL w_HIGH w_NOT_NOTIFIED_LOW w_NOT_NOTIFIED_SUBSTANTIAL w_NOT_NOTIFIED_HIGH)), .val (.int (0 : Int32))] [(.ref (f1 ((p1 &&& (2147483647 : Int32)) - ((p1 &&& (2147483647 : Int32)) / (6 : Int32)) * (6 : Int32)) w_LOW w_SUBSTANTIAL w_HIGH w_NOT_NOTIFIED_LOW w_NOT_NOTIFIED_SUBSTANTIAL w_NOT_NOTIFIED_HIGH)), (.ref (f1 ((p0 &&& (2147483647 : Int32)) - ((p0 &&& (2147483647 : Int32)) / (6 : Int32)) * (6 : Int32)) w_LOW w_SUBSTANTIAL w_HIGH w_NOT_NOTIFIED_LOW w_NOT_NOTIFIED_SUBSTANTIAL w_NOT_NOTIFIED_HIGH))])) rfl (by rw [hml]; rfl) (Steps.refl _) (argsL := [(.ref (f1 ((p1 &&& (2147483647 : Int32)) - ((p1 &&& (2147483647 : Int32)) / (6 : Int32)) * (6 : Int32)) w_LOW w_SUBSTANTIAL w_HIGH w_NOT_NOTIFIED_LOW w_NOT_NOTIFIED_SUBSTANTIAL w_NOT_NOTIFIED_HIGH))]) (rest := []) (lenOf pd_1 rfl) rfl (by show 2 * 0 + _ ≤ _; exact Nat.le_of_eq rfl) (hb hby at_71) (fun _ _ => ⟨rfl, e2, (by decide : 0 + 0 ≤ _), (by decide : 0 + 0 ≤ _)⟩)
      dsimp only [Pt.U, Pt.locs, Pt.cells, Pt.slots] at X7 l7 y7 z7 st7 hQ7
      subst l7 y7 z7
      obtain ⟨rfl, N7q, e7⟩ := hQ7
      have N7 := Fr.app N2 N7q
      refine own_st ?_ (fun t k => st7.trans k)
      show own_G p.tables e below _ _ (T7.setTop (mkF m 74 #[.val (.int p0), .val (.int p1), .val (.int ((p0 &&& (2147483647 : Int32)) - ((p0 &&& (2147483647 : Int32)) / (6 : Int32)) * (6 : Int32))), .val (.int ((p1 &&& (2147483647 : Int32)) - ((p1 &&& (2147483647 : Int32)) / (6 : Int32)) * (6 : Int32))), .val (.ref (f1 ((p0 &&& (2147483647 : Int32)) - ((p0 &&& (2147483647 : Int32)) / (6 : Int32)) * (6 : Int32)) w_LOW w_SUBSTANTIAL w_HIGH w_NOT_NOTIFIED_LOW w_NOT_NOTIFIED_SUBSTANTIAL w_NOT_NOTIFIED_HIGH)), .val (.ref (f1 ((p1 &&& (2147483647 : Int32)) - ((p1 &&& (2147483647 : Int32)) / (6 : Int32)) * (6 : Int32)) w_LOW w_SUBSTANTIAL w_HIGH w_NOT_NOTIFIED_LOW w_NOT_NOTIFIED_SUBSTANTIAL w_NOT_NOTIFIED_HIGH)), .val (.int (0 : Int32))] [(.int (f2 (f1 ((p0 &&& (2147483647 : Int32)) - ((p0 &&& (2147483647 : Int32)) / (6 : Int32)) * (6 : Int32)) w_LOW w_SUBSTANTIAL w_HIGH w_NOT_NOTIFIED_LOW w_NOT_NOTIFIED_SUBSTANTIAL w_NOT_NOTIFIED_HIGH) (f1 ((p1 &&& (2147483647 : Int32)) - ((p1 &&& (2147483647 : Int32)) / (6 : Int32)) * (6 : Int32)) w_LOW w_SUBSTANTIAL w_HIGH w_NOT_NOTIFIED_LOW w_NOT_NOTIFIED_SUBSTANTIAL w_NOT_NOTIFIED_HIGH) (own_rank ((p0 &&& (2147483647 : Int32)) - ((p0 &&& (2147483647 : Int32)) / (6 : Int32)) * (6 : Int32))) (own_rank ((p1 &&& (2147483647 : Int32)) - ((p1 &&& (2147483647 : Int32)) / (6 : Int32)) * (6 : Int32)))))]))
      refine own_st ?_ (fun t k => XS.iload X7.here hx rfl (hb hby at_74) rfl k)
      show own_G p.tables e below _ _ (T7.setTop (mkF m 76 #[.val (.int p0), .val (.int p1), .val (.int ((p0 &&& (2147483647 : Int32)) - ((p0 &&& (2147483647 : Int32)) / (6 : Int32)) * (6 : Int32))), .val (.int ((p1 &&& (2147483647 : Int32)) - ((p1 &&& (2147483647 : Int32)) / (6 : Int32)) * (6 : Int32))), .val (.ref (f1 ((p0 &&& (2147483647 : Int32)) - ((p0 &&& (2147483647 : Int32)) / (6 : Int32)) * (6 : Int32)) w_LOW w_SUBSTANTIAL w_HIGH w_NOT_NOTIFIED_LOW w_NOT_NOTIFIED_SUBSTANTIAL w_NOT_NOTIFIED_HIGH)), .val (.ref (f1 ((p1 &&& (2147483647 : Int32)) - ((p1 &&& (2147483647 : Int32)) / (6 : Int32)) * (6 : Int32)) w_LOW w_SUBSTANTIAL w_HIGH w_NOT_NOTIFIED_LOW w_NOT_NOTIFIED_SUBSTANTIAL w_NOT_NOTIFIED_HIGH)), .val (.int (0 : Int32))] [(.int (0 : Int32)), (.int (f2 (f1 ((p0 &&& (2147483647 : Int32)) - ((p0 &&& (2147483647 : Int32)) / (6 : Int32)) * (6 : Int32)) w_LOW w_SUBSTANTIAL w_HIGH w_NOT_NOTIFIED_LOW w_NOT_NOTIFIED_SUBSTANTIAL w_NOT_NOTIFIED_HIGH) (f1 ((p1 &&& (2147483647 : Int32)) - ((p1 &&& (2147483647 : Int32)) / (6 : Int32)) * (6 : Int32)) w_LOW w_SUBSTANTIAL w_HIGH w_NOT_NOTIFIED_LOW w_NOT_NOTIFIED_SUBSTANTIAL w_NOT_NOTIFIED_HIGH) (own_rank ((p0 &&& (2147483647 : Int32)) - ((p0 &&& (2147483647 : Int32)) / (6 : Int32)) * (6 : Int32))) (own_rank ((p1 &&& (2147483647 : Int32)) - ((p1 &&& (2147483647 : Int32)) / (6 : Int32)) * (6 : Int32)))))]))
      by_cases hc76 : (f2 (f1 ((p0 &&& (2147483647 : Int32)) - ((p0 &&& (2147483647 : Int32)) / (6 : Int32)) * (6 : Int32)) w_LOW w_SUBSTANTIAL w_HIGH w_NOT_NOTIFIED_LOW w_NOT_NOTIFIED_SUBSTANTIAL w_NOT_NOTIFIED_HIGH) (f1 ((p1 &&& (2147483647 : Int32)) - ((p1 &&& (2147483647 : Int32)) / (6 : Int32)) * (6 : Int32)) w_LOW w_SUBSTANTIAL w_HIGH w_NOT_NOTIFIED_LOW w_NOT_NOTIFIED_SUBSTANTIAL w_NOT_NOTIFIED_HIGH) (own_rank ((p0 &&& (2147483647 : Int32)) - ((p0 &&& (2147483647 : Int32)) / (6 : Int32)) * (6 : Int32))) (own_rank ((p1 &&& (2147483647 : Int32)) - ((p1 &&& (2147483647 : Int32)) / (6 : Int32)) * (6 : Int32)))) = (0 : Int32)
      · refine own_st ?_ (fun t k => XS.icmpNo X7.here hx rfl (hb hby at_76) rfl (teq hc76).2 k)
        show own_G p.tables e below _ _ (T7.setTop (mkF m 79 #[.val (.int p0), .val (.int p1), .val (.int ((p0 &&& (2147483647 : Int32)) - ((p0 &&& (2147483647 : Int32)) / (6 : Int32)) * (6 : Int32))), .val (.int ((p1 &&& (2147483647 : Int32)) - ((p1 &&& (2147483647 : Int32)) / (6 : Int32)) * (6 : Int32))), .val (.ref (f1 ((p0 &&& (2147483647 : Int32)) - ((p0 &&& (2147483647 : Int32)) / (6 : Int32)) * (6 : Int32)) w_LOW w_SUBSTANTIAL w_HIGH w_NOT_NOTIFIED_LOW w_NOT_NOTIFIED_SUBSTANTIAL w_NOT_NOTIFIED_HIGH)), .val (.ref (f1 ((p1 &&& (2147483647 : Int32)) - ((p1 &&& (2147483647 : Int32)) / (6 : Int32)) * (6 : Int32)) w_LOW w_SUBSTANTIAL w_HIGH w_NOT_NOTIFIED_LOW w_NOT_NOTIFIED_SUBSTANTIAL w_NOT_NOTIFIED_HIGH)), .val (.int (0 : Int32))] []))
        refine own_st ?_ (fun t k => XS.iconst X7.here hx rfl (hb hby at_79) k)
        show own_G p.tables e below _ _ (T7.setTop (mkF m 80 #[.val (.int p0), .val (.int p1), .val (.int ((p0 &&& (2147483647 : Int32)) - ((p0 &&& (2147483647 : Int32)) / (6 : Int32)) * (6 : Int32))), .val (.int ((p1 &&& (2147483647 : Int32)) - ((p1 &&& (2147483647 : Int32)) / (6 : Int32)) * (6 : Int32))), .val (.ref (f1 ((p0 &&& (2147483647 : Int32)) - ((p0 &&& (2147483647 : Int32)) / (6 : Int32)) * (6 : Int32)) w_LOW w_SUBSTANTIAL w_HIGH w_NOT_NOTIFIED_LOW w_NOT_NOTIFIED_SUBSTANTIAL w_NOT_NOTIFIED_HIGH)), .val (.ref (f1 ((p1 &&& (2147483647 : Int32)) - ((p1 &&& (2147483647 : Int32)) / (6 : Int32)) * (6 : Int32)) w_LOW w_SUBSTANTIAL w_HIGH w_NOT_NOTIFIED_LOW w_NOT_NOTIFIED_SUBSTANTIAL w_NOT_NOTIFIED_HIGH)), .val (.int (0 : Int32))] [(.int (1 : Int32))]))
        refine own_st ?_ (fun t k => XS.goto X7.here hx rfl (pc0 := 80) (pc' := 84) rfl (hb hby at_80) (by decide) (by decide) k)
        show own_G p.tables e below _ _ (T7.setTop (mkF m 84 #[.val (.int p0), .val (.int p1), .val (.int ((p0 &&& (2147483647 : Int32)) - ((p0 &&& (2147483647 : Int32)) / (6 : Int32)) * (6 : Int32))), .val (.int ((p1 &&& (2147483647 : Int32)) - ((p1 &&& (2147483647 : Int32)) / (6 : Int32)) * (6 : Int32))), .val (.ref (f1 ((p0 &&& (2147483647 : Int32)) - ((p0 &&& (2147483647 : Int32)) / (6 : Int32)) * (6 : Int32)) w_LOW w_SUBSTANTIAL w_HIGH w_NOT_NOTIFIED_LOW w_NOT_NOTIFIED_SUBSTANTIAL w_NOT_NOTIFIED_HIGH)), .val (.ref (f1 ((p1 &&& (2147483647 : Int32)) - ((p1 &&& (2147483647 : Int32)) / (6 : Int32)) * (6 : Int32)) w_LOW w_SUBSTANTIAL w_HIGH w_NOT_NOTIFIED_LOW w_NOT_NOTIFIED_SUBSTANTIAL w_NOT_NOTIFIED_HIGH)), .val (.int (0 : Int32))] [(.int (1 : Int32))]))
        refine own_retN X7 hx hlk (t := .boolean) hret (by simp) (hb hby at_84) (by decide) (by decide) (z' := (1 : Int32)) rfl ⟨?_, N7, e7⟩
        rw [show f0 p0 p1 w_LOW w_SUBSTANTIAL w_HIGH w_NOT_NOTIFIED_LOW w_NOT_NOTIFIED_SUBSTANTIAL w_NOT_NOTIFIED_HIGH = (1 : Int32) from (if_neg hc30).trans ((if_neg hc41).trans ((if_pos hc76).trans (rfl)))]
      · refine own_st ?_ (fun t k => XS.icmpYes X7.here hx rfl (pc0 := 76) (pc' := 83) rfl (hb hby at_76) rfl (feq hc76).2 (by decide) (by decide) k)
        show own_G p.tables e below _ _ (T7.setTop (mkF m 83 #[.val (.int p0), .val (.int p1), .val (.int ((p0 &&& (2147483647 : Int32)) - ((p0 &&& (2147483647 : Int32)) / (6 : Int32)) * (6 : Int32))), .val (.int ((p1 &&& (2147483647 : Int32)) - ((p1 &&& (2147483647 : Int32)) / (6 : Int32)) * (6 : Int32))), .val (.ref (f1 ((p0 &&& (2147483647 : Int32)) - ((p0 &&& (2147483647 : Int32)) / (6 : Int32)) * (6 : Int32)) w_LOW w_SUBSTANTIAL w_HIGH w_NOT_NOTIFIED_LOW w_NOT_NOTIFIED_SUBSTANTIAL w_NOT_NOTIFIED_HIGH)), .val (.ref (f1 ((p1 &&& (2147483647 : Int32)) - ((p1 &&& (2147483647 : Int32)) / (6 : Int32)) * (6 : Int32)) w_LOW w_SUBSTANTIAL w_HIGH w_NOT_NOTIFIED_LOW w_NOT_NOTIFIED_SUBSTANTIAL w_NOT_NOTIFIED_HIGH)), .val (.int (0 : Int32))] []))
        refine own_st ?_ (fun t k => XS.iconst X7.here hx rfl (hb hby at_83) k)
        show own_G p.tables e below _ _ (T7.setTop (mkF m 84 #[.val (.int p0), .val (.int p1), .val (.int ((p0 &&& (2147483647 : Int32)) - ((p0 &&& (2147483647 : Int32)) / (6 : Int32)) * (6 : Int32))), .val (.int ((p1 &&& (2147483647 : Int32)) - ((p1 &&& (2147483647 : Int32)) / (6 : Int32)) * (6 : Int32))), .val (.ref (f1 ((p0 &&& (2147483647 : Int32)) - ((p0 &&& (2147483647 : Int32)) / (6 : Int32)) * (6 : Int32)) w_LOW w_SUBSTANTIAL w_HIGH w_NOT_NOTIFIED_LOW w_NOT_NOTIFIED_SUBSTANTIAL w_NOT_NOTIFIED_HIGH)), .val (.ref (f1 ((p1 &&& (2147483647 : Int32)) - ((p1 &&& (2147483647 : Int32)) / (6 : Int32)) * (6 : Int32)) w_LOW w_SUBSTANTIAL w_HIGH w_NOT_NOTIFIED_LOW w_NOT_NOTIFIED_SUBSTANTIAL w_NOT_NOTIFIED_HIGH)), .val (.int (0 : Int32))] [(.int (0 : Int32))]))
        refine own_retN X7 hx hlk (t := .boolean) hret (by simp) (hb hby at_84) (by decide) (by decide) (z' := (0 : Int32)) rfl ⟨?_, N7, e7⟩
        rw [show f0 p0 p1 w_LOW w_SUBSTANTIAL w_HIGH w_NOT_NOTIFIED_LOW w_NOT_NOTIFIED_SUBSTANTIAL w_NOT_NOTIFIED_HIGH = (0 : Int32) from (if_neg hc30).trans ((if_neg hc41).trans ((if_neg hc76).trans (rfl)))]
theorem own_f2ne (A B : Addr) (ra rb : Int32) (h : ¬ A = B) : f2 A B ra rb = f2 0 1 ra rb := by
  unfold f2; simp only [if_neg h, if_neg (by decide : ¬ (0 : Nat) = 1)]
theorem own_f2eq (A : Addr) (ra rb : Int32) : f2 A A ra rb = f2 0 0 ra rb := by
  unfold f2; simp only [if_true]
def own_g (a b : Int32) (u v : Addr) : Int32 := (if a = b then (if (f2 u v (own_rank a) (own_rank b)) = (1 : Int32) then (1 : Int32) else (0 : Int32)) else (if a < (3 : Int32) then (if b < (3 : Int32) then (if b < a then (if (f2 u v (own_rank a) (own_rank b)) = (1 : Int32) then (1 : Int32) else (0 : Int32)) else (if (f2 u v (own_rank a) (own_rank b)) = (0 : Int32) then (1 : Int32) else (0 : Int32))) else (if (f2 u v (own_rank a) (own_rank b)) = (0 : Int32) then (1 : Int32) else (0 : Int32))) else (if (f2 u v (own_rank a) (own_rank b)) = (0 : Int32) then (1 : Int32) else (0 : Int32))))
theorem own_six (x : Int32) : 0 ≤ ((x &&& 2147483647) - (x &&& 2147483647) / 6 * 6).toInt ∧ ((x &&& 2147483647) - (x &&& 2147483647) / 6 * 6).toInt < 6 := by
  have h := Jvm.Kit.i32_mask x 2147483647 (k := 31) (by decide) (by decide)
  have e6 : (6 : Int32).toInt = 6 := by decide
  rw [rem_toInt, e6, h, Int.tmod_eq_emod_of_nonneg (by omega)]; omega
theorem own_same : ∀ a : Fin 6, own_g (Int32.ofInt (a.1 : Int)) (Int32.ofInt (a.1 : Int)) 0 0 = 1 := by decide +kernel
theorem own_diff : ∀ a b : Fin 6, ¬ (Int32.ofInt (a.1 : Int)) = (Int32.ofInt (b.1 : Int)) → own_g (Int32.ofInt (a.1 : Int)) (Int32.ofInt (b.1 : Int)) 0 1 = 1 := by decide +kernel
theorem own_inj : ∀ a b : Fin 6, ¬ (Int32.ofInt (a.1 : Int)) = (Int32.ofInt (b.1 : Int)) → ¬ own_ord (Int32.ofInt (a.1 : Int)) = own_ord (Int32.ofInt (b.1 : Int)) := by decide +kernel
theorem own_gne (a b : Int32) (u v : Addr) (h : ¬ u = v) : own_g a b u v = own_g a b 0 1 := by
  unfold own_g; rw [own_f2ne u v _ _ h]
theorem own_geq (a b : Int32) (u : Addr) : own_g a b u u = own_g a b 0 0 := by
  unfold own_g; rw [own_f2eq u]
theorem own_fin (a : Int32) (h0 : 0 ≤ a.toInt) (h1 : a.toInt < 6) : ∃ k : Fin 6, a = Int32.ofInt (k.1 : Int) :=
  own_small (n := 6) (P := fun a => ∃ k : Fin 6, a = Int32.ofInt (k.1 : Int)) (fun k => ⟨k, rfl⟩) a h0 h1

theorem own_law {Z : State} {h : Heap} {w_LOW w_SUBSTANTIAL w_HIGH w_NOT_NOTIFIED_LOW w_NOT_NOTIFIED_SUBSTANTIAL w_NOT_NOTIFIED_HIGH : Addr} (F_ordinal_LOW : Fld Z h w_LOW "java/lang/Enum" "ordinal" "I" (.int 0)) (F_ordinal_SUBSTANTIAL : Fld Z h w_SUBSTANTIAL "java/lang/Enum" "ordinal" "I" (.int 1)) (F_ordinal_HIGH : Fld Z h w_HIGH "java/lang/Enum" "ordinal" "I" (.int 2)) (F_ordinal_NOT_NOTIFIED_LOW : Fld Z h w_NOT_NOTIFIED_LOW "java/lang/Enum" "ordinal" "I" (.int 3)) (F_ordinal_NOT_NOTIFIED_SUBSTANTIAL : Fld Z h w_NOT_NOTIFIED_SUBSTANTIAL "java/lang/Enum" "ordinal" "I" (.int 4)) (F_ordinal_NOT_NOTIFIED_HIGH : Fld Z h w_NOT_NOTIFIED_HIGH "java/lang/Enum" "ordinal" "I" (.int 5)) (p0 p1 : Int32) : f0 p0 p1 w_LOW w_SUBSTANTIAL w_HIGH w_NOT_NOTIFIED_LOW w_NOT_NOTIFIED_SUBSTANTIAL w_NOT_NOTIFIED_HIGH = 1 := by
  show own_g _ _ (f1 _ w_LOW w_SUBSTANTIAL w_HIGH w_NOT_NOTIFIED_LOW w_NOT_NOTIFIED_SUBSTANTIAL w_NOT_NOTIFIED_HIGH) (f1 _ w_LOW w_SUBSTANTIAL w_HIGH w_NOT_NOTIFIED_LOW w_NOT_NOTIFIED_SUBSTANTIAL w_NOT_NOTIFIED_HIGH) = 1
  obtain ⟨k, hk⟩ := own_fin _ (own_six p0).1 (own_six p0).2
  obtain ⟨j, hj⟩ := own_fin _ (own_six p1).1 (own_six p1).2
  rw [hk, hj]
  by_cases hkj : (Int32.ofInt (k.1 : Int)) = (Int32.ofInt (j.1 : Int))
  · rw [← hkj, own_geq]; exact own_same k
  · have hne : ¬ f1 (Int32.ofInt (k.1 : Int)) w_LOW w_SUBSTANTIAL w_HIGH w_NOT_NOTIFIED_LOW w_NOT_NOTIFIED_SUBSTANTIAL w_NOT_NOTIFIED_HIGH = f1 (Int32.ofInt (j.1 : Int)) w_LOW w_SUBSTANTIAL w_HIGH w_NOT_NOTIFIED_LOW w_NOT_NOTIFIED_SUBSTANTIAL w_NOT_NOTIFIED_HIGH := Fld.ne (own_po F_ordinal_LOW F_ordinal_SUBSTANTIAL F_ordinal_HIGH F_ordinal_NOT_NOTIFIED_LOW F_ordinal_NOT_NOTIFIED_SUBSTANTIAL F_ordinal_NOT_NOTIFIED_HIGH _) (own_po F_ordinal_LOW F_ordinal_SUBSTANTIAL F_ordinal_HIGH F_ordinal_NOT_NOTIFIED_LOW F_ordinal_NOT_NOTIFIED_SUBSTANTIAL F_ordinal_NOT_NOTIFIED_HIGH _) (fun q => own_inj k j hkj (Value.int.inj q))
    rw [own_gne _ _ _ _ hne]; exact own_diff k j hkj
set_option maxRecDepth 65536 in
set_option maxHeartbeats 40000000 in
theorem comes_1 {Post : Tables → Env → Array Value → State → Outcome → State → Prop} (hpost : ∀ tb e args s v u, (limb_1_1.after args s (.returned v) u = true ∧ limb_1_2.after args s (.returned v) u = true ∧ True) → FrameEnd s (.returned v) u (Jvm.fieldLocs frame_1_writes args s ++ Jvm.arrayLocs frame_1_arrays args s ++ Jvm.staticLocs frame_1_statics s) 0 0 → Post tb e args s (.returned v) u) :
    ArmFor flags0 classFile x code maxLocals ret World_1 tables_1 room_1 Calls_1 rest_1 Pre_1 Post := by
  intro l hfl _ _ p e ha hc hk s m args below hf hA hF happ hP
  obtain ⟨hcalls, hrest, hpre⟩ := hP
  obtain ⟨-, -, -, hnamed, -, -, -, hat⟩ := (Spec.applies_iff hf).mp happ
  obtain ⟨hg, hn⟩ := and_e (Cond.before_iff.mp (show (Jvm.Cond.and given_1 narrow_1).before args s = true from hpre))
  obtain ⟨hcount, hgs0⟩ := and_e hg
  obtain ⟨w0, w1, rfl⟩ : ∃ w0 w1 : Value, args = #[w0, w1] := by
    have hs : args.size = 2 := by simpa [Cond.value, given_1] using hcount
    obtain ⟨L⟩ := args
    match L, hs with
    | [w0, w1], _ => exact ⟨w0, w1, rfl⟩
  have hw := fun d (hd : d ∈ tables_1) => atoms_spec (ws := Jvm.Cond.code x code maxLocals ret :: tables_1) hat d (List.mem_cons_of_mem _ hd)
  obtain ⟨hv0, hgs1⟩ := and_e hgs0
  obtain ⟨i0, ei0⟩ := is_v hv0
  obtain rfl : w0 = (.int i0) := Option.some.inj ei0
  have hv1 := hgs1
  obtain ⟨i1, ei1⟩ := is_v hv1
  obtain rfl : w1 = (.int i1) := Option.some.inj ei1
  have m0 := hn
  obtain ⟨c0, m1⟩ := and_e m0
  obtain ⟨c1, m2⟩ := and_e m1
  obtain ⟨c2, m3⟩ := and_e m2
  obtain ⟨c3, m4⟩ := and_e m3
  obtain ⟨c4, m5⟩ := and_e m4
  obtain ⟨c5, m6⟩ := and_e m5
  obtain ⟨c6, m7⟩ := and_e m6
  obtain ⟨c7, m8⟩ := and_e m7
  obtain ⟨c8, m9⟩ := and_e m8
  obtain ⟨c9, m10⟩ := and_e m9
  obtain ⟨c10, m11⟩ := and_e m10
  obtain ⟨c11, m12⟩ := and_e m11
  obtain ⟨c12, m13⟩ := and_e m12
  obtain ⟨c13, m14⟩ := and_e m13
  obtain ⟨c14, m15⟩ := and_e m14
  obtain ⟨c15, m16⟩ := and_e m15
  obtain ⟨c16, m17⟩ := and_e m16
  have c17 := m17
  obtain ⟨w_LOW, v_LOW⟩ := exa_v c0
  have E_LOW := Exa.start v_LOW c0
  have S_LOW := Sta.start v_LOW (Or.inr ⟨(hw _ (List.mem_of_getElem? (i := 6) rfl)), (hw _ (List.mem_of_getElem? (i := 7) rfl))⟩)
  obtain ⟨w_NOT_NOTIFIED_LOW, v_NOT_NOTIFIED_LOW⟩ := exa_v c1
  have E_NOT_NOTIFIED_LOW := Exa.start v_NOT_NOTIFIED_LOW c1
  have S_NOT_NOTIFIED_LOW := Sta.start v_NOT_NOTIFIED_LOW (Or.inr ⟨(hw _ (List.mem_of_getElem? (i := 6) rfl)), (hw _ (List.mem_of_getElem? (i := 9) rfl))⟩)
  obtain ⟨w_HIGH, v_HIGH⟩ := exa_v c6
  have E_HIGH := Exa.start v_HIGH c6
  have S_HIGH := Sta.start v_HIGH (Or.inr ⟨(hw _ (List.mem_of_getElem? (i := 6) rfl)), (hw _ (List.mem_of_getElem? (i := 18) rfl))⟩)
  obtain ⟨w_SUBSTANTIAL, v_SUBSTANTIAL⟩ := exa_v c7
  have E_SUBSTANTIAL := Exa.start v_SUBSTANTIAL c7
  have S_SUBSTANTIAL := Sta.start v_SUBSTANTIAL (Or.inr ⟨(hw _ (List.mem_of_getElem? (i := 6) rfl)), (hw _ (List.mem_of_getElem? (i := 20) rfl))⟩)
  obtain ⟨w_NOT_NOTIFIED_HIGH, v_NOT_NOTIFIED_HIGH⟩ := exa_v c12
  have E_NOT_NOTIFIED_HIGH := Exa.start v_NOT_NOTIFIED_HIGH c12
  have S_NOT_NOTIFIED_HIGH := Sta.start v_NOT_NOTIFIED_HIGH (Or.inr ⟨(hw _ (List.mem_of_getElem? (i := 6) rfl)), (hw _ (List.mem_of_getElem? (i := 22) rfl))⟩)
  obtain ⟨w_NOT_NOTIFIED_SUBSTANTIAL, v_NOT_NOTIFIED_SUBSTANTIAL⟩ := exa_v c15
  have E_NOT_NOTIFIED_SUBSTANTIAL := Exa.start v_NOT_NOTIFIED_SUBSTANTIAL c15
  have S_NOT_NOTIFIED_SUBSTANTIAL := Sta.start v_NOT_NOTIFIED_SUBSTANTIAL (Or.inr ⟨(hw _ (List.mem_of_getElem? (i := 6) rfl)), (hw _ (List.mem_of_getElem? (i := 24) rfl))⟩)
  have F_rank_LOW := own_eqf c2 v_LOW
  have F_rank_NOT_NOTIFIED_LOW := own_eqf c3 v_NOT_NOTIFIED_LOW
  have F_ordinal_LOW := own_eqf c4 v_LOW
  have F_ordinal_NOT_NOTIFIED_LOW := own_eqf c5 v_NOT_NOTIFIED_LOW
  have F_rank_HIGH := own_eqf c8 v_HIGH
  have F_rank_SUBSTANTIAL := own_eqf c9 v_SUBSTANTIAL
  have F_ordinal_HIGH := own_eqf c10 v_HIGH
  have F_ordinal_SUBSTANTIAL := own_eqf c11 v_SUBSTANTIAL
  have F_rank_NOT_NOTIFIED_HIGH := own_eqf c13 v_NOT_NOTIFIED_HIGH
  have F_ordinal_NOT_NOTIFIED_HIGH := own_eqf c14 v_NOT_NOTIFIED_HIGH
  have F_rank_NOT_NOTIFIED_SUBSTANTIAL := own_eqf c16 v_NOT_NOTIFIED_SUBSTANTIAL
  have F_ordinal_NOT_NOTIFIED_SUBSTANTIAL := own_eqf c17 v_NOT_NOTIFIED_SUBSTANTIAL
  obtain ⟨n, o, h1, h2, h3, _, L, rfl, ⟨rfl, N, -⟩, hq⟩ := rm0 l s _ hw tables_1 i0 i1 w_LOW w_SUBSTANTIAL w_HIGH w_NOT_NOTIFIED_LOW w_NOT_NOTIFIED_SUBSTANTIAL w_NOT_NOTIFIED_HIGH s.heap s.heap.size (Nat.le_refl _) E_LOW E_SUBSTANTIAL E_HIGH E_NOT_NOTIFIED_LOW E_NOT_NOTIFIED_SUBSTANTIAL E_NOT_NOTIFIED_HIGH F_rank_LOW F_rank_SUBSTANTIAL F_rank_HIGH F_rank_NOT_NOTIFIED_LOW F_rank_NOT_NOTIFIED_SUBSTANTIAL F_rank_NOT_NOTIFIED_HIGH S_LOW S_SUBSTANTIAL S_HIGH S_NOT_NOTIFIED_LOW S_NOT_NOTIFIED_SUBSTANTIAL S_NOT_NOTIFIED_HIGH p e ha hc hk s m _ below hf ((Spec.applies_iff_loose hf).mp happ).1 ⟨rfl, State.Warmed39.refl s, rfl⟩ trivial
  rw [own_law F_ordinal_LOW F_ordinal_SUBSTANTIAL F_ordinal_HIGH F_ordinal_NOT_NOTIFIED_LOW F_ordinal_NOT_NOTIFIED_SUBSTANTIAL F_ordinal_NOT_NOTIFIED_HIGH i0 i1] at h3
  refine ⟨n, _, h1, h2, h3, hpost _ _ _ _ _ _ ⟨Cond.after_iff.mpr rfl, Cond.after_iff.mpr (eq_i res_at (Term.int_eval (1)) rfl), trivial⟩ ⟨⟨_, rfl⟩, hq.2.1, (hq.2.2.sift fun y hy => Or.inr (N y hy)).mono (by decide) (by decide)⟩⟩
theorem main_1_1 : Claimed_1_1 := comes_1 fun _ _ _ _ _ _ h hF => ⟨h.1, hF⟩
theorem main_1_2 : Claimed_1_2 := comes_1 fun _ _ _ _ _ _ h hF => ⟨h.2.1, hF⟩
end Jvm.Pilot.@@N@@
namespace Jvm.Pilot.@@N@@
open Jvm Jvm.ClassFile Sem Op Lib Jvm.Free Jvm.Stand Jvm.Pilot.@@N@@.Jvm.D
/-! MADE BY PROGRAM (witnessworld.py) out of the Statement's table words and the real class files: 12 classes; the members and pool entries that the words name. The judged class is class 1, her method 2. -/
namespace start1
open Jvm.ClassFile
def u (s : String) : CpInfo := .utf8 (stringToUtf16 s)
/-- a pool by its gaps: so many unusable entries, then the entry; so many at the end -/
def gap : Nat → List CpInfo → List CpInfo
  | 0, r => r
  | n + 1, r => .unusable :: gap n r
def poolList (es : List (Nat × CpInfo)) (last : Nat) : List CpInfo := es.foldr (fun e r => gap e.1 (e.2 :: r)) (gap last [])
def pool (es : List (Nat × CpInfo)) (last : Nat) : Array CpInfo := ⟨poolList es last⟩
def fileOf (pool : Array CpInfo) (this : Nat) (attrs : Array Attribute := #[]) (ms : Array MethodInfo := #[]) (fl : Nat := 33) (sup : Nat := 0) (ifs : Array Nat := #[]) (fds : Array FieldInfo := #[]) : ClassFile where
  minorVersion := 0
  majorVersion := 65
  constantPool := pool
  accessFlags := fl
  thisClass := this
  superClass := sup
  interfaces := ifs
  fields := fds
  methods := ms
  attributes := attrs
def plain (name : String) (sup : Option ClassId) : Class where
  name := name
  kind := .ordinary
  loader := none
  accessFlags := 33
  super := sup
  interfaces := #[]
  cf := none
  fields := #[]
  methods := #[]
  instanceTypes := #[]
  staticTypes := #[]
  resolved := #[]
  callSites := []
  init := .initialized
  statics := none
  mirror := none

def pool0 : Array CpInfo := pool [(5, u "<init>"), (0, u "()V"), (1, .class_ 10), (1, u "java/lang/Object")] 113

def k0m0 : Method := { name := "<init>", desc := "()V", sig := { parameters := [], returnType := none }, accessFlags := 1, code := none }
/-- java/lang/Object -/
def k0 : Class := { plain "java/lang/Object" none with
  accessFlags := 33
  interfaces := #[]
  cf := some (fileOf pool0 8 #[] #[{ accessFlags := 1, nameIndex := 5, descriptorIndex := 6, attributes := #[] }] 33 0 #[] #[])
  fields := #[]
  methods := #[k0m0]
  instanceTypes := #[]
  staticTypes := #[]
  resolved := Array.replicate 124 none
  statics := none }

def pool1 : Array CpInfo := pool [(2, .class_ 4), (1, u "java/lang/Object"), (0, u "<init>"), (0, u "()V"), (0, .fieldref 8 9), (0, .class_ 10), (0, .nameAndType 11 12), (0, u "com/example/crossgate/crossgate/LevelOfAssurance"), (0, u "LOW"), (0, u "Lcom/example/crossgate/crossgate/LevelOfAssurance;"), (0, .fieldref 8 14), (0, .nameAndType 15 12), (0, u "SUBSTANTIAL"), (0, .fieldref 8 17), (0, .nameAndType 18 12), (0, u "HIGH"), (0, .fieldref 8 20), (0, .nameAndType 21 12), (0, u "NOT_NOTIFIED_LOW"), (0, .fieldref 8 23), (0, .nameAndType 24 12), (0, u "NOT_NOTIFIED_SUBSTANTIAL"), (0, .fieldref 8 26), (0, .nameAndType 27 12), (0, u "NOT_NOTIFIED_HIGH"), (0, .integer 2147483647), (0, .methodref 30 31), (0, .class_ 32), (0, .nameAndType 33 34), (0, u "com/example/crossgate/crossgate/LevelOfAssuranceSatisfiesPinLaw"), (0, u "pick"), (0, u "(I)Lcom/example/crossgate/crossgate/LevelOfAssurance;"), (0, .methodref 8 36), (0, .nameAndType 37 38), (0, u "satisfies"), (0, u "(Lcom/example/crossgate/crossgate/LevelOfAssurance;)Z"), (3, u "law"), (0, u "(II)Z")] 2

def k1m0 : Method := { name := "<init>", desc := "()V", sig := { parameters := [], returnType := none }, accessFlags := 1, code := none }
def k1c1 : Code := { maxStack := 2, maxLocals := 1, code := method_2_code, exceptionTable := #[], attributes := #[] }
def k1m1 : Method := { name := "pick", desc := "(I)Lcom/example/crossgate/crossgate/LevelOfAssurance;", sig := { parameters := [.int], returnType := some (.object "com/example/crossgate/crossgate/LevelOfAssurance") }, accessFlags := 10, code := some k1c1 }
def k1c2 : Code := { maxStack := 2, maxLocals := 7, code := code, exceptionTable := #[], attributes := #[] }
def k1m2 : Method := { name := "law", desc := "(II)Z", sig := { parameters := [.int, .int], returnType := some .boolean }, accessFlags := 9, code := some k1c2 }
/-- com/example/crossgate/crossgate/LevelOfAssuranceSatisfiesPinLaw -/
def k1 : Class := { plain "com/example/crossgate/crossgate/LevelOfAssuranceSatisfiesPinLaw" (some 0) with
  accessFlags := 49
  interfaces := #[]
  cf := some (fileOf pool1 30 #[] #[{ accessFlags := 1, nameIndex := 5, descriptorIndex := 6, attributes := #[] }, { accessFlags := 10, nameIndex := 33, descriptorIndex := 34, attributes := #[] }, { accessFlags := 9, nameIndex := 42, descriptorIndex := 43, attributes := #[] }] 49 2 #[] #[])
  fields := #[]
  methods := #[k1m0, k1m1, k1m2]
  instanceTypes := #[]
  staticTypes := #[]
  resolved := Array.replicate 46 none
  statics := none }

def pool2 : Array CpInfo := pool [(1, .class_ 2), (0, u "java/lang/constant/Constable"), (0, .class_ 4), (0, u "java/lang/Object")] 6

/-- java/lang/constant/Constable -/
def k2 : Class := { plain "java/lang/constant/Constable" (some 0) with
  accessFlags := 1537
  interfaces := #[]
  cf := some (fileOf pool2 1 #[] #[] 1537 3 #[] #[])
  fields := #[]
  methods := #[]
  instanceTypes := #[]
  staticTypes := #[]
  resolved := Array.replicate 11 none
  statics := none }

def pool3 : Array CpInfo := pool [(1, .class_ 2), (0, u "java/lang/Comparable"), (0, .class_ 4), (0, u "java/lang/Object")] 7

/-- java/lang/Comparable -/
def k3 : Class := { plain "java/lang/Comparable" (some 0) with
  accessFlags := 1537
  interfaces := #[]
  cf := some (fileOf pool3 1 #[] #[] 1537 3 #[] #[])
  fields := #[]
  methods := #[]
  instanceTypes := #[]
  staticTypes := #[]
  resolved := Array.replicate 12 none
  statics := none }

def pool4 : Array CpInfo := pool [(1, .class_ 2), (0, u "java/io/Serializable"), (0, .class_ 4), (0, u "java/lang/Object")] 2

/-- java/io/Serializable -/
def k4 : Class := { plain "java/io/Serializable" (some 0) with
  accessFlags := 1537
  interfaces := #[]
  cf := some (fileOf pool4 1 #[] #[] 1537 3 #[] #[])
  fields := #[]
  methods := #[]
  instanceTypes := #[]
  staticTypes := #[]
  resolved := Array.replicate 7 none
  statics := none }

def pool5 : Array CpInfo := pool [(2, .class_ 4), (1, u "java/lang/Enum"), (0, u "name"), (0, u "Ljava/lang/String;"), (2, u "ordinal"), (0, u "I"), (1, .class_ 14), (1, u "java/lang/Object"), (4, u "hash"), (86, .class_ 108), (1, u "java/lang/Enum$EnumDesc"), (2, .class_ 112), (0, u "java/lang/constant/Constable"), (0, .class_ 114), (0, u "java/lang/Comparable"), (0, .class_ 116), (0, u "java/io/Serializable")] 87

/-- java/lang/Enum -/
def k5 : Class := { plain "java/lang/Enum" (some 0) with
  accessFlags := 1057
  interfaces := #[2, 3, 4]
  cf := some (fileOf pool5 2 #[.nestMembers #[106]] #[] 1057 12 #[111, 113, 115] #[{ accessFlags := 18, nameIndex := 5, descriptorIndex := 6, attributes := #[] }, { accessFlags := 18, nameIndex := 9, descriptorIndex := 10, attributes := #[] }, { accessFlags := 2, nameIndex := 19, descriptorIndex := 10, attributes := #[] }])
  fields := #[{ name := "name", type := (.object "java/lang/String"), accessFlags := 18, slot := 0, constantValue := 0 }, { name := "ordinal", type := .int, accessFlags := 18, slot := 1, constantValue := 0 }, { name := "hash", type := .int, accessFlags := 2, slot := 2, constantValue := 0 }]
  methods := #[]
  instanceTypes := #[(.object "java/lang/String"), .int, .int]
  staticTypes := #[]
  resolved := Array.replicate 204 none
  statics := none }

def pool6 : Array CpInfo := pool [(1, .class_ 2), (0, u "com/example/crossgate/crossgate/LevelOfAssurance"), (2, u "LOW"), (0, u "Lcom/example/crossgate/crossgate/LevelOfAssurance;"), (2, u "SUBSTANTIAL"), (2, u "HIGH"), (2, u "NOT_NOTIFIED_LOW"), (2, u "NOT_NOTIFIED_SUBSTANTIAL"), (2, u "NOT_NOTIFIED_HIGH"), (2, u "$VALUES"), (0, u "[Lcom/example/crossgate/crossgate/LevelOfAssurance;"), (6, .class_ 34), (1, u "java/lang/Enum"), (8, u "uri"), (0, u "Ljava/lang/String;"), (0, .fieldref 1 46), (0, .nameAndType 47 48), (0, u "rank"), (0, u "I"), (2, u "BY_URI"), (0, u "Ljava/util/Map;"), (81, u "satisfies"), (0, u "(Lcom/example/crossgate/crossgate/LevelOfAssurance;)Z")] 30

def k6c0 : Code := { maxStack := 2, maxLocals := 3, code := prog_11_method_6_code, exceptionTable := #[], attributes := #[] }
def k6m0 : Method := { name := "satisfies", desc := "(Lcom/example/crossgate/crossgate/LevelOfAssurance;)Z", sig := { parameters := [(.object "com/example/crossgate/crossgate/LevelOfAssurance")], returnType := some .boolean }, accessFlags := 1, code := some k6c0 }
/-- com/example/crossgate/crossgate/LevelOfAssurance -/
def k6 : Class := { plain "com/example/crossgate/crossgate/LevelOfAssurance" (some 5) with
  accessFlags := 16433
  interfaces := #[]
  cf := some (fileOf pool6 1 #[] #[{ accessFlags := 1, nameIndex := 134, descriptorIndex := 135, attributes := #[] }] 16433 32 #[] #[{ accessFlags := 16409, nameIndex := 5, descriptorIndex := 6, attributes := #[] }, { accessFlags := 16409, nameIndex := 9, descriptorIndex := 6, attributes := #[] }, { accessFlags := 16409, nameIndex := 12, descriptorIndex := 6, attributes := #[] }, { accessFlags := 16409, nameIndex := 15, descriptorIndex := 6, attributes := #[] }, { accessFlags := 16409, nameIndex := 18, descriptorIndex := 6, attributes := #[] }, { accessFlags := 16409, nameIndex := 21, descriptorIndex := 6, attributes := #[] }, { accessFlags := 26, nameIndex := 51, descriptorIndex := 52, attributes := #[] }, { accessFlags := 18, nameIndex := 43, descriptorIndex := 44, attributes := #[] }, { accessFlags := 18, nameIndex := 47, descriptorIndex := 48, attributes := #[] }, { accessFlags := 4122, nameIndex := 24, descriptorIndex := 25, attributes := #[] }])
  fields := #[{ name := "LOW", type := (.object "com/example/crossgate/crossgate/LevelOfAssurance"), accessFlags := 16409, slot := 0, constantValue := 0 }, { name := "SUBSTANTIAL", type := (.object "com/example/crossgate/crossgate/LevelOfAssurance"), accessFlags := 16409, slot := 1, constantValue := 0 }, { name := "HIGH", type := (.object "com/example/crossgate/crossgate/LevelOfAssurance"), accessFlags := 16409, slot := 2, constantValue := 0 }, { name := "NOT_NOTIFIED_LOW", type := (.object "com/example/crossgate/crossgate/LevelOfAssurance"), accessFlags := 16409, slot := 3, constantValue := 0 }, { name := "NOT_NOTIFIED_SUBSTANTIAL", type := (.object "com/example/crossgate/crossgate/LevelOfAssurance"), accessFlags := 16409, slot := 4, constantValue := 0 }, { name := "NOT_NOTIFIED_HIGH", type := (.object "com/example/crossgate/crossgate/LevelOfAssurance"), accessFlags := 16409, slot := 5, constantValue := 0 }, { name := "BY_URI", type := (.object "java/util/Map"), accessFlags := 26, slot := 6, constantValue := 0 }, { name := "uri", type := (.object "java/lang/String"), accessFlags := 18, slot := 3, constantValue := 0 }, { name := "rank", type := .int, accessFlags := 18, slot := 4, constantValue := 0 }, { name := "$VALUES", type := (.array (.object "com/example/crossgate/crossgate/LevelOfAssurance")), accessFlags := 4122, slot := 7, constantValue := 0 }]
  methods := #[k6m0]
  instanceTypes := #[(.object "java/lang/String"), .int, .int, (.object "java/lang/String"), .int]
  staticTypes := #[(.object "com/example/crossgate/crossgate/LevelOfAssurance"), (.object "com/example/crossgate/crossgate/LevelOfAssurance"), (.object "com/example/crossgate/crossgate/LevelOfAssurance"), (.object "com/example/crossgate/crossgate/LevelOfAssurance"), (.object "com/example/crossgate/crossgate/LevelOfAssurance"), (.object "com/example/crossgate/crossgate/LevelOfAssurance"), (.object "java/util/Map"), (.array (.object "com/example/crossgate/crossgate/LevelOfAssurance"))]
  resolved := Array.replicate 166 none
  statics := some 0 }

def pool7 : Array CpInfo := pool [(1, u "java/lang/Cloneable"), (0, .class_ 1), (0, u "java/lang/Object"), (0, .class_ 3)] 3

/-- java/lang/Cloneable -/
def k7 : Class := { plain "java/lang/Cloneable" (some 0) with
  accessFlags := 1537
  interfaces := #[]
  cf := some (fileOf pool7 2 #[] #[] 1537 4 #[] #[])
  fields := #[]
  methods := #[]
  instanceTypes := #[]
  staticTypes := #[]
  resolved := Array.replicate 8 none
  statics := none }

/-- the primitive byte -/
def k8 : Class := { plain "byte" none with kind := .primitive 'B', accessFlags := 0x411 }
/-- [B -/
def k9 : Class := { plain "[B" (some 0) with kind := .array 8 .byte, interfaces := #[7, 4], accessFlags := 1041 }

/-- the primitive int -/
def k10 : Class := { plain "int" none with kind := .primitive 'I', accessFlags := 0x411 }
/-- [I -/
def k11 : Class := { plain "[I" (some 0) with kind := .array 10 .int, interfaces := #[7, 4], accessFlags := 1041 }

def heap : Heap := #[{ cls := 6, slots := #[.ref 1, .ref 2, .ref 3, .ref 4, .ref 5, .ref 6, .null, .null], vm := .statics 6 },
  { cls := 6, slots := #[.null, .int 0, .int 0, .null, .int 1], vm := .none },
  { cls := 6, slots := #[.null, .int 1, .int 0, .null, .int 2], vm := .none },
  { cls := 6, slots := #[.null, .int 2, .int 0, .null, .int 3], vm := .none },
  { cls := 6, slots := #[.null, .int 3, .int 0, .null, .int 0], vm := .none },
  { cls := 6, slots := #[.null, .int 4, .int 0, .null, .int 0], vm := .none },
  { cls := 6, slots := #[.null, .int 5, .int 0, .null, .int 0], vm := .none }]
def classes : Array Class := #[k0, k1, k2, k3, k4, k5, k6, k7, k8, k9, k10, k11]
def interned : List (Array UInt16 × Addr) := []
def slotsUsed : Nat := 38
def theMethod : MethodId := ⟨1, 2⟩
def args0 : Array Value := #[.int 3, .int 1]
def aboutOver (below : List Frame) : State where
  vm := { classes := classes, interned := interned.toArray }
  heap := heap
  slotsUsed := slotsUsed
  threads := #[{ frames := .invoking theMethod args0 :: below }]
def below0 : List Frame := [.native { method := ⟨0, 0⟩, args := #[] }]
def about1 : State := aboutOver below0
def p0 : Program := .bare "" "" ""
def e0 : Env := launch0.env 0 0 0
theorem w_frames : about1.frames = Frame.invoking theMethod args0 :: below0 := rfl
set_option maxRecDepth 65536 in
theorem w_args : argsFit about1.vm theMethod args0 = true := by decide +kernel
set_option maxRecDepth 65536 in
theorem w_heap : heapFits about1 = true := by decide +kernel
set_option maxRecDepth 65536 in
theorem w_runnable : about1.curStatus? = some .runnable := by decide +kernel
set_option maxRecDepth 65536 in
theorem w_alone : about1.alone = true := by decide +kernel
set_option maxRecDepth 65536 in
theorem w_named : about1.methodNamed? x = some theMethod := by decide +kernel
set_option maxRecDepth 65536 in
theorem w_hears : about1.hears theMethod below0 = true := by decide +kernel
set_option maxRecDepth 65536 in
theorem w_ripe : about1.ripe theMethod args0 below0 = true := by decide +kernel
theorem w_running : about1.status = .running := rfl
set_option maxRecDepth 65536 in
theorem w_room : about1.hasRoom e0.platform room_1 = true :=
  launch0.hasRoom_least _ room_1 (by decide +kernel) (by decide +kernel) (by decide +kernel) (by decide +kernel) (by decide +kernel) (by decide +kernel)
theorem allAtoms_all (ts : List Jvm.Cond) (a : Array Jvm.Value) (st : Jvm.State) : (allAtoms ts).before a st = ts.all (fun c => c.before a st) := by
  induction ts with
  | nil => rfl
  | cons c t ih =>
    show (Jvm.Cond.and c (allAtoms t)).before a st = _
    rw [Jvm.Cond.before_and, ih, List.all_cons]
def words1 : List Jvm.Cond := Jvm.Cond.code x code maxLocals ret :: tables_1
/-- a 'code' word, met by the world's own term for the bytes: nothing is compared byte by byte -/
theorem code_word {y : MethodName} {bytes : ByteArray} {mx : Nat} {rt : Option FieldType} {a : Array Value} {s : State} {m : MethodId} {meth : Method} {c : Code} (h1 : s.methodNamed? y = some m) (h2 : s.vm.method? m = some meth) (h3 : meth.code = some c) (h4 : c.code = bytes)
    (h5 : (c.maxLocals == mx && c.exceptionTable.isEmpty && decide (c.maxStack ≤ mostOperands) && decide (meth.sig.returnType = rt) && !meth.locks && decide (parseMethodDescriptor y.desc = some meth.sig)) = true) : (Jvm.Cond.code y bytes mx rt).before a s = true := by
  simp only [Bool.and_eq_true, beq_iff_eq, Bool.not_eq_true', decide_eq_true_eq] at h5
  obtain ⟨⟨⟨⟨⟨g1, g2⟩, g3⟩, g4⟩, g5⟩, g6⟩ := h5
  simp [Cond.before, Cond.holds, Cond.value, h1, h2, h3, h4, g1, g2, g3, g4, g5, g6]
def isCode : Jvm.Cond → Bool
  | .code _ _ _ _ => true
  | _ => false
theorem all_split {L : List Jvm.Cond} {P : Jvm.Cond → Bool} (h1 : L.all (fun c => isCode c || P c) = true) (h2 : ∀ c ∈ L.filter isCode, P c = true) : L.all P = true := by
  refine List.all_eq_true.mpr fun c hc => ?_
  have h := List.all_eq_true.mp h1 c hc
  rcases Bool.eq_false_or_eq_true (isCode c) with hi | hi
  · exact h2 c (List.mem_filter.mpr ⟨hc, hi⟩)
  · simpa [hi] using h
set_option maxRecDepth 65536 in
theorem w_c0 : (Jvm.Cond.code x code maxLocals ret).before args0 about1 = true := code_word (m := ⟨1, 2⟩) (meth := k1m2) (c := k1c2) (by decide +kernel) rfl rfl rfl (by decide +kernel)
set_option maxRecDepth 65536 in
theorem w_c1 : (Jvm.Cond.code ({ cls := "com/example/crossgate/crossgate/LevelOfAssuranceSatisfiesPinLaw", name := "pick", desc := "(I)Lcom/example/crossgate/crossgate/LevelOfAssurance;" } : Jvm.MethodName) method_2_code (1 : Nat) (Option.some (Jvm.ClassFile.FieldType.object "com/example/crossgate/crossgate/LevelOfAssurance"))).before args0 about1 = true := code_word (m := ⟨1, 1⟩) (meth := k1m1) (c := k1c1) (by decide +kernel) rfl rfl rfl (by decide +kernel)
set_option maxRecDepth 65536 in
theorem w_c2 : (Jvm.Cond.code ({ cls := "com/example/crossgate/crossgate/LevelOfAssurance", name := "satisfies", desc := "(Lcom/example/crossgate/crossgate/LevelOfAssurance;)Z" } : Jvm.MethodName) prog_11_method_6_code (3 : Nat) (Option.some Jvm.ClassFile.FieldType.boolean)).before args0 about1 = true := code_word (m := ⟨6, 0⟩) (meth := k6m0) (c := k6c0) (by decide +kernel) rfl rfl rfl (by decide +kernel)
def codes1 : List Jvm.Cond := [Jvm.Cond.code x code maxLocals ret, Jvm.Cond.code ({ cls := "com/example/crossgate/crossgate/LevelOfAssuranceSatisfiesPinLaw", name := "pick", desc := "(I)Lcom/example/crossgate/crossgate/LevelOfAssurance;" } : Jvm.MethodName) method_2_code (1 : Nat) (Option.some (Jvm.ClassFile.FieldType.object "com/example/crossgate/crossgate/LevelOfAssurance")), Jvm.Cond.code ({ cls := "com/example/crossgate/crossgate/LevelOfAssurance", name := "satisfies", desc := "(Lcom/example/crossgate/crossgate/LevelOfAssurance;)Z" } : Jvm.MethodName) prog_11_method_6_code (3 : Nat) (Option.some Jvm.ClassFile.FieldType.boolean)]
set_option maxRecDepth 65536 in
theorem codes_eq : words1.filter isCode = codes1 := rfl
theorem w_codes : ∀ c ∈ words1.filter isCode, c.before args0 about1 = true := by
  rw [codes_eq]
  intro c hc
  simp only [codes1, List.mem_cons, List.not_mem_nil, or_false] at hc
  rcases hc with rfl | rfl | rfl
  · exact w_c0
  · exact w_c1
  · exact w_c2
set_option maxRecDepth 65536 in
theorem w_t1 : (words1.take 24).all (fun c => isCode c || c.before args0 about1) = true := by decide +kernel
set_option maxRecDepth 65536 in
theorem w_t2 : (words1.drop 24).all (fun c => isCode c || c.before args0 about1) = true := by decide +kernel
theorem w_tables : (allAtoms (Jvm.Cond.code x code maxLocals ret :: tables_1)).before args0 about1 = true := by
  rw [allAtoms_all]
  show words1.all (fun c => c.before args0 about1) = true
  refine all_split ?_ w_codes
  rw [← List.take_append_drop 24 words1, List.all_append, w_t1, w_t2]
  rfl
set_option maxRecDepth 65536 in
theorem w_case : (Jvm.Cond.and given_1 narrow_1).before args0 about1 = true := by decide +kernel
theorem w_applies : (headSpec (Jvm.Cond.code x code maxLocals ret :: tables_1) room_1).applies x e0.platform about1 = true :=
  (Spec.applies_iff w_frames).mpr ⟨w_running, w_runnable, w_alone, w_named, w_hears, w_ripe, w_room, w_tables⟩
theorem atStart : AtStart classFile x code maxLocals ret World_1 tables_1 room_1 Calls_1 rest_1 Pre_1 launch0 p0 e0 about1 theMethod args0 below0 :=
  ⟨lists_1, trivial, launch0.admits_env _ _ _, launch0.least_env, fairChoices_fair.cas, fairChoices_fair.clock, w_frames, w_args, w_heap, w_applies, trivial, trivial, w_case⟩
end start1
theorem witness_1 : WitnessClaimed_1 := ⟨start1.p0, start1.e0, start1.about1, start1.theMethod, start1.args0, start1.below0, start1.atStart⟩
end Jvm.Pilot.@@N@@
