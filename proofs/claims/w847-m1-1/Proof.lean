import JvmDerived
import JvmDerived.Pilot.@@N@@Statement
import JvmDerived.Pilot.@@N@@Code
set_option linter.unusedVariables false
set_option linter.unusedSimpArgs false
@@BLOCK:NumsL.lean.txt@@
@@BLOCK:Masks.lean.txt@@
namespace Jvm.Pilot.@@N@@
open Jvm Jvm.ClassFile Sem Op Lib Jvm.Free Jvm.Stand Jvm.LawKit Jvm.RoadKit Bundle Jvm.Pilot.@@N@@.Jvm.D
def own_G (tb : Tables) (e : Env) (below : List Frame) (En : Outcome → State → List Loc → Prop) (Q : Option Value → Heap → List Loc → Prop) (U : State) : Prop :=
  ∃ t o, Steps tb e below U t ∧ t.status = .running ∧ Ended t below o ∧ ∃ v L, o = .returned v ∧ Q v t.heap L ∧ En o t L
/-- the frame at the end, counted from s -/
def own_E (s : State) (nc ns : Nat) (o : Outcome) (t : State) (L : List Loc) : Prop := FrameEnd s o t L nc ns
theorem own_st {tb : Tables} {e : Env} {below : List Frame} {En : Outcome → State → List Loc → Prop} {Q : Option Value → Heap → List Loc → Prop} {U U' : State} (h : own_G tb e below En Q U') (st : ∀ t, Steps tb e below U' t → Steps tb e below U t) : own_G tb e below En Q U := by
  obtain ⟨t, o, h1, h2⟩ := h
  exact ⟨t, o, st t h1, h2⟩
section OwnRet
variable {p : Program} {l : Launch} {e : Env} {R : Room} {s : State} {m : MethodId} {args : Array Value} {below : List Frame} {meth : Method} {c : Code} {T : State} {locs : List Loc} {cells slots : Nat}
theorem own_retN (X : Stand p l e R s m args below meth c T locs cells slots) (hx : p.tables.exec = Jvm.exec) (hlk : meth.locks = false) {pc : Nat} {Ls : Array Slot} {z z' : Int32} {t : FieldType} {rest : List Value} (hret : meth.sig.returnType = some t) (ht : t = .boolean ∨ t = .byte ∨ t = .char ∨ t = .short)
    (hd : decode c.code pc = .ok (.ireturn, 1)) {Q : Option Value → Heap → List Loc → Prop} {nc ns : Nat} (hc : cells ≤ nc) (hs : slots ≤ ns) (hz : nar t z = z') (hQ : Q (some (.int z')) T.heap locs) : own_G p.tables e below (own_E s nc ns) Q (T.setTop (mkF m pc Ls (.int z :: rest))) := by
  subst hz
  obtain ⟨fs, hr, hrun, hended, hW, hsame⟩ := X.leave (v := some (.int (nar t z))) (fun h => by rw [hret] at h; cases h) hlk
  exact ⟨_, _, retN X hx hret ht hd hr, hrun, hended, _, _, rfl, hQ, ⟨_, rfl⟩, hW, hsame.mono hc hs⟩
theorem own_retI (X : Stand p l e R s m args below meth c T locs cells slots) (hx : p.tables.exec = Jvm.exec) (hlk : meth.locks = false) {pc : Nat} {Ls : Array Slot} {z : Int32} {rest : List Value} (hret : meth.sig.returnType = some .int)
    (hd : decode c.code pc = .ok (.ireturn, 1)) {Q : Option Value → Heap → List Loc → Prop} {nc ns : Nat} (hc : cells ≤ nc) (hs : slots ≤ ns) (hQ : Q (some (.int z)) T.heap locs) : own_G p.tables e below (own_E s nc ns) Q (T.setTop (mkF m pc Ls (.int z :: rest))) := by
  obtain ⟨fs, hr, hrun, hended, hW, hsame⟩ := X.leave (v := some (.int z)) (fun h => by rw [hret] at h; cases h) hlk
  exact ⟨_, _, retOut X hx hret rfl (Or.inl ⟨rfl, Or.inl rfl, _, rfl⟩) hd hr, hrun, hended, _, _, rfl, hQ, ⟨_, rfl⟩, hW, hsame.mono hc hs⟩
theorem own_retJ (X : Stand p l e R s m args below meth c T locs cells slots) (hx : p.tables.exec = Jvm.exec) (hlk : meth.locks = false) {pc : Nat} {Ls : Array Slot} {z : Int64} {rest : List Value} (hret : meth.sig.returnType = some .long)
    (hd : decode c.code pc = .ok (.lreturn, 1)) {Q : Option Value → Heap → List Loc → Prop} {nc ns : Nat} (hc : cells ≤ nc) (hs : slots ≤ ns) (hQ : Q (some (.long z)) T.heap locs) : own_G p.tables e below (own_E s nc ns) Q (T.setTop (mkF m pc Ls (.long z :: rest))) := by
  obtain ⟨fs, hr, hrun, hended, hW, hsame⟩ := X.leave (v := some (.long z)) (fun h => by rw [hret] at h; cases h) hlk
  exact ⟨_, _, retOut X hx hret rfl (Or.inr (Or.inl ⟨rfl, rfl, _, rfl⟩)) hd hr, hrun, hended, _, _, rfl, hQ, ⟨_, rfl⟩, hW, hsame.mono hc hs⟩
theorem own_retA (X : Stand p l e R s m args below meth c T locs cells slots) (hx : p.tables.exec = Jvm.exec) (hlk : meth.locks = false) {pc : Nat} {Ls : Array Slot} {z : Value} {t : FieldType} {rest : List Value} (hret : meth.sig.returnType = some t) (ht : t.isReference = true) (hn : narrow t z = z) (hv : z.isRef = true)
    (hd : decode c.code pc = .ok (.areturn, 1)) {Q : Option Value → Heap → List Loc → Prop} {nc ns : Nat} (hc : cells ≤ nc) (hs : slots ≤ ns) (hQ : Q (some z) T.heap locs) : own_G p.tables e below (own_E s nc ns) Q (T.setTop (mkF m pc Ls (z :: rest))) := by
  obtain ⟨fs, hr, hrun, hended, hW, hsame⟩ := X.leave (v := some z) (fun h => by rw [hret] at h; cases h) hlk
  exact ⟨_, _, retOut X hx hret hn (Or.inr (Or.inr (Or.inr (Or.inr ⟨rfl, ht, hv⟩)))) hd hr, hrun, hended, _, _, rfl, hQ, ⟨_, rfl⟩, hW, hsame.mono hc hs⟩
theorem own_retV (X : Stand p l e R s m args below meth c T locs cells slots) (hx : p.tables.exec = Jvm.exec) (hlk : meth.locks = false) {pc : Nat} {Ls : Array Slot} (hret : meth.sig.returnType = none)
    (hd : decode c.code pc = .ok (.return_, 1)) {Q : Option Value → Heap → List Loc → Prop} {nc ns : Nat} (hc : cells ≤ nc) (hs : slots ≤ ns) (hQ : Q none T.heap locs) : own_G p.tables e below (own_E s nc ns) Q (T.setTop (mkF m pc Ls [])) := by
  obtain ⟨fs, hr, hrun, hended, hW, hsame⟩ := X.leave (v := none) (fun _ => rfl) hlk
  exact ⟨_, _, X.returnOut hx hret hd hr, hrun, hended, _, _, rfl, hQ, ⟨_, rfl⟩, hW, hsame.mono hc hs⟩
/-- the wide frame at the end: Strings may have been interned -/
def own_EW (s : State) (nc ns : Nat) (o : Outcome) (t : State) (L : List Loc) : Prop := ReturnedEndW s o t L nc ns
theorem own_retNW {vm1 : Vm} (X : Stand p l e R (s.setVm vm1) m args below meth c T locs cells slots) (hx : p.tables.exec = Jvm.exec) (hlk : meth.locks = false) {k : Nat} (hS : s.Since vm1 k) (hk : k ≤ T.heap.size) {pc : Nat} {Ls : Array Slot} {z z' : Int32} {t : FieldType} {rest : List Value} (hret : meth.sig.returnType = some t) (ht : t = .boolean ∨ t = .byte ∨ t = .char ∨ t = .short)
    (hd : decode c.code pc = .ok (.ireturn, 1)) {Q : Option Value → Heap → List Loc → Prop} {nc ns : Nat} (hc : cells ≤ nc) (hs : slots ≤ ns) (hz : nar t z = z') (hQ : Q (some (.int z')) T.heap locs) : own_G p.tables e below (own_EW s nc ns) Q (T.setTop (mkF m pc Ls (.int z :: rest))) := by
  subst hz
  obtain ⟨fs, hr, hrun, hended, h1, h2, h3, h4⟩ := X.leaveW hS hk (v := some (.int (nar t z))) (fun h => by rw [hret] at h; cases h) hlk
  exact ⟨_, _, retN X hx hret ht hd hr, hrun, hended, _, _, rfl, hQ, h1, h2, h3, h4.mono hc hs⟩
end OwnRet
/-- it returns r; nothing old is written (own_QV: the heap is as it was) -/
def own_QL (r : Value) (n0 : Nat) (v : Option Value) (h : Heap) (L : List Loc) : Prop := v = some r ∧ Fr n0 L
def own_QN (h0 : Heap) (n0 : Nat) (v : Option Value) (h : Heap) (L : List Loc) : Prop := v = none ∧ Fr n0 L ∧ h = h0
def own_QV (r : Value) (h0 : Heap) (n0 : Nat) (v : Option Value) (h : Heap) (L : List Loc) : Prop := v = some r ∧ Fr n0 L ∧ h = h0
theorem d1_0 : decode prog_30_method_26_code 0 = .ok (.iload_n 0, 1) := by decide +kernel
theorem d1_1 : decode prog_30_method_26_code 1 = .ok (.bipush 32, 2) := by decide +kernel
theorem d1_3 : decode prog_30_method_26_code 3 = .ok (.if_icmp .ge 21, 3) := by decide +kernel
theorem d1_6 : decode prog_30_method_26_code 6 = .ok (.iload_n 0, 1) := by decide +kernel
theorem d1_7 : decode prog_30_method_26_code 7 = .ok (.bipush 9, 2) := by decide +kernel
theorem d1_9 : decode prog_30_method_26_code 9 = .ok (.if_icmp .eq 15, 3) := by decide +kernel
theorem d1_12 : decode prog_30_method_26_code 12 = .ok (.iload_n 0, 1) := by decide +kernel
theorem d1_13 : decode prog_30_method_26_code 13 = .ok (.bipush 10, 2) := by decide +kernel
theorem d1_15 : decode prog_30_method_26_code 15 = .ok (.if_icmp .eq 9, 3) := by decide +kernel
theorem d1_18 : decode prog_30_method_26_code 18 = .ok (.iload_n 0, 1) := by decide +kernel
theorem d1_19 : decode prog_30_method_26_code 19 = .ok (.bipush 13, 2) := by decide +kernel
theorem d1_21 : decode prog_30_method_26_code 21 = .ok (.if_icmp .ne 42, 3) := by decide +kernel
theorem d1_24 : decode prog_30_method_26_code 24 = .ok (.iload_n 0, 1) := by decide +kernel
theorem d1_25 : decode prog_30_method_26_code 25 = .ok (.ldc_w 508, 3) := by decide +kernel
theorem d1_28 : decode prog_30_method_26_code 28 = .ok (.if_icmp .lt 10, 3) := by decide +kernel
theorem d1_31 : decode prog_30_method_26_code 31 = .ok (.iload_n 0, 1) := by decide +kernel
theorem d1_32 : decode prog_30_method_26_code 32 = .ok (.ldc_w 509, 3) := by decide +kernel
theorem d1_35 : decode prog_30_method_26_code 35 = .ok (.if_icmp .le 28, 3) := by decide +kernel
theorem d1_38 : decode prog_30_method_26_code 38 = .ok (.iload_n 0, 1) := by decide +kernel
theorem d1_39 : decode prog_30_method_26_code 39 = .ok (.ldc_w 291, 3) := by decide +kernel
theorem d1_42 : decode prog_30_method_26_code 42 = .ok (.if_icmp .eq 21, 3) := by decide +kernel
theorem d1_45 : decode prog_30_method_26_code 45 = .ok (.iload_n 0, 1) := by decide +kernel
theorem d1_46 : decode prog_30_method_26_code 46 = .ok (.ldc_w 292, 3) := by decide +kernel
theorem d1_49 : decode prog_30_method_26_code 49 = .ok (.if_icmp .eq 14, 3) := by decide +kernel
theorem d1_52 : decode prog_30_method_26_code 52 = .ok (.iload_n 0, 1) := by decide +kernel
theorem d1_53 : decode prog_30_method_26_code 53 = .ok (.ldc_w 499, 3) := by decide +kernel
theorem d1_56 : decode prog_30_method_26_code 56 = .ok (.if_icmp .gt 7, 3) := by decide +kernel
theorem d1_59 : decode prog_30_method_26_code 59 = .ok (.iconst 1, 1) := by decide +kernel
theorem d1_60 : decode prog_30_method_26_code 60 = .ok (.goto 4, 3) := by decide +kernel
theorem d1_63 : decode prog_30_method_26_code 63 = .ok (.iconst 0, 1) := by decide +kernel
theorem d1_64 : decode prog_30_method_26_code 64 = .ok (.ireturn, 1) := by decide +kernel
def f1 (p0 : Int32) : Int32 := (if p0 < (32 : Int32) then (if p0 = (9 : Int32) then (if p0 < (55296 : Int32) then (if p0 = (65534 : Int32) then (0 : Int32) else (if p0 = (65535 : Int32) then (0 : Int32) else (if (1114111 : Int32) < p0 then (0 : Int32) else (1 : Int32)))) else (if (57343 : Int32) < p0 then (if p0 = (65534 : Int32) then (0 : Int32) else (if p0 = (65535 : Int32) then (0 : Int32) else (if (1114111 : Int32) < p0 then (0 : Int32) else (1 : Int32)))) else (0 : Int32))) else (if p0 = (10 : Int32) then (if p0 < (55296 : Int32) then (if p0 = (65534 : Int32) then (0 : Int32) else (if p0 = (65535 : Int32) then (0 : Int32) else (if (1114111 : Int32) < p0 then (0 : Int32) else (1 : Int32)))) else (if (57343 : Int32) < p0 then (if p0 = (65534 : Int32) then (0 : Int32) else (if p0 = (65535 : Int32) then (0 : Int32) else (if (1114111 : Int32) < p0 then (0 : Int32) else (1 : Int32)))) else (0 : Int32))) else (if p0 = (13 : Int32) then (if p0 < (55296 : Int32) then (if p0 = (65534 : Int32) then (0 : Int32) else (if p0 = (65535 : Int32) then (0 : Int32) else (if (1114111 : Int32) < p0 then (0 : Int32) else (1 : Int32)))) else (if (57343 : Int32) < p0 then (if p0 = (65534 : Int32) then (0 : Int32) else (if p0 = (65535 : Int32) then (0 : Int32) else (if (1114111 : Int32) < p0 then (0 : Int32) else (1 : Int32)))) else (0 : Int32))) else (0 : Int32)))) else (if p0 < (55296 : Int32) then (if p0 = (65534 : Int32) then (0 : Int32) else (if p0 = (65535 : Int32) then (0 : Int32) else (if (1114111 : Int32) < p0 then (0 : Int32) else (1 : Int32)))) else (if (57343 : Int32) < p0 then (if p0 = (65534 : Int32) then (0 : Int32) else (if p0 = (65535 : Int32) then (0 : Int32) else (if (1114111 : Int32) < p0 then (0 : Int32) else (1 : Int32)))) else (0 : Int32))))
theorem pn_1 : plainName "com/example/crossgate/crossgate/XmlParser" = true := by first | (simp [plainName, overriddenIn]; done) | decide +kernel
theorem ef_1 (m : MethodId) (p0 : Int32) : entryFrame m #[(.int p0)] 1 = mkF m 0 #[.val (.int p0)] [] := by first | (simp [entryFrame, mkF, argsToLocals, Value.category]; done) | rfl
set_option maxRecDepth 65536 in
set_option maxHeartbeats 40000000 in
theorem rm1 (l : Launch) (Z : State) (a0 : Array Value) (hw : ∀ d ∈ tables_1, d.before a0 Z = true) (ws : List Jvm.Cond) (p0 : Int32) (h0 : Heap) (n0 : Nat) (Z0 : n0 ≤ h0.size) :
    MetFree l (⟨"com/example/crossgate/crossgate/XmlParser", "isXmlCharacter", "(I)Z"⟩ : MethodName) (head1 (Jvm.Cond.code (⟨"com/example/crossgate/crossgate/XmlParser", "isXmlCharacter", "(I)Z"⟩ : MethodName) prog_30_method_26_code 1 (some .boolean) :: ws) ({ frames := 0, cells := 0, slots := 0, locals := 0 } : Room)) (fun a U => a = #[(.int p0)] ∧ Z.Warmed39 U.vm ∧ U.heap = h0) (fun _ _ _ _ _ => True) (fun _ U o U' => ∃ v L, o = .returned v ∧ own_QV (.int (f1 p0 )) h0 n0 v U'.heap L ∧ FrameEnd U o U' L ({ frames := 0, cells := 0, slots := 0, locals := 0 } : Room).cells ({ frames := 0, cells := 0, slots := 0, locals := 0 } : Room).slots) := by
  refine MetFree.of_bodySF (plainFor_of_name pn_1) hisR ?_
  intro p e s m args below meth c s₁ Bd hml0 hP hK
  obtain ⟨rfl, hZ, hh⟩ := hP
  have hx := Bd.exec
  have hby := Bd.bytes
  have hlk : meth.locks = false := BodyLoose.notSynchronized Bd
  have hret := Bd.returns
  have hml : c.maxLocals = 1 := hml0
  have hown : s.vm.findClass "com/example/crossgate/crossgate/XmlParser" = some m.cls := findClass_of_methodNamed Bd.named
  have hnm := (name_of_methodNamed Bd.named Bd.method).1
  have X0 : Stand p l e ({ frames := 0, cells := 0, slots := 0, locals := 0 } : Room) s m #[(.int p0)] below meth c s₁ [] 0 0 := Stand.of_body Bd
  have e0 : s₁.heap = h0 := by rw [← hh, Bd.state]; rfl
  have N0 := Fr.nil n0
  show own_G p.tables e below (own_E s ({ frames := 0, cells := 0, slots := 0, locals := 0 } : Room).cells ({ frames := 0, cells := 0, slots := 0, locals := 0 } : Room).slots) (own_QV (.int (f1 p0 )) h0 n0) (s₁.setTop (entryFrame m #[(.int p0)] 1))
  refine own_st ?_ (fun t k => castTop (ef_1 m p0) k)
  show own_G p.tables e below _ _ (s₁.setTop (mkF m 0 #[.val (.int p0)] []))
  refine own_st ?_ (fun t k => XS.iloadN X0.here hx rfl (hb hby d1_0) rfl k)
  show own_G p.tables e below _ _ (s₁.setTop (mkF m 1 #[.val (.int p0)] [(.int p0)]))
  refine own_st ?_ (fun t k => XS.bipush X0.here hx rfl (hb hby d1_1) k)
  show own_G p.tables e below _ _ (s₁.setTop (mkF m 3 #[.val (.int p0)] [(.int (32 : Int32)), (.int p0)]))
  by_cases hc3 : p0 < (32 : Int32)
  · refine own_st ?_ (fun t k => XS.icmpNo X0.here hx rfl (hb hby d1_3) rfl (tlt hc3).2.1 k)
    show own_G p.tables e below _ _ (s₁.setTop (mkF m 6 #[.val (.int p0)] []))
    refine own_st ?_ (fun t k => XS.iloadN X0.here hx rfl (hb hby d1_6) rfl k)
    show own_G p.tables e below _ _ (s₁.setTop (mkF m 7 #[.val (.int p0)] [(.int p0)]))
    refine own_st ?_ (fun t k => XS.bipush X0.here hx rfl (hb hby d1_7) k)
    show own_G p.tables e below _ _ (s₁.setTop (mkF m 9 #[.val (.int p0)] [(.int (9 : Int32)), (.int p0)]))
    by_cases hc9 : p0 = (9 : Int32)
    · refine own_st ?_ (fun t k => XS.icmpYes X0.here hx rfl (pc0 := 9) (pc' := 24) rfl (hb hby d1_9) rfl (teq hc9).1 (by decide) (by decide) k)
      show own_G p.tables e below _ _ (s₁.setTop (mkF m 24 #[.val (.int p0)] []))
      refine own_st ?_ (fun t k => XS.iloadN X0.here hx rfl (hb hby d1_24) rfl k)
      show own_G p.tables e below _ _ (s₁.setTop (mkF m 25 #[.val (.int p0)] [(.int p0)]))
      refine own_st ?_ (X0.ldcwInt hx hown (mvT hZ (hw _ (List.mem_of_getElem? (i := 20) rfl))) (g := (mkF m 25 #[.val (.int p0)] [(.int p0)])) rfl (hb hby d1_25))
      show own_G p.tables e below _ _ (s₁.setTop (mkF m 28 #[.val (.int p0)] [(.int (55296 : Int32)), (.int p0)]))
      by_cases hc28 : p0 < (55296 : Int32)
      · refine own_st ?_ (fun t k => XS.icmpYes X0.here hx rfl (pc0 := 28) (pc' := 38) rfl (hb hby d1_28) rfl (tlt hc28).1 (by decide) (by decide) k)
        show own_G p.tables e below _ _ (s₁.setTop (mkF m 38 #[.val (.int p0)] []))
        refine own_st ?_ (fun t k => XS.iloadN X0.here hx rfl (hb hby d1_38) rfl k)
        show own_G p.tables e below _ _ (s₁.setTop (mkF m 39 #[.val (.int p0)] [(.int p0)]))
        refine own_st ?_ (X0.ldcwInt hx hown (mvT hZ (hw _ (List.mem_of_getElem? (i := 22) rfl))) (g := (mkF m 39 #[.val (.int p0)] [(.int p0)])) rfl (hb hby d1_39))
        show own_G p.tables e below _ _ (s₁.setTop (mkF m 42 #[.val (.int p0)] [(.int (65534 : Int32)), (.int p0)]))
        by_cases hc42 : p0 = (65534 : Int32)
        · refine own_st ?_ (fun t k => XS.icmpYes X0.here hx rfl (pc0 := 42) (pc' := 63) rfl (hb hby d1_42) rfl (teq hc42).1 (by decide) (by decide) k)
          show own_G p.tables e below _ _ (s₁.setTop (mkF m 63 #[.val (.int p0)] []))
          refine own_st ?_ (fun t k => XS.iconst X0.here hx rfl (hb hby d1_63) k)
          show own_G p.tables e below _ _ (s₁.setTop (mkF m 64 #[.val (.int p0)] [(.int (0 : Int32))]))
          refine own_retN X0 hx hlk (t := .boolean) hret (by simp) (hb hby d1_64) (by decide) (by decide) (z' := (0 : Int32)) rfl ⟨?_, N0, e0⟩
          rw [show f1 p0  = (0 : Int32) from (if_pos hc3).trans ((if_pos hc9).trans ((if_pos hc28).trans ((if_pos hc42).trans (rfl))))]
        · refine own_st ?_ (fun t k => XS.icmpNo X0.here hx rfl (hb hby d1_42) rfl (feq hc42).1 k)
          show own_G p.tables e below _ _ (s₁.setTop (mkF m 45 #[.val (.int p0)] []))
          refine own_st ?_ (fun t k => XS.iloadN X0.here hx rfl (hb hby d1_45) rfl k)
          show own_G p.tables e below _ _ (s₁.setTop (mkF m 46 #[.val (.int p0)] [(.int p0)]))
          refine own_st ?_ (X0.ldcwInt hx hown (mvT hZ (hw _ (List.mem_of_getElem? (i := 23) rfl))) (g := (mkF m 46 #[.val (.int p0)] [(.int p0)])) rfl (hb hby d1_46))
          show own_G p.tables e below _ _ (s₁.setTop (mkF m 49 #[.val (.int p0)] [(.int (65535 : Int32)), (.int p0)]))
          by_cases hc49 : p0 = (65535 : Int32)
          · refine own_st ?_ (fun t k => XS.icmpYes X0.here hx rfl (pc0 := 49) (pc' := 63) rfl (hb hby d1_49) rfl (teq hc49).1 (by decide) (by decide) k)
            show own_G p.tables e below _ _ (s₁.setTop (mkF m 63 #[.val (.int p0)] []))
            refine own_st ?_ (fun t k => XS.iconst X0.here hx rfl (hb hby d1_63) k)
            show own_G p.tables e below _ _ (s₁.setTop (mkF m 64 #[.val (.int p0)] [(.int (0 : Int32))]))
            refine own_retN X0 hx hlk (t := .boolean) hret (by simp) (hb hby d1_64) (by decide) (by decide) (z' := (0 : Int32)) rfl ⟨?_, N0, e0⟩
            rw [show f1 p0  = (0 : Int32) from (if_pos hc3).trans ((if_pos hc9).trans ((if_pos hc28).trans ((if_neg hc42).trans ((if_pos hc49).trans (rfl)))))]
          · refine own_st ?_ (fun t k => XS.icmpNo X0.here hx rfl (hb hby d1_49) rfl (feq hc49).1 k)
            show own_G p.tables e below _ _ (s₁.setTop (mkF m 52 #[.val (.int p0)] []))
            refine own_st ?_ (fun t k => XS.iloadN X0.here hx rfl (hb hby d1_52) rfl k)
            show own_G p.tables e below _ _ (s₁.setTop (mkF m 53 #[.val (.int p0)] [(.int p0)]))
            refine own_st ?_ (X0.ldcwInt hx hown (mvT hZ (hw _ (List.mem_of_getElem? (i := 24) rfl))) (g := (mkF m 53 #[.val (.int p0)] [(.int p0)])) rfl (hb hby d1_53))
            show own_G p.tables e below _ _ (s₁.setTop (mkF m 56 #[.val (.int p0)] [(.int (1114111 : Int32)), (.int p0)]))
            by_cases hc56 : (1114111 : Int32) < p0
            · refine own_st ?_ (fun t k => XS.icmpYes X0.here hx rfl (pc0 := 56) (pc' := 63) rfl (hb hby d1_56) rfl (tlt hc56).2.2.1 (by decide) (by decide) k)
              show own_G p.tables e below _ _ (s₁.setTop (mkF m 63 #[.val (.int p0)] []))
              refine own_st ?_ (fun t k => XS.iconst X0.here hx rfl (hb hby d1_63) k)
              show own_G p.tables e below _ _ (s₁.setTop (mkF m 64 #[.val (.int p0)] [(.int (0 : Int32))]))
              refine own_retN X0 hx hlk (t := .boolean) hret (by simp) (hb hby d1_64) (by decide) (by decide) (z' := (0 : Int32)) rfl ⟨?_, N0, e0⟩
              rw [show f1 p0  = (0 : Int32) from (if_pos hc3).trans ((if_pos hc9).trans ((if_pos hc28).trans ((if_neg hc42).trans ((if_neg hc49).trans ((if_pos hc56).trans (rfl))))))]
            · refine own_st ?_ (fun t k => XS.icmpNo X0.here hx rfl (hb hby d1_56) rfl (flt hc56).2.2.1 k)
              show own_G p.tables e below _ _ (s₁.setTop (mkF m 59 #[.val (.int p0)] []))
              refine own_st ?_ (fun t k => XS.iconst X0.here hx rfl (hb hby d1_59) k)
              show own_G p.tables e below _ _ (s₁.setTop (mkF m 60 #[.val (.int p0)] [(.int (1 : Int32))]))
              refine own_st ?_ (fun t k => XS.goto X0.here hx rfl (pc0 := 60) (pc' := 64) rfl (hb hby d1_60) (by decide) (by decide) k)
              show own_G p.tables e below _ _ (s₁.setTop (mkF m 64 #[.val (.int p0)] [(.int (1 : Int32))]))
              refine own_retN X0 hx hlk (t := .boolean) hret (by simp) (hb hby d1_64) (by decide) (by decide) (z' := (1 : Int32)) rfl ⟨?_, N0, e0⟩
              rw [show f1 p0  = (1 : Int32) from (if_pos hc3).trans ((if_pos hc9).trans ((if_pos hc28).trans ((if_neg hc42).trans ((if_neg hc49).trans ((if_neg hc56).trans (rfl))))))]
      · refine own_st ?_ (fun t k => XS.icmpNo X0.here hx rfl (hb hby d1_28) rfl (flt hc28).1 k)
        show own_G p.tables e below _ _ (s₁.setTop (mkF m 31 #[.val (.int p0)] []))
        refine own_st ?_ (fun t k => XS.iloadN X0.here hx rfl (hb hby d1_31) rfl k)
        show own_G p.tables e below _ _ (s₁.setTop (mkF m 32 #[.val (.int p0)] [(.int p0)]))
        refine own_st ?_ (X0.ldcwInt hx hown (mvT hZ (hw _ (List.mem_of_getElem? (i := 21) rfl))) (g := (mkF m 32 #[.val (.int p0)] [(.int p0)])) rfl (hb hby d1_32))
        show own_G p.tables e below _ _ (s₁.setTop (mkF m 35 #[.val (.int p0)] [(.int (57343 : Int32)), (.int p0)]))
        by_cases hc35 : (57343 : Int32) < p0
        · refine own_st ?_ (fun t k => XS.icmpNo X0.here hx rfl (hb hby d1_35) rfl (tlt hc35).2.2.2 k)
          show own_G p.tables e below _ _ (s₁.setTop (mkF m 38 #[.val (.int p0)] []))
          refine own_st ?_ (fun t k => XS.iloadN X0.here hx rfl (hb hby d1_38) rfl k)
          show own_G p.tables e below _ _ (s₁.setTop (mkF m 39 #[.val (.int p0)] [(.int p0)]))
          refine own_st ?_ (X0.ldcwInt hx hown (mvT hZ (hw _ (List.mem_of_getElem? (i := 22) rfl))) (g := (mkF m 39 #[.val (.int p0)] [(.int p0)])) rfl (hb hby d1_39))
          show own_G p.tables e below _ _ (s₁.setTop (mkF m 42 #[.val (.int p0)] [(.int (65534 : Int32)), (.int p0)]))
          by_cases hc42 : p0 = (65534 : Int32)
          · refine own_st ?_ (fun t k => XS.icmpYes X0.here hx rfl (pc0 := 42) (pc' := 63) rfl (hb hby d1_42) rfl (teq hc42).1 (by decide) (by decide) k)
            show own_G p.tables e below _ _ (s₁.setTop (mkF m 63 #[.val (.int p0)] []))
            refine own_st ?_ (fun t k => XS.iconst X0.here hx rfl (hb hby d1_63) k)
            show own_G p.tables e below _ _ (s₁.setTop (mkF m 64 #[.val (.int p0)] [(.int (0 : Int32))]))
            refine own_retN X0 hx hlk (t := .boolean) hret (by simp) (hb hby d1_64) (by decide) (by decide) (z' := (0 : Int32)) rfl ⟨?_, N0, e0⟩
            rw [show f1 p0  = (0 : Int32) from (if_pos hc3).trans ((if_pos hc9).trans ((if_neg hc28).trans ((if_pos hc35).trans ((if_pos hc42).trans (rfl)))))]
          · refine own_st ?_ (fun t k => XS.icmpNo X0.here hx rfl (hb hby d1_42) rfl (feq hc42).1 k)
            show own_G p.tables e below _ _ (s₁.setTop (mkF m 45 #[.val (.int p0)] []))
            refine own_st ?_ (fun t k => XS.iloadN X0.here hx rfl (hb hby d1_45) rfl k)
            show own_G p.tables e below _ _ (s₁.setTop (mkF m 46 #[.val (.int p0)] [(.int p0)]))
            refine own_st ?_ (X0.ldcwInt hx hown (mvT hZ (hw _ (List.mem_of_getElem? (i := 23) rfl))) (g := (mkF m 46 #[.val (.int p0)] [(.int p0)])) rfl (hb hby d1_46))
            show own_G p.tables e below _ _ (s₁.setTop (mkF m 49 #[.val (.int p0)] [(.int (65535 : Int32)), (.int p0)]))
            by_cases hc49 : p0 = (65535 : Int32)
            · refine own_st ?_ (fun t k => XS.icmpYes X0.here hx rfl (pc0 := 49) (pc' := 63) rfl (hb hby d1_49) rfl (teq hc49).1 (by decide) (by decide) k)
              show own_G p.tables e below _ _ (s₁.setTop (mkF m 63 #[.val (.int p0)] []))
              refine own_st ?_ (fun t k => XS.iconst X0.here hx rfl (hb hby d1_63) k)
              show own_G p.tables e below _ _ (s₁.setTop (mkF m 64 #[.val (.int p0)] [(.int (0 : Int32))]))
              refine own_retN X0 hx hlk (t := .boolean) hret (by simp) (hb hby d1_64) (by decide) (by decide) (z' := (0 : Int32)) rfl ⟨?_, N0, e0⟩
              rw [show f1 p0  = (0 : Int32) from (if_pos hc3).trans ((if_pos hc9).trans ((if_neg hc28).trans ((if_pos hc35).trans ((if_neg hc42).trans ((if_pos hc49).trans (rfl))))))]
            · refine own_st ?_ (fun t k => XS.icmpNo X0.here hx rfl (hb hby d1_49) rfl (feq hc49).1 k)
              show own_G p.tables e below _ _ (s₁.setTop (mkF m 52 #[.val (.int p0)] []))
              refine own_st ?_ (fun t k => XS.iloadN X0.here hx rfl (hb hby d1_52) rfl k)
              show own_G p.tables e below _ _ (s₁.setTop (mkF m 53 #[.val (.int p0)] [(.int p0)]))
              refine own_st ?_ (X0.ldcwInt hx hown (mvT hZ (hw _ (List.mem_of_getElem? (i := 24) rfl))) (g := (mkF m 53 #[.val (.int p0)] [(.int p0)])) rfl (hb hby d1_53))
              show own_G p.tables e below _ _ (s₁.setTop (mkF m 56 #[.val (.int p0)] [(.int (1114111 : Int32)), (.int p0)]))
              by_cases hc56 : (1114111 : Int32) < p0
              · refine own_st ?_ (fun t k => XS.icmpYes X0.here hx rfl (pc0 := 56) (pc' := 63) rfl (hb hby d1_56) rfl (tlt hc56).2.2.1 (by decide) (by decide) k)
                show own_G p.tables e below _ _ (s₁.setTop (mkF m 63 #[.val (.int p0)] []))
                refine own_st ?_ (fun t k => XS.iconst X0.here hx rfl (hb hby d1_63) k)
                show own_G p.tables e below _ _ (s₁.setTop (mkF m 64 #[.val (.int p0)] [(.int (0 : Int32))]))
                refine own_retN X0 hx hlk (t := .boolean) hret (by simp) (hb hby d1_64) (by decide) (by decide) (z' := (0 : Int32)) rfl ⟨?_, N0, e0⟩
                rw [show f1 p0  = (0 : Int32) from (if_pos hc3).trans ((if_pos hc9).trans ((if_neg hc28).trans ((if_pos hc35).trans ((if_neg hc42).trans ((if_neg hc49).trans ((if_pos hc56).trans (rfl)))))))]
              · refine own_st ?_ (fun t k => XS.icmpNo X0.here hx rfl (hb hby d1_56) rfl (flt hc56).2.2.1 k)
                show own_G p.tables e below _ _ (s₁.setTop (mkF m 59 #[.val (.int p0)] []))
                refine own_st ?_ (fun t k => XS.iconst X0.here hx rfl (hb hby d1_59) k)
                show own_G p.tables e below _ _ (s₁.setTop (mkF m 60 #[.val (.int p0)] [(.int (1 : Int32))]))
                refine own_st ?_ (fun t k => XS.goto X0.here hx rfl (pc0 := 60) (pc' := 64) rfl (hb hby d1_60) (by decide) (by decide) k)
                show own_G p.tables e below _ _ (s₁.setTop (mkF m 64 #[.val (.int p0)] [(.int (1 : Int32))]))
                refine own_retN X0 hx hlk (t := .boolean) hret (by simp) (hb hby d1_64) (by decide) (by decide) (z' := (1 : Int32)) rfl ⟨?_, N0, e0⟩
                rw [show f1 p0  = (1 : Int32) from (if_pos hc3).trans ((if_pos hc9).trans ((if_neg hc28).trans ((if_pos hc35).trans ((if_neg hc42).trans ((if_neg hc49).trans ((if_neg hc56).trans (rfl)))))))]
        · refine own_st ?_ (fun t k => XS.icmpYes X0.here hx rfl (pc0 := 35) (pc' := 63) rfl (hb hby d1_35) rfl (flt hc35).2.2.2 (by decide) (by decide) k)
          show own_G p.tables e below _ _ (s₁.setTop (mkF m 63 #[.val (.int p0)] []))
          refine own_st ?_ (fun t k => XS.iconst X0.here hx rfl (hb hby d1_63) k)
          show own_G p.tables e below _ _ (s₁.setTop (mkF m 64 #[.val (.int p0)] [(.int (0 : Int32))]))
          refine own_retN X0 hx hlk (t := .boolean) hret (by simp) (hb hby d1_64) (by decide) (by decide) (z' := (0 : Int32)) rfl ⟨?_, N0, e0⟩
          rw [show f1 p0  = (0 : Int32) from (if_pos hc3).trans ((if_pos hc9).trans ((if_neg hc28).trans ((if_neg hc35).trans (rfl))))]
    · refine own_st ?_ (fun t k => XS.icmpNo X0.here hx rfl (hb hby d1_9) rfl (feq hc9).1 k)
      show own_G p.tables e below _ _ (s₁.setTop (mkF m 12 #[.val (.int p0)] []))
      refine own_st ?_ (fun t k => XS.iloadN X0.here hx rfl (hb hby d1_12) rfl k)
      show own_G p.tables e below _ _ (s₁.setTop (mkF m 13 #[.val (.int p0)] [(.int p0)]))
      refine own_st ?_ (fun t k => XS.bipush X0.here hx rfl (hb hby d1_13) k)
      show own_G p.tables e below _ _ (s₁.setTop (mkF m 15 #[.val (.int p0)] [(.int (10 : Int32)), (.int p0)]))
      by_cases hc15 : p0 = (10 : Int32)
      · refine own_st ?_ (fun t k => XS.icmpYes X0.here hx rfl (pc0 := 15) (pc' := 24) rfl (hb hby d1_15) rfl (teq hc15).1 (by decide) (by decide) k)
        show own_G p.tables e below _ _ (s₁.setTop (mkF m 24 #[.val (.int p0)] []))
        refine own_st ?_ (fun t k => XS.iloadN X0.here hx rfl (hb hby d1_24) rfl k)
        show own_G p.tables e below _ _ (s₁.setTop (mkF m 25 #[.val (.int p0)] [(.int p0)]))
        refine own_st ?_ (X0.ldcwInt hx hown (mvT hZ (hw _ (List.mem_of_getElem? (i := 20) rfl))) (g := (mkF m 25 #[.val (.int p0)] [(.int p0)])) rfl (hb hby d1_25))
        show own_G p.tables e below _ _ (s₁.setTop (mkF m 28 #[.val (.int p0)] [(.int (55296 : Int32)), (.int p0)]))
        by_cases hc28 : p0 < (55296 : Int32)
        · refine own_st ?_ (fun t k => XS.icmpYes X0.here hx rfl (pc0 := 28) (pc' := 38) rfl (hb hby d1_28) rfl (tlt hc28).1 (by decide) (by decide) k)
          show own_G p.tables e below _ _ (s₁.setTop (mkF m 38 #[.val (.int p0)] []))
          refine own_st ?_ (fun t k => XS.iloadN X0.here hx rfl (hb hby d1_38) rfl k)
          show own_G p.tables e below _ _ (s₁.setTop (mkF m 39 #[.val (.int p0)] [(.int p0)]))
          refine own_st ?_ (X0.ldcwInt hx hown (mvT hZ (hw _ (List.mem_of_getElem? (i := 22) rfl))) (g := (mkF m 39 #[.val (.int p0)] [(.int p0)])) rfl (hb hby d1_39))
          show own_G p.tables e below _ _ (s₁.setTop (mkF m 42 #[.val (.int p0)] [(.int (65534 : Int32)), (.int p0)]))
          by_cases hc42 : p0 = (65534 : Int32)
          · refine own_st ?_ (fun t k => XS.icmpYes X0.here hx rfl (pc0 := 42) (pc' := 63) rfl (hb hby d1_42) rfl (teq hc42).1 (by decide) (by decide) k)
            show own_G p.tables e below _ _ (s₁.setTop (mkF m 63 #[.val (.int p0)] []))
            refine own_st ?_ (fun t k => XS.iconst X0.here hx rfl (hb hby d1_63) k)
            show own_G p.tables e below _ _ (s₁.setTop (mkF m 64 #[.val (.int p0)] [(.int (0 : Int32))]))
            refine own_retN X0 hx hlk (t := .boolean) hret (by simp) (hb hby d1_64) (by decide) (by decide) (z' := (0 : Int32)) rfl ⟨?_, N0, e0⟩
            rw [show f1 p0  = (0 : Int32) from (if_pos hc3).trans ((if_neg hc9).trans ((if_pos hc15).trans ((if_pos hc28).trans ((if_pos hc42).trans (rfl)))))]
          · refine own_st ?_ (fun t k => XS.icmpNo X0.here hx rfl (hb hby d1_42) rfl (feq hc42).1 k)
            show own_G p.tables e below _ _ (s₁.setTop (mkF m 45 #[.val (.int p0)] []))
            refine own_st ?_ (fun t k => XS.iloadN X0.here hx rfl (hb hby d1_45) rfl k)
            show own_G p.tables e below _ _ (s₁.setTop (mkF m 46 #[.val (.int p0)] [(.int p0)]))
            refine own_st ?_ (X0.ldcwInt hx hown (mvT hZ (hw _ (List.mem_of_getElem? (i := 23) rfl))) (g := (mkF m 46 #[.val (.int p0)] [(.int p0)])) rfl (hb hby d1_46))
            show own_G p.tables e below _ _ (s₁.setTop (mkF m 49 #[.val (.int p0)] [(.int (65535 : Int32)), (.int p0)]))
            by_cases hc49 : p0 = (65535 : Int32)
            · refine own_st ?_ (fun t k => XS.icmpYes X0.here hx rfl (pc0 := 49) (pc' := 63) rfl (hb hby d1_49) rfl (teq hc49).1 (by decide) (by decide) k)
              show own_G p.tables e below _ _ (s₁.setTop (mkF m 63 #[.val (.int p0)] []))
              refine own_st ?_ (fun t k => XS.iconst X0.here hx rfl (hb hby d1_63) k)
              show own_G p.tables e below _ _ (s₁.setTop (mkF m 64 #[.val (.int p0)] [(.int (0 : Int32))]))
              refine own_retN X0 hx hlk (t := .boolean) hret (by simp) (hb hby d1_64) (by decide) (by decide) (z' := (0 : Int32)) rfl ⟨?_, N0, e0⟩
              rw [show f1 p0  = (0 : Int32) from (if_pos hc3).trans ((if_neg hc9).trans ((if_pos hc15).trans ((if_pos hc28).trans ((if_neg hc42).trans ((if_pos hc49).trans (rfl))))))]
            · refine own_st ?_ (fun t k => XS.icmpNo X0.here hx rfl (hb hby d1_49) rfl (feq hc49).1 k)
              show own_G p.tables e below _ _ (s₁.setTop (mkF m 52 #[.val (.int p0)] []))
              refine own_st ?_ (fun t k => XS.iloadN X0.here hx rfl (hb hby d1_52) rfl k)
              show own_G p.tables e below _ _ (s₁.setTop (mkF m 53 #[.val (.int p0)] [(.int p0)]))
              refine own_st ?_ (X0.ldcwInt hx hown (mvT hZ (hw _ (List.mem_of_getElem? (i := 24) rfl))) (g := (mkF m 53 #[.val (.int p0)] [(.int p0)])) rfl (hb hby d1_53))
              show own_G p.tables e below _ _ (s₁.setTop (mkF m 56 #[.val (.int p0)] [(.int (1114111 : Int32)), (.int p0)]))
              by_cases hc56 : (1114111 : Int32) < p0
              · refine own_st ?_ (fun t k => XS.icmpYes X0.here hx rfl (pc0 := 56) (pc' := 63) rfl (hb hby d1_56) rfl (tlt hc56).2.2.1 (by decide) (by decide) k)
                show own_G p.tables e below _ _ (s₁.setTop (mkF m 63 #[.val (.int p0)] []))
                refine own_st ?_ (fun t k => XS.iconst X0.here hx rfl (hb hby d1_63) k)
                show own_G p.tables e below _ _ (s₁.setTop (mkF m 64 #[.val (.int p0)] [(.int (0 : Int32))]))
                refine own_retN X0 hx hlk (t := .boolean) hret (by simp) (hb hby d1_64) (by decide) (by decide) (z' := (0 : Int32)) rfl ⟨?_, N0, e0⟩
                rw [show f1 p0  = (0 : Int32) from (if_pos hc3).trans ((if_neg hc9).trans ((if_pos hc15).trans ((if_pos hc28).trans ((if_neg hc42).trans ((if_neg hc49).trans ((if_pos hc56).trans (rfl)))))))]
              · refine own_st ?_ (fun t k => XS.icmpNo X0.here hx rfl (hb hby d1_56) rfl (flt hc56).2.2.1 k)
                show own_G p.tables e below _ _ (s₁.setTop (mkF m 59 #[.val (.int p0)] []))
                refine own_st ?_ (fun t k => XS.iconst X0.here hx rfl (hb hby d1_59) k)
                show own_G p.tables e below _ _ (s₁.setTop (mkF m 60 #[.val (.int p0)] [(.int (1 : Int32))]))
                refine own_st ?_ (fun t k => XS.goto X0.here hx rfl (pc0 := 60) (pc' := 64) rfl (hb hby d1_60) (by decide) (by decide) k)
                show own_G p.tables e below _ _ (s₁.setTop (mkF m 64 #[.val (.int p0)] [(.int (1 : Int32))]))
                refine own_retN X0 hx hlk (t := .boolean) hret (by simp) (hb hby d1_64) (by decide) (by decide) (z' := (1 : Int32)) rfl ⟨?_, N0, e0⟩
                rw [show f1 p0  = (1 : Int32) from (if_pos hc3).trans ((if_neg hc9).trans ((if_pos hc15).trans ((if_pos hc28).trans ((if_neg hc42).trans ((if_neg hc49).trans ((if_neg hc56).trans (rfl)))))))]
        · refine own_st ?_ (fun t k => XS.icmpNo X0.here hx rfl (hb hby d1_28) rfl (flt hc28).1 k)
          show own_G p.tables e below _ _ (s₁.setTop (mkF m 31 #[.val (.int p0)] []))
          refine own_st ?_ (fun t k => XS.iloadN X0.here hx rfl (hb hby d1_31) rfl k)
          show own_G p.tables e below _ _ (s₁.setTop (mkF m 32 #[.val (.int p0)] [(.int p0)]))
          refine own_st ?_ (X0.ldcwInt hx hown (mvT hZ (hw _ (List.mem_of_getElem? (i := 21) rfl))) (g := (mkF m 32 #[.val (.int p0)] [(.int p0)])) rfl (hb hby d1_32))
          show own_G p.tables e below _ _ (s₁.setTop (mkF m 35 #[.val (.int p0)] [(.int (57343 : Int32)), (.int p0)]))
          by_cases hc35 : (57343 : Int32) < p0
          · refine own_st ?_ (fun t k => XS.icmpNo X0.here hx rfl (hb hby d1_35) rfl (tlt hc35).2.2.2 k)
            show own_G p.tables e below _ _ (s₁.setTop (mkF m 38 #[.val (.int p0)] []))
            refine own_st ?_ (fun t k => XS.iloadN X0.here hx rfl (hb hby d1_38) rfl k)
            show own_G p.tables e below _ _ (s₁.setTop (mkF m 39 #[.val (.int p0)] [(.int p0)]))
            refine own_st ?_ (X0.ldcwInt hx hown (mvT hZ (hw _ (List.mem_of_getElem? (i := 22) rfl))) (g := (mkF m 39 #[.val (.int p0)] [(.int p0)])) rfl (hb hby d1_39))
            show own_G p.tables e below _ _ (s₁.setTop (mkF m 42 #[.val (.int p0)] [(.int (65534 : Int32)), (.int p0)]))
            by_cases hc42 : p0 = (65534 : Int32)
            · refine own_st ?_ (fun t k => XS.icmpYes X0.here hx rfl (pc0 := 42) (pc' := 63) rfl (hb hby d1_42) rfl (teq hc42).1 (by decide) (by decide) k)
              show own_G p.tables e below _ _ (s₁.setTop (mkF m 63 #[.val (.int p0)] []))
              refine own_st ?_ (fun t k => XS.iconst X0.here hx rfl (hb hby d1_63) k)
              show own_G p.tables e below _ _ (s₁.setTop (mkF m 64 #[.val (.int p0)] [(.int (0 : Int32))]))
              refine own_retN X0 hx hlk (t := .boolean) hret (by simp) (hb hby d1_64) (by decide) (by decide) (z' := (0 : Int32)) rfl ⟨?_, N0, e0⟩
              rw [show f1 p0  = (0 : Int32) from (if_pos hc3).trans ((if_neg hc9).trans ((if_pos hc15).trans ((if_neg hc28).trans ((if_pos hc35).trans ((if_pos hc42).trans (rfl))))))]
            · refine own_st ?_ (fun t k => XS.icmpNo X0.here hx rfl (hb hby d1_42) rfl (feq hc42).1 k)
              show own_G p.tables e below _ _ (s₁.setTop (mkF m 45 #[.val (.int p0)] []))
              refine own_st ?_ (fun t k => XS.iloadN X0.here hx rfl (hb hby d1_45) rfl k)
              show own_G p.tables e below _ _ (s₁.setTop (mkF m 46 #[.val (.int p0)] [(.int p0)]))
              refine own_st ?_ (X0.ldcwInt hx hown (mvT hZ (hw _ (List.mem_of_getElem? (i := 23) rfl))) (g := (mkF m 46 #[.val (.int p0)] [(.int p0)])) rfl (hb hby d1_46))
              show own_G p.tables e below _ _ (s₁.setTop (mkF m 49 #[.val (.int p0)] [(.int (65535 : Int32)), (.int p0)]))
              by_cases hc49 : p0 = (65535 : Int32)
              · refine own_st ?_ (fun t k => XS.icmpYes X0.here hx rfl (pc0 := 49) (pc' := 63) rfl (hb hby d1_49) rfl (teq hc49).1 (by decide) (by decide) k)
                show own_G p.tables e below _ _ (s₁.setTop (mkF m 63 #[.val (.int p0)] []))
                refine own_st ?_ (fun t k => XS.iconst X0.here hx rfl (hb hby d1_63) k)
                show own_G p.tables e below _ _ (s₁.setTop (mkF m 64 #[.val (.int p0)] [(.int (0 : Int32))]))
                refine own_retN X0 hx hlk (t := .boolean) hret (by simp) (hb hby d1_64) (by decide) (by decide) (z' := (0 : Int32)) rfl ⟨?_, N0, e0⟩
                rw [show f1 p0  = (0 : Int32) from (if_pos hc3).trans ((if_neg hc9).trans ((if_pos hc15).trans ((if_neg hc28).trans ((if_pos hc35).trans ((if_neg hc42).trans ((if_pos hc49).trans (rfl)))))))]
              · refine own_st ?_ (fun t k => XS.icmpNo X0.here hx rfl (hb hby d1_49) rfl (feq hc49).1 k)
                show own_G p.tables e below _ _ (s₁.setTop (mkF m 52 #[.val (.int p0)] []))
                refine own_st ?_ (fun t k => XS.iloadN X0.here hx rfl (hb hby d1_52) rfl k)
                show own_G p.tables e below _ _ (s₁.setTop (mkF m 53 #[.val (.int p0)] [(.int p0)]))
                refine own_st ?_ (X0.ldcwInt hx hown (mvT hZ (hw _ (List.mem_of_getElem? (i := 24) rfl))) (g := (mkF m 53 #[.val (.int p0)] [(.int p0)])) rfl (hb hby d1_53))
                show own_G p.tables e below _ _ (s₁.setTop (mkF m 56 #[.val (.int p0)] [(.int (1114111 : Int32)), (.int p0)]))
                by_cases hc56 : (1114111 : Int32) < p0
                · refine own_st ?_ (fun t k => XS.icmpYes X0.here hx rfl (pc0 := 56) (pc' := 63) rfl (hb hby d1_56) rfl (tlt hc56).2.2.1 (by decide) (by decide) k)
                  show own_G p.tables e below _ _ (s₁.setTop (mkF m 63 #[.val (.int p0)] []))
                  refine own_st ?_ (fun t k => XS.iconst X0.here hx rfl (hb hby d1_63) k)
                  show own_G p.tables e below _ _ (s₁.setTop (mkF m 64 #[.val (.int p0)] [(.int (0 : Int32))]))
                  refine own_retN X0 hx hlk (t := .boolean) hret (by simp) (hb hby d1_64) (by decide) (by decide) (z' := (0 : Int32)) rfl ⟨?_, N0, e0⟩
                  rw [show f1 p0  = (0 : Int32) from (if_pos hc3).trans ((if_neg hc9).trans ((if_pos hc15).trans ((if_neg hc28).trans ((if_pos hc35).trans ((if_neg hc42).trans ((if_neg hc49).trans ((if_pos hc56).trans (rfl))))))))]
                · refine own_st ?_ (fun t k => XS.icmpNo X0.here hx rfl (hb hby d1_56) rfl (flt hc56).2.2.1 k)
                  show own_G p.tables e below _ _ (s₁.setTop (mkF m 59 #[.val (.int p0)] []))
                  refine own_st ?_ (fun t k => XS.iconst X0.here hx rfl (hb hby d1_59) k)
                  show own_G p.tables e below _ _ (s₁.setTop (mkF m 60 #[.val (.int p0)] [(.int (1 : Int32))]))
                  refine own_st ?_ (fun t k => XS.goto X0.here hx rfl (pc0 := 60) (pc' := 64) rfl (hb hby d1_60) (by decide) (by decide) k)
                  show own_G p.tables e below _ _ (s₁.setTop (mkF m 64 #[.val (.int p0)] [(.int (1 : Int32))]))
                  refine own_retN X0 hx hlk (t := .boolean) hret (by simp) (hb hby d1_64) (by decide) (by decide) (z' := (1 : Int32)) rfl ⟨?_, N0, e0⟩
                  rw [show f1 p0  = (1 : Int32) from (if_pos hc3).trans ((if_neg hc9).trans ((if_pos hc15).trans ((if_neg hc28).trans ((if_pos hc35).trans ((if_neg hc42).trans ((if_neg hc49).trans ((if_neg hc56).trans (rfl))))))))]
          · refine own_st ?_ (fun t k => XS.icmpYes X0.here hx rfl (pc0 := 35) (pc' := 63) rfl (hb hby d1_35) rfl (flt hc35).2.2.2 (by decide) (by decide) k)
            show own_G p.tables e below _ _ (s₁.setTop (mkF m 63 #[.val (.int p0)] []))
            refine own_st ?_ (fun t k => XS.iconst X0.here hx rfl (hb hby d1_63) k)
            show own_G p.tables e below _ _ (s₁.setTop (mkF m 64 #[.val (.int p0)] [(.int (0 : Int32))]))
            refine own_retN X0 hx hlk (t := .boolean) hret (by simp) (hb hby d1_64) (by decide) (by decide) (z' := (0 : Int32)) rfl ⟨?_, N0, e0⟩
            rw [show f1 p0  = (0 : Int32) from (if_pos hc3).trans ((if_neg hc9).trans ((if_pos hc15).trans ((if_neg hc28).trans ((if_neg hc35).trans (rfl)))))]
      · refine own_st ?_ (fun t k => XS.icmpNo X0.here hx rfl (hb hby d1_15) rfl (feq hc15).1 k)
        show own_G p.tables e below _ _ (s₁.setTop (mkF m 18 #[.val (.int p0)] []))
        refine own_st ?_ (fun t k => XS.iloadN X0.here hx rfl (hb hby d1_18) rfl k)
        show own_G p.tables e below _ _ (s₁.setTop (mkF m 19 #[.val (.int p0)] [(.int p0)]))
        refine own_st ?_ (fun t k => XS.bipush X0.here hx rfl (hb hby d1_19) k)
        show own_G p.tables e below _ _ (s₁.setTop (mkF m 21 #[.val (.int p0)] [(.int (13 : Int32)), (.int p0)]))
        by_cases hc21 : p0 = (13 : Int32)
        · refine own_st ?_ (fun t k => XS.icmpNo X0.here hx rfl (hb hby d1_21) rfl (teq hc21).2 k)
          show own_G p.tables e below _ _ (s₁.setTop (mkF m 24 #[.val (.int p0)] []))
          refine own_st ?_ (fun t k => XS.iloadN X0.here hx rfl (hb hby d1_24) rfl k)
          show own_G p.tables e below _ _ (s₁.setTop (mkF m 25 #[.val (.int p0)] [(.int p0)]))
          refine own_st ?_ (X0.ldcwInt hx hown (mvT hZ (hw _ (List.mem_of_getElem? (i := 20) rfl))) (g := (mkF m 25 #[.val (.int p0)] [(.int p0)])) rfl (hb hby d1_25))
          show own_G p.tables e below _ _ (s₁.setTop (mkF m 28 #[.val (.int p0)] [(.int (55296 : Int32)), (.int p0)]))
          by_cases hc28 : p0 < (55296 : Int32)
          · refine own_st ?_ (fun t k => XS.icmpYes X0.here hx rfl (pc0 := 28) (pc' := 38) rfl (hb hby d1_28) rfl (tlt hc28).1 (by decide) (by decide) k)
            show own_G p.tables e below _ _ (s₁.setTop (mkF m 38 #[.val (.int p0)] []))
            refine own_st ?_ (fun t k => XS.iloadN X0.here hx rfl (hb hby d1_38) rfl k)
            show own_G p.tables e below _ _ (s₁.setTop (mkF m 39 #[.val (.int p0)] [(.int p0)]))
            refine own_st ?_ (X0.ldcwInt hx hown (mvT hZ (hw _ (List.mem_of_getElem? (i := 22) rfl))) (g := (mkF m 39 #[.val (.int p0)] [(.int p0)])) rfl (hb hby d1_39))
            show own_G p.tables e below _ _ (s₁.setTop (mkF m 42 #[.val (.int p0)] [(.int (65534 : Int32)), (.int p0)]))
            by_cases hc42 : p0 = (65534 : Int32)
            · refine own_st ?_ (fun t k => XS.icmpYes X0.here hx rfl (pc0 := 42) (pc' := 63) rfl (hb hby d1_42) rfl (teq hc42).1 (by decide) (by decide) k)
              show own_G p.tables e below _ _ (s₁.setTop (mkF m 63 #[.val (.int p0)] []))
              refine own_st ?_ (fun t k => XS.iconst X0.here hx rfl (hb hby d1_63) k)
              show own_G p.tables e below _ _ (s₁.setTop (mkF m 64 #[.val (.int p0)] [(.int (0 : Int32))]))
              refine own_retN X0 hx hlk (t := .boolean) hret (by simp) (hb hby d1_64) (by decide) (by decide) (z' := (0 : Int32)) rfl ⟨?_, N0, e0⟩
              rw [show f1 p0  = (0 : Int32) from (if_pos hc3).trans ((if_neg hc9).trans ((if_neg hc15).trans ((if_pos hc21).trans ((if_pos hc28).trans ((if_pos hc42).trans (rfl))))))]
            · refine own_st ?_ (fun t k => XS.icmpNo X0.here hx rfl (hb hby d1_42) rfl (feq hc42).1 k)
              show own_G p.tables e below _ _ (s₁.setTop (mkF m 45 #[.val (.int p0)] []))
              refine own_st ?_ (fun t k => XS.iloadN X0.here hx rfl (hb hby d1_45) rfl k)
              show own_G p.tables e below _ _ (s₁.setTop (mkF m 46 #[.val (.int p0)] [(.int p0)]))
              refine own_st ?_ (X0.ldcwInt hx hown (mvT hZ (hw _ (List.mem_of_getElem? (i := 23) rfl))) (g := (mkF m 46 #[.val (.int p0)] [(.int p0)])) rfl (hb hby d1_46))
              show own_G p.tables e below _ _ (s₁.setTop (mkF m 49 #[.val (.int p0)] [(.int (65535 : Int32)), (.int p0)]))
              by_cases hc49 : p0 = (65535 : Int32)
              · refine own_st ?_ (fun t k => XS.icmpYes X0.here hx rfl (pc0 := 49) (pc' := 63) rfl (hb hby d1_49) rfl (teq hc49).1 (by decide) (by decide) k)
                show own_G p.tables e below _ _ (s₁.setTop (mkF m 63 #[.val (.int p0)] []))
                refine own_st ?_ (fun t k => XS.iconst X0.here hx rfl (hb hby d1_63) k)
                show own_G p.tables e below _ _ (s₁.setTop (mkF m 64 #[.val (.int p0)] [(.int (0 : Int32))]))
                refine own_retN X0 hx hlk (t := .boolean) hret (by simp) (hb hby d1_64) (by decide) (by decide) (z' := (0 : Int32)) rfl ⟨?_, N0, e0⟩
                rw [show f1 p0  = (0 : Int32) from (if_pos hc3).trans ((if_neg hc9).trans ((if_neg hc15).trans ((if_pos hc21).trans ((if_pos hc28).trans ((if_neg hc42).trans ((if_pos hc49).trans (rfl)))))))]
              · refine own_st ?_ (fun t k => XS.icmpNo X0.here hx rfl (hb hby d1_49) rfl (feq hc49).1 k)
                show own_G p.tables e below _ _ (s₁.setTop (mkF m 52 #[.val (.int p0)] []))
                refine own_st ?_ (fun t k => XS.iloadN X0.here hx rfl (hb hby d1_52) rfl k)
                show own_G p.tables e below _ _ (s₁.setTop (mkF m 53 #[.val (.int p0)] [(.int p0)]))
                refine own_st ?_ (X0.ldcwInt hx hown (mvT hZ (hw _ (List.mem_of_getElem? (i := 24) rfl))) (g := (mkF m 53 #[.val (.int p0)] [(.int p0)])) rfl (hb hby d1_53))
                show own_G p.tables e below _ _ (s₁.setTop (mkF m 56 #[.val (.int p0)] [(.int (1114111 : Int32)), (.int p0)]))
                by_cases hc56 : (1114111 : Int32) < p0
                · refine own_st ?_ (fun t k => XS.icmpYes X0.here hx rfl (pc0 := 56) (pc' := 63) rfl (hb hby d1_56) rfl (tlt hc56).2.2.1 (by decide) (by decide) k)
                  show own_G p.tables e below _ _ (s₁.setTop (mkF m 63 #[.val (.int p0)] []))
                  refine own_st ?_ (fun t k => XS.iconst X0.here hx rfl (hb hby d1_63) k)
                  show own_G p.tables e below _ _ (s₁.setTop (mkF m 64 #[.val (.int p0)] [(.int (0 : Int32))]))
                  refine own_retN X0 hx hlk (t := .boolean) hret (by simp) (hb hby d1_64) (by decide) (by decide) (z' := (0 : Int32)) rfl ⟨?_, N0, e0⟩
                  rw [show f1 p0  = (0 : Int32) from (if_pos hc3).trans ((if_neg hc9).trans ((if_neg hc15).trans ((if_pos hc21).trans ((if_pos hc28).trans ((if_neg hc42).trans ((if_neg hc49).trans ((if_pos hc56).trans (rfl))))))))]
                · refine own_st ?_ (fun t k => XS.icmpNo X0.here hx rfl (hb hby d1_56) rfl (flt hc56).2.2.1 k)
                  show own_G p.tables e below _ _ (s₁.setTop (mkF m 59 #[.val (.int p0)] []))
                  refine own_st ?_ (fun t k => XS.iconst X0.here hx rfl (hb hby d1_59) k)
                  show own_G p.tables e below _ _ (s₁.setTop (mkF m 60 #[.val (.int p0)] [(.int (1 : Int32))]))
                  refine own_st ?_ (fun t k => XS.goto X0.here hx rfl (pc0 := 60) (pc' := 64) rfl (hb hby d1_60) (by decide) (by decide) k)
                  show own_G p.tables e below _ _ (s₁.setTop (mkF m 64 #[.val (.int p0)] [(.int (1 : Int32))]))
                  refine own_retN X0 hx hlk (t := .boolean) hret (by simp) (hb hby d1_64) (by decide) (by decide) (z' := (1 : Int32)) rfl ⟨?_, N0, e0⟩
                  rw [show f1 p0  = (1 : Int32) from (if_pos hc3).trans ((if_neg hc9).trans ((if_neg hc15).trans ((if_pos hc21).trans ((if_pos hc28).trans ((if_neg hc42).trans ((if_neg hc49).trans ((if_neg hc56).trans (rfl))))))))]
          · refine own_st ?_ (fun t k => XS.icmpNo X0.here hx rfl (hb hby d1_28) rfl (flt hc28).1 k)
            show own_G p.tables e below _ _ (s₁.setTop (mkF m 31 #[.val (.int p0)] []))
            refine own_st ?_ (fun t k => XS.iloadN X0.here hx rfl (hb hby d1_31) rfl k)
            show own_G p.tables e below _ _ (s₁.setTop (mkF m 32 #[.val (.int p0)] [(.int p0)]))
            refine own_st ?_ (X0.ldcwInt hx hown (mvT hZ (hw _ (List.mem_of_getElem? (i := 21) rfl))) (g := (mkF m 32 #[.val (.int p0)] [(.int p0)])) rfl (hb hby d1_32))
            show own_G p.tables e below _ _ (s₁.setTop (mkF m 35 #[.val (.int p0)] [(.int (57343 : Int32)), (.int p0)]))
            by_cases hc35 : (57343 : Int32) < p0
            · refine own_st ?_ (fun t k => XS.icmpNo X0.here hx rfl (hb hby d1_35) rfl (tlt hc35).2.2.2 k)
              show own_G p.tables e below _ _ (s₁.setTop (mkF m 38 #[.val (.int p0)] []))
              refine own_st ?_ (fun t k => XS.iloadN X0.here hx rfl (hb hby d1_38) rfl k)
              show own_G p.tables e below _ _ (s₁.setTop (mkF m 39 #[.val (.int p0)] [(.int p0)]))
              refine own_st ?_ (X0.ldcwInt hx hown (mvT hZ (hw _ (List.mem_of_getElem? (i := 22) rfl))) (g := (mkF m 39 #[.val (.int p0)] [(.int p0)])) rfl (hb hby d1_39))
              show own_G p.tables e below _ _ (s₁.setTop (mkF m 42 #[.val (.int p0)] [(.int (65534 : Int32)), (.int p0)]))
              by_cases hc42 : p0 = (65534 : Int32)
              · refine own_st ?_ (fun t k => XS.icmpYes X0.here hx rfl (pc0 := 42) (pc' := 63) rfl (hb hby d1_42) rfl (teq hc42).1 (by decide) (by decide) k)
                show own_G p.tables e below _ _ (s₁.setTop (mkF m 63 #[.val (.int p0)] []))
                refine own_st ?_ (fun t k => XS.iconst X0.here hx rfl (hb hby d1_63) k)
                show own_G p.tables e below _ _ (s₁.setTop (mkF m 64 #[.val (.int p0)] [(.int (0 : Int32))]))
                refine own_retN X0 hx hlk (t := .boolean) hret (by simp) (hb hby d1_64) (by decide) (by decide) (z' := (0 : Int32)) rfl ⟨?_, N0, e0⟩
                rw [show f1 p0  = (0 : Int32) from (if_pos hc3).trans ((if_neg hc9).trans ((if_neg hc15).trans ((if_pos hc21).trans ((if_neg hc28).trans ((if_pos hc35).trans ((if_pos hc42).trans (rfl)))))))]
              · refine own_st ?_ (fun t k => XS.icmpNo X0.here hx rfl (hb hby d1_42) rfl (feq hc42).1 k)
                show own_G p.tables e below _ _ (s₁.setTop (mkF m 45 #[.val (.int p0)] []))
                refine own_st ?_ (fun t k => XS.iloadN X0.here hx rfl (hb hby d1_45) rfl k)
                show own_G p.tables e below _ _ (s₁.setTop (mkF m 46 #[.val (.int p0)] [(.int p0)]))
                refine own_st ?_ (X0.ldcwInt hx hown (mvT hZ (hw _ (List.mem_of_getElem? (i := 23) rfl))) (g := (mkF m 46 #[.val (.int p0)] [(.int p0)])) rfl (hb hby d1_46))
                show own_G p.tables e below _ _ (s₁.setTop (mkF m 49 #[.val (.int p0)] [(.int (65535 : Int32)), (.int p0)]))
                by_cases hc49 : p0 = (65535 : Int32)
                · refine own_st ?_ (fun t k => XS.icmpYes X0.here hx rfl (pc0 := 49) (pc' := 63) rfl (hb hby d1_49) rfl (teq hc49).1 (by decide) (by decide) k)
                  show own_G p.tables e below _ _ (s₁.setTop (mkF m 63 #[.val (.int p0)] []))
                  refine own_st ?_ (fun t k => XS.iconst X0.here hx rfl (hb hby d1_63) k)
                  show own_G p.tables e below _ _ (s₁.setTop (mkF m 64 #[.val (.int p0)] [(.int (0 : Int32))]))
                  refine own_retN X0 hx hlk (t := .boolean) hret (by simp) (hb hby d1_64) (by decide) (by decide) (z' := (0 : Int32)) rfl ⟨?_, N0, e0⟩
                  rw [show f1 p0  = (0 : Int32) from (if_pos hc3).trans ((if_neg hc9).trans ((if_neg hc15).trans ((if_pos hc21).trans ((if_neg hc28).trans ((if_pos hc35).trans ((if_neg hc42).trans ((if_pos hc49).trans (rfl))))))))]
                · refine own_st ?_ (fun t k => XS.icmpNo X0.here hx rfl (hb hby d1_49) rfl (feq hc49).1 k)
                  show own_G p.tables e below _ _ (s₁.setTop (mkF m 52 #[.val (.int p0)] []))
                  refine own_st ?_ (fun t k => XS.iloadN X0.here hx rfl (hb hby d1_52) rfl k)
                  show own_G p.tables e below _ _ (s₁.setTop (mkF m 53 #[.val (.int p0)] [(.int p0)]))
                  refine own_st ?_ (X0.ldcwInt hx hown (mvT hZ (hw _ (List.mem_of_getElem? (i := 24) rfl))) (g := (mkF m 53 #[.val (.int p0)] [(.int p0)])) rfl (hb hby d1_53))
                  show own_G p.tables e below _ _ (s₁.setTop (mkF m 56 #[.val (.int p0)] [(.int (1114111 : Int32)), (.int p0)]))
                  by_cases hc56 : (1114111 : Int32) < p0
                  · refine own_st ?_ (fun t k => XS.icmpYes X0.here hx rfl (pc0 := 56) (pc' := 63) rfl (hb hby d1_56) rfl (tlt hc56).2.2.1 (by decide) (by decide) k)
                    show own_G p.tables e below _ _ (s₁.setTop (mkF m 63 #[.val (.int p0)] []))
                    refine own_st ?_ (fun t k => XS.iconst X0.here hx rfl (hb hby d1_63) k)
                    show own_G p.tables e below _ _ (s₁.setTop (mkF m 64 #[.val (.int p0)] [(.int (0 : Int32))]))
                    refine own_retN X0 hx hlk (t := .boolean) hret (by simp) (hb hby d1_64) (by decide) (by decide) (z' := (0 : Int32)) rfl ⟨?_, N0, e0⟩
                    rw [show f1 p0  = (0 : Int32) from (if_pos hc3).trans ((if_neg hc9).trans ((if_neg hc15).trans ((if_pos hc21).trans ((if_neg hc28).trans ((if_pos hc35).trans ((if_neg hc42).trans ((if_neg hc49).trans ((if_pos hc56).trans (rfl)))))))))]
                  · refine own_st ?_ (fun t k => XS.icmpNo X0.here hx rfl (hb hby d1_56) rfl (flt hc56).2.2.1 k)
                    show own_G p.tables e below _ _ (s₁.setTop (mkF m 59 #[.val (.int p0)] []))
                    refine own_st ?_ (fun t k => XS.iconst X0.here hx rfl (hb hby d1_59) k)
                    show own_G p.tables e below _ _ (s₁.setTop (mkF m 60 #[.val (.int p0)] [(.int (1 : Int32))]))
                    refine own_st ?_ (fun t k => XS.goto X0.here hx rfl (pc0 := 60) (pc' := 64) rfl (hb hby d1_60) (by decide) (by decide) k)
                    show own_G p.tables e below _ _ (s₁.setTop (mkF m 64 #[.val (.int p0)] [(.int (1 : Int32))]))
                    refine own_retN X0 hx hlk (t := .boolean) hret (by simp) (hb hby d1_64) (by decide) (by decide) (z' := (1 : Int32)) rfl ⟨?_, N0, e0⟩
                    rw [show f1 p0  = (1 : Int32) from (if_pos hc3).trans ((if_neg hc9).trans ((if_neg hc15).trans ((if_pos hc21).trans ((if_neg hc28).trans ((if_pos hc35).trans ((if_neg hc42).trans ((if_neg hc49).trans ((if_neg hc56).trans (rfl)))))))))]
            · refine own_st ?_ (fun t k => XS.icmpYes X0.here hx rfl (pc0 := 35) (pc' := 63) rfl (hb hby d1_35) rfl (flt hc35).2.2.2 (by decide) (by decide) k)
              show own_G p.tables e below _ _ (s₁.setTop (mkF m 63 #[.val (.int p0)] []))
              refine own_st ?_ (fun t k => XS.iconst X0.here hx rfl (hb hby d1_63) k)
              show own_G p.tables e below _ _ (s₁.setTop (mkF m 64 #[.val (.int p0)] [(.int (0 : Int32))]))
              refine own_retN X0 hx hlk (t := .boolean) hret (by simp) (hb hby d1_64) (by decide) (by decide) (z' := (0 : Int32)) rfl ⟨?_, N0, e0⟩
              rw [show f1 p0  = (0 : Int32) from (if_pos hc3).trans ((if_neg hc9).trans ((if_neg hc15).trans ((if_pos hc21).trans ((if_neg hc28).trans ((if_neg hc35).trans (rfl))))))]
        · refine own_st ?_ (fun t k => XS.icmpYes X0.here hx rfl (pc0 := 21) (pc' := 63) rfl (hb hby d1_21) rfl (feq hc21).2 (by decide) (by decide) k)
          show own_G p.tables e below _ _ (s₁.setTop (mkF m 63 #[.val (.int p0)] []))
          refine own_st ?_ (fun t k => XS.iconst X0.here hx rfl (hb hby d1_63) k)
          show own_G p.tables e below _ _ (s₁.setTop (mkF m 64 #[.val (.int p0)] [(.int (0 : Int32))]))
          refine own_retN X0 hx hlk (t := .boolean) hret (by simp) (hb hby d1_64) (by decide) (by decide) (z' := (0 : Int32)) rfl ⟨?_, N0, e0⟩
          rw [show f1 p0  = (0 : Int32) from (if_pos hc3).trans ((if_neg hc9).trans ((if_neg hc15).trans ((if_neg hc21).trans (rfl))))]
  · refine own_st ?_ (fun t k => XS.icmpYes X0.here hx rfl (pc0 := 3) (pc' := 24) rfl (hb hby d1_3) rfl (flt hc3).2.1 (by decide) (by decide) k)
    show own_G p.tables e below _ _ (s₁.setTop (mkF m 24 #[.val (.int p0)] []))
    refine own_st ?_ (fun t k => XS.iloadN X0.here hx rfl (hb hby d1_24) rfl k)
    show own_G p.tables e below _ _ (s₁.setTop (mkF m 25 #[.val (.int p0)] [(.int p0)]))
    refine own_st ?_ (X0.ldcwInt hx hown (mvT hZ (hw _ (List.mem_of_getElem? (i := 20) rfl))) (g := (mkF m 25 #[.val (.int p0)] [(.int p0)])) rfl (hb hby d1_25))
    show own_G p.tables e below _ _ (s₁.setTop (mkF m 28 #[.val (.int p0)] [(.int (55296 : Int32)), (.int p0)]))
    by_cases hc28 : p0 < (55296 : Int32)
    · refine own_st ?_ (fun t k => XS.icmpYes X0.here hx rfl (pc0 := 28) (pc' := 38) rfl (hb hby d1_28) rfl (tlt hc28).1 (by decide) (by decide) k)
      show own_G p.tables e below _ _ (s₁.setTop (mkF m 38 #[.val (.int p0)] []))
      refine own_st ?_ (fun t k => XS.iloadN X0.here hx rfl (hb hby d1_38) rfl k)
      show own_G p.tables e below _ _ (s₁.setTop (mkF m 39 #[.val (.int p0)] [(.int p0)]))
      refine own_st ?_ (X0.ldcwInt hx hown (mvT hZ (hw _ (List.mem_of_getElem? (i := 22) rfl))) (g := (mkF m 39 #[.val (.int p0)] [(.int p0)])) rfl (hb hby d1_39))
      show own_G p.tables e below _ _ (s₁.setTop (mkF m 42 #[.val (.int p0)] [(.int (65534 : Int32)), (.int p0)]))
      by_cases hc42 : p0 = (65534 : Int32)
      · refine own_st ?_ (fun t k => XS.icmpYes X0.here hx rfl (pc0 := 42) (pc' := 63) rfl (hb hby d1_42) rfl (teq hc42).1 (by decide) (by decide) k)
        show own_G p.tables e below _ _ (s₁.setTop (mkF m 63 #[.val (.int p0)] []))
        refine own_st ?_ (fun t k => XS.iconst X0.here hx rfl (hb hby d1_63) k)
        show own_G p.tables e below _ _ (s₁.setTop (mkF m 64 #[.val (.int p0)] [(.int (0 : Int32))]))
        refine own_retN X0 hx hlk (t := .boolean) hret (by simp) (hb hby d1_64) (by decide) (by decide) (z' := (0 : Int32)) rfl ⟨?_, N0, e0⟩
        rw [show f1 p0  = (0 : Int32) from (if_neg hc3).trans ((if_pos hc28).trans ((if_pos hc42).trans (rfl)))]
      · refine own_st ?_ (fun t k => XS.icmpNo X0.here hx rfl (hb hby d1_42) rfl (feq hc42).1 k)
        show own_G p.tables e below _ _ (s₁.setTop (mkF m 45 #[.val (.int p0)] []))
        refine own_st ?_ (fun t k => XS.iloadN X0.here hx rfl (hb hby d1_45) rfl k)
        show own_G p.tables e below _ _ (s₁.setTop (mkF m 46 #[.val (.int p0)] [(.int p0)]))
        refine own_st ?_ (X0.ldcwInt hx hown (mvT hZ (hw _ (List.mem_of_getElem? (i := 23) rfl))) (g := (mkF m 46 #[.val (.int p0)] [(.int p0)])) rfl (hb hby d1_46))
        show own_G p.tables e below _ _ (s₁.setTop (mkF m 49 #[.val (.int p0)] [(.int (65535 : Int32)), (.int p0)]))
        by_cases hc49 : p0 = (65535 : Int32)
        · refine own_st ?_ (fun t k => XS.icmpYes X0.here hx rfl (pc0 := 49) (pc' := 63) rfl (hb hby d1_49) rfl (teq hc49).1 (by decide) (by decide) k)
          show own_G p.tables e below _ _ (s₁.setTop (mkF m 63 #[.val (.int p0)] []))
          refine own_st ?_ (fun t k => XS.iconst X0.here hx rfl (hb hby d1_63) k)
          show own_G p.tables e below _ _ (s₁.setTop (mkF m 64 #[.val (.int p0)] [(.int (0 : Int32))]))
          refine own_retN X0 hx hlk (t := .boolean) hret (by simp) (hb hby d1_64) (by decide) (by decide) (z' := (0 : Int32)) rfl ⟨?_, N0, e0⟩
          rw [show f1 p0  = (0 : Int32) from (if_neg hc3).trans ((if_pos hc28).trans ((if_neg hc42).trans ((if_pos hc49).trans (rfl))))]
        · refine own_st ?_ (fun t k => XS.icmpNo X0.here hx rfl (hb hby d1_49) rfl (feq hc49).1 k)
          show own_G p.tables e below _ _ (s₁.setTop (mkF m 52 #[.val (.int p0)] []))
          refine own_st ?_ (fun t k => XS.iloadN X0.here hx rfl (hb hby d1_52) rfl k)
          show own_G p.tables e below _ _ (s₁.setTop (mkF m 53 #[.val (.int p0)] [(.int p0)]))
          refine own_st ?_ (X0.ldcwInt hx hown (mvT hZ (hw _ (List.mem_of_getElem? (i := 24) rfl))) (g := (mkF m 53 #[.val (.int p0)] [(.int p0)])) rfl (hb hby d1_53))
          show own_G p.tables e below _ _ (s₁.setTop (mkF m 56 #[.val (.int p0)] [(.int (1114111 : Int32)), (.int p0)]))
          by_cases hc56 : (1114111 : Int32) < p0
          · refine own_st ?_ (fun t k => XS.icmpYes X0.here hx rfl (pc0 := 56) (pc' := 63) rfl (hb hby d1_56) rfl (tlt hc56).2.2.1 (by decide) (by decide) k)
            show own_G p.tables e below _ _ (s₁.setTop (mkF m 63 #[.val (.int p0)] []))
            refine own_st ?_ (fun t k => XS.iconst X0.here hx rfl (hb hby d1_63) k)
            show own_G p.tables e below _ _ (s₁.setTop (mkF m 64 #[.val (.int p0)] [(.int (0 : Int32))]))
            refine own_retN X0 hx hlk (t := .boolean) hret (by simp) (hb hby d1_64) (by decide) (by decide) (z' := (0 : Int32)) rfl ⟨?_, N0, e0⟩
            rw [show f1 p0  = (0 : Int32) from (if_neg hc3).trans ((if_pos hc28).trans ((if_neg hc42).trans ((if_neg hc49).trans ((if_pos hc56).trans (rfl)))))]
          · refine own_st ?_ (fun t k => XS.icmpNo X0.here hx rfl (hb hby d1_56) rfl (flt hc56).2.2.1 k)
            show own_G p.tables e below _ _ (s₁.setTop (mkF m 59 #[.val (.int p0)] []))
            refine own_st ?_ (fun t k => XS.iconst X0.here hx rfl (hb hby d1_59) k)
            show own_G p.tables e below _ _ (s₁.setTop (mkF m 60 #[.val (.int p0)] [(.int (1 : Int32))]))
            refine own_st ?_ (fun t k => XS.goto X0.here hx rfl (pc0 := 60) (pc' := 64) rfl (hb hby d1_60) (by decide) (by decide) k)
            show own_G p.tables e below _ _ (s₁.setTop (mkF m 64 #[.val (.int p0)] [(.int (1 : Int32))]))
            refine own_retN X0 hx hlk (t := .boolean) hret (by simp) (hb hby d1_64) (by decide) (by decide) (z' := (1 : Int32)) rfl ⟨?_, N0, e0⟩
            rw [show f1 p0  = (1 : Int32) from (if_neg hc3).trans ((if_pos hc28).trans ((if_neg hc42).trans ((if_neg hc49).trans ((if_neg hc56).trans (rfl)))))]
    · refine own_st ?_ (fun t k => XS.icmpNo X0.here hx rfl (hb hby d1_28) rfl (flt hc28).1 k)
      show own_G p.tables e below _ _ (s₁.setTop (mkF m 31 #[.val (.int p0)] []))
      refine own_st ?_ (fun t k => XS.iloadN X0.here hx rfl (hb hby d1_31) rfl k)
      show own_G p.tables e below _ _ (s₁.setTop (mkF m 32 #[.val (.int p0)] [(.int p0)]))
      refine own_st ?_ (X0.ldcwInt hx hown (mvT hZ (hw _ (List.mem_of_getElem? (i := 21) rfl))) (g := (mkF m 32 #[.val (.int p0)] [(.int p0)])) rfl (hb hby d1_32))
      show own_G p.tables e below _ _ (s₁.setTop (mkF m 35 #[.val (.int p0)] [(.int (57343 : Int32)), (.int p0)]))
      by_cases hc35 : (57343 : Int32) < p0
      · refine own_st ?_ (fun t k => XS.icmpNo X0.here hx rfl (hb hby d1_35) rfl (tlt hc35).2.2.2 k)
        show own_G p.tables e below _ _ (s₁.setTop (mkF m 38 #[.val (.int p0)] []))
        refine own_st ?_ (fun t k => XS.iloadN X0.here hx rfl (hb hby d1_38) rfl k)
        show own_G p.tables e below _ _ (s₁.setTop (mkF m 39 #[.val (.int p0)] [(.int p0)]))
        refine own_st ?_ (X0.ldcwInt hx hown (mvT hZ (hw _ (List.mem_of_getElem? (i := 22) rfl))) (g := (mkF m 39 #[.val (.int p0)] [(.int p0)])) rfl (hb hby d1_39))
        show own_G p.tables e below _ _ (s₁.setTop (mkF m 42 #[.val (.int p0)] [(.int (65534 : Int32)), (.int p0)]))
        by_cases hc42 : p0 = (65534 : Int32)
        · refine own_st ?_ (fun t k => XS.icmpYes X0.here hx rfl (pc0 := 42) (pc' := 63) rfl (hb hby d1_42) rfl (teq hc42).1 (by decide) (by decide) k)
          show own_G p.tables e below _ _ (s₁.setTop (mkF m 63 #[.val (.int p0)] []))
          refine own_st ?_ (fun t k => XS.iconst X0.here hx rfl (hb hby d1_63) k)
          show own_G p.tables e below _ _ (s₁.setTop (mkF m 64 #[.val (.int p0)] [(.int (0 : Int32))]))
          refine own_retN X0 hx hlk (t := .boolean) hret (by simp) (hb hby d1_64) (by decide) (by decide) (z' := (0 : Int32)) rfl ⟨?_, N0, e0⟩
          rw [show f1 p0  = (0 : Int32) from (if_neg hc3).trans ((if_neg hc28).trans ((if_pos hc35).trans ((if_pos hc42).trans (rfl))))]
        · refine own_st ?_ (fun t k => XS.icmpNo X0.here hx rfl (hb hby d1_42) rfl (feq hc42).1 k)
          show own_G p.tables e below _ _ (s₁.setTop (mkF m 45 #[.val (.int p0)] []))
          refine own_st ?_ (fun t k => XS.iloadN X0.here hx rfl (hb hby d1_45) rfl k)
          show own_G p.tables e below _ _ (s₁.setTop (mkF m 46 #[.val (.int p0)] [(.int p0)]))
          refine own_st ?_ (X0.ldcwInt hx hown (mvT hZ (hw _ (List.mem_of_getElem? (i := 23) rfl))) (g := (mkF m 46 #[.val (.int p0)] [(.int p0)])) rfl (hb hby d1_46))
          show own_G p.tables e below _ _ (s₁.setTop (mkF m 49 #[.val (.int p0)] [(.int (65535 : Int32)), (.int p0)]))
          by_cases hc49 : p0 = (65535 : Int32)
          · refine own_st ?_ (fun t k => XS.icmpYes X0.here hx rfl (pc0 := 49) (pc' := 63) rfl (hb hby d1_49) rfl (teq hc49).1 (by decide) (by decide) k)
            show own_G p.tables e below _ _ (s₁.setTop (mkF m 63 #[.val (.int p0)] []))
            refine own_st ?_ (fun t k => XS.iconst X0.here hx rfl (hb hby d1_63) k)
            show own_G p.tables e below _ _ (s₁.setTop (mkF m 64 #[.val (.int p0)] [(.int (0 : Int32))]))
            refine own_retN X0 hx hlk (t := .boolean) hret (by simp) (hb hby d1_64) (by decide) (by decide) (z' := (0 : Int32)) rfl ⟨?_, N0, e0⟩
            rw [show f1 p0  = (0 : Int32) from (if_neg hc3).trans ((if_neg hc28).trans ((if_pos hc35).trans ((if_neg hc42).trans ((if_pos hc49).trans (rfl)))))]
          · refine own_st ?_ (fun t k => XS.icmpNo X0.here hx rfl (hb hby d1_49) rfl (feq hc49).1 k)
            show own_G p.tables e below _ _ (s₁.setTop (mkF m 52 #[.val (.int p0)] []))
            refine own_st ?_ (fun t k => XS.iloadN X0.here hx rfl (hb hby d1_52) rfl k)
            show own_G p.tables e below _ _ (s₁.setTop (mkF m 53 #[.val (.int p0)] [(.int p0)]))
            refine own_st ?_ (X0.ldcwInt hx hown (mvT hZ (hw _ (List.mem_of_getElem? (i := 24) rfl))) (g := (mkF m 53 #[.val (.int p0)] [(.int p0)])) rfl (hb hby d1_53))
            show own_G p.tables e below _ _ (s₁.setTop (mkF m 56 #[.val (.int p0)] [(.int (1114111 : Int32)), (.int p0)]))
            by_cases hc56 : (1114111 : Int32) < p0
            · refine own_st ?_ (fun t k => XS.icmpYes X0.here hx rfl (pc0 := 56) (pc' := 63) rfl (hb hby d1_56) rfl (tlt hc56).2.2.1 (by decide) (by decide) k)
              show own_G p.tables e below _ _ (s₁.setTop (mkF m 63 #[.val (.int p0)] []))
              refine own_st ?_ (fun t k => XS.iconst X0.here hx rfl (hb hby d1_63) k)
              show own_G p.tables e below _ _ (s₁.setTop (mkF m 64 #[.val (.int p0)] [(.int (0 : Int32))]))
              refine own_retN X0 hx hlk (t := .boolean) hret (by simp) (hb hby d1_64) (by decide) (by decide) (z' := (0 : Int32)) rfl ⟨?_, N0, e0⟩
              rw [show f1 p0  = (0 : Int32) from (if_neg hc3).trans ((if_neg hc28).trans ((if_pos hc35).trans ((if_neg hc42).trans ((if_neg hc49).trans ((if_pos hc56).trans (rfl))))))]
            · refine own_st ?_ (fun t k => XS.icmpNo X0.here hx rfl (hb hby d1_56) rfl (flt hc56).2.2.1 k)
              show own_G p.tables e below _ _ (s₁.setTop (mkF m 59 #[.val (.int p0)] []))
              refine own_st ?_ (fun t k => XS.iconst X0.here hx rfl (hb hby d1_59) k)
              show own_G p.tables e below _ _ (s₁.setTop (mkF m 60 #[.val (.int p0)] [(.int (1 : Int32))]))
              refine own_st ?_ (fun t k => XS.goto X0.here hx rfl (pc0 := 60) (pc' := 64) rfl (hb hby d1_60) (by decide) (by decide) k)
              show own_G p.tables e below _ _ (s₁.setTop (mkF m 64 #[.val (.int p0)] [(.int (1 : Int32))]))
              refine own_retN X0 hx hlk (t := .boolean) hret (by simp) (hb hby d1_64) (by decide) (by decide) (z' := (1 : Int32)) rfl ⟨?_, N0, e0⟩
              rw [show f1 p0  = (1 : Int32) from (if_neg hc3).trans ((if_neg hc28).trans ((if_pos hc35).trans ((if_neg hc42).trans ((if_neg hc49).trans ((if_neg hc56).trans (rfl))))))]
      · refine own_st ?_ (fun t k => XS.icmpYes X0.here hx rfl (pc0 := 35) (pc' := 63) rfl (hb hby d1_35) rfl (flt hc35).2.2.2 (by decide) (by decide) k)
        show own_G p.tables e below _ _ (s₁.setTop (mkF m 63 #[.val (.int p0)] []))
        refine own_st ?_ (fun t k => XS.iconst X0.here hx rfl (hb hby d1_63) k)
        show own_G p.tables e below _ _ (s₁.setTop (mkF m 64 #[.val (.int p0)] [(.int (0 : Int32))]))
        refine own_retN X0 hx hlk (t := .boolean) hret (by simp) (hb hby d1_64) (by decide) (by decide) (z' := (0 : Int32)) rfl ⟨?_, N0, e0⟩
        rw [show f1 p0  = (0 : Int32) from (if_neg hc3).trans ((if_neg hc28).trans ((if_neg hc35).trans (rfl)))]
theorem d2_0 : decode method_2_code 0 = .ok (.iload_n 0, 1) := by decide +kernel
theorem d2_1 : decode method_2_code 1 = .ok (.bipush 9, 2) := by decide +kernel
theorem d2_3 : decode method_2_code 3 = .ok (.if_icmp .eq 15, 3) := by decide +kernel
theorem d2_6 : decode method_2_code 6 = .ok (.iload_n 0, 1) := by decide +kernel
theorem d2_7 : decode method_2_code 7 = .ok (.bipush 10, 2) := by decide +kernel
theorem d2_9 : decode method_2_code 9 = .ok (.if_icmp .eq 9, 3) := by decide +kernel
theorem d2_12 : decode method_2_code 12 = .ok (.iload_n 0, 1) := by decide +kernel
theorem d2_13 : decode method_2_code 13 = .ok (.bipush 13, 2) := by decide +kernel
theorem d2_15 : decode method_2_code 15 = .ok (.if_icmp .ne 5, 3) := by decide +kernel
theorem d2_18 : decode method_2_code 18 = .ok (.iconst 1, 1) := by decide +kernel
theorem d2_19 : decode method_2_code 19 = .ok (.ireturn, 1) := by decide +kernel
theorem d2_20 : decode method_2_code 20 = .ok (.iload_n 0, 1) := by decide +kernel
theorem d2_21 : decode method_2_code 21 = .ok (.bipush 32, 2) := by decide +kernel
theorem d2_23 : decode method_2_code 23 = .ok (.if_icmp .lt 11, 3) := by decide +kernel
theorem d2_26 : decode method_2_code 26 = .ok (.iload_n 0, 1) := by decide +kernel
theorem d2_27 : decode method_2_code 27 = .ok (.ldc 7, 2) := by decide +kernel
theorem d2_29 : decode method_2_code 29 = .ok (.if_icmp .gt 5, 3) := by decide +kernel
theorem d2_32 : decode method_2_code 32 = .ok (.iconst 1, 1) := by decide +kernel
theorem d2_33 : decode method_2_code 33 = .ok (.ireturn, 1) := by decide +kernel
theorem d2_34 : decode method_2_code 34 = .ok (.iload_n 0, 1) := by decide +kernel
theorem d2_35 : decode method_2_code 35 = .ok (.ldc 8, 2) := by decide +kernel
theorem d2_37 : decode method_2_code 37 = .ok (.if_icmp .lt 11, 3) := by decide +kernel
theorem d2_40 : decode method_2_code 40 = .ok (.iload_n 0, 1) := by decide +kernel
theorem d2_41 : decode method_2_code 41 = .ok (.ldc 9, 2) := by decide +kernel
theorem d2_43 : decode method_2_code 43 = .ok (.if_icmp .gt 5, 3) := by decide +kernel
theorem d2_46 : decode method_2_code 46 = .ok (.iconst 1, 1) := by decide +kernel
theorem d2_47 : decode method_2_code 47 = .ok (.ireturn, 1) := by decide +kernel
theorem d2_48 : decode method_2_code 48 = .ok (.iload_n 0, 1) := by decide +kernel
theorem d2_49 : decode method_2_code 49 = .ok (.ldc 10, 2) := by decide +kernel
theorem d2_51 : decode method_2_code 51 = .ok (.if_icmp .lt 11, 3) := by decide +kernel
theorem d2_54 : decode method_2_code 54 = .ok (.iload_n 0, 1) := by decide +kernel
theorem d2_55 : decode method_2_code 55 = .ok (.ldc 11, 2) := by decide +kernel
theorem d2_57 : decode method_2_code 57 = .ok (.if_icmp .gt 5, 3) := by decide +kernel
theorem d2_60 : decode method_2_code 60 = .ok (.iconst 1, 1) := by decide +kernel
theorem d2_61 : decode method_2_code 61 = .ok (.ireturn, 1) := by decide +kernel
theorem d2_62 : decode method_2_code 62 = .ok (.iconst 0, 1) := by decide +kernel
theorem d2_63 : decode method_2_code 63 = .ok (.ireturn, 1) := by decide +kernel
def f2 (p0 : Int32) : Int32 := (if p0 = (9 : Int32) then (1 : Int32) else (if p0 = (10 : Int32) then (1 : Int32) else (if p0 = (13 : Int32) then (1 : Int32) else (if p0 < (32 : Int32) then (if p0 < (57344 : Int32) then (if p0 < (65536 : Int32) then (0 : Int32) else (if (1114111 : Int32) < p0 then (0 : Int32) else (1 : Int32))) else (if (65533 : Int32) < p0 then (if p0 < (65536 : Int32) then (0 : Int32) else (if (1114111 : Int32) < p0 then (0 : Int32) else (1 : Int32))) else (1 : Int32))) else (if (55295 : Int32) < p0 then (if p0 < (57344 : Int32) then (if p0 < (65536 : Int32) then (0 : Int32) else (if (1114111 : Int32) < p0 then (0 : Int32) else (1 : Int32))) else (if (65533 : Int32) < p0 then (if p0 < (65536 : Int32) then (0 : Int32) else (if (1114111 : Int32) < p0 then (0 : Int32) else (1 : Int32))) else (1 : Int32))) else (1 : Int32))))))
theorem pn_2 : plainName "com/example/crossgate/crossgate/XmlParserIsXmlCharacterPinLaw" = true := by first | (simp [plainName, overriddenIn]; done) | decide +kernel
theorem ef_2 (m : MethodId) (p0 : Int32) : entryFrame m #[(.int p0)] 1 = mkF m 0 #[.val (.int p0)] [] := by first | (simp [entryFrame, mkF, argsToLocals, Value.category]; done) | rfl
set_option maxRecDepth 65536 in
set_option maxHeartbeats 40000000 in
theorem rm2 (l : Launch) (Z : State) (a0 : Array Value) (hw : ∀ d ∈ tables_1, d.before a0 Z = true) (ws : List Jvm.Cond) (p0 : Int32) (h0 : Heap) (n0 : Nat) (Z0 : n0 ≤ h0.size) :
    MetFree l (⟨"com/example/crossgate/crossgate/XmlParserIsXmlCharacterPinLaw", "reference", "(I)Z"⟩ : MethodName) (head1 (Jvm.Cond.code (⟨"com/example/crossgate/crossgate/XmlParserIsXmlCharacterPinLaw", "reference", "(I)Z"⟩ : MethodName) method_2_code 1 (some .boolean) :: ws) ({ frames := 0, cells := 0, slots := 0, locals := 0 } : Room)) (fun a U => a = #[(.int p0)] ∧ Z.Warmed39 U.vm ∧ U.heap = h0) (fun _ _ _ _ _ => True) (fun _ U o U' => ∃ v L, o = .returned v ∧ own_QV (.int (f2 p0 )) h0 n0 v U'.heap L ∧ FrameEnd U o U' L ({ frames := 0, cells := 0, slots := 0, locals := 0 } : Room).cells ({ frames := 0, cells := 0, slots := 0, locals := 0 } : Room).slots) := by
  refine MetFree.of_bodySF (plainFor_of_name pn_2) hisR ?_
  intro p e s m args below meth c s₁ Bd hml0 hP hK
  obtain ⟨rfl, hZ, hh⟩ := hP
  have hx := Bd.exec
  have hby := Bd.bytes
  have hlk : meth.locks = false := BodyLoose.notSynchronized Bd
  have hret := Bd.returns
  have hml : c.maxLocals = 1 := hml0
  have hown : s.vm.findClass "com/example/crossgate/crossgate/XmlParserIsXmlCharacterPinLaw" = some m.cls := findClass_of_methodNamed Bd.named
  have hnm := (name_of_methodNamed Bd.named Bd.method).1
  have X0 : Stand p l e ({ frames := 0, cells := 0, slots := 0, locals := 0 } : Room) s m #[(.int p0)] below meth c s₁ [] 0 0 := Stand.of_body Bd
  have e0 : s₁.heap = h0 := by rw [← hh, Bd.state]; rfl
  have N0 := Fr.nil n0
  show own_G p.tables e below (own_E s ({ frames := 0, cells := 0, slots := 0, locals := 0 } : Room).cells ({ frames := 0, cells := 0, slots := 0, locals := 0 } : Room).slots) (own_QV (.int (f2 p0 )) h0 n0) (s₁.setTop (entryFrame m #[(.int p0)] 1))
  refine own_st ?_ (fun t k => castTop (ef_2 m p0) k)
  show own_G p.tables e below _ _ (s₁.setTop (mkF m 0 #[.val (.int p0)] []))
  refine own_st ?_ (fun t k => XS.iloadN X0.here hx rfl (hb hby d2_0) rfl k)
  show own_G p.tables e below _ _ (s₁.setTop (mkF m 1 #[.val (.int p0)] [(.int p0)]))
  refine own_st ?_ (fun t k => XS.bipush X0.here hx rfl (hb hby d2_1) k)
  show own_G p.tables e below _ _ (s₁.setTop (mkF m 3 #[.val (.int p0)] [(.int (9 : Int32)), (.int p0)]))
  by_cases hc3 : p0 = (9 : Int32)
  · refine own_st ?_ (fun t k => XS.icmpYes X0.here hx rfl (pc0 := 3) (pc' := 18) rfl (hb hby d2_3) rfl (teq hc3).1 (by decide) (by decide) k)
    show own_G p.tables e below _ _ (s₁.setTop (mkF m 18 #[.val (.int p0)] []))
    refine own_st ?_ (fun t k => XS.iconst X0.here hx rfl (hb hby d2_18) k)
    show own_G p.tables e below _ _ (s₁.setTop (mkF m 19 #[.val (.int p0)] [(.int (1 : Int32))]))
    refine own_retN X0 hx hlk (t := .boolean) hret (by simp) (hb hby d2_19) (by decide) (by decide) (z' := (1 : Int32)) rfl ⟨?_, N0, e0⟩
    rw [show f2 p0  = (1 : Int32) from (if_pos hc3).trans (rfl)]
  · refine own_st ?_ (fun t k => XS.icmpNo X0.here hx rfl (hb hby d2_3) rfl (feq hc3).1 k)
    show own_G p.tables e below _ _ (s₁.setTop (mkF m 6 #[.val (.int p0)] []))
    refine own_st ?_ (fun t k => XS.iloadN X0.here hx rfl (hb hby d2_6) rfl k)
    show own_G p.tables e below _ _ (s₁.setTop (mkF m 7 #[.val (.int p0)] [(.int p0)]))
    refine own_st ?_ (fun t k => XS.bipush X0.here hx rfl (hb hby d2_7) k)
    show own_G p.tables e below _ _ (s₁.setTop (mkF m 9 #[.val (.int p0)] [(.int (10 : Int32)), (.int p0)]))
    by_cases hc9 : p0 = (10 : Int32)
    · refine own_st ?_ (fun t k => XS.icmpYes X0.here hx rfl (pc0 := 9) (pc' := 18) rfl (hb hby d2_9) rfl (teq hc9).1 (by decide) (by decide) k)
      show own_G p.tables e below _ _ (s₁.setTop (mkF m 18 #[.val (.int p0)] []))
      refine own_st ?_ (fun t k => XS.iconst X0.here hx rfl (hb hby d2_18) k)
      show own_G p.tables e below _ _ (s₁.setTop (mkF m 19 #[.val (.int p0)] [(.int (1 : Int32))]))
      refine own_retN X0 hx hlk (t := .boolean) hret (by simp) (hb hby d2_19) (by decide) (by decide) (z' := (1 : Int32)) rfl ⟨?_, N0, e0⟩
      rw [show f2 p0  = (1 : Int32) from (if_neg hc3).trans ((if_pos hc9).trans (rfl))]
    · refine own_st ?_ (fun t k => XS.icmpNo X0.here hx rfl (hb hby d2_9) rfl (feq hc9).1 k)
      show own_G p.tables e below _ _ (s₁.setTop (mkF m 12 #[.val (.int p0)] []))
      refine own_st ?_ (fun t k => XS.iloadN X0.here hx rfl (hb hby d2_12) rfl k)
      show own_G p.tables e below _ _ (s₁.setTop (mkF m 13 #[.val (.int p0)] [(.int p0)]))
      refine own_st ?_ (fun t k => XS.bipush X0.here hx rfl (hb hby d2_13) k)
      show own_G p.tables e below _ _ (s₁.setTop (mkF m 15 #[.val (.int p0)] [(.int (13 : Int32)), (.int p0)]))
      by_cases hc15 : p0 = (13 : Int32)
      · refine own_st ?_ (fun t k => XS.icmpNo X0.here hx rfl (hb hby d2_15) rfl (teq hc15).2 k)
        show own_G p.tables e below _ _ (s₁.setTop (mkF m 18 #[.val (.int p0)] []))
        refine own_st ?_ (fun t k => XS.iconst X0.here hx rfl (hb hby d2_18) k)
        show own_G p.tables e below _ _ (s₁.setTop (mkF m 19 #[.val (.int p0)] [(.int (1 : Int32))]))
        refine own_retN X0 hx hlk (t := .boolean) hret (by simp) (hb hby d2_19) (by decide) (by decide) (z' := (1 : Int32)) rfl ⟨?_, N0, e0⟩
        rw [show f2 p0  = (1 : Int32) from (if_neg hc3).trans ((if_neg hc9).trans ((if_pos hc15).trans (rfl)))]
      · refine own_st ?_ (fun t k => XS.icmpYes X0.here hx rfl (pc0 := 15) (pc' := 20) rfl (hb hby d2_15) rfl (feq hc15).2 (by decide) (by decide) k)
        show own_G p.tables e below _ _ (s₁.setTop (mkF m 20 #[.val (.int p0)] []))
        refine own_st ?_ (fun t k => XS.iloadN X0.here hx rfl (hb hby d2_20) rfl k)
        show own_G p.tables e below _ _ (s₁.setTop (mkF m 21 #[.val (.int p0)] [(.int p0)]))
        refine own_st ?_ (fun t k => XS.bipush X0.here hx rfl (hb hby d2_21) k)
        show own_G p.tables e below _ _ (s₁.setTop (mkF m 23 #[.val (.int p0)] [(.int (32 : Int32)), (.int p0)]))
        by_cases hc23 : p0 < (32 : Int32)
        · refine own_st ?_ (fun t k => XS.icmpYes X0.here hx rfl (pc0 := 23) (pc' := 34) rfl (hb hby d2_23) rfl (tlt hc23).1 (by decide) (by decide) k)
          show own_G p.tables e below _ _ (s₁.setTop (mkF m 34 #[.val (.int p0)] []))
          refine own_st ?_ (fun t k => XS.iloadN X0.here hx rfl (hb hby d2_34) rfl k)
          show own_G p.tables e below _ _ (s₁.setTop (mkF m 35 #[.val (.int p0)] [(.int p0)]))
          refine own_st ?_ (X0.ldcInt hx hown (mvT hZ (hw _ (List.mem_of_getElem? (i := 4) rfl))) (g := (mkF m 35 #[.val (.int p0)] [(.int p0)])) rfl (hb hby d2_35))
          show own_G p.tables e below _ _ (s₁.setTop (mkF m 37 #[.val (.int p0)] [(.int (57344 : Int32)), (.int p0)]))
          by_cases hc37 : p0 < (57344 : Int32)
          · refine own_st ?_ (fun t k => XS.icmpYes X0.here hx rfl (pc0 := 37) (pc' := 48) rfl (hb hby d2_37) rfl (tlt hc37).1 (by decide) (by decide) k)
            show own_G p.tables e below _ _ (s₁.setTop (mkF m 48 #[.val (.int p0)] []))
            refine own_st ?_ (fun t k => XS.iloadN X0.here hx rfl (hb hby d2_48) rfl k)
            show own_G p.tables e below _ _ (s₁.setTop (mkF m 49 #[.val (.int p0)] [(.int p0)]))
            refine own_st ?_ (X0.ldcInt hx hown (mvT hZ (hw _ (List.mem_of_getElem? (i := 8) rfl))) (g := (mkF m 49 #[.val (.int p0)] [(.int p0)])) rfl (hb hby d2_49))
            show own_G p.tables e below _ _ (s₁.setTop (mkF m 51 #[.val (.int p0)] [(.int (65536 : Int32)), (.int p0)]))
            by_cases hc51 : p0 < (65536 : Int32)
            · refine own_st ?_ (fun t k => XS.icmpYes X0.here hx rfl (pc0 := 51) (pc' := 62) rfl (hb hby d2_51) rfl (tlt hc51).1 (by decide) (by decide) k)
              show own_G p.tables e below _ _ (s₁.setTop (mkF m 62 #[.val (.int p0)] []))
              refine own_st ?_ (fun t k => XS.iconst X0.here hx rfl (hb hby d2_62) k)
              show own_G p.tables e below _ _ (s₁.setTop (mkF m 63 #[.val (.int p0)] [(.int (0 : Int32))]))
              refine own_retN X0 hx hlk (t := .boolean) hret (by simp) (hb hby d2_63) (by decide) (by decide) (z' := (0 : Int32)) rfl ⟨?_, N0, e0⟩
              rw [show f2 p0  = (0 : Int32) from (if_neg hc3).trans ((if_neg hc9).trans ((if_neg hc15).trans ((if_pos hc23).trans ((if_pos hc37).trans ((if_pos hc51).trans (rfl))))))]
            · refine own_st ?_ (fun t k => XS.icmpNo X0.here hx rfl (hb hby d2_51) rfl (flt hc51).1 k)
              show own_G p.tables e below _ _ (s₁.setTop (mkF m 54 #[.val (.int p0)] []))
              refine own_st ?_ (fun t k => XS.iloadN X0.here hx rfl (hb hby d2_54) rfl k)
              show own_G p.tables e below _ _ (s₁.setTop (mkF m 55 #[.val (.int p0)] [(.int p0)]))
              refine own_st ?_ (X0.ldcInt hx hown (mvT hZ (hw _ (List.mem_of_getElem? (i := 9) rfl))) (g := (mkF m 55 #[.val (.int p0)] [(.int p0)])) rfl (hb hby d2_55))
              show own_G p.tables e below _ _ (s₁.setTop (mkF m 57 #[.val (.int p0)] [(.int (1114111 : Int32)), (.int p0)]))
              by_cases hc57 : (1114111 : Int32) < p0
              · refine own_st ?_ (fun t k => XS.icmpYes X0.here hx rfl (pc0 := 57) (pc' := 62) rfl (hb hby d2_57) rfl (tlt hc57).2.2.1 (by decide) (by decide) k)
                show own_G p.tables e below _ _ (s₁.setTop (mkF m 62 #[.val (.int p0)] []))
                refine own_st ?_ (fun t k => XS.iconst X0.here hx rfl (hb hby d2_62) k)
                show own_G p.tables e below _ _ (s₁.setTop (mkF m 63 #[.val (.int p0)] [(.int (0 : Int32))]))
                refine own_retN X0 hx hlk (t := .boolean) hret (by simp) (hb hby d2_63) (by decide) (by decide) (z' := (0 : Int32)) rfl ⟨?_, N0, e0⟩
                rw [show f2 p0  = (0 : Int32) from (if_neg hc3).trans ((if_neg hc9).trans ((if_neg hc15).trans ((if_pos hc23).trans ((if_pos hc37).trans ((if_neg hc51).trans ((if_pos hc57).trans (rfl)))))))]
              · refine own_st ?_ (fun t k => XS.icmpNo X0.here hx rfl (hb hby d2_57) rfl (flt hc57).2.2.1 k)
                show own_G p.tables e below _ _ (s₁.setTop (mkF m 60 #[.val (.int p0)] []))
                refine own_st ?_ (fun t k => XS.iconst X0.here hx rfl (hb hby d2_60) k)
                show own_G p.tables e below _ _ (s₁.setTop (mkF m 61 #[.val (.int p0)] [(.int (1 : Int32))]))
                refine own_retN X0 hx hlk (t := .boolean) hret (by simp) (hb hby d2_61) (by decide) (by decide) (z' := (1 : Int32)) rfl ⟨?_, N0, e0⟩
                rw [show f2 p0  = (1 : Int32) from (if_neg hc3).trans ((if_neg hc9).trans ((if_neg hc15).trans ((if_pos hc23).trans ((if_pos hc37).trans ((if_neg hc51).trans ((if_neg hc57).trans (rfl)))))))]
          · refine own_st ?_ (fun t k => XS.icmpNo X0.here hx rfl (hb hby d2_37) rfl (flt hc37).1 k)
            show own_G p.tables e below _ _ (s₁.setTop (mkF m 40 #[.val (.int p0)] []))
            refine own_st ?_ (fun t k => XS.iloadN X0.here hx rfl (hb hby d2_40) rfl k)
            show own_G p.tables e below _ _ (s₁.setTop (mkF m 41 #[.val (.int p0)] [(.int p0)]))
            refine own_st ?_ (X0.ldcInt hx hown (mvT hZ (hw _ (List.mem_of_getElem? (i := 5) rfl))) (g := (mkF m 41 #[.val (.int p0)] [(.int p0)])) rfl (hb hby d2_41))
            show own_G p.tables e below _ _ (s₁.setTop (mkF m 43 #[.val (.int p0)] [(.int (65533 : Int32)), (.int p0)]))
            by_cases hc43 : (65533 : Int32) < p0
            · refine own_st ?_ (fun t k => XS.icmpYes X0.here hx rfl (pc0 := 43) (pc' := 48) rfl (hb hby d2_43) rfl (tlt hc43).2.2.1 (by decide) (by decide) k)
              show own_G p.tables e below _ _ (s₁.setTop (mkF m 48 #[.val (.int p0)] []))
              refine own_st ?_ (fun t k => XS.iloadN X0.here hx rfl (hb hby d2_48) rfl k)
              show own_G p.tables e below _ _ (s₁.setTop (mkF m 49 #[.val (.int p0)] [(.int p0)]))
              refine own_st ?_ (X0.ldcInt hx hown (mvT hZ (hw _ (List.mem_of_getElem? (i := 8) rfl))) (g := (mkF m 49 #[.val (.int p0)] [(.int p0)])) rfl (hb hby d2_49))
              show own_G p.tables e below _ _ (s₁.setTop (mkF m 51 #[.val (.int p0)] [(.int (65536 : Int32)), (.int p0)]))
              by_cases hc51 : p0 < (65536 : Int32)
              · refine own_st ?_ (fun t k => XS.icmpYes X0.here hx rfl (pc0 := 51) (pc' := 62) rfl (hb hby d2_51) rfl (tlt hc51).1 (by decide) (by decide) k)
                show own_G p.tables e below _ _ (s₁.setTop (mkF m 62 #[.val (.int p0)] []))
                refine own_st ?_ (fun t k => XS.iconst X0.here hx rfl (hb hby d2_62) k)
                show own_G p.tables e below _ _ (s₁.setTop (mkF m 63 #[.val (.int p0)] [(.int (0 : Int32))]))
                refine own_retN X0 hx hlk (t := .boolean) hret (by simp) (hb hby d2_63) (by decide) (by decide) (z' := (0 : Int32)) rfl ⟨?_, N0, e0⟩
                rw [show f2 p0  = (0 : Int32) from (if_neg hc3).trans ((if_neg hc9).trans ((if_neg hc15).trans ((if_pos hc23).trans ((if_neg hc37).trans ((if_pos hc43).trans ((if_pos hc51).trans (rfl)))))))]
              · refine own_st ?_ (fun t k => XS.icmpNo X0.here hx rfl (hb hby d2_51) rfl (flt hc51).1 k)
                show own_G p.tables e below _ _ (s₁.setTop (mkF m 54 #[.val (.int p0)] []))
                refine own_st ?_ (fun t k => XS.iloadN X0.here hx rfl (hb hby d2_54) rfl k)
                show own_G p.tables e below _ _ (s₁.setTop (mkF m 55 #[.val (.int p0)] [(.int p0)]))
                refine own_st ?_ (X0.ldcInt hx hown (mvT hZ (hw _ (List.mem_of_getElem? (i := 9) rfl))) (g := (mkF m 55 #[.val (.int p0)] [(.int p0)])) rfl (hb hby d2_55))
                show own_G p.tables e below _ _ (s₁.setTop (mkF m 57 #[.val (.int p0)] [(.int (1114111 : Int32)), (.int p0)]))
                by_cases hc57 : (1114111 : Int32) < p0
                · refine own_st ?_ (fun t k => XS.icmpYes X0.here hx rfl (pc0 := 57) (pc' := 62) rfl (hb hby d2_57) rfl (tlt hc57).2.2.1 (by decide) (by decide) k)
                  show own_G p.tables e below _ _ (s₁.setTop (mkF m 62 #[.val (.int p0)] []))
                  refine own_st ?_ (fun t k => XS.iconst X0.here hx rfl (hb hby d2_62) k)
                  show own_G p.tables e below _ _ (s₁.setTop (mkF m 63 #[.val (.int p0)] [(.int (0 : Int32))]))
                  refine own_retN X0 hx hlk (t := .boolean) hret (by simp) (hb hby d2_63) (by decide) (by decide) (z' := (0 : Int32)) rfl ⟨?_, N0, e0⟩
                  rw [show f2 p0  = (0 : Int32) from (if_neg hc3).trans ((if_neg hc9).trans ((if_neg hc15).trans ((if_pos hc23).trans ((if_neg hc37).trans ((if_pos hc43).trans ((if_neg hc51).trans ((if_pos hc57).trans (rfl))))))))]
                · refine own_st ?_ (fun t k => XS.icmpNo X0.here hx rfl (hb hby d2_57) rfl (flt hc57).2.2.1 k)
                  show own_G p.tables e below _ _ (s₁.setTop (mkF m 60 #[.val (.int p0)] []))
                  refine own_st ?_ (fun t k => XS.iconst X0.here hx rfl (hb hby d2_60) k)
                  show own_G p.tables e below _ _ (s₁.setTop (mkF m 61 #[.val (.int p0)] [(.int (1 : Int32))]))
                  refine own_retN X0 hx hlk (t := .boolean) hret (by simp) (hb hby d2_61) (by decide) (by decide) (z' := (1 : Int32)) rfl ⟨?_, N0, e0⟩
                  rw [show f2 p0  = (1 : Int32) from (if_neg hc3).trans ((if_neg hc9).trans ((if_neg hc15).trans ((if_pos hc23).trans ((if_neg hc37).trans ((if_pos hc43).trans ((if_neg hc51).trans ((if_neg hc57).trans (rfl))))))))]
            · refine own_st ?_ (fun t k => XS.icmpNo X0.here hx rfl (hb hby d2_43) rfl (flt hc43).2.2.1 k)
              show own_G p.tables e below _ _ (s₁.setTop (mkF m 46 #[.val (.int p0)] []))
              refine own_st ?_ (fun t k => XS.iconst X0.here hx rfl (hb hby d2_46) k)
              show own_G p.tables e below _ _ (s₁.setTop (mkF m 47 #[.val (.int p0)] [(.int (1 : Int32))]))
              refine own_retN X0 hx hlk (t := .boolean) hret (by simp) (hb hby d2_47) (by decide) (by decide) (z' := (1 : Int32)) rfl ⟨?_, N0, e0⟩
              rw [show f2 p0  = (1 : Int32) from (if_neg hc3).trans ((if_neg hc9).trans ((if_neg hc15).trans ((if_pos hc23).trans ((if_neg hc37).trans ((if_neg hc43).trans (rfl))))))]
        · refine own_st ?_ (fun t k => XS.icmpNo X0.here hx rfl (hb hby d2_23) rfl (flt hc23).1 k)
          show own_G p.tables e below _ _ (s₁.setTop (mkF m 26 #[.val (.int p0)] []))
          refine own_st ?_ (fun t k => XS.iloadN X0.here hx rfl (hb hby d2_26) rfl k)
          show own_G p.tables e below _ _ (s₁.setTop (mkF m 27 #[.val (.int p0)] [(.int p0)]))
          refine own_st ?_ (X0.ldcInt hx hown (mvT hZ (hw _ (List.mem_of_getElem? (i := 1) rfl))) (g := (mkF m 27 #[.val (.int p0)] [(.int p0)])) rfl (hb hby d2_27))
          show own_G p.tables e below _ _ (s₁.setTop (mkF m 29 #[.val (.int p0)] [(.int (55295 : Int32)), (.int p0)]))
          by_cases hc29 : (55295 : Int32) < p0
          · refine own_st ?_ (fun t k => XS.icmpYes X0.here hx rfl (pc0 := 29) (pc' := 34) rfl (hb hby d2_29) rfl (tlt hc29).2.2.1 (by decide) (by decide) k)
            show own_G p.tables e below _ _ (s₁.setTop (mkF m 34 #[.val (.int p0)] []))
            refine own_st ?_ (fun t k => XS.iloadN X0.here hx rfl (hb hby d2_34) rfl k)
            show own_G p.tables e below _ _ (s₁.setTop (mkF m 35 #[.val (.int p0)] [(.int p0)]))
            refine own_st ?_ (X0.ldcInt hx hown (mvT hZ (hw _ (List.mem_of_getElem? (i := 4) rfl))) (g := (mkF m 35 #[.val (.int p0)] [(.int p0)])) rfl (hb hby d2_35))
            show own_G p.tables e below _ _ (s₁.setTop (mkF m 37 #[.val (.int p0)] [(.int (57344 : Int32)), (.int p0)]))
            by_cases hc37 : p0 < (57344 : Int32)
            · refine own_st ?_ (fun t k => XS.icmpYes X0.here hx rfl (pc0 := 37) (pc' := 48) rfl (hb hby d2_37) rfl (tlt hc37).1 (by decide) (by decide) k)
              show own_G p.tables e below _ _ (s₁.setTop (mkF m 48 #[.val (.int p0)] []))
              refine own_st ?_ (fun t k => XS.iloadN X0.here hx rfl (hb hby d2_48) rfl k)
              show own_G p.tables e below _ _ (s₁.setTop (mkF m 49 #[.val (.int p0)] [(.int p0)]))
              refine own_st ?_ (X0.ldcInt hx hown (mvT hZ (hw _ (List.mem_of_getElem? (i := 8) rfl))) (g := (mkF m 49 #[.val (.int p0)] [(.int p0)])) rfl (hb hby d2_49))
              show own_G p.tables e below _ _ (s₁.setTop (mkF m 51 #[.val (.int p0)] [(.int (65536 : Int32)), (.int p0)]))
              by_cases hc51 : p0 < (65536 : Int32)
              · refine own_st ?_ (fun t k => XS.icmpYes X0.here hx rfl (pc0 := 51) (pc' := 62) rfl (hb hby d2_51) rfl (tlt hc51).1 (by decide) (by decide) k)
                show own_G p.tables e below _ _ (s₁.setTop (mkF m 62 #[.val (.int p0)] []))
                refine own_st ?_ (fun t k => XS.iconst X0.here hx rfl (hb hby d2_62) k)
                show own_G p.tables e below _ _ (s₁.setTop (mkF m 63 #[.val (.int p0)] [(.int (0 : Int32))]))
                refine own_retN X0 hx hlk (t := .boolean) hret (by simp) (hb hby d2_63) (by decide) (by decide) (z' := (0 : Int32)) rfl ⟨?_, N0, e0⟩
                rw [show f2 p0  = (0 : Int32) from (if_neg hc3).trans ((if_neg hc9).trans ((if_neg hc15).trans ((if_neg hc23).trans ((if_pos hc29).trans ((if_pos hc37).trans ((if_pos hc51).trans (rfl)))))))]
              · refine own_st ?_ (fun t k => XS.icmpNo X0.here hx rfl (hb hby d2_51) rfl (flt hc51).1 k)
                show own_G p.tables e below _ _ (s₁.setTop (mkF m 54 #[.val (.int p0)] []))
                refine own_st ?_ (fun t k => XS.iloadN X0.here hx rfl (hb hby d2_54) rfl k)
                show own_G p.tables e below _ _ (s₁.setTop (mkF m 55 #[.val (.int p0)] [(.int p0)]))
                refine own_st ?_ (X0.ldcInt hx hown (mvT hZ (hw _ (List.mem_of_getElem? (i := 9) rfl))) (g := (mkF m 55 #[.val (.int p0)] [(.int p0)])) rfl (hb hby d2_55))
                show own_G p.tables e below _ _ (s₁.setTop (mkF m 57 #[.val (.int p0)] [(.int (1114111 : Int32)), (.int p0)]))
                by_cases hc57 : (1114111 : Int32) < p0
                · refine own_st ?_ (fun t k => XS.icmpYes X0.here hx rfl (pc0 := 57) (pc' := 62) rfl (hb hby d2_57) rfl (tlt hc57).2.2.1 (by decide) (by decide) k)
                  show own_G p.tables e below _ _ (s₁.setTop (mkF m 62 #[.val (.int p0)] []))
                  refine own_st ?_ (fun t k => XS.iconst X0.here hx rfl (hb hby d2_62) k)
                  show own_G p.tables e below _ _ (s₁.setTop (mkF m 63 #[.val (.int p0)] [(.int (0 : Int32))]))
                  refine own_retN X0 hx hlk (t := .boolean) hret (by simp) (hb hby d2_63) (by decide) (by decide) (z' := (0 : Int32)) rfl ⟨?_, N0, e0⟩
                  rw [show f2 p0  = (0 : Int32) from (if_neg hc3).trans ((if_neg hc9).trans ((if_neg hc15).trans ((if_neg hc23).trans ((if_pos hc29).trans ((if_pos hc37).trans ((if_neg hc51).trans ((if_pos hc57).trans (rfl))))))))]
                · refine own_st ?_ (fun t k => XS.icmpNo X0.here hx rfl (hb hby d2_57) rfl (flt hc57).2.2.1 k)
                  show own_G p.tables e below _ _ (s₁.setTop (mkF m 60 #[.val (.int p0)] []))
                  refine own_st ?_ (fun t k => XS.iconst X0.here hx rfl (hb hby d2_60) k)
                  show own_G p.tables e below _ _ (s₁.setTop (mkF m 61 #[.val (.int p0)] [(.int (1 : Int32))]))
                  refine own_retN X0 hx hlk (t := .boolean) hret (by simp) (hb hby d2_61) (by decide) (by decide) (z' := (1 : Int32)) rfl ⟨?_, N0, e0⟩
                  rw [show f2 p0  = (1 : Int32) from (if_neg hc3).trans ((if_neg hc9).trans ((if_neg hc15).trans ((if_neg hc23).trans ((if_pos hc29).trans ((if_pos hc37).trans ((if_neg hc51).trans ((if_neg hc57).trans (rfl))))))))]
            · refine own_st ?_ (fun t k => XS.icmpNo X0.here hx rfl (hb hby d2_37) rfl (flt hc37).1 k)
              show own_G p.tables e below _ _ (s₁.setTop (mkF m 40 #[.val (.int p0)] []))
              refine own_st ?_ (fun t k => XS.iloadN X0.here hx rfl (hb hby d2_40) rfl k)
              show own_G p.tables e below _ _ (s₁.setTop (mkF m 41 #[.val (.int p0)] [(.int p0)]))
              refine own_st ?_ (X0.ldcInt hx hown (mvT hZ (hw _ (List.mem_of_getElem? (i := 5) rfl))) (g := (mkF m 41 #[.val (.int p0)] [(.int p0)])) rfl (hb hby d2_41))
              show own_G p.tables e below _ _ (s₁.setTop (mkF m 43 #[.val (.int p0)] [(.int (65533 : Int32)), (.int p0)]))
              by_cases hc43 : (65533 : Int32) < p0
              · refine own_st ?_ (fun t k => XS.icmpYes X0.here hx rfl (pc0 := 43) (pc' := 48) rfl (hb hby d2_43) rfl (tlt hc43).2.2.1 (by decide) (by decide) k)
                show own_G p.tables e below _ _ (s₁.setTop (mkF m 48 #[.val (.int p0)] []))
                refine own_st ?_ (fun t k => XS.iloadN X0.here hx rfl (hb hby d2_48) rfl k)
                show own_G p.tables e below _ _ (s₁.setTop (mkF m 49 #[.val (.int p0)] [(.int p0)]))
                refine own_st ?_ (X0.ldcInt hx hown (mvT hZ (hw _ (List.mem_of_getElem? (i := 8) rfl))) (g := (mkF m 49 #[.val (.int p0)] [(.int p0)])) rfl (hb hby d2_49))
                show own_G p.tables e below _ _ (s₁.setTop (mkF m 51 #[.val (.int p0)] [(.int (65536 : Int32)), (.int p0)]))
                by_cases hc51 : p0 < (65536 : Int32)
                · refine own_st ?_ (fun t k => XS.icmpYes X0.here hx rfl (pc0 := 51) (pc' := 62) rfl (hb hby d2_51) rfl (tlt hc51).1 (by decide) (by decide) k)
                  show own_G p.tables e below _ _ (s₁.setTop (mkF m 62 #[.val (.int p0)] []))
                  refine own_st ?_ (fun t k => XS.iconst X0.here hx rfl (hb hby d2_62) k)
                  show own_G p.tables e below _ _ (s₁.setTop (mkF m 63 #[.val (.int p0)] [(.int (0 : Int32))]))
                  refine own_retN X0 hx hlk (t := .boolean) hret (by simp) (hb hby d2_63) (by decide) (by decide) (z' := (0 : Int32)) rfl ⟨?_, N0, e0⟩
                  rw [show f2 p0  = (0 : Int32) from (if_neg hc3).trans ((if_neg hc9).trans ((if_neg hc15).trans ((if_neg hc23).trans ((if_pos hc29).trans ((if_neg hc37).trans ((if_pos hc43).trans ((if_pos hc51).trans (rfl))))))))]
                · refine own_st ?_ (fun t k => XS.icmpNo X0.here hx rfl (hb hby d2_51) rfl (flt hc51).1 k)
                  show own_G p.tables e below _ _ (s₁.setTop (mkF m 54 #[.val (.int p0)] []))
                  refine own_st ?_ (fun t k => XS.iloadN X0.here hx rfl (hb hby d2_54) rfl k)
                  show own_G p.tables e below _ _ (s₁.setTop (mkF m 55 #[.val (.int p0)] [(.int p0)]))
                  refine own_st ?_ (X0.ldcInt hx hown (mvT hZ (hw _ (List.mem_of_getElem? (i := 9) rfl))) (g := (mkF m 55 #[.val (.int p0)] [(.int p0)])) rfl (hb hby d2_55))
                  show own_G p.tables e below _ _ (s₁.setTop (mkF m 57 #[.val (.int p0)] [(.int (1114111 : Int32)), (.int p0)]))
                  by_cases hc57 : (1114111 : Int32) < p0
                  · refine own_st ?_ (fun t k => XS.icmpYes X0.here hx rfl (pc0 := 57) (pc' := 62) rfl (hb hby d2_57) rfl (tlt hc57).2.2.1 (by decide) (by decide) k)
                    show own_G p.tables e below _ _ (s₁.setTop (mkF m 62 #[.val (.int p0)] []))
                    refine own_st ?_ (fun t k => XS.iconst X0.here hx rfl (hb hby d2_62) k)
                    show own_G p.tables e below _ _ (s₁.setTop (mkF m 63 #[.val (.int p0)] [(.int (0 : Int32))]))
                    refine own_retN X0 hx hlk (t := .boolean) hret (by simp) (hb hby d2_63) (by decide) (by decide) (z' := (0 : Int32)) rfl ⟨?_, N0, e0⟩
                    rw [show f2 p0  = (0 : Int32) from (if_neg hc3).trans ((if_neg hc9).trans ((if_neg hc15).trans ((if_neg hc23).trans ((if_pos hc29).trans ((if_neg hc37).trans ((if_pos hc43).trans ((if_neg hc51).trans ((if_pos hc57).trans (rfl)))))))))]
                  · refine own_st ?_ (fun t k => XS.icmpNo X0.here hx rfl (hb hby d2_57) rfl (flt hc57).2.2.1 k)
                    show own_G p.tables e below _ _ (s₁.setTop (mkF m 60 #[.val (.int p0)] []))
                    refine own_st ?_ (fun t k => XS.iconst X0.here hx rfl (hb hby d2_60) k)
                    show own_G p.tables e below _ _ (s₁.setTop (mkF m 61 #[.val (.int p0)] [(.int (1 : Int32))]))
                    refine own_retN X0 hx hlk (t := .boolean) hret (by simp) (hb hby d2_61) (by decide) (by decide) (z' := (1 : Int32)) rfl ⟨?_, N0, e0⟩
                    rw [show f2 p0  = (1 : Int32) from (if_neg hc3).trans ((if_neg hc9).trans ((if_neg hc15).trans ((if_neg hc23).trans ((if_pos hc29).trans ((if_neg hc37).trans ((if_pos hc43).trans ((if_neg hc51).trans ((if_neg hc57).trans (rfl)))))))))]
              · refine own_st ?_ (fun t k => XS.icmpNo X0.here hx rfl (hb hby d2_43) rfl (flt hc43).2.2.1 k)
                show own_G p.tables e below _ _ (s₁.setTop (mkF m 46 #[.val (.int p0)] []))
                refine own_st ?_ (fun t k => XS.iconst X0.here hx rfl (hb hby d2_46) k)
                show own_G p.tables e below _ _ (s₁.setTop (mkF m 47 #[.val (.int p0)] [(.int (1 : Int32))]))
                refine own_retN X0 hx hlk (t := .boolean) hret (by simp) (hb hby d2_47) (by decide) (by decide) (z' := (1 : Int32)) rfl ⟨?_, N0, e0⟩
                rw [show f2 p0  = (1 : Int32) from (if_neg hc3).trans ((if_neg hc9).trans ((if_neg hc15).trans ((if_neg hc23).trans ((if_pos hc29).trans ((if_neg hc37).trans ((if_neg hc43).trans (rfl)))))))]
          · refine own_st ?_ (fun t k => XS.icmpNo X0.here hx rfl (hb hby d2_29) rfl (flt hc29).2.2.1 k)
            show own_G p.tables e below _ _ (s₁.setTop (mkF m 32 #[.val (.int p0)] []))
            refine own_st ?_ (fun t k => XS.iconst X0.here hx rfl (hb hby d2_32) k)
            show own_G p.tables e below _ _ (s₁.setTop (mkF m 33 #[.val (.int p0)] [(.int (1 : Int32))]))
            refine own_retN X0 hx hlk (t := .boolean) hret (by simp) (hb hby d2_33) (by decide) (by decide) (z' := (1 : Int32)) rfl ⟨?_, N0, e0⟩
            rw [show f2 p0  = (1 : Int32) from (if_neg hc3).trans ((if_neg hc9).trans ((if_neg hc15).trans ((if_neg hc23).trans ((if_neg hc29).trans (rfl)))))]
set_option maxHeartbeats 4000000 in
theorem own_xml (c : Int32) : f1 c = f2 c := by
  have e0 : (0 : Int32).toInt = 0 := by decide
  have e1 : (1 : Int32).toInt = 1 := by decide
  have e9 : (9 : Int32).toInt = 9 := by decide
  have e10 : (10 : Int32).toInt = 10 := by decide
  have e13 : (13 : Int32).toInt = 13 := by decide
  have e32 : (32 : Int32).toInt = 32 := by decide
  have e55295 : (55295 : Int32).toInt = 55295 := by decide
  have e55296 : (55296 : Int32).toInt = 55296 := by decide
  have e57343 : (57343 : Int32).toInt = 57343 := by decide
  have e57344 : (57344 : Int32).toInt = 57344 := by decide
  have e65533 : (65533 : Int32).toInt = 65533 := by decide
  have e65534 : (65534 : Int32).toInt = 65534 := by decide
  have e65535 : (65535 : Int32).toInt = 65535 := by decide
  have e65536 : (65536 : Int32).toInt = 65536 := by decide
  have e1114111 : (1114111 : Int32).toInt = 1114111 := by decide
  have hr : (c.toInt ≤ 8) ∨ (c.toInt = 9) ∨ (c.toInt = 10) ∨ (11 ≤ c.toInt ∧ c.toInt ≤ 12) ∨ (c.toInt = 13) ∨ (14 ≤ c.toInt ∧ c.toInt ≤ 31) ∨ (32 ≤ c.toInt ∧ c.toInt ≤ 55295) ∨ (55296 ≤ c.toInt ∧ c.toInt ≤ 57343) ∨ (57344 ≤ c.toInt ∧ c.toInt ≤ 65533) ∨ (c.toInt = 65534) ∨ (c.toInt = 65535) ∨ (65536 ≤ c.toInt ∧ c.toInt ≤ 1114111) ∨ (1114112 ≤ c.toInt) := by omega
  unfold f1 f2
  rcases hr with hc | hc | hc | hc | hc | hc | hc | hc | hc | hc | hc | hc | hc
  · simp only [eq_false (show ¬ (1114111 : Int32) < c from fun q => by rw [Int32.lt_iff_toInt_lt, e1114111] at q; omega), eq_false (show ¬ (55295 : Int32) < c from fun q => by rw [Int32.lt_iff_toInt_lt, e55295] at q; omega), eq_false (show ¬ (57343 : Int32) < c from fun q => by rw [Int32.lt_iff_toInt_lt, e57343] at q; omega), eq_false (show ¬ (65533 : Int32) < c from fun q => by rw [Int32.lt_iff_toInt_lt, e65533] at q; omega), eq_true (show c < (32 : Int32) from Int32.lt_iff_toInt_lt.mpr (by rw [e32]; omega)), eq_true (show c < (55296 : Int32) from Int32.lt_iff_toInt_lt.mpr (by rw [e55296]; omega)), eq_true (show c < (57344 : Int32) from Int32.lt_iff_toInt_lt.mpr (by rw [e57344]; omega)), eq_true (show c < (65536 : Int32) from Int32.lt_iff_toInt_lt.mpr (by rw [e65536]; omega)), eq_false (show ¬ c = (10 : Int32) from fun q => by rw [q, e10] at hc; omega), eq_false (show ¬ c = (13 : Int32) from fun q => by rw [q, e13] at hc; omega), eq_false (show ¬ c = (65534 : Int32) from fun q => by rw [q, e65534] at hc; omega), eq_false (show ¬ c = (65535 : Int32) from fun q => by rw [q, e65535] at hc; omega), eq_false (show ¬ c = (9 : Int32) from fun q => by rw [q, e9] at hc; omega), if_true, if_false]
  · simp only [eq_false (show ¬ (1114111 : Int32) < c from fun q => by rw [Int32.lt_iff_toInt_lt, e1114111] at q; omega), eq_false (show ¬ (55295 : Int32) < c from fun q => by rw [Int32.lt_iff_toInt_lt, e55295] at q; omega), eq_false (show ¬ (57343 : Int32) < c from fun q => by rw [Int32.lt_iff_toInt_lt, e57343] at q; omega), eq_false (show ¬ (65533 : Int32) < c from fun q => by rw [Int32.lt_iff_toInt_lt, e65533] at q; omega), eq_true (show c < (32 : Int32) from Int32.lt_iff_toInt_lt.mpr (by rw [e32]; omega)), eq_true (show c < (55296 : Int32) from Int32.lt_iff_toInt_lt.mpr (by rw [e55296]; omega)), eq_true (show c < (57344 : Int32) from Int32.lt_iff_toInt_lt.mpr (by rw [e57344]; omega)), eq_true (show c < (65536 : Int32) from Int32.lt_iff_toInt_lt.mpr (by rw [e65536]; omega)), eq_false (show ¬ c = (10 : Int32) from fun q => by rw [q, e10] at hc; omega), eq_false (show ¬ c = (13 : Int32) from fun q => by rw [q, e13] at hc; omega), eq_false (show ¬ c = (65534 : Int32) from fun q => by rw [q, e65534] at hc; omega), eq_false (show ¬ c = (65535 : Int32) from fun q => by rw [q, e65535] at hc; omega), eq_true (show c = (9 : Int32) from Int32.toInt_inj.mp (by rw [e9]; omega)), if_true, if_false]
  · simp only [eq_false (show ¬ (1114111 : Int32) < c from fun q => by rw [Int32.lt_iff_toInt_lt, e1114111] at q; omega), eq_false (show ¬ (55295 : Int32) < c from fun q => by rw [Int32.lt_iff_toInt_lt, e55295] at q; omega), eq_false (show ¬ (57343 : Int32) < c from fun q => by rw [Int32.lt_iff_toInt_lt, e57343] at q; omega), eq_false (show ¬ (65533 : Int32) < c from fun q => by rw [Int32.lt_iff_toInt_lt, e65533] at q; omega), eq_true (show c < (32 : Int32) from Int32.lt_iff_toInt_lt.mpr (by rw [e32]; omega)), eq_true (show c < (55296 : Int32) from Int32.lt_iff_toInt_lt.mpr (by rw [e55296]; omega)), eq_true (show c < (57344 : Int32) from Int32.lt_iff_toInt_lt.mpr (by rw [e57344]; omega)), eq_true (show c < (65536 : Int32) from Int32.lt_iff_toInt_lt.mpr (by rw [e65536]; omega)), eq_true (show c = (10 : Int32) from Int32.toInt_inj.mp (by rw [e10]; omega)), eq_false (show ¬ c = (13 : Int32) from fun q => by rw [q, e13] at hc; omega), eq_false (show ¬ c = (65534 : Int32) from fun q => by rw [q, e65534] at hc; omega), eq_false (show ¬ c = (65535 : Int32) from fun q => by rw [q, e65535] at hc; omega), eq_false (show ¬ c = (9 : Int32) from fun q => by rw [q, e9] at hc; omega), if_true, if_false]
  · simp only [eq_false (show ¬ (1114111 : Int32) < c from fun q => by rw [Int32.lt_iff_toInt_lt, e1114111] at q; omega), eq_false (show ¬ (55295 : Int32) < c from fun q => by rw [Int32.lt_iff_toInt_lt, e55295] at q; omega), eq_false (show ¬ (57343 : Int32) < c from fun q => by rw [Int32.lt_iff_toInt_lt, e57343] at q; omega), eq_false (show ¬ (65533 : Int32) < c from fun q => by rw [Int32.lt_iff_toInt_lt, e65533] at q; omega), eq_true (show c < (32 : Int32) from Int32.lt_iff_toInt_lt.mpr (by rw [e32]; omega)), eq_true (show c < (55296 : Int32) from Int32.lt_iff_toInt_lt.mpr (by rw [e55296]; omega)), eq_true (show c < (57344 : Int32) from Int32.lt_iff_toInt_lt.mpr (by rw [e57344]; omega)), eq_true (show c < (65536 : Int32) from Int32.lt_iff_toInt_lt.mpr (by rw [e65536]; omega)), eq_false (show ¬ c = (10 : Int32) from fun q => by rw [q, e10] at hc; omega), eq_false (show ¬ c = (13 : Int32) from fun q => by rw [q, e13] at hc; omega), eq_false (show ¬ c = (65534 : Int32) from fun q => by rw [q, e65534] at hc; omega), eq_false (show ¬ c = (65535 : Int32) from fun q => by rw [q, e65535] at hc; omega), eq_false (show ¬ c = (9 : Int32) from fun q => by rw [q, e9] at hc; omega), if_true, if_false]
  · simp only [eq_false (show ¬ (1114111 : Int32) < c from fun q => by rw [Int32.lt_iff_toInt_lt, e1114111] at q; omega), eq_false (show ¬ (55295 : Int32) < c from fun q => by rw [Int32.lt_iff_toInt_lt, e55295] at q; omega), eq_false (show ¬ (57343 : Int32) < c from fun q => by rw [Int32.lt_iff_toInt_lt, e57343] at q; omega), eq_false (show ¬ (65533 : Int32) < c from fun q => by rw [Int32.lt_iff_toInt_lt, e65533] at q; omega), eq_true (show c < (32 : Int32) from Int32.lt_iff_toInt_lt.mpr (by rw [e32]; omega)), eq_true (show c < (55296 : Int32) from Int32.lt_iff_toInt_lt.mpr (by rw [e55296]; omega)), eq_true (show c < (57344 : Int32) from Int32.lt_iff_toInt_lt.mpr (by rw [e57344]; omega)), eq_true (show c < (65536 : Int32) from Int32.lt_iff_toInt_lt.mpr (by rw [e65536]; omega)), eq_false (show ¬ c = (10 : Int32) from fun q => by rw [q, e10] at hc; omega), eq_true (show c = (13 : Int32) from Int32.toInt_inj.mp (by rw [e13]; omega)), eq_false (show ¬ c = (65534 : Int32) from fun q => by rw [q, e65534] at hc; omega), eq_false (show ¬ c = (65535 : Int32) from fun q => by rw [q, e65535] at hc; omega), eq_false (show ¬ c = (9 : Int32) from fun q => by rw [q, e9] at hc; omega), if_true, if_false]
  · simp only [eq_false (show ¬ (1114111 : Int32) < c from fun q => by rw [Int32.lt_iff_toInt_lt, e1114111] at q; omega), eq_false (show ¬ (55295 : Int32) < c from fun q => by rw [Int32.lt_iff_toInt_lt, e55295] at q; omega), eq_false (show ¬ (57343 : Int32) < c from fun q => by rw [Int32.lt_iff_toInt_lt, e57343] at q; omega), eq_false (show ¬ (65533 : Int32) < c from fun q => by rw [Int32.lt_iff_toInt_lt, e65533] at q; omega), eq_true (show c < (32 : Int32) from Int32.lt_iff_toInt_lt.mpr (by rw [e32]; omega)), eq_true (show c < (55296 : Int32) from Int32.lt_iff_toInt_lt.mpr (by rw [e55296]; omega)), eq_true (show c < (57344 : Int32) from Int32.lt_iff_toInt_lt.mpr (by rw [e57344]; omega)), eq_true (show c < (65536 : Int32) from Int32.lt_iff_toInt_lt.mpr (by rw [e65536]; omega)), eq_false (show ¬ c = (10 : Int32) from fun q => by rw [q, e10] at hc; omega), eq_false (show ¬ c = (13 : Int32) from fun q => by rw [q, e13] at hc; omega), eq_false (show ¬ c = (65534 : Int32) from fun q => by rw [q, e65534] at hc; omega), eq_false (show ¬ c = (65535 : Int32) from fun q => by rw [q, e65535] at hc; omega), eq_false (show ¬ c = (9 : Int32) from fun q => by rw [q, e9] at hc; omega), if_true, if_false]
  · simp only [eq_false (show ¬ (1114111 : Int32) < c from fun q => by rw [Int32.lt_iff_toInt_lt, e1114111] at q; omega), eq_false (show ¬ (55295 : Int32) < c from fun q => by rw [Int32.lt_iff_toInt_lt, e55295] at q; omega), eq_false (show ¬ (57343 : Int32) < c from fun q => by rw [Int32.lt_iff_toInt_lt, e57343] at q; omega), eq_false (show ¬ (65533 : Int32) < c from fun q => by rw [Int32.lt_iff_toInt_lt, e65533] at q; omega), eq_false (show ¬ c < (32 : Int32) from fun q => by rw [Int32.lt_iff_toInt_lt, e32] at q; omega), eq_true (show c < (55296 : Int32) from Int32.lt_iff_toInt_lt.mpr (by rw [e55296]; omega)), eq_true (show c < (57344 : Int32) from Int32.lt_iff_toInt_lt.mpr (by rw [e57344]; omega)), eq_true (show c < (65536 : Int32) from Int32.lt_iff_toInt_lt.mpr (by rw [e65536]; omega)), eq_false (show ¬ c = (10 : Int32) from fun q => by rw [q, e10] at hc; omega), eq_false (show ¬ c = (13 : Int32) from fun q => by rw [q, e13] at hc; omega), eq_false (show ¬ c = (65534 : Int32) from fun q => by rw [q, e65534] at hc; omega), eq_false (show ¬ c = (65535 : Int32) from fun q => by rw [q, e65535] at hc; omega), eq_false (show ¬ c = (9 : Int32) from fun q => by rw [q, e9] at hc; omega), if_true, if_false]
  · simp only [eq_false (show ¬ (1114111 : Int32) < c from fun q => by rw [Int32.lt_iff_toInt_lt, e1114111] at q; omega), eq_true (show (55295 : Int32) < c from Int32.lt_iff_toInt_lt.mpr (by rw [e55295]; omega)), eq_false (show ¬ (57343 : Int32) < c from fun q => by rw [Int32.lt_iff_toInt_lt, e57343] at q; omega), eq_false (show ¬ (65533 : Int32) < c from fun q => by rw [Int32.lt_iff_toInt_lt, e65533] at q; omega), eq_false (show ¬ c < (32 : Int32) from fun q => by rw [Int32.lt_iff_toInt_lt, e32] at q; omega), eq_false (show ¬ c < (55296 : Int32) from fun q => by rw [Int32.lt_iff_toInt_lt, e55296] at q; omega), eq_true (show c < (57344 : Int32) from Int32.lt_iff_toInt_lt.mpr (by rw [e57344]; omega)), eq_true (show c < (65536 : Int32) from Int32.lt_iff_toInt_lt.mpr (by rw [e65536]; omega)), eq_false (show ¬ c = (10 : Int32) from fun q => by rw [q, e10] at hc; omega), eq_false (show ¬ c = (13 : Int32) from fun q => by rw [q, e13] at hc; omega), eq_false (show ¬ c = (65534 : Int32) from fun q => by rw [q, e65534] at hc; omega), eq_false (show ¬ c = (65535 : Int32) from fun q => by rw [q, e65535] at hc; omega), eq_false (show ¬ c = (9 : Int32) from fun q => by rw [q, e9] at hc; omega), if_true, if_false]
  · simp only [eq_false (show ¬ (1114111 : Int32) < c from fun q => by rw [Int32.lt_iff_toInt_lt, e1114111] at q; omega), eq_true (show (55295 : Int32) < c from Int32.lt_iff_toInt_lt.mpr (by rw [e55295]; omega)), eq_true (show (57343 : Int32) < c from Int32.lt_iff_toInt_lt.mpr (by rw [e57343]; omega)), eq_false (show ¬ (65533 : Int32) < c from fun q => by rw [Int32.lt_iff_toInt_lt, e65533] at q; omega), eq_false (show ¬ c < (32 : Int32) from fun q => by rw [Int32.lt_iff_toInt_lt, e32] at q; omega), eq_false (show ¬ c < (55296 : Int32) from fun q => by rw [Int32.lt_iff_toInt_lt, e55296] at q; omega), eq_false (show ¬ c < (57344 : Int32) from fun q => by rw [Int32.lt_iff_toInt_lt, e57344] at q; omega), eq_true (show c < (65536 : Int32) from Int32.lt_iff_toInt_lt.mpr (by rw [e65536]; omega)), eq_false (show ¬ c = (10 : Int32) from fun q => by rw [q, e10] at hc; omega), eq_false (show ¬ c = (13 : Int32) from fun q => by rw [q, e13] at hc; omega), eq_false (show ¬ c = (65534 : Int32) from fun q => by rw [q, e65534] at hc; omega), eq_false (show ¬ c = (65535 : Int32) from fun q => by rw [q, e65535] at hc; omega), eq_false (show ¬ c = (9 : Int32) from fun q => by rw [q, e9] at hc; omega), if_true, if_false]
  · simp only [eq_false (show ¬ (1114111 : Int32) < c from fun q => by rw [Int32.lt_iff_toInt_lt, e1114111] at q; omega), eq_true (show (55295 : Int32) < c from Int32.lt_iff_toInt_lt.mpr (by rw [e55295]; omega)), eq_true (show (57343 : Int32) < c from Int32.lt_iff_toInt_lt.mpr (by rw [e57343]; omega)), eq_true (show (65533 : Int32) < c from Int32.lt_iff_toInt_lt.mpr (by rw [e65533]; omega)), eq_false (show ¬ c < (32 : Int32) from fun q => by rw [Int32.lt_iff_toInt_lt, e32] at q; omega), eq_false (show ¬ c < (55296 : Int32) from fun q => by rw [Int32.lt_iff_toInt_lt, e55296] at q; omega), eq_false (show ¬ c < (57344 : Int32) from fun q => by rw [Int32.lt_iff_toInt_lt, e57344] at q; omega), eq_true (show c < (65536 : Int32) from Int32.lt_iff_toInt_lt.mpr (by rw [e65536]; omega)), eq_false (show ¬ c = (10 : Int32) from fun q => by rw [q, e10] at hc; omega), eq_false (show ¬ c = (13 : Int32) from fun q => by rw [q, e13] at hc; omega), eq_true (show c = (65534 : Int32) from Int32.toInt_inj.mp (by rw [e65534]; omega)), eq_false (show ¬ c = (65535 : Int32) from fun q => by rw [q, e65535] at hc; omega), eq_false (show ¬ c = (9 : Int32) from fun q => by rw [q, e9] at hc; omega), if_true, if_false]
  · simp only [eq_false (show ¬ (1114111 : Int32) < c from fun q => by rw [Int32.lt_iff_toInt_lt, e1114111] at q; omega), eq_true (show (55295 : Int32) < c from Int32.lt_iff_toInt_lt.mpr (by rw [e55295]; omega)), eq_true (show (57343 : Int32) < c from Int32.lt_iff_toInt_lt.mpr (by rw [e57343]; omega)), eq_true (show (65533 : Int32) < c from Int32.lt_iff_toInt_lt.mpr (by rw [e65533]; omega)), eq_false (show ¬ c < (32 : Int32) from fun q => by rw [Int32.lt_iff_toInt_lt, e32] at q; omega), eq_false (show ¬ c < (55296 : Int32) from fun q => by rw [Int32.lt_iff_toInt_lt, e55296] at q; omega), eq_false (show ¬ c < (57344 : Int32) from fun q => by rw [Int32.lt_iff_toInt_lt, e57344] at q; omega), eq_true (show c < (65536 : Int32) from Int32.lt_iff_toInt_lt.mpr (by rw [e65536]; omega)), eq_false (show ¬ c = (10 : Int32) from fun q => by rw [q, e10] at hc; omega), eq_false (show ¬ c = (13 : Int32) from fun q => by rw [q, e13] at hc; omega), eq_false (show ¬ c = (65534 : Int32) from fun q => by rw [q, e65534] at hc; omega), eq_true (show c = (65535 : Int32) from Int32.toInt_inj.mp (by rw [e65535]; omega)), eq_false (show ¬ c = (9 : Int32) from fun q => by rw [q, e9] at hc; omega), if_true, if_false]
  · simp only [eq_false (show ¬ (1114111 : Int32) < c from fun q => by rw [Int32.lt_iff_toInt_lt, e1114111] at q; omega), eq_true (show (55295 : Int32) < c from Int32.lt_iff_toInt_lt.mpr (by rw [e55295]; omega)), eq_true (show (57343 : Int32) < c from Int32.lt_iff_toInt_lt.mpr (by rw [e57343]; omega)), eq_true (show (65533 : Int32) < c from Int32.lt_iff_toInt_lt.mpr (by rw [e65533]; omega)), eq_false (show ¬ c < (32 : Int32) from fun q => by rw [Int32.lt_iff_toInt_lt, e32] at q; omega), eq_false (show ¬ c < (55296 : Int32) from fun q => by rw [Int32.lt_iff_toInt_lt, e55296] at q; omega), eq_false (show ¬ c < (57344 : Int32) from fun q => by rw [Int32.lt_iff_toInt_lt, e57344] at q; omega), eq_false (show ¬ c < (65536 : Int32) from fun q => by rw [Int32.lt_iff_toInt_lt, e65536] at q; omega), eq_false (show ¬ c = (10 : Int32) from fun q => by rw [q, e10] at hc; omega), eq_false (show ¬ c = (13 : Int32) from fun q => by rw [q, e13] at hc; omega), eq_false (show ¬ c = (65534 : Int32) from fun q => by rw [q, e65534] at hc; omega), eq_false (show ¬ c = (65535 : Int32) from fun q => by rw [q, e65535] at hc; omega), eq_false (show ¬ c = (9 : Int32) from fun q => by rw [q, e9] at hc; omega), if_true, if_false]
  · simp only [eq_true (show (1114111 : Int32) < c from Int32.lt_iff_toInt_lt.mpr (by rw [e1114111]; omega)), eq_true (show (55295 : Int32) < c from Int32.lt_iff_toInt_lt.mpr (by rw [e55295]; omega)), eq_true (show (57343 : Int32) < c from Int32.lt_iff_toInt_lt.mpr (by rw [e57343]; omega)), eq_true (show (65533 : Int32) < c from Int32.lt_iff_toInt_lt.mpr (by rw [e65533]; omega)), eq_false (show ¬ c < (32 : Int32) from fun q => by rw [Int32.lt_iff_toInt_lt, e32] at q; omega), eq_false (show ¬ c < (55296 : Int32) from fun q => by rw [Int32.lt_iff_toInt_lt, e55296] at q; omega), eq_false (show ¬ c < (57344 : Int32) from fun q => by rw [Int32.lt_iff_toInt_lt, e57344] at q; omega), eq_false (show ¬ c < (65536 : Int32) from fun q => by rw [Int32.lt_iff_toInt_lt, e65536] at q; omega), eq_false (show ¬ c = (10 : Int32) from fun q => by rw [q, e10] at hc; omega), eq_false (show ¬ c = (13 : Int32) from fun q => by rw [q, e13] at hc; omega), eq_false (show ¬ c = (65534 : Int32) from fun q => by rw [q, e65534] at hc; omega), eq_false (show ¬ c = (65535 : Int32) from fun q => by rw [q, e65535] at hc; omega), eq_false (show ¬ c = (9 : Int32) from fun q => by rw [q, e9] at hc; omega), if_true, if_false]
/-- an int[] of 16 places, each with some int -/
def own_A (Z : State) (h : Heap) (a : Addr) : Prop := ∃ c : Cell, Arr Z h a c .int ∧ c.slots.size = 16 ∧ ∀ i, i < 16 → ∃ x : Int32, c.slots[i]? = some (.int x)
theorem own_A_new {Z : State} {h : Heap} {a : Addr} {k : ClassId} (F : Arv Z h a k .int 16 [] (defaultValue .int)) : own_A Z h a := by
  obtain ⟨c, A, -, S, -, H, -⟩ := F
  have S' : c.slots.size = 16 := S
  exact ⟨c, A, S', fun i hi => ⟨0, H i (by omega)⟩⟩
theorem own_A_set {Z : State} {h h' : Heap} {a : Addr} {j : Nat} {x : Int32} (F : own_A Z h a) (W : Wr h h' a j (.int x)) : own_A Z h' a := by
  obtain ⟨c, A, S, G⟩ := F
  refine ⟨c.setSlot j (.int x), A.same W, by rw [sz_set]; exact S, fun i hi => ?_⟩
  by_cases e : j = i
  · subst e; exact ⟨x, by simp [Cell.setSlot, S, hi]⟩
  · obtain ⟨y, hy⟩ := G i hi
    exact ⟨y, by simp only [Cell.setSlot]; rw [Array.getElem?_setIfInBounds_ne e]; exact hy⟩
theorem own_idx (x : Int32) : ¬ (((x &&& 2147483647) - (x &&& 2147483647) / 16 * 16) < 0 ∨ 16 ≤ ((x &&& 2147483647) - (x &&& 2147483647) / 16 * 16).toNatClampNeg) := by
  have h := Jvm.Kit.i32_mask x 2147483647 (k := 31) (by decide) (by decide)
  have e16 : (16 : Int32).toInt = 16 := by decide
  have e0 : (0 : Int32).toInt = 0 := by decide
  rw [Int32.lt_iff_toInt_lt, Int32.toNatClampNeg, rem_toInt, e16, e0, h, Int.tmod_eq_emod_of_nonneg (by omega)]
  omega
theorem pd_0 : parseMethodDescriptor "(I)Z" = some ⟨[.int], some .boolean⟩ := by decide +kernel
theorem pn_0 : plainName "com/example/crossgate/crossgate/XmlParserIsXmlCharacterPinLaw" = true := by first | (simp [plainName, overriddenIn]; done) | decide +kernel
theorem ef_0 (m : MethodId) (p0 : Int32) (p1 : Int32) (p2 : Int32) : entryFrame m #[(.int p0), (.int p1), (.int p2)] maxLocals = mkF m 0 #[.val (.int p0), .val (.int p1), .val (.int p2), .unset, .unset, .unset, .unset] [] := by first | (simp [entryFrame, mkF, argsToLocals, Value.category, maxLocals]; done) | rfl
set_option maxRecDepth 65536 in
set_option maxHeartbeats 40000000 in
theorem rm0 (l : Launch) (Z : State) (a0 : Array Value) (hw : ∀ d ∈ tables_1, d.before a0 Z = true) (ws : List Jvm.Cond) (p0 : Int32) (p1 : Int32) (p2 : Int32) (h0 : Heap) (n0 : Nat) (Z0 : n0 ≤ h0.size) :
    MetFree l x (head1 (Jvm.Cond.code x code maxLocals ret :: ws) room_1) (fun a U => a = #[(.int p0), (.int p1), (.int p2)] ∧ Z.Warmed39 U.vm ∧ U.heap = h0) (fun _ _ _ _ _ => True) (fun _ U o U' => ∃ v L, o = .returned v ∧ own_QL (.int 1) n0 v U'.heap L ∧ FrameEnd U o U' L room_1.cells room_1.slots) := by
  refine MetFree.of_bodySF (plainFor_of_name pn_0) hisR ?_
  intro p e s m args below meth c s₁ Bd hml0 hP hK
  obtain ⟨rfl, hZ, hh⟩ := hP
  have hx := Bd.exec
  have hby := Bd.bytes
  have hlk : meth.locks = false := BodyLoose.notSynchronized Bd
  have hret := Bd.returns
  have hml : c.maxLocals = 7 := hml0
  have hown : s.vm.findClass "com/example/crossgate/crossgate/XmlParserIsXmlCharacterPinLaw" = some m.cls := findClass_of_methodNamed Bd.named
  have hnm := (name_of_methodNamed Bd.named Bd.method).1
  have X0 : Stand p l e room_1 s m #[(.int p0), (.int p1), (.int p2)] below meth c s₁ [] 0 0 := Stand.of_body Bd
  have e0 : s₁.heap = h0 := by rw [← hh, Bd.state]; rfl
  have N0 := Fr.nil n0
  show own_G p.tables e below (own_E s room_1.cells room_1.slots) (own_QL (.int 1) n0) (s₁.setTop (entryFrame m #[(.int p0), (.int p1), (.int p2)] maxLocals))
  refine own_st ?_ (fun t k => castTop (ef_0 m p0 p1 p2) k)
  show own_G p.tables e below _ _ (s₁.setTop (mkF m 0 #[.val (.int p0), .val (.int p1), .val (.int p2), .unset, .unset, .unset, .unset] []))
  refine own_st ?_ (fun t k => XS.bipush X0.here hx rfl (hb hby at_0) k)
  show own_G p.tables e below _ _ (s₁.setTop (mkF m 2 #[.val (.int p0), .val (.int p1), .val (.int p2), .unset, .unset, .unset, .unset] [(.int (16 : Int32))]))
  obtain ⟨T1, h1, k1, X1, e1, E1, A1, st1⟩ := newP X0 hx hZ (hw _ (List.mem_of_getElem? (i := 0) rfl)) e0 (g := (mkF m 2 #[.val (.int p0), .val (.int p1), .val (.int p2), .unset, .unset, .unset, .unset] [(.int (16 : Int32))])) rfl (hb hby at_2) rfl (by decide) (cap := 16) (by decide) (by decide) (by decide) (by decide)
  obtain ⟨b1, gz1⟩ : ∃ z, z = h0.size := ⟨_, rfl⟩
  rw [← gz1] at A1 st1
  have g_b1 : n0 ≤ b1 := Nat.le_trans Z0 (Nat.le_of_eq gz1.symm)
  have Zs2 : n0 ≤ h1.size := Nat.le_trans Z0 E1.1
  have F_b1 : own_A Z h1 b1 := own_A_new (Arv.new A1 (by decide))
  refine own_st ?_ st1
  show own_G p.tables e below _ _ (T1.setTop (mkF m 4 #[.val (.int p0), .val (.int p1), .val (.int p2), .unset, .unset, .unset, .unset] [(.ref b1)]))
  refine own_st ?_ (fun t k => XS.dup X1.here hx rfl (hb hby at_4) rfl rfl k)
  show own_G p.tables e below _ _ (T1.setTop (mkF m 5 #[.val (.int p0), .val (.int p1), .val (.int p2), .unset, .unset, .unset, .unset] [(.ref b1), (.ref b1)]))
  refine own_st ?_ (fun t k => XS.iconst X1.here hx rfl (hb hby at_5) k)
  show own_G p.tables e below _ _ (T1.setTop (mkF m 6 #[.val (.int p0), .val (.int p1), .val (.int p2), .unset, .unset, .unset, .unset] [(.int (0 : Int32)), (.ref b1), (.ref b1)]))
  refine own_st ?_ (fun t k => XS.iconst X1.here hx rfl (hb hby at_6) k)
  show own_G p.tables e below _ _ (T1.setTop (mkF m 7 #[.val (.int p0), .val (.int p1), .val (.int p2), .unset, .unset, .unset, .unset] [(.int (0 : Int32)), (.int (0 : Int32)), (.ref b1), (.ref b1)]))
  obtain ⟨cl3, Ar3, S3, G3⟩ := F_b1
  have hin3 : ¬ ((0 : Int32) < 0 ∨ cl3.slots.size ≤ ((0 : Int32)).toNatClampNeg) := by rw [S3]; decide
  obtain ⟨T3, h3, X3, e3, W3, st3⟩ := stI X1 hx hZ e1 Ar3 (j := (0 : Int32)) hin3 (g := (mkF m 7 #[.val (.int p0), .val (.int p1), .val (.int p2), .unset, .unset, .unset, .unset] [(.int (0 : Int32)), (.int (0 : Int32)), (.ref b1), (.ref b1)])) rfl rfl (hb hby at_7)
  have N3 := Fr.snoc X3 N0 g_b1
  have Zs4 : n0 ≤ h3.size := Nat.le_trans Zs2 (Keep.of_wr W3).1
  have F3 : own_A Z h3 b1 := own_A_set ⟨cl3, Ar3, S3, G3⟩ W3
  refine own_st ?_ st3
  show own_G p.tables e below _ _ (T3.setTop (mkF m 8 #[.val (.int p0), .val (.int p1), .val (.int p2), .unset, .unset, .unset, .unset] [(.ref b1)]))
  refine own_st ?_ (fun t k => XS.dup X3.here hx rfl (hb hby at_8) rfl rfl k)
  show own_G p.tables e below _ _ (T3.setTop (mkF m 9 #[.val (.int p0), .val (.int p1), .val (.int p2), .unset, .unset, .unset, .unset] [(.ref b1), (.ref b1)]))
  refine own_st ?_ (fun t k => XS.iconst X3.here hx rfl (hb hby at_9) k)
  show own_G p.tables e below _ _ (T3.setTop (mkF m 10 #[.val (.int p0), .val (.int p1), .val (.int p2), .unset, .unset, .unset, .unset] [(.int (1 : Int32)), (.ref b1), (.ref b1)]))
  refine own_st ?_ (fun t k => XS.bipush X3.here hx rfl (hb hby at_10) k)
  show own_G p.tables e below _ _ (T3.setTop (mkF m 12 #[.val (.int p0), .val (.int p1), .val (.int p2), .unset, .unset, .unset, .unset] [(.int (9 : Int32)), (.int (1 : Int32)), (.ref b1), (.ref b1)]))
  obtain ⟨cl5, Ar5, S5, G5⟩ := F3
  have hin5 : ¬ ((1 : Int32) < 0 ∨ cl5.slots.size ≤ ((1 : Int32)).toNatClampNeg) := by rw [S5]; decide
  obtain ⟨T5, h5, X5, e5, W5, st5⟩ := stI X3 hx hZ e3 Ar5 (j := (1 : Int32)) hin5 (g := (mkF m 12 #[.val (.int p0), .val (.int p1), .val (.int p2), .unset, .unset, .unset, .unset] [(.int (9 : Int32)), (.int (1 : Int32)), (.ref b1), (.ref b1)])) rfl rfl (hb hby at_12)
  have N5 := Fr.snoc X5 N3 g_b1
  have Zs6 : n0 ≤ h5.size := Nat.le_trans Zs4 (Keep.of_wr W5).1
  have F5 : own_A Z h5 b1 := own_A_set ⟨cl5, Ar5, S5, G5⟩ W5
  refine own_st ?_ st5
  show own_G p.tables e below _ _ (T5.setTop (mkF m 13 #[.val (.int p0), .val (.int p1), .val (.int p2), .unset, .unset, .unset, .unset] [(.ref b1)]))
  refine own_st ?_ (fun t k => XS.dup X5.here hx rfl (hb hby at_13) rfl rfl k)
  show own_G p.tables e below _ _ (T5.setTop (mkF m 14 #[.val (.int p0), .val (.int p1), .val (.int p2), .unset, .unset, .unset, .unset] [(.ref b1), (.ref b1)]))
  refine own_st ?_ (fun t k => XS.iconst X5.here hx rfl (hb hby at_14) k)
  show own_G p.tables e below _ _ (T5.setTop (mkF m 15 #[.val (.int p0), .val (.int p1), .val (.int p2), .unset, .unset, .unset, .unset] [(.int (2 : Int32)), (.ref b1), (.ref b1)]))
  refine own_st ?_ (fun t k => XS.bipush X5.here hx rfl (hb hby at_15) k)
  show own_G p.tables e below _ _ (T5.setTop (mkF m 17 #[.val (.int p0), .val (.int p1), .val (.int p2), .unset, .unset, .unset, .unset] [(.int (10 : Int32)), (.int (2 : Int32)), (.ref b1), (.ref b1)]))
  obtain ⟨cl7, Ar7, S7, G7⟩ := F5
  have hin7 : ¬ ((2 : Int32) < 0 ∨ cl7.slots.size ≤ ((2 : Int32)).toNatClampNeg) := by rw [S7]; decide
  obtain ⟨T7, h7, X7, e7, W7, st7⟩ := stI X5 hx hZ e5 Ar7 (j := (2 : Int32)) hin7 (g := (mkF m 17 #[.val (.int p0), .val (.int p1), .val (.int p2), .unset, .unset, .unset, .unset] [(.int (10 : Int32)), (.int (2 : Int32)), (.ref b1), (.ref b1)])) rfl rfl (hb hby at_17)
  have N7 := Fr.snoc X7 N5 g_b1
  have Zs8 : n0 ≤ h7.size := Nat.le_trans Zs6 (Keep.of_wr W7).1
  have F7 : own_A Z h7 b1 := own_A_set ⟨cl7, Ar7, S7, G7⟩ W7
  refine own_st ?_ st7
  show own_G p.tables e below _ _ (T7.setTop (mkF m 18 #[.val (.int p0), .val (.int p1), .val (.int p2), .unset, .unset, .unset, .unset] [(.ref b1)]))
  refine own_st ?_ (fun t k => XS.dup X7.here hx rfl (hb hby at_18) rfl rfl k)
  show own_G p.tables e below _ _ (T7.setTop (mkF m 19 #[.val (.int p0), .val (.int p1), .val (.int p2), .unset, .unset, .unset, .unset] [(.ref b1), (.ref b1)]))
  refine own_st ?_ (fun t k => XS.iconst X7.here hx rfl (hb hby at_19) k)
  show own_G p.tables e below _ _ (T7.setTop (mkF m 20 #[.val (.int p0), .val (.int p1), .val (.int p2), .unset, .unset, .unset, .unset] [(.int (3 : Int32)), (.ref b1), (.ref b1)]))
  refine own_st ?_ (fun t k => XS.bipush X7.here hx rfl (hb hby at_20) k)
  show own_G p.tables e below _ _ (T7.setTop (mkF m 22 #[.val (.int p0), .val (.int p1), .val (.int p2), .unset, .unset, .unset, .unset] [(.int (13 : Int32)), (.int (3 : Int32)), (.ref b1), (.ref b1)]))
  obtain ⟨cl9, Ar9, S9, G9⟩ := F7
  have hin9 : ¬ ((3 : Int32) < 0 ∨ cl9.slots.size ≤ ((3 : Int32)).toNatClampNeg) := by rw [S9]; decide
  obtain ⟨T9, h9, X9, e9, W9, st9⟩ := stI X7 hx hZ e7 Ar9 (j := (3 : Int32)) hin9 (g := (mkF m 22 #[.val (.int p0), .val (.int p1), .val (.int p2), .unset, .unset, .unset, .unset] [(.int (13 : Int32)), (.int (3 : Int32)), (.ref b1), (.ref b1)])) rfl rfl (hb hby at_22)
  have N9 := Fr.snoc X9 N7 g_b1
  have Zs10 : n0 ≤ h9.size := Nat.le_trans Zs8 (Keep.of_wr W9).1
  have F9 : own_A Z h9 b1 := own_A_set ⟨cl9, Ar9, S9, G9⟩ W9
  refine own_st ?_ st9
  show own_G p.tables e below _ _ (T9.setTop (mkF m 23 #[.val (.int p0), .val (.int p1), .val (.int p2), .unset, .unset, .unset, .unset] [(.ref b1)]))
  refine own_st ?_ (fun t k => XS.dup X9.here hx rfl (hb hby at_23) rfl rfl k)
  show own_G p.tables e below _ _ (T9.setTop (mkF m 24 #[.val (.int p0), .val (.int p1), .val (.int p2), .unset, .unset, .unset, .unset] [(.ref b1), (.ref b1)]))
  refine own_st ?_ (fun t k => XS.iconst X9.here hx rfl (hb hby at_24) k)
  show own_G p.tables e below _ _ (T9.setTop (mkF m 25 #[.val (.int p0), .val (.int p1), .val (.int p2), .unset, .unset, .unset, .unset] [(.int (4 : Int32)), (.ref b1), (.ref b1)]))
  refine own_st ?_ (fun t k => XS.bipush X9.here hx rfl (hb hby at_25) k)
  show own_G p.tables e below _ _ (T9.setTop (mkF m 27 #[.val (.int p0), .val (.int p1), .val (.int p2), .unset, .unset, .unset, .unset] [(.int (32 : Int32)), (.int (4 : Int32)), (.ref b1), (.ref b1)]))
  obtain ⟨cl11, Ar11, S11, G11⟩ := F9
  have hin11 : ¬ ((4 : Int32) < 0 ∨ cl11.slots.size ≤ ((4 : Int32)).toNatClampNeg) := by rw [S11]; decide
  obtain ⟨T11, h11, X11, e11, W11, st11⟩ := stI X9 hx hZ e9 Ar11 (j := (4 : Int32)) hin11 (g := (mkF m 27 #[.val (.int p0), .val (.int p1), .val (.int p2), .unset, .unset, .unset, .unset] [(.int (32 : Int32)), (.int (4 : Int32)), (.ref b1), (.ref b1)])) rfl rfl (hb hby at_27)
  have N11 := Fr.snoc X11 N9 g_b1
  have Zs12 : n0 ≤ h11.size := Nat.le_trans Zs10 (Keep.of_wr W11).1
  have F11 : own_A Z h11 b1 := own_A_set ⟨cl11, Ar11, S11, G11⟩ W11
  refine own_st ?_ st11
  show own_G p.tables e below _ _ (T11.setTop (mkF m 28 #[.val (.int p0), .val (.int p1), .val (.int p2), .unset, .unset, .unset, .unset] [(.ref b1)]))
  refine own_st ?_ (fun t k => XS.dup X11.here hx rfl (hb hby at_28) rfl rfl k)
  show own_G p.tables e below _ _ (T11.setTop (mkF m 29 #[.val (.int p0), .val (.int p1), .val (.int p2), .unset, .unset, .unset, .unset] [(.ref b1), (.ref b1)]))
  refine own_st ?_ (fun t k => XS.iconst X11.here hx rfl (hb hby at_29) k)
  show own_G p.tables e below _ _ (T11.setTop (mkF m 30 #[.val (.int p0), .val (.int p1), .val (.int p2), .unset, .unset, .unset, .unset] [(.int (5 : Int32)), (.ref b1), (.ref b1)]))
  refine own_st ?_ (X11.ldcInt hx hown (mvT hZ (hw _ (List.mem_of_getElem? (i := 1) rfl))) (g := (mkF m 30 #[.val (.int p0), .val (.int p1), .val (.int p2), .unset, .unset, .unset, .unset] [(.int (5 : Int32)), (.ref b1), (.ref b1)])) rfl (hb hby at_30))
  show own_G p.tables e below _ _ (T11.setTop (mkF m 32 #[.val (.int p0), .val (.int p1), .val (.int p2), .unset, .unset, .unset, .unset] [(.int (55295 : Int32)), (.int (5 : Int32)), (.ref b1), (.ref b1)]))
  obtain ⟨cl13, Ar13, S13, G13⟩ := F11
  have hin13 : ¬ ((5 : Int32) < 0 ∨ cl13.slots.size ≤ ((5 : Int32)).toNatClampNeg) := by rw [S13]; decide
  obtain ⟨T13, h13, X13, e13, W13, st13⟩ := stI X11 hx hZ e11 Ar13 (j := (5 : Int32)) hin13 (g := (mkF m 32 #[.val (.int p0), .val (.int p1), .val (.int p2), .unset, .unset, .unset, .unset] [(.int (55295 : Int32)), (.int (5 : Int32)), (.ref b1), (.ref b1)])) rfl rfl (hb hby at_32)
  have N13 := Fr.snoc X13 N11 g_b1
  have Zs14 : n0 ≤ h13.size := Nat.le_trans Zs12 (Keep.of_wr W13).1
  have F13 : own_A Z h13 b1 := own_A_set ⟨cl13, Ar13, S13, G13⟩ W13
  refine own_st ?_ st13
  show own_G p.tables e below _ _ (T13.setTop (mkF m 33 #[.val (.int p0), .val (.int p1), .val (.int p2), .unset, .unset, .unset, .unset] [(.ref b1)]))
  refine own_st ?_ (fun t k => XS.dup X13.here hx rfl (hb hby at_33) rfl rfl k)
  show own_G p.tables e below _ _ (T13.setTop (mkF m 34 #[.val (.int p0), .val (.int p1), .val (.int p2), .unset, .unset, .unset, .unset] [(.ref b1), (.ref b1)]))
  refine own_st ?_ (fun t k => XS.bipush X13.here hx rfl (hb hby at_34) k)
  show own_G p.tables e below _ _ (T13.setTop (mkF m 36 #[.val (.int p0), .val (.int p1), .val (.int p2), .unset, .unset, .unset, .unset] [(.int (6 : Int32)), (.ref b1), (.ref b1)]))
  refine own_st ?_ (X13.ldcInt hx hown (mvT hZ (hw _ (List.mem_of_getElem? (i := 2) rfl))) (g := (mkF m 36 #[.val (.int p0), .val (.int p1), .val (.int p2), .unset, .unset, .unset, .unset] [(.int (6 : Int32)), (.ref b1), (.ref b1)])) rfl (hb hby at_36))
  show own_G p.tables e below _ _ (T13.setTop (mkF m 38 #[.val (.int p0), .val (.int p1), .val (.int p2), .unset, .unset, .unset, .unset] [(.int (55296 : Int32)), (.int (6 : Int32)), (.ref b1), (.ref b1)]))
  obtain ⟨cl15, Ar15, S15, G15⟩ := F13
  have hin15 : ¬ ((6 : Int32) < 0 ∨ cl15.slots.size ≤ ((6 : Int32)).toNatClampNeg) := by rw [S15]; decide
  obtain ⟨T15, h15, X15, e15, W15, st15⟩ := stI X13 hx hZ e13 Ar15 (j := (6 : Int32)) hin15 (g := (mkF m 38 #[.val (.int p0), .val (.int p1), .val (.int p2), .unset, .unset, .unset, .unset] [(.int (55296 : Int32)), (.int (6 : Int32)), (.ref b1), (.ref b1)])) rfl rfl (hb hby at_38)
  have N15 := Fr.snoc X15 N13 g_b1
  have Zs16 : n0 ≤ h15.size := Nat.le_trans Zs14 (Keep.of_wr W15).1
  have F15 : own_A Z h15 b1 := own_A_set ⟨cl15, Ar15, S15, G15⟩ W15
  refine own_st ?_ st15
  show own_G p.tables e below _ _ (T15.setTop (mkF m 39 #[.val (.int p0), .val (.int p1), .val (.int p2), .unset, .unset, .unset, .unset] [(.ref b1)]))
  refine own_st ?_ (fun t k => XS.dup X15.here hx rfl (hb hby at_39) rfl rfl k)
  show own_G p.tables e below _ _ (T15.setTop (mkF m 40 #[.val (.int p0), .val (.int p1), .val (.int p2), .unset, .unset, .unset, .unset] [(.ref b1), (.ref b1)]))
  refine own_st ?_ (fun t k => XS.bipush X15.here hx rfl (hb hby at_40) k)
  show own_G p.tables e below _ _ (T15.setTop (mkF m 42 #[.val (.int p0), .val (.int p1), .val (.int p2), .unset, .unset, .unset, .unset] [(.int (7 : Int32)), (.ref b1), (.ref b1)]))
  refine own_st ?_ (X15.ldcInt hx hown (mvT hZ (hw _ (List.mem_of_getElem? (i := 3) rfl))) (g := (mkF m 42 #[.val (.int p0), .val (.int p1), .val (.int p2), .unset, .unset, .unset, .unset] [(.int (7 : Int32)), (.ref b1), (.ref b1)])) rfl (hb hby at_42))
  show own_G p.tables e below _ _ (T15.setTop (mkF m 44 #[.val (.int p0), .val (.int p1), .val (.int p2), .unset, .unset, .unset, .unset] [(.int (57343 : Int32)), (.int (7 : Int32)), (.ref b1), (.ref b1)]))
  obtain ⟨cl17, Ar17, S17, G17⟩ := F15
  have hin17 : ¬ ((7 : Int32) < 0 ∨ cl17.slots.size ≤ ((7 : Int32)).toNatClampNeg) := by rw [S17]; decide
  obtain ⟨T17, h17, X17, e17, W17, st17⟩ := stI X15 hx hZ e15 Ar17 (j := (7 : Int32)) hin17 (g := (mkF m 44 #[.val (.int p0), .val (.int p1), .val (.int p2), .unset, .unset, .unset, .unset] [(.int (57343 : Int32)), (.int (7 : Int32)), (.ref b1), (.ref b1)])) rfl rfl (hb hby at_44)
  have N17 := Fr.snoc X17 N15 g_b1
  have Zs18 : n0 ≤ h17.size := Nat.le_trans Zs16 (Keep.of_wr W17).1
  have F17 : own_A Z h17 b1 := own_A_set ⟨cl17, Ar17, S17, G17⟩ W17
  refine own_st ?_ st17
  show own_G p.tables e below _ _ (T17.setTop (mkF m 45 #[.val (.int p0), .val (.int p1), .val (.int p2), .unset, .unset, .unset, .unset] [(.ref b1)]))
  refine own_st ?_ (fun t k => XS.dup X17.here hx rfl (hb hby at_45) rfl rfl k)
  show own_G p.tables e below _ _ (T17.setTop (mkF m 46 #[.val (.int p0), .val (.int p1), .val (.int p2), .unset, .unset, .unset, .unset] [(.ref b1), (.ref b1)]))
  refine own_st ?_ (fun t k => XS.bipush X17.here hx rfl (hb hby at_46) k)
  show own_G p.tables e below _ _ (T17.setTop (mkF m 48 #[.val (.int p0), .val (.int p1), .val (.int p2), .unset, .unset, .unset, .unset] [(.int (8 : Int32)), (.ref b1), (.ref b1)]))
  refine own_st ?_ (X17.ldcInt hx hown (mvT hZ (hw _ (List.mem_of_getElem? (i := 4) rfl))) (g := (mkF m 48 #[.val (.int p0), .val (.int p1), .val (.int p2), .unset, .unset, .unset, .unset] [(.int (8 : Int32)), (.ref b1), (.ref b1)])) rfl (hb hby at_48))
  show own_G p.tables e below _ _ (T17.setTop (mkF m 50 #[.val (.int p0), .val (.int p1), .val (.int p2), .unset, .unset, .unset, .unset] [(.int (57344 : Int32)), (.int (8 : Int32)), (.ref b1), (.ref b1)]))
  obtain ⟨cl19, Ar19, S19, G19⟩ := F17
  have hin19 : ¬ ((8 : Int32) < 0 ∨ cl19.slots.size ≤ ((8 : Int32)).toNatClampNeg) := by rw [S19]; decide
  obtain ⟨T19, h19, X19, e19, W19, st19⟩ := stI X17 hx hZ e17 Ar19 (j := (8 : Int32)) hin19 (g := (mkF m 50 #[.val (.int p0), .val (.int p1), .val (.int p2), .unset, .unset, .unset, .unset] [(.int (57344 : Int32)), (.int (8 : Int32)), (.ref b1), (.ref b1)])) rfl rfl (hb hby at_50)
  have N19 := Fr.snoc X19 N17 g_b1
  have Zs20 : n0 ≤ h19.size := Nat.le_trans Zs18 (Keep.of_wr W19).1
  have F19 : own_A Z h19 b1 := own_A_set ⟨cl19, Ar19, S19, G19⟩ W19
  refine own_st ?_ st19
  show own_G p.tables e below _ _ (T19.setTop (mkF m 51 #[.val (.int p0), .val (.int p1), .val (.int p2), .unset, .unset, .unset, .unset] [(.ref b1)]))
  refine own_st ?_ (fun t k => XS.dup X19.here hx rfl (hb hby at_51) rfl rfl k)
  show own_G p.tables e below _ _ (T19.setTop (mkF m 52 #[.val (.int p0), .val (.int p1), .val (.int p2), .unset, .unset, .unset, .unset] [(.ref b1), (.ref b1)]))
  refine own_st ?_ (fun t k => XS.bipush X19.here hx rfl (hb hby at_52) k)
  show own_G p.tables e below _ _ (T19.setTop (mkF m 54 #[.val (.int p0), .val (.int p1), .val (.int p2), .unset, .unset, .unset, .unset] [(.int (9 : Int32)), (.ref b1), (.ref b1)]))
  refine own_st ?_ (X19.ldcInt hx hown (mvT hZ (hw _ (List.mem_of_getElem? (i := 5) rfl))) (g := (mkF m 54 #[.val (.int p0), .val (.int p1), .val (.int p2), .unset, .unset, .unset, .unset] [(.int (9 : Int32)), (.ref b1), (.ref b1)])) rfl (hb hby at_54))
  show own_G p.tables e below _ _ (T19.setTop (mkF m 56 #[.val (.int p0), .val (.int p1), .val (.int p2), .unset, .unset, .unset, .unset] [(.int (65533 : Int32)), (.int (9 : Int32)), (.ref b1), (.ref b1)]))
  obtain ⟨cl21, Ar21, S21, G21⟩ := F19
  have hin21 : ¬ ((9 : Int32) < 0 ∨ cl21.slots.size ≤ ((9 : Int32)).toNatClampNeg) := by rw [S21]; decide
  obtain ⟨T21, h21, X21, e21, W21, st21⟩ := stI X19 hx hZ e19 Ar21 (j := (9 : Int32)) hin21 (g := (mkF m 56 #[.val (.int p0), .val (.int p1), .val (.int p2), .unset, .unset, .unset, .unset] [(.int (65533 : Int32)), (.int (9 : Int32)), (.ref b1), (.ref b1)])) rfl rfl (hb hby at_56)
  have N21 := Fr.snoc X21 N19 g_b1
  have Zs22 : n0 ≤ h21.size := Nat.le_trans Zs20 (Keep.of_wr W21).1
  have F21 : own_A Z h21 b1 := own_A_set ⟨cl21, Ar21, S21, G21⟩ W21
  refine own_st ?_ st21
  show own_G p.tables e below _ _ (T21.setTop (mkF m 57 #[.val (.int p0), .val (.int p1), .val (.int p2), .unset, .unset, .unset, .unset] [(.ref b1)]))
  refine own_st ?_ (fun t k => XS.dup X21.here hx rfl (hb hby at_57) rfl rfl k)
  show own_G p.tables e below _ _ (T21.setTop (mkF m 58 #[.val (.int p0), .val (.int p1), .val (.int p2), .unset, .unset, .unset, .unset] [(.ref b1), (.ref b1)]))
  refine own_st ?_ (fun t k => XS.bipush X21.here hx rfl (hb hby at_58) k)
  show own_G p.tables e below _ _ (T21.setTop (mkF m 60 #[.val (.int p0), .val (.int p1), .val (.int p2), .unset, .unset, .unset, .unset] [(.int (10 : Int32)), (.ref b1), (.ref b1)]))
  refine own_st ?_ (X21.ldcInt hx hown (mvT hZ (hw _ (List.mem_of_getElem? (i := 6) rfl))) (g := (mkF m 60 #[.val (.int p0), .val (.int p1), .val (.int p2), .unset, .unset, .unset, .unset] [(.int (10 : Int32)), (.ref b1), (.ref b1)])) rfl (hb hby at_60))
  show own_G p.tables e below _ _ (T21.setTop (mkF m 62 #[.val (.int p0), .val (.int p1), .val (.int p2), .unset, .unset, .unset, .unset] [(.int (65534 : Int32)), (.int (10 : Int32)), (.ref b1), (.ref b1)]))
  obtain ⟨cl23, Ar23, S23, G23⟩ := F21
  have hin23 : ¬ ((10 : Int32) < 0 ∨ cl23.slots.size ≤ ((10 : Int32)).toNatClampNeg) := by rw [S23]; decide
  obtain ⟨T23, h23, X23, e23, W23, st23⟩ := stI X21 hx hZ e21 Ar23 (j := (10 : Int32)) hin23 (g := (mkF m 62 #[.val (.int p0), .val (.int p1), .val (.int p2), .unset, .unset, .unset, .unset] [(.int (65534 : Int32)), (.int (10 : Int32)), (.ref b1), (.ref b1)])) rfl rfl (hb hby at_62)
  have N23 := Fr.snoc X23 N21 g_b1
  have Zs24 : n0 ≤ h23.size := Nat.le_trans Zs22 (Keep.of_wr W23).1
  have F23 : own_A Z h23 b1 := own_A_set ⟨cl23, Ar23, S23, G23⟩ W23
  refine own_st ?_ st23
  show own_G p.tables e below _ _ (T23.setTop (mkF m 63 #[.val (.int p0), .val (.int p1), .val (.int p2), .unset, .unset, .unset, .unset] [(.ref b1)]))
  refine own_st ?_ (fun t k => XS.dup X23.here hx rfl (hb hby at_63) rfl rfl k)
  show own_G p.tables e below _ _ (T23.setTop (mkF m 64 #[.val (.int p0), .val (.int p1), .val (.int p2), .unset, .unset, .unset, .unset] [(.ref b1), (.ref b1)]))
  refine own_st ?_ (fun t k => XS.bipush X23.here hx rfl (hb hby at_64) k)
  show own_G p.tables e below _ _ (T23.setTop (mkF m 66 #[.val (.int p0), .val (.int p1), .val (.int p2), .unset, .unset, .unset, .unset] [(.int (11 : Int32)), (.ref b1), (.ref b1)]))
  refine own_st ?_ (X23.ldcInt hx hown (mvT hZ (hw _ (List.mem_of_getElem? (i := 7) rfl))) (g := (mkF m 66 #[.val (.int p0), .val (.int p1), .val (.int p2), .unset, .unset, .unset, .unset] [(.int (11 : Int32)), (.ref b1), (.ref b1)])) rfl (hb hby at_66))
  show own_G p.tables e below _ _ (T23.setTop (mkF m 68 #[.val (.int p0), .val (.int p1), .val (.int p2), .unset, .unset, .unset, .unset] [(.int (65535 : Int32)), (.int (11 : Int32)), (.ref b1), (.ref b1)]))
  obtain ⟨cl25, Ar25, S25, G25⟩ := F23
  have hin25 : ¬ ((11 : Int32) < 0 ∨ cl25.slots.size ≤ ((11 : Int32)).toNatClampNeg) := by rw [S25]; decide
  obtain ⟨T25, h25, X25, e25, W25, st25⟩ := stI X23 hx hZ e23 Ar25 (j := (11 : Int32)) hin25 (g := (mkF m 68 #[.val (.int p0), .val (.int p1), .val (.int p2), .unset, .unset, .unset, .unset] [(.int (65535 : Int32)), (.int (11 : Int32)), (.ref b1), (.ref b1)])) rfl rfl (hb hby at_68)
  have N25 := Fr.snoc X25 N23 g_b1
  have Zs26 : n0 ≤ h25.size := Nat.le_trans Zs24 (Keep.of_wr W25).1
  have F25 : own_A Z h25 b1 := own_A_set ⟨cl25, Ar25, S25, G25⟩ W25
  refine own_st ?_ st25
  show own_G p.tables e below _ _ (T25.setTop (mkF m 69 #[.val (.int p0), .val (.int p1), .val (.int p2), .unset, .unset, .unset, .unset] [(.ref b1)]))
  refine own_st ?_ (fun t k => XS.dup X25.here hx rfl (hb hby at_69) rfl rfl k)
  show own_G p.tables e below _ _ (T25.setTop (mkF m 70 #[.val (.int p0), .val (.int p1), .val (.int p2), .unset, .unset, .unset, .unset] [(.ref b1), (.ref b1)]))
  refine own_st ?_ (fun t k => XS.bipush X25.here hx rfl (hb hby at_70) k)
  show own_G p.tables e below _ _ (T25.setTop (mkF m 72 #[.val (.int p0), .val (.int p1), .val (.int p2), .unset, .unset, .unset, .unset] [(.int (12 : Int32)), (.ref b1), (.ref b1)]))
  refine own_st ?_ (X25.ldcInt hx hown (mvT hZ (hw _ (List.mem_of_getElem? (i := 8) rfl))) (g := (mkF m 72 #[.val (.int p0), .val (.int p1), .val (.int p2), .unset, .unset, .unset, .unset] [(.int (12 : Int32)), (.ref b1), (.ref b1)])) rfl (hb hby at_72))
  show own_G p.tables e below _ _ (T25.setTop (mkF m 74 #[.val (.int p0), .val (.int p1), .val (.int p2), .unset, .unset, .unset, .unset] [(.int (65536 : Int32)), (.int (12 : Int32)), (.ref b1), (.ref b1)]))
  obtain ⟨cl27, Ar27, S27, G27⟩ := F25
  have hin27 : ¬ ((12 : Int32) < 0 ∨ cl27.slots.size ≤ ((12 : Int32)).toNatClampNeg) := by rw [S27]; decide
  obtain ⟨T27, h27, X27, e27, W27, st27⟩ := stI X25 hx hZ e25 Ar27 (j := (12 : Int32)) hin27 (g := (mkF m 74 #[.val (.int p0), .val (.int p1), .val (.int p2), .unset, .unset, .unset, .unset] [(.int (65536 : Int32)), (.int (12 : Int32)), (.ref b1), (.ref b1)])) rfl rfl (hb hby at_74)
  have N27 := Fr.snoc X27 N25 g_b1
  have Zs28 : n0 ≤ h27.size := Nat.le_trans Zs26 (Keep.of_wr W27).1
  have F27 : own_A Z h27 b1 := own_A_set ⟨cl27, Ar27, S27, G27⟩ W27
  refine own_st ?_ st27
  show own_G p.tables e below _ _ (T27.setTop (mkF m 75 #[.val (.int p0), .val (.int p1), .val (.int p2), .unset, .unset, .unset, .unset] [(.ref b1)]))
  refine own_st ?_ (fun t k => XS.dup X27.here hx rfl (hb hby at_75) rfl rfl k)
  show own_G p.tables e below _ _ (T27.setTop (mkF m 76 #[.val (.int p0), .val (.int p1), .val (.int p2), .unset, .unset, .unset, .unset] [(.ref b1), (.ref b1)]))
  refine own_st ?_ (fun t k => XS.bipush X27.here hx rfl (hb hby at_76) k)
  show own_G p.tables e below _ _ (T27.setTop (mkF m 78 #[.val (.int p0), .val (.int p1), .val (.int p2), .unset, .unset, .unset, .unset] [(.int (13 : Int32)), (.ref b1), (.ref b1)]))
  refine own_st ?_ (X27.ldcInt hx hown (mvT hZ (hw _ (List.mem_of_getElem? (i := 9) rfl))) (g := (mkF m 78 #[.val (.int p0), .val (.int p1), .val (.int p2), .unset, .unset, .unset, .unset] [(.int (13 : Int32)), (.ref b1), (.ref b1)])) rfl (hb hby at_78))
  show own_G p.tables e below _ _ (T27.setTop (mkF m 80 #[.val (.int p0), .val (.int p1), .val (.int p2), .unset, .unset, .unset, .unset] [(.int (1114111 : Int32)), (.int (13 : Int32)), (.ref b1), (.ref b1)]))
  obtain ⟨cl29, Ar29, S29, G29⟩ := F27
  have hin29 : ¬ ((13 : Int32) < 0 ∨ cl29.slots.size ≤ ((13 : Int32)).toNatClampNeg) := by rw [S29]; decide
  obtain ⟨T29, h29, X29, e29, W29, st29⟩ := stI X27 hx hZ e27 Ar29 (j := (13 : Int32)) hin29 (g := (mkF m 80 #[.val (.int p0), .val (.int p1), .val (.int p2), .unset, .unset, .unset, .unset] [(.int (1114111 : Int32)), (.int (13 : Int32)), (.ref b1), (.ref b1)])) rfl rfl (hb hby at_80)
  have N29 := Fr.snoc X29 N27 g_b1
  have Zs30 : n0 ≤ h29.size := Nat.le_trans Zs28 (Keep.of_wr W29).1
  have F29 : own_A Z h29 b1 := own_A_set ⟨cl29, Ar29, S29, G29⟩ W29
  refine own_st ?_ st29
  show own_G p.tables e below _ _ (T29.setTop (mkF m 81 #[.val (.int p0), .val (.int p1), .val (.int p2), .unset, .unset, .unset, .unset] [(.ref b1)]))
  refine own_st ?_ (fun t k => XS.dup X29.here hx rfl (hb hby at_81) rfl rfl k)
  show own_G p.tables e below _ _ (T29.setTop (mkF m 82 #[.val (.int p0), .val (.int p1), .val (.int p2), .unset, .unset, .unset, .unset] [(.ref b1), (.ref b1)]))
  refine own_st ?_ (fun t k => XS.bipush X29.here hx rfl (hb hby at_82) k)
  show own_G p.tables e below _ _ (T29.setTop (mkF m 84 #[.val (.int p0), .val (.int p1), .val (.int p2), .unset, .unset, .unset, .unset] [(.int (14 : Int32)), (.ref b1), (.ref b1)]))
  refine own_st ?_ (X29.ldcInt hx hown (mvT hZ (hw _ (List.mem_of_getElem? (i := 10) rfl))) (g := (mkF m 84 #[.val (.int p0), .val (.int p1), .val (.int p2), .unset, .unset, .unset, .unset] [(.int (14 : Int32)), (.ref b1), (.ref b1)])) rfl (hb hby at_84))
  show own_G p.tables e below _ _ (T29.setTop (mkF m 86 #[.val (.int p0), .val (.int p1), .val (.int p2), .unset, .unset, .unset, .unset] [(.int (-2147483648 : Int32)), (.int (14 : Int32)), (.ref b1), (.ref b1)]))
  obtain ⟨cl31, Ar31, S31, G31⟩ := F29
  have hin31 : ¬ ((14 : Int32) < 0 ∨ cl31.slots.size ≤ ((14 : Int32)).toNatClampNeg) := by rw [S31]; decide
  obtain ⟨T31, h31, X31, e31, W31, st31⟩ := stI X29 hx hZ e29 Ar31 (j := (14 : Int32)) hin31 (g := (mkF m 86 #[.val (.int p0), .val (.int p1), .val (.int p2), .unset, .unset, .unset, .unset] [(.int (-2147483648 : Int32)), (.int (14 : Int32)), (.ref b1), (.ref b1)])) rfl rfl (hb hby at_86)
  have N31 := Fr.snoc X31 N29 g_b1
  have Zs32 : n0 ≤ h31.size := Nat.le_trans Zs30 (Keep.of_wr W31).1
  have F31 : own_A Z h31 b1 := own_A_set ⟨cl31, Ar31, S31, G31⟩ W31
  refine own_st ?_ st31
  show own_G p.tables e below _ _ (T31.setTop (mkF m 87 #[.val (.int p0), .val (.int p1), .val (.int p2), .unset, .unset, .unset, .unset] [(.ref b1)]))
  refine own_st ?_ (fun t k => XS.dup X31.here hx rfl (hb hby at_87) rfl rfl k)
  show own_G p.tables e below _ _ (T31.setTop (mkF m 88 #[.val (.int p0), .val (.int p1), .val (.int p2), .unset, .unset, .unset, .unset] [(.ref b1), (.ref b1)]))
  refine own_st ?_ (fun t k => XS.bipush X31.here hx rfl (hb hby at_88) k)
  show own_G p.tables e below _ _ (T31.setTop (mkF m 90 #[.val (.int p0), .val (.int p1), .val (.int p2), .unset, .unset, .unset, .unset] [(.int (15 : Int32)), (.ref b1), (.ref b1)]))
  refine own_st ?_ (X31.ldcInt hx hown (mvT hZ (hw _ (List.mem_of_getElem? (i := 11) rfl))) (g := (mkF m 90 #[.val (.int p0), .val (.int p1), .val (.int p2), .unset, .unset, .unset, .unset] [(.int (15 : Int32)), (.ref b1), (.ref b1)])) rfl (hb hby at_90))
  show own_G p.tables e below _ _ (T31.setTop (mkF m 92 #[.val (.int p0), .val (.int p1), .val (.int p2), .unset, .unset, .unset, .unset] [(.int (2147483647 : Int32)), (.int (15 : Int32)), (.ref b1), (.ref b1)]))
  obtain ⟨cl33, Ar33, S33, G33⟩ := F31
  have hin33 : ¬ ((15 : Int32) < 0 ∨ cl33.slots.size ≤ ((15 : Int32)).toNatClampNeg) := by rw [S33]; decide
  obtain ⟨T33, h33, X33, e33, W33, st33⟩ := stI X31 hx hZ e31 Ar33 (j := (15 : Int32)) hin33 (g := (mkF m 92 #[.val (.int p0), .val (.int p1), .val (.int p2), .unset, .unset, .unset, .unset] [(.int (2147483647 : Int32)), (.int (15 : Int32)), (.ref b1), (.ref b1)])) rfl rfl (hb hby at_92)
  have N33 := Fr.snoc X33 N31 g_b1
  have Zs34 : n0 ≤ h33.size := Nat.le_trans Zs32 (Keep.of_wr W33).1
  have F33 : own_A Z h33 b1 := own_A_set ⟨cl33, Ar33, S33, G33⟩ W33
  refine own_st ?_ st33
  show own_G p.tables e below _ _ (T33.setTop (mkF m 93 #[.val (.int p0), .val (.int p1), .val (.int p2), .unset, .unset, .unset, .unset] [(.ref b1)]))
  refine own_st ?_ (fun t k => XS.astoreN X33.here hx rfl (hb hby at_93) rfl rfl (l' := #[.val (.int p0), .val (.int p1), .val (.int p2), .val (.ref b1), .unset, .unset, .unset]) rfl k)
  show own_G p.tables e below _ _ (T33.setTop (mkF m 94 #[.val (.int p0), .val (.int p1), .val (.int p2), .val (.ref b1), .unset, .unset, .unset] []))
  refine own_st ?_ (fun t k => XS.aloadN X33.here hx rfl (hb hby at_94) rfl rfl k)
  show own_G p.tables e below _ _ (T33.setTop (mkF m 95 #[.val (.int p0), .val (.int p1), .val (.int p2), .val (.ref b1), .unset, .unset, .unset] [(.ref b1)]))
  refine own_st ?_ (fun t k => XS.iloadN X33.here hx rfl (hb hby at_95) rfl k)
  show own_G p.tables e below _ _ (T33.setTop (mkF m 96 #[.val (.int p0), .val (.int p1), .val (.int p2), .val (.ref b1), .unset, .unset, .unset] [(.int p1), (.ref b1)]))
  refine own_st ?_ (X33.ldcInt hx hown (mvT hZ (hw _ (List.mem_of_getElem? (i := 11) rfl))) (g := (mkF m 96 #[.val (.int p0), .val (.int p1), .val (.int p2), .val (.ref b1), .unset, .unset, .unset] [(.int p1), (.ref b1)])) rfl (hb hby at_96))
  show own_G p.tables e below _ _ (T33.setTop (mkF m 98 #[.val (.int p0), .val (.int p1), .val (.int p2), .val (.ref b1), .unset, .unset, .unset] [(.int (2147483647 : Int32)), (.int p1), (.ref b1)]))
  refine own_st ?_ (fun t k => XS.iand X33.here hx rfl (hb hby at_98) rfl k)
  show own_G p.tables e below _ _ (T33.setTop (mkF m 99 #[.val (.int p0), .val (.int p1), .val (.int p2), .val (.ref b1), .unset, .unset, .unset] [(.int (p1 &&& (2147483647 : Int32))), (.ref b1)]))
  refine own_st ?_ (fun t k => XS.bipush X33.here hx rfl (hb hby at_99) k)
  show own_G p.tables e below _ _ (T33.setTop (mkF m 101 #[.val (.int p0), .val (.int p1), .val (.int p2), .val (.ref b1), .unset, .unset, .unset] [(.int (16 : Int32)), (.int (p1 &&& (2147483647 : Int32))), (.ref b1)]))
  refine own_st ?_ (fun t k => XS.irem X33.here hx rfl (hb hby at_101) rfl (by decide) k)
  show own_G p.tables e below _ _ (T33.setTop (mkF m 102 #[.val (.int p0), .val (.int p1), .val (.int p2), .val (.ref b1), .unset, .unset, .unset] [(.int ((p1 &&& (2147483647 : Int32)) - ((p1 &&& (2147483647 : Int32)) / (16 : Int32)) * (16 : Int32))), (.ref b1)]))
  obtain ⟨cl35, Ar35, S35, G35⟩ := F33
  have hin35 : ¬ (((p1 &&& (2147483647 : Int32)) - ((p1 &&& (2147483647 : Int32)) / (16 : Int32)) * (16 : Int32)) < 0 ∨ cl35.slots.size ≤ (((p1 &&& (2147483647 : Int32)) - ((p1 &&& (2147483647 : Int32)) / (16 : Int32)) * (16 : Int32))).toNatClampNeg) := by rw [S35]; exact own_idx p1
  obtain ⟨x35, hat35⟩ := G35 (((p1 &&& (2147483647 : Int32)) - ((p1 &&& (2147483647 : Int32)) / (16 : Int32)) * (16 : Int32))).toNatClampNeg (Nat.lt_of_not_le fun q => own_idx p1 (Or.inr q))
  refine own_st ?_ (X33.iaload hx (j := ((p1 &&& (2147483647 : Int32)) - ((p1 &&& (2147483647 : Int32)) / (16 : Int32)) * (16 : Int32))) (v := (.int x35)) (by rw [e33]; exact Ar35.1) (State.isArrayOf_alike hZ.alike Ar35.2.1) Ar35.2.2 hin35 hat35 (g := (mkF m 102 #[.val (.int p0), .val (.int p1), .val (.int p2), .val (.ref b1), .unset, .unset, .unset] [(.int ((p1 &&& (2147483647 : Int32)) - ((p1 &&& (2147483647 : Int32)) / (16 : Int32)) * (16 : Int32))), (.ref b1)])) rfl rfl (hb hby at_102))
  show own_G p.tables e below _ _ (T33.setTop (mkF m 103 #[.val (.int p0), .val (.int p1), .val (.int p2), .val (.ref b1), .unset, .unset, .unset] [(.int x35)]))
  refine own_st ?_ (fun t k => XS.iloadN X33.here hx rfl (hb hby at_103) rfl k)
  show own_G p.tables e below _ _ (T33.setTop (mkF m 104 #[.val (.int p0), .val (.int p1), .val (.int p2), .val (.ref b1), .unset, .unset, .unset] [(.int p2), (.int x35)]))
  refine own_st ?_ (X33.ldcInt hx hown (mvT hZ (hw _ (List.mem_of_getElem? (i := 11) rfl))) (g := (mkF m 104 #[.val (.int p0), .val (.int p1), .val (.int p2), .val (.ref b1), .unset, .unset, .unset] [(.int p2), (.int x35)])) rfl (hb hby at_104))
  show own_G p.tables e below _ _ (T33.setTop (mkF m 106 #[.val (.int p0), .val (.int p1), .val (.int p2), .val (.ref b1), .unset, .unset, .unset] [(.int (2147483647 : Int32)), (.int p2), (.int x35)]))
  refine own_st ?_ (fun t k => XS.iand X33.here hx rfl (hb hby at_106) rfl k)
  show own_G p.tables e below _ _ (T33.setTop (mkF m 107 #[.val (.int p0), .val (.int p1), .val (.int p2), .val (.ref b1), .unset, .unset, .unset] [(.int (p2 &&& (2147483647 : Int32))), (.int x35)]))
  refine own_st ?_ (fun t k => XS.iconst X33.here hx rfl (hb hby at_107) k)
  show own_G p.tables e below _ _ (T33.setTop (mkF m 108 #[.val (.int p0), .val (.int p1), .val (.int p2), .val (.ref b1), .unset, .unset, .unset] [(.int (3 : Int32)), (.int (p2 &&& (2147483647 : Int32))), (.int x35)]))
  refine own_st ?_ (fun t k => XS.irem X33.here hx rfl (hb hby at_108) rfl (by decide) k)
  show own_G p.tables e below _ _ (T33.setTop (mkF m 109 #[.val (.int p0), .val (.int p1), .val (.int p2), .val (.ref b1), .unset, .unset, .unset] [(.int ((p2 &&& (2147483647 : Int32)) - ((p2 &&& (2147483647 : Int32)) / (3 : Int32)) * (3 : Int32))), (.int x35)]))
  refine own_st ?_ (fun t k => XS.iadd X33.here hx rfl (hb hby at_109) rfl k)
  show own_G p.tables e below _ _ (T33.setTop (mkF m 110 #[.val (.int p0), .val (.int p1), .val (.int p2), .val (.ref b1), .unset, .unset, .unset] [(.int (x35 + ((p2 &&& (2147483647 : Int32)) - ((p2 &&& (2147483647 : Int32)) / (3 : Int32)) * (3 : Int32))))]))
  refine own_st ?_ (fun t k => XS.iconst X33.here hx rfl (hb hby at_110) k)
  show own_G p.tables e below _ _ (T33.setTop (mkF m 111 #[.val (.int p0), .val (.int p1), .val (.int p2), .val (.ref b1), .unset, .unset, .unset] [(.int (1 : Int32)), (.int (x35 + ((p2 &&& (2147483647 : Int32)) - ((p2 &&& (2147483647 : Int32)) / (3 : Int32)) * (3 : Int32))))]))
  refine own_st ?_ (fun t k => XS.isub X33.here hx rfl (hb hby at_111) rfl k)
  show own_G p.tables e below _ _ (T33.setTop (mkF m 112 #[.val (.int p0), .val (.int p1), .val (.int p2), .val (.ref b1), .unset, .unset, .unset] [(.int ((x35 + ((p2 &&& (2147483647 : Int32)) - ((p2 &&& (2147483647 : Int32)) / (3 : Int32)) * (3 : Int32))) - (1 : Int32)))]))
  refine own_st ?_ (fun t k => XS.istore X33.here hx rfl (hb hby at_112) rfl (l' := #[.val (.int p0), .val (.int p1), .val (.int p2), .val (.ref b1), .val (.int ((x35 + ((p2 &&& (2147483647 : Int32)) - ((p2 &&& (2147483647 : Int32)) / (3 : Int32)) * (3 : Int32))) - (1 : Int32))), .unset, .unset]) rfl k)
  show own_G p.tables e below _ _ (T33.setTop (mkF m 114 #[.val (.int p0), .val (.int p1), .val (.int p2), .val (.ref b1), .val (.int ((x35 + ((p2 &&& (2147483647 : Int32)) - ((p2 &&& (2147483647 : Int32)) / (3 : Int32)) * (3 : Int32))) - (1 : Int32))), .unset, .unset] []))
  refine own_st ?_ (fun t k => XS.iloadN X33.here hx rfl (hb hby at_114) rfl k)
  show own_G p.tables e below _ _ (T33.setTop (mkF m 115 #[.val (.int p0), .val (.int p1), .val (.int p2), .val (.ref b1), .val (.int ((x35 + ((p2 &&& (2147483647 : Int32)) - ((p2 &&& (2147483647 : Int32)) / (3 : Int32)) * (3 : Int32))) - (1 : Int32))), .unset, .unset] [(.int p0)]))
  obtain ⟨_, _, ⟨T36, L36, k36, n36⟩, -, X36, ⟨Lc36, hQ36, l36, y36, z36⟩, st36⟩ := Jvm.LawKit.callS X33 hx (y := (⟨"com/example/crossgate/crossgate/XmlParser", "isXmlCharacter", "(I)Z"⟩ : MethodName)) hown (mvT hZ (hw _ (List.mem_of_getElem? (i := 12) rfl))) (mvT hZ (hw _ (List.mem_of_getElem? (i := 13) rfl))) (mvT hZ (hw _ (List.mem_of_getElem? (i := 14) rfl))) (mvT hZ (hw _ (List.mem_of_getElem? (i := 15) rfl))) (by decide) (backOf (W := 0) (rm1 l Z _ hw [] p0  h33 n0 Zs34 ) hZ (hw _ (List.mem_of_getElem? (i := 15) rfl)) (hw _ (List.mem_of_getElem? (i := 14) rfl)) (by decide) (by decide)) (g := (mkF m 115 #[.val (.int p0), .val (.int p1), .val (.int p2), .val (.ref b1), .val (.int ((x35 + ((p2 &&& (2147483647 : Int32)) - ((p2 &&& (2147483647 : Int32)) / (3 : Int32)) * (3 : Int32))) - (1 : Int32))), .unset, .unset] [(.int p0)])) rfl (by rw [hml]; rfl) (argsL := [(.int p0)]) (rest := []) (lenOf pd_0 rfl) rfl (by show 2 * 0 + _ ≤ _; exact Nat.le_of_eq rfl) (hb hby at_115) (fun _ _ => ⟨rfl, e33, (by decide : 1 + 0 ≤ _), (by decide : 16 + 0 ≤ _)⟩)
  dsimp only [Pt.U, Pt.locs, Pt.cells, Pt.slots] at X36 l36 y36 z36 st36 hQ36
  subst l36 y36 z36
  obtain ⟨rfl, N36q, e36⟩ := hQ36
  have N36 := Fr.app N33 N36q
  refine own_st ?_ st36
  show own_G p.tables e below _ _ (T36.setTop (mkF m 118 #[.val (.int p0), .val (.int p1), .val (.int p2), .val (.ref b1), .val (.int ((x35 + ((p2 &&& (2147483647 : Int32)) - ((p2 &&& (2147483647 : Int32)) / (3 : Int32)) * (3 : Int32))) - (1 : Int32))), .unset, .unset] [(.int (f1 p0))]))
  refine own_st ?_ (fun t k => XS.iloadN X36.here hx rfl (hb hby at_118) rfl k)
  show own_G p.tables e below _ _ (T36.setTop (mkF m 119 #[.val (.int p0), .val (.int p1), .val (.int p2), .val (.ref b1), .val (.int ((x35 + ((p2 &&& (2147483647 : Int32)) - ((p2 &&& (2147483647 : Int32)) / (3 : Int32)) * (3 : Int32))) - (1 : Int32))), .unset, .unset] [(.int p0), (.int (f1 p0))]))
  obtain ⟨_, _, ⟨T37, L37, k37, n37⟩, -, X37, ⟨Lc37, hQ37, l37, y37, z37⟩, st37⟩ := Jvm.LawKit.callS X36 hx (y := (⟨"com/example/crossgate/crossgate/XmlParserIsXmlCharacterPinLaw", "reference", "(I)Z"⟩ : MethodName)) hown (mvT hZ (hw _ (List.mem_of_getElem? (i := 16) rfl))) (mvT hZ (hw _ (List.mem_of_getElem? (i := 17) rfl))) (mvT hZ (hw _ (List.mem_of_getElem? (i := 18) rfl))) (mvT hZ (hw _ (List.mem_of_getElem? (i := 19) rfl))) (by decide) (backOf (W := 1) (rm2 l Z _ hw [] p0  h33 n0 Zs34 ) hZ (hw _ (List.mem_of_getElem? (i := 19) rfl)) (hw _ (List.mem_of_getElem? (i := 18) rfl)) (by decide) (by decide)) (g := (mkF m 119 #[.val (.int p0), .val (.int p1), .val (.int p2), .val (.ref b1), .val (.int ((x35 + ((p2 &&& (2147483647 : Int32)) - ((p2 &&& (2147483647 : Int32)) / (3 : Int32)) * (3 : Int32))) - (1 : Int32))), .unset, .unset] [(.int p0), (.int (f1 p0))])) rfl (by rw [hml]; rfl) (argsL := [(.int p0)]) (rest := [(.int (f1 p0))]) (lenOf pd_0 rfl) rfl (by show 2 * 0 + _ ≤ _; exact Nat.le_of_eq rfl) (hb hby at_119) (fun _ _ => ⟨rfl, e36, (by decide : 1 + 0 ≤ _), (by decide : 16 + 0 ≤ _)⟩)
  dsimp only [Pt.U, Pt.locs, Pt.cells, Pt.slots] at X37 l37 y37 z37 st37 hQ37
  subst l37 y37 z37
  obtain ⟨rfl, N37q, e37⟩ := hQ37
  have N37 := Fr.app N36 N37q
  refine own_st ?_ st37
  show own_G p.tables e below _ _ (T37.setTop (mkF m 122 #[.val (.int p0), .val (.int p1), .val (.int p2), .val (.ref b1), .val (.int ((x35 + ((p2 &&& (2147483647 : Int32)) - ((p2 &&& (2147483647 : Int32)) / (3 : Int32)) * (3 : Int32))) - (1 : Int32))), .unset, .unset] [(.int (f2 p0)), (.int (f1 p0))]))
  refine own_st ?_ (fun t k => XS.icmpNo X37.here hx rfl (hb hby at_122) rfl (teq (own_xml _)).2 k)
  show own_G p.tables e below _ _ (T37.setTop (mkF m 125 #[.val (.int p0), .val (.int p1), .val (.int p2), .val (.ref b1), .val (.int ((x35 + ((p2 &&& (2147483647 : Int32)) - ((p2 &&& (2147483647 : Int32)) / (3 : Int32)) * (3 : Int32))) - (1 : Int32))), .unset, .unset] []))
  refine own_st ?_ (fun t k => XS.iconst X37.here hx rfl (hb hby at_125) k)
  show own_G p.tables e below _ _ (T37.setTop (mkF m 126 #[.val (.int p0), .val (.int p1), .val (.int p2), .val (.ref b1), .val (.int ((x35 + ((p2 &&& (2147483647 : Int32)) - ((p2 &&& (2147483647 : Int32)) / (3 : Int32)) * (3 : Int32))) - (1 : Int32))), .unset, .unset] [(.int (1 : Int32))]))
  refine own_st ?_ (fun t k => XS.goto X37.here hx rfl (pc0 := 126) (pc' := 130) rfl (hb hby at_126) (by decide) (by decide) k)
  show own_G p.tables e below _ _ (T37.setTop (mkF m 130 #[.val (.int p0), .val (.int p1), .val (.int p2), .val (.ref b1), .val (.int ((x35 + ((p2 &&& (2147483647 : Int32)) - ((p2 &&& (2147483647 : Int32)) / (3 : Int32)) * (3 : Int32))) - (1 : Int32))), .unset, .unset] [(.int (1 : Int32))]))
  refine own_st ?_ (fun t k => XS.istore X37.here hx rfl (hb hby at_130) rfl (l' := #[.val (.int p0), .val (.int p1), .val (.int p2), .val (.ref b1), .val (.int ((x35 + ((p2 &&& (2147483647 : Int32)) - ((p2 &&& (2147483647 : Int32)) / (3 : Int32)) * (3 : Int32))) - (1 : Int32))), .val (.int (1 : Int32)), .unset]) rfl k)
  show own_G p.tables e below _ _ (T37.setTop (mkF m 132 #[.val (.int p0), .val (.int p1), .val (.int p2), .val (.ref b1), .val (.int ((x35 + ((p2 &&& (2147483647 : Int32)) - ((p2 &&& (2147483647 : Int32)) / (3 : Int32)) * (3 : Int32))) - (1 : Int32))), .val (.int (1 : Int32)), .unset] []))
  refine own_st ?_ (fun t k => XS.iload X37.here hx rfl (hb hby at_132) rfl k)
  show own_G p.tables e below _ _ (T37.setTop (mkF m 134 #[.val (.int p0), .val (.int p1), .val (.int p2), .val (.ref b1), .val (.int ((x35 + ((p2 &&& (2147483647 : Int32)) - ((p2 &&& (2147483647 : Int32)) / (3 : Int32)) * (3 : Int32))) - (1 : Int32))), .val (.int (1 : Int32)), .unset] [(.int ((x35 + ((p2 &&& (2147483647 : Int32)) - ((p2 &&& (2147483647 : Int32)) / (3 : Int32)) * (3 : Int32))) - (1 : Int32)))]))
  obtain ⟨_, _, ⟨T38, L38, k38, n38⟩, -, X38, ⟨Lc38, hQ38, l38, y38, z38⟩, st38⟩ := Jvm.LawKit.callS X37 hx (y := (⟨"com/example/crossgate/crossgate/XmlParser", "isXmlCharacter", "(I)Z"⟩ : MethodName)) hown (mvT hZ (hw _ (List.mem_of_getElem? (i := 12) rfl))) (mvT hZ (hw _ (List.mem_of_getElem? (i := 13) rfl))) (mvT hZ (hw _ (List.mem_of_getElem? (i := 14) rfl))) (mvT hZ (hw _ (List.mem_of_getElem? (i := 15) rfl))) (by decide) (backOf (W := 0) (rm1 l Z _ hw [] ((x35 + ((p2 &&& (2147483647 : Int32)) - ((p2 &&& (2147483647 : Int32)) / (3 : Int32)) * (3 : Int32))) - (1 : Int32))  h33 n0 Zs34 ) hZ (hw _ (List.mem_of_getElem? (i := 15) rfl)) (hw _ (List.mem_of_getElem? (i := 14) rfl)) (by decide) (by decide)) (g := (mkF m 134 #[.val (.int p0), .val (.int p1), .val (.int p2), .val (.ref b1), .val (.int ((x35 + ((p2 &&& (2147483647 : Int32)) - ((p2 &&& (2147483647 : Int32)) / (3 : Int32)) * (3 : Int32))) - (1 : Int32))), .val (.int (1 : Int32)), .unset] [(.int ((x35 + ((p2 &&& (2147483647 : Int32)) - ((p2 &&& (2147483647 : Int32)) / (3 : Int32)) * (3 : Int32))) - (1 : Int32)))])) rfl (by rw [hml]; rfl) (argsL := [(.int ((x35 + ((p2 &&& (2147483647 : Int32)) - ((p2 &&& (2147483647 : Int32)) / (3 : Int32)) * (3 : Int32))) - (1 : Int32)))]) (rest := []) (lenOf pd_0 rfl) rfl (by show 2 * 0 + _ ≤ _; exact Nat.le_of_eq rfl) (hb hby at_134) (fun _ _ => ⟨rfl, e37, (by decide : 1 + 0 ≤ _), (by decide : 16 + 0 ≤ _)⟩)
  dsimp only [Pt.U, Pt.locs, Pt.cells, Pt.slots] at X38 l38 y38 z38 st38 hQ38
  subst l38 y38 z38
  obtain ⟨rfl, N38q, e38⟩ := hQ38
  have N38 := Fr.app N37 N38q
  refine own_st ?_ st38
  show own_G p.tables e below _ _ (T38.setTop (mkF m 137 #[.val (.int p0), .val (.int p1), .val (.int p2), .val (.ref b1), .val (.int ((x35 + ((p2 &&& (2147483647 : Int32)) - ((p2 &&& (2147483647 : Int32)) / (3 : Int32)) * (3 : Int32))) - (1 : Int32))), .val (.int (1 : Int32)), .unset] [(.int (f1 ((x35 + ((p2 &&& (2147483647 : Int32)) - ((p2 &&& (2147483647 : Int32)) / (3 : Int32)) * (3 : Int32))) - (1 : Int32))))]))
  refine own_st ?_ (fun t k => XS.iload X38.here hx rfl (hb hby at_137) rfl k)
  show own_G p.tables e below _ _ (T38.setTop (mkF m 139 #[.val (.int p0), .val (.int p1), .val (.int p2), .val (.ref b1), .val (.int ((x35 + ((p2 &&& (2147483647 : Int32)) - ((p2 &&& (2147483647 : Int32)) / (3 : Int32)) * (3 : Int32))) - (1 : Int32))), .val (.int (1 : Int32)), .unset] [(.int ((x35 + ((p2 &&& (2147483647 : Int32)) - ((p2 &&& (2147483647 : Int32)) / (3 : Int32)) * (3 : Int32))) - (1 : Int32))), (.int (f1 ((x35 + ((p2 &&& (2147483647 : Int32)) - ((p2 &&& (2147483647 : Int32)) / (3 : Int32)) * (3 : Int32))) - (1 : Int32))))]))
  obtain ⟨_, _, ⟨T39, L39, k39, n39⟩, -, X39, ⟨Lc39, hQ39, l39, y39, z39⟩, st39⟩ := Jvm.LawKit.callS X38 hx (y := (⟨"com/example/crossgate/crossgate/XmlParserIsXmlCharacterPinLaw", "reference", "(I)Z"⟩ : MethodName)) hown (mvT hZ (hw _ (List.mem_of_getElem? (i := 16) rfl))) (mvT hZ (hw _ (List.mem_of_getElem? (i := 17) rfl))) (mvT hZ (hw _ (List.mem_of_getElem? (i := 18) rfl))) (mvT hZ (hw _ (List.mem_of_getElem? (i := 19) rfl))) (by decide) (backOf (W := 1) (rm2 l Z _ hw [] ((x35 + ((p2 &&& (2147483647 : Int32)) - ((p2 &&& (2147483647 : Int32)) / (3 : Int32)) * (3 : Int32))) - (1 : Int32))  h33 n0 Zs34 ) hZ (hw _ (List.mem_of_getElem? (i := 19) rfl)) (hw _ (List.mem_of_getElem? (i := 18) rfl)) (by decide) (by decide)) (g := (mkF m 139 #[.val (.int p0), .val (.int p1), .val (.int p2), .val (.ref b1), .val (.int ((x35 + ((p2 &&& (2147483647 : Int32)) - ((p2 &&& (2147483647 : Int32)) / (3 : Int32)) * (3 : Int32))) - (1 : Int32))), .val (.int (1 : Int32)), .unset] [(.int ((x35 + ((p2 &&& (2147483647 : Int32)) - ((p2 &&& (2147483647 : Int32)) / (3 : Int32)) * (3 : Int32))) - (1 : Int32))), (.int (f1 ((x35 + ((p2 &&& (2147483647 : Int32)) - ((p2 &&& (2147483647 : Int32)) / (3 : Int32)) * (3 : Int32))) - (1 : Int32))))])) rfl (by rw [hml]; rfl) (argsL := [(.int ((x35 + ((p2 &&& (2147483647 : Int32)) - ((p2 &&& (2147483647 : Int32)) / (3 : Int32)) * (3 : Int32))) - (1 : Int32)))]) (rest := [(.int (f1 ((x35 + ((p2 &&& (2147483647 : Int32)) - ((p2 &&& (2147483647 : Int32)) / (3 : Int32)) * (3 : Int32))) - (1 : Int32))))]) (lenOf pd_0 rfl) rfl (by show 2 * 0 + _ ≤ _; exact Nat.le_of_eq rfl) (hb hby at_139) (fun _ _ => ⟨rfl, e38, (by decide : 1 + 0 ≤ _), (by decide : 16 + 0 ≤ _)⟩)
  dsimp only [Pt.U, Pt.locs, Pt.cells, Pt.slots] at X39 l39 y39 z39 st39 hQ39
  subst l39 y39 z39
  obtain ⟨rfl, N39q, e39⟩ := hQ39
  have N39 := Fr.app N38 N39q
  refine own_st ?_ st39
  show own_G p.tables e below _ _ (T39.setTop (mkF m 142 #[.val (.int p0), .val (.int p1), .val (.int p2), .val (.ref b1), .val (.int ((x35 + ((p2 &&& (2147483647 : Int32)) - ((p2 &&& (2147483647 : Int32)) / (3 : Int32)) * (3 : Int32))) - (1 : Int32))), .val (.int (1 : Int32)), .unset] [(.int (f2 ((x35 + ((p2 &&& (2147483647 : Int32)) - ((p2 &&& (2147483647 : Int32)) / (3 : Int32)) * (3 : Int32))) - (1 : Int32)))), (.int (f1 ((x35 + ((p2 &&& (2147483647 : Int32)) - ((p2 &&& (2147483647 : Int32)) / (3 : Int32)) * (3 : Int32))) - (1 : Int32))))]))
  refine own_st ?_ (fun t k => XS.icmpNo X39.here hx rfl (hb hby at_142) rfl (teq (own_xml _)).2 k)
  show own_G p.tables e below _ _ (T39.setTop (mkF m 145 #[.val (.int p0), .val (.int p1), .val (.int p2), .val (.ref b1), .val (.int ((x35 + ((p2 &&& (2147483647 : Int32)) - ((p2 &&& (2147483647 : Int32)) / (3 : Int32)) * (3 : Int32))) - (1 : Int32))), .val (.int (1 : Int32)), .unset] []))
  refine own_st ?_ (fun t k => XS.iconst X39.here hx rfl (hb hby at_145) k)
  show own_G p.tables e below _ _ (T39.setTop (mkF m 146 #[.val (.int p0), .val (.int p1), .val (.int p2), .val (.ref b1), .val (.int ((x35 + ((p2 &&& (2147483647 : Int32)) - ((p2 &&& (2147483647 : Int32)) / (3 : Int32)) * (3 : Int32))) - (1 : Int32))), .val (.int (1 : Int32)), .unset] [(.int (1 : Int32))]))
  refine own_st ?_ (fun t k => XS.goto X39.here hx rfl (pc0 := 146) (pc' := 150) rfl (hb hby at_146) (by decide) (by decide) k)
  show own_G p.tables e below _ _ (T39.setTop (mkF m 150 #[.val (.int p0), .val (.int p1), .val (.int p2), .val (.ref b1), .val (.int ((x35 + ((p2 &&& (2147483647 : Int32)) - ((p2 &&& (2147483647 : Int32)) / (3 : Int32)) * (3 : Int32))) - (1 : Int32))), .val (.int (1 : Int32)), .unset] [(.int (1 : Int32))]))
  refine own_st ?_ (fun t k => XS.istore X39.here hx rfl (hb hby at_150) rfl (l' := #[.val (.int p0), .val (.int p1), .val (.int p2), .val (.ref b1), .val (.int ((x35 + ((p2 &&& (2147483647 : Int32)) - ((p2 &&& (2147483647 : Int32)) / (3 : Int32)) * (3 : Int32))) - (1 : Int32))), .val (.int (1 : Int32)), .val (.int (1 : Int32))]) rfl k)
  show own_G p.tables e below _ _ (T39.setTop (mkF m 152 #[.val (.int p0), .val (.int p1), .val (.int p2), .val (.ref b1), .val (.int ((x35 + ((p2 &&& (2147483647 : Int32)) - ((p2 &&& (2147483647 : Int32)) / (3 : Int32)) * (3 : Int32))) - (1 : Int32))), .val (.int (1 : Int32)), .val (.int (1 : Int32))] []))
  refine own_st ?_ (fun t k => XS.iload X39.here hx rfl (hb hby at_152) rfl k)
  show own_G p.tables e below _ _ (T39.setTop (mkF m 154 #[.val (.int p0), .val (.int p1), .val (.int p2), .val (.ref b1), .val (.int ((x35 + ((p2 &&& (2147483647 : Int32)) - ((p2 &&& (2147483647 : Int32)) / (3 : Int32)) * (3 : Int32))) - (1 : Int32))), .val (.int (1 : Int32)), .val (.int (1 : Int32))] [(.int (1 : Int32))]))
  refine own_st ?_ (fun t k => XS.ifNo X39.here hx rfl (hb hby at_154) rfl ((if0 _ _).trans (feq (by decide : ¬ ((1 : Int32) = (0 : Int32)))).1) k)
  show own_G p.tables e below _ _ (T39.setTop (mkF m 157 #[.val (.int p0), .val (.int p1), .val (.int p2), .val (.ref b1), .val (.int ((x35 + ((p2 &&& (2147483647 : Int32)) - ((p2 &&& (2147483647 : Int32)) / (3 : Int32)) * (3 : Int32))) - (1 : Int32))), .val (.int (1 : Int32)), .val (.int (1 : Int32))] []))
  refine own_st ?_ (fun t k => XS.iload X39.here hx rfl (hb hby at_157) rfl k)
  show own_G p.tables e below _ _ (T39.setTop (mkF m 159 #[.val (.int p0), .val (.int p1), .val (.int p2), .val (.ref b1), .val (.int ((x35 + ((p2 &&& (2147483647 : Int32)) - ((p2 &&& (2147483647 : Int32)) / (3 : Int32)) * (3 : Int32))) - (1 : Int32))), .val (.int (1 : Int32)), .val (.int (1 : Int32))] [(.int (1 : Int32))]))
  refine own_st ?_ (fun t k => XS.ifNo X39.here hx rfl (hb hby at_159) rfl ((if0 _ _).trans (feq (by decide : ¬ ((1 : Int32) = (0 : Int32)))).1) k)
  show own_G p.tables e below _ _ (T39.setTop (mkF m 162 #[.val (.int p0), .val (.int p1), .val (.int p2), .val (.ref b1), .val (.int ((x35 + ((p2 &&& (2147483647 : Int32)) - ((p2 &&& (2147483647 : Int32)) / (3 : Int32)) * (3 : Int32))) - (1 : Int32))), .val (.int (1 : Int32)), .val (.int (1 : Int32))] []))
  refine own_st ?_ (fun t k => XS.iconst X39.here hx rfl (hb hby at_162) k)
  show own_G p.tables e below _ _ (T39.setTop (mkF m 163 #[.val (.int p0), .val (.int p1), .val (.int p2), .val (.ref b1), .val (.int ((x35 + ((p2 &&& (2147483647 : Int32)) - ((p2 &&& (2147483647 : Int32)) / (3 : Int32)) * (3 : Int32))) - (1 : Int32))), .val (.int (1 : Int32)), .val (.int (1 : Int32))] [(.int (1 : Int32))]))
  refine own_st ?_ (fun t k => XS.goto X39.here hx rfl (pc0 := 163) (pc' := 167) rfl (hb hby at_163) (by decide) (by decide) k)
  show own_G p.tables e below _ _ (T39.setTop (mkF m 167 #[.val (.int p0), .val (.int p1), .val (.int p2), .val (.ref b1), .val (.int ((x35 + ((p2 &&& (2147483647 : Int32)) - ((p2 &&& (2147483647 : Int32)) / (3 : Int32)) * (3 : Int32))) - (1 : Int32))), .val (.int (1 : Int32)), .val (.int (1 : Int32))] [(.int (1 : Int32))]))
  exact own_retN X39 hx hlk (t := .boolean) hret (by simp) (hb hby at_167) (by decide) (by decide) (z' := (1 : Int32)) rfl ⟨rfl, N39⟩
set_option maxRecDepth 65536 in
set_option maxHeartbeats 40000000 in
theorem comes_1 {Post : Tables → Env → Array Value → State → Outcome → State → Prop} (hpost : ∀ tb e args s v u, (limb_1_1.after args s (.returned v) u = true ∧ limb_1_2.after args s (.returned v) u = true ∧ True) → FrameEnd s (.returned v) u (Jvm.fieldLocs frame_1_writes args s ++ Jvm.arrayLocs frame_1_arrays args s ++ Jvm.staticLocs frame_1_statics s) 16 128 → Post tb e args s (.returned v) u) :
    ArmFor flags0 classFile x code maxLocals ret World_1 tables_1 room_1 Calls_1 rest_1 Pre_1 Post := by
  intro l hfl _ _ p e ha hc hk s m args below hf hA hF happ hP
  obtain ⟨hcalls, hrest, hpre⟩ := hP
  obtain ⟨-, -, -, hnamed, -, -, -, hat⟩ := (Spec.applies_iff hf).mp happ
  obtain ⟨hg, hn⟩ := and_e (Cond.before_iff.mp (show (Jvm.Cond.and given_1 narrow_1).before args s = true from hpre))
  obtain ⟨hcount, hgs0⟩ := and_e hg
  obtain ⟨w0, w1, w2, rfl⟩ : ∃ w0 w1 w2 : Value, args = #[w0, w1, w2] := by
    have hs : args.size = 3 := by simpa [Cond.value, given_1] using hcount
    obtain ⟨L⟩ := args
    match L, hs with
    | [w0, w1, w2], _ => exact ⟨w0, w1, w2, rfl⟩
  have hw := fun d (hd : d ∈ tables_1) => atoms_spec (ws := Jvm.Cond.code x code maxLocals ret :: tables_1) hat d (List.mem_cons_of_mem _ hd)
  obtain ⟨hv0, hgs1⟩ := and_e hgs0
  obtain ⟨i0, ei0⟩ := is_v hv0
  obtain rfl : w0 = (.int i0) := Option.some.inj ei0
  obtain ⟨hv1, hgs2⟩ := and_e hgs1
  obtain ⟨i1, ei1⟩ := is_v hv1
  obtain rfl : w1 = (.int i1) := Option.some.inj ei1
  have hv2 := hgs2
  obtain ⟨i2, ei2⟩ := is_v hv2
  obtain rfl : w2 = (.int i2) := Option.some.inj ei2
  obtain ⟨n, o, h1, h2, h3, _, L, rfl, ⟨rfl, N⟩, hq⟩ := rm0 l s _ hw tables_1 i0 i1 i2  s.heap s.heap.size (Nat.le_refl _)  p e ha hc hk s m _ below hf ((Spec.applies_iff_loose hf).mp happ).1 ⟨rfl, State.Warmed39.refl s, rfl⟩ trivial
  skip
  refine ⟨n, _, h1, h2, h3, hpost _ _ _ _ _ _ ⟨Cond.after_iff.mpr rfl, Cond.after_iff.mpr (eq_i res_at (Term.int_eval (1)) rfl), trivial⟩ ⟨⟨_, rfl⟩, hq.2.1, (hq.2.2.sift fun y hy => Or.inr (N y hy)).mono (by decide) (by decide)⟩⟩
theorem main_1_1 : Claimed_1_1 := comes_1 fun _ _ _ _ _ _ h hF => ⟨h.1, hF⟩
theorem main_1_2 : Claimed_1_2 := comes_1 fun _ _ _ _ _ _ h hF => ⟨h.2.1, hF⟩
end Jvm.Pilot.@@N@@
namespace Jvm.Pilot.@@N@@
open Jvm Jvm.ClassFile Sem Op Lib Jvm.Free Jvm.Stand Jvm.Pilot.@@N@@.Jvm.D
/-! MADE BY PROGRAM (witnessworld.py) out of the Statement's table words and the real class files: 9 classes; the members and pool entries that the words name. The judged class is class 1, her method 2. -/
namespace start1
open Jvm.ClassFile
def u (s : String) : CpInfo := .utf8 (stringToUtf16 s)
/-- a pool by its gaps: so many unusable entries, then the entry; so many at the end -/
def gap : Nat → List CpInfo → List CpInfo
  | 0, r => r
  | n + 1, r => .unusable :: gap n r
def poolList (es : List (Nat × CpInfo)) (last : Nat) : List CpInfo := es.foldr (fun e r => gap e.1 (e.2 :: r)) (gap last [])
def pool (es : List (Nat × CpInfo)) (last : Nat) : Array CpInfo := ⟨poolList es last⟩
def fileOf (pool : Array CpInfo) (this : Nat) (attrs : Array Attribute := #[]) (ms : Array MethodInfo := #[]) (fl : Nat := 33) (sup : Nat := 0) (ifs : Array Nat := #[]) (fds : Array FieldInfo := #[]) : ClassFile where
  minorVersion := 0
  majorVersion := 65
  constantPool := pool
  accessFlags := fl
  thisClass := this
  superClass := sup
  interfaces := ifs
  fields := fds
  methods := ms
  attributes := attrs
def plain (name : String) (sup : Option ClassId) : Class where
  name := name
  kind := .ordinary
  loader := none
  accessFlags := 33
  super := sup
  interfaces := #[]
  cf := none
  fields := #[]
  methods := #[]
  instanceTypes := #[]
  staticTypes := #[]
  resolved := #[]
  callSites := []
  init := .initialized
  statics := none
  mirror := none

def pool0 : Array CpInfo := pool [(5, u "<init>"), (0, u "()V"), (1, .class_ 10), (1, u "java/lang/Object")] 113

def k0m0 : Method := { name := "<init>", desc := "()V", sig := { parameters := [], returnType := none }, accessFlags := 1, code := none }
/-- java/lang/Object -/
def k0 : Class := { plain "java/lang/Object" none with
  accessFlags := 33
  interfaces := #[]
  cf := some (fileOf pool0 8 #[] #[{ accessFlags := 1, nameIndex := 5, descriptorIndex := 6, attributes := #[] }] 33 0 #[] #[])
  fields := #[]
  methods := #[k0m0]
  instanceTypes := #[]
  staticTypes := #[]
  resolved := Array.replicate 124 none
  statics := none }

def pool1 : Array CpInfo := pool [(2, .class_ 4), (1, u "java/lang/Object"), (0, u "<init>"), (0, u "()V"), (0, .integer 55295), (0, .integer 57344), (0, .integer 65533), (0, .integer 65536), (0, .integer 1114111), (0, .integer 55296), (0, .integer 57343), (0, .integer 65534), (0, .integer 65535), (2, .integer 2147483648), (0, .integer 2147483647), (0, .methodref 21 22), (0, .class_ 23), (0, .nameAndType 24 25), (0, u "com/example/crossgate/crossgate/XmlParser"), (0, u "isXmlCharacter"), (0, u "(I)Z"), (0, .methodref 27 28), (0, .class_ 29), (0, .nameAndType 30 25), (0, u "com/example/crossgate/crossgate/XmlParserIsXmlCharacterPinLaw"), (0, u "reference"), (3, u "law"), (0, u "(III)Z")] 4

def k1m0 : Method := { name := "<init>", desc := "()V", sig := { parameters := [], returnType := none }, accessFlags := 1, code := none }
def k1c1 : Code := { maxStack := 2, maxLocals := 1, code := method_2_code, exceptionTable := #[], attributes := #[] }
def k1m1 : Method := { name := "reference", desc := "(I)Z", sig := { parameters := [.int], returnType := some .boolean }, accessFlags := 10, code := some k1c1 }
def k1c2 : Code := { maxStack := 4, maxLocals := 7, code := code, exceptionTable := #[], attributes := #[] }
def k1m2 : Method := { name := "law", desc := "(III)Z", sig := { parameters := [.int, .int, .int], returnType := some .boolean }, accessFlags := 9, code := some k1c2 }
/-- com/example/crossgate/crossgate/XmlParserIsXmlCharacterPinLaw -/
def k1 : Class := { plain "com/example/crossgate/crossgate/XmlParserIsXmlCharacterPinLaw" (some 0) with
  accessFlags := 49
  interfaces := #[]
  cf := some (fileOf pool1 27 #[] #[{ accessFlags := 1, nameIndex := 5, descriptorIndex := 6, attributes := #[] }, { accessFlags := 10, nameIndex := 30, descriptorIndex := 25, attributes := #[] }, { accessFlags := 9, nameIndex := 34, descriptorIndex := 35, attributes := #[] }] 49 2 #[] #[])
  fields := #[]
  methods := #[k1m0, k1m1, k1m2]
  instanceTypes := #[]
  staticTypes := #[]
  resolved := Array.replicate 40 none
  statics := none }

def pool2 : Array CpInfo := pool [(4, .class_ 6), (1, u "java/lang/Object"), (6, .class_ 15), (1, u "com/example/crossgate/crossgate/XmlParser"), (0, u "bindings"), (0, u "Lcom/example/crossgate/crossgate/NamespaceBindings;"), (5, u "characters"), (0, u "Ljava/lang/StringBuilder;"), (2, u "value"), (5, u "names"), (0, u "Ljava/util/List;"), (2, u "values"), (5, u "ids"), (0, u "Ljava/util/Set;"), (8, u "text"), (0, u "[C"), (6, u "end"), (0, u "I"), (2, u "document"), (0, u "Lorg/w3c/dom/Document;"), (2, u "parent"), (0, u "Lorg/w3c/dom/Node;"), (16, .class_ 89), (1, u "com/example/crossgate/crossgate/XmlParser$DecodedText"), (0, u "Ljava/lang/String;"), (200, .integer 65534), (0, .integer 65535), (13, u "DOCTYPE"), (3, u "at"), (15, u "repeatedId"), (12, u "depth"), (5, u "XML_DECLARATION"), (14, u "VERSION"), (0, u "Ljava/util/regex/Pattern;"), (17, u "ENCODING_NAME"), (26, u "COMMENT"), (5, u "INSTRUCTION_START"), (31, u "CDATA_SECTION"), (54, .integer 1114111), (2, u "isXmlCharacter"), (0, u "(I)Z"), (4, .integer 55296), (0, .integer 57343), (93, u "ID_ATTRIBUTES"), (5, u "BY_NAME"), (0, u "Ljava/util/Comparator;"), (25, u "DOUBLE_DASH"), (2, u "COMMENT_END"), (10, u "CDATA_SECTION_END"), (9, u "INSTRUCTION_END"), (43, u "NAME_START_RANGES"), (0, u "[I"), (6, u "NAME_RANGES"), (61, u "MAX_DEPTH"), (2, u "MAX_ATTRIBUTES"), (1, u "MAX_NAME"), (1, u "XML_NS"), (0, u "XMLNS_NS"), (0, u "XMLNS"), (3, u "NOT_WELL_FORMED")] 99

def k2c0 : Code := { maxStack := 2, maxLocals := 1, code := prog_30_method_26_code, exceptionTable := #[], attributes := #[] }
def k2m0 : Method := { name := "isXmlCharacter", desc := "(I)Z", sig := { parameters := [.int], returnType := some .boolean }, accessFlags := 8, code := some k2c0 }
/-- com/example/crossgate/crossgate/XmlParser -/
def k2 : Class := { plain "com/example/crossgate/crossgate/XmlParser" (some 0) with
  accessFlags := 32
  interfaces := #[]
  cf := some (fileOf pool2 13 #[.nestMembers #[87]] #[{ accessFlags := 8, nameIndex := 502, descriptorIndex := 503, attributes := #[] }] 32 4 #[] #[{ accessFlags := 24, nameIndex := 774, descriptorIndex := 62, attributes := #[] }, { accessFlags := 24, nameIndex := 777, descriptorIndex := 62, attributes := #[] }, { accessFlags := 24, nameIndex := 779, descriptorIndex := 62, attributes := #[] }, { accessFlags := 26, nameIndex := 781, descriptorIndex := 90, attributes := #[] }, { accessFlags := 26, nameIndex := 782, descriptorIndex := 90, attributes := #[] }, { accessFlags := 26, nameIndex := 783, descriptorIndex := 90, attributes := #[] }, { accessFlags := 26, nameIndex := 603, descriptorIndex := 44, attributes := #[] }, { accessFlags := 26, nameIndex := 609, descriptorIndex := 610, attributes := #[] }, { accessFlags := 26, nameIndex := 787, descriptorIndex := 90, attributes := #[] }, { accessFlags := 26, nameIndex := 360, descriptorIndex := 361, attributes := #[] }, { accessFlags := 26, nameIndex := 379, descriptorIndex := 361, attributes := #[] }, { accessFlags := 26, nameIndex := 345, descriptorIndex := 54, attributes := #[] }, { accessFlags := 26, nameIndex := 406, descriptorIndex := 54, attributes := #[] }, { accessFlags := 26, nameIndex := 639, descriptorIndex := 54, attributes := #[] }, { accessFlags := 26, nameIndex := 636, descriptorIndex := 54, attributes := #[] }, { accessFlags := 26, nameIndex := 444, descriptorIndex := 54, attributes := #[] }, { accessFlags := 26, nameIndex := 650, descriptorIndex := 54, attributes := #[] }, { accessFlags := 26, nameIndex := 412, descriptorIndex := 54, attributes := #[] }, { accessFlags := 26, nameIndex := 660, descriptorIndex := 54, attributes := #[] }, { accessFlags := 26, nameIndex := 306, descriptorIndex := 54, attributes := #[] }, { accessFlags := 26, nameIndex := 704, descriptorIndex := 705, attributes := #[] }, { accessFlags := 26, nameIndex := 712, descriptorIndex := 705, attributes := #[] }, { accessFlags := 18, nameIndex := 53, descriptorIndex := 54, attributes := #[] }, { accessFlags := 18, nameIndex := 61, descriptorIndex := 62, attributes := #[] }, { accessFlags := 2, nameIndex := 310, descriptorIndex := 62, attributes := #[] }, { accessFlags := 18, nameIndex := 65, descriptorIndex := 66, attributes := #[] }, { accessFlags := 2, nameIndex := 69, descriptorIndex := 70, attributes := #[] }, { accessFlags := 2, nameIndex := 339, descriptorIndex := 62, attributes := #[] }, { accessFlags := 18, nameIndex := 16, descriptorIndex := 17, attributes := #[] }, { accessFlags := 18, nameIndex := 23, descriptorIndex := 24, attributes := #[] }, { accessFlags := 18, nameIndex := 27, descriptorIndex := 24, attributes := #[] }, { accessFlags := 18, nameIndex := 33, descriptorIndex := 34, attributes := #[] }, { accessFlags := 18, nameIndex := 37, descriptorIndex := 34, attributes := #[] }, { accessFlags := 18, nameIndex := 43, descriptorIndex := 44, attributes := #[] }, { accessFlags := 2, nameIndex := 326, descriptorIndex := 90, attributes := #[] }])
  fields := #[{ name := "MAX_DEPTH", type := .int, accessFlags := 24, slot := 0, constantValue := 0 }, { name := "MAX_ATTRIBUTES", type := .int, accessFlags := 24, slot := 1, constantValue := 0 }, { name := "MAX_NAME", type := .int, accessFlags := 24, slot := 2, constantValue := 0 }, { name := "XML_NS", type := (.object "java/lang/String"), accessFlags := 26, slot := 3, constantValue := 0 }, { name := "XMLNS_NS", type := (.object "java/lang/String"), accessFlags := 26, slot := 4, constantValue := 0 }, { name := "XMLNS", type := (.object "java/lang/String"), accessFlags := 26, slot := 5, constantValue := 0 }, { name := "ID_ATTRIBUTES", type := (.object "java/util/Set"), accessFlags := 26, slot := 6, constantValue := 0 }, { name := "BY_NAME", type := (.object "java/util/Comparator"), accessFlags := 26, slot := 7, constantValue := 0 }, { name := "NOT_WELL_FORMED", type := (.object "java/lang/String"), accessFlags := 26, slot := 8, constantValue := 0 }, { name := "VERSION", type := (.object "java/util/regex/Pattern"), accessFlags := 26, slot := 9, constantValue := 0 }, { name := "ENCODING_NAME", type := (.object "java/util/regex/Pattern"), accessFlags := 26, slot := 10, constantValue := 0 }, { name := "XML_DECLARATION", type := (.array .char), accessFlags := 26, slot := 11, constantValue := 0 }, { name := "COMMENT", type := (.array .char), accessFlags := 26, slot := 12, constantValue := 0 }, { name := "COMMENT_END", type := (.array .char), accessFlags := 26, slot := 13, constantValue := 0 }, { name := "DOUBLE_DASH", type := (.array .char), accessFlags := 26, slot := 14, constantValue := 0 }, { name := "CDATA_SECTION", type := (.array .char), accessFlags := 26, slot := 15, constantValue := 0 }, { name := "CDATA_SECTION_END", type := (.array .char), accessFlags := 26, slot := 16, constantValue := 0 }, { name := "INSTRUCTION_START", type := (.array .char), accessFlags := 26, slot := 17, constantValue := 0 }, { name := "INSTRUCTION_END", type := (.array .char), accessFlags := 26, slot := 18, constantValue := 0 }, { name := "DOCTYPE", type := (.array .char), accessFlags := 26, slot := 19, constantValue := 0 }, { name := "NAME_START_RANGES", type := (.array .int), accessFlags := 26, slot := 20, constantValue := 0 }, { name := "NAME_RANGES", type := (.array .int), accessFlags := 26, slot := 21, constantValue := 0 }, { name := "text", type := (.array .char), accessFlags := 18, slot := 0, constantValue := 0 }, { name := "end", type := .int, accessFlags := 18, slot := 1, constantValue := 0 }, { name := "at", type := .int, accessFlags := 2, slot := 2, constantValue := 0 }, { name := "document", type := (.object "org/w3c/dom/Document"), accessFlags := 18, slot := 3, constantValue := 0 }, { name := "parent", type := (.object "org/w3c/dom/Node"), accessFlags := 2, slot := 4, constantValue := 0 }, { name := "depth", type := .int, accessFlags := 2, slot := 5, constantValue := 0 }, { name := "bindings", type := (.object "com/example/crossgate/crossgate/NamespaceBindings"), accessFlags := 18, slot := 6, constantValue := 0 }, { name := "characters", type := (.object "java/lang/StringBuilder"), accessFlags := 18, slot := 7, constantValue := 0 }, { name := "value", type := (.object "java/lang/StringBuilder"), accessFlags := 18, slot := 8, constantValue := 0 }, { name := "names", type := (.object "java/util/List"), accessFlags := 18, slot := 9, constantValue := 0 }, { name := "values", type := (.object "java/util/List"), accessFlags := 18, slot := 10, constantValue := 0 }, { name := "ids", type := (.object "java/util/Set"), accessFlags := 18, slot := 11, constantValue := 0 }, { name := "repeatedId", type := (.object "java/lang/String"), accessFlags := 2, slot := 12, constantValue := 0 }]
  methods := #[k2m0]
  instanceTypes := #[(.array .char), .int, .int, (.object "org/w3c/dom/Document"), (.object "org/w3c/dom/Node"), .int, (.object "com/example/crossgate/crossgate/NamespaceBindings"), (.object "java/lang/StringBuilder"), (.object "java/lang/StringBuilder"), (.object "java/util/List"), (.object "java/util/List"), (.object "java/util/Set"), (.object "java/lang/String")]
  staticTypes := #[.int, .int, .int, (.object "java/lang/String"), (.object "java/lang/String"), (.object "java/lang/String"), (.object "java/util/Set"), (.object "java/util/Comparator"), (.object "java/lang/String"), (.object "java/util/regex/Pattern"), (.object "java/util/regex/Pattern"), (.array .char), (.array .char), (.array .char), (.array .char), (.array .char), (.array .char), (.array .char), (.array .char), (.array .char), (.array .int), (.array .int)]
  resolved := Array.replicate 887 none
  statics := none }

def pool3 : Array CpInfo := pool [(1, u "java/lang/Cloneable"), (0, .class_ 1), (0, u "java/lang/Object"), (0, .class_ 3)] 3

/-- java/lang/Cloneable -/
def k3 : Class := { plain "java/lang/Cloneable" (some 0) with
  accessFlags := 1537
  interfaces := #[]
  cf := some (fileOf pool3 2 #[] #[] 1537 4 #[] #[])
  fields := #[]
  methods := #[]
  instanceTypes := #[]
  staticTypes := #[]
  resolved := Array.replicate 8 none
  statics := none }

def pool4 : Array CpInfo := pool [(1, u "java/io/Serializable"), (0, .class_ 1), (0, u "java/lang/Object"), (0, .class_ 3)] 3

/-- java/io/Serializable -/
def k4 : Class := { plain "java/io/Serializable" (some 0) with
  accessFlags := 1537
  interfaces := #[]
  cf := some (fileOf pool4 2 #[] #[] 1537 4 #[] #[])
  fields := #[]
  methods := #[]
  instanceTypes := #[]
  staticTypes := #[]
  resolved := Array.replicate 8 none
  statics := none }

/-- the primitive byte -/
def k5 : Class := { plain "byte" none with kind := .primitive 'B', accessFlags := 0x411 }
/-- [B -/
def k6 : Class := { plain "[B" (some 0) with kind := .array 5 .byte, interfaces := #[3, 4], accessFlags := 1041 }

/-- the primitive int -/
def k7 : Class := { plain "int" none with kind := .primitive 'I', accessFlags := 0x411 }
/-- [I -/
def k8 : Class := { plain "[I" (some 0) with kind := .array 7 .int, interfaces := #[3, 4], accessFlags := 1041 }

def heap : Heap := #[]
def classes : Array Class := #[k0, k1, k2, k3, k4, k5, k6, k7, k8]
def interned : List (Array UInt16 × Addr) := []
def slotsUsed : Nat := 0
def theMethod : MethodId := ⟨1, 2⟩
def args0 : Array Value := #[.int 65, .int 1, .int 2]
def aboutOver (below : List Frame) : State where
  vm := { classes := classes, interned := interned.toArray }
  heap := heap
  slotsUsed := slotsUsed
  threads := #[{ frames := .invoking theMethod args0 :: below }]
def below0 : List Frame := [.native { method := ⟨0, 0⟩, args := #[] }]
def about1 : State := aboutOver below0
def p0 : Program := .bare "" "" ""
def e0 : Env := launch0.env 0 0 0
theorem w_frames : about1.frames = Frame.invoking theMethod args0 :: below0 := rfl
set_option maxRecDepth 65536 in
theorem w_args : argsFit about1.vm theMethod args0 = true := by decide +kernel
set_option maxRecDepth 65536 in
theorem w_heap : heapFits about1 = true := by decide +kernel
set_option maxRecDepth 65536 in
theorem w_runnable : about1.curStatus? = some .runnable := by decide +kernel
set_option maxRecDepth 65536 in
theorem w_alone : about1.alone = true := by decide +kernel
set_option maxRecDepth 65536 in
theorem w_named : about1.methodNamed? x = some theMethod := by decide +kernel
set_option maxRecDepth 65536 in
theorem w_hears : about1.hears theMethod below0 = true := by decide +kernel
set_option maxRecDepth 65536 in
theorem w_ripe : about1.ripe theMethod args0 below0 = true := by decide +kernel
theorem w_running : about1.status = .running := rfl
set_option maxRecDepth 65536 in
theorem w_room : about1.hasRoom e0.platform room_1 = true :=
  launch0.hasRoom_least _ room_1 (by decide +kernel) (by decide +kernel) (by decide +kernel) (by decide +kernel) (by decide +kernel) (by decide +kernel)
theorem allAtoms_all (ts : List Jvm.Cond) (a : Array Jvm.Value) (st : Jvm.State) : (allAtoms ts).before a st = ts.all (fun c => c.before a st) := by
  induction ts with
  | nil => rfl
  | cons c t ih =>
    show (Jvm.Cond.and c (allAtoms t)).before a st = _
    rw [Jvm.Cond.before_and, ih, List.all_cons]
def words1 : List Jvm.Cond := Jvm.Cond.code x code maxLocals ret :: tables_1
/-- a 'code' word, met by the world's own term for the bytes: nothing is compared byte by byte -/
theorem code_word {y : MethodName} {bytes : ByteArray} {mx : Nat} {rt : Option FieldType} {a : Array Value} {s : State} {m : MethodId} {meth : Method} {c : Code} (h1 : s.methodNamed? y = some m) (h2 : s.vm.method? m = some meth) (h3 : meth.code = some c) (h4 : c.code = bytes)
    (h5 : (c.maxLocals == mx && c.exceptionTable.isEmpty && decide (c.maxStack ≤ mostOperands) && decide (meth.sig.returnType = rt) && !meth.locks && decide (parseMethodDescriptor y.desc = some meth.sig)) = true) : (Jvm.Cond.code y bytes mx rt).before a s = true := by
  simp only [Bool.and_eq_true, beq_iff_eq, Bool.not_eq_true', decide_eq_true_eq] at h5
  obtain ⟨⟨⟨⟨⟨g1, g2⟩, g3⟩, g4⟩, g5⟩, g6⟩ := h5
  simp [Cond.before, Cond.holds, Cond.value, h1, h2, h3, h4, g1, g2, g3, g4, g5, g6]
def isCode : Jvm.Cond → Bool
  | .code _ _ _ _ => true
  | _ => false
theorem all_split {L : List Jvm.Cond} {P : Jvm.Cond → Bool} (h1 : L.all (fun c => isCode c || P c) = true) (h2 : ∀ c ∈ L.filter isCode, P c = true) : L.all P = true := by
  refine List.all_eq_true.mpr fun c hc => ?_
  have h := List.all_eq_true.mp h1 c hc
  rcases Bool.eq_false_or_eq_true (isCode c) with hi | hi
  · exact h2 c (List.mem_filter.mpr ⟨hc, hi⟩)
  · simpa [hi] using h
set_option maxRecDepth 65536 in
theorem w_c0 : (Jvm.Cond.code x code maxLocals ret).before args0 about1 = true := code_word (m := ⟨1, 2⟩) (meth := k1m2) (c := k1c2) (by decide +kernel) rfl rfl rfl (by decide +kernel)
set_option maxRecDepth 65536 in
theorem w_c1 : (Jvm.Cond.code ({ cls := "com/example/crossgate/crossgate/XmlParser", name := "isXmlCharacter", desc := "(I)Z" } : Jvm.MethodName) prog_30_method_26_code (1 : Nat) (Option.some Jvm.ClassFile.FieldType.boolean)).before args0 about1 = true := code_word (m := ⟨2, 0⟩) (meth := k2m0) (c := k2c0) (by decide +kernel) rfl rfl rfl (by decide +kernel)
set_option maxRecDepth 65536 in
theorem w_c2 : (Jvm.Cond.code ({ cls := "com/example/crossgate/crossgate/XmlParserIsXmlCharacterPinLaw", name := "reference", desc := "(I)Z" } : Jvm.MethodName) method_2_code (1 : Nat) (Option.some Jvm.ClassFile.FieldType.boolean)).before args0 about1 = true := code_word (m := ⟨1, 1⟩) (meth := k1m1) (c := k1c1) (by decide +kernel) rfl rfl rfl (by decide +kernel)
def codes1 : List Jvm.Cond := [Jvm.Cond.code x code maxLocals ret, Jvm.Cond.code ({ cls := "com/example/crossgate/crossgate/XmlParser", name := "isXmlCharacter", desc := "(I)Z" } : Jvm.MethodName) prog_30_method_26_code (1 : Nat) (Option.some Jvm.ClassFile.FieldType.boolean), Jvm.Cond.code ({ cls := "com/example/crossgate/crossgate/XmlParserIsXmlCharacterPinLaw", name := "reference", desc := "(I)Z" } : Jvm.MethodName) method_2_code (1 : Nat) (Option.some Jvm.ClassFile.FieldType.boolean)]
set_option maxRecDepth 65536 in
theorem codes_eq : words1.filter isCode = codes1 := rfl
theorem w_codes : ∀ c ∈ words1.filter isCode, c.before args0 about1 = true := by
  rw [codes_eq]
  intro c hc
  simp only [codes1, List.mem_cons, List.not_mem_nil, or_false] at hc
  rcases hc with rfl | rfl | rfl
  · exact w_c0
  · exact w_c1
  · exact w_c2
set_option maxRecDepth 65536 in
theorem w_t1 : (words1.take 24).all (fun c => isCode c || c.before args0 about1) = true := by decide +kernel
set_option maxRecDepth 65536 in
theorem w_t2 : (words1.drop 24).all (fun c => isCode c || c.before args0 about1) = true := by decide +kernel
theorem w_tables : (allAtoms (Jvm.Cond.code x code maxLocals ret :: tables_1)).before args0 about1 = true := by
  rw [allAtoms_all]
  show words1.all (fun c => c.before args0 about1) = true
  refine all_split ?_ w_codes
  rw [← List.take_append_drop 24 words1, List.all_append, w_t1, w_t2]
  rfl
set_option maxRecDepth 65536 in
theorem w_case : (Jvm.Cond.and given_1 narrow_1).before args0 about1 = true := by decide +kernel
theorem w_applies : (headSpec (Jvm.Cond.code x code maxLocals ret :: tables_1) room_1).applies x e0.platform about1 = true :=
  (Spec.applies_iff w_frames).mpr ⟨w_running, w_runnable, w_alone, w_named, w_hears, w_ripe, w_room, w_tables⟩
theorem atStart : AtStart classFile x code maxLocals ret World_1 tables_1 room_1 Calls_1 rest_1 Pre_1 launch0 p0 e0 about1 theMethod args0 below0 :=
  ⟨lists_1, trivial, launch0.admits_env _ _ _, launch0.least_env, fairChoices_fair.cas, fairChoices_fair.clock, w_frames, w_args, w_heap, w_applies, trivial, trivial, w_case⟩
end start1
theorem witness_1 : WitnessClaimed_1 := ⟨start1.p0, start1.e0, start1.about1, start1.theMethod, start1.args0, start1.below0, start1.atStart⟩
end Jvm.Pilot.@@N@@
