import JvmDerived
import JvmDerived.Pilot.@@N@@Statement
import JvmDerived.Pilot.@@N@@Code
set_option linter.unusedVariables false
set_option linter.unusedSimpArgs false
@@BLOCK:NumsL.lean.txt@@
@@BLOCK:Masks.lean.txt@@
namespace Jvm.Pilot.@@N@@
open Jvm Jvm.ClassFile Sem Op Lib Jvm.Free Jvm.Stand Jvm.LawKit Jvm.RoadKit Bundle Jvm.Pilot.@@N@@.Jvm.D
def own_G (tb : Tables) (e : Env) (below : List Frame) (En : Outcome → State → List Loc → Prop) (Q : Option Value → Heap → List Loc → Prop) (U : State) : Prop :=
  ∃ t o, Steps tb e below U t ∧ t.status = .running ∧ Ended t below o ∧ ∃ v L, o = .returned v ∧ Q v t.heap L ∧ En o t L
/-- the frame at the end, counted from s -/
def own_E (s : State) (nc ns : Nat) (o : Outcome) (t : State) (L : List Loc) : Prop := FrameEnd s o t L nc ns
theorem own_st {tb : Tables} {e : Env} {below : List Frame} {En : Outcome → State → List Loc → Prop} {Q : Option Value → Heap → List Loc → Prop} {U U' : State} (h : own_G tb e below En Q U') (st : ∀ t, Steps tb e below U' t → Steps tb e below U t) : own_G tb e below En Q U := by
  obtain ⟨t, o, h1, h2⟩ := h
  exact ⟨t, o, st t h1, h2⟩
section OwnRet
variable {p : Program} {l : Launch} {e : Env} {R : Room} {s : State} {m : MethodId} {args : Array Value} {below : List Frame} {meth : Method} {c : Code} {T : State} {locs : List Loc} {cells slots : Nat}
theorem own_retN (X : Stand p l e R s m args below meth c T locs cells slots) (hx : p.tables.exec = Jvm.exec) (hlk : meth.locks = false) {pc : Nat} {Ls : Array Slot} {z z' : Int32} {t : FieldType} {rest : List Value} (hret : meth.sig.returnType = some t) (ht : t = .boolean ∨ t = .byte ∨ t = .char ∨ t = .short)
    (hd : decode c.code pc = .ok (.ireturn, 1)) {Q : Option Value → Heap → List Loc → Prop} {nc ns : Nat} (hc : cells ≤ nc) (hs : slots ≤ ns) (hz : nar t z = z') (hQ : Q (some (.int z')) T.heap locs) : own_G p.tables e below (own_E s nc ns) Q (T.setTop (mkF m pc Ls (.int z :: rest))) := by
  subst hz
  obtain ⟨fs, hr, hrun, hended, hW, hsame⟩ := X.leave (v := some (.int (nar t z))) (fun h => by rw [hret] at h; cases h) hlk
  exact ⟨_, _, retN X hx hret ht hd hr, hrun, hended, _, _, rfl, hQ, ⟨_, rfl⟩, hW, hsame.mono hc hs⟩
theorem own_retI (X : Stand p l e R s m args below meth c T locs cells slots) (hx : p.tables.exec = Jvm.exec) (hlk : meth.locks = false) {pc : Nat} {Ls : Array Slot} {z : Int32} {rest : List Value} (hret : meth.sig.returnType = some .int)
    (hd : decode c.code pc = .ok (.ireturn, 1)) {Q : Option Value → Heap → List Loc → Prop} {nc ns : Nat} (hc : cells ≤ nc) (hs : slots ≤ ns) (hQ : Q (some (.int z)) T.heap locs) : own_G p.tables e below (own_E s nc ns) Q (T.setTop (mkF m pc Ls (.int z :: rest))) := by
  obtain ⟨fs, hr, hrun, hended, hW, hsame⟩ := X.leave (v := some (.int z)) (fun h => by rw [hret] at h; cases h) hlk
  exact ⟨_, _, retOut X hx hret rfl (Or.inl ⟨rfl, Or.inl rfl, _, rfl⟩) hd hr, hrun, hended, _, _, rfl, hQ, ⟨_, rfl⟩, hW, hsame.mono hc hs⟩
theorem own_retJ (X : Stand p l e R s m args below meth c T locs cells slots) (hx : p.tables.exec = Jvm.exec) (hlk : meth.locks = false) {pc : Nat} {Ls : Array Slot} {z : Int64} {rest : List Value} (hret : meth.sig.returnType = some .long)
    (hd : decode c.code pc = .ok (.lreturn, 1)) {Q : Option Value → Heap → List Loc → Prop} {nc ns : Nat} (hc : cells ≤ nc) (hs : slots ≤ ns) (hQ : Q (some (.long z)) T.heap locs) : own_G p.tables e below (own_E s nc ns) Q (T.setTop (mkF m pc Ls (.long z :: rest))) := by
  obtain ⟨fs, hr, hrun, hended, hW, hsame⟩ := X.leave (v := some (.long z)) (fun h => by rw [hret] at h; cases h) hlk
  exact ⟨_, _, retOut X hx hret rfl (Or.inr (Or.inl ⟨rfl, rfl, _, rfl⟩)) hd hr, hrun, hended, _, _, rfl, hQ, ⟨_, rfl⟩, hW, hsame.mono hc hs⟩
theorem own_retA (X : Stand p l e R s m args below meth c T locs cells slots) (hx : p.tables.exec = Jvm.exec) (hlk : meth.locks = false) {pc : Nat} {Ls : Array Slot} {z : Value} {t : FieldType} {rest : List Value} (hret : meth.sig.returnType = some t) (ht : t.isReference = true) (hn : narrow t z = z) (hv : z.isRef = true)
    (hd : decode c.code pc = .ok (.areturn, 1)) {Q : Option Value → Heap → List Loc → Prop} {nc ns : Nat} (hc : cells ≤ nc) (hs : slots ≤ ns) (hQ : Q (some z) T.heap locs) : own_G p.tables e below (own_E s nc ns) Q (T.setTop (mkF m pc Ls (z :: rest))) := by
  obtain ⟨fs, hr, hrun, hended, hW, hsame⟩ := X.leave (v := some z) (fun h => by rw [hret] at h; cases h) hlk
  exact ⟨_, _, retOut X hx hret hn (Or.inr (Or.inr (Or.inr (Or.inr ⟨rfl, ht, hv⟩)))) hd hr, hrun, hended, _, _, rfl, hQ, ⟨_, rfl⟩, hW, hsame.mono hc hs⟩
theorem own_retV (X : Stand p l e R s m args below meth c T locs cells slots) (hx : p.tables.exec = Jvm.exec) (hlk : meth.locks = false) {pc : Nat} {Ls : Array Slot} (hret : meth.sig.returnType = none)
    (hd : decode c.code pc = .ok (.return_, 1)) {Q : Option Value → Heap → List Loc → Prop} {nc ns : Nat} (hc : cells ≤ nc) (hs : slots ≤ ns) (hQ : Q none T.heap locs) : own_G p.tables e below (own_E s nc ns) Q (T.setTop (mkF m pc Ls [])) := by
  obtain ⟨fs, hr, hrun, hended, hW, hsame⟩ := X.leave (v := none) (fun _ => rfl) hlk
  exact ⟨_, _, X.returnOut hx hret hd hr, hrun, hended, _, _, rfl, hQ, ⟨_, rfl⟩, hW, hsame.mono hc hs⟩
/-- the wide frame at the end: Strings may have been interned -/
def own_EW (s : State) (nc ns : Nat) (o : Outcome) (t : State) (L : List Loc) : Prop := ReturnedEndW s o t L nc ns
theorem own_retNW {vm1 : Vm} (X : Stand p l e R (s.setVm vm1) m args below meth c T locs cells slots) (hx : p.tables.exec = Jvm.exec) (hlk : meth.locks = false) {k : Nat} (hS : s.Since vm1 k) (hk : k ≤ T.heap.size) {pc : Nat} {Ls : Array Slot} {z z' : Int32} {t : FieldType} {rest : List Value} (hret : meth.sig.returnType = some t) (ht : t = .boolean ∨ t = .byte ∨ t = .char ∨ t = .short)
    (hd : decode c.code pc = .ok (.ireturn, 1)) {Q : Option Value → Heap → List Loc → Prop} {nc ns : Nat} (hc : cells ≤ nc) (hs : slots ≤ ns) (hz : nar t z = z') (hQ : Q (some (.int z')) T.heap locs) : own_G p.tables e below (own_EW s nc ns) Q (T.setTop (mkF m pc Ls (.int z :: rest))) := by
  subst hz
  obtain ⟨fs, hr, hrun, hended, h1, h2, h3, h4⟩ := X.leaveW hS hk (v := some (.int (nar t z))) (fun h => by rw [hret] at h; cases h) hlk
  exact ⟨_, _, retN X hx hret ht hd hr, hrun, hended, _, _, rfl, hQ, h1, h2, h3, h4.mono hc hs⟩
end OwnRet
/-- it returns r; nothing old is written (own_QV: the heap is as it was) -/
def own_QL (r : Value) (n0 : Nat) (v : Option Value) (h : Heap) (L : List Loc) : Prop := v = some r ∧ Fr n0 L
def own_QN (h0 : Heap) (n0 : Nat) (v : Option Value) (h : Heap) (L : List Loc) : Prop := v = none ∧ Fr n0 L ∧ h = h0
def own_QV (r : Value) (h0 : Heap) (n0 : Nat) (v : Option Value) (h : Heap) (L : List Loc) : Prop := v = some r ∧ Fr n0 L ∧ h = h0
theorem d1_0 : decode prog_46_method_2_code 0 = .ok (.iload_n 0, 1) := by decide +kernel
theorem d1_1 : decode prog_46_method_2_code 1 = .ok (.bipush 48, 2) := by decide +kernel
theorem d1_3 : decode prog_46_method_2_code 3 = .ok (.if_icmp .lt 14, 3) := by decide +kernel
theorem d1_6 : decode prog_46_method_2_code 6 = .ok (.iload_n 0, 1) := by decide +kernel
theorem d1_7 : decode prog_46_method_2_code 7 = .ok (.bipush 57, 2) := by decide +kernel
theorem d1_9 : decode prog_46_method_2_code 9 = .ok (.if_icmp .gt 8, 3) := by decide +kernel
theorem d1_12 : decode prog_46_method_2_code 12 = .ok (.iload_n 0, 1) := by decide +kernel
theorem d1_13 : decode prog_46_method_2_code 13 = .ok (.bipush 48, 2) := by decide +kernel
theorem d1_15 : decode prog_46_method_2_code 15 = .ok (.isub, 1) := by decide +kernel
theorem d1_16 : decode prog_46_method_2_code 16 = .ok (.ireturn, 1) := by decide +kernel
theorem d1_17 : decode prog_46_method_2_code 17 = .ok (.iload_n 0, 1) := by decide +kernel
theorem d1_18 : decode prog_46_method_2_code 18 = .ok (.bipush 97, 2) := by decide +kernel
theorem d1_20 : decode prog_46_method_2_code 20 = .ok (.if_icmp .lt 17, 3) := by decide +kernel
theorem d1_23 : decode prog_46_method_2_code 23 = .ok (.iload_n 0, 1) := by decide +kernel
theorem d1_24 : decode prog_46_method_2_code 24 = .ok (.bipush 102, 2) := by decide +kernel
theorem d1_26 : decode prog_46_method_2_code 26 = .ok (.if_icmp .gt 11, 3) := by decide +kernel
theorem d1_29 : decode prog_46_method_2_code 29 = .ok (.iload_n 0, 1) := by decide +kernel
theorem d1_30 : decode prog_46_method_2_code 30 = .ok (.bipush 97, 2) := by decide +kernel
theorem d1_32 : decode prog_46_method_2_code 32 = .ok (.isub, 1) := by decide +kernel
theorem d1_33 : decode prog_46_method_2_code 33 = .ok (.bipush 10, 2) := by decide +kernel
theorem d1_35 : decode prog_46_method_2_code 35 = .ok (.iadd, 1) := by decide +kernel
theorem d1_36 : decode prog_46_method_2_code 36 = .ok (.ireturn, 1) := by decide +kernel
theorem d1_37 : decode prog_46_method_2_code 37 = .ok (.iload_n 0, 1) := by decide +kernel
theorem d1_38 : decode prog_46_method_2_code 38 = .ok (.bipush 65, 2) := by decide +kernel
theorem d1_40 : decode prog_46_method_2_code 40 = .ok (.if_icmp .lt 17, 3) := by decide +kernel
theorem d1_43 : decode prog_46_method_2_code 43 = .ok (.iload_n 0, 1) := by decide +kernel
theorem d1_44 : decode prog_46_method_2_code 44 = .ok (.bipush 70, 2) := by decide +kernel
theorem d1_46 : decode prog_46_method_2_code 46 = .ok (.if_icmp .gt 11, 3) := by decide +kernel
theorem d1_49 : decode prog_46_method_2_code 49 = .ok (.iload_n 0, 1) := by decide +kernel
theorem d1_50 : decode prog_46_method_2_code 50 = .ok (.bipush 65, 2) := by decide +kernel
theorem d1_52 : decode prog_46_method_2_code 52 = .ok (.isub, 1) := by decide +kernel
theorem d1_53 : decode prog_46_method_2_code 53 = .ok (.bipush 10, 2) := by decide +kernel
theorem d1_55 : decode prog_46_method_2_code 55 = .ok (.iadd, 1) := by decide +kernel
theorem d1_56 : decode prog_46_method_2_code 56 = .ok (.ireturn, 1) := by decide +kernel
theorem d1_57 : decode prog_46_method_2_code 57 = .ok (.iconst (-1), 1) := by decide +kernel
theorem d1_58 : decode prog_46_method_2_code 58 = .ok (.ireturn, 1) := by decide +kernel
def f1 (p0 : Int32) : Int32 := (if p0 < (48 : Int32) then (if p0 < (97 : Int32) then (if p0 < (65 : Int32) then (-1 : Int32) else (if (70 : Int32) < p0 then (-1 : Int32) else ((p0 - (65 : Int32)) + (10 : Int32)))) else (if (102 : Int32) < p0 then (if p0 < (65 : Int32) then (-1 : Int32) else (if (70 : Int32) < p0 then (-1 : Int32) else ((p0 - (65 : Int32)) + (10 : Int32)))) else ((p0 - (97 : Int32)) + (10 : Int32)))) else (if (57 : Int32) < p0 then (if p0 < (97 : Int32) then (if p0 < (65 : Int32) then (-1 : Int32) else (if (70 : Int32) < p0 then (-1 : Int32) else ((p0 - (65 : Int32)) + (10 : Int32)))) else (if (102 : Int32) < p0 then (if p0 < (65 : Int32) then (-1 : Int32) else (if (70 : Int32) < p0 then (-1 : Int32) else ((p0 - (65 : Int32)) + (10 : Int32)))) else ((p0 - (97 : Int32)) + (10 : Int32)))) else (p0 - (48 : Int32))))
theorem pn_1 : plainName "com/example/katalogd/katalogd/http/HttpSyntax" = true := by first | (simp [plainName, overriddenIn]; done) | decide +kernel
theorem ef_1 (m : MethodId) (p0 : Int32) : entryFrame m #[(.int p0)] 1 = mkF m 0 #[.val (.int p0)] [] := by first | (simp [entryFrame, mkF, argsToLocals, Value.category]; done) | rfl
set_option maxRecDepth 65536 in
set_option maxHeartbeats 40000000 in
theorem rm1 (l : Launch) (Z : State) (a0 : Array Value) (hw : ∀ d ∈ tables_1, d.before a0 Z = true) (ws : List Jvm.Cond) (p0 : Int32) (h0 : Heap) (n0 : Nat) (Z0 : n0 ≤ h0.size) :
    MetFree l (⟨"com/example/katalogd/katalogd/http/HttpSyntax", "hexDigit", "(C)I"⟩ : MethodName) (head1 (Jvm.Cond.code (⟨"com/example/katalogd/katalogd/http/HttpSyntax", "hexDigit", "(C)I"⟩ : MethodName) prog_46_method_2_code 1 (some .int) :: ws) ({ frames := 0, cells := 0, slots := 0, locals := 0 } : Room)) (fun a U => a = #[(.int p0)] ∧ Z.Warmed39 U.vm ∧ U.heap = h0) (fun _ _ _ _ _ => True) (fun _ U o U' => ∃ v L, o = .returned v ∧ own_QV (.int (f1 p0 )) h0 n0 v U'.heap L ∧ FrameEnd U o U' L ({ frames := 0, cells := 0, slots := 0, locals := 0 } : Room).cells ({ frames := 0, cells := 0, slots := 0, locals := 0 } : Room).slots) := by
  refine MetFree.of_bodySF (plainFor_of_name pn_1) hisR ?_
  intro p e s m args below meth c s₁ Bd hml0 hP hK
  obtain ⟨rfl, hZ, hh⟩ := hP
  have hx := Bd.exec
  have hby := Bd.bytes
  have hlk : meth.locks = false := BodyLoose.notSynchronized Bd
  have hret := Bd.returns
  have hml : c.maxLocals = 1 := hml0
  have hown : s.vm.findClass "com/example/katalogd/katalogd/http/HttpSyntax" = some m.cls := findClass_of_methodNamed Bd.named
  have hnm := (name_of_methodNamed Bd.named Bd.method).1
  have X0 : Stand p l e ({ frames := 0, cells := 0, slots := 0, locals := 0 } : Room) s m #[(.int p0)] below meth c s₁ [] 0 0 := Stand.of_body Bd
  have e0 : s₁.heap = h0 := by rw [← hh, Bd.state]; rfl
  have N0 := Fr.nil n0
  show own_G p.tables e below (own_E s ({ frames := 0, cells := 0, slots := 0, locals := 0 } : Room).cells ({ frames := 0, cells := 0, slots := 0, locals := 0 } : Room).slots) (own_QV (.int (f1 p0 )) h0 n0) (s₁.setTop (entryFrame m #[(.int p0)] 1))
  refine own_st ?_ (fun t k => castTop (ef_1 m p0) k)
  show own_G p.tables e below _ _ (s₁.setTop (mkF m 0 #[.val (.int p0)] []))
  refine own_st ?_ (fun t k => XS.iloadN X0.here hx rfl (hb hby d1_0) rfl k)
  show own_G p.tables e below _ _ (s₁.setTop (mkF m 1 #[.val (.int p0)] [(.int p0)]))
  refine own_st ?_ (fun t k => XS.bipush X0.here hx rfl (hb hby d1_1) k)
  show own_G p.tables e below _ _ (s₁.setTop (mkF m 3 #[.val (.int p0)] [(.int (48 : Int32)), (.int p0)]))
  by_cases hc3 : p0 < (48 : Int32)
  · refine own_st ?_ (fun t k => XS.icmpYes X0.here hx rfl (pc0 := 3) (pc' := 17) rfl (hb hby d1_3) rfl (tlt hc3).1 (by decide) (by decide) k)
    show own_G p.tables e below _ _ (s₁.setTop (mkF m 17 #[.val (.int p0)] []))
    refine own_st ?_ (fun t k => XS.iloadN X0.here hx rfl (hb hby d1_17) rfl k)
    show own_G p.tables e below _ _ (s₁.setTop (mkF m 18 #[.val (.int p0)] [(.int p0)]))
    refine own_st ?_ (fun t k => XS.bipush X0.here hx rfl (hb hby d1_18) k)
    show own_G p.tables e below _ _ (s₁.setTop (mkF m 20 #[.val (.int p0)] [(.int (97 : Int32)), (.int p0)]))
    by_cases hc20 : p0 < (97 : Int32)
    · refine own_st ?_ (fun t k => XS.icmpYes X0.here hx rfl (pc0 := 20) (pc' := 37) rfl (hb hby d1_20) rfl (tlt hc20).1 (by decide) (by decide) k)
      show own_G p.tables e below _ _ (s₁.setTop (mkF m 37 #[.val (.int p0)] []))
      refine own_st ?_ (fun t k => XS.iloadN X0.here hx rfl (hb hby d1_37) rfl k)
      show own_G p.tables e below _ _ (s₁.setTop (mkF m 38 #[.val (.int p0)] [(.int p0)]))
      refine own_st ?_ (fun t k => XS.bipush X0.here hx rfl (hb hby d1_38) k)
      show own_G p.tables e below _ _ (s₁.setTop (mkF m 40 #[.val (.int p0)] [(.int (65 : Int32)), (.int p0)]))
      by_cases hc40 : p0 < (65 : Int32)
      · refine own_st ?_ (fun t k => XS.icmpYes X0.here hx rfl (pc0 := 40) (pc' := 57) rfl (hb hby d1_40) rfl (tlt hc40).1 (by decide) (by decide) k)
        show own_G p.tables e below _ _ (s₁.setTop (mkF m 57 #[.val (.int p0)] []))
        refine own_st ?_ (fun t k => XS.iconst X0.here hx rfl (hb hby d1_57) k)
        show own_G p.tables e below _ _ (s₁.setTop (mkF m 58 #[.val (.int p0)] [(.int (-1 : Int32))]))
        refine own_retI X0 hx hlk hret (hb hby d1_58) (by decide) (by decide) ⟨?_, N0, e0⟩
        rw [show f1 p0  = (-1 : Int32) from (if_pos hc3).trans ((if_pos hc20).trans ((if_pos hc40).trans (rfl)))]
      · refine own_st ?_ (fun t k => XS.icmpNo X0.here hx rfl (hb hby d1_40) rfl (flt hc40).1 k)
        show own_G p.tables e below _ _ (s₁.setTop (mkF m 43 #[.val (.int p0)] []))
        refine own_st ?_ (fun t k => XS.iloadN X0.here hx rfl (hb hby d1_43) rfl k)
        show own_G p.tables e below _ _ (s₁.setTop (mkF m 44 #[.val (.int p0)] [(.int p0)]))
        refine own_st ?_ (fun t k => XS.bipush X0.here hx rfl (hb hby d1_44) k)
        show own_G p.tables e below _ _ (s₁.setTop (mkF m 46 #[.val (.int p0)] [(.int (70 : Int32)), (.int p0)]))
        by_cases hc46 : (70 : Int32) < p0
        · refine own_st ?_ (fun t k => XS.icmpYes X0.here hx rfl (pc0 := 46) (pc' := 57) rfl (hb hby d1_46) rfl (tlt hc46).2.2.1 (by decide) (by decide) k)
          show own_G p.tables e below _ _ (s₁.setTop (mkF m 57 #[.val (.int p0)] []))
          refine own_st ?_ (fun t k => XS.iconst X0.here hx rfl (hb hby d1_57) k)
          show own_G p.tables e below _ _ (s₁.setTop (mkF m 58 #[.val (.int p0)] [(.int (-1 : Int32))]))
          refine own_retI X0 hx hlk hret (hb hby d1_58) (by decide) (by decide) ⟨?_, N0, e0⟩
          rw [show f1 p0  = (-1 : Int32) from (if_pos hc3).trans ((if_pos hc20).trans ((if_neg hc40).trans ((if_pos hc46).trans (rfl))))]
        · refine own_st ?_ (fun t k => XS.icmpNo X0.here hx rfl (hb hby d1_46) rfl (flt hc46).2.2.1 k)
          show own_G p.tables e below _ _ (s₁.setTop (mkF m 49 #[.val (.int p0)] []))
          refine own_st ?_ (fun t k => XS.iloadN X0.here hx rfl (hb hby d1_49) rfl k)
          show own_G p.tables e below _ _ (s₁.setTop (mkF m 50 #[.val (.int p0)] [(.int p0)]))
          refine own_st ?_ (fun t k => XS.bipush X0.here hx rfl (hb hby d1_50) k)
          show own_G p.tables e below _ _ (s₁.setTop (mkF m 52 #[.val (.int p0)] [(.int (65 : Int32)), (.int p0)]))
          refine own_st ?_ (fun t k => XS.isub X0.here hx rfl (hb hby d1_52) rfl k)
          show own_G p.tables e below _ _ (s₁.setTop (mkF m 53 #[.val (.int p0)] [(.int (p0 - (65 : Int32)))]))
          refine own_st ?_ (fun t k => XS.bipush X0.here hx rfl (hb hby d1_53) k)
          show own_G p.tables e below _ _ (s₁.setTop (mkF m 55 #[.val (.int p0)] [(.int (10 : Int32)), (.int (p0 - (65 : Int32)))]))
          refine own_st ?_ (fun t k => XS.iadd X0.here hx rfl (hb hby d1_55) rfl k)
          show own_G p.tables e below _ _ (s₁.setTop (mkF m 56 #[.val (.int p0)] [(.int ((p0 - (65 : Int32)) + (10 : Int32)))]))
          refine own_retI X0 hx hlk hret (hb hby d1_56) (by decide) (by decide) ⟨?_, N0, e0⟩
          rw [show f1 p0  = ((p0 - (65 : Int32)) + (10 : Int32)) from (if_pos hc3).trans ((if_pos hc20).trans ((if_neg hc40).trans ((if_neg hc46).trans (rfl))))]
    · refine own_st ?_ (fun t k => XS.icmpNo X0.here hx rfl (hb hby d1_20) rfl (flt hc20).1 k)
      show own_G p.tables e below _ _ (s₁.setTop (mkF m 23 #[.val (.int p0)] []))
      refine own_st ?_ (fun t k => XS.iloadN X0.here hx rfl (hb hby d1_23) rfl k)
      show own_G p.tables e below _ _ (s₁.setTop (mkF m 24 #[.val (.int p0)] [(.int p0)]))
      refine own_st ?_ (fun t k => XS.bipush X0.here hx rfl (hb hby d1_24) k)
      show own_G p.tables e below _ _ (s₁.setTop (mkF m 26 #[.val (.int p0)] [(.int (102 : Int32)), (.int p0)]))
      by_cases hc26 : (102 : Int32) < p0
      · refine own_st ?_ (fun t k => XS.icmpYes X0.here hx rfl (pc0 := 26) (pc' := 37) rfl (hb hby d1_26) rfl (tlt hc26).2.2.1 (by decide) (by decide) k)
        show own_G p.tables e below _ _ (s₁.setTop (mkF m 37 #[.val (.int p0)] []))
        refine own_st ?_ (fun t k => XS.iloadN X0.here hx rfl (hb hby d1_37) rfl k)
        show own_G p.tables e below _ _ (s₁.setTop (mkF m 38 #[.val (.int p0)] [(.int p0)]))
        refine own_st ?_ (fun t k => XS.bipush X0.here hx rfl (hb hby d1_38) k)
        show own_G p.tables e below _ _ (s₁.setTop (mkF m 40 #[.val (.int p0)] [(.int (65 : Int32)), (.int p0)]))
        by_cases hc40 : p0 < (65 : Int32)
        · refine own_st ?_ (fun t k => XS.icmpYes X0.here hx rfl (pc0 := 40) (pc' := 57) rfl (hb hby d1_40) rfl (tlt hc40).1 (by decide) (by decide) k)
          show own_G p.tables e below _ _ (s₁.setTop (mkF m 57 #[.val (.int p0)] []))
          refine own_st ?_ (fun t k => XS.iconst X0.here hx rfl (hb hby d1_57) k)
          show own_G p.tables e below _ _ (s₁.setTop (mkF m 58 #[.val (.int p0)] [(.int (-1 : Int32))]))
          refine own_retI X0 hx hlk hret (hb hby d1_58) (by decide) (by decide) ⟨?_, N0, e0⟩
          rw [show f1 p0  = (-1 : Int32) from (if_pos hc3).trans ((if_neg hc20).trans ((if_pos hc26).trans ((if_pos hc40).trans (rfl))))]
        · refine own_st ?_ (fun t k => XS.icmpNo X0.here hx rfl (hb hby d1_40) rfl (flt hc40).1 k)
          show own_G p.tables e below _ _ (s₁.setTop (mkF m 43 #[.val (.int p0)] []))
          refine own_st ?_ (fun t k => XS.iloadN X0.here hx rfl (hb hby d1_43) rfl k)
          show own_G p.tables e below _ _ (s₁.setTop (mkF m 44 #[.val (.int p0)] [(.int p0)]))
          refine own_st ?_ (fun t k => XS.bipush X0.here hx rfl (hb hby d1_44) k)
          show own_G p.tables e below _ _ (s₁.setTop (mkF m 46 #[.val (.int p0)] [(.int (70 : Int32)), (.int p0)]))
          by_cases hc46 : (70 : Int32) < p0
          · refine own_st ?_ (fun t k => XS.icmpYes X0.here hx rfl (pc0 := 46) (pc' := 57) rfl (hb hby d1_46) rfl (tlt hc46).2.2.1 (by decide) (by decide) k)
            show own_G p.tables e below _ _ (s₁.setTop (mkF m 57 #[.val (.int p0)] []))
            refine own_st ?_ (fun t k => XS.iconst X0.here hx rfl (hb hby d1_57) k)
            show own_G p.tables e below _ _ (s₁.setTop (mkF m 58 #[.val (.int p0)] [(.int (-1 : Int32))]))
            refine own_retI X0 hx hlk hret (hb hby d1_58) (by decide) (by decide) ⟨?_, N0, e0⟩
            rw [show f1 p0  = (-1 : Int32) from (if_pos hc3).trans ((if_neg hc20).trans ((if_pos hc26).trans ((if_neg hc40).trans ((if_pos hc46).trans (rfl)))))]
          · refine own_st ?_ (fun t k => XS.icmpNo X0.here hx rfl (hb hby d1_46) rfl (flt hc46).2.2.1 k)
            show own_G p.tables e below _ _ (s₁.setTop (mkF m 49 #[.val (.int p0)] []))
            refine own_st ?_ (fun t k => XS.iloadN X0.here hx rfl (hb hby d1_49) rfl k)
            show own_G p.tables e below _ _ (s₁.setTop (mkF m 50 #[.val (.int p0)] [(.int p0)]))
            refine own_st ?_ (fun t k => XS.bipush X0.here hx rfl (hb hby d1_50) k)
            show own_G p.tables e below _ _ (s₁.setTop (mkF m 52 #[.val (.int p0)] [(.int (65 : Int32)), (.int p0)]))
            refine own_st ?_ (fun t k => XS.isub X0.here hx rfl (hb hby d1_52) rfl k)
            show own_G p.tables e below _ _ (s₁.setTop (mkF m 53 #[.val (.int p0)] [(.int (p0 - (65 : Int32)))]))
            refine own_st ?_ (fun t k => XS.bipush X0.here hx rfl (hb hby d1_53) k)
            show own_G p.tables e below _ _ (s₁.setTop (mkF m 55 #[.val (.int p0)] [(.int (10 : Int32)), (.int (p0 - (65 : Int32)))]))
            refine own_st ?_ (fun t k => XS.iadd X0.here hx rfl (hb hby d1_55) rfl k)
            show own_G p.tables e below _ _ (s₁.setTop (mkF m 56 #[.val (.int p0)] [(.int ((p0 - (65 : Int32)) + (10 : Int32)))]))
            refine own_retI X0 hx hlk hret (hb hby d1_56) (by decide) (by decide) ⟨?_, N0, e0⟩
            rw [show f1 p0  = ((p0 - (65 : Int32)) + (10 : Int32)) from (if_pos hc3).trans ((if_neg hc20).trans ((if_pos hc26).trans ((if_neg hc40).trans ((if_neg hc46).trans (rfl)))))]
      · refine own_st ?_ (fun t k => XS.icmpNo X0.here hx rfl (hb hby d1_26) rfl (flt hc26).2.2.1 k)
        show own_G p.tables e below _ _ (s₁.setTop (mkF m 29 #[.val (.int p0)] []))
        refine own_st ?_ (fun t k => XS.iloadN X0.here hx rfl (hb hby d1_29) rfl k)
        show own_G p.tables e below _ _ (s₁.setTop (mkF m 30 #[.val (.int p0)] [(.int p0)]))
        refine own_st ?_ (fun t k => XS.bipush X0.here hx rfl (hb hby d1_30) k)
        show own_G p.tables e below _ _ (s₁.setTop (mkF m 32 #[.val (.int p0)] [(.int (97 : Int32)), (.int p0)]))
        refine own_st ?_ (fun t k => XS.isub X0.here hx rfl (hb hby d1_32) rfl k)
        show own_G p.tables e below _ _ (s₁.setTop (mkF m 33 #[.val (.int p0)] [(.int (p0 - (97 : Int32)))]))
        refine own_st ?_ (fun t k => XS.bipush X0.here hx rfl (hb hby d1_33) k)
        show own_G p.tables e below _ _ (s₁.setTop (mkF m 35 #[.val (.int p0)] [(.int (10 : Int32)), (.int (p0 - (97 : Int32)))]))
        refine own_st ?_ (fun t k => XS.iadd X0.here hx rfl (hb hby d1_35) rfl k)
        show own_G p.tables e below _ _ (s₁.setTop (mkF m 36 #[.val (.int p0)] [(.int ((p0 - (97 : Int32)) + (10 : Int32)))]))
        refine own_retI X0 hx hlk hret (hb hby d1_36) (by decide) (by decide) ⟨?_, N0, e0⟩
        rw [show f1 p0  = ((p0 - (97 : Int32)) + (10 : Int32)) from (if_pos hc3).trans ((if_neg hc20).trans ((if_neg hc26).trans (rfl)))]
  · refine own_st ?_ (fun t k => XS.icmpNo X0.here hx rfl (hb hby d1_3) rfl (flt hc3).1 k)
    show own_G p.tables e below _ _ (s₁.setTop (mkF m 6 #[.val (.int p0)] []))
    refine own_st ?_ (fun t k => XS.iloadN X0.here hx rfl (hb hby d1_6) rfl k)
    show own_G p.tables e below _ _ (s₁.setTop (mkF m 7 #[.val (.int p0)] [(.int p0)]))
    refine own_st ?_ (fun t k => XS.bipush X0.here hx rfl (hb hby d1_7) k)
    show own_G p.tables e below _ _ (s₁.setTop (mkF m 9 #[.val (.int p0)] [(.int (57 : Int32)), (.int p0)]))
    by_cases hc9 : (57 : Int32) < p0
    · refine own_st ?_ (fun t k => XS.icmpYes X0.here hx rfl (pc0 := 9) (pc' := 17) rfl (hb hby d1_9) rfl (tlt hc9).2.2.1 (by decide) (by decide) k)
      show own_G p.tables e below _ _ (s₁.setTop (mkF m 17 #[.val (.int p0)] []))
      refine own_st ?_ (fun t k => XS.iloadN X0.here hx rfl (hb hby d1_17) rfl k)
      show own_G p.tables e below _ _ (s₁.setTop (mkF m 18 #[.val (.int p0)] [(.int p0)]))
      refine own_st ?_ (fun t k => XS.bipush X0.here hx rfl (hb hby d1_18) k)
      show own_G p.tables e below _ _ (s₁.setTop (mkF m 20 #[.val (.int p0)] [(.int (97 : Int32)), (.int p0)]))
      by_cases hc20 : p0 < (97 : Int32)
      · refine own_st ?_ (fun t k => XS.icmpYes X0.here hx rfl (pc0 := 20) (pc' := 37) rfl (hb hby d1_20) rfl (tlt hc20).1 (by decide) (by decide) k)
        show own_G p.tables e below _ _ (s₁.setTop (mkF m 37 #[.val (.int p0)] []))
        refine own_st ?_ (fun t k => XS.iloadN X0.here hx rfl (hb hby d1_37) rfl k)
        show own_G p.tables e below _ _ (s₁.setTop (mkF m 38 #[.val (.int p0)] [(.int p0)]))
        refine own_st ?_ (fun t k => XS.bipush X0.here hx rfl (hb hby d1_38) k)
        show own_G p.tables e below _ _ (s₁.setTop (mkF m 40 #[.val (.int p0)] [(.int (65 : Int32)), (.int p0)]))
        by_cases hc40 : p0 < (65 : Int32)
        · refine own_st ?_ (fun t k => XS.icmpYes X0.here hx rfl (pc0 := 40) (pc' := 57) rfl (hb hby d1_40) rfl (tlt hc40).1 (by decide) (by decide) k)
          show own_G p.tables e below _ _ (s₁.setTop (mkF m 57 #[.val (.int p0)] []))
          refine own_st ?_ (fun t k => XS.iconst X0.here hx rfl (hb hby d1_57) k)
          show own_G p.tables e below _ _ (s₁.setTop (mkF m 58 #[.val (.int p0)] [(.int (-1 : Int32))]))
          refine own_retI X0 hx hlk hret (hb hby d1_58) (by decide) (by decide) ⟨?_, N0, e0⟩
          rw [show f1 p0  = (-1 : Int32) from (if_neg hc3).trans ((if_pos hc9).trans ((if_pos hc20).trans ((if_pos hc40).trans (rfl))))]
        · refine own_st ?_ (fun t k => XS.icmpNo X0.here hx rfl (hb hby d1_40) rfl (flt hc40).1 k)
          show own_G p.tables e below _ _ (s₁.setTop (mkF m 43 #[.val (.int p0)] []))
          refine own_st ?_ (fun t k => XS.iloadN X0.here hx rfl (hb hby d1_43) rfl k)
          show own_G p.tables e below _ _ (s₁.setTop (mkF m 44 #[.val (.int p0)] [(.int p0)]))
          refine own_st ?_ (fun t k => XS.bipush X0.here hx rfl (hb hby d1_44) k)
          show own_G p.tables e below _ _ (s₁.setTop (mkF m 46 #[.val (.int p0)] [(.int (70 : Int32)), (.int p0)]))
          by_cases hc46 : (70 : Int32) < p0
          · refine own_st ?_ (fun t k => XS.icmpYes X0.here hx rfl (pc0 := 46) (pc' := 57) rfl (hb hby d1_46) rfl (tlt hc46).2.2.1 (by decide) (by decide) k)
            show own_G p.tables e below _ _ (s₁.setTop (mkF m 57 #[.val (.int p0)] []))
            refine own_st ?_ (fun t k => XS.iconst X0.here hx rfl (hb hby d1_57) k)
            show own_G p.tables e below _ _ (s₁.setTop (mkF m 58 #[.val (.int p0)] [(.int (-1 : Int32))]))
            refine own_retI X0 hx hlk hret (hb hby d1_58) (by decide) (by decide) ⟨?_, N0, e0⟩
            rw [show f1 p0  = (-1 : Int32) from (if_neg hc3).trans ((if_pos hc9).trans ((if_pos hc20).trans ((if_neg hc40).trans ((if_pos hc46).trans (rfl)))))]
          · refine own_st ?_ (fun t k => XS.icmpNo X0.here hx rfl (hb hby d1_46) rfl (flt hc46).2.2.1 k)
            show own_G p.tables e below _ _ (s₁.setTop (mkF m 49 #[.val (.int p0)] []))
            refine own_st ?_ (fun t k => XS.iloadN X0.here hx rfl (hb hby d1_49) rfl k)
            show own_G p.tables e below _ _ (s₁.setTop (mkF m 50 #[.val (.int p0)] [(.int p0)]))
            refine own_st ?_ (fun t k => XS.bipush X0.here hx rfl (hb hby d1_50) k)
            show own_G p.tables e below _ _ (s₁.setTop (mkF m 52 #[.val (.int p0)] [(.int (65 : Int32)), (.int p0)]))
            refine own_st ?_ (fun t k => XS.isub X0.here hx rfl (hb hby d1_52) rfl k)
            show own_G p.tables e below _ _ (s₁.setTop (mkF m 53 #[.val (.int p0)] [(.int (p0 - (65 : Int32)))]))
            refine own_st ?_ (fun t k => XS.bipush X0.here hx rfl (hb hby d1_53) k)
            show own_G p.tables e below _ _ (s₁.setTop (mkF m 55 #[.val (.int p0)] [(.int (10 : Int32)), (.int (p0 - (65 : Int32)))]))
            refine own_st ?_ (fun t k => XS.iadd X0.here hx rfl (hb hby d1_55) rfl k)
            show own_G p.tables e below _ _ (s₁.setTop (mkF m 56 #[.val (.int p0)] [(.int ((p0 - (65 : Int32)) + (10 : Int32)))]))
            refine own_retI X0 hx hlk hret (hb hby d1_56) (by decide) (by decide) ⟨?_, N0, e0⟩
            rw [show f1 p0  = ((p0 - (65 : Int32)) + (10 : Int32)) from (if_neg hc3).trans ((if_pos hc9).trans ((if_pos hc20).trans ((if_neg hc40).trans ((if_neg hc46).trans (rfl)))))]
      · refine own_st ?_ (fun t k => XS.icmpNo X0.here hx rfl (hb hby d1_20) rfl (flt hc20).1 k)
        show own_G p.tables e below _ _ (s₁.setTop (mkF m 23 #[.val (.int p0)] []))
        refine own_st ?_ (fun t k => XS.iloadN X0.here hx rfl (hb hby d1_23) rfl k)
        show own_G p.tables e below _ _ (s₁.setTop (mkF m 24 #[.val (.int p0)] [(.int p0)]))
        refine own_st ?_ (fun t k => XS.bipush X0.here hx rfl (hb hby d1_24) k)
        show own_G p.tables e below _ _ (s₁.setTop (mkF m 26 #[.val (.int p0)] [(.int (102 : Int32)), (.int p0)]))
        by_cases hc26 : (102 : Int32) < p0
        · refine own_st ?_ (fun t k => XS.icmpYes X0.here hx rfl (pc0 := 26) (pc' := 37) rfl (hb hby d1_26) rfl (tlt hc26).2.2.1 (by decide) (by decide) k)
          show own_G p.tables e below _ _ (s₁.setTop (mkF m 37 #[.val (.int p0)] []))
          refine own_st ?_ (fun t k => XS.iloadN X0.here hx rfl (hb hby d1_37) rfl k)
          show own_G p.tables e below _ _ (s₁.setTop (mkF m 38 #[.val (.int p0)] [(.int p0)]))
          refine own_st ?_ (fun t k => XS.bipush X0.here hx rfl (hb hby d1_38) k)
          show own_G p.tables e below _ _ (s₁.setTop (mkF m 40 #[.val (.int p0)] [(.int (65 : Int32)), (.int p0)]))
          by_cases hc40 : p0 < (65 : Int32)
          · refine own_st ?_ (fun t k => XS.icmpYes X0.here hx rfl (pc0 := 40) (pc' := 57) rfl (hb hby d1_40) rfl (tlt hc40).1 (by decide) (by decide) k)
            show own_G p.tables e below _ _ (s₁.setTop (mkF m 57 #[.val (.int p0)] []))
            refine own_st ?_ (fun t k => XS.iconst X0.here hx rfl (hb hby d1_57) k)
            show own_G p.tables e below _ _ (s₁.setTop (mkF m 58 #[.val (.int p0)] [(.int (-1 : Int32))]))
            refine own_retI X0 hx hlk hret (hb hby d1_58) (by decide) (by decide) ⟨?_, N0, e0⟩
            rw [show f1 p0  = (-1 : Int32) from (if_neg hc3).trans ((if_pos hc9).trans ((if_neg hc20).trans ((if_pos hc26).trans ((if_pos hc40).trans (rfl)))))]
          · refine own_st ?_ (fun t k => XS.icmpNo X0.here hx rfl (hb hby d1_40) rfl (flt hc40).1 k)
            show own_G p.tables e below _ _ (s₁.setTop (mkF m 43 #[.val (.int p0)] []))
            refine own_st ?_ (fun t k => XS.iloadN X0.here hx rfl (hb hby d1_43) rfl k)
            show own_G p.tables e below _ _ (s₁.setTop (mkF m 44 #[.val (.int p0)] [(.int p0)]))
            refine own_st ?_ (fun t k => XS.bipush X0.here hx rfl (hb hby d1_44) k)
            show own_G p.tables e below _ _ (s₁.setTop (mkF m 46 #[.val (.int p0)] [(.int (70 : Int32)), (.int p0)]))
            by_cases hc46 : (70 : Int32) < p0
            · refine own_st ?_ (fun t k => XS.icmpYes X0.here hx rfl (pc0 := 46) (pc' := 57) rfl (hb hby d1_46) rfl (tlt hc46).2.2.1 (by decide) (by decide) k)
              show own_G p.tables e below _ _ (s₁.setTop (mkF m 57 #[.val (.int p0)] []))
              refine own_st ?_ (fun t k => XS.iconst X0.here hx rfl (hb hby d1_57) k)
              show own_G p.tables e below _ _ (s₁.setTop (mkF m 58 #[.val (.int p0)] [(.int (-1 : Int32))]))
              refine own_retI X0 hx hlk hret (hb hby d1_58) (by decide) (by decide) ⟨?_, N0, e0⟩
              rw [show f1 p0  = (-1 : Int32) from (if_neg hc3).trans ((if_pos hc9).trans ((if_neg hc20).trans ((if_pos hc26).trans ((if_neg hc40).trans ((if_pos hc46).trans (rfl))))))]
            · refine own_st ?_ (fun t k => XS.icmpNo X0.here hx rfl (hb hby d1_46) rfl (flt hc46).2.2.1 k)
              show own_G p.tables e below _ _ (s₁.setTop (mkF m 49 #[.val (.int p0)] []))
              refine own_st ?_ (fun t k => XS.iloadN X0.here hx rfl (hb hby d1_49) rfl k)
              show own_G p.tables e below _ _ (s₁.setTop (mkF m 50 #[.val (.int p0)] [(.int p0)]))
              refine own_st ?_ (fun t k => XS.bipush X0.here hx rfl (hb hby d1_50) k)
              show own_G p.tables e below _ _ (s₁.setTop (mkF m 52 #[.val (.int p0)] [(.int (65 : Int32)), (.int p0)]))
              refine own_st ?_ (fun t k => XS.isub X0.here hx rfl (hb hby d1_52) rfl k)
              show own_G p.tables e below _ _ (s₁.setTop (mkF m 53 #[.val (.int p0)] [(.int (p0 - (65 : Int32)))]))
              refine own_st ?_ (fun t k => XS.bipush X0.here hx rfl (hb hby d1_53) k)
              show own_G p.tables e below _ _ (s₁.setTop (mkF m 55 #[.val (.int p0)] [(.int (10 : Int32)), (.int (p0 - (65 : Int32)))]))
              refine own_st ?_ (fun t k => XS.iadd X0.here hx rfl (hb hby d1_55) rfl k)
              show own_G p.tables e below _ _ (s₁.setTop (mkF m 56 #[.val (.int p0)] [(.int ((p0 - (65 : Int32)) + (10 : Int32)))]))
              refine own_retI X0 hx hlk hret (hb hby d1_56) (by decide) (by decide) ⟨?_, N0, e0⟩
              rw [show f1 p0  = ((p0 - (65 : Int32)) + (10 : Int32)) from (if_neg hc3).trans ((if_pos hc9).trans ((if_neg hc20).trans ((if_pos hc26).trans ((if_neg hc40).trans ((if_neg hc46).trans (rfl))))))]
        · refine own_st ?_ (fun t k => XS.icmpNo X0.here hx rfl (hb hby d1_26) rfl (flt hc26).2.2.1 k)
          show own_G p.tables e below _ _ (s₁.setTop (mkF m 29 #[.val (.int p0)] []))
          refine own_st ?_ (fun t k => XS.iloadN X0.here hx rfl (hb hby d1_29) rfl k)
          show own_G p.tables e below _ _ (s₁.setTop (mkF m 30 #[.val (.int p0)] [(.int p0)]))
          refine own_st ?_ (fun t k => XS.bipush X0.here hx rfl (hb hby d1_30) k)
          show own_G p.tables e below _ _ (s₁.setTop (mkF m 32 #[.val (.int p0)] [(.int (97 : Int32)), (.int p0)]))
          refine own_st ?_ (fun t k => XS.isub X0.here hx rfl (hb hby d1_32) rfl k)
          show own_G p.tables e below _ _ (s₁.setTop (mkF m 33 #[.val (.int p0)] [(.int (p0 - (97 : Int32)))]))
          refine own_st ?_ (fun t k => XS.bipush X0.here hx rfl (hb hby d1_33) k)
          show own_G p.tables e below _ _ (s₁.setTop (mkF m 35 #[.val (.int p0)] [(.int (10 : Int32)), (.int (p0 - (97 : Int32)))]))
          refine own_st ?_ (fun t k => XS.iadd X0.here hx rfl (hb hby d1_35) rfl k)
          show own_G p.tables e below _ _ (s₁.setTop (mkF m 36 #[.val (.int p0)] [(.int ((p0 - (97 : Int32)) + (10 : Int32)))]))
          refine own_retI X0 hx hlk hret (hb hby d1_36) (by decide) (by decide) ⟨?_, N0, e0⟩
          rw [show f1 p0  = ((p0 - (97 : Int32)) + (10 : Int32)) from (if_neg hc3).trans ((if_pos hc9).trans ((if_neg hc20).trans ((if_neg hc26).trans (rfl))))]
    · refine own_st ?_ (fun t k => XS.icmpNo X0.here hx rfl (hb hby d1_9) rfl (flt hc9).2.2.1 k)
      show own_G p.tables e below _ _ (s₁.setTop (mkF m 12 #[.val (.int p0)] []))
      refine own_st ?_ (fun t k => XS.iloadN X0.here hx rfl (hb hby d1_12) rfl k)
      show own_G p.tables e below _ _ (s₁.setTop (mkF m 13 #[.val (.int p0)] [(.int p0)]))
      refine own_st ?_ (fun t k => XS.bipush X0.here hx rfl (hb hby d1_13) k)
      show own_G p.tables e below _ _ (s₁.setTop (mkF m 15 #[.val (.int p0)] [(.int (48 : Int32)), (.int p0)]))
      refine own_st ?_ (fun t k => XS.isub X0.here hx rfl (hb hby d1_15) rfl k)
      show own_G p.tables e below _ _ (s₁.setTop (mkF m 16 #[.val (.int p0)] [(.int (p0 - (48 : Int32)))]))
      refine own_retI X0 hx hlk hret (hb hby d1_16) (by decide) (by decide) ⟨?_, N0, e0⟩
      rw [show f1 p0  = (p0 - (48 : Int32)) from (if_neg hc3).trans ((if_neg hc9).trans (rfl))]
theorem own_strs : ∀ a ∈ Bundle.stringAtoms, a ∈ tables_1 := by decide +kernel
theorem own_frs {n0 : Nat} {h0 : Heap} {s : State} {L : List Loc} (N : Fr n0 L) (e : n0 = h0.size) (hh : s.heap = h0) : Fr s.heap.size L := by rw [hh, ← e]; exact N
/-- the text that the sheet's i-th word names, its signs as signed bytes, what place j of them holds -/
def own_text (i : Nat) : String := match tables_1[i]? with
  | some (.stringLink _ _ t) => t
  | _ => ""
def own_bs (i : Nat) : List Int32 := (own_text i).toList.map fun c => Jvm.Lit.byteI c.toNat.toUInt16
def own_g (i j : Nat) : Int32 := (own_bs i).getD j 0
def own_vs (i : Nat) : List Value := (own_bs i).map Value.int
/-- a byte[] of n places that hold g -/
def own_C (Z : State) (h : Heap) (t : Addr) (n : Nat) (g : Nat → Int32) : Prop := ∃ c : Cell, Arr Z h t c .byte ∧ c.slots.size = n ∧ ∀ i, i < n → c.slots[i]? = some (.int (g i))
theorem own_C_ext {Z : State} {h h' : Heap} {t : Addr} {n : Nat} {g : Nat → Int32} (F : own_C Z h t n g) (E : Ext h h') : own_C Z h' t n g := by obtain ⟨c, A, r⟩ := F; exact ⟨c, A.ext E, r⟩
theorem own_C_of {Z : State} {h : Heap} {t : Addr} {k : ClassId} {n i : Nat} (F : Arv Z h t k .byte (Int32.ofNat n) (own_vs i) (.int 0)) (hn : n < 2 ^ 31) : own_C Z h t n (own_g i) := by
  obtain ⟨c, A, -, S, -, H, -⟩ := F
  have S' : c.slots.size = n := by rw [S, Int32.toNatClampNeg, Int32.toInt_ofNat_of_lt hn]; rfl
  refine ⟨c, A, S', fun j hj => ?_⟩
  rw [H j (by omega), own_vs, own_g]
  simp only [List.getD_eq_getElem?_getD, List.getElem?_map]
  cases (own_bs i)[j]? <;> rfl
theorem own_nz {args : Array Value} {s : State} {z : Int32} (ez : (Term.static "java/lang/String" "COMPACT_STRINGS" "Z").eval args s none [] s = some (.int z)) (h : Jvm.Lit.compactW.before args s = true) : ¬ z = 0 := by
  intro q; subst q
  have h2 := not_v (Cond.before_iff.mp h)
  simp only [Jvm.Cond.value, ez] at h2
  simp [Term.eval] at h2
theorem d6_0 : decode jdk_41_method_11_code 0 = .ok (.iload_n 0, 1) := by decide +kernel
theorem d6_1 : decode jdk_41_method_11_code 1 = .ok (.ifCond .lt 8, 3) := by decide +kernel
theorem d6_4 : decode jdk_41_method_11_code 4 = .ok (.iload_n 0, 1) := by decide +kernel
theorem d6_5 : decode jdk_41_method_11_code 5 = .ok (.iload_n 1, 1) := by decide +kernel
theorem d6_6 : decode jdk_41_method_11_code 6 = .ok (.if_icmp .lt 10, 3) := by decide +kernel
theorem d6_16 : decode jdk_41_method_11_code 16 = .ok (.iload_n 0, 1) := by decide +kernel
theorem d6_17 : decode jdk_41_method_11_code 17 = .ok (.ireturn, 1) := by decide +kernel
def f6 (p0 : Int32) (p1 : Int32) (fm : Value) : Int32 := p0
theorem pn_6 : plainName "jdk/internal/util/Preconditions" = true := by first | (simp [plainName, overriddenIn]; done) | decide +kernel
theorem ef_6 (m : MethodId) (p0 : Int32) (p1 : Int32) (fm : Value) (rf_fm : fm.isRef = true) : entryFrame m #[(.int p0), (.int p1), fm] 3 = mkF m 0 #[.val (.int p0), .val (.int p1), .val fm] [] := by rcases ref_cases rf_fm with rfl | ⟨_, rfl⟩ <;> first | (simp [entryFrame, mkF, argsToLocals, Value.category]; done) | rfl
set_option maxRecDepth 65536 in
set_option maxHeartbeats 40000000 in
theorem rm6 (l : Launch) (Z : State) (a0 : Array Value) (hw : ∀ d ∈ tables_1, d.before a0 Z = true) (ws : List Jvm.Cond) (p0 : Int32) (p1 : Int32) (fm : Value) (h0 : Heap) (n0 : Nat) (Z0 : n0 ≤ h0.size) (rf_fm : fm.isRef = true) (hj0 : ¬ p0 < 0) (hjn : p0 < p1) :
    MetFree l (⟨"jdk/internal/util/Preconditions", "checkIndex", "(IILjava/util/function/BiFunction;)I"⟩ : MethodName) (head1 (Jvm.Cond.code (⟨"jdk/internal/util/Preconditions", "checkIndex", "(IILjava/util/function/BiFunction;)I"⟩ : MethodName) jdk_41_method_11_code 3 (some .int) :: ws) ({ frames := 0, cells := 0, slots := 0, locals := 0 } : Room)) (fun a U => a = #[(.int p0), (.int p1), fm] ∧ Z.Warmed39 U.vm ∧ U.heap = h0) (fun _ _ _ _ _ => True) (fun _ U o U' => ∃ v L, o = .returned v ∧ own_QV (.int (f6 p0 p1 fm )) h0 n0 v U'.heap L ∧ FrameEnd U o U' L ({ frames := 0, cells := 0, slots := 0, locals := 0 } : Room).cells ({ frames := 0, cells := 0, slots := 0, locals := 0 } : Room).slots) := by
  refine MetFree.of_bodySF (plainFor_of_name pn_6) hisR ?_
  intro p e s m args below meth c s₁ Bd hml0 hP hK
  obtain ⟨rfl, hZ, hh⟩ := hP
  have hx := Bd.exec
  have hby := Bd.bytes
  have hlk : meth.locks = false := BodyLoose.notSynchronized Bd
  have hret := Bd.returns
  have hml : c.maxLocals = 3 := hml0
  have hown : s.vm.findClass "jdk/internal/util/Preconditions" = some m.cls := findClass_of_methodNamed Bd.named
  have hnm := (name_of_methodNamed Bd.named Bd.method).1
  have X0 : Stand p l e ({ frames := 0, cells := 0, slots := 0, locals := 0 } : Room) s m #[(.int p0), (.int p1), fm] below meth c s₁ [] 0 0 := Stand.of_body Bd
  have e0 : s₁.heap = h0 := by rw [← hh, Bd.state]; rfl
  have N0 := Fr.nil n0
  show own_G p.tables e below (own_E s ({ frames := 0, cells := 0, slots := 0, locals := 0 } : Room).cells ({ frames := 0, cells := 0, slots := 0, locals := 0 } : Room).slots) (own_QV (.int (f6 p0 p1 fm )) h0 n0) (s₁.setTop (entryFrame m #[(.int p0), (.int p1), fm] 3))
  refine own_st ?_ (fun t k => castTop (ef_6 m p0 p1 fm rf_fm) k)
  show own_G p.tables e below _ _ (s₁.setTop (mkF m 0 #[.val (.int p0), .val (.int p1), .val fm] []))
  refine own_st ?_ (fun t k => XS.iloadN X0.here hx rfl (hb hby d6_0) rfl k)
  show own_G p.tables e below _ _ (s₁.setTop (mkF m 1 #[.val (.int p0), .val (.int p1), .val fm] [(.int p0)]))
  refine own_st ?_ (fun t k => XS.ifNo X0.here hx rfl (hb hby d6_1) rfl ((if0 _ _).trans (flt hj0).1) k)
  show own_G p.tables e below _ _ (s₁.setTop (mkF m 4 #[.val (.int p0), .val (.int p1), .val fm] []))
  refine own_st ?_ (fun t k => XS.iloadN X0.here hx rfl (hb hby d6_4) rfl k)
  show own_G p.tables e below _ _ (s₁.setTop (mkF m 5 #[.val (.int p0), .val (.int p1), .val fm] [(.int p0)]))
  refine own_st ?_ (fun t k => XS.iloadN X0.here hx rfl (hb hby d6_5) rfl k)
  show own_G p.tables e below _ _ (s₁.setTop (mkF m 6 #[.val (.int p0), .val (.int p1), .val fm] [(.int p1), (.int p0)]))
  refine own_st ?_ (fun t k => XS.icmpYes X0.here hx rfl (pc0 := 6) (pc' := 16) rfl (hb hby d6_6) rfl (tlt hjn).1 (by decide) (by decide) k)
  show own_G p.tables e below _ _ (s₁.setTop (mkF m 16 #[.val (.int p0), .val (.int p1), .val fm] []))
  refine own_st ?_ (fun t k => XS.iloadN X0.here hx rfl (hb hby d6_16) rfl k)
  show own_G p.tables e below _ _ (s₁.setTop (mkF m 17 #[.val (.int p0), .val (.int p1), .val fm] [(.int p0)]))
  refine own_retI X0 hx hlk hret (hb hby d6_17) (by decide) (by decide) ⟨?_, N0, e0⟩
  rw [show f6 p0 p1 fm  = p0 from rfl]
theorem pd_0 : parseMethodDescriptor "(IILjava/util/function/BiFunction;)I" = some ⟨[.int, .int, (.object "java/util/function/BiFunction")], some .int⟩ := by decide +kernel
theorem d5_0 : decode jdk_42_method_155_code 0 = .ok (.iload_n 0, 1) := by decide +kernel
theorem d5_1 : decode jdk_42_method_155_code 1 = .ok (.iload_n 1, 1) := by decide +kernel
theorem d5_2 : decode jdk_42_method_155_code 2 = .ok (.getstatic 1053, 3) := by decide +kernel
theorem d5_5 : decode jdk_42_method_155_code 5 = .ok (.invokestatic 1059, 3) := by decide +kernel
theorem d5_8 : decode jdk_42_method_155_code 8 = .ok (.pop, 1) := by decide +kernel
theorem d5_9 : decode jdk_42_method_155_code 9 = .ok (.return_, 1) := by decide +kernel
theorem pn_5 : plainName "java/lang/String" = true := by first | (simp [plainName, overriddenIn]; done) | decide +kernel
theorem ef_5 (m : MethodId) (p0 : Int32) (p1 : Int32) : entryFrame m #[(.int p0), (.int p1)] 2 = mkF m 0 #[.val (.int p0), .val (.int p1)] [] := by first | (simp [entryFrame, mkF, argsToLocals, Value.category]; done) | rfl
set_option maxRecDepth 65536 in
set_option maxHeartbeats 40000000 in
theorem rm5 (l : Launch) (Z : State) (a0 : Array Value) (hw : ∀ d ∈ tables_1, d.before a0 Z = true) (ws : List Jvm.Cond) (p0 : Int32) (p1 : Int32) (fm : Value) (h0 : Heap) (n0 : Nat) (Z0 : n0 ≤ h0.size) (S2 : Sta Z h0 "jdk/internal/util/Preconditions" "SIOOBE_FORMATTER" "Ljava/util/function/BiFunction;" fm) (rf_fm : fm.isRef = true) (hj0 : ¬ p0 < 0) (hjn : p0 < p1) :
    MetFree l (⟨"java/lang/String", "checkIndex", "(II)V"⟩ : MethodName) (head1 (Jvm.Cond.code (⟨"java/lang/String", "checkIndex", "(II)V"⟩ : MethodName) jdk_42_method_155_code 2 none :: ws) ({ frames := 1, cells := 0, slots := 0, locals := 14 } : Room)) (fun a U => a = #[(.int p0), (.int p1)] ∧ Z.Warmed39 U.vm ∧ U.heap = h0) (fun _ _ _ _ _ => True) (fun _ U o U' => ∃ v L, o = .returned v ∧ own_QN h0 n0 v U'.heap L ∧ FrameEnd U o U' L ({ frames := 1, cells := 0, slots := 0, locals := 14 } : Room).cells ({ frames := 1, cells := 0, slots := 0, locals := 14 } : Room).slots) := by
  refine MetFree.of_bodySF (plainFor_of_name pn_5) hisR ?_
  intro p e s m args below meth c s₁ Bd hml0 hP hK
  obtain ⟨rfl, hZ, hh⟩ := hP
  have hx := Bd.exec
  have hby := Bd.bytes
  have hlk : meth.locks = false := BodyLoose.notSynchronized Bd
  have hret := Bd.returns
  have hml : c.maxLocals = 2 := hml0
  have hown : s.vm.findClass "java/lang/String" = some m.cls := findClass_of_methodNamed Bd.named
  have hnm := (name_of_methodNamed Bd.named Bd.method).1
  have X0 : Stand p l e ({ frames := 1, cells := 0, slots := 0, locals := 14 } : Room) s m #[(.int p0), (.int p1)] below meth c s₁ [] 0 0 := Stand.of_body Bd
  have e0 : s₁.heap = h0 := by rw [← hh, Bd.state]; rfl
  have N0 := Fr.nil n0
  show own_G p.tables e below (own_E s ({ frames := 1, cells := 0, slots := 0, locals := 14 } : Room).cells ({ frames := 1, cells := 0, slots := 0, locals := 14 } : Room).slots) (own_QN h0 n0) (s₁.setTop (entryFrame m #[(.int p0), (.int p1)] 2))
  refine own_st ?_ (fun t k => castTop (ef_5 m p0 p1) k)
  show own_G p.tables e below _ _ (s₁.setTop (mkF m 0 #[.val (.int p0), .val (.int p1)] []))
  refine own_st ?_ (fun t k => XS.iloadN X0.here hx rfl (hb hby d5_0) rfl k)
  show own_G p.tables e below _ _ (s₁.setTop (mkF m 1 #[.val (.int p0), .val (.int p1)] [(.int p0)]))
  refine own_st ?_ (fun t k => XS.iloadN X0.here hx rfl (hb hby d5_1) rfl k)
  show own_G p.tables e below _ _ (s₁.setTop (mkF m 2 #[.val (.int p0), .val (.int p1)] [(.int p1), (.int p0)]))
  obtain ⟨T1, X1, e1, st1⟩ := getS2 X0 hx hZ hown (host := "") (Or.inl (hw _ (List.mem_of_getElem? (i := 34) rfl))) Via.refl e0 S2 (g := (mkF m 2 #[.val (.int p0), .val (.int p1)] [(.int p1), (.int p0)])) rfl (hb hby d5_2)
  refine own_st ?_ st1
  show own_G p.tables e below _ _ (T1.setTop (mkF m 5 #[.val (.int p0), .val (.int p1)] [fm, (.int p1), (.int p0)]))
  obtain ⟨_, _, ⟨T2, L2, k2, n2⟩, -, X2, ⟨Lc2, hQ2, l2, y2, z2⟩, st2⟩ := Jvm.LawKit.callS X1 hx (y := (⟨"jdk/internal/util/Preconditions", "checkIndex", "(IILjava/util/function/BiFunction;)I"⟩ : MethodName)) hown (mvT hZ (hw _ (List.mem_of_getElem? (i := 36) rfl))) (mvT hZ (hw _ (List.mem_of_getElem? (i := 37) rfl))) (mvT hZ (hw _ (List.mem_of_getElem? (i := 35) rfl))) (mvT hZ (hw _ (List.mem_of_getElem? (i := 38) rfl))) (by decide) (backOf (W := 0) (rm6 l Z _ hw [] p0 p1 fm  h0 n0 Z0 rf_fm hj0 hjn) hZ (hw _ (List.mem_of_getElem? (i := 38) rfl)) (hw _ (List.mem_of_getElem? (i := 35) rfl)) (by decide) (by decide)) (g := (mkF m 5 #[.val (.int p0), .val (.int p1)] [fm, (.int p1), (.int p0)])) rfl (by rw [hml]; rfl) (argsL := [(.int p0), (.int p1), fm]) (rest := []) (lenOf pd_0 rfl) rfl (by show 2 * 0 + _ ≤ _; exact Nat.le_of_eq rfl) (hb hby d5_5) (fun _ _ => ⟨rfl, e1, (by decide : 0 + 0 ≤ _), (by decide : 0 + 0 ≤ _)⟩)
  dsimp only [Pt.U, Pt.locs, Pt.cells, Pt.slots] at X2 l2 y2 z2 st2 hQ2
  subst l2 y2 z2
  obtain ⟨rfl, N2q, e2⟩ := hQ2
  have N2 := Fr.app N0 N2q
  refine own_st ?_ st2
  show own_G p.tables e below _ _ (T2.setTop (mkF m 8 #[.val (.int p0), .val (.int p1)] [(.int (f6 p0 p1 fm))]))
  refine own_st ?_ (fun t k => XS.pop X2.here hx rfl (hb hby d5_8) rfl rfl k)
  show own_G p.tables e below _ _ (T2.setTop (mkF m 9 #[.val (.int p0), .val (.int p1)] []))
  exact own_retV X2 hx hlk hret (hb hby d5_9) (by decide) (by decide) ⟨rfl, N2, e2⟩
theorem own_tin {n : Nat} {j : Int32} (h0 : ¬ j < 0) (hn : n < 2 ^ 31) (h : j.toNatClampNeg < n) : j < n.toInt32 := by
  have e0 : (0 : Int32).toInt = 0 := by decide
  rw [Int32.lt_iff_toInt_lt, e0] at h0
  rw [Int32.lt_iff_toInt_lt, len_toInt hn]
  rw [Int32.toNatClampNeg] at h; omega
theorem own_nin {n : Nat} {j : Int32} (h0 : ¬ j < 0) (h : j.toNatClampNeg < n) : ¬ (j < 0 ∨ n ≤ j.toNatClampNeg) := fun q => q.elim h0 (fun z => by omega)
theorem pd_1 : parseMethodDescriptor "(II)V" = some ⟨[.int, .int], none⟩ := by decide +kernel
theorem d4_0 : decode jdk_43_method_2_code 0 = .ok (.iload_n 1, 1) := by decide +kernel
theorem d4_1 : decode jdk_43_method_2_code 1 = .ok (.aload_n 0, 1) := by decide +kernel
theorem d4_2 : decode jdk_43_method_2_code 2 = .ok (.arraylength, 1) := by decide +kernel
theorem d4_3 : decode jdk_43_method_2_code 3 = .ok (.invokestatic 9, 3) := by decide +kernel
theorem d4_6 : decode jdk_43_method_2_code 6 = .ok (.aload_n 0, 1) := by decide +kernel
theorem d4_7 : decode jdk_43_method_2_code 7 = .ok (.iload_n 1, 1) := by decide +kernel
theorem d4_8 : decode jdk_43_method_2_code 8 = .ok (.baload, 1) := by decide +kernel
theorem d4_9 : decode jdk_43_method_2_code 9 = .ok (.sipush 255, 3) := by decide +kernel
theorem d4_12 : decode jdk_43_method_2_code 12 = .ok (.iand, 1) := by decide +kernel
theorem d4_13 : decode jdk_43_method_2_code 13 = .ok (.i2c, 1) := by decide +kernel
theorem d4_14 : decode jdk_43_method_2_code 14 = .ok (.ireturn, 1) := by decide +kernel
def f4 (a0 : Addr) (p1 : Int32) (fm : Value) (n1 : Nat) (g1 : Nat → Int32) : Int32 := (nar .char (((g1 p1.toNatClampNeg) &&& (255 : Int32)).toUInt32.toUInt16.toUInt32.toInt32))
theorem pn_4 : plainName "java/lang/StringLatin1" = true := by first | (simp [plainName, overriddenIn]; done) | decide +kernel
theorem ef_4 (m : MethodId) (a0 : Addr) (p1 : Int32) : entryFrame m #[(.ref a0), (.int p1)] 2 = mkF m 0 #[.val (.ref a0), .val (.int p1)] [] := by first | (simp [entryFrame, mkF, argsToLocals, Value.category]; done) | rfl
set_option maxRecDepth 65536 in
set_option maxHeartbeats 40000000 in
theorem rm4 (l : Launch) (Z : State) (a0 : Array Value) (hw : ∀ d ∈ tables_1, d.before a0 Z = true) (ws : List Jvm.Cond) (a0 : Addr) (p1 : Int32) (fm : Value) (n1 : Nat) (g1 : Nat → Int32) (h0 : Heap) (n0 : Nat) (Z0 : n0 ≤ h0.size) (S2 : Sta Z h0 "jdk/internal/util/Preconditions" "SIOOBE_FORMATTER" "Ljava/util/function/BiFunction;" fm) (V0 : own_C Z h0 a0 n1 g1) (rf_fm : fm.isRef = true) (hj0 : ¬ p1 < 0) (hjn : p1.toNatClampNeg < n1) (hn : n1 < 2 ^ 31) :
    MetFree l (⟨"java/lang/StringLatin1", "charAt", "([BI)C"⟩ : MethodName) (head1 (Jvm.Cond.code (⟨"java/lang/StringLatin1", "charAt", "([BI)C"⟩ : MethodName) jdk_43_method_2_code 2 (some .char) :: ws) ({ frames := 2, cells := 0, slots := 0, locals := 27 } : Room)) (fun a U => a = #[(.ref a0), (.int p1)] ∧ Z.Warmed39 U.vm ∧ U.heap = h0) (fun _ _ _ _ _ => True) (fun _ U o U' => ∃ v L, o = .returned v ∧ own_QV (.int (f4 a0 p1 fm n1 g1)) h0 n0 v U'.heap L ∧ FrameEnd U o U' L ({ frames := 2, cells := 0, slots := 0, locals := 27 } : Room).cells ({ frames := 2, cells := 0, slots := 0, locals := 27 } : Room).slots) := by
  refine MetFree.of_bodySF (plainFor_of_name pn_4) hisR ?_
  intro p e s m args below meth c s₁ Bd hml0 hP hK
  obtain ⟨rfl, hZ, hh⟩ := hP
  have hx := Bd.exec
  have hby := Bd.bytes
  have hlk : meth.locks = false := BodyLoose.notSynchronized Bd
  have hret := Bd.returns
  have hml : c.maxLocals = 2 := hml0
  have hown : s.vm.findClass "java/lang/StringLatin1" = some m.cls := findClass_of_methodNamed Bd.named
  have hnm := (name_of_methodNamed Bd.named Bd.method).1
  have X0 : Stand p l e ({ frames := 2, cells := 0, slots := 0, locals := 27 } : Room) s m #[(.ref a0), (.int p1)] below meth c s₁ [] 0 0 := Stand.of_body Bd
  have e0 : s₁.heap = h0 := by rw [← hh, Bd.state]; rfl
  have N0 := Fr.nil n0
  show own_G p.tables e below (own_E s ({ frames := 2, cells := 0, slots := 0, locals := 27 } : Room).cells ({ frames := 2, cells := 0, slots := 0, locals := 27 } : Room).slots) (own_QV (.int (f4 a0 p1 fm n1 g1)) h0 n0) (s₁.setTop (entryFrame m #[(.ref a0), (.int p1)] 2))
  refine own_st ?_ (fun t k => castTop (ef_4 m a0 p1) k)
  show own_G p.tables e below _ _ (s₁.setTop (mkF m 0 #[.val (.ref a0), .val (.int p1)] []))
  refine own_st ?_ (fun t k => XS.iloadN X0.here hx rfl (hb hby d4_0) rfl k)
  show own_G p.tables e below _ _ (s₁.setTop (mkF m 1 #[.val (.ref a0), .val (.int p1)] [(.int p1)]))
  refine own_st ?_ (fun t k => XS.aloadN X0.here hx rfl (hb hby d4_1) rfl rfl k)
  show own_G p.tables e below _ _ (s₁.setTop (mkF m 2 #[.val (.ref a0), .val (.int p1)] [(.ref a0), (.int p1)]))
  obtain ⟨cl1, Ar1, Z1, G1⟩ := V0
  refine own_st ?_ (X0.arraylength hx (by rw [e0]; exact Ar1.1) (State.isArrayOf_alike hZ.alike Ar1.2.1) (g := (mkF m 2 #[.val (.ref a0), .val (.int p1)] [(.ref a0), (.int p1)])) rfl rfl (hb hby d4_2))
  rw [Z1]
  have Vx1 : own_C Z h0 a0 n1 g1 := ⟨cl1, Ar1, Z1, G1⟩
  show own_G p.tables e below _ _ (s₁.setTop (mkF m 3 #[.val (.ref a0), .val (.int p1)] [(.int (n1).toInt32), (.int p1)]))
  obtain ⟨_, _, ⟨T2, L2, k2, n2⟩, -, X2, ⟨Lc2, hQ2, l2, y2, z2⟩, st2⟩ := Jvm.LawKit.callS X0 hx (y := (⟨"java/lang/String", "checkIndex", "(II)V"⟩ : MethodName)) hown (mvT hZ (hw _ (List.mem_of_getElem? (i := 31) rfl))) (mvT hZ (hw _ (List.mem_of_getElem? (i := 32) rfl))) (mvT hZ (hw _ (List.mem_of_getElem? (i := 1) rfl))) (mvT hZ (hw _ (List.mem_of_getElem? (i := 33) rfl))) (by decide) (backOf (W := 0) (rm5 l Z _ hw [] p1 (n1).toInt32 fm h0 n0 Z0 S2 rf_fm hj0 (own_tin hj0 hn hjn)) hZ (hw _ (List.mem_of_getElem? (i := 33) rfl)) (hw _ (List.mem_of_getElem? (i := 1) rfl)) (by decide) (by decide)) (g := (mkF m 3 #[.val (.ref a0), .val (.int p1)] [(.int (n1).toInt32), (.int p1)])) rfl (by rw [hml]; rfl) (argsL := [(.int p1), (.int (n1).toInt32)]) (rest := []) (lenOf pd_1 rfl) rfl (by show 2 * 0 + _ ≤ _; exact Nat.le_of_eq rfl) (hb hby d4_3) (fun _ _ => ⟨rfl, e0, (by decide : 0 + 0 ≤ _), (by decide : 0 + 0 ≤ _)⟩)
  dsimp only [Pt.U, Pt.locs, Pt.cells, Pt.slots] at X2 l2 y2 z2 st2 hQ2
  subst l2 y2 z2
  obtain ⟨rfl, N2q, e2⟩ := hQ2
  have N2 := Fr.app N0 N2q
  refine own_st ?_ st2
  show own_G p.tables e below _ _ (T2.setTop (mkF m 6 #[.val (.ref a0), .val (.int p1)] []))
  refine own_st ?_ (fun t k => XS.aloadN X2.here hx rfl (hb hby d4_6) rfl rfl k)
  show own_G p.tables e below _ _ (T2.setTop (mkF m 7 #[.val (.ref a0), .val (.int p1)] [(.ref a0)]))
  refine own_st ?_ (fun t k => XS.iloadN X2.here hx rfl (hb hby d4_7) rfl k)
  show own_G p.tables e below _ _ (T2.setTop (mkF m 8 #[.val (.ref a0), .val (.int p1)] [(.int p1), (.ref a0)]))
  obtain ⟨cl3, Ar3, Z3, G3⟩ := Vx1
  have hin3 : ¬ (p1 < 0 ∨ cl3.slots.size ≤ (p1).toNatClampNeg) := by rw [Z3]; exact own_nin hj0 hjn
  have hat3 : cl3.slots[(p1).toNatClampNeg]? = some (.int (g1 p1.toNatClampNeg)) := G3 _ hjn
  refine own_st ?_ (X2.baloadBytes hx (j := p1) (v := (.int (g1 p1.toNatClampNeg))) (by rw [e2]; exact Ar3.1) (State.isArrayOf_alike hZ.alike Ar3.2.1) Ar3.2.2 hin3 hat3 (g := (mkF m 8 #[.val (.ref a0), .val (.int p1)] [(.int p1), (.ref a0)])) rfl rfl (hb hby d4_8))
  have Vx3 : own_C Z h0 a0 n1 g1 := ⟨cl3, Ar3, Z3, G3⟩
  show own_G p.tables e below _ _ (T2.setTop (mkF m 9 #[.val (.ref a0), .val (.int p1)] [(.int (g1 p1.toNatClampNeg))]))
  refine own_st ?_ (fun t k => XS.sipush X2.here hx rfl (hb hby d4_9) k)
  show own_G p.tables e below _ _ (T2.setTop (mkF m 12 #[.val (.ref a0), .val (.int p1)] [(.int (255 : Int32)), (.int (g1 p1.toNatClampNeg))]))
  refine own_st ?_ (fun t k => XS.iand X2.here hx rfl (hb hby d4_12) rfl k)
  show own_G p.tables e below _ _ (T2.setTop (mkF m 13 #[.val (.ref a0), .val (.int p1)] [(.int ((g1 p1.toNatClampNeg) &&& (255 : Int32)))]))
  refine own_st ?_ (fun t k => XS.i2c X2.here hx rfl (hb hby d4_13) rfl k)
  show own_G p.tables e below _ _ (T2.setTop (mkF m 14 #[.val (.ref a0), .val (.int p1)] [(.int (((g1 p1.toNatClampNeg) &&& (255 : Int32)).toUInt32.toUInt16.toUInt32.toInt32))]))
  refine own_retN X2 hx hlk (t := .char) hret (by simp) (hb hby d4_14) (by decide) (by decide) (z' := (nar .char (((g1 p1.toNatClampNeg) &&& (255 : Int32)).toUInt32.toUInt16.toUInt32.toInt32))) rfl ⟨?_, N2, e2⟩
  rw [show f4 a0 p1 fm n1 g1 = (nar .char (((g1 p1.toNatClampNeg) &&& (255 : Int32)).toUInt32.toUInt16.toUInt32.toInt32)) from rfl]
theorem d3_0 : decode jdk_42_method_154_code 0 = .ok (.getstatic 38, 3) := by decide +kernel
theorem d3_3 : decode jdk_42_method_154_code 3 = .ok (.ifCond .eq 14, 3) := by decide +kernel
theorem d3_6 : decode jdk_42_method_154_code 6 = .ok (.aload_n 0, 1) := by decide +kernel
theorem d3_7 : decode jdk_42_method_154_code 7 = .ok (.getfield 15, 3) := by decide +kernel
theorem d3_10 : decode jdk_42_method_154_code 10 = .ok (.ifCond .ne 7, 3) := by decide +kernel
theorem d3_13 : decode jdk_42_method_154_code 13 = .ok (.iconst 1, 1) := by decide +kernel
theorem d3_14 : decode jdk_42_method_154_code 14 = .ok (.goto 4, 3) := by decide +kernel
theorem d3_18 : decode jdk_42_method_154_code 18 = .ok (.ireturn, 1) := by decide +kernel
def f3 (a0 : Addr) (z1 : Int32) : Int32 := (1 : Int32)
theorem pn_3 : plainName "java/lang/String" = true := by first | (simp [plainName, overriddenIn]; done) | decide +kernel
theorem ef_3 (m : MethodId) (a0 : Addr) : entryFrame m #[(.ref a0)] 1 = mkF m 0 #[.val (.ref a0)] [] := by first | (simp [entryFrame, mkF, argsToLocals, Value.category]; done) | rfl
set_option maxRecDepth 65536 in
set_option maxHeartbeats 40000000 in
theorem rm3 (l : Launch) (Z : State) (a0 : Array Value) (hw : ∀ d ∈ tables_1, d.before a0 Z = true) (ws : List Jvm.Cond) (a0 : Addr) (z1 : Int32) (h0 : Heap) (n0 : Nat) (Z0 : n0 ≤ h0.size) (S1 : Sta Z h0 "java/lang/String" "COMPACT_STRINGS" "Z" (.int z1)) (F1 : Fld Z h0 a0 "java/lang/String" "coder" "B" (.int (0 : Int32))) (hz1 : ¬ z1 = 0) :
    MetFree l (⟨"java/lang/String", "isLatin1", "()Z"⟩ : MethodName) (head1 (Jvm.Cond.code (⟨"java/lang/String", "isLatin1", "()Z"⟩ : MethodName) jdk_42_method_154_code 1 (some .boolean) :: ws) ({ frames := 0, cells := 0, slots := 0, locals := 0 } : Room)) (fun a U => a = #[(.ref a0)] ∧ Z.Warmed39 U.vm ∧ U.heap = h0) (fun _ _ _ _ _ => True) (fun _ U o U' => ∃ v L, o = .returned v ∧ own_QV (.int (f3 a0 z1)) h0 n0 v U'.heap L ∧ FrameEnd U o U' L ({ frames := 0, cells := 0, slots := 0, locals := 0 } : Room).cells ({ frames := 0, cells := 0, slots := 0, locals := 0 } : Room).slots) := by
  refine MetFree.of_bodySF (plainFor_of_name pn_3) hisR ?_
  intro p e s m args below meth c s₁ Bd hml0 hP hK
  obtain ⟨rfl, hZ, hh⟩ := hP
  have hx := Bd.exec
  have hby := Bd.bytes
  have hlk : meth.locks = false := BodyLoose.notSynchronized Bd
  have hret := Bd.returns
  have hml : c.maxLocals = 1 := hml0
  have hown : s.vm.findClass "java/lang/String" = some m.cls := findClass_of_methodNamed Bd.named
  have hnm := (name_of_methodNamed Bd.named Bd.method).1
  have X0 : Stand p l e ({ frames := 0, cells := 0, slots := 0, locals := 0 } : Room) s m #[(.ref a0)] below meth c s₁ [] 0 0 := Stand.of_body Bd
  have e0 : s₁.heap = h0 := by rw [← hh, Bd.state]; rfl
  have N0 := Fr.nil n0
  show own_G p.tables e below (own_E s ({ frames := 0, cells := 0, slots := 0, locals := 0 } : Room).cells ({ frames := 0, cells := 0, slots := 0, locals := 0 } : Room).slots) (own_QV (.int (f3 a0 z1)) h0 n0) (s₁.setTop (entryFrame m #[(.ref a0)] 1))
  refine own_st ?_ (fun t k => castTop (ef_3 m a0) k)
  show own_G p.tables e below _ _ (s₁.setTop (mkF m 0 #[.val (.ref a0)] []))
  obtain ⟨T1, X1, e1, st1⟩ := getS2 X0 hx hZ hown (host := "") (Or.inl (hw _ (List.mem_of_getElem? (i := 24) rfl))) Via.refl e0 S1 (g := (mkF m 0 #[.val (.ref a0)] [])) rfl (hb hby d3_0)
  refine own_st ?_ st1
  show own_G p.tables e below _ _ (T1.setTop (mkF m 3 #[.val (.ref a0)] [(.int z1)]))
  refine own_st ?_ (fun t k => XS.ifNo X1.here hx rfl (hb hby d3_3) rfl ((if0 _ _).trans (feq hz1).1) k)
  show own_G p.tables e below _ _ (T1.setTop (mkF m 6 #[.val (.ref a0)] []))
  refine own_st ?_ (fun t k => XS.aloadN X1.here hx rfl (hb hby d3_6) rfl rfl k)
  show own_G p.tables e below _ _ (T1.setTop (mkF m 7 #[.val (.ref a0)] [(.ref a0)]))
  obtain ⟨T2, X2, e2, st2⟩ := getF X1 hx hZ hown (host := "") (Or.inl (hw _ (List.mem_of_getElem? (i := 25) rfl))) Via.refl e1 F1 (g := (mkF m 7 #[.val (.ref a0)] [(.ref a0)])) rfl rfl (hb hby d3_7)
  refine own_st ?_ st2
  show own_G p.tables e below _ _ (T2.setTop (mkF m 10 #[.val (.ref a0)] [(.int (0 : Int32))]))
  refine own_st ?_ (fun t k => XS.ifNo X2.here hx rfl (hb hby d3_10) rfl ((if0 _ _).trans (teq (by decide : (0 : Int32) = (0 : Int32))).2) k)
  show own_G p.tables e below _ _ (T2.setTop (mkF m 13 #[.val (.ref a0)] []))
  refine own_st ?_ (fun t k => XS.iconst X2.here hx rfl (hb hby d3_13) k)
  show own_G p.tables e below _ _ (T2.setTop (mkF m 14 #[.val (.ref a0)] [(.int (1 : Int32))]))
  refine own_st ?_ (fun t k => XS.goto X2.here hx rfl (pc0 := 14) (pc' := 18) rfl (hb hby d3_14) (by decide) (by decide) k)
  show own_G p.tables e below _ _ (T2.setTop (mkF m 18 #[.val (.ref a0)] [(.int (1 : Int32))]))
  refine own_retN X2 hx hlk (t := .boolean) hret (by simp) (hb hby d3_18) (by decide) (by decide) (z' := (1 : Int32)) rfl ⟨?_, N0, e2⟩
  rw [show f3 a0 z1 = (1 : Int32) from rfl]
theorem pd_2 : parseMethodDescriptor "()Z" = some ⟨[], some .boolean⟩ := by decide +kernel
theorem pd_3 : parseMethodDescriptor "([BI)C" = some ⟨[(.array .byte), .int], some .char⟩ := by decide +kernel
theorem d2_0 : decode jdk_42_method_56_code 0 = .ok (.aload_n 0, 1) := by decide +kernel
theorem d2_1 : decode jdk_42_method_56_code 1 = .ok (.invokevirtual 492, 3) := by decide +kernel
theorem d2_4 : decode jdk_42_method_56_code 4 = .ok (.ifCond .eq 12, 3) := by decide +kernel
theorem d2_7 : decode jdk_42_method_56_code 7 = .ok (.aload_n 0, 1) := by decide +kernel
theorem d2_8 : decode jdk_42_method_56_code 8 = .ok (.getfield 9, 3) := by decide +kernel
theorem d2_11 : decode jdk_42_method_56_code 11 = .ok (.iload_n 1, 1) := by decide +kernel
theorem d2_12 : decode jdk_42_method_56_code 12 = .ok (.invokestatic 495, 3) := by decide +kernel
theorem d2_15 : decode jdk_42_method_56_code 15 = .ok (.ireturn, 1) := by decide +kernel
def f2 (a0 : Addr) (p1 : Int32) (fm : Value) (z1 : Int32) (t : Addr) (n1 : Nat) (g1 : Nat → Int32) : Int32 := (nar .char (f4 t p1 fm n1 g1))
theorem pn_2 : plainName "java/lang/String" = true := by first | (simp [plainName, overriddenIn]; done) | decide +kernel
theorem ef_2 (m : MethodId) (a0 : Addr) (p1 : Int32) : entryFrame m #[(.ref a0), (.int p1)] 2 = mkF m 0 #[.val (.ref a0), .val (.int p1)] [] := by first | (simp [entryFrame, mkF, argsToLocals, Value.category]; done) | rfl
set_option maxRecDepth 65536 in
set_option maxHeartbeats 40000000 in
theorem rm2 (l : Launch) (Z : State) (a0 : Array Value) (hw : ∀ d ∈ tables_1, d.before a0 Z = true) (ws : List Jvm.Cond) (a0 : Addr) (p1 : Int32) (fm : Value) (z1 : Int32) (t : Addr) (n1 : Nat) (g1 : Nat → Int32) (h0 : Heap) (n0 : Nat) (Z0 : n0 ≤ h0.size) (S1 : Sta Z h0 "java/lang/String" "COMPACT_STRINGS" "Z" (.int z1)) (S2 : Sta Z h0 "jdk/internal/util/Preconditions" "SIOOBE_FORMATTER" "Ljava/util/function/BiFunction;" fm) (E0 : Exa Z h0 a0 "java/lang/String") (F1 : Fld Z h0 a0 "java/lang/String" "coder" "B" (.int (0 : Int32))) (F2 : Fld Z h0 a0 "java/lang/String" "value" "[B" (.ref t)) (V0 : own_C Z h0 t n1 g1) (hz1 : ¬ z1 = 0) (rf_fm : fm.isRef = true) (hj0 : ¬ p1 < 0) (hjn : p1.toNatClampNeg < n1) (hn : n1 < 2 ^ 31) :
    MetFree l (⟨"java/lang/String", "charAt", "(I)C"⟩ : MethodName) (head1 (Jvm.Cond.code (⟨"java/lang/String", "charAt", "(I)C"⟩ : MethodName) jdk_42_method_56_code 2 (some .char) :: ws) ({ frames := 3, cells := 0, slots := 0, locals := 40 } : Room)) (fun a U => a = #[(.ref a0), (.int p1)] ∧ Z.Warmed39 U.vm ∧ U.heap = h0) (fun _ _ _ _ _ => True) (fun _ U o U' => ∃ v L, o = .returned v ∧ own_QV (.int (f2 a0 p1 fm z1 t n1 g1)) h0 n0 v U'.heap L ∧ FrameEnd U o U' L ({ frames := 3, cells := 0, slots := 0, locals := 40 } : Room).cells ({ frames := 3, cells := 0, slots := 0, locals := 40 } : Room).slots) := by
  refine MetFree.of_bodySF (plainFor_of_name pn_2) hisR ?_
  intro p e s m args below meth c s₁ Bd hml0 hP hK
  obtain ⟨rfl, hZ, hh⟩ := hP
  have hx := Bd.exec
  have hby := Bd.bytes
  have hlk : meth.locks = false := BodyLoose.notSynchronized Bd
  have hret := Bd.returns
  have hml : c.maxLocals = 2 := hml0
  have hown : s.vm.findClass "java/lang/String" = some m.cls := findClass_of_methodNamed Bd.named
  have hnm := (name_of_methodNamed Bd.named Bd.method).1
  have X0 : Stand p l e ({ frames := 3, cells := 0, slots := 0, locals := 40 } : Room) s m #[(.ref a0), (.int p1)] below meth c s₁ [] 0 0 := Stand.of_body Bd
  have e0 : s₁.heap = h0 := by rw [← hh, Bd.state]; rfl
  have N0 := Fr.nil n0
  show own_G p.tables e below (own_E s ({ frames := 3, cells := 0, slots := 0, locals := 40 } : Room).cells ({ frames := 3, cells := 0, slots := 0, locals := 40 } : Room).slots) (own_QV (.int (f2 a0 p1 fm z1 t n1 g1)) h0 n0) (s₁.setTop (entryFrame m #[(.ref a0), (.int p1)] 2))
  refine own_st ?_ (fun t k => castTop (ef_2 m a0 p1) k)
  show own_G p.tables e below _ _ (s₁.setTop (mkF m 0 #[.val (.ref a0), .val (.int p1)] []))
  refine own_st ?_ (fun t k => XS.aloadN X0.here hx rfl (hb hby d2_0) rfl rfl k)
  show own_G p.tables e below _ _ (s₁.setTop (mkF m 1 #[.val (.ref a0), .val (.int p1)] [(.ref a0)]))
  obtain ⟨cq1, kq1, q1a, q1b, q1c⟩ := isOf hZ e0 E0
  obtain ⟨_, _, ⟨T1, L1, k1, n1⟩, -, X1, ⟨Lc1, hQ1, l1, y1, z1⟩, st1⟩ := X0.virtualBack hx (y := (⟨"java/lang/String", "isLatin1", "()Z"⟩ : MethodName)) (z := (⟨"java/lang/String", "isLatin1", "()Z"⟩ : MethodName)) hown (mvT hZ (hw _ (List.mem_of_getElem? (i := 19) rfl))) (mvT hZ (hw _ (List.mem_of_getElem? (i := 20) rfl))) (notFace_of_selects (args := #[]) (mvT hZ (hw _ (List.mem_of_getElem? (i := 22) rfl)))) (mvT hZ (hw _ (List.mem_of_getElem? (i := 22) rfl))) (mvT hZ (hw _ (List.mem_of_getElem? (i := 21) rfl))) (by decide) (backOf (W := 0) (rm3 l Z _ hw [] a0 z1 h0 n0 Z0 S1 F1 hz1) hZ (hw _ (List.mem_of_getElem? (i := 23) rfl)) (hw _ (List.mem_of_getElem? (i := 1) rfl)) (by decide) (by decide)) q1a q1c (g := (mkF m 1 #[.val (.ref a0), .val (.int p1)] [(.ref a0)])) rfl (by rw [hml]; rfl) (Steps.refl _) (argsL := []) (rest := []) (lenOf pd_2 rfl) rfl (by show 2 * 0 + _ ≤ _; exact Nat.le_of_eq rfl) (hb hby d2_1) (fun _ _ => ⟨rfl, e0, (by decide : 0 + 0 ≤ _), (by decide : 0 + 0 ≤ _)⟩)
  dsimp only [Pt.U, Pt.locs, Pt.cells, Pt.slots] at X1 l1 y1 z1 st1 hQ1
  subst l1 y1 z1
  obtain ⟨rfl, N1q, e1⟩ := hQ1
  have N1 := Fr.app N0 N1q
  refine own_st ?_ (fun t k => st1.trans k)
  show own_G p.tables e below _ _ (T1.setTop (mkF m 4 #[.val (.ref a0), .val (.int p1)] [(.int (1 : Int32))]))
  refine own_st ?_ (fun t k => XS.ifNo X1.here hx rfl (hb hby d2_4) rfl ((if0 _ _).trans (feq (by decide : ¬ ((1 : Int32) = (0 : Int32)))).1) k)
  show own_G p.tables e below _ _ (T1.setTop (mkF m 7 #[.val (.ref a0), .val (.int p1)] []))
  refine own_st ?_ (fun t k => XS.aloadN X1.here hx rfl (hb hby d2_7) rfl rfl k)
  show own_G p.tables e below _ _ (T1.setTop (mkF m 8 #[.val (.ref a0), .val (.int p1)] [(.ref a0)]))
  obtain ⟨T2, X2, e2, st2⟩ := getF X1 hx hZ hown (host := "") (Or.inl (hw _ (List.mem_of_getElem? (i := 26) rfl))) Via.refl e1 F2 (g := (mkF m 8 #[.val (.ref a0), .val (.int p1)] [(.ref a0)])) rfl rfl (hb hby d2_8)
  refine own_st ?_ st2
  show own_G p.tables e below _ _ (T2.setTop (mkF m 11 #[.val (.ref a0), .val (.int p1)] [(.ref t)]))
  refine own_st ?_ (fun t k => XS.iloadN X2.here hx rfl (hb hby d2_11) rfl k)
  show own_G p.tables e below _ _ (T2.setTop (mkF m 12 #[.val (.ref a0), .val (.int p1)] [(.int p1), (.ref t)]))
  obtain ⟨_, _, ⟨T3, L3, k3, n3⟩, -, X3, ⟨Lc3, hQ3, l3, y3, z3⟩, st3⟩ := Jvm.LawKit.callS X2 hx (y := (⟨"java/lang/StringLatin1", "charAt", "([BI)C"⟩ : MethodName)) hown (mvT hZ (hw _ (List.mem_of_getElem? (i := 27) rfl))) (mvT hZ (hw _ (List.mem_of_getElem? (i := 28) rfl))) (mvT hZ (hw _ (List.mem_of_getElem? (i := 29) rfl))) (mvT hZ (hw _ (List.mem_of_getElem? (i := 30) rfl))) (by decide) (backOf (W := 0) (rm4 l Z _ hw [] t p1 fm n1 g1 h0 n0 Z0 S2 V0 rf_fm hj0 hjn hn) hZ (hw _ (List.mem_of_getElem? (i := 30) rfl)) (hw _ (List.mem_of_getElem? (i := 29) rfl)) (by decide) (by decide)) (g := (mkF m 12 #[.val (.ref a0), .val (.int p1)] [(.int p1), (.ref t)])) rfl (by rw [hml]; rfl) (argsL := [(.ref t), (.int p1)]) (rest := []) (lenOf pd_3 rfl) rfl (by show 2 * 0 + _ ≤ _; exact Nat.le_of_eq rfl) (hb hby d2_12) (fun _ _ => ⟨rfl, e2, (by decide : 0 + 0 ≤ _), (by decide : 0 + 0 ≤ _)⟩)
  dsimp only [Pt.U, Pt.locs, Pt.cells, Pt.slots] at X3 l3 y3 z3 st3 hQ3
  subst l3 y3 z3
  obtain ⟨rfl, N3q, e3⟩ := hQ3
  have N3 := Fr.app N1 N3q
  refine own_st ?_ st3
  show own_G p.tables e below _ _ (T3.setTop (mkF m 15 #[.val (.ref a0), .val (.int p1)] [(.int (f4 t p1 fm n1 g1))]))
  refine own_retN X3 hx hlk (t := .char) hret (by simp) (hb hby d2_15) (by decide) (by decide) (z' := (nar .char (f4 t p1 fm n1 g1))) rfl ⟨?_, N3, e3⟩
  rw [show f2 a0 p1 fm z1 t n1 g1 = (nar .char (f4 t p1 fm n1 g1)) from rfl]
theorem own_ht0 : (∀ c ∈ (own_text 0).toList, c.toNat < 256) ∧ (own_text 0).toList.map (fun c => Value.int (Jvm.Lit.byteI c.toNat.toUInt16)) = own_vs 0 := ⟨by decide +kernel, by rfl⟩
theorem own_hl0 : (Int32.ofNat 16).toNatClampNeg = (own_vs 0).length := by rfl
theorem own_ht8 : (∀ c ∈ (own_text 8).toList, c.toNat < 256) ∧ (own_text 8).toList.map (fun c => Value.int (Jvm.Lit.byteI c.toNat.toUInt16)) = own_vs 8 := ⟨by decide +kernel, by rfl⟩
theorem own_hl8 : (Int32.ofNat 16).toNatClampNeg = (own_vs 8).length := by rfl
theorem own_char (x : Int32) : 0 ≤ (x.toUInt32.toUInt16.toUInt32.toInt32).toInt ∧ (x.toUInt32.toUInt16.toUInt32.toInt32).toInt ≤ 65535 := by
  have h := fits_nar_char x
  have e1 : (0 : Int32).toInt = 0 := by decide
  have e2 : (65535 : Int32).toInt = 65535 := by decide
  simp only [fits, Bool.and_eq_true, decide_eq_true_eq] at h
  rw [Int32.le_iff_toInt_le, Int32.le_iff_toInt_le, e1, e2] at h
  exact h
theorem own_small {n : Nat} {P : Int32 → Prop} (h : ∀ k : Fin n, P (Int32.ofInt (k.1 : Int))) (c : Int32) (h0 : 0 ≤ c.toInt) (h1 : c.toInt < n) : P c := by
  have e : c.toInt = ((c.toInt.toNat : Nat) : Int) := by omega
  have q := h ⟨c.toInt.toNat, by omega⟩
  rw [show (((⟨c.toInt.toNat, by omega⟩ : Fin n).1 : Nat) : Int) = c.toInt from e.symm, Int32.ofInt_toInt] at q
  exact q
def own_ch (i : Nat) (j : Int32) : Int32 := f2 0 j .null 0 0 16 (own_g i)
def own_P (c : Int32) : Prop := f1 c = (-1 : Int32) ∨ (¬ f1 c < 0 ∧ (own_ch 0 (f1 c) = c ∨ own_ch 8 (f1 c) = c))
instance own_Pd (c : Int32) : Decidable (own_P c) := by unfold own_P; infer_instance
theorem own_big (c : Int32) (h : ¬ c.toInt < 128) : f1 c = (-1 : Int32) := by
  have e1 : (48 : Int32).toInt = 48 := by decide
  have e2 : (57 : Int32).toInt = 57 := by decide
  have e3 : (97 : Int32).toInt = 97 := by decide
  have e4 : (102 : Int32).toInt = 102 := by decide
  have e5 : (65 : Int32).toInt = 65 := by decide
  have e6 : (70 : Int32).toInt = 70 := by decide
  unfold f1
  simp only [Int32.lt_iff_toInt_lt, e1, e2, e3, e4, e5, e6]
  (repeat' split) <;> first | rfl | (exfalso; omega)
theorem own_hex (c : Int32) (h0 : 0 ≤ c.toInt) : own_P c := by
  by_cases h : c.toInt < 128
  · exact own_small (n := 128) (P := own_P) (by decide +kernel) c h0 h
  · exact Or.inl (own_big c h)
theorem own_15 (c : Int32) (h0 : 0 ≤ c.toInt) : ¬ (15 : Int32) < f1 c := by
  by_cases h : c.toInt < 128
  · exact own_small (n := 128) (P := fun c => ¬ (15 : Int32) < f1 c) (by decide +kernel) c h0 h
  · rw [own_big c h]; decide
theorem own_clt {r : Int32} (h0 : ¬ r < 0) (h : ¬ (15 : Int32) < r) : r.toNatClampNeg < 16 := by
  have e0 : (0 : Int32).toInt = 0 := by decide
  have e15 : (15 : Int32).toInt = 15 := by decide
  rw [Int32.lt_iff_toInt_lt, e0] at h0
  rw [Int32.lt_iff_toInt_lt, e15] at h
  rw [Int32.toNatClampNeg]; omega
theorem own_v (y : Int32) : ¬ (y &&& 15) < 0 ∧ ¬ (15 : Int32) < (y &&& 15) := by
  have h := Jvm.Kit.i32_mask y 15 (k := 4) (by decide) (by decide)
  have e0 : (0 : Int32).toInt = 0 := by decide
  have e15 : (15 : Int32).toInt = 15 := by decide
  rw [Int32.lt_iff_toInt_lt, Int32.lt_iff_toInt_lt, e0, e15, h]; omega
theorem own_dig (y : Int32) : f1 (own_ch 0 (y &&& 15)) = (y &&& 15) ∧ f1 (own_ch 8 (y &&& 15)) = (y &&& 15) := by
  have h := Jvm.Kit.i32_mask y 15 (k := 4) (by decide) (by decide)
  exact own_small (n := 16) (P := fun v => f1 (own_ch 0 v) = v ∧ f1 (own_ch 8 v) = v) (by decide +kernel) (y &&& 15) (by rw [h]; omega) (by rw [h]; omega)
theorem own_rn {x : Int32} (h : ¬ f1 x.toUInt32.toUInt16.toUInt32.toInt32 = (-1 : Int32)) : ¬ f1 x.toUInt32.toUInt16.toUInt32.toInt32 < 0 := ((own_hex _ (own_char x).1).resolve_left h).1
theorem own_or2 {x : Int32} (h : ¬ f1 x.toUInt32.toUInt16.toUInt32.toInt32 = (-1 : Int32)) (h2 : ¬ own_ch 0 (f1 x.toUInt32.toUInt16.toUInt32.toInt32) = x.toUInt32.toUInt16.toUInt32.toInt32) : own_ch 8 (f1 x.toUInt32.toUInt16.toUInt32.toInt32) = x.toUInt32.toUInt16.toUInt32.toInt32 := ((own_hex _ (own_char x).1).resolve_left h).2.resolve_left h2
theorem pd_4 : parseMethodDescriptor "(C)I" = some ⟨[.char], some .int⟩ := by decide +kernel
theorem pd_5 : parseMethodDescriptor "(I)C" = some ⟨[.int], some .char⟩ := by decide +kernel
theorem pn_0 : plainName "com/example/katalogd/katalogd/http/HttpSyntaxHexDigitPinLaw" = true := by first | (simp [plainName, overriddenIn]; done) | decide +kernel
theorem ef_0 (m : MethodId) (p0 : Int32) (p1 : Int32) : entryFrame m #[(.int p0), (.int p1)] maxLocals = mkF m 0 #[.val (.int p0), .val (.int p1), .unset, .unset, .unset, .unset, .unset, .unset, .unset] [] := by first | (simp [entryFrame, mkF, argsToLocals, Value.category, maxLocals]; done) | rfl
set_option maxRecDepth 65536 in
set_option maxHeartbeats 40000000 in
theorem rm0 (l : Launch) (Z : State) (a0 : Array Value) (hw : ∀ d ∈ tables_1, d.before a0 Z = true) (ws : List Jvm.Cond) (p0 : Int32) (p1 : Int32) (z1 : Int32) (fm : Value) (h0 : Heap) (n0 : Nat) (Z0 : n0 ≤ h0.size) (S1 : Sta Z h0 "java/lang/String" "COMPACT_STRINGS" "Z" (.int z1)) (S2 : Sta Z h0 "jdk/internal/util/Preconditions" "SIOOBE_FORMATTER" "Ljava/util/function/BiFunction;" fm) (hz1 : ¬ z1 = 0) (rf1 : fm.isRef = true) (hn0 : n0 = h0.size) (hZh : Z.heap = h0) (hcw : Jvm.Lit.compactW.before a0 Z = true) (hh7 : Jvm.Lit.constHeld Z "com/example/katalogd/katalogd/http/HttpSyntaxHexDigitPinLaw" 7) (hh9 : Jvm.Lit.constHeld Z "com/example/katalogd/katalogd/http/HttpSyntaxHexDigitPinLaw" 9) :
    MetFree l x (head1 (Jvm.Cond.code x code maxLocals ret :: ws) room_1) (fun a U => a = #[(.int p0), (.int p1)] ∧ Z.Warmed39 U.vm ∧ U.heap = h0 ∧ U.vm = Z.vm) (fun _ _ _ _ _ => True) (fun _ U o U' => ∃ v L, o = .returned v ∧ own_QL (.int 1) n0 v U'.heap L ∧ ReturnedEndW U o U' L room_1.cells room_1.slots) := by
  refine MetFree.of_bodySF (plainFor_of_name pn_0) hisR ?_
  intro p e s m args below meth c s₁ Bd hml0 hP hK
  obtain ⟨rfl, hZ, hh, hvm⟩ := hP
  have hx := Bd.exec
  have hby := Bd.bytes
  have hlk : meth.locks = false := BodyLoose.notSynchronized Bd
  have hret := Bd.returns
  have hml : c.maxLocals = 9 := hml0
  have hown : s.vm.findClass "com/example/katalogd/katalogd/http/HttpSyntaxHexDigitPinLaw" = some m.cls := findClass_of_methodNamed Bd.named
  have hnm := (name_of_methodNamed Bd.named Bd.method).1
  have X0 : Stand p l e room_1 (s.setVm s.vm) m #[(.int p0), (.int p1)] below meth c s₁ [] 0 0 := Stand.of_body Bd
  have e0 : s₁.heap = h0 := by rw [← hh, Bd.state]; rfl
  have N0 := Fr.nil n0
  show own_G p.tables e below (own_EW s room_1.cells room_1.slots) (own_QL (.int 1) n0) (s₁.setTop (entryFrame m #[(.int p0), (.int p1)] maxLocals))
  refine own_st ?_ (fun t k => castTop (ef_0 m p0 p1) k)
  show own_G p.tables e below _ _ (s₁.setTop (mkF m 0 #[.val (.int p0), .val (.int p1), .unset, .unset, .unset, .unset, .unset, .unset, .unset] []))
  have hkeep : ∀ (b : Addr) (cl : Cell), Z.heap[b]? = some cl → s.heap[b]? = some cl := fun b cl q => by rw [hh, ← hZh]; exact q
  have I0 : IB Z s.vm [] := by rw [hvm]; exact IB.start
  have hS0 : s.Since s.vm h0.size := (State.WarmedH.refl s).since _
  have hk0 : h0.size ≤ h0.size := Nat.le_refl _
  obtain ⟨b1, T1, h1, kq1, c1, kk1, X1, e1, E1, hS1, hk1, hZ1, hown1, Es1, Fc1, Fv1, Va1, -, -, I1, st1⟩ := ldcSV X0 hx hZ hown (hw _ (List.mem_of_getElem? (i := 0) rfl)) (fun a ha => hw a (own_strs a ha)) e0 hS0 hk0 (own_frs N0 hn0 hh) hkeep I0 (by decide +kernel) hh7 hcw own_ht0 (by decide) own_hl0 (g := (mkF m 0 #[.val (.int p0), .val (.int p1), .unset, .unset, .unset, .unset, .unset, .unset, .unset] [])) rfl (hb hby at_0) (n := 64) (by decide +kernel) (by decide) (by decide) (by decide)
  have F2_COMPACT_STRINGS : Sta Z h1 "java/lang/String" "COMPACT_STRINGS" "Z" (.int z1) := S1.ext E1
  have F3_SIOOBE_FORMATTER : Sta Z h1 "jdk/internal/util/Preconditions" "SIOOBE_FORMATTER" "Ljava/util/function/BiFunction;" fm := S2.ext E1
  have Zs4 : n0 ≤ h1.size := Nat.le_trans Z0 E1.1
  have hZ := hZ1
  have hown := hown1
  have Vc1 : own_C Z h1 c1 16 (own_g 0) := own_C_of Va1 (by decide)
  refine own_st ?_ st1
  show own_G p.tables e below _ _ (T1.setTop (mkF m 2 #[.val (.int p0), .val (.int p1), .unset, .unset, .unset, .unset, .unset, .unset, .unset] [(.ref b1)]))
  refine own_st ?_ (fun t k => XS.astoreN X1.here hx rfl (hb hby at_2) rfl rfl (l' := #[.val (.int p0), .val (.int p1), .val (.ref b1), .unset, .unset, .unset, .unset, .unset, .unset]) rfl k)
  show own_G p.tables e below _ _ (T1.setTop (mkF m 3 #[.val (.int p0), .val (.int p1), .val (.ref b1), .unset, .unset, .unset, .unset, .unset, .unset] []))
  obtain ⟨b5, T5, h5, kq5, c5, kk5, X5, e5, E5, hS5, hk5, hZ5, hown5, Es5, Fc5, Fv5, Va5, -, -, I5, st5⟩ := ldcSV X1 hx hZ hown (hw _ (List.mem_of_getElem? (i := 8) rfl)) (fun a ha => hw a (own_strs a ha)) e1 hS1 hk1 (own_frs N0 hn0 hh) hkeep I1 (by decide +kernel) hh9 hcw own_ht8 (by decide) own_hl8 (g := (mkF m 3 #[.val (.int p0), .val (.int p1), .val (.ref b1), .unset, .unset, .unset, .unset, .unset, .unset] [])) rfl (hb hby at_3) (n := 64) (by decide +kernel) (by decide) (by decide) (by decide)
  have F6_COMPACT_STRINGS : Sta Z h5 "java/lang/String" "COMPACT_STRINGS" "Z" (.int z1) := F2_COMPACT_STRINGS.ext E5
  have F7_SIOOBE_FORMATTER : Sta Z h5 "jdk/internal/util/Preconditions" "SIOOBE_FORMATTER" "Ljava/util/function/BiFunction;" fm := F3_SIOOBE_FORMATTER.ext E5
  have F8_E : Exa Z h5 b1 "java/lang/String" := Es1.ext E5
  have F9_coder : Fld Z h5 b1 "java/lang/String" "coder" "B" (.int (0 : Int32)) := Fc1.ext E5
  have F10_value : Fld Z h5 b1 "java/lang/String" "value" "[B" (.ref c1) := Fv1.ext E5
  have F11_P : own_C Z h5 c1 16 (own_g 0) := own_C_ext Vc1 E5
  have Zs12 : n0 ≤ h5.size := Nat.le_trans Zs4 E5.1
  have hZ := hZ5
  have hown := hown5
  have Vc5 : own_C Z h5 c5 16 (own_g 8) := own_C_of Va5 (by decide)
  refine own_st ?_ st5
  show own_G p.tables e below _ _ (T5.setTop (mkF m 5 #[.val (.int p0), .val (.int p1), .val (.ref b1), .unset, .unset, .unset, .unset, .unset, .unset] [(.ref b5)]))
  refine own_st ?_ (fun t k => XS.astoreN X5.here hx rfl (hb hby at_5) rfl rfl (l' := #[.val (.int p0), .val (.int p1), .val (.ref b1), .val (.ref b5), .unset, .unset, .unset, .unset, .unset]) rfl k)
  show own_G p.tables e below _ _ (T5.setTop (mkF m 6 #[.val (.int p0), .val (.int p1), .val (.ref b1), .val (.ref b5), .unset, .unset, .unset, .unset, .unset] []))
  refine own_st ?_ (fun t k => XS.iloadN X5.here hx rfl (hb hby at_6) rfl k)
  show own_G p.tables e below _ _ (T5.setTop (mkF m 7 #[.val (.int p0), .val (.int p1), .val (.ref b1), .val (.ref b5), .unset, .unset, .unset, .unset, .unset] [(.int p0)]))
  refine own_st ?_ (X5.ldcInt hx hown (mvT hZ (hw _ (List.mem_of_getElem? (i := 9) rfl))) (g := (mkF m 7 #[.val (.int p0), .val (.int p1), .val (.ref b1), .val (.ref b5), .unset, .unset, .unset, .unset, .unset] [(.int p0)])) rfl (hb hby at_7))
  show own_G p.tables e below _ _ (T5.setTop (mkF m 9 #[.val (.int p0), .val (.int p1), .val (.ref b1), .val (.ref b5), .unset, .unset, .unset, .unset, .unset] [(.int (65535 : Int32)), (.int p0)]))
  refine own_st ?_ (fun t k => XS.iand X5.here hx rfl (hb hby at_9) rfl k)
  show own_G p.tables e below _ _ (T5.setTop (mkF m 10 #[.val (.int p0), .val (.int p1), .val (.ref b1), .val (.ref b5), .unset, .unset, .unset, .unset, .unset] [(.int (p0 &&& (65535 : Int32)))]))
  refine own_st ?_ (fun t k => XS.i2c X5.here hx rfl (hb hby at_10) rfl k)
  show own_G p.tables e below _ _ (T5.setTop (mkF m 11 #[.val (.int p0), .val (.int p1), .val (.ref b1), .val (.ref b5), .unset, .unset, .unset, .unset, .unset] [(.int ((p0 &&& (65535 : Int32)).toUInt32.toUInt16.toUInt32.toInt32))]))
  refine own_st ?_ (fun t k => XS.istore X5.here hx rfl (hb hby at_11) rfl (l' := #[.val (.int p0), .val (.int p1), .val (.ref b1), .val (.ref b5), .val (.int ((p0 &&& (65535 : Int32)).toUInt32.toUInt16.toUInt32.toInt32)), .unset, .unset, .unset, .unset]) rfl k)
  show own_G p.tables e below _ _ (T5.setTop (mkF m 13 #[.val (.int p0), .val (.int p1), .val (.ref b1), .val (.ref b5), .val (.int ((p0 &&& (65535 : Int32)).toUInt32.toUInt16.toUInt32.toInt32)), .unset, .unset, .unset, .unset] []))
  refine own_st ?_ (fun t k => XS.iload X5.here hx rfl (hb hby at_13) rfl k)
  show own_G p.tables e below _ _ (T5.setTop (mkF m 15 #[.val (.int p0), .val (.int p1), .val (.ref b1), .val (.ref b5), .val (.int ((p0 &&& (65535 : Int32)).toUInt32.toUInt16.toUInt32.toInt32)), .unset, .unset, .unset, .unset] [(.int ((p0 &&& (65535 : Int32)).toUInt32.toUInt16.toUInt32.toInt32))]))
  obtain ⟨_, _, ⟨T13, L13, k13, n13⟩, -, X13, ⟨Lc13, hQ13, l13, y13, z13⟩, st13⟩ := Jvm.LawKit.callS X5 hx (y := (⟨"com/example/katalogd/katalogd/http/HttpSyntax", "hexDigit", "(C)I"⟩ : MethodName)) hown (mvT hZ (hw _ (List.mem_of_getElem? (i := 10) rfl))) (mvT hZ (hw _ (List.mem_of_getElem? (i := 11) rfl))) (mvT hZ (hw _ (List.mem_of_getElem? (i := 12) rfl))) (mvT hZ (hw _ (List.mem_of_getElem? (i := 13) rfl))) (by decide) (backOf (W := 0) (rm1 l Z _ hw [] ((p0 &&& (65535 : Int32)).toUInt32.toUInt16.toUInt32.toInt32)  h5 n0 Zs12 ) hZ (hw _ (List.mem_of_getElem? (i := 13) rfl)) (hw _ (List.mem_of_getElem? (i := 12) rfl)) (by decide) (by decide)) (g := (mkF m 15 #[.val (.int p0), .val (.int p1), .val (.ref b1), .val (.ref b5), .val (.int ((p0 &&& (65535 : Int32)).toUInt32.toUInt16.toUInt32.toInt32)), .unset, .unset, .unset, .unset] [(.int ((p0 &&& (65535 : Int32)).toUInt32.toUInt16.toUInt32.toInt32))])) rfl (by rw [hml]; rfl) (argsL := [(.int ((p0 &&& (65535 : Int32)).toUInt32.toUInt16.toUInt32.toInt32))]) (rest := []) (lenOf pd_4 rfl) rfl (by show 2 * 0 + _ ≤ _; exact Nat.le_of_eq rfl) (hb hby at_15) (fun _ _ => ⟨rfl, e5, (by decide : 4 + 0 ≤ _), (by decide : 136 + 0 ≤ _)⟩)
  dsimp only [Pt.U, Pt.locs, Pt.cells, Pt.slots] at X13 l13 y13 z13 st13 hQ13
  subst l13 y13 z13
  obtain ⟨rfl, N13q, e13⟩ := hQ13
  have N13 := Fr.app N0 N13q
  refine own_st ?_ st13
  show own_G p.tables e below _ _ (T13.setTop (mkF m 18 #[.val (.int p0), .val (.int p1), .val (.ref b1), .val (.ref b5), .val (.int ((p0 &&& (65535 : Int32)).toUInt32.toUInt16.toUInt32.toInt32)), .unset, .unset, .unset, .unset] [(.int (f1 ((p0 &&& (65535 : Int32)).toUInt32.toUInt16.toUInt32.toInt32)))]))
  refine own_st ?_ (fun t k => XS.istore X13.here hx rfl (hb hby at_18) rfl (l' := #[.val (.int p0), .val (.int p1), .val (.ref b1), .val (.ref b5), .val (.int ((p0 &&& (65535 : Int32)).toUInt32.toUInt16.toUInt32.toInt32)), .val (.int (f1 ((p0 &&& (65535 : Int32)).toUInt32.toUInt16.toUInt32.toInt32))), .unset, .unset, .unset]) rfl k)
  show own_G p.tables e below _ _ (T13.setTop (mkF m 20 #[.val (.int p0), .val (.int p1), .val (.ref b1), .val (.ref b5), .val (.int ((p0 &&& (65535 : Int32)).toUInt32.toUInt16.toUInt32.toInt32)), .val (.int (f1 ((p0 &&& (65535 : Int32)).toUInt32.toUInt16.toUInt32.toInt32))), .unset, .unset, .unset] []))
  refine own_st ?_ (fun t k => XS.iload X13.here hx rfl (hb hby at_20) rfl k)
  show own_G p.tables e below _ _ (T13.setTop (mkF m 22 #[.val (.int p0), .val (.int p1), .val (.ref b1), .val (.ref b5), .val (.int ((p0 &&& (65535 : Int32)).toUInt32.toUInt16.toUInt32.toInt32)), .val (.int (f1 ((p0 &&& (65535 : Int32)).toUInt32.toUInt16.toUInt32.toInt32))), .unset, .unset, .unset] [(.int (f1 ((p0 &&& (65535 : Int32)).toUInt32.toUInt16.toUInt32.toInt32)))]))
  refine own_st ?_ (fun t k => XS.iconst X13.here hx rfl (hb hby at_22) k)
  show own_G p.tables e below _ _ (T13.setTop (mkF m 23 #[.val (.int p0), .val (.int p1), .val (.ref b1), .val (.ref b5), .val (.int ((p0 &&& (65535 : Int32)).toUInt32.toUInt16.toUInt32.toInt32)), .val (.int (f1 ((p0 &&& (65535 : Int32)).toUInt32.toUInt16.toUInt32.toInt32))), .unset, .unset, .unset] [(.int (-1 : Int32)), (.int (f1 ((p0 &&& (65535 : Int32)).toUInt32.toUInt16.toUInt32.toInt32)))]))
  by_cases hc23 : (f1 ((p0 &&& (65535 : Int32)).toUInt32.toUInt16.toUInt32.toInt32)) = (-1 : Int32)
  · refine own_st ?_ (fun t k => XS.icmpNo X13.here hx rfl (hb hby at_23) rfl (teq hc23).2 k)
    show own_G p.tables e below _ _ (T13.setTop (mkF m 26 #[.val (.int p0), .val (.int p1), .val (.ref b1), .val (.ref b5), .val (.int ((p0 &&& (65535 : Int32)).toUInt32.toUInt16.toUInt32.toInt32)), .val (.int (f1 ((p0 &&& (65535 : Int32)).toUInt32.toUInt16.toUInt32.toInt32))), .unset, .unset, .unset] []))
    refine own_st ?_ (fun t k => XS.iconst X13.here hx rfl (hb hby at_26) k)
    show own_G p.tables e below _ _ (T13.setTop (mkF m 27 #[.val (.int p0), .val (.int p1), .val (.ref b1), .val (.ref b5), .val (.int ((p0 &&& (65535 : Int32)).toUInt32.toUInt16.toUInt32.toInt32)), .val (.int (f1 ((p0 &&& (65535 : Int32)).toUInt32.toUInt16.toUInt32.toInt32))), .unset, .unset, .unset] [(.int (1 : Int32))]))
    refine own_st ?_ (fun t k => XS.istore X13.here hx rfl (hb hby at_27) rfl (l' := #[.val (.int p0), .val (.int p1), .val (.ref b1), .val (.ref b5), .val (.int ((p0 &&& (65535 : Int32)).toUInt32.toUInt16.toUInt32.toInt32)), .val (.int (f1 ((p0 &&& (65535 : Int32)).toUInt32.toUInt16.toUInt32.toInt32))), .val (.int (1 : Int32)), .unset, .unset]) rfl k)
    show own_G p.tables e below _ _ (T13.setTop (mkF m 29 #[.val (.int p0), .val (.int p1), .val (.ref b1), .val (.ref b5), .val (.int ((p0 &&& (65535 : Int32)).toUInt32.toUInt16.toUInt32.toInt32)), .val (.int (f1 ((p0 &&& (65535 : Int32)).toUInt32.toUInt16.toUInt32.toInt32))), .val (.int (1 : Int32)), .unset, .unset] []))
    refine own_st ?_ (fun t k => XS.goto X13.here hx rfl (pc0 := 29) (pc' := 79) rfl (hb hby at_29) (by decide) (by decide) k)
    show own_G p.tables e below _ _ (T13.setTop (mkF m 79 #[.val (.int p0), .val (.int p1), .val (.ref b1), .val (.ref b5), .val (.int ((p0 &&& (65535 : Int32)).toUInt32.toUInt16.toUInt32.toInt32)), .val (.int (f1 ((p0 &&& (65535 : Int32)).toUInt32.toUInt16.toUInt32.toInt32))), .val (.int (1 : Int32)), .unset, .unset] []))
    refine own_st ?_ (fun t k => XS.iloadN X13.here hx rfl (hb hby at_79) rfl k)
    show own_G p.tables e below _ _ (T13.setTop (mkF m 80 #[.val (.int p0), .val (.int p1), .val (.ref b1), .val (.ref b5), .val (.int ((p0 &&& (65535 : Int32)).toUInt32.toUInt16.toUInt32.toInt32)), .val (.int (f1 ((p0 &&& (65535 : Int32)).toUInt32.toUInt16.toUInt32.toInt32))), .val (.int (1 : Int32)), .unset, .unset] [(.int p1)]))
    refine own_st ?_ (fun t k => XS.bipush X13.here hx rfl (hb hby at_80) k)
    show own_G p.tables e below _ _ (T13.setTop (mkF m 82 #[.val (.int p0), .val (.int p1), .val (.ref b1), .val (.ref b5), .val (.int ((p0 &&& (65535 : Int32)).toUInt32.toUInt16.toUInt32.toInt32)), .val (.int (f1 ((p0 &&& (65535 : Int32)).toUInt32.toUInt16.toUInt32.toInt32))), .val (.int (1 : Int32)), .unset, .unset] [(.int (15 : Int32)), (.int p1)]))
    refine own_st ?_ (fun t k => XS.iand X13.here hx rfl (hb hby at_82) rfl k)
    show own_G p.tables e below _ _ (T13.setTop (mkF m 83 #[.val (.int p0), .val (.int p1), .val (.ref b1), .val (.ref b5), .val (.int ((p0 &&& (65535 : Int32)).toUInt32.toUInt16.toUInt32.toInt32)), .val (.int (f1 ((p0 &&& (65535 : Int32)).toUInt32.toUInt16.toUInt32.toInt32))), .val (.int (1 : Int32)), .unset, .unset] [(.int (p1 &&& (15 : Int32)))]))
    refine own_st ?_ (fun t k => XS.istore X13.here hx rfl (hb hby at_83) rfl (l' := #[.val (.int p0), .val (.int p1), .val (.ref b1), .val (.ref b5), .val (.int ((p0 &&& (65535 : Int32)).toUInt32.toUInt16.toUInt32.toInt32)), .val (.int (f1 ((p0 &&& (65535 : Int32)).toUInt32.toUInt16.toUInt32.toInt32))), .val (.int (1 : Int32)), .val (.int (p1 &&& (15 : Int32))), .unset]) rfl k)
    show own_G p.tables e below _ _ (T13.setTop (mkF m 85 #[.val (.int p0), .val (.int p1), .val (.ref b1), .val (.ref b5), .val (.int ((p0 &&& (65535 : Int32)).toUInt32.toUInt16.toUInt32.toInt32)), .val (.int (f1 ((p0 &&& (65535 : Int32)).toUInt32.toUInt16.toUInt32.toInt32))), .val (.int (1 : Int32)), .val (.int (p1 &&& (15 : Int32))), .unset] []))
    refine own_st ?_ (fun t k => XS.aloadN X13.here hx rfl (hb hby at_85) rfl rfl k)
    show own_G p.tables e below _ _ (T13.setTop (mkF m 86 #[.val (.int p0), .val (.int p1), .val (.ref b1), .val (.ref b5), .val (.int ((p0 &&& (65535 : Int32)).toUInt32.toUInt16.toUInt32.toInt32)), .val (.int (f1 ((p0 &&& (65535 : Int32)).toUInt32.toUInt16.toUInt32.toInt32))), .val (.int (1 : Int32)), .val (.int (p1 &&& (15 : Int32))), .unset] [(.ref b1)]))
    refine own_st ?_ (fun t k => XS.iload X13.here hx rfl (hb hby at_86) rfl k)
    show own_G p.tables e below _ _ (T13.setTop (mkF m 88 #[.val (.int p0), .val (.int p1), .val (.ref b1), .val (.ref b5), .val (.int ((p0 &&& (65535 : Int32)).toUInt32.toUInt16.toUInt32.toInt32)), .val (.int (f1 ((p0 &&& (65535 : Int32)).toUInt32.toUInt16.toUInt32.toInt32))), .val (.int (1 : Int32)), .val (.int (p1 &&& (15 : Int32))), .unset] [(.int (p1 &&& (15 : Int32))), (.ref b1)]))
    obtain ⟨cq14, kq14, q14a, q14b, q14c⟩ := isOf hZ e13 F8_E
    obtain ⟨_, _, ⟨T14, L14, k14, n14⟩, -, X14, ⟨Lc14, hQ14, l14, y14, z14⟩, st14⟩ := X13.virtualBack hx (y := (⟨"java/lang/String", "charAt", "(I)C"⟩ : MethodName)) (z := (⟨"java/lang/String", "charAt", "(I)C"⟩ : MethodName)) hown (mvT hZ (hw _ (List.mem_of_getElem? (i := 14) rfl))) (mvT hZ (hw _ (List.mem_of_getElem? (i := 15) rfl))) (notFace_of_selects (args := #[]) (mvT hZ (hw _ (List.mem_of_getElem? (i := 17) rfl)))) (mvT hZ (hw _ (List.mem_of_getElem? (i := 17) rfl))) (mvT hZ (hw _ (List.mem_of_getElem? (i := 16) rfl))) (by decide) (backOf (W := 0) (rm2 l Z _ hw [] b1 (p1 &&& (15 : Int32)) fm z1 c1 16 (own_g 0) h5 n0 Zs12 F6_COMPACT_STRINGS F7_SIOOBE_FORMATTER F8_E F9_coder F10_value F11_P hz1 rf1 (own_v p1).1 (own_clt (own_v p1).1 (own_v p1).2) (by decide)) hZ (hw _ (List.mem_of_getElem? (i := 18) rfl)) (hw _ (List.mem_of_getElem? (i := 1) rfl)) (by decide) (by decide)) q14a q14c (g := (mkF m 88 #[.val (.int p0), .val (.int p1), .val (.ref b1), .val (.ref b5), .val (.int ((p0 &&& (65535 : Int32)).toUInt32.toUInt16.toUInt32.toInt32)), .val (.int (f1 ((p0 &&& (65535 : Int32)).toUInt32.toUInt16.toUInt32.toInt32))), .val (.int (1 : Int32)), .val (.int (p1 &&& (15 : Int32))), .unset] [(.int (p1 &&& (15 : Int32))), (.ref b1)])) rfl (by rw [hml]; rfl) (Steps.refl _) (argsL := [(.int (p1 &&& (15 : Int32)))]) (rest := []) (lenOf pd_5 rfl) rfl (by show 2 * 0 + _ ≤ _; exact Nat.le_of_eq rfl) (hb hby at_88) (fun _ _ => ⟨rfl, e13, (by decide : 4 + 0 ≤ _), (by decide : 136 + 0 ≤ _)⟩)
    dsimp only [Pt.U, Pt.locs, Pt.cells, Pt.slots] at X14 l14 y14 z14 st14 hQ14
    subst l14 y14 z14
    obtain ⟨rfl, N14q, e14⟩ := hQ14
    have N14 := Fr.app N13 N14q
    refine own_st ?_ (fun t k => st14.trans k)
    show own_G p.tables e below _ _ (T14.setTop (mkF m 91 #[.val (.int p0), .val (.int p1), .val (.ref b1), .val (.ref b5), .val (.int ((p0 &&& (65535 : Int32)).toUInt32.toUInt16.toUInt32.toInt32)), .val (.int (f1 ((p0 &&& (65535 : Int32)).toUInt32.toUInt16.toUInt32.toInt32))), .val (.int (1 : Int32)), .val (.int (p1 &&& (15 : Int32))), .unset] [(.int (own_ch 0 (p1 &&& (15 : Int32))))]))
    obtain ⟨_, _, ⟨T15, L15, k15, n15⟩, -, X15, ⟨Lc15, hQ15, l15, y15, z15⟩, st15⟩ := Jvm.LawKit.callS X14 hx (y := (⟨"com/example/katalogd/katalogd/http/HttpSyntax", "hexDigit", "(C)I"⟩ : MethodName)) hown (mvT hZ (hw _ (List.mem_of_getElem? (i := 10) rfl))) (mvT hZ (hw _ (List.mem_of_getElem? (i := 11) rfl))) (mvT hZ (hw _ (List.mem_of_getElem? (i := 12) rfl))) (mvT hZ (hw _ (List.mem_of_getElem? (i := 13) rfl))) (by decide) (backOf (W := 0) (rm1 l Z _ hw [] (own_ch 0 (p1 &&& (15 : Int32)))  h5 n0 Zs12 ) hZ (hw _ (List.mem_of_getElem? (i := 13) rfl)) (hw _ (List.mem_of_getElem? (i := 12) rfl)) (by decide) (by decide)) (g := (mkF m 91 #[.val (.int p0), .val (.int p1), .val (.ref b1), .val (.ref b5), .val (.int ((p0 &&& (65535 : Int32)).toUInt32.toUInt16.toUInt32.toInt32)), .val (.int (f1 ((p0 &&& (65535 : Int32)).toUInt32.toUInt16.toUInt32.toInt32))), .val (.int (1 : Int32)), .val (.int (p1 &&& (15 : Int32))), .unset] [(.int (own_ch 0 (p1 &&& (15 : Int32))))])) rfl (by rw [hml]; rfl) (argsL := [(.int (own_ch 0 (p1 &&& (15 : Int32))))]) (rest := []) (lenOf pd_4 rfl) rfl (by show 2 * 0 + _ ≤ _; exact Nat.le_of_eq rfl) (hb hby at_91) (fun _ _ => ⟨rfl, e14, (by decide : 4 + 0 ≤ _), (by decide : 136 + 0 ≤ _)⟩)
    dsimp only [Pt.U, Pt.locs, Pt.cells, Pt.slots] at X15 l15 y15 z15 st15 hQ15
    subst l15 y15 z15
    obtain ⟨rfl, N15q, e15⟩ := hQ15
    have N15 := Fr.app N14 N15q
    refine own_st ?_ st15
    show own_G p.tables e below _ _ (T15.setTop (mkF m 94 #[.val (.int p0), .val (.int p1), .val (.ref b1), .val (.ref b5), .val (.int ((p0 &&& (65535 : Int32)).toUInt32.toUInt16.toUInt32.toInt32)), .val (.int (f1 ((p0 &&& (65535 : Int32)).toUInt32.toUInt16.toUInt32.toInt32))), .val (.int (1 : Int32)), .val (.int (p1 &&& (15 : Int32))), .unset] [(.int (f1 (own_ch 0 (p1 &&& (15 : Int32)))))]))
    refine own_st ?_ (fun t k => XS.iload X15.here hx rfl (hb hby at_94) rfl k)
    show own_G p.tables e below _ _ (T15.setTop (mkF m 96 #[.val (.int p0), .val (.int p1), .val (.ref b1), .val (.ref b5), .val (.int ((p0 &&& (65535 : Int32)).toUInt32.toUInt16.toUInt32.toInt32)), .val (.int (f1 ((p0 &&& (65535 : Int32)).toUInt32.toUInt16.toUInt32.toInt32))), .val (.int (1 : Int32)), .val (.int (p1 &&& (15 : Int32))), .unset] [(.int (p1 &&& (15 : Int32))), (.int (f1 (own_ch 0 (p1 &&& (15 : Int32)))))]))
    refine own_st ?_ (fun t k => XS.icmpNo X15.here hx rfl (hb hby at_96) rfl (teq (own_dig p1).1).2 k)
    show own_G p.tables e below _ _ (T15.setTop (mkF m 99 #[.val (.int p0), .val (.int p1), .val (.ref b1), .val (.ref b5), .val (.int ((p0 &&& (65535 : Int32)).toUInt32.toUInt16.toUInt32.toInt32)), .val (.int (f1 ((p0 &&& (65535 : Int32)).toUInt32.toUInt16.toUInt32.toInt32))), .val (.int (1 : Int32)), .val (.int (p1 &&& (15 : Int32))), .unset] []))
    refine own_st ?_ (fun t k => XS.aloadN X15.here hx rfl (hb hby at_99) rfl rfl k)
    show own_G p.tables e below _ _ (T15.setTop (mkF m 100 #[.val (.int p0), .val (.int p1), .val (.ref b1), .val (.ref b5), .val (.int ((p0 &&& (65535 : Int32)).toUInt32.toUInt16.toUInt32.toInt32)), .val (.int (f1 ((p0 &&& (65535 : Int32)).toUInt32.toUInt16.toUInt32.toInt32))), .val (.int (1 : Int32)), .val (.int (p1 &&& (15 : Int32))), .unset] [(.ref b5)]))
    refine own_st ?_ (fun t k => XS.iload X15.here hx rfl (hb hby at_100) rfl k)
    show own_G p.tables e below _ _ (T15.setTop (mkF m 102 #[.val (.int p0), .val (.int p1), .val (.ref b1), .val (.ref b5), .val (.int ((p0 &&& (65535 : Int32)).toUInt32.toUInt16.toUInt32.toInt32)), .val (.int (f1 ((p0 &&& (65535 : Int32)).toUInt32.toUInt16.toUInt32.toInt32))), .val (.int (1 : Int32)), .val (.int (p1 &&& (15 : Int32))), .unset] [(.int (p1 &&& (15 : Int32))), (.ref b5)]))
    obtain ⟨cq16, kq16, q16a, q16b, q16c⟩ := isOf hZ e15 Es5
    obtain ⟨_, _, ⟨T16, L16, k16, n16⟩, -, X16, ⟨Lc16, hQ16, l16, y16, z16⟩, st16⟩ := X15.virtualBack hx (y := (⟨"java/lang/String", "charAt", "(I)C"⟩ : MethodName)) (z := (⟨"java/lang/String", "charAt", "(I)C"⟩ : MethodName)) hown (mvT hZ (hw _ (List.mem_of_getElem? (i := 14) rfl))) (mvT hZ (hw _ (List.mem_of_getElem? (i := 15) rfl))) (notFace_of_selects (args := #[]) (mvT hZ (hw _ (List.mem_of_getElem? (i := 17) rfl)))) (mvT hZ (hw _ (List.mem_of_getElem? (i := 17) rfl))) (mvT hZ (hw _ (List.mem_of_getElem? (i := 16) rfl))) (by decide) (backOf (W := 0) (rm2 l Z _ hw [] b5 (p1 &&& (15 : Int32)) fm z1 c5 16 (own_g 8) h5 n0 Zs12 F6_COMPACT_STRINGS F7_SIOOBE_FORMATTER Es5 Fc5 Fv5 Vc5 hz1 rf1 (own_v p1).1 (own_clt (own_v p1).1 (own_v p1).2) (by decide)) hZ (hw _ (List.mem_of_getElem? (i := 18) rfl)) (hw _ (List.mem_of_getElem? (i := 1) rfl)) (by decide) (by decide)) q16a q16c (g := (mkF m 102 #[.val (.int p0), .val (.int p1), .val (.ref b1), .val (.ref b5), .val (.int ((p0 &&& (65535 : Int32)).toUInt32.toUInt16.toUInt32.toInt32)), .val (.int (f1 ((p0 &&& (65535 : Int32)).toUInt32.toUInt16.toUInt32.toInt32))), .val (.int (1 : Int32)), .val (.int (p1 &&& (15 : Int32))), .unset] [(.int (p1 &&& (15 : Int32))), (.ref b5)])) rfl (by rw [hml]; rfl) (Steps.refl _) (argsL := [(.int (p1 &&& (15 : Int32)))]) (rest := []) (lenOf pd_5 rfl) rfl (by show 2 * 0 + _ ≤ _; exact Nat.le_of_eq rfl) (hb hby at_102) (fun _ _ => ⟨rfl, e15, (by decide : 4 + 0 ≤ _), (by decide : 136 + 0 ≤ _)⟩)
    dsimp only [Pt.U, Pt.locs, Pt.cells, Pt.slots] at X16 l16 y16 z16 st16 hQ16
    subst l16 y16 z16
    obtain ⟨rfl, N16q, e16⟩ := hQ16
    have N16 := Fr.app N15 N16q
    refine own_st ?_ (fun t k => st16.trans k)
    show own_G p.tables e below _ _ (T16.setTop (mkF m 105 #[.val (.int p0), .val (.int p1), .val (.ref b1), .val (.ref b5), .val (.int ((p0 &&& (65535 : Int32)).toUInt32.toUInt16.toUInt32.toInt32)), .val (.int (f1 ((p0 &&& (65535 : Int32)).toUInt32.toUInt16.toUInt32.toInt32))), .val (.int (1 : Int32)), .val (.int (p1 &&& (15 : Int32))), .unset] [(.int (own_ch 8 (p1 &&& (15 : Int32))))]))
    obtain ⟨_, _, ⟨T17, L17, k17, n17⟩, -, X17, ⟨Lc17, hQ17, l17, y17, z17⟩, st17⟩ := Jvm.LawKit.callS X16 hx (y := (⟨"com/example/katalogd/katalogd/http/HttpSyntax", "hexDigit", "(C)I"⟩ : MethodName)) hown (mvT hZ (hw _ (List.mem_of_getElem? (i := 10) rfl))) (mvT hZ (hw _ (List.mem_of_getElem? (i := 11) rfl))) (mvT hZ (hw _ (List.mem_of_getElem? (i := 12) rfl))) (mvT hZ (hw _ (List.mem_of_getElem? (i := 13) rfl))) (by decide) (backOf (W := 0) (rm1 l Z _ hw [] (own_ch 8 (p1 &&& (15 : Int32)))  h5 n0 Zs12 ) hZ (hw _ (List.mem_of_getElem? (i := 13) rfl)) (hw _ (List.mem_of_getElem? (i := 12) rfl)) (by decide) (by decide)) (g := (mkF m 105 #[.val (.int p0), .val (.int p1), .val (.ref b1), .val (.ref b5), .val (.int ((p0 &&& (65535 : Int32)).toUInt32.toUInt16.toUInt32.toInt32)), .val (.int (f1 ((p0 &&& (65535 : Int32)).toUInt32.toUInt16.toUInt32.toInt32))), .val (.int (1 : Int32)), .val (.int (p1 &&& (15 : Int32))), .unset] [(.int (own_ch 8 (p1 &&& (15 : Int32))))])) rfl (by rw [hml]; rfl) (argsL := [(.int (own_ch 8 (p1 &&& (15 : Int32))))]) (rest := []) (lenOf pd_4 rfl) rfl (by show 2 * 0 + _ ≤ _; exact Nat.le_of_eq rfl) (hb hby at_105) (fun _ _ => ⟨rfl, e16, (by decide : 4 + 0 ≤ _), (by decide : 136 + 0 ≤ _)⟩)
    dsimp only [Pt.U, Pt.locs, Pt.cells, Pt.slots] at X17 l17 y17 z17 st17 hQ17
    subst l17 y17 z17
    obtain ⟨rfl, N17q, e17⟩ := hQ17
    have N17 := Fr.app N16 N17q
    refine own_st ?_ st17
    show own_G p.tables e below _ _ (T17.setTop (mkF m 108 #[.val (.int p0), .val (.int p1), .val (.ref b1), .val (.ref b5), .val (.int ((p0 &&& (65535 : Int32)).toUInt32.toUInt16.toUInt32.toInt32)), .val (.int (f1 ((p0 &&& (65535 : Int32)).toUInt32.toUInt16.toUInt32.toInt32))), .val (.int (1 : Int32)), .val (.int (p1 &&& (15 : Int32))), .unset] [(.int (f1 (own_ch 8 (p1 &&& (15 : Int32)))))]))
    refine own_st ?_ (fun t k => XS.iload X17.here hx rfl (hb hby at_108) rfl k)
    show own_G p.tables e below _ _ (T17.setTop (mkF m 110 #[.val (.int p0), .val (.int p1), .val (.ref b1), .val (.ref b5), .val (.int ((p0 &&& (65535 : Int32)).toUInt32.toUInt16.toUInt32.toInt32)), .val (.int (f1 ((p0 &&& (65535 : Int32)).toUInt32.toUInt16.toUInt32.toInt32))), .val (.int (1 : Int32)), .val (.int (p1 &&& (15 : Int32))), .unset] [(.int (p1 &&& (15 : Int32))), (.int (f1 (own_ch 8 (p1 &&& (15 : Int32)))))]))
    refine own_st ?_ (fun t k => XS.icmpNo X17.here hx rfl (hb hby at_110) rfl (teq (own_dig p1).2).2 k)
    show own_G p.tables e below _ _ (T17.setTop (mkF m 113 #[.val (.int p0), .val (.int p1), .val (.ref b1), .val (.ref b5), .val (.int ((p0 &&& (65535 : Int32)).toUInt32.toUInt16.toUInt32.toInt32)), .val (.int (f1 ((p0 &&& (65535 : Int32)).toUInt32.toUInt16.toUInt32.toInt32))), .val (.int (1 : Int32)), .val (.int (p1 &&& (15 : Int32))), .unset] []))
    refine own_st ?_ (fun t k => XS.iconst X17.here hx rfl (hb hby at_113) k)
    show own_G p.tables e below _ _ (T17.setTop (mkF m 114 #[.val (.int p0), .val (.int p1), .val (.ref b1), .val (.ref b5), .val (.int ((p0 &&& (65535 : Int32)).toUInt32.toUInt16.toUInt32.toInt32)), .val (.int (f1 ((p0 &&& (65535 : Int32)).toUInt32.toUInt16.toUInt32.toInt32))), .val (.int (1 : Int32)), .val (.int (p1 &&& (15 : Int32))), .unset] [(.int (1 : Int32))]))
    refine own_st ?_ (fun t k => XS.goto X17.here hx rfl (pc0 := 114) (pc' := 118) rfl (hb hby at_114) (by decide) (by decide) k)
    show own_G p.tables e below _ _ (T17.setTop (mkF m 118 #[.val (.int p0), .val (.int p1), .val (.ref b1), .val (.ref b5), .val (.int ((p0 &&& (65535 : Int32)).toUInt32.toUInt16.toUInt32.toInt32)), .val (.int (f1 ((p0 &&& (65535 : Int32)).toUInt32.toUInt16.toUInt32.toInt32))), .val (.int (1 : Int32)), .val (.int (p1 &&& (15 : Int32))), .unset] [(.int (1 : Int32))]))
    refine own_st ?_ (fun t k => XS.istore X17.here hx rfl (hb hby at_118) rfl (l' := #[.val (.int p0), .val (.int p1), .val (.ref b1), .val (.ref b5), .val (.int ((p0 &&& (65535 : Int32)).toUInt32.toUInt16.toUInt32.toInt32)), .val (.int (f1 ((p0 &&& (65535 : Int32)).toUInt32.toUInt16.toUInt32.toInt32))), .val (.int (1 : Int32)), .val (.int (p1 &&& (15 : Int32))), .val (.int (1 : Int32))]) rfl k)
    show own_G p.tables e below _ _ (T17.setTop (mkF m 120 #[.val (.int p0), .val (.int p1), .val (.ref b1), .val (.ref b5), .val (.int ((p0 &&& (65535 : Int32)).toUInt32.toUInt16.toUInt32.toInt32)), .val (.int (f1 ((p0 &&& (65535 : Int32)).toUInt32.toUInt16.toUInt32.toInt32))), .val (.int (1 : Int32)), .val (.int (p1 &&& (15 : Int32))), .val (.int (1 : Int32))] []))
    refine own_st ?_ (fun t k => XS.iload X17.here hx rfl (hb hby at_120) rfl k)
    show own_G p.tables e below _ _ (T17.setTop (mkF m 122 #[.val (.int p0), .val (.int p1), .val (.ref b1), .val (.ref b5), .val (.int ((p0 &&& (65535 : Int32)).toUInt32.toUInt16.toUInt32.toInt32)), .val (.int (f1 ((p0 &&& (65535 : Int32)).toUInt32.toUInt16.toUInt32.toInt32))), .val (.int (1 : Int32)), .val (.int (p1 &&& (15 : Int32))), .val (.int (1 : Int32))] [(.int (1 : Int32))]))
    refine own_st ?_ (fun t k => XS.ifNo X17.here hx rfl (hb hby at_122) rfl ((if0 _ _).trans (feq (by decide : ¬ ((1 : Int32) = (0 : Int32)))).1) k)
    show own_G p.tables e below _ _ (T17.setTop (mkF m 125 #[.val (.int p0), .val (.int p1), .val (.ref b1), .val (.ref b5), .val (.int ((p0 &&& (65535 : Int32)).toUInt32.toUInt16.toUInt32.toInt32)), .val (.int (f1 ((p0 &&& (65535 : Int32)).toUInt32.toUInt16.toUInt32.toInt32))), .val (.int (1 : Int32)), .val (.int (p1 &&& (15 : Int32))), .val (.int (1 : Int32))] []))
    refine own_st ?_ (fun t k => XS.iload X17.here hx rfl (hb hby at_125) rfl k)
    show own_G p.tables e below _ _ (T17.setTop (mkF m 127 #[.val (.int p0), .val (.int p1), .val (.ref b1), .val (.ref b5), .val (.int ((p0 &&& (65535 : Int32)).toUInt32.toUInt16.toUInt32.toInt32)), .val (.int (f1 ((p0 &&& (65535 : Int32)).toUInt32.toUInt16.toUInt32.toInt32))), .val (.int (1 : Int32)), .val (.int (p1 &&& (15 : Int32))), .val (.int (1 : Int32))] [(.int (1 : Int32))]))
    refine own_st ?_ (fun t k => XS.ifNo X17.here hx rfl (hb hby at_127) rfl ((if0 _ _).trans (feq (by decide : ¬ ((1 : Int32) = (0 : Int32)))).1) k)
    show own_G p.tables e below _ _ (T17.setTop (mkF m 130 #[.val (.int p0), .val (.int p1), .val (.ref b1), .val (.ref b5), .val (.int ((p0 &&& (65535 : Int32)).toUInt32.toUInt16.toUInt32.toInt32)), .val (.int (f1 ((p0 &&& (65535 : Int32)).toUInt32.toUInt16.toUInt32.toInt32))), .val (.int (1 : Int32)), .val (.int (p1 &&& (15 : Int32))), .val (.int (1 : Int32))] []))
    refine own_st ?_ (fun t k => XS.iconst X17.here hx rfl (hb hby at_130) k)
    show own_G p.tables e below _ _ (T17.setTop (mkF m 131 #[.val (.int p0), .val (.int p1), .val (.ref b1), .val (.ref b5), .val (.int ((p0 &&& (65535 : Int32)).toUInt32.toUInt16.toUInt32.toInt32)), .val (.int (f1 ((p0 &&& (65535 : Int32)).toUInt32.toUInt16.toUInt32.toInt32))), .val (.int (1 : Int32)), .val (.int (p1 &&& (15 : Int32))), .val (.int (1 : Int32))] [(.int (1 : Int32))]))
    refine own_st ?_ (fun t k => XS.goto X17.here hx rfl (pc0 := 131) (pc' := 135) rfl (hb hby at_131) (by decide) (by decide) k)
    show own_G p.tables e below _ _ (T17.setTop (mkF m 135 #[.val (.int p0), .val (.int p1), .val (.ref b1), .val (.ref b5), .val (.int ((p0 &&& (65535 : Int32)).toUInt32.toUInt16.toUInt32.toInt32)), .val (.int (f1 ((p0 &&& (65535 : Int32)).toUInt32.toUInt16.toUInt32.toInt32))), .val (.int (1 : Int32)), .val (.int (p1 &&& (15 : Int32))), .val (.int (1 : Int32))] [(.int (1 : Int32))]))
    exact own_retNW X17 hx hlk hS5 (by rw [e17]; exact hk5) (t := .boolean) hret (by simp) (hb hby at_135) (by decide) (by decide) (z' := (1 : Int32)) rfl ⟨rfl, N17⟩
  · refine own_st ?_ (fun t k => XS.icmpYes X13.here hx rfl (pc0 := 23) (pc' := 32) rfl (hb hby at_23) rfl (feq hc23).2 (by decide) (by decide) k)
    show own_G p.tables e below _ _ (T13.setTop (mkF m 32 #[.val (.int p0), .val (.int p1), .val (.ref b1), .val (.ref b5), .val (.int ((p0 &&& (65535 : Int32)).toUInt32.toUInt16.toUInt32.toInt32)), .val (.int (f1 ((p0 &&& (65535 : Int32)).toUInt32.toUInt16.toUInt32.toInt32))), .unset, .unset, .unset] []))
    refine own_st ?_ (fun t k => XS.iload X13.here hx rfl (hb hby at_32) rfl k)
    show own_G p.tables e below _ _ (T13.setTop (mkF m 34 #[.val (.int p0), .val (.int p1), .val (.ref b1), .val (.ref b5), .val (.int ((p0 &&& (65535 : Int32)).toUInt32.toUInt16.toUInt32.toInt32)), .val (.int (f1 ((p0 &&& (65535 : Int32)).toUInt32.toUInt16.toUInt32.toInt32))), .unset, .unset, .unset] [(.int (f1 ((p0 &&& (65535 : Int32)).toUInt32.toUInt16.toUInt32.toInt32)))]))
    refine own_st ?_ (fun t k => XS.ifNo X13.here hx rfl (hb hby at_34) rfl ((if0 _ _).trans (flt (own_rn hc23)).1) k)
    show own_G p.tables e below _ _ (T13.setTop (mkF m 37 #[.val (.int p0), .val (.int p1), .val (.ref b1), .val (.ref b5), .val (.int ((p0 &&& (65535 : Int32)).toUInt32.toUInt16.toUInt32.toInt32)), .val (.int (f1 ((p0 &&& (65535 : Int32)).toUInt32.toUInt16.toUInt32.toInt32))), .unset, .unset, .unset] []))
    refine own_st ?_ (fun t k => XS.iload X13.here hx rfl (hb hby at_37) rfl k)
    show own_G p.tables e below _ _ (T13.setTop (mkF m 39 #[.val (.int p0), .val (.int p1), .val (.ref b1), .val (.ref b5), .val (.int ((p0 &&& (65535 : Int32)).toUInt32.toUInt16.toUInt32.toInt32)), .val (.int (f1 ((p0 &&& (65535 : Int32)).toUInt32.toUInt16.toUInt32.toInt32))), .unset, .unset, .unset] [(.int (f1 ((p0 &&& (65535 : Int32)).toUInt32.toUInt16.toUInt32.toInt32)))]))
    refine own_st ?_ (fun t k => XS.bipush X13.here hx rfl (hb hby at_39) k)
    show own_G p.tables e below _ _ (T13.setTop (mkF m 41 #[.val (.int p0), .val (.int p1), .val (.ref b1), .val (.ref b5), .val (.int ((p0 &&& (65535 : Int32)).toUInt32.toUInt16.toUInt32.toInt32)), .val (.int (f1 ((p0 &&& (65535 : Int32)).toUInt32.toUInt16.toUInt32.toInt32))), .unset, .unset, .unset] [(.int (15 : Int32)), (.int (f1 ((p0 &&& (65535 : Int32)).toUInt32.toUInt16.toUInt32.toInt32)))]))
    refine own_st ?_ (fun t k => XS.icmpNo X13.here hx rfl (hb hby at_41) rfl (flt (own_15 _ (own_char _).1)).2.2.1 k)
    show own_G p.tables e below _ _ (T13.setTop (mkF m 44 #[.val (.int p0), .val (.int p1), .val (.ref b1), .val (.ref b5), .val (.int ((p0 &&& (65535 : Int32)).toUInt32.toUInt16.toUInt32.toInt32)), .val (.int (f1 ((p0 &&& (65535 : Int32)).toUInt32.toUInt16.toUInt32.toInt32))), .unset, .unset, .unset] []))
    refine own_st ?_ (fun t k => XS.aloadN X13.here hx rfl (hb hby at_44) rfl rfl k)
    show own_G p.tables e below _ _ (T13.setTop (mkF m 45 #[.val (.int p0), .val (.int p1), .val (.ref b1), .val (.ref b5), .val (.int ((p0 &&& (65535 : Int32)).toUInt32.toUInt16.toUInt32.toInt32)), .val (.int (f1 ((p0 &&& (65535 : Int32)).toUInt32.toUInt16.toUInt32.toInt32))), .unset, .unset, .unset] [(.ref b1)]))
    refine own_st ?_ (fun t k => XS.iload X13.here hx rfl (hb hby at_45) rfl k)
    show own_G p.tables e below _ _ (T13.setTop (mkF m 47 #[.val (.int p0), .val (.int p1), .val (.ref b1), .val (.ref b5), .val (.int ((p0 &&& (65535 : Int32)).toUInt32.toUInt16.toUInt32.toInt32)), .val (.int (f1 ((p0 &&& (65535 : Int32)).toUInt32.toUInt16.toUInt32.toInt32))), .unset, .unset, .unset] [(.int (f1 ((p0 &&& (65535 : Int32)).toUInt32.toUInt16.toUInt32.toInt32))), (.ref b1)]))
    obtain ⟨cq18, kq18, q18a, q18b, q18c⟩ := isOf hZ e13 F8_E
    obtain ⟨_, _, ⟨T18, L18, k18, n18⟩, -, X18, ⟨Lc18, hQ18, l18, y18, z18⟩, st18⟩ := X13.virtualBack hx (y := (⟨"java/lang/String", "charAt", "(I)C"⟩ : MethodName)) (z := (⟨"java/lang/String", "charAt", "(I)C"⟩ : MethodName)) hown (mvT hZ (hw _ (List.mem_of_getElem? (i := 14) rfl))) (mvT hZ (hw _ (List.mem_of_getElem? (i := 15) rfl))) (notFace_of_selects (args := #[]) (mvT hZ (hw _ (List.mem_of_getElem? (i := 17) rfl)))) (mvT hZ (hw _ (List.mem_of_getElem? (i := 17) rfl))) (mvT hZ (hw _ (List.mem_of_getElem? (i := 16) rfl))) (by decide) (backOf (W := 0) (rm2 l Z _ hw [] b1 (f1 ((p0 &&& (65535 : Int32)).toUInt32.toUInt16.toUInt32.toInt32)) fm z1 c1 16 (own_g 0) h5 n0 Zs12 F6_COMPACT_STRINGS F7_SIOOBE_FORMATTER F8_E F9_coder F10_value F11_P hz1 rf1 (own_rn hc23) (own_clt (own_rn hc23) (own_15 _ (own_char _).1)) (by decide)) hZ (hw _ (List.mem_of_getElem? (i := 18) rfl)) (hw _ (List.mem_of_getElem? (i := 1) rfl)) (by decide) (by decide)) q18a q18c (g := (mkF m 47 #[.val (.int p0), .val (.int p1), .val (.ref b1), .val (.ref b5), .val (.int ((p0 &&& (65535 : Int32)).toUInt32.toUInt16.toUInt32.toInt32)), .val (.int (f1 ((p0 &&& (65535 : Int32)).toUInt32.toUInt16.toUInt32.toInt32))), .unset, .unset, .unset] [(.int (f1 ((p0 &&& (65535 : Int32)).toUInt32.toUInt16.toUInt32.toInt32))), (.ref b1)])) rfl (by rw [hml]; rfl) (Steps.refl _) (argsL := [(.int (f1 ((p0 &&& (65535 : Int32)).toUInt32.toUInt16.toUInt32.toInt32)))]) (rest := []) (lenOf pd_5 rfl) rfl (by show 2 * 0 + _ ≤ _; exact Nat.le_of_eq rfl) (hb hby at_47) (fun _ _ => ⟨rfl, e13, (by decide : 4 + 0 ≤ _), (by decide : 136 + 0 ≤ _)⟩)
    dsimp only [Pt.U, Pt.locs, Pt.cells, Pt.slots] at X18 l18 y18 z18 st18 hQ18
    subst l18 y18 z18
    obtain ⟨rfl, N18q, e18⟩ := hQ18
    have N18 := Fr.app N13 N18q
    refine own_st ?_ (fun t k => st18.trans k)
    show own_G p.tables e below _ _ (T18.setTop (mkF m 50 #[.val (.int p0), .val (.int p1), .val (.ref b1), .val (.ref b5), .val (.int ((p0 &&& (65535 : Int32)).toUInt32.toUInt16.toUInt32.toInt32)), .val (.int (f1 ((p0 &&& (65535 : Int32)).toUInt32.toUInt16.toUInt32.toInt32))), .unset, .unset, .unset] [(.int (own_ch 0 (f1 ((p0 &&& (65535 : Int32)).toUInt32.toUInt16.toUInt32.toInt32))))]))
    refine own_st ?_ (fun t k => XS.iload X18.here hx rfl (hb hby at_50) rfl k)
    show own_G p.tables e below _ _ (T18.setTop (mkF m 52 #[.val (.int p0), .val (.int p1), .val (.ref b1), .val (.ref b5), .val (.int ((p0 &&& (65535 : Int32)).toUInt32.toUInt16.toUInt32.toInt32)), .val (.int (f1 ((p0 &&& (65535 : Int32)).toUInt32.toUInt16.toUInt32.toInt32))), .unset, .unset, .unset] [(.int ((p0 &&& (65535 : Int32)).toUInt32.toUInt16.toUInt32.toInt32)), (.int (own_ch 0 (f1 ((p0 &&& (65535 : Int32)).toUInt32.toUInt16.toUInt32.toInt32))))]))
    by_cases hc52 : (own_ch 0 (f1 ((p0 &&& (65535 : Int32)).toUInt32.toUInt16.toUInt32.toInt32))) = ((p0 &&& (65535 : Int32)).toUInt32.toUInt16.toUInt32.toInt32)
    · refine own_st ?_ (fun t k => XS.icmpYes X18.here hx rfl (pc0 := 52) (pc' := 66) rfl (hb hby at_52) rfl (teq hc52).1 (by decide) (by decide) k)
      show own_G p.tables e below _ _ (T18.setTop (mkF m 66 #[.val (.int p0), .val (.int p1), .val (.ref b1), .val (.ref b5), .val (.int ((p0 &&& (65535 : Int32)).toUInt32.toUInt16.toUInt32.toInt32)), .val (.int (f1 ((p0 &&& (65535 : Int32)).toUInt32.toUInt16.toUInt32.toInt32))), .unset, .unset, .unset] []))
      refine own_st ?_ (fun t k => XS.iconst X18.here hx rfl (hb hby at_66) k)
      show own_G p.tables e below _ _ (T18.setTop (mkF m 67 #[.val (.int p0), .val (.int p1), .val (.ref b1), .val (.ref b5), .val (.int ((p0 &&& (65535 : Int32)).toUInt32.toUInt16.toUInt32.toInt32)), .val (.int (f1 ((p0 &&& (65535 : Int32)).toUInt32.toUInt16.toUInt32.toInt32))), .unset, .unset, .unset] [(.int (1 : Int32))]))
      refine own_st ?_ (fun t k => XS.goto X18.here hx rfl (pc0 := 67) (pc' := 71) rfl (hb hby at_67) (by decide) (by decide) k)
      show own_G p.tables e below _ _ (T18.setTop (mkF m 71 #[.val (.int p0), .val (.int p1), .val (.ref b1), .val (.ref b5), .val (.int ((p0 &&& (65535 : Int32)).toUInt32.toUInt16.toUInt32.toInt32)), .val (.int (f1 ((p0 &&& (65535 : Int32)).toUInt32.toUInt16.toUInt32.toInt32))), .unset, .unset, .unset] [(.int (1 : Int32))]))
      refine own_st ?_ (fun t k => XS.istore X18.here hx rfl (hb hby at_71) rfl (l' := #[.val (.int p0), .val (.int p1), .val (.ref b1), .val (.ref b5), .val (.int ((p0 &&& (65535 : Int32)).toUInt32.toUInt16.toUInt32.toInt32)), .val (.int (f1 ((p0 &&& (65535 : Int32)).toUInt32.toUInt16.toUInt32.toInt32))), .val (.int (1 : Int32)), .unset, .unset]) rfl k)
      show own_G p.tables e below _ _ (T18.setTop (mkF m 73 #[.val (.int p0), .val (.int p1), .val (.ref b1), .val (.ref b5), .val (.int ((p0 &&& (65535 : Int32)).toUInt32.toUInt16.toUInt32.toInt32)), .val (.int (f1 ((p0 &&& (65535 : Int32)).toUInt32.toUInt16.toUInt32.toInt32))), .val (.int (1 : Int32)), .unset, .unset] []))
      refine own_st ?_ (fun t k => XS.goto X18.here hx rfl (pc0 := 73) (pc' := 79) rfl (hb hby at_73) (by decide) (by decide) k)
      show own_G p.tables e below _ _ (T18.setTop (mkF m 79 #[.val (.int p0), .val (.int p1), .val (.ref b1), .val (.ref b5), .val (.int ((p0 &&& (65535 : Int32)).toUInt32.toUInt16.toUInt32.toInt32)), .val (.int (f1 ((p0 &&& (65535 : Int32)).toUInt32.toUInt16.toUInt32.toInt32))), .val (.int (1 : Int32)), .unset, .unset] []))
      refine own_st ?_ (fun t k => XS.iloadN X18.here hx rfl (hb hby at_79) rfl k)
      show own_G p.tables e below _ _ (T18.setTop (mkF m 80 #[.val (.int p0), .val (.int p1), .val (.ref b1), .val (.ref b5), .val (.int ((p0 &&& (65535 : Int32)).toUInt32.toUInt16.toUInt32.toInt32)), .val (.int (f1 ((p0 &&& (65535 : Int32)).toUInt32.toUInt16.toUInt32.toInt32))), .val (.int (1 : Int32)), .unset, .unset] [(.int p1)]))
      refine own_st ?_ (fun t k => XS.bipush X18.here hx rfl (hb hby at_80) k)
      show own_G p.tables e below _ _ (T18.setTop (mkF m 82 #[.val (.int p0), .val (.int p1), .val (.ref b1), .val (.ref b5), .val (.int ((p0 &&& (65535 : Int32)).toUInt32.toUInt16.toUInt32.toInt32)), .val (.int (f1 ((p0 &&& (65535 : Int32)).toUInt32.toUInt16.toUInt32.toInt32))), .val (.int (1 : Int32)), .unset, .unset] [(.int (15 : Int32)), (.int p1)]))
      refine own_st ?_ (fun t k => XS.iand X18.here hx rfl (hb hby at_82) rfl k)
      show own_G p.tables e below _ _ (T18.setTop (mkF m 83 #[.val (.int p0), .val (.int p1), .val (.ref b1), .val (.ref b5), .val (.int ((p0 &&& (65535 : Int32)).toUInt32.toUInt16.toUInt32.toInt32)), .val (.int (f1 ((p0 &&& (65535 : Int32)).toUInt32.toUInt16.toUInt32.toInt32))), .val (.int (1 : Int32)), .unset, .unset] [(.int (p1 &&& (15 : Int32)))]))
      refine own_st ?_ (fun t k => XS.istore X18.here hx rfl (hb hby at_83) rfl (l' := #[.val (.int p0), .val (.int p1), .val (.ref b1), .val (.ref b5), .val (.int ((p0 &&& (65535 : Int32)).toUInt32.toUInt16.toUInt32.toInt32)), .val (.int (f1 ((p0 &&& (65535 : Int32)).toUInt32.toUInt16.toUInt32.toInt32))), .val (.int (1 : Int32)), .val (.int (p1 &&& (15 : Int32))), .unset]) rfl k)
      show own_G p.tables e below _ _ (T18.setTop (mkF m 85 #[.val (.int p0), .val (.int p1), .val (.ref b1), .val (.ref b5), .val (.int ((p0 &&& (65535 : Int32)).toUInt32.toUInt16.toUInt32.toInt32)), .val (.int (f1 ((p0 &&& (65535 : Int32)).toUInt32.toUInt16.toUInt32.toInt32))), .val (.int (1 : Int32)), .val (.int (p1 &&& (15 : Int32))), .unset] []))
      refine own_st ?_ (fun t k => XS.aloadN X18.here hx rfl (hb hby at_85) rfl rfl k)
      show own_G p.tables e below _ _ (T18.setTop (mkF m 86 #[.val (.int p0), .val (.int p1), .val (.ref b1), .val (.ref b5), .val (.int ((p0 &&& (65535 : Int32)).toUInt32.toUInt16.toUInt32.toInt32)), .val (.int (f1 ((p0 &&& (65535 : Int32)).toUInt32.toUInt16.toUInt32.toInt32))), .val (.int (1 : Int32)), .val (.int (p1 &&& (15 : Int32))), .unset] [(.ref b1)]))
      refine own_st ?_ (fun t k => XS.iload X18.here hx rfl (hb hby at_86) rfl k)
      show own_G p.tables e below _ _ (T18.setTop (mkF m 88 #[.val (.int p0), .val (.int p1), .val (.ref b1), .val (.ref b5), .val (.int ((p0 &&& (65535 : Int32)).toUInt32.toUInt16.toUInt32.toInt32)), .val (.int (f1 ((p0 &&& (65535 : Int32)).toUInt32.toUInt16.toUInt32.toInt32))), .val (.int (1 : Int32)), .val (.int (p1 &&& (15 : Int32))), .unset] [(.int (p1 &&& (15 : Int32))), (.ref b1)]))
      obtain ⟨cq19, kq19, q19a, q19b, q19c⟩ := isOf hZ e18 F8_E
      obtain ⟨_, _, ⟨T19, L19, k19, n19⟩, -, X19, ⟨Lc19, hQ19, l19, y19, z19⟩, st19⟩ := X18.virtualBack hx (y := (⟨"java/lang/String", "charAt", "(I)C"⟩ : MethodName)) (z := (⟨"java/lang/String", "charAt", "(I)C"⟩ : MethodName)) hown (mvT hZ (hw _ (List.mem_of_getElem? (i := 14) rfl))) (mvT hZ (hw _ (List.mem_of_getElem? (i := 15) rfl))) (notFace_of_selects (args := #[]) (mvT hZ (hw _ (List.mem_of_getElem? (i := 17) rfl)))) (mvT hZ (hw _ (List.mem_of_getElem? (i := 17) rfl))) (mvT hZ (hw _ (List.mem_of_getElem? (i := 16) rfl))) (by decide) (backOf (W := 0) (rm2 l Z _ hw [] b1 (p1 &&& (15 : Int32)) fm z1 c1 16 (own_g 0) h5 n0 Zs12 F6_COMPACT_STRINGS F7_SIOOBE_FORMATTER F8_E F9_coder F10_value F11_P hz1 rf1 (own_v p1).1 (own_clt (own_v p1).1 (own_v p1).2) (by decide)) hZ (hw _ (List.mem_of_getElem? (i := 18) rfl)) (hw _ (List.mem_of_getElem? (i := 1) rfl)) (by decide) (by decide)) q19a q19c (g := (mkF m 88 #[.val (.int p0), .val (.int p1), .val (.ref b1), .val (.ref b5), .val (.int ((p0 &&& (65535 : Int32)).toUInt32.toUInt16.toUInt32.toInt32)), .val (.int (f1 ((p0 &&& (65535 : Int32)).toUInt32.toUInt16.toUInt32.toInt32))), .val (.int (1 : Int32)), .val (.int (p1 &&& (15 : Int32))), .unset] [(.int (p1 &&& (15 : Int32))), (.ref b1)])) rfl (by rw [hml]; rfl) (Steps.refl _) (argsL := [(.int (p1 &&& (15 : Int32)))]) (rest := []) (lenOf pd_5 rfl) rfl (by show 2 * 0 + _ ≤ _; exact Nat.le_of_eq rfl) (hb hby at_88) (fun _ _ => ⟨rfl, e18, (by decide : 4 + 0 ≤ _), (by decide : 136 + 0 ≤ _)⟩)
      dsimp only [Pt.U, Pt.locs, Pt.cells, Pt.slots] at X19 l19 y19 z19 st19 hQ19
      subst l19 y19 z19
      obtain ⟨rfl, N19q, e19⟩ := hQ19
      have N19 := Fr.app N18 N19q
      refine own_st ?_ (fun t k => st19.trans k)
      show own_G p.tables e below _ _ (T19.setTop (mkF m 91 #[.val (.int p0), .val (.int p1), .val (.ref b1), .val (.ref b5), .val (.int ((p0 &&& (65535 : Int32)).toUInt32.toUInt16.toUInt32.toInt32)), .val (.int (f1 ((p0 &&& (65535 : Int32)).toUInt32.toUInt16.toUInt32.toInt32))), .val (.int (1 : Int32)), .val (.int (p1 &&& (15 : Int32))), .unset] [(.int (own_ch 0 (p1 &&& (15 : Int32))))]))
      obtain ⟨_, _, ⟨T20, L20, k20, n20⟩, -, X20, ⟨Lc20, hQ20, l20, y20, z20⟩, st20⟩ := Jvm.LawKit.callS X19 hx (y := (⟨"com/example/katalogd/katalogd/http/HttpSyntax", "hexDigit", "(C)I"⟩ : MethodName)) hown (mvT hZ (hw _ (List.mem_of_getElem? (i := 10) rfl))) (mvT hZ (hw _ (List.mem_of_getElem? (i := 11) rfl))) (mvT hZ (hw _ (List.mem_of_getElem? (i := 12) rfl))) (mvT hZ (hw _ (List.mem_of_getElem? (i := 13) rfl))) (by decide) (backOf (W := 0) (rm1 l Z _ hw [] (own_ch 0 (p1 &&& (15 : Int32)))  h5 n0 Zs12 ) hZ (hw _ (List.mem_of_getElem? (i := 13) rfl)) (hw _ (List.mem_of_getElem? (i := 12) rfl)) (by decide) (by decide)) (g := (mkF m 91 #[.val (.int p0), .val (.int p1), .val (.ref b1), .val (.ref b5), .val (.int ((p0 &&& (65535 : Int32)).toUInt32.toUInt16.toUInt32.toInt32)), .val (.int (f1 ((p0 &&& (65535 : Int32)).toUInt32.toUInt16.toUInt32.toInt32))), .val (.int (1 : Int32)), .val (.int (p1 &&& (15 : Int32))), .unset] [(.int (own_ch 0 (p1 &&& (15 : Int32))))])) rfl (by rw [hml]; rfl) (argsL := [(.int (own_ch 0 (p1 &&& (15 : Int32))))]) (rest := []) (lenOf pd_4 rfl) rfl (by show 2 * 0 + _ ≤ _; exact Nat.le_of_eq rfl) (hb hby at_91) (fun _ _ => ⟨rfl, e19, (by decide : 4 + 0 ≤ _), (by decide : 136 + 0 ≤ _)⟩)
      dsimp only [Pt.U, Pt.locs, Pt.cells, Pt.slots] at X20 l20 y20 z20 st20 hQ20
      subst l20 y20 z20
      obtain ⟨rfl, N20q, e20⟩ := hQ20
      have N20 := Fr.app N19 N20q
      refine own_st ?_ st20
      show own_G p.tables e below _ _ (T20.setTop (mkF m 94 #[.val (.int p0), .val (.int p1), .val (.ref b1), .val (.ref b5), .val (.int ((p0 &&& (65535 : Int32)).toUInt32.toUInt16.toUInt32.toInt32)), .val (.int (f1 ((p0 &&& (65535 : Int32)).toUInt32.toUInt16.toUInt32.toInt32))), .val (.int (1 : Int32)), .val (.int (p1 &&& (15 : Int32))), .unset] [(.int (f1 (own_ch 0 (p1 &&& (15 : Int32)))))]))
      refine own_st ?_ (fun t k => XS.iload X20.here hx rfl (hb hby at_94) rfl k)
      show own_G p.tables e below _ _ (T20.setTop (mkF m 96 #[.val (.int p0), .val (.int p1), .val (.ref b1), .val (.ref b5), .val (.int ((p0 &&& (65535 : Int32)).toUInt32.toUInt16.toUInt32.toInt32)), .val (.int (f1 ((p0 &&& (65535 : Int32)).toUInt32.toUInt16.toUInt32.toInt32))), .val (.int (1 : Int32)), .val (.int (p1 &&& (15 : Int32))), .unset] [(.int (p1 &&& (15 : Int32))), (.int (f1 (own_ch 0 (p1 &&& (15 : Int32)))))]))
      refine own_st ?_ (fun t k => XS.icmpNo X20.here hx rfl (hb hby at_96) rfl (teq (own_dig p1).1).2 k)
      show own_G p.tables e below _ _ (T20.setTop (mkF m 99 #[.val (.int p0), .val (.int p1), .val (.ref b1), .val (.ref b5), .val (.int ((p0 &&& (65535 : Int32)).toUInt32.toUInt16.toUInt32.toInt32)), .val (.int (f1 ((p0 &&& (65535 : Int32)).toUInt32.toUInt16.toUInt32.toInt32))), .val (.int (1 : Int32)), .val (.int (p1 &&& (15 : Int32))), .unset] []))
      refine own_st ?_ (fun t k => XS.aloadN X20.here hx rfl (hb hby at_99) rfl rfl k)
      show own_G p.tables e below _ _ (T20.setTop (mkF m 100 #[.val (.int p0), .val (.int p1), .val (.ref b1), .val (.ref b5), .val (.int ((p0 &&& (65535 : Int32)).toUInt32.toUInt16.toUInt32.toInt32)), .val (.int (f1 ((p0 &&& (65535 : Int32)).toUInt32.toUInt16.toUInt32.toInt32))), .val (.int (1 : Int32)), .val (.int (p1 &&& (15 : Int32))), .unset] [(.ref b5)]))
      refine own_st ?_ (fun t k => XS.iload X20.here hx rfl (hb hby at_100) rfl k)
      show own_G p.tables e below _ _ (T20.setTop (mkF m 102 #[.val (.int p0), .val (.int p1), .val (.ref b1), .val (.ref b5), .val (.int ((p0 &&& (65535 : Int32)).toUInt32.toUInt16.toUInt32.toInt32)), .val (.int (f1 ((p0 &&& (65535 : Int32)).toUInt32.toUInt16.toUInt32.toInt32))), .val (.int (1 : Int32)), .val (.int (p1 &&& (15 : Int32))), .unset] [(.int (p1 &&& (15 : Int32))), (.ref b5)]))
      obtain ⟨cq21, kq21, q21a, q21b, q21c⟩ := isOf hZ e20 Es5
      obtain ⟨_, _, ⟨T21, L21, k21, n21⟩, -, X21, ⟨Lc21, hQ21, l21, y21, z21⟩, st21⟩ := X20.virtualBack hx (y := (⟨"java/lang/String", "charAt", "(I)C"⟩ : MethodName)) (z := (⟨"java/lang/String", "charAt", "(I)C"⟩ : MethodName)) hown (mvT hZ (hw _ (List.mem_of_getElem? (i := 14) rfl))) (mvT hZ (hw _ (List.mem_of_getElem? (i := 15) rfl))) (notFace_of_selects (args := #[]) (mvT hZ (hw _ (List.mem_of_getElem? (i := 17) rfl)))) (mvT hZ (hw _ (List.mem_of_getElem? (i := 17) rfl))) (mvT hZ (hw _ (List.mem_of_getElem? (i := 16) rfl))) (by decide) (backOf (W := 0) (rm2 l Z _ hw [] b5 (p1 &&& (15 : Int32)) fm z1 c5 16 (own_g 8) h5 n0 Zs12 F6_COMPACT_STRINGS F7_SIOOBE_FORMATTER Es5 Fc5 Fv5 Vc5 hz1 rf1 (own_v p1).1 (own_clt (own_v p1).1 (own_v p1).2) (by decide)) hZ (hw _ (List.mem_of_getElem? (i := 18) rfl)) (hw _ (List.mem_of_getElem? (i := 1) rfl)) (by decide) (by decide)) q21a q21c (g := (mkF m 102 #[.val (.int p0), .val (.int p1), .val (.ref b1), .val (.ref b5), .val (.int ((p0 &&& (65535 : Int32)).toUInt32.toUInt16.toUInt32.toInt32)), .val (.int (f1 ((p0 &&& (65535 : Int32)).toUInt32.toUInt16.toUInt32.toInt32))), .val (.int (1 : Int32)), .val (.int (p1 &&& (15 : Int32))), .unset] [(.int (p1 &&& (15 : Int32))), (.ref b5)])) rfl (by rw [hml]; rfl) (Steps.refl _) (argsL := [(.int (p1 &&& (15 : Int32)))]) (rest := []) (lenOf pd_5 rfl) rfl (by show 2 * 0 + _ ≤ _; exact Nat.le_of_eq rfl) (hb hby at_102) (fun _ _ => ⟨rfl, e20, (by decide : 4 + 0 ≤ _), (by decide : 136 + 0 ≤ _)⟩)
      dsimp only [Pt.U, Pt.locs, Pt.cells, Pt.slots] at X21 l21 y21 z21 st21 hQ21
      subst l21 y21 z21
      obtain ⟨rfl, N21q, e21⟩ := hQ21
      have N21 := Fr.app N20 N21q
      refine own_st ?_ (fun t k => st21.trans k)
      show own_G p.tables e below _ _ (T21.setTop (mkF m 105 #[.val (.int p0), .val (.int p1), .val (.ref b1), .val (.ref b5), .val (.int ((p0 &&& (65535 : Int32)).toUInt32.toUInt16.toUInt32.toInt32)), .val (.int (f1 ((p0 &&& (65535 : Int32)).toUInt32.toUInt16.toUInt32.toInt32))), .val (.int (1 : Int32)), .val (.int (p1 &&& (15 : Int32))), .unset] [(.int (own_ch 8 (p1 &&& (15 : Int32))))]))
      obtain ⟨_, _, ⟨T22, L22, k22, n22⟩, -, X22, ⟨Lc22, hQ22, l22, y22, z22⟩, st22⟩ := Jvm.LawKit.callS X21 hx (y := (⟨"com/example/katalogd/katalogd/http/HttpSyntax", "hexDigit", "(C)I"⟩ : MethodName)) hown (mvT hZ (hw _ (List.mem_of_getElem? (i := 10) rfl))) (mvT hZ (hw _ (List.mem_of_getElem? (i := 11) rfl))) (mvT hZ (hw _ (List.mem_of_getElem? (i := 12) rfl))) (mvT hZ (hw _ (List.mem_of_getElem? (i := 13) rfl))) (by decide) (backOf (W := 0) (rm1 l Z _ hw [] (own_ch 8 (p1 &&& (15 : Int32)))  h5 n0 Zs12 ) hZ (hw _ (List.mem_of_getElem? (i := 13) rfl)) (hw _ (List.mem_of_getElem? (i := 12) rfl)) (by decide) (by decide)) (g := (mkF m 105 #[.val (.int p0), .val (.int p1), .val (.ref b1), .val (.ref b5), .val (.int ((p0 &&& (65535 : Int32)).toUInt32.toUInt16.toUInt32.toInt32)), .val (.int (f1 ((p0 &&& (65535 : Int32)).toUInt32.toUInt16.toUInt32.toInt32))), .val (.int (1 : Int32)), .val (.int (p1 &&& (15 : Int32))), .unset] [(.int (own_ch 8 (p1 &&& (15 : Int32))))])) rfl (by rw [hml]; rfl) (argsL := [(.int (own_ch 8 (p1 &&& (15 : Int32))))]) (rest := []) (lenOf pd_4 rfl) rfl (by show 2 * 0 + _ ≤ _; exact Nat.le_of_eq rfl) (hb hby at_105) (fun _ _ => ⟨rfl, e21, (by decide : 4 + 0 ≤ _), (by decide : 136 + 0 ≤ _)⟩)
      dsimp only [Pt.U, Pt.locs, Pt.cells, Pt.slots] at X22 l22 y22 z22 st22 hQ22
      subst l22 y22 z22
      obtain ⟨rfl, N22q, e22⟩ := hQ22
      have N22 := Fr.app N21 N22q
      refine own_st ?_ st22
      show own_G p.tables e below _ _ (T22.setTop (mkF m 108 #[.val (.int p0), .val (.int p1), .val (.ref b1), .val (.ref b5), .val (.int ((p0 &&& (65535 : Int32)).toUInt32.toUInt16.toUInt32.toInt32)), .val (.int (f1 ((p0 &&& (65535 : Int32)).toUInt32.toUInt16.toUInt32.toInt32))), .val (.int (1 : Int32)), .val (.int (p1 &&& (15 : Int32))), .unset] [(.int (f1 (own_ch 8 (p1 &&& (15 : Int32)))))]))
      refine own_st ?_ (fun t k => XS.iload X22.here hx rfl (hb hby at_108) rfl k)
      show own_G p.tables e below _ _ (T22.setTop (mkF m 110 #[.val (.int p0), .val (.int p1), .val (.ref b1), .val (.ref b5), .val (.int ((p0 &&& (65535 : Int32)).toUInt32.toUInt16.toUInt32.toInt32)), .val (.int (f1 ((p0 &&& (65535 : Int32)).toUInt32.toUInt16.toUInt32.toInt32))), .val (.int (1 : Int32)), .val (.int (p1 &&& (15 : Int32))), .unset] [(.int (p1 &&& (15 : Int32))), (.int (f1 (own_ch 8 (p1 &&& (15 : Int32)))))]))
      refine own_st ?_ (fun t k => XS.icmpNo X22.here hx rfl (hb hby at_110) rfl (teq (own_dig p1).2).2 k)
      show own_G p.tables e below _ _ (T22.setTop (mkF m 113 #[.val (.int p0), .val (.int p1), .val (.ref b1), .val (.ref b5), .val (.int ((p0 &&& (65535 : Int32)).toUInt32.toUInt16.toUInt32.toInt32)), .val (.int (f1 ((p0 &&& (65535 : Int32)).toUInt32.toUInt16.toUInt32.toInt32))), .val (.int (1 : Int32)), .val (.int (p1 &&& (15 : Int32))), .unset] []))
      refine own_st ?_ (fun t k => XS.iconst X22.here hx rfl (hb hby at_113) k)
      show own_G p.tables e below _ _ (T22.setTop (mkF m 114 #[.val (.int p0), .val (.int p1), .val (.ref b1), .val (.ref b5), .val (.int ((p0 &&& (65535 : Int32)).toUInt32.toUInt16.toUInt32.toInt32)), .val (.int (f1 ((p0 &&& (65535 : Int32)).toUInt32.toUInt16.toUInt32.toInt32))), .val (.int (1 : Int32)), .val (.int (p1 &&& (15 : Int32))), .unset] [(.int (1 : Int32))]))
      refine own_st ?_ (fun t k => XS.goto X22.here hx rfl (pc0 := 114) (pc' := 118) rfl (hb hby at_114) (by decide) (by decide) k)
      show own_G p.tables e below _ _ (T22.setTop (mkF m 118 #[.val (.int p0), .val (.int p1), .val (.ref b1), .val (.ref b5), .val (.int ((p0 &&& (65535 : Int32)).toUInt32.toUInt16.toUInt32.toInt32)), .val (.int (f1 ((p0 &&& (65535 : Int32)).toUInt32.toUInt16.toUInt32.toInt32))), .val (.int (1 : Int32)), .val (.int (p1 &&& (15 : Int32))), .unset] [(.int (1 : Int32))]))
      refine own_st ?_ (fun t k => XS.istore X22.here hx rfl (hb hby at_118) rfl (l' := #[.val (.int p0), .val (.int p1), .val (.ref b1), .val (.ref b5), .val (.int ((p0 &&& (65535 : Int32)).toUInt32.toUInt16.toUInt32.toInt32)), .val (.int (f1 ((p0 &&& (65535 : Int32)).toUInt32.toUInt16.toUInt32.toInt32))), .val (.int (1 : Int32)), .val (.int (p1 &&& (15 : Int32))), .val (.int (1 : Int32))]) rfl k)
      show own_G p.tables e below _ _ (T22.setTop (mkF m 120 #[.val (.int p0), .val (.int p1), .val (.ref b1), .val (.ref b5), .val (.int ((p0 &&& (65535 : Int32)).toUInt32.toUInt16.toUInt32.toInt32)), .val (.int (f1 ((p0 &&& (65535 : Int32)).toUInt32.toUInt16.toUInt32.toInt32))), .val (.int (1 : Int32)), .val (.int (p1 &&& (15 : Int32))), .val (.int (1 : Int32))] []))
      refine own_st ?_ (fun t k => XS.iload X22.here hx rfl (hb hby at_120) rfl k)
      show own_G p.tables e below _ _ (T22.setTop (mkF m 122 #[.val (.int p0), .val (.int p1), .val (.ref b1), .val (.ref b5), .val (.int ((p0 &&& (65535 : Int32)).toUInt32.toUInt16.toUInt32.toInt32)), .val (.int (f1 ((p0 &&& (65535 : Int32)).toUInt32.toUInt16.toUInt32.toInt32))), .val (.int (1 : Int32)), .val (.int (p1 &&& (15 : Int32))), .val (.int (1 : Int32))] [(.int (1 : Int32))]))
      refine own_st ?_ (fun t k => XS.ifNo X22.here hx rfl (hb hby at_122) rfl ((if0 _ _).trans (feq (by decide : ¬ ((1 : Int32) = (0 : Int32)))).1) k)
      show own_G p.tables e below _ _ (T22.setTop (mkF m 125 #[.val (.int p0), .val (.int p1), .val (.ref b1), .val (.ref b5), .val (.int ((p0 &&& (65535 : Int32)).toUInt32.toUInt16.toUInt32.toInt32)), .val (.int (f1 ((p0 &&& (65535 : Int32)).toUInt32.toUInt16.toUInt32.toInt32))), .val (.int (1 : Int32)), .val (.int (p1 &&& (15 : Int32))), .val (.int (1 : Int32))] []))
      refine own_st ?_ (fun t k => XS.iload X22.here hx rfl (hb hby at_125) rfl k)
      show own_G p.tables e below _ _ (T22.setTop (mkF m 127 #[.val (.int p0), .val (.int p1), .val (.ref b1), .val (.ref b5), .val (.int ((p0 &&& (65535 : Int32)).toUInt32.toUInt16.toUInt32.toInt32)), .val (.int (f1 ((p0 &&& (65535 : Int32)).toUInt32.toUInt16.toUInt32.toInt32))), .val (.int (1 : Int32)), .val (.int (p1 &&& (15 : Int32))), .val (.int (1 : Int32))] [(.int (1 : Int32))]))
      refine own_st ?_ (fun t k => XS.ifNo X22.here hx rfl (hb hby at_127) rfl ((if0 _ _).trans (feq (by decide : ¬ ((1 : Int32) = (0 : Int32)))).1) k)
      show own_G p.tables e below _ _ (T22.setTop (mkF m 130 #[.val (.int p0), .val (.int p1), .val (.ref b1), .val (.ref b5), .val (.int ((p0 &&& (65535 : Int32)).toUInt32.toUInt16.toUInt32.toInt32)), .val (.int (f1 ((p0 &&& (65535 : Int32)).toUInt32.toUInt16.toUInt32.toInt32))), .val (.int (1 : Int32)), .val (.int (p1 &&& (15 : Int32))), .val (.int (1 : Int32))] []))
      refine own_st ?_ (fun t k => XS.iconst X22.here hx rfl (hb hby at_130) k)
      show own_G p.tables e below _ _ (T22.setTop (mkF m 131 #[.val (.int p0), .val (.int p1), .val (.ref b1), .val (.ref b5), .val (.int ((p0 &&& (65535 : Int32)).toUInt32.toUInt16.toUInt32.toInt32)), .val (.int (f1 ((p0 &&& (65535 : Int32)).toUInt32.toUInt16.toUInt32.toInt32))), .val (.int (1 : Int32)), .val (.int (p1 &&& (15 : Int32))), .val (.int (1 : Int32))] [(.int (1 : Int32))]))
      refine own_st ?_ (fun t k => XS.goto X22.here hx rfl (pc0 := 131) (pc' := 135) rfl (hb hby at_131) (by decide) (by decide) k)
      show own_G p.tables e below _ _ (T22.setTop (mkF m 135 #[.val (.int p0), .val (.int p1), .val (.ref b1), .val (.ref b5), .val (.int ((p0 &&& (65535 : Int32)).toUInt32.toUInt16.toUInt32.toInt32)), .val (.int (f1 ((p0 &&& (65535 : Int32)).toUInt32.toUInt16.toUInt32.toInt32))), .val (.int (1 : Int32)), .val (.int (p1 &&& (15 : Int32))), .val (.int (1 : Int32))] [(.int (1 : Int32))]))
      exact own_retNW X22 hx hlk hS5 (by rw [e22]; exact hk5) (t := .boolean) hret (by simp) (hb hby at_135) (by decide) (by decide) (z' := (1 : Int32)) rfl ⟨rfl, N22⟩
    · refine own_st ?_ (fun t k => XS.icmpNo X18.here hx rfl (hb hby at_52) rfl (feq hc52).1 k)
      show own_G p.tables e below _ _ (T18.setTop (mkF m 55 #[.val (.int p0), .val (.int p1), .val (.ref b1), .val (.ref b5), .val (.int ((p0 &&& (65535 : Int32)).toUInt32.toUInt16.toUInt32.toInt32)), .val (.int (f1 ((p0 &&& (65535 : Int32)).toUInt32.toUInt16.toUInt32.toInt32))), .unset, .unset, .unset] []))
      refine own_st ?_ (fun t k => XS.aloadN X18.here hx rfl (hb hby at_55) rfl rfl k)
      show own_G p.tables e below _ _ (T18.setTop (mkF m 56 #[.val (.int p0), .val (.int p1), .val (.ref b1), .val (.ref b5), .val (.int ((p0 &&& (65535 : Int32)).toUInt32.toUInt16.toUInt32.toInt32)), .val (.int (f1 ((p0 &&& (65535 : Int32)).toUInt32.toUInt16.toUInt32.toInt32))), .unset, .unset, .unset] [(.ref b5)]))
      refine own_st ?_ (fun t k => XS.iload X18.here hx rfl (hb hby at_56) rfl k)
      show own_G p.tables e below _ _ (T18.setTop (mkF m 58 #[.val (.int p0), .val (.int p1), .val (.ref b1), .val (.ref b5), .val (.int ((p0 &&& (65535 : Int32)).toUInt32.toUInt16.toUInt32.toInt32)), .val (.int (f1 ((p0 &&& (65535 : Int32)).toUInt32.toUInt16.toUInt32.toInt32))), .unset, .unset, .unset] [(.int (f1 ((p0 &&& (65535 : Int32)).toUInt32.toUInt16.toUInt32.toInt32))), (.ref b5)]))
      obtain ⟨cq23, kq23, q23a, q23b, q23c⟩ := isOf hZ e18 Es5
      obtain ⟨_, _, ⟨T23, L23, k23, n23⟩, -, X23, ⟨Lc23, hQ23, l23, y23, z23⟩, st23⟩ := X18.virtualBack hx (y := (⟨"java/lang/String", "charAt", "(I)C"⟩ : MethodName)) (z := (⟨"java/lang/String", "charAt", "(I)C"⟩ : MethodName)) hown (mvT hZ (hw _ (List.mem_of_getElem? (i := 14) rfl))) (mvT hZ (hw _ (List.mem_of_getElem? (i := 15) rfl))) (notFace_of_selects (args := #[]) (mvT hZ (hw _ (List.mem_of_getElem? (i := 17) rfl)))) (mvT hZ (hw _ (List.mem_of_getElem? (i := 17) rfl))) (mvT hZ (hw _ (List.mem_of_getElem? (i := 16) rfl))) (by decide) (backOf (W := 0) (rm2 l Z _ hw [] b5 (f1 ((p0 &&& (65535 : Int32)).toUInt32.toUInt16.toUInt32.toInt32)) fm z1 c5 16 (own_g 8) h5 n0 Zs12 F6_COMPACT_STRINGS F7_SIOOBE_FORMATTER Es5 Fc5 Fv5 Vc5 hz1 rf1 (own_rn hc23) (own_clt (own_rn hc23) (own_15 _ (own_char _).1)) (by decide)) hZ (hw _ (List.mem_of_getElem? (i := 18) rfl)) (hw _ (List.mem_of_getElem? (i := 1) rfl)) (by decide) (by decide)) q23a q23c (g := (mkF m 58 #[.val (.int p0), .val (.int p1), .val (.ref b1), .val (.ref b5), .val (.int ((p0 &&& (65535 : Int32)).toUInt32.toUInt16.toUInt32.toInt32)), .val (.int (f1 ((p0 &&& (65535 : Int32)).toUInt32.toUInt16.toUInt32.toInt32))), .unset, .unset, .unset] [(.int (f1 ((p0 &&& (65535 : Int32)).toUInt32.toUInt16.toUInt32.toInt32))), (.ref b5)])) rfl (by rw [hml]; rfl) (Steps.refl _) (argsL := [(.int (f1 ((p0 &&& (65535 : Int32)).toUInt32.toUInt16.toUInt32.toInt32)))]) (rest := []) (lenOf pd_5 rfl) rfl (by show 2 * 0 + _ ≤ _; exact Nat.le_of_eq rfl) (hb hby at_58) (fun _ _ => ⟨rfl, e18, (by decide : 4 + 0 ≤ _), (by decide : 136 + 0 ≤ _)⟩)
      dsimp only [Pt.U, Pt.locs, Pt.cells, Pt.slots] at X23 l23 y23 z23 st23 hQ23
      subst l23 y23 z23
      obtain ⟨rfl, N23q, e23⟩ := hQ23
      have N23 := Fr.app N18 N23q
      refine own_st ?_ (fun t k => st23.trans k)
      show own_G p.tables e below _ _ (T23.setTop (mkF m 61 #[.val (.int p0), .val (.int p1), .val (.ref b1), .val (.ref b5), .val (.int ((p0 &&& (65535 : Int32)).toUInt32.toUInt16.toUInt32.toInt32)), .val (.int (f1 ((p0 &&& (65535 : Int32)).toUInt32.toUInt16.toUInt32.toInt32))), .unset, .unset, .unset] [(.int (own_ch 8 (f1 ((p0 &&& (65535 : Int32)).toUInt32.toUInt16.toUInt32.toInt32))))]))
      refine own_st ?_ (fun t k => XS.iload X23.here hx rfl (hb hby at_61) rfl k)
      show own_G p.tables e below _ _ (T23.setTop (mkF m 63 #[.val (.int p0), .val (.int p1), .val (.ref b1), .val (.ref b5), .val (.int ((p0 &&& (65535 : Int32)).toUInt32.toUInt16.toUInt32.toInt32)), .val (.int (f1 ((p0 &&& (65535 : Int32)).toUInt32.toUInt16.toUInt32.toInt32))), .unset, .unset, .unset] [(.int ((p0 &&& (65535 : Int32)).toUInt32.toUInt16.toUInt32.toInt32)), (.int (own_ch 8 (f1 ((p0 &&& (65535 : Int32)).toUInt32.toUInt16.toUInt32.toInt32))))]))
      refine own_st ?_ (fun t k => XS.icmpNo X23.here hx rfl (hb hby at_63) rfl (teq (own_or2 hc23 hc52)).2 k)
      show own_G p.tables e below _ _ (T23.setTop (mkF m 66 #[.val (.int p0), .val (.int p1), .val (.ref b1), .val (.ref b5), .val (.int ((p0 &&& (65535 : Int32)).toUInt32.toUInt16.toUInt32.toInt32)), .val (.int (f1 ((p0 &&& (65535 : Int32)).toUInt32.toUInt16.toUInt32.toInt32))), .unset, .unset, .unset] []))
      refine own_st ?_ (fun t k => XS.iconst X23.here hx rfl (hb hby at_66) k)
      show own_G p.tables e below _ _ (T23.setTop (mkF m 67 #[.val (.int p0), .val (.int p1), .val (.ref b1), .val (.ref b5), .val (.int ((p0 &&& (65535 : Int32)).toUInt32.toUInt16.toUInt32.toInt32)), .val (.int (f1 ((p0 &&& (65535 : Int32)).toUInt32.toUInt16.toUInt32.toInt32))), .unset, .unset, .unset] [(.int (1 : Int32))]))
      refine own_st ?_ (fun t k => XS.goto X23.here hx rfl (pc0 := 67) (pc' := 71) rfl (hb hby at_67) (by decide) (by decide) k)
      show own_G p.tables e below _ _ (T23.setTop (mkF m 71 #[.val (.int p0), .val (.int p1), .val (.ref b1), .val (.ref b5), .val (.int ((p0 &&& (65535 : Int32)).toUInt32.toUInt16.toUInt32.toInt32)), .val (.int (f1 ((p0 &&& (65535 : Int32)).toUInt32.toUInt16.toUInt32.toInt32))), .unset, .unset, .unset] [(.int (1 : Int32))]))
      refine own_st ?_ (fun t k => XS.istore X23.here hx rfl (hb hby at_71) rfl (l' := #[.val (.int p0), .val (.int p1), .val (.ref b1), .val (.ref b5), .val (.int ((p0 &&& (65535 : Int32)).toUInt32.toUInt16.toUInt32.toInt32)), .val (.int (f1 ((p0 &&& (65535 : Int32)).toUInt32.toUInt16.toUInt32.toInt32))), .val (.int (1 : Int32)), .unset, .unset]) rfl k)
      show own_G p.tables e below _ _ (T23.setTop (mkF m 73 #[.val (.int p0), .val (.int p1), .val (.ref b1), .val (.ref b5), .val (.int ((p0 &&& (65535 : Int32)).toUInt32.toUInt16.toUInt32.toInt32)), .val (.int (f1 ((p0 &&& (65535 : Int32)).toUInt32.toUInt16.toUInt32.toInt32))), .val (.int (1 : Int32)), .unset, .unset] []))
      refine own_st ?_ (fun t k => XS.goto X23.here hx rfl (pc0 := 73) (pc' := 79) rfl (hb hby at_73) (by decide) (by decide) k)
      show own_G p.tables e below _ _ (T23.setTop (mkF m 79 #[.val (.int p0), .val (.int p1), .val (.ref b1), .val (.ref b5), .val (.int ((p0 &&& (65535 : Int32)).toUInt32.toUInt16.toUInt32.toInt32)), .val (.int (f1 ((p0 &&& (65535 : Int32)).toUInt32.toUInt16.toUInt32.toInt32))), .val (.int (1 : Int32)), .unset, .unset] []))
      refine own_st ?_ (fun t k => XS.iloadN X23.here hx rfl (hb hby at_79) rfl k)
      show own_G p.tables e below _ _ (T23.setTop (mkF m 80 #[.val (.int p0), .val (.int p1), .val (.ref b1), .val (.ref b5), .val (.int ((p0 &&& (65535 : Int32)).toUInt32.toUInt16.toUInt32.toInt32)), .val (.int (f1 ((p0 &&& (65535 : Int32)).toUInt32.toUInt16.toUInt32.toInt32))), .val (.int (1 : Int32)), .unset, .unset] [(.int p1)]))
      refine own_st ?_ (fun t k => XS.bipush X23.here hx rfl (hb hby at_80) k)
      show own_G p.tables e below _ _ (T23.setTop (mkF m 82 #[.val (.int p0), .val (.int p1), .val (.ref b1), .val (.ref b5), .val (.int ((p0 &&& (65535 : Int32)).toUInt32.toUInt16.toUInt32.toInt32)), .val (.int (f1 ((p0 &&& (65535 : Int32)).toUInt32.toUInt16.toUInt32.toInt32))), .val (.int (1 : Int32)), .unset, .unset] [(.int (15 : Int32)), (.int p1)]))
      refine own_st ?_ (fun t k => XS.iand X23.here hx rfl (hb hby at_82) rfl k)
      show own_G p.tables e below _ _ (T23.setTop (mkF m 83 #[.val (.int p0), .val (.int p1), .val (.ref b1), .val (.ref b5), .val (.int ((p0 &&& (65535 : Int32)).toUInt32.toUInt16.toUInt32.toInt32)), .val (.int (f1 ((p0 &&& (65535 : Int32)).toUInt32.toUInt16.toUInt32.toInt32))), .val (.int (1 : Int32)), .unset, .unset] [(.int (p1 &&& (15 : Int32)))]))
      refine own_st ?_ (fun t k => XS.istore X23.here hx rfl (hb hby at_83) rfl (l' := #[.val (.int p0), .val (.int p1), .val (.ref b1), .val (.ref b5), .val (.int ((p0 &&& (65535 : Int32)).toUInt32.toUInt16.toUInt32.toInt32)), .val (.int (f1 ((p0 &&& (65535 : Int32)).toUInt32.toUInt16.toUInt32.toInt32))), .val (.int (1 : Int32)), .val (.int (p1 &&& (15 : Int32))), .unset]) rfl k)
      show own_G p.tables e below _ _ (T23.setTop (mkF m 85 #[.val (.int p0), .val (.int p1), .val (.ref b1), .val (.ref b5), .val (.int ((p0 &&& (65535 : Int32)).toUInt32.toUInt16.toUInt32.toInt32)), .val (.int (f1 ((p0 &&& (65535 : Int32)).toUInt32.toUInt16.toUInt32.toInt32))), .val (.int (1 : Int32)), .val (.int (p1 &&& (15 : Int32))), .unset] []))
      refine own_st ?_ (fun t k => XS.aloadN X23.here hx rfl (hb hby at_85) rfl rfl k)
      show own_G p.tables e below _ _ (T23.setTop (mkF m 86 #[.val (.int p0), .val (.int p1), .val (.ref b1), .val (.ref b5), .val (.int ((p0 &&& (65535 : Int32)).toUInt32.toUInt16.toUInt32.toInt32)), .val (.int (f1 ((p0 &&& (65535 : Int32)).toUInt32.toUInt16.toUInt32.toInt32))), .val (.int (1 : Int32)), .val (.int (p1 &&& (15 : Int32))), .unset] [(.ref b1)]))
      refine own_st ?_ (fun t k => XS.iload X23.here hx rfl (hb hby at_86) rfl k)
      show own_G p.tables e below _ _ (T23.setTop (mkF m 88 #[.val (.int p0), .val (.int p1), .val (.ref b1), .val (.ref b5), .val (.int ((p0 &&& (65535 : Int32)).toUInt32.toUInt16.toUInt32.toInt32)), .val (.int (f1 ((p0 &&& (65535 : Int32)).toUInt32.toUInt16.toUInt32.toInt32))), .val (.int (1 : Int32)), .val (.int (p1 &&& (15 : Int32))), .unset] [(.int (p1 &&& (15 : Int32))), (.ref b1)]))
      obtain ⟨cq24, kq24, q24a, q24b, q24c⟩ := isOf hZ e23 F8_E
      obtain ⟨_, _, ⟨T24, L24, k24, n24⟩, -, X24, ⟨Lc24, hQ24, l24, y24, z24⟩, st24⟩ := X23.virtualBack hx (y := (⟨"java/lang/String", "charAt", "(I)C"⟩ : MethodName)) (z := (⟨"java/lang/String", "charAt", "(I)C"⟩ : MethodName)) hown (mvT hZ (hw _ (List.mem_of_getElem? (i := 14) rfl))) (mvT hZ (hw _ (List.mem_of_getElem? (i := 15) rfl))) (notFace_of_selects (args := #[]) (mvT hZ (hw _ (List.mem_of_getElem? (i := 17) rfl)))) (mvT hZ (hw _ (List.mem_of_getElem? (i := 17) rfl))) (mvT hZ (hw _ (List.mem_of_getElem? (i := 16) rfl))) (by decide) (backOf (W := 0) (rm2 l Z _ hw [] b1 (p1 &&& (15 : Int32)) fm z1 c1 16 (own_g 0) h5 n0 Zs12 F6_COMPACT_STRINGS F7_SIOOBE_FORMATTER F8_E F9_coder F10_value F11_P hz1 rf1 (own_v p1).1 (own_clt (own_v p1).1 (own_v p1).2) (by decide)) hZ (hw _ (List.mem_of_getElem? (i := 18) rfl)) (hw _ (List.mem_of_getElem? (i := 1) rfl)) (by decide) (by decide)) q24a q24c (g := (mkF m 88 #[.val (.int p0), .val (.int p1), .val (.ref b1), .val (.ref b5), .val (.int ((p0 &&& (65535 : Int32)).toUInt32.toUInt16.toUInt32.toInt32)), .val (.int (f1 ((p0 &&& (65535 : Int32)).toUInt32.toUInt16.toUInt32.toInt32))), .val (.int (1 : Int32)), .val (.int (p1 &&& (15 : Int32))), .unset] [(.int (p1 &&& (15 : Int32))), (.ref b1)])) rfl (by rw [hml]; rfl) (Steps.refl _) (argsL := [(.int (p1 &&& (15 : Int32)))]) (rest := []) (lenOf pd_5 rfl) rfl (by show 2 * 0 + _ ≤ _; exact Nat.le_of_eq rfl) (hb hby at_88) (fun _ _ => ⟨rfl, e23, (by decide : 4 + 0 ≤ _), (by decide : 136 + 0 ≤ _)⟩)
      dsimp only [Pt.U, Pt.locs, Pt.cells, Pt.slots] at X24 l24 y24 z24 st24 hQ24
      subst l24 y24 z24
      obtain ⟨rfl, N24q, e24⟩ := hQ24
      have N24 := Fr.app N23 N24q
      refine own_st ?_ (fun t k => st24.trans k)
      show own_G p.tables e below _ _ (T24.setTop (mkF m 91 #[.val (.int p0), .val (.int p1), .val (.ref b1), .val (.ref b5), .val (.int ((p0 &&& (65535 : Int32)).toUInt32.toUInt16.toUInt32.toInt32)), .val (.int (f1 ((p0 &&& (65535 : Int32)).toUInt32.toUInt16.toUInt32.toInt32))), .val (.int (1 : Int32)), .val (.int (p1 &&& (15 : Int32))), .unset] [(.int (own_ch 0 (p1 &&& (15 : Int32))))]))
      obtain ⟨_, _, ⟨T25, L25, k25, n25⟩, -, X25, ⟨Lc25, hQ25, l25, y25, z25⟩, st25⟩ := Jvm.LawKit.callS X24 hx (y := (⟨"com/example/katalogd/katalogd/http/HttpSyntax", "hexDigit", "(C)I"⟩ : MethodName)) hown (mvT hZ (hw _ (List.mem_of_getElem? (i := 10) rfl))) (mvT hZ (hw _ (List.mem_of_getElem? (i := 11) rfl))) (mvT hZ (hw _ (List.mem_of_getElem? (i := 12) rfl))) (mvT hZ (hw _ (List.mem_of_getElem? (i := 13) rfl))) (by decide) (backOf (W := 0) (rm1 l Z _ hw [] (own_ch 0 (p1 &&& (15 : Int32)))  h5 n0 Zs12 ) hZ (hw _ (List.mem_of_getElem? (i := 13) rfl)) (hw _ (List.mem_of_getElem? (i := 12) rfl)) (by decide) (by decide)) (g := (mkF m 91 #[.val (.int p0), .val (.int p1), .val (.ref b1), .val (.ref b5), .val (.int ((p0 &&& (65535 : Int32)).toUInt32.toUInt16.toUInt32.toInt32)), .val (.int (f1 ((p0 &&& (65535 : Int32)).toUInt32.toUInt16.toUInt32.toInt32))), .val (.int (1 : Int32)), .val (.int (p1 &&& (15 : Int32))), .unset] [(.int (own_ch 0 (p1 &&& (15 : Int32))))])) rfl (by rw [hml]; rfl) (argsL := [(.int (own_ch 0 (p1 &&& (15 : Int32))))]) (rest := []) (lenOf pd_4 rfl) rfl (by show 2 * 0 + _ ≤ _; exact Nat.le_of_eq rfl) (hb hby at_91) (fun _ _ => ⟨rfl, e24, (by decide : 4 + 0 ≤ _), (by decide : 136 + 0 ≤ _)⟩)
      dsimp only [Pt.U, Pt.locs, Pt.cells, Pt.slots] at X25 l25 y25 z25 st25 hQ25
      subst l25 y25 z25
      obtain ⟨rfl, N25q, e25⟩ := hQ25
      have N25 := Fr.app N24 N25q
      refine own_st ?_ st25
      show own_G p.tables e below _ _ (T25.setTop (mkF m 94 #[.val (.int p0), .val (.int p1), .val (.ref b1), .val (.ref b5), .val (.int ((p0 &&& (65535 : Int32)).toUInt32.toUInt16.toUInt32.toInt32)), .val (.int (f1 ((p0 &&& (65535 : Int32)).toUInt32.toUInt16.toUInt32.toInt32))), .val (.int (1 : Int32)), .val (.int (p1 &&& (15 : Int32))), .unset] [(.int (f1 (own_ch 0 (p1 &&& (15 : Int32)))))]))
      refine own_st ?_ (fun t k => XS.iload X25.here hx rfl (hb hby at_94) rfl k)
      show own_G p.tables e below _ _ (T25.setTop (mkF m 96 #[.val (.int p0), .val (.int p1), .val (.ref b1), .val (.ref b5), .val (.int ((p0 &&& (65535 : Int32)).toUInt32.toUInt16.toUInt32.toInt32)), .val (.int (f1 ((p0 &&& (65535 : Int32)).toUInt32.toUInt16.toUInt32.toInt32))), .val (.int (1 : Int32)), .val (.int (p1 &&& (15 : Int32))), .unset] [(.int (p1 &&& (15 : Int32))), (.int (f1 (own_ch 0 (p1 &&& (15 : Int32)))))]))
      refine own_st ?_ (fun t k => XS.icmpNo X25.here hx rfl (hb hby at_96) rfl (teq (own_dig p1).1).2 k)
      show own_G p.tables e below _ _ (T25.setTop (mkF m 99 #[.val (.int p0), .val (.int p1), .val (.ref b1), .val (.ref b5), .val (.int ((p0 &&& (65535 : Int32)).toUInt32.toUInt16.toUInt32.toInt32)), .val (.int (f1 ((p0 &&& (65535 : Int32)).toUInt32.toUInt16.toUInt32.toInt32))), .val (.int (1 : Int32)), .val (.int (p1 &&& (15 : Int32))), .unset] []))
      refine own_st ?_ (fun t k => XS.aloadN X25.here hx rfl (hb hby at_99) rfl rfl k)
      show own_G p.tables e below _ _ (T25.setTop (mkF m 100 #[.val (.int p0), .val (.int p1), .val (.ref b1), .val (.ref b5), .val (.int ((p0 &&& (65535 : Int32)).toUInt32.toUInt16.toUInt32.toInt32)), .val (.int (f1 ((p0 &&& (65535 : Int32)).toUInt32.toUInt16.toUInt32.toInt32))), .val (.int (1 : Int32)), .val (.int (p1 &&& (15 : Int32))), .unset] [(.ref b5)]))
      refine own_st ?_ (fun t k => XS.iload X25.here hx rfl (hb hby at_100) rfl k)
      show own_G p.tables e below _ _ (T25.setTop (mkF m 102 #[.val (.int p0), .val (.int p1), .val (.ref b1), .val (.ref b5), .val (.int ((p0 &&& (65535 : Int32)).toUInt32.toUInt16.toUInt32.toInt32)), .val (.int (f1 ((p0 &&& (65535 : Int32)).toUInt32.toUInt16.toUInt32.toInt32))), .val (.int (1 : Int32)), .val (.int (p1 &&& (15 : Int32))), .unset] [(.int (p1 &&& (15 : Int32))), (.ref b5)]))
      obtain ⟨cq26, kq26, q26a, q26b, q26c⟩ := isOf hZ e25 Es5
      obtain ⟨_, _, ⟨T26, L26, k26, n26⟩, -, X26, ⟨Lc26, hQ26, l26, y26, z26⟩, st26⟩ := X25.virtualBack hx (y := (⟨"java/lang/String", "charAt", "(I)C"⟩ : MethodName)) (z := (⟨"java/lang/String", "charAt", "(I)C"⟩ : MethodName)) hown (mvT hZ (hw _ (List.mem_of_getElem? (i := 14) rfl))) (mvT hZ (hw _ (List.mem_of_getElem? (i := 15) rfl))) (notFace_of_selects (args := #[]) (mvT hZ (hw _ (List.mem_of_getElem? (i := 17) rfl)))) (mvT hZ (hw _ (List.mem_of_getElem? (i := 17) rfl))) (mvT hZ (hw _ (List.mem_of_getElem? (i := 16) rfl))) (by decide) (backOf (W := 0) (rm2 l Z _ hw [] b5 (p1 &&& (15 : Int32)) fm z1 c5 16 (own_g 8) h5 n0 Zs12 F6_COMPACT_STRINGS F7_SIOOBE_FORMATTER Es5 Fc5 Fv5 Vc5 hz1 rf1 (own_v p1).1 (own_clt (own_v p1).1 (own_v p1).2) (by decide)) hZ (hw _ (List.mem_of_getElem? (i := 18) rfl)) (hw _ (List.mem_of_getElem? (i := 1) rfl)) (by decide) (by decide)) q26a q26c (g := (mkF m 102 #[.val (.int p0), .val (.int p1), .val (.ref b1), .val (.ref b5), .val (.int ((p0 &&& (65535 : Int32)).toUInt32.toUInt16.toUInt32.toInt32)), .val (.int (f1 ((p0 &&& (65535 : Int32)).toUInt32.toUInt16.toUInt32.toInt32))), .val (.int (1 : Int32)), .val (.int (p1 &&& (15 : Int32))), .unset] [(.int (p1 &&& (15 : Int32))), (.ref b5)])) rfl (by rw [hml]; rfl) (Steps.refl _) (argsL := [(.int (p1 &&& (15 : Int32)))]) (rest := []) (lenOf pd_5 rfl) rfl (by show 2 * 0 + _ ≤ _; exact Nat.le_of_eq rfl) (hb hby at_102) (fun _ _ => ⟨rfl, e25, (by decide : 4 + 0 ≤ _), (by decide : 136 + 0 ≤ _)⟩)
      dsimp only [Pt.U, Pt.locs, Pt.cells, Pt.slots] at X26 l26 y26 z26 st26 hQ26
      subst l26 y26 z26
      obtain ⟨rfl, N26q, e26⟩ := hQ26
      have N26 := Fr.app N25 N26q
      refine own_st ?_ (fun t k => st26.trans k)
      show own_G p.tables e below _ _ (T26.setTop (mkF m 105 #[.val (.int p0), .val (.int p1), .val (.ref b1), .val (.ref b5), .val (.int ((p0 &&& (65535 : Int32)).toUInt32.toUInt16.toUInt32.toInt32)), .val (.int (f1 ((p0 &&& (65535 : Int32)).toUInt32.toUInt16.toUInt32.toInt32))), .val (.int (1 : Int32)), .val (.int (p1 &&& (15 : Int32))), .unset] [(.int (own_ch 8 (p1 &&& (15 : Int32))))]))
      obtain ⟨_, _, ⟨T27, L27, k27, n27⟩, -, X27, ⟨Lc27, hQ27, l27, y27, z27⟩, st27⟩ := Jvm.LawKit.callS X26 hx (y := (⟨"com/example/katalogd/katalogd/http/HttpSyntax", "hexDigit", "(C)I"⟩ : MethodName)) hown (mvT hZ (hw _ (List.mem_of_getElem? (i := 10) rfl))) (mvT hZ (hw _ (List.mem_of_getElem? (i := 11) rfl))) (mvT hZ (hw _ (List.mem_of_getElem? (i := 12) rfl))) (mvT hZ (hw _ (List.mem_of_getElem? (i := 13) rfl))) (by decide) (backOf (W := 0) (rm1 l Z _ hw [] (own_ch 8 (p1 &&& (15 : Int32)))  h5 n0 Zs12 ) hZ (hw _ (List.mem_of_getElem? (i := 13) rfl)) (hw _ (List.mem_of_getElem? (i := 12) rfl)) (by decide) (by decide)) (g := (mkF m 105 #[.val (.int p0), .val (.int p1), .val (.ref b1), .val (.ref b5), .val (.int ((p0 &&& (65535 : Int32)).toUInt32.toUInt16.toUInt32.toInt32)), .val (.int (f1 ((p0 &&& (65535 : Int32)).toUInt32.toUInt16.toUInt32.toInt32))), .val (.int (1 : Int32)), .val (.int (p1 &&& (15 : Int32))), .unset] [(.int (own_ch 8 (p1 &&& (15 : Int32))))])) rfl (by rw [hml]; rfl) (argsL := [(.int (own_ch 8 (p1 &&& (15 : Int32))))]) (rest := []) (lenOf pd_4 rfl) rfl (by show 2 * 0 + _ ≤ _; exact Nat.le_of_eq rfl) (hb hby at_105) (fun _ _ => ⟨rfl, e26, (by decide : 4 + 0 ≤ _), (by decide : 136 + 0 ≤ _)⟩)
      dsimp only [Pt.U, Pt.locs, Pt.cells, Pt.slots] at X27 l27 y27 z27 st27 hQ27
      subst l27 y27 z27
      obtain ⟨rfl, N27q, e27⟩ := hQ27
      have N27 := Fr.app N26 N27q
      refine own_st ?_ st27
      show own_G p.tables e below _ _ (T27.setTop (mkF m 108 #[.val (.int p0), .val (.int p1), .val (.ref b1), .val (.ref b5), .val (.int ((p0 &&& (65535 : Int32)).toUInt32.toUInt16.toUInt32.toInt32)), .val (.int (f1 ((p0 &&& (65535 : Int32)).toUInt32.toUInt16.toUInt32.toInt32))), .val (.int (1 : Int32)), .val (.int (p1 &&& (15 : Int32))), .unset] [(.int (f1 (own_ch 8 (p1 &&& (15 : Int32)))))]))
      refine own_st ?_ (fun t k => XS.iload X27.here hx rfl (hb hby at_108) rfl k)
      show own_G p.tables e below _ _ (T27.setTop (mkF m 110 #[.val (.int p0), .val (.int p1), .val (.ref b1), .val (.ref b5), .val (.int ((p0 &&& (65535 : Int32)).toUInt32.toUInt16.toUInt32.toInt32)), .val (.int (f1 ((p0 &&& (65535 : Int32)).toUInt32.toUInt16.toUInt32.toInt32))), .val (.int (1 : Int32)), .val (.int (p1 &&& (15 : Int32))), .unset] [(.int (p1 &&& (15 : Int32))), (.int (f1 (own_ch 8 (p1 &&& (15 : Int32)))))]))
      refine own_st ?_ (fun t k => XS.icmpNo X27.here hx rfl (hb hby at_110) rfl (teq (own_dig p1).2).2 k)
      show own_G p.tables e below _ _ (T27.setTop (mkF m 113 #[.val (.int p0), .val (.int p1), .val (.ref b1), .val (.ref b5), .val (.int ((p0 &&& (65535 : Int32)).toUInt32.toUInt16.toUInt32.toInt32)), .val (.int (f1 ((p0 &&& (65535 : Int32)).toUInt32.toUInt16.toUInt32.toInt32))), .val (.int (1 : Int32)), .val (.int (p1 &&& (15 : Int32))), .unset] []))
      refine own_st ?_ (fun t k => XS.iconst X27.here hx rfl (hb hby at_113) k)
      show own_G p.tables e below _ _ (T27.setTop (mkF m 114 #[.val (.int p0), .val (.int p1), .val (.ref b1), .val (.ref b5), .val (.int ((p0 &&& (65535 : Int32)).toUInt32.toUInt16.toUInt32.toInt32)), .val (.int (f1 ((p0 &&& (65535 : Int32)).toUInt32.toUInt16.toUInt32.toInt32))), .val (.int (1 : Int32)), .val (.int (p1 &&& (15 : Int32))), .unset] [(.int (1 : Int32))]))
      refine own_st ?_ (fun t k => XS.goto X27.here hx rfl (pc0 := 114) (pc' := 118) rfl (hb hby at_114) (by decide) (by decide) k)
      show own_G p.tables e below _ _ (T27.setTop (mkF m 118 #[.val (.int p0), .val (.int p1), .val (.ref b1), .val (.ref b5), .val (.int ((p0 &&& (65535 : Int32)).toUInt32.toUInt16.toUInt32.toInt32)), .val (.int (f1 ((p0 &&& (65535 : Int32)).toUInt32.toUInt16.toUInt32.toInt32))), .val (.int (1 : Int32)), .val (.int (p1 &&& (15 : Int32))), .unset] [(.int (1 : Int32))]))
      refine own_st ?_ (fun t k => XS.istore X27.here hx rfl (hb hby at_118) rfl (l' := #[.val (.int p0), .val (.int p1), .val (.ref b1), .val (.ref b5), .val (.int ((p0 &&& (65535 : Int32)).toUInt32.toUInt16.toUInt32.toInt32)), .val (.int (f1 ((p0 &&& (65535 : Int32)).toUInt32.toUInt16.toUInt32.toInt32))), .val (.int (1 : Int32)), .val (.int (p1 &&& (15 : Int32))), .val (.int (1 : Int32))]) rfl k)
      show own_G p.tables e below _ _ (T27.setTop (mkF m 120 #[.val (.int p0), .val (.int p1), .val (.ref b1), .val (.ref b5), .val (.int ((p0 &&& (65535 : Int32)).toUInt32.toUInt16.toUInt32.toInt32)), .val (.int (f1 ((p0 &&& (65535 : Int32)).toUInt32.toUInt16.toUInt32.toInt32))), .val (.int (1 : Int32)), .val (.int (p1 &&& (15 : Int32))), .val (.int (1 : Int32))] []))
      refine own_st ?_ (fun t k => XS.iload X27.here hx rfl (hb hby at_120) rfl k)
      show own_G p.tables e below _ _ (T27.setTop (mkF m 122 #[.val (.int p0), .val (.int p1), .val (.ref b1), .val (.ref b5), .val (.int ((p0 &&& (65535 : Int32)).toUInt32.toUInt16.toUInt32.toInt32)), .val (.int (f1 ((p0 &&& (65535 : Int32)).toUInt32.toUInt16.toUInt32.toInt32))), .val (.int (1 : Int32)), .val (.int (p1 &&& (15 : Int32))), .val (.int (1 : Int32))] [(.int (1 : Int32))]))
      refine own_st ?_ (fun t k => XS.ifNo X27.here hx rfl (hb hby at_122) rfl ((if0 _ _).trans (feq (by decide : ¬ ((1 : Int32) = (0 : Int32)))).1) k)
      show own_G p.tables e below _ _ (T27.setTop (mkF m 125 #[.val (.int p0), .val (.int p1), .val (.ref b1), .val (.ref b5), .val (.int ((p0 &&& (65535 : Int32)).toUInt32.toUInt16.toUInt32.toInt32)), .val (.int (f1 ((p0 &&& (65535 : Int32)).toUInt32.toUInt16.toUInt32.toInt32))), .val (.int (1 : Int32)), .val (.int (p1 &&& (15 : Int32))), .val (.int (1 : Int32))] []))
      refine own_st ?_ (fun t k => XS.iload X27.here hx rfl (hb hby at_125) rfl k)
      show own_G p.tables e below _ _ (T27.setTop (mkF m 127 #[.val (.int p0), .val (.int p1), .val (.ref b1), .val (.ref b5), .val (.int ((p0 &&& (65535 : Int32)).toUInt32.toUInt16.toUInt32.toInt32)), .val (.int (f1 ((p0 &&& (65535 : Int32)).toUInt32.toUInt16.toUInt32.toInt32))), .val (.int (1 : Int32)), .val (.int (p1 &&& (15 : Int32))), .val (.int (1 : Int32))] [(.int (1 : Int32))]))
      refine own_st ?_ (fun t k => XS.ifNo X27.here hx rfl (hb hby at_127) rfl ((if0 _ _).trans (feq (by decide : ¬ ((1 : Int32) = (0 : Int32)))).1) k)
      show own_G p.tables e below _ _ (T27.setTop (mkF m 130 #[.val (.int p0), .val (.int p1), .val (.ref b1), .val (.ref b5), .val (.int ((p0 &&& (65535 : Int32)).toUInt32.toUInt16.toUInt32.toInt32)), .val (.int (f1 ((p0 &&& (65535 : Int32)).toUInt32.toUInt16.toUInt32.toInt32))), .val (.int (1 : Int32)), .val (.int (p1 &&& (15 : Int32))), .val (.int (1 : Int32))] []))
      refine own_st ?_ (fun t k => XS.iconst X27.here hx rfl (hb hby at_130) k)
      show own_G p.tables e below _ _ (T27.setTop (mkF m 131 #[.val (.int p0), .val (.int p1), .val (.ref b1), .val (.ref b5), .val (.int ((p0 &&& (65535 : Int32)).toUInt32.toUInt16.toUInt32.toInt32)), .val (.int (f1 ((p0 &&& (65535 : Int32)).toUInt32.toUInt16.toUInt32.toInt32))), .val (.int (1 : Int32)), .val (.int (p1 &&& (15 : Int32))), .val (.int (1 : Int32))] [(.int (1 : Int32))]))
      refine own_st ?_ (fun t k => XS.goto X27.here hx rfl (pc0 := 131) (pc' := 135) rfl (hb hby at_131) (by decide) (by decide) k)
      show own_G p.tables e below _ _ (T27.setTop (mkF m 135 #[.val (.int p0), .val (.int p1), .val (.ref b1), .val (.ref b5), .val (.int ((p0 &&& (65535 : Int32)).toUInt32.toUInt16.toUInt32.toInt32)), .val (.int (f1 ((p0 &&& (65535 : Int32)).toUInt32.toUInt16.toUInt32.toInt32))), .val (.int (1 : Int32)), .val (.int (p1 &&& (15 : Int32))), .val (.int (1 : Int32))] [(.int (1 : Int32))]))
      exact own_retNW X27 hx hlk hS5 (by rw [e27]; exact hk5) (t := .boolean) hret (by simp) (hb hby at_135) (by decide) (by decide) (z' := (1 : Int32)) rfl ⟨rfl, N27⟩
set_option maxRecDepth 65536 in
set_option maxHeartbeats 40000000 in
theorem comes_1 {Post : Tables → Env → Array Value → State → Outcome → State → Prop} (hpost : ∀ tb e args s v u, (limb_1_1.after args s (.returned v) u = true ∧ limb_1_2.after args s (.returned v) u = true ∧ True) → ReturnedEndW s (.returned v) u (Jvm.fieldLocs frame_1_writes args s ++ Jvm.arrayLocs frame_1_arrays args s ++ Jvm.staticLocs frame_1_statics s) 8 2112 → Post tb e args s (.returned v) u) :
    ArmFor flags0 classFile x code maxLocals ret World_1 tables_1 room_1 Calls_1 rest_1 Pre_1 Post := by
  intro l hfl _ _ p e ha hc hk s m args below hf hA hF happ hP
  obtain ⟨hcalls, hrest, hpre⟩ := hP
  obtain ⟨-, -, -, hnamed, -, -, -, hat⟩ := (Spec.applies_iff hf).mp happ
  obtain ⟨hg, hn⟩ := and_e (Cond.before_iff.mp (show (Jvm.Cond.and given_1 narrow_1).before args s = true from hpre))
  obtain ⟨hcount, hgs0⟩ := and_e hg
  obtain ⟨w0, w1, rfl⟩ : ∃ w0 w1 : Value, args = #[w0, w1] := by
    have hs : args.size = 2 := by simpa [Cond.value, given_1] using hcount
    obtain ⟨L⟩ := args
    match L, hs with
    | [w0, w1], _ => exact ⟨w0, w1, rfl⟩
  have hw := fun d (hd : d ∈ tables_1) => atoms_spec (ws := Jvm.Cond.code x code maxLocals ret :: tables_1) hat d (List.mem_cons_of_mem _ hd)
  obtain ⟨hv0, hgs1⟩ := and_e hgs0
  obtain ⟨i0, ei0⟩ := is_v hv0
  obtain rfl : w0 = (.int i0) := Option.some.inj ei0
  have hv1 := hgs1
  obtain ⟨i1, ei1⟩ := is_v hv1
  obtain rfl : w1 = (.int i1) := Option.some.inj ei1
  obtain ⟨hsets, hown0⟩ := atoms_of _ (rest_1_c_eq ▸ (show rest_1_c.before _ s = true from hrest))
  obtain ⟨z1, ez1⟩ := is_v (Cond.before_iff.mp (hsets _ (List.mem_of_getElem? (i := 1) rfl)))
  have S1 := Sta.start ez1 (Or.inl (hsets _ (List.mem_of_getElem? (i := 0) rfl)))
  have hcw : Jvm.Lit.compactW.before #[.int i0, .int i1] s = true := hsets _ (List.mem_of_getElem? (i := 2) rfl)
  have hz1 : ¬ z1 = 0 := own_nz ez1 hcw
  obtain ⟨fm, efm, rf1⟩ := isR_v (Cond.before_iff.mp (hsets _ (List.mem_of_getElem? (i := 8) rfl)))
  have S2 := Sta.start efm (Or.inl (hsets _ (List.mem_of_getElem? (i := 7) rfl)))
  obtain ⟨n, o, h1, h2, h3, _, L, rfl, ⟨rfl, N⟩, hq⟩ := rm0 l s _ hw tables_1 i0 i1 z1 fm s.heap s.heap.size (Nat.le_refl _) S1 S2 hz1 rf1 rfl rfl hcw (hcalls.1 _ (List.mem_of_getElem? (i := 0) rfl)) (hcalls.1 _ (List.mem_of_getElem? (i := 1) rfl)) p e ha hc hk s m _ below hf ((Spec.applies_iff_loose hf).mp happ).1 ⟨rfl, State.Warmed39.refl s, rfl, rfl⟩ trivial
  skip
  refine ⟨n, _, h1, h2, h3, hpost _ _ _ _ _ _ ⟨Cond.after_iff.mpr rfl, Cond.after_iff.mpr (eq_i res_at (Term.int_eval (1)) rfl), trivial⟩ ⟨⟨_, rfl⟩, hq.2.1, hq.2.2.1, (hq.2.2.2.sift fun y hy => Or.inr (N y hy)).mono (by decide) (by decide)⟩⟩
theorem main_1_1 : Claimed_1_1 := comes_1 fun _ _ _ _ _ _ h hF => ⟨h.1, hF⟩
theorem main_1_2 : Claimed_1_2 := comes_1 fun _ _ _ _ _ _ h hF => ⟨h.2.1, hF⟩
end Jvm.Pilot.@@N@@
namespace Jvm.Pilot.@@N@@
open Jvm Jvm.ClassFile Sem Op Lib Jvm.Free Jvm.Stand Jvm.Pilot.@@N@@.Jvm.D
/-! MADE BY PROGRAM (witnessworld.py) out of the Statement's table words and the real class files: 17 classes; the members and pool entries that the words name. The judged class is class 1, her method 1. -/
namespace start1
open Jvm.ClassFile
def u (s : String) : CpInfo := .utf8 (stringToUtf16 s)
/-- a pool by its gaps: so many unusable entries, then the entry; so many at the end -/
def gap : Nat → List CpInfo → List CpInfo
  | 0, r => r
  | n + 1, r => .unusable :: gap n r
def poolList (es : List (Nat × CpInfo)) (last : Nat) : List CpInfo := es.foldr (fun e r => gap e.1 (e.2 :: r)) (gap last [])
def pool (es : List (Nat × CpInfo)) (last : Nat) : Array CpInfo := ⟨poolList es last⟩
def fileOf (pool : Array CpInfo) (this : Nat) (attrs : Array Attribute := #[]) (ms : Array MethodInfo := #[]) (fl : Nat := 33) (sup : Nat := 0) (ifs : Array Nat := #[]) (fds : Array FieldInfo := #[]) : ClassFile where
  minorVersion := 0
  majorVersion := 65
  constantPool := pool
  accessFlags := fl
  thisClass := this
  superClass := sup
  interfaces := ifs
  fields := fds
  methods := ms
  attributes := attrs
def plain (name : String) (sup : Option ClassId) : Class where
  name := name
  kind := .ordinary
  loader := none
  accessFlags := 33
  super := sup
  interfaces := #[]
  cf := none
  fields := #[]
  methods := #[]
  instanceTypes := #[]
  staticTypes := #[]
  resolved := #[]
  callSites := []
  init := .initialized
  statics := none
  mirror := none

def pool0 : Array CpInfo := pool [(5, u "<init>"), (0, u "()V"), (1, .class_ 10), (1, u "java/lang/Object")] 113

def k0m0 : Method := { name := "<init>", desc := "()V", sig := { parameters := [], returnType := none }, accessFlags := 1, code := none }
/-- java/lang/Object -/
def k0 : Class := { plain "java/lang/Object" none with
  accessFlags := 33
  interfaces := #[]
  cf := some (fileOf pool0 8 #[] #[{ accessFlags := 1, nameIndex := 5, descriptorIndex := 6, attributes := #[] }] 33 0 #[] #[])
  fields := #[]
  methods := #[k0m0]
  instanceTypes := #[]
  staticTypes := #[]
  resolved := Array.replicate 124 none
  statics := none }

def pool1 : Array CpInfo := pool [(2, .class_ 4), (1, u "java/lang/Object"), (0, u "<init>"), (0, u "()V"), (0, .string 8), (0, u "0123456789abcdef"), (0, .string 10), (0, u "0123456789ABCDEF"), (0, .integer 65535), (0, .methodref 13 14), (0, .class_ 15), (0, .nameAndType 16 17), (0, u "com/example/katalogd/katalogd/http/HttpSyntax"), (0, u "hexDigit"), (0, u "(C)I"), (0, .methodref 19 20), (0, .class_ 21), (0, .nameAndType 22 23), (0, u "java/lang/String"), (0, u "charAt"), (0, u "(I)C"), (0, .class_ 25), (0, u "com/example/katalogd/katalogd/http/HttpSyntaxHexDigitPinLaw"), (2, u "law"), (0, u "(II)Z")] 3

def k1m0 : Method := { name := "<init>", desc := "()V", sig := { parameters := [], returnType := none }, accessFlags := 2, code := none }
def k1c1 : Code := { maxStack := 2, maxLocals := 9, code := code, exceptionTable := #[], attributes := #[] }
def k1m1 : Method := { name := "law", desc := "(II)Z", sig := { parameters := [.int, .int], returnType := some .boolean }, accessFlags := 9, code := some k1c1 }
/-- com/example/katalogd/katalogd/http/HttpSyntaxHexDigitPinLaw -/
def k1 : Class := { plain "com/example/katalogd/katalogd/http/HttpSyntaxHexDigitPinLaw" (some 0) with
  accessFlags := 49
  interfaces := #[]
  cf := some (fileOf pool1 24 #[] #[{ accessFlags := 2, nameIndex := 5, descriptorIndex := 6, attributes := #[] }, { accessFlags := 9, nameIndex := 28, descriptorIndex := 29, attributes := #[] }] 49 2 #[] #[])
  fields := #[]
  methods := #[k1m0, k1m1]
  instanceTypes := #[]
  staticTypes := #[]
  resolved := Array.replicate 33 none
  statics := none }

def pool2 : Array CpInfo := pool [(1, .class_ 2), (0, u "java/io/Serializable"), (0, .class_ 4), (0, u "java/lang/Object")] 2

/-- java/io/Serializable -/
def k2 : Class := { plain "java/io/Serializable" (some 0) with
  accessFlags := 1537
  interfaces := #[]
  cf := some (fileOf pool2 1 #[] #[] 1537 3 #[] #[])
  fields := #[]
  methods := #[]
  instanceTypes := #[]
  staticTypes := #[]
  resolved := Array.replicate 7 none
  statics := none }

def pool3 : Array CpInfo := pool [(1, .class_ 2), (0, u "java/lang/Comparable"), (0, .class_ 4), (0, u "java/lang/Object")] 7

/-- java/lang/Comparable -/
def k3 : Class := { plain "java/lang/Comparable" (some 0) with
  accessFlags := 1537
  interfaces := #[]
  cf := some (fileOf pool3 1 #[] #[] 1537 3 #[] #[])
  fields := #[]
  methods := #[]
  instanceTypes := #[]
  staticTypes := #[]
  resolved := Array.replicate 12 none
  statics := none }

def pool4 : Array CpInfo := pool [(2, .class_ 4), (1, u "java/lang/CharSequence"), (42, .class_ 48), (0, u "java/lang/CharSequence$1CodePointIterator"), (10, .class_ 60), (0, u "java/lang/CharSequence$1CharIterator"), (5, .class_ 67), (0, u "java/lang/Object")] 63

/-- java/lang/CharSequence -/
def k4 : Class := { plain "java/lang/CharSequence" (some 0) with
  accessFlags := 1537
  interfaces := #[]
  cf := some (fileOf pool4 2 #[.nestMembers #[47, 59]] #[] 1537 66 #[] #[])
  fields := #[]
  methods := #[]
  instanceTypes := #[]
  staticTypes := #[]
  resolved := Array.replicate 131 none
  statics := none }

def pool5 : Array CpInfo := pool [(1, .class_ 2), (0, u "java/lang/constant/Constable"), (0, .class_ 4), (0, u "java/lang/Object")] 6

/-- java/lang/constant/Constable -/
def k5 : Class := { plain "java/lang/constant/Constable" (some 0) with
  accessFlags := 1537
  interfaces := #[]
  cf := some (fileOf pool5 1 #[] #[] 1537 3 #[] #[])
  fields := #[]
  methods := #[]
  instanceTypes := #[]
  staticTypes := #[]
  resolved := Array.replicate 11 none
  statics := none }

def pool6 : Array CpInfo := pool [(1, .class_ 2), (0, u "java/lang/constant/ConstantDesc"), (0, .class_ 4), (0, u "java/lang/Object")] 32

/-- java/lang/constant/ConstantDesc -/
def k6 : Class := { plain "java/lang/constant/ConstantDesc" (some 0) with
  accessFlags := 1537
  interfaces := #[]
  cf := some (fileOf pool6 1 #[] #[] 1537 3 #[] #[])
  fields := #[]
  methods := #[]
  instanceTypes := #[]
  staticTypes := #[]
  resolved := Array.replicate 37 none
  statics := none }

def pool7 : Array CpInfo := pool [(2, .class_ 4), (1, u "java/lang/Object"), (0, u "<init>"), (0, u "()V"), (2, .fieldref 10 11), (0, .class_ 12), (0, .nameAndType 13 14), (0, u "java/lang/String"), (0, u "value"), (0, u "[B"), (0, .fieldref 10 16), (0, .nameAndType 17 18), (0, u "coder"), (0, u "B"), (2, u "hash"), (0, u "I"), (2, u "hashIsZero"), (0, u "Z"), (11, .fieldref 10 39), (0, .nameAndType 40 26), (0, u "COMPACT_STRINGS"), (66, .class_ 109), (1, u "java/lang/StringLatin1"), (32, u "()Z"), (220, u "([BI)C"), (27, u "(II)V"), (35, u "(I)C"), (64, .methodref 10 493), (0, .nameAndType 494 142), (0, u "isLatin1"), (0, .methodref 107 496), (0, .nameAndType 497 363), (0, u "charAt"), (3, u "checkIndex"), (73, .class_ 576), (0, u "java/lang/CharSequence"), (22, u "CASE_INSENSITIVE_ORDER"), (0, u "Ljava/util/Comparator;"), (452, .fieldref 1054 1055), (0, .class_ 1056), (0, .nameAndType 1057 1058), (0, u "jdk/internal/util/Preconditions"), (0, u "SIOOBE_FORMATTER"), (0, u "Ljava/util/function/BiFunction;"), (0, .methodref 1054 1060), (0, .nameAndType 501 1061), (0, u "(IILjava/util/function/BiFunction;)I"), (39, u "serialPersistentFields"), (0, u "[Ljava/io/ObjectStreamField;"), (0, .class_ 1104), (0, u "java/lang/String$CaseInsensitiveComparator"), (1, .class_ 1107), (0, u "java/io/Serializable"), (0, .class_ 1109), (0, u "java/lang/Comparable"), (0, .class_ 1111), (0, u "java/lang/constant/Constable"), (0, .class_ 1113), (0, u "java/lang/constant/ConstantDesc"), (2, u "serialVersionUID"), (0, u "J"), (3, u "REPL"), (0, u "C"), (2, u "LATIN1"), (1, u "UTF16")] 323

def k7m0 : Method := { name := "<init>", desc := "()V", sig := { parameters := [], returnType := none }, accessFlags := 1, code := none }
def k7c1 : Code := { maxStack := 2, maxLocals := 2, code := jdk_42_method_56_code, exceptionTable := #[], attributes := #[] }
def k7m1 : Method := { name := "charAt", desc := "(I)C", sig := { parameters := [.int], returnType := some .char }, accessFlags := 1, code := some k7c1 }
def k7c2 : Code := { maxStack := 1, maxLocals := 1, code := jdk_42_method_154_code, exceptionTable := #[], attributes := #[] }
def k7m2 : Method := { name := "isLatin1", desc := "()Z", sig := { parameters := [], returnType := some .boolean }, accessFlags := 0, code := some k7c2 }
def k7c3 : Code := { maxStack := 3, maxLocals := 2, code := jdk_42_method_155_code, exceptionTable := #[], attributes := #[] }
def k7m3 : Method := { name := "checkIndex", desc := "(II)V", sig := { parameters := [.int, .int], returnType := none }, accessFlags := 8, code := some k7c3 }
/-- java/lang/String -/
def k7 : Class := { plain "java/lang/String" (some 0) with
  accessFlags := 49
  interfaces := #[2, 3, 4, 5, 6]
  cf := some (fileOf pool7 10 #[.nestMembers #[1103]] #[{ accessFlags := 1, nameIndex := 5, descriptorIndex := 6, attributes := #[] }, { accessFlags := 1, nameIndex := 497, descriptorIndex := 427, attributes := #[] }, { accessFlags := 0, nameIndex := 494, descriptorIndex := 142, attributes := #[] }, { accessFlags := 8, nameIndex := 501, descriptorIndex := 391, attributes := #[] }] 49 2 #[1106, 1108, 575, 1110, 1112] #[{ accessFlags := 18, nameIndex := 13, descriptorIndex := 14, attributes := #[] }, { accessFlags := 18, nameIndex := 17, descriptorIndex := 18, attributes := #[] }, { accessFlags := 2, nameIndex := 21, descriptorIndex := 22, attributes := #[] }, { accessFlags := 2, nameIndex := 25, descriptorIndex := 26, attributes := #[] }, { accessFlags := 26, nameIndex := 1116, descriptorIndex := 1117, attributes := #[] }, { accessFlags := 24, nameIndex := 40, descriptorIndex := 26, attributes := #[] }, { accessFlags := 26, nameIndex := 1101, descriptorIndex := 1102, attributes := #[] }, { accessFlags := 26, nameIndex := 1121, descriptorIndex := 1122, attributes := #[] }, { accessFlags := 25, nameIndex := 599, descriptorIndex := 600, attributes := #[] }, { accessFlags := 24, nameIndex := 1125, descriptorIndex := 18, attributes := #[] }, { accessFlags := 24, nameIndex := 1127, descriptorIndex := 18, attributes := #[] }])
  fields := #[{ name := "value", type := (.array .byte), accessFlags := 18, slot := 0, constantValue := 0 }, { name := "coder", type := .byte, accessFlags := 18, slot := 1, constantValue := 0 }, { name := "hash", type := .int, accessFlags := 2, slot := 2, constantValue := 0 }, { name := "hashIsZero", type := .boolean, accessFlags := 2, slot := 3, constantValue := 0 }, { name := "serialVersionUID", type := .long, accessFlags := 26, slot := 0, constantValue := 0 }, { name := "COMPACT_STRINGS", type := .boolean, accessFlags := 24, slot := 1, constantValue := 0 }, { name := "serialPersistentFields", type := (.array (.object "java/io/ObjectStreamField")), accessFlags := 26, slot := 2, constantValue := 0 }, { name := "REPL", type := .char, accessFlags := 26, slot := 3, constantValue := 0 }, { name := "CASE_INSENSITIVE_ORDER", type := (.object "java/util/Comparator"), accessFlags := 25, slot := 4, constantValue := 0 }, { name := "LATIN1", type := .byte, accessFlags := 24, slot := 5, constantValue := 0 }, { name := "UTF16", type := .byte, accessFlags := 24, slot := 6, constantValue := 0 }]
  methods := #[k7m0, k7m1, k7m2, k7m3]
  instanceTypes := #[(.array .byte), .byte, .int, .boolean]
  staticTypes := #[.long, .boolean, (.array (.object "java/io/ObjectStreamField")), .char, (.object "java/util/Comparator"), .byte, .byte]
  resolved := Array.replicate 1451 none
  statics := some 0 }

def pool8 : Array CpInfo := pool [(2, .class_ 4), (1, u "java/lang/Object"), (0, u "<init>"), (0, u "()V"), (15, .class_ 24), (1, u "com/example/katalogd/katalogd/http/HttpSyntax"), (10, u "TOKEN_SYMBOLS"), (0, u "Ljava/lang/String;"), (1, u "URI_SYMBOLS"), (2, u "hexDigit"), (0, u "(C)I")] 7

def k8m0 : Method := { name := "<init>", desc := "()V", sig := { parameters := [], returnType := none }, accessFlags := 2, code := none }
def k8c1 : Code := { maxStack := 2, maxLocals := 1, code := prog_46_method_2_code, exceptionTable := #[], attributes := #[] }
def k8m1 : Method := { name := "hexDigit", desc := "(C)I", sig := { parameters := [.char], returnType := some .int }, accessFlags := 8, code := some k8c1 }
/-- com/example/katalogd/katalogd/http/HttpSyntax -/
def k8 : Class := { plain "com/example/katalogd/katalogd/http/HttpSyntax" (some 0) with
  accessFlags := 48
  interfaces := #[]
  cf := some (fileOf pool8 22 #[] #[{ accessFlags := 2, nameIndex := 5, descriptorIndex := 6, attributes := #[] }, { accessFlags := 8, nameIndex := 41, descriptorIndex := 42, attributes := #[] }] 48 2 #[] #[{ accessFlags := 26, nameIndex := 35, descriptorIndex := 36, attributes := #[] }, { accessFlags := 26, nameIndex := 38, descriptorIndex := 36, attributes := #[] }])
  fields := #[{ name := "TOKEN_SYMBOLS", type := (.object "java/lang/String"), accessFlags := 26, slot := 0, constantValue := 0 }, { name := "URI_SYMBOLS", type := (.object "java/lang/String"), accessFlags := 26, slot := 1, constantValue := 0 }]
  methods := #[k8m0, k8m1]
  instanceTypes := #[]
  staticTypes := #[(.object "java/lang/String"), (.object "java/lang/String")]
  resolved := Array.replicate 50 none
  statics := none }

def pool9 : Array CpInfo := pool [(1, .class_ 2), (0, u "java/lang/String"), (1, .class_ 6), (1, u "java/lang/Object"), (0, u "<init>"), (0, u "()V"), (0, .methodref 1 10), (0, .nameAndType 11 12), (0, u "checkIndex"), (0, u "(II)V"), (1, .class_ 16), (1, u "java/lang/StringLatin1"), (36, u "([BI)C"), (67, u "$assertionsDisabled"), (0, u "Z"), (98, .class_ 223), (1, u "java/lang/StringLatin1$LinesSpliterator"), (28, u "charAt"), (137, .class_ 391), (0, u "java/lang/StringLatin1$CharsSpliterator")] 3

def k9m0 : Method := { name := "<init>", desc := "()V", sig := { parameters := [], returnType := none }, accessFlags := 0, code := none }
def k9c1 : Code := { maxStack := 2, maxLocals := 2, code := jdk_43_method_2_code, exceptionTable := #[], attributes := #[] }
def k9m1 : Method := { name := "charAt", desc := "([BI)C", sig := { parameters := [(.array .byte), .int], returnType := some .char }, accessFlags := 9, code := some k9c1 }
/-- java/lang/StringLatin1 -/
def k9 : Class := { plain "java/lang/StringLatin1" (some 0) with
  accessFlags := 48
  interfaces := #[]
  cf := some (fileOf pool9 14 #[.nestMembers #[390, 221]] #[{ accessFlags := 0, nameIndex := 7, descriptorIndex := 8, attributes := #[] }, { accessFlags := 9, nameIndex := 252, descriptorIndex := 53, attributes := #[] }] 48 4 #[] #[{ accessFlags := 4120, nameIndex := 121, descriptorIndex := 122, attributes := #[] }])
  fields := #[{ name := "$assertionsDisabled", type := .boolean, accessFlags := 4120, slot := 0, constantValue := 0 }]
  methods := #[k9m0, k9m1]
  instanceTypes := #[]
  staticTypes := #[.boolean]
  resolved := Array.replicate 395 none
  statics := none }

def pool10 : Array CpInfo := pool [(2, .class_ 4), (1, u "java/lang/Object"), (0, u "<init>"), (0, u "()V"), (17, .class_ 26), (1, u "jdk/internal/util/Preconditions"), (6, u "checkIndex"), (21, .class_ 56), (0, u "jdk/internal/util/Preconditions$4"), (57, .class_ 115), (0, u "jdk/internal/util/Preconditions$1"), (7, u "SIOOBE_FORMATTER"), (0, u "Ljava/util/function/BiFunction;"), (0, .class_ 126), (0, u "jdk/internal/util/Preconditions$2"), (3, u "AIOOBE_FORMATTER"), (0, .class_ 132), (0, u "jdk/internal/util/Preconditions$3"), (3, u "IOOBE_FORMATTER"), (41, u "(IILjava/util/function/BiFunction;)I")] 15

def k10m0 : Method := { name := "<init>", desc := "()V", sig := { parameters := [], returnType := none }, accessFlags := 1, code := none }
def k10c1 : Code := { maxStack := 3, maxLocals := 3, code := jdk_41_method_11_code, exceptionTable := #[], attributes := #[] }
def k10m1 : Method := { name := "checkIndex", desc := "(IILjava/util/function/BiFunction;)I", sig := { parameters := [.int, .int, (.object "java/util/function/BiFunction")], returnType := some .int }, accessFlags := 9, code := some k10c1 }
/-- jdk/internal/util/Preconditions -/
def k10 : Class := { plain "jdk/internal/util/Preconditions" (some 0) with
  accessFlags := 33
  interfaces := #[]
  cf := some (fileOf pool10 24 #[.nestMembers #[55, 131, 125, 114]] #[{ accessFlags := 1, nameIndex := 5, descriptorIndex := 6, attributes := #[] }, { accessFlags := 9, nameIndex := 33, descriptorIndex := 178, attributes := #[] }] 33 2 #[] #[{ accessFlags := 25, nameIndex := 123, descriptorIndex := 124, attributes := #[] }, { accessFlags := 25, nameIndex := 130, descriptorIndex := 124, attributes := #[] }, { accessFlags := 25, nameIndex := 136, descriptorIndex := 124, attributes := #[] }])
  fields := #[{ name := "SIOOBE_FORMATTER", type := (.object "java/util/function/BiFunction"), accessFlags := 25, slot := 0, constantValue := 0 }, { name := "AIOOBE_FORMATTER", type := (.object "java/util/function/BiFunction"), accessFlags := 25, slot := 1, constantValue := 0 }, { name := "IOOBE_FORMATTER", type := (.object "java/util/function/BiFunction"), accessFlags := 25, slot := 2, constantValue := 0 }]
  methods := #[k10m0, k10m1]
  instanceTypes := #[]
  staticTypes := #[(.object "java/util/function/BiFunction"), (.object "java/util/function/BiFunction"), (.object "java/util/function/BiFunction")]
  resolved := Array.replicate 194 none
  statics := some 1 }

def pool11 : Array CpInfo := pool [(9, u "<init>"), (6, .class_ 18), (1, u "java/lang/Object"), (0, u "()V"), (1, .class_ 23), (1, u "jdk/internal/util/ArraysSupport"), (0, u "LOG2_ARRAY_LONG_INDEX_SCALE"), (0, u "I"), (2, u "U"), (0, u "Ljdk/internal/misc/Unsafe;"), (8, u "BIG_ENDIAN"), (0, u "Z"), (8, u "LOG2_BYTE_BIT_SIZE"), (4, u "LOG2_ARRAY_INT_INDEX_SCALE"), (54, u "JLA"), (0, u "Ljdk/internal/access/JavaLangAccess;"), (11, u "LOG2_ARRAY_BOOLEAN_INDEX_SCALE"), (9, u "LOG2_ARRAY_BYTE_INDEX_SCALE"), (5, u "LOG2_ARRAY_CHAR_INDEX_SCALE"), (5, u "LOG2_ARRAY_SHORT_INDEX_SCALE"), (18, u "LOG2_ARRAY_FLOAT_INDEX_SCALE"), (24, u "LOG2_ARRAY_DOUBLE_INDEX_SCALE"), (89, u "T_BOOLEAN"), (2, u "T_CHAR"), (1, u "T_FLOAT"), (1, u "T_DOUBLE"), (1, u "T_BYTE"), (1, u "T_SHORT"), (1, u "T_INT"), (1, u "T_LONG"), (1, u "SOFT_MAX_ARRAY_LENGTH")] 83

def k11m0 : Method := { name := "<init>", desc := "()V", sig := { parameters := [], returnType := none }, accessFlags := 2, code := none }
/-- jdk/internal/util/ArraysSupport -/
def k11 : Class := { plain "jdk/internal/util/ArraysSupport" (some 0) with
  accessFlags := 33
  interfaces := #[]
  cf := some (fileOf pool11 21 #[] #[{ accessFlags := 2, nameIndex := 9, descriptorIndex := 19, attributes := #[] }] 33 16 #[] #[{ accessFlags := 24, nameIndex := 28, descriptorIndex := 29, attributes := #[] }, { accessFlags := 26, nameIndex := 38, descriptorIndex := 39, attributes := #[] }, { accessFlags := 25, nameIndex := 121, descriptorIndex := 25, attributes := #[] }, { accessFlags := 25, nameIndex := 131, descriptorIndex := 25, attributes := #[] }, { accessFlags := 25, nameIndex := 137, descriptorIndex := 25, attributes := #[] }, { accessFlags := 25, nameIndex := 143, descriptorIndex := 25, attributes := #[] }, { accessFlags := 25, nameIndex := 53, descriptorIndex := 25, attributes := #[] }, { accessFlags := 25, nameIndex := 24, descriptorIndex := 25, attributes := #[] }, { accessFlags := 25, nameIndex := 162, descriptorIndex := 25, attributes := #[] }, { accessFlags := 25, nameIndex := 187, descriptorIndex := 25, attributes := #[] }, { accessFlags := 26, nameIndex := 48, descriptorIndex := 25, attributes := #[] }, { accessFlags := 25, nameIndex := 277, descriptorIndex := 25, attributes := #[] }, { accessFlags := 25, nameIndex := 280, descriptorIndex := 25, attributes := #[] }, { accessFlags := 25, nameIndex := 282, descriptorIndex := 25, attributes := #[] }, { accessFlags := 25, nameIndex := 284, descriptorIndex := 25, attributes := #[] }, { accessFlags := 25, nameIndex := 286, descriptorIndex := 25, attributes := #[] }, { accessFlags := 25, nameIndex := 288, descriptorIndex := 25, attributes := #[] }, { accessFlags := 25, nameIndex := 290, descriptorIndex := 25, attributes := #[] }, { accessFlags := 25, nameIndex := 292, descriptorIndex := 25, attributes := #[] }, { accessFlags := 26, nameIndex := 108, descriptorIndex := 109, attributes := #[] }, { accessFlags := 25, nameIndex := 294, descriptorIndex := 25, attributes := #[] }])
  fields := #[{ name := "U", type := (.object "jdk/internal/misc/Unsafe"), accessFlags := 24, slot := 0, constantValue := 0 }, { name := "BIG_ENDIAN", type := .boolean, accessFlags := 26, slot := 1, constantValue := 0 }, { name := "LOG2_ARRAY_BOOLEAN_INDEX_SCALE", type := .int, accessFlags := 25, slot := 2, constantValue := 0 }, { name := "LOG2_ARRAY_BYTE_INDEX_SCALE", type := .int, accessFlags := 25, slot := 3, constantValue := 0 }, { name := "LOG2_ARRAY_CHAR_INDEX_SCALE", type := .int, accessFlags := 25, slot := 4, constantValue := 0 }, { name := "LOG2_ARRAY_SHORT_INDEX_SCALE", type := .int, accessFlags := 25, slot := 5, constantValue := 0 }, { name := "LOG2_ARRAY_INT_INDEX_SCALE", type := .int, accessFlags := 25, slot := 6, constantValue := 0 }, { name := "LOG2_ARRAY_LONG_INDEX_SCALE", type := .int, accessFlags := 25, slot := 7, constantValue := 0 }, { name := "LOG2_ARRAY_FLOAT_INDEX_SCALE", type := .int, accessFlags := 25, slot := 8, constantValue := 0 }, { name := "LOG2_ARRAY_DOUBLE_INDEX_SCALE", type := .int, accessFlags := 25, slot := 9, constantValue := 0 }, { name := "LOG2_BYTE_BIT_SIZE", type := .int, accessFlags := 26, slot := 10, constantValue := 0 }, { name := "T_BOOLEAN", type := .int, accessFlags := 25, slot := 11, constantValue := 0 }, { name := "T_CHAR", type := .int, accessFlags := 25, slot := 12, constantValue := 0 }, { name := "T_FLOAT", type := .int, accessFlags := 25, slot := 13, constantValue := 0 }, { name := "T_DOUBLE", type := .int, accessFlags := 25, slot := 14, constantValue := 0 }, { name := "T_BYTE", type := .int, accessFlags := 25, slot := 15, constantValue := 0 }, { name := "T_SHORT", type := .int, accessFlags := 25, slot := 16, constantValue := 0 }, { name := "T_INT", type := .int, accessFlags := 25, slot := 17, constantValue := 0 }, { name := "T_LONG", type := .int, accessFlags := 25, slot := 18, constantValue := 0 }, { name := "JLA", type := (.object "jdk/internal/access/JavaLangAccess"), accessFlags := 26, slot := 19, constantValue := 0 }, { name := "SOFT_MAX_ARRAY_LENGTH", type := .int, accessFlags := 25, slot := 20, constantValue := 0 }]
  methods := #[k11m0]
  instanceTypes := #[]
  staticTypes := #[(.object "jdk/internal/misc/Unsafe"), .boolean, .int, .int, .int, .int, .int, .int, .int, .int, .int, .int, .int, .int, .int, .int, .int, .int, .int, (.object "jdk/internal/access/JavaLangAccess"), .int]
  resolved := Array.replicate 378 none
  statics := none }

def pool12 : Array CpInfo := pool [(1, u "java/lang/Cloneable"), (0, .class_ 1), (0, u "java/lang/Object"), (0, .class_ 3)] 3

/-- java/lang/Cloneable -/
def k12 : Class := { plain "java/lang/Cloneable" (some 0) with
  accessFlags := 1537
  interfaces := #[]
  cf := some (fileOf pool12 2 #[] #[] 1537 4 #[] #[])
  fields := #[]
  methods := #[]
  instanceTypes := #[]
  staticTypes := #[]
  resolved := Array.replicate 8 none
  statics := none }

/-- the primitive byte -/
def k13 : Class := { plain "byte" none with kind := .primitive 'B', accessFlags := 0x411 }
/-- [B -/
def k14 : Class := { plain "[B" (some 0) with kind := .array 13 .byte, interfaces := #[12, 2], accessFlags := 1041 }

/-- the primitive int -/
def k15 : Class := { plain "int" none with kind := .primitive 'I', accessFlags := 0x411 }
/-- [I -/
def k16 : Class := { plain "[I" (some 0) with kind := .array 15 .int, interfaces := #[12, 2], accessFlags := 1041 }

def heap : Heap := #[{ cls := 7, slots := #[.long 0, .int 1, .null, .int 0, .null, .int 0, .int 0], vm := .statics 7 },
  { cls := 10, slots := #[.null, .null, .null], vm := .statics 10 }]
def classes : Array Class := #[k0, k1, k2, k3, k4, k5, k6, k7, k8, k9, k10, k11, k12, k13, k14, k15, k16]
def interned : List (Array UInt16 × Addr) := []
def slotsUsed : Nat := 10
def theMethod : MethodId := ⟨1, 1⟩
def args0 : Array Value := #[.int 65, .int 3]
def aboutOver (below : List Frame) : State where
  vm := { classes := classes, interned := interned.toArray }
  heap := heap
  slotsUsed := slotsUsed
  threads := #[{ frames := .invoking theMethod args0 :: below }]
def below0 : List Frame := [.native { method := ⟨0, 0⟩, args := #[] }]
def about1 : State := aboutOver below0
def p0 : Program := .bare "" "" ""
def e0 : Env := launch0.env 0 0 0
theorem w_frames : about1.frames = Frame.invoking theMethod args0 :: below0 := rfl
set_option maxRecDepth 65536 in
theorem w_args : argsFit about1.vm theMethod args0 = true := by decide +kernel
set_option maxRecDepth 65536 in
theorem w_heap : heapFits about1 = true := by decide +kernel
set_option maxRecDepth 65536 in
theorem w_runnable : about1.curStatus? = some .runnable := by decide +kernel
set_option maxRecDepth 65536 in
theorem w_alone : about1.alone = true := by decide +kernel
set_option maxRecDepth 65536 in
theorem w_named : about1.methodNamed? x = some theMethod := by decide +kernel
set_option maxRecDepth 65536 in
theorem w_hears : about1.hears theMethod below0 = true := by decide +kernel
set_option maxRecDepth 65536 in
theorem w_ripe : about1.ripe theMethod args0 below0 = true := by decide +kernel
theorem w_running : about1.status = .running := rfl
set_option maxRecDepth 65536 in
theorem w_room : about1.hasRoom e0.platform room_1 = true :=
  launch0.hasRoom_least _ room_1 (by decide +kernel) (by decide +kernel) (by decide +kernel) (by decide +kernel) (by decide +kernel) (by decide +kernel)
theorem allAtoms_all (ts : List Jvm.Cond) (a : Array Jvm.Value) (st : Jvm.State) : (allAtoms ts).before a st = ts.all (fun c => c.before a st) := by
  induction ts with
  | nil => rfl
  | cons c t ih =>
    show (Jvm.Cond.and c (allAtoms t)).before a st = _
    rw [Jvm.Cond.before_and, ih, List.all_cons]
def words1 : List Jvm.Cond := Jvm.Cond.code x code maxLocals ret :: tables_1
/-- a 'code' word, met by the world's own term for the bytes: nothing is compared byte by byte -/
theorem code_word {y : MethodName} {bytes : ByteArray} {mx : Nat} {rt : Option FieldType} {a : Array Value} {s : State} {m : MethodId} {meth : Method} {c : Code} (h1 : s.methodNamed? y = some m) (h2 : s.vm.method? m = some meth) (h3 : meth.code = some c) (h4 : c.code = bytes)
    (h5 : (c.maxLocals == mx && c.exceptionTable.isEmpty && decide (c.maxStack ≤ mostOperands) && decide (meth.sig.returnType = rt) && !meth.locks && decide (parseMethodDescriptor y.desc = some meth.sig)) = true) : (Jvm.Cond.code y bytes mx rt).before a s = true := by
  simp only [Bool.and_eq_true, beq_iff_eq, Bool.not_eq_true', decide_eq_true_eq] at h5
  obtain ⟨⟨⟨⟨⟨g1, g2⟩, g3⟩, g4⟩, g5⟩, g6⟩ := h5
  simp [Cond.before, Cond.holds, Cond.value, h1, h2, h3, h4, g1, g2, g3, g4, g5, g6]
def isCode : Jvm.Cond → Bool
  | .code _ _ _ _ => true
  | _ => false
theorem all_split {L : List Jvm.Cond} {P : Jvm.Cond → Bool} (h1 : L.all (fun c => isCode c || P c) = true) (h2 : ∀ c ∈ L.filter isCode, P c = true) : L.all P = true := by
  refine List.all_eq_true.mpr fun c hc => ?_
  have h := List.all_eq_true.mp h1 c hc
  rcases Bool.eq_false_or_eq_true (isCode c) with hi | hi
  · exact h2 c (List.mem_filter.mpr ⟨hc, hi⟩)
  · simpa [hi] using h
set_option maxRecDepth 65536 in
theorem w_c0 : (Jvm.Cond.code x code maxLocals ret).before args0 about1 = true := code_word (m := ⟨1, 1⟩) (meth := k1m1) (c := k1c1) (by decide +kernel) rfl rfl rfl (by decide +kernel)
set_option maxRecDepth 65536 in
theorem w_c1 : (Jvm.Cond.code ({ cls := "com/example/katalogd/katalogd/http/HttpSyntax", name := "hexDigit", desc := "(C)I" } : Jvm.MethodName) prog_46_method_2_code (1 : Nat) (Option.some Jvm.ClassFile.FieldType.int)).before args0 about1 = true := code_word (m := ⟨8, 1⟩) (meth := k8m1) (c := k8c1) (by decide +kernel) rfl rfl rfl (by decide +kernel)
set_option maxRecDepth 65536 in
theorem w_c2 : (Jvm.Cond.code ({ cls := "java/lang/String", name := "charAt", desc := "(I)C" } : Jvm.MethodName) jdk_42_method_56_code (2 : Nat) (Option.some Jvm.ClassFile.FieldType.char)).before args0 about1 = true := code_word (m := ⟨7, 1⟩) (meth := k7m1) (c := k7c1) (by decide +kernel) rfl rfl rfl (by decide +kernel)
set_option maxRecDepth 65536 in
theorem w_c3 : (Jvm.Cond.code ({ cls := "java/lang/String", name := "isLatin1", desc := "()Z" } : Jvm.MethodName) jdk_42_method_154_code (1 : Nat) (Option.some Jvm.ClassFile.FieldType.boolean)).before args0 about1 = true := code_word (m := ⟨7, 2⟩) (meth := k7m2) (c := k7c2) (by decide +kernel) rfl rfl rfl (by decide +kernel)
set_option maxRecDepth 65536 in
theorem w_c4 : (Jvm.Cond.code ({ cls := "java/lang/StringLatin1", name := "charAt", desc := "([BI)C" } : Jvm.MethodName) jdk_43_method_2_code (2 : Nat) (Option.some Jvm.ClassFile.FieldType.char)).before args0 about1 = true := code_word (m := ⟨9, 1⟩) (meth := k9m1) (c := k9c1) (by decide +kernel) rfl rfl rfl (by decide +kernel)
set_option maxRecDepth 65536 in
theorem w_c5 : (Jvm.Cond.code ({ cls := "java/lang/String", name := "checkIndex", desc := "(II)V" } : Jvm.MethodName) jdk_42_method_155_code (2 : Nat) (Option.none : Option Jvm.ClassFile.FieldType)).before args0 about1 = true := code_word (m := ⟨7, 3⟩) (meth := k7m3) (c := k7c3) (by decide +kernel) rfl rfl rfl (by decide +kernel)
set_option maxRecDepth 65536 in
theorem w_c6 : (Jvm.Cond.code ({ cls := "jdk/internal/util/Preconditions", name := "checkIndex", desc := "(IILjava/util/function/BiFunction;)I" } : Jvm.MethodName) jdk_41_method_11_code (3 : Nat) (Option.some Jvm.ClassFile.FieldType.int)).before args0 about1 = true := code_word (m := ⟨10, 1⟩) (meth := k10m1) (c := k10c1) (by decide +kernel) rfl rfl rfl (by decide +kernel)
def codes1 : List Jvm.Cond := [Jvm.Cond.code x code maxLocals ret, Jvm.Cond.code ({ cls := "com/example/katalogd/katalogd/http/HttpSyntax", name := "hexDigit", desc := "(C)I" } : Jvm.MethodName) prog_46_method_2_code (1 : Nat) (Option.some Jvm.ClassFile.FieldType.int), Jvm.Cond.code ({ cls := "java/lang/String", name := "charAt", desc := "(I)C" } : Jvm.MethodName) jdk_42_method_56_code (2 : Nat) (Option.some Jvm.ClassFile.FieldType.char), Jvm.Cond.code ({ cls := "java/lang/String", name := "isLatin1", desc := "()Z" } : Jvm.MethodName) jdk_42_method_154_code (1 : Nat) (Option.some Jvm.ClassFile.FieldType.boolean), Jvm.Cond.code ({ cls := "java/lang/StringLatin1", name := "charAt", desc := "([BI)C" } : Jvm.MethodName) jdk_43_method_2_code (2 : Nat) (Option.some Jvm.ClassFile.FieldType.char), Jvm.Cond.code ({ cls := "java/lang/String", name := "checkIndex", desc := "(II)V" } : Jvm.MethodName) jdk_42_method_155_code (2 : Nat) (Option.none : Option Jvm.ClassFile.FieldType), Jvm.Cond.code ({ cls := "jdk/internal/util/Preconditions", name := "checkIndex", desc := "(IILjava/util/function/BiFunction;)I" } : Jvm.MethodName) jdk_41_method_11_code (3 : Nat) (Option.some Jvm.ClassFile.FieldType.int)]
set_option maxRecDepth 65536 in
theorem codes_eq : words1.filter isCode = codes1 := rfl
theorem w_codes : ∀ c ∈ words1.filter isCode, c.before args0 about1 = true := by
  rw [codes_eq]
  intro c hc
  simp only [codes1, List.mem_cons, List.not_mem_nil, or_false] at hc
  rcases hc with rfl | rfl | rfl | rfl | rfl | rfl | rfl
  · exact w_c0
  · exact w_c1
  · exact w_c2
  · exact w_c3
  · exact w_c4
  · exact w_c5
  · exact w_c6
set_option maxRecDepth 65536 in
theorem w_t1 : (words1.take 24).all (fun c => isCode c || c.before args0 about1) = true := by decide +kernel
set_option maxRecDepth 65536 in
theorem w_t2 : (words1.drop 24).all (fun c => isCode c || c.before args0 about1) = true := by decide +kernel
theorem w_tables : (allAtoms (Jvm.Cond.code x code maxLocals ret :: tables_1)).before args0 about1 = true := by
  rw [allAtoms_all]
  show words1.all (fun c => c.before args0 about1) = true
  refine all_split ?_ w_codes
  rw [← List.take_append_drop 24 words1, List.all_append, w_t1, w_t2]
  rfl
set_option maxRecDepth 65536 in
theorem w_rest : rest_1_c.before args0 about1 = true := by decide +kernel
set_option maxRecDepth 65536 in
theorem w_case : (Jvm.Cond.and given_1 narrow_1).before args0 about1 = true := by decide +kernel
set_option maxRecDepth 65536 in
theorem w_consts : constsHeld consts_1 about1 := Jvm.Lit.constsHeldB_iff.mp (by decide +kernel)
theorem w_applies : (headSpec (Jvm.Cond.code x code maxLocals ret :: tables_1) room_1).applies x e0.platform about1 = true :=
  (Spec.applies_iff w_frames).mpr ⟨w_running, w_runnable, w_alone, w_named, w_hears, w_ripe, w_room, w_tables⟩
theorem atStart : AtStart classFile x code maxLocals ret World_1 tables_1 room_1 Calls_1 rest_1 Pre_1 launch0 p0 e0 about1 theMethod args0 below0 :=
  ⟨lists_1, trivial, launch0.admits_env _ _ _, launch0.least_env, fairChoices_fair.cas, fairChoices_fair.clock, w_frames, w_args, w_heap, w_applies, ⟨w_consts, trivial⟩, w_rest, w_case⟩
end start1
theorem witness_1 : WitnessClaimed_1 := ⟨start1.p0, start1.e0, start1.about1, start1.theMethod, start1.args0, start1.below0, start1.atStart⟩
end Jvm.Pilot.@@N@@
