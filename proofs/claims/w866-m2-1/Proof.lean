import JvmDerived
import JvmDerived.Pilot.@@N@@Statement
import JvmDerived.Pilot.@@N@@Code
set_option linter.unusedVariables false
set_option linter.unusedSimpArgs false
@@BLOCK:NumsL.lean.txt@@
@@BLOCK:Masks.lean.txt@@
namespace Jvm.Pilot.@@N@@
open Jvm Jvm.ClassFile Sem Op Lib Jvm.Free Jvm.Stand Jvm.LawKit Jvm.RoadKit Bundle Jvm.Pilot.@@N@@.Jvm.D
def own_G (tb : Tables) (e : Env) (below : List Frame) (En : Outcome → State → List Loc → Prop) (Q : Option Value → Heap → List Loc → Prop) (U : State) : Prop :=
  ∃ t o, Steps tb e below U t ∧ t.status = .running ∧ Ended t below o ∧ ∃ v L, o = .returned v ∧ Q v t.heap L ∧ En o t L
/-- the frame at the end, counted from s -/
def own_E (s : State) (nc ns : Nat) (o : Outcome) (t : State) (L : List Loc) : Prop := FrameEnd s o t L nc ns
theorem own_st {tb : Tables} {e : Env} {below : List Frame} {En : Outcome → State → List Loc → Prop} {Q : Option Value → Heap → List Loc → Prop} {U U' : State} (h : own_G tb e below En Q U') (st : ∀ t, Steps tb e below U' t → Steps tb e below U t) : own_G tb e below En Q U := by
  obtain ⟨t, o, h1, h2⟩ := h
  exact ⟨t, o, st t h1, h2⟩
section OwnRet
variable {p : Program} {l : Launch} {e : Env} {R : Room} {s : State} {m : MethodId} {args : Array Value} {below : List Frame} {meth : Method} {c : Code} {T : State} {locs : List Loc} {cells slots : Nat}
theorem own_retN (X : Stand p l e R s m args below meth c T locs cells slots) (hx : p.tables.exec = Jvm.exec) (hlk : meth.locks = false) {pc : Nat} {Ls : Array Slot} {z z' : Int32} {t : FieldType} {rest : List Value} (hret : meth.sig.returnType = some t) (ht : t = .boolean ∨ t = .byte ∨ t = .char ∨ t = .short)
    (hd : decode c.code pc = .ok (.ireturn, 1)) {Q : Option Value → Heap → List Loc → Prop} {nc ns : Nat} (hc : cells ≤ nc) (hs : slots ≤ ns) (hz : nar t z = z') (hQ : Q (some (.int z')) T.heap locs) : own_G p.tables e below (own_E s nc ns) Q (T.setTop (mkF m pc Ls (.int z :: rest))) := by
  subst hz
  obtain ⟨fs, hr, hrun, hended, hW, hsame⟩ := X.leave (v := some (.int (nar t z))) (fun h => by rw [hret] at h; cases h) hlk
  exact ⟨_, _, retN X hx hret ht hd hr, hrun, hended, _, _, rfl, hQ, ⟨_, rfl⟩, hW, hsame.mono hc hs⟩
theorem own_retI (X : Stand p l e R s m args below meth c T locs cells slots) (hx : p.tables.exec = Jvm.exec) (hlk : meth.locks = false) {pc : Nat} {Ls : Array Slot} {z : Int32} {rest : List Value} (hret : meth.sig.returnType = some .int)
    (hd : decode c.code pc = .ok (.ireturn, 1)) {Q : Option Value → Heap → List Loc → Prop} {nc ns : Nat} (hc : cells ≤ nc) (hs : slots ≤ ns) (hQ : Q (some (.int z)) T.heap locs) : own_G p.tables e below (own_E s nc ns) Q (T.setTop (mkF m pc Ls (.int z :: rest))) := by
  obtain ⟨fs, hr, hrun, hended, hW, hsame⟩ := X.leave (v := some (.int z)) (fun h => by rw [hret] at h; cases h) hlk
  exact ⟨_, _, retOut X hx hret rfl (Or.inl ⟨rfl, Or.inl rfl, _, rfl⟩) hd hr, hrun, hended, _, _, rfl, hQ, ⟨_, rfl⟩, hW, hsame.mono hc hs⟩
theorem own_retJ (X : Stand p l e R s m args below meth c T locs cells slots) (hx : p.tables.exec = Jvm.exec) (hlk : meth.locks = false) {pc : Nat} {Ls : Array Slot} {z : Int64} {rest : List Value} (hret : meth.sig.returnType = some .long)
    (hd : decode c.code pc = .ok (.lreturn, 1)) {Q : Option Value → Heap → List Loc → Prop} {nc ns : Nat} (hc : cells ≤ nc) (hs : slots ≤ ns) (hQ : Q (some (.long z)) T.heap locs) : own_G p.tables e below (own_E s nc ns) Q (T.setTop (mkF m pc Ls (.long z :: rest))) := by
  obtain ⟨fs, hr, hrun, hended, hW, hsame⟩ := X.leave (v := some (.long z)) (fun h => by rw [hret] at h; cases h) hlk
  exact ⟨_, _, retOut X hx hret rfl (Or.inr (Or.inl ⟨rfl, rfl, _, rfl⟩)) hd hr, hrun, hended, _, _, rfl, hQ, ⟨_, rfl⟩, hW, hsame.mono hc hs⟩
theorem own_retA (X : Stand p l e R s m args below meth c T locs cells slots) (hx : p.tables.exec = Jvm.exec) (hlk : meth.locks = false) {pc : Nat} {Ls : Array Slot} {z : Value} {t : FieldType} {rest : List Value} (hret : meth.sig.returnType = some t) (ht : t.isReference = true) (hn : narrow t z = z) (hv : z.isRef = true)
    (hd : decode c.code pc = .ok (.areturn, 1)) {Q : Option Value → Heap → List Loc → Prop} {nc ns : Nat} (hc : cells ≤ nc) (hs : slots ≤ ns) (hQ : Q (some z) T.heap locs) : own_G p.tables e below (own_E s nc ns) Q (T.setTop (mkF m pc Ls (z :: rest))) := by
  obtain ⟨fs, hr, hrun, hended, hW, hsame⟩ := X.leave (v := some z) (fun h => by rw [hret] at h; cases h) hlk
  exact ⟨_, _, retOut X hx hret hn (Or.inr (Or.inr (Or.inr (Or.inr ⟨rfl, ht, hv⟩)))) hd hr, hrun, hended, _, _, rfl, hQ, ⟨_, rfl⟩, hW, hsame.mono hc hs⟩
theorem own_retV (X : Stand p l e R s m args below meth c T locs cells slots) (hx : p.tables.exec = Jvm.exec) (hlk : meth.locks = false) {pc : Nat} {Ls : Array Slot} (hret : meth.sig.returnType = none)
    (hd : decode c.code pc = .ok (.return_, 1)) {Q : Option Value → Heap → List Loc → Prop} {nc ns : Nat} (hc : cells ≤ nc) (hs : slots ≤ ns) (hQ : Q none T.heap locs) : own_G p.tables e below (own_E s nc ns) Q (T.setTop (mkF m pc Ls [])) := by
  obtain ⟨fs, hr, hrun, hended, hW, hsame⟩ := X.leave (v := none) (fun _ => rfl) hlk
  exact ⟨_, _, X.returnOut hx hret hd hr, hrun, hended, _, _, rfl, hQ, ⟨_, rfl⟩, hW, hsame.mono hc hs⟩
/-- the wide frame at the end: Strings may have been interned -/
def own_EW (s : State) (nc ns : Nat) (o : Outcome) (t : State) (L : List Loc) : Prop := ReturnedEndW s o t L nc ns
theorem own_retNW {vm1 : Vm} (X : Stand p l e R (s.setVm vm1) m args below meth c T locs cells slots) (hx : p.tables.exec = Jvm.exec) (hlk : meth.locks = false) {k : Nat} (hS : s.Since vm1 k) (hk : k ≤ T.heap.size) {pc : Nat} {Ls : Array Slot} {z z' : Int32} {t : FieldType} {rest : List Value} (hret : meth.sig.returnType = some t) (ht : t = .boolean ∨ t = .byte ∨ t = .char ∨ t = .short)
    (hd : decode c.code pc = .ok (.ireturn, 1)) {Q : Option Value → Heap → List Loc → Prop} {nc ns : Nat} (hc : cells ≤ nc) (hs : slots ≤ ns) (hz : nar t z = z') (hQ : Q (some (.int z')) T.heap locs) : own_G p.tables e below (own_EW s nc ns) Q (T.setTop (mkF m pc Ls (.int z :: rest))) := by
  subst hz
  obtain ⟨fs, hr, hrun, hended, h1, h2, h3, h4⟩ := X.leaveW hS hk (v := some (.int (nar t z))) (fun h => by rw [hret] at h; cases h) hlk
  exact ⟨_, _, retN X hx hret ht hd hr, hrun, hended, _, _, rfl, hQ, h1, h2, h3, h4.mono hc hs⟩
end OwnRet
/-- it returns r; nothing old is written (own_QV: the heap is as it was) -/
def own_QL (r : Value) (n0 : Nat) (v : Option Value) (h : Heap) (L : List Loc) : Prop := v = some r ∧ Fr n0 L
def own_QN (h0 : Heap) (n0 : Nat) (v : Option Value) (h : Heap) (L : List Loc) : Prop := v = none ∧ Fr n0 L ∧ h = h0
def own_QV (r : Value) (h0 : Heap) (n0 : Nat) (v : Option Value) (h : Heap) (L : List Loc) : Prop := v = some r ∧ Fr n0 L ∧ h = h0
theorem d1_0 : decode prog_60_method_8_code 0 = .ok (.iload_n 0, 1) := by decide +kernel
theorem d1_1 : decode prog_60_method_8_code 1 = .ok (.bipush 97, 2) := by decide +kernel
theorem d1_3 : decode prog_60_method_8_code 3 = .ok (.if_icmp .lt 9, 3) := by decide +kernel
theorem d1_6 : decode prog_60_method_8_code 6 = .ok (.iload_n 0, 1) := by decide +kernel
theorem d1_7 : decode prog_60_method_8_code 7 = .ok (.bipush 122, 2) := by decide +kernel
theorem d1_9 : decode prog_60_method_8_code 9 = .ok (.if_icmp .le 15, 3) := by decide +kernel
theorem d1_12 : decode prog_60_method_8_code 12 = .ok (.iload_n 0, 1) := by decide +kernel
theorem d1_13 : decode prog_60_method_8_code 13 = .ok (.bipush 65, 2) := by decide +kernel
theorem d1_15 : decode prog_60_method_8_code 15 = .ok (.if_icmp .lt 13, 3) := by decide +kernel
theorem d1_18 : decode prog_60_method_8_code 18 = .ok (.iload_n 0, 1) := by decide +kernel
theorem d1_19 : decode prog_60_method_8_code 19 = .ok (.bipush 90, 2) := by decide +kernel
theorem d1_21 : decode prog_60_method_8_code 21 = .ok (.if_icmp .gt 7, 3) := by decide +kernel
theorem d1_24 : decode prog_60_method_8_code 24 = .ok (.iconst 1, 1) := by decide +kernel
theorem d1_25 : decode prog_60_method_8_code 25 = .ok (.goto 4, 3) := by decide +kernel
theorem d1_28 : decode prog_60_method_8_code 28 = .ok (.iconst 0, 1) := by decide +kernel
theorem d1_29 : decode prog_60_method_8_code 29 = .ok (.ireturn, 1) := by decide +kernel
def f1 (p0 : Int32) : Int32 := (if p0 < (97 : Int32) then (if p0 < (65 : Int32) then (0 : Int32) else (if (90 : Int32) < p0 then (0 : Int32) else (1 : Int32))) else (if (122 : Int32) < p0 then (if p0 < (65 : Int32) then (0 : Int32) else (if (90 : Int32) < p0 then (0 : Int32) else (1 : Int32))) else (1 : Int32)))
theorem pn_1 : plainName "org/entitle/licences/LicenceUrls" = true := by first | (simp [plainName, overriddenIn]; done) | decide +kernel
theorem ef_1 (m : MethodId) (p0 : Int32) : entryFrame m #[(.int p0)] 1 = mkF m 0 #[.val (.int p0)] [] := by first | (simp [entryFrame, mkF, argsToLocals, Value.category]; done) | rfl
set_option maxRecDepth 65536 in
set_option maxHeartbeats 40000000 in
theorem rm1 (l : Launch) (Z : State) (a0 : Array Value) (hw : ∀ d ∈ tables_1, d.before a0 Z = true) (ws : List Jvm.Cond) (p0 : Int32) (h0 : Heap) (n0 : Nat) (Z0 : n0 ≤ h0.size) :
    MetFree l (⟨"org/entitle/licences/LicenceUrls", "isAsciiLetter", "(C)Z"⟩ : MethodName) (head1 (Jvm.Cond.code (⟨"org/entitle/licences/LicenceUrls", "isAsciiLetter", "(C)Z"⟩ : MethodName) prog_60_method_8_code 1 (some .boolean) :: ws) ({ frames := 0, cells := 0, slots := 0, locals := 0 } : Room)) (fun a U => a = #[(.int p0)] ∧ Z.Warmed39 U.vm ∧ U.heap = h0) (fun _ _ _ _ _ => True) (fun _ U o U' => ∃ v L, o = .returned v ∧ own_QV (.int (f1 p0 )) h0 n0 v U'.heap L ∧ FrameEnd U o U' L ({ frames := 0, cells := 0, slots := 0, locals := 0 } : Room).cells ({ frames := 0, cells := 0, slots := 0, locals := 0 } : Room).slots) := by
  refine MetFree.of_bodySF (plainFor_of_name pn_1) hisR ?_
  intro p e s m args below meth c s₁ Bd hml0 hP hK
  obtain ⟨rfl, hZ, hh⟩ := hP
  have hx := Bd.exec
  have hby := Bd.bytes
  have hlk : meth.locks = false := BodyLoose.notSynchronized Bd
  have hret := Bd.returns
  have hml : c.maxLocals = 1 := hml0
  have hown : s.vm.findClass "org/entitle/licences/LicenceUrls" = some m.cls := findClass_of_methodNamed Bd.named
  have hnm := (name_of_methodNamed Bd.named Bd.method).1
  have X0 : Stand p l e ({ frames := 0, cells := 0, slots := 0, locals := 0 } : Room) s m #[(.int p0)] below meth c s₁ [] 0 0 := Stand.of_body Bd
  have e0 : s₁.heap = h0 := by rw [← hh, Bd.state]; rfl
  have N0 := Fr.nil n0
  show own_G p.tables e below (own_E s ({ frames := 0, cells := 0, slots := 0, locals := 0 } : Room).cells ({ frames := 0, cells := 0, slots := 0, locals := 0 } : Room).slots) (own_QV (.int (f1 p0 )) h0 n0) (s₁.setTop (entryFrame m #[(.int p0)] 1))
  refine own_st ?_ (fun t k => castTop (ef_1 m p0) k)
  show own_G p.tables e below _ _ (s₁.setTop (mkF m 0 #[.val (.int p0)] []))
  refine own_st ?_ (fun t k => XS.iloadN X0.here hx rfl (hb hby d1_0) rfl k)
  show own_G p.tables e below _ _ (s₁.setTop (mkF m 1 #[.val (.int p0)] [(.int p0)]))
  refine own_st ?_ (fun t k => XS.bipush X0.here hx rfl (hb hby d1_1) k)
  show own_G p.tables e below _ _ (s₁.setTop (mkF m 3 #[.val (.int p0)] [(.int (97 : Int32)), (.int p0)]))
  by_cases hc3 : p0 < (97 : Int32)
  · refine own_st ?_ (fun t k => XS.icmpYes X0.here hx rfl (pc0 := 3) (pc' := 12) rfl (hb hby d1_3) rfl (tlt hc3).1 (by decide) (by decide) k)
    show own_G p.tables e below _ _ (s₁.setTop (mkF m 12 #[.val (.int p0)] []))
    refine own_st ?_ (fun t k => XS.iloadN X0.here hx rfl (hb hby d1_12) rfl k)
    show own_G p.tables e below _ _ (s₁.setTop (mkF m 13 #[.val (.int p0)] [(.int p0)]))
    refine own_st ?_ (fun t k => XS.bipush X0.here hx rfl (hb hby d1_13) k)
    show own_G p.tables e below _ _ (s₁.setTop (mkF m 15 #[.val (.int p0)] [(.int (65 : Int32)), (.int p0)]))
    by_cases hc15 : p0 < (65 : Int32)
    · refine own_st ?_ (fun t k => XS.icmpYes X0.here hx rfl (pc0 := 15) (pc' := 28) rfl (hb hby d1_15) rfl (tlt hc15).1 (by decide) (by decide) k)
      show own_G p.tables e below _ _ (s₁.setTop (mkF m 28 #[.val (.int p0)] []))
      refine own_st ?_ (fun t k => XS.iconst X0.here hx rfl (hb hby d1_28) k)
      show own_G p.tables e below _ _ (s₁.setTop (mkF m 29 #[.val (.int p0)] [(.int (0 : Int32))]))
      refine own_retN X0 hx hlk (t := .boolean) hret (by simp) (hb hby d1_29) (by decide) (by decide) (z' := (0 : Int32)) rfl ⟨?_, N0, e0⟩
      rw [show f1 p0  = (0 : Int32) from (if_pos hc3).trans ((if_pos hc15).trans (rfl))]
    · refine own_st ?_ (fun t k => XS.icmpNo X0.here hx rfl (hb hby d1_15) rfl (flt hc15).1 k)
      show own_G p.tables e below _ _ (s₁.setTop (mkF m 18 #[.val (.int p0)] []))
      refine own_st ?_ (fun t k => XS.iloadN X0.here hx rfl (hb hby d1_18) rfl k)
      show own_G p.tables e below _ _ (s₁.setTop (mkF m 19 #[.val (.int p0)] [(.int p0)]))
      refine own_st ?_ (fun t k => XS.bipush X0.here hx rfl (hb hby d1_19) k)
      show own_G p.tables e below _ _ (s₁.setTop (mkF m 21 #[.val (.int p0)] [(.int (90 : Int32)), (.int p0)]))
      by_cases hc21 : (90 : Int32) < p0
      · refine own_st ?_ (fun t k => XS.icmpYes X0.here hx rfl (pc0 := 21) (pc' := 28) rfl (hb hby d1_21) rfl (tlt hc21).2.2.1 (by decide) (by decide) k)
        show own_G p.tables e below _ _ (s₁.setTop (mkF m 28 #[.val (.int p0)] []))
        refine own_st ?_ (fun t k => XS.iconst X0.here hx rfl (hb hby d1_28) k)
        show own_G p.tables e below _ _ (s₁.setTop (mkF m 29 #[.val (.int p0)] [(.int (0 : Int32))]))
        refine own_retN X0 hx hlk (t := .boolean) hret (by simp) (hb hby d1_29) (by decide) (by decide) (z' := (0 : Int32)) rfl ⟨?_, N0, e0⟩
        rw [show f1 p0  = (0 : Int32) from (if_pos hc3).trans ((if_neg hc15).trans ((if_pos hc21).trans (rfl)))]
      · refine own_st ?_ (fun t k => XS.icmpNo X0.here hx rfl (hb hby d1_21) rfl (flt hc21).2.2.1 k)
        show own_G p.tables e below _ _ (s₁.setTop (mkF m 24 #[.val (.int p0)] []))
        refine own_st ?_ (fun t k => XS.iconst X0.here hx rfl (hb hby d1_24) k)
        show own_G p.tables e below _ _ (s₁.setTop (mkF m 25 #[.val (.int p0)] [(.int (1 : Int32))]))
        refine own_st ?_ (fun t k => XS.goto X0.here hx rfl (pc0 := 25) (pc' := 29) rfl (hb hby d1_25) (by decide) (by decide) k)
        show own_G p.tables e below _ _ (s₁.setTop (mkF m 29 #[.val (.int p0)] [(.int (1 : Int32))]))
        refine own_retN X0 hx hlk (t := .boolean) hret (by simp) (hb hby d1_29) (by decide) (by decide) (z' := (1 : Int32)) rfl ⟨?_, N0, e0⟩
        rw [show f1 p0  = (1 : Int32) from (if_pos hc3).trans ((if_neg hc15).trans ((if_neg hc21).trans (rfl)))]
  · refine own_st ?_ (fun t k => XS.icmpNo X0.here hx rfl (hb hby d1_3) rfl (flt hc3).1 k)
    show own_G p.tables e below _ _ (s₁.setTop (mkF m 6 #[.val (.int p0)] []))
    refine own_st ?_ (fun t k => XS.iloadN X0.here hx rfl (hb hby d1_6) rfl k)
    show own_G p.tables e below _ _ (s₁.setTop (mkF m 7 #[.val (.int p0)] [(.int p0)]))
    refine own_st ?_ (fun t k => XS.bipush X0.here hx rfl (hb hby d1_7) k)
    show own_G p.tables e below _ _ (s₁.setTop (mkF m 9 #[.val (.int p0)] [(.int (122 : Int32)), (.int p0)]))
    by_cases hc9 : (122 : Int32) < p0
    · refine own_st ?_ (fun t k => XS.icmpNo X0.here hx rfl (hb hby d1_9) rfl (tlt hc9).2.2.2 k)
      show own_G p.tables e below _ _ (s₁.setTop (mkF m 12 #[.val (.int p0)] []))
      refine own_st ?_ (fun t k => XS.iloadN X0.here hx rfl (hb hby d1_12) rfl k)
      show own_G p.tables e below _ _ (s₁.setTop (mkF m 13 #[.val (.int p0)] [(.int p0)]))
      refine own_st ?_ (fun t k => XS.bipush X0.here hx rfl (hb hby d1_13) k)
      show own_G p.tables e below _ _ (s₁.setTop (mkF m 15 #[.val (.int p0)] [(.int (65 : Int32)), (.int p0)]))
      by_cases hc15 : p0 < (65 : Int32)
      · refine own_st ?_ (fun t k => XS.icmpYes X0.here hx rfl (pc0 := 15) (pc' := 28) rfl (hb hby d1_15) rfl (tlt hc15).1 (by decide) (by decide) k)
        show own_G p.tables e below _ _ (s₁.setTop (mkF m 28 #[.val (.int p0)] []))
        refine own_st ?_ (fun t k => XS.iconst X0.here hx rfl (hb hby d1_28) k)
        show own_G p.tables e below _ _ (s₁.setTop (mkF m 29 #[.val (.int p0)] [(.int (0 : Int32))]))
        refine own_retN X0 hx hlk (t := .boolean) hret (by simp) (hb hby d1_29) (by decide) (by decide) (z' := (0 : Int32)) rfl ⟨?_, N0, e0⟩
        rw [show f1 p0  = (0 : Int32) from (if_neg hc3).trans ((if_pos hc9).trans ((if_pos hc15).trans (rfl)))]
      · refine own_st ?_ (fun t k => XS.icmpNo X0.here hx rfl (hb hby d1_15) rfl (flt hc15).1 k)
        show own_G p.tables e below _ _ (s₁.setTop (mkF m 18 #[.val (.int p0)] []))
        refine own_st ?_ (fun t k => XS.iloadN X0.here hx rfl (hb hby d1_18) rfl k)
        show own_G p.tables e below _ _ (s₁.setTop (mkF m 19 #[.val (.int p0)] [(.int p0)]))
        refine own_st ?_ (fun t k => XS.bipush X0.here hx rfl (hb hby d1_19) k)
        show own_G p.tables e below _ _ (s₁.setTop (mkF m 21 #[.val (.int p0)] [(.int (90 : Int32)), (.int p0)]))
        by_cases hc21 : (90 : Int32) < p0
        · refine own_st ?_ (fun t k => XS.icmpYes X0.here hx rfl (pc0 := 21) (pc' := 28) rfl (hb hby d1_21) rfl (tlt hc21).2.2.1 (by decide) (by decide) k)
          show own_G p.tables e below _ _ (s₁.setTop (mkF m 28 #[.val (.int p0)] []))
          refine own_st ?_ (fun t k => XS.iconst X0.here hx rfl (hb hby d1_28) k)
          show own_G p.tables e below _ _ (s₁.setTop (mkF m 29 #[.val (.int p0)] [(.int (0 : Int32))]))
          refine own_retN X0 hx hlk (t := .boolean) hret (by simp) (hb hby d1_29) (by decide) (by decide) (z' := (0 : Int32)) rfl ⟨?_, N0, e0⟩
          rw [show f1 p0  = (0 : Int32) from (if_neg hc3).trans ((if_pos hc9).trans ((if_neg hc15).trans ((if_pos hc21).trans (rfl))))]
        · refine own_st ?_ (fun t k => XS.icmpNo X0.here hx rfl (hb hby d1_21) rfl (flt hc21).2.2.1 k)
          show own_G p.tables e below _ _ (s₁.setTop (mkF m 24 #[.val (.int p0)] []))
          refine own_st ?_ (fun t k => XS.iconst X0.here hx rfl (hb hby d1_24) k)
          show own_G p.tables e below _ _ (s₁.setTop (mkF m 25 #[.val (.int p0)] [(.int (1 : Int32))]))
          refine own_st ?_ (fun t k => XS.goto X0.here hx rfl (pc0 := 25) (pc' := 29) rfl (hb hby d1_25) (by decide) (by decide) k)
          show own_G p.tables e below _ _ (s₁.setTop (mkF m 29 #[.val (.int p0)] [(.int (1 : Int32))]))
          refine own_retN X0 hx hlk (t := .boolean) hret (by simp) (hb hby d1_29) (by decide) (by decide) (z' := (1 : Int32)) rfl ⟨?_, N0, e0⟩
          rw [show f1 p0  = (1 : Int32) from (if_neg hc3).trans ((if_pos hc9).trans ((if_neg hc15).trans ((if_neg hc21).trans (rfl))))]
    · refine own_st ?_ (fun t k => XS.icmpYes X0.here hx rfl (pc0 := 9) (pc' := 24) rfl (hb hby d1_9) rfl (flt hc9).2.2.2 (by decide) (by decide) k)
      show own_G p.tables e below _ _ (s₁.setTop (mkF m 24 #[.val (.int p0)] []))
      refine own_st ?_ (fun t k => XS.iconst X0.here hx rfl (hb hby d1_24) k)
      show own_G p.tables e below _ _ (s₁.setTop (mkF m 25 #[.val (.int p0)] [(.int (1 : Int32))]))
      refine own_st ?_ (fun t k => XS.goto X0.here hx rfl (pc0 := 25) (pc' := 29) rfl (hb hby d1_25) (by decide) (by decide) k)
      show own_G p.tables e below _ _ (s₁.setTop (mkF m 29 #[.val (.int p0)] [(.int (1 : Int32))]))
      refine own_retN X0 hx hlk (t := .boolean) hret (by simp) (hb hby d1_29) (by decide) (by decide) (z' := (1 : Int32)) rfl ⟨?_, N0, e0⟩
      rw [show f1 p0  = (1 : Int32) from (if_neg hc3).trans ((if_neg hc9).trans (rfl))]
theorem pd_0 : parseMethodDescriptor "(C)Z" = some ⟨[.char], some .boolean⟩ := by decide +kernel
def f0 (p0 : Int32) : Int32 := (if (((p0 &&& (65535 : Int32)).toUInt32.toUInt16.toUInt32.toInt32) ||| (32 : Int32)) < (97 : Int32) then (if (f1 ((p0 &&& (65535 : Int32)).toUInt32.toUInt16.toUInt32.toInt32)) = (0 : Int32) then (1 : Int32) else (0 : Int32)) else (if (122 : Int32) < (((p0 &&& (65535 : Int32)).toUInt32.toUInt16.toUInt32.toInt32) ||| (32 : Int32)) then (if (f1 ((p0 &&& (65535 : Int32)).toUInt32.toUInt16.toUInt32.toInt32)) = (0 : Int32) then (1 : Int32) else (0 : Int32)) else (if (f1 ((p0 &&& (65535 : Int32)).toUInt32.toUInt16.toUInt32.toInt32)) = (1 : Int32) then (1 : Int32) else (0 : Int32))))
theorem pn_0 : plainName "org/entitle/licences/LicenceUrlsIsAsciiLetterPinLaw" = true := by first | (simp [plainName, overriddenIn]; done) | decide +kernel
theorem ef_0 (m : MethodId) (p0 : Int32) : entryFrame m #[(.int p0)] maxLocals = mkF m 0 #[.val (.int p0), .unset, .unset, .unset] [] := by first | (simp [entryFrame, mkF, argsToLocals, Value.category, maxLocals]; done) | rfl
set_option maxRecDepth 65536 in
set_option maxHeartbeats 40000000 in
theorem rm0 (l : Launch) (Z : State) (a0 : Array Value) (hw : ∀ d ∈ tables_1, d.before a0 Z = true) (ws : List Jvm.Cond) (p0 : Int32) (h0 : Heap) (n0 : Nat) (Z0 : n0 ≤ h0.size) :
    MetFree l x (head1 (Jvm.Cond.code x code maxLocals ret :: ws) room_1) (fun a U => a = #[(.int p0)] ∧ Z.Warmed39 U.vm ∧ U.heap = h0) (fun _ _ _ _ _ => True) (fun _ U o U' => ∃ v L, o = .returned v ∧ own_QV (.int (f0 p0 )) h0 n0 v U'.heap L ∧ FrameEnd U o U' L room_1.cells room_1.slots) := by
  refine MetFree.of_bodySF (plainFor_of_name pn_0) hisR ?_
  intro p e s m args below meth c s₁ Bd hml0 hP hK
  obtain ⟨rfl, hZ, hh⟩ := hP
  have hx := Bd.exec
  have hby := Bd.bytes
  have hlk : meth.locks = false := BodyLoose.notSynchronized Bd
  have hret := Bd.returns
  have hml : c.maxLocals = 4 := hml0
  have hown : s.vm.findClass "org/entitle/licences/LicenceUrlsIsAsciiLetterPinLaw" = some m.cls := findClass_of_methodNamed Bd.named
  have hnm := (name_of_methodNamed Bd.named Bd.method).1
  have X0 : Stand p l e room_1 s m #[(.int p0)] below meth c s₁ [] 0 0 := Stand.of_body Bd
  have e0 : s₁.heap = h0 := by rw [← hh, Bd.state]; rfl
  have N0 := Fr.nil n0
  show own_G p.tables e below (own_E s room_1.cells room_1.slots) (own_QV (.int (f0 p0 )) h0 n0) (s₁.setTop (entryFrame m #[(.int p0)] maxLocals))
  refine own_st ?_ (fun t k => castTop (ef_0 m p0) k)
  show own_G p.tables e below _ _ (s₁.setTop (mkF m 0 #[.val (.int p0), .unset, .unset, .unset] []))
  refine own_st ?_ (fun t k => XS.iloadN X0.here hx rfl (hb hby at_0) rfl k)
  show own_G p.tables e below _ _ (s₁.setTop (mkF m 1 #[.val (.int p0), .unset, .unset, .unset] [(.int p0)]))
  refine own_st ?_ (X0.ldcInt hx hown (mvT hZ (hw _ (List.mem_of_getElem? (i := 0) rfl))) (g := (mkF m 1 #[.val (.int p0), .unset, .unset, .unset] [(.int p0)])) rfl (hb hby at_1))
  show own_G p.tables e below _ _ (s₁.setTop (mkF m 3 #[.val (.int p0), .unset, .unset, .unset] [(.int (65535 : Int32)), (.int p0)]))
  refine own_st ?_ (fun t k => XS.iand X0.here hx rfl (hb hby at_3) rfl k)
  show own_G p.tables e below _ _ (s₁.setTop (mkF m 4 #[.val (.int p0), .unset, .unset, .unset] [(.int (p0 &&& (65535 : Int32)))]))
  refine own_st ?_ (fun t k => XS.i2c X0.here hx rfl (hb hby at_4) rfl k)
  show own_G p.tables e below _ _ (s₁.setTop (mkF m 5 #[.val (.int p0), .unset, .unset, .unset] [(.int ((p0 &&& (65535 : Int32)).toUInt32.toUInt16.toUInt32.toInt32))]))
  refine own_st ?_ (fun t k => XS.istoreN X0.here hx rfl (hb hby at_5) rfl (l' := #[.val (.int p0), .val (.int ((p0 &&& (65535 : Int32)).toUInt32.toUInt16.toUInt32.toInt32)), .unset, .unset]) rfl k)
  show own_G p.tables e below _ _ (s₁.setTop (mkF m 6 #[.val (.int p0), .val (.int ((p0 &&& (65535 : Int32)).toUInt32.toUInt16.toUInt32.toInt32)), .unset, .unset] []))
  refine own_st ?_ (fun t k => XS.iloadN X0.here hx rfl (hb hby at_6) rfl k)
  show own_G p.tables e below _ _ (s₁.setTop (mkF m 7 #[.val (.int p0), .val (.int ((p0 &&& (65535 : Int32)).toUInt32.toUInt16.toUInt32.toInt32)), .unset, .unset] [(.int ((p0 &&& (65535 : Int32)).toUInt32.toUInt16.toUInt32.toInt32))]))
  refine own_st ?_ (fun t k => XS.bipush X0.here hx rfl (hb hby at_7) k)
  show own_G p.tables e below _ _ (s₁.setTop (mkF m 9 #[.val (.int p0), .val (.int ((p0 &&& (65535 : Int32)).toUInt32.toUInt16.toUInt32.toInt32)), .unset, .unset] [(.int (32 : Int32)), (.int ((p0 &&& (65535 : Int32)).toUInt32.toUInt16.toUInt32.toInt32))]))
  refine own_st ?_ (fun t k => XS.ior X0.here hx rfl (hb hby at_9) rfl k)
  show own_G p.tables e below _ _ (s₁.setTop (mkF m 10 #[.val (.int p0), .val (.int ((p0 &&& (65535 : Int32)).toUInt32.toUInt16.toUInt32.toInt32)), .unset, .unset] [(.int (((p0 &&& (65535 : Int32)).toUInt32.toUInt16.toUInt32.toInt32) ||| (32 : Int32)))]))
  refine own_st ?_ (fun t k => XS.istoreN X0.here hx rfl (hb hby at_10) rfl (l' := #[.val (.int p0), .val (.int ((p0 &&& (65535 : Int32)).toUInt32.toUInt16.toUInt32.toInt32)), .val (.int (((p0 &&& (65535 : Int32)).toUInt32.toUInt16.toUInt32.toInt32) ||| (32 : Int32))), .unset]) rfl k)
  show own_G p.tables e below _ _ (s₁.setTop (mkF m 11 #[.val (.int p0), .val (.int ((p0 &&& (65535 : Int32)).toUInt32.toUInt16.toUInt32.toInt32)), .val (.int (((p0 &&& (65535 : Int32)).toUInt32.toUInt16.toUInt32.toInt32) ||| (32 : Int32))), .unset] []))
  refine own_st ?_ (fun t k => XS.iloadN X0.here hx rfl (hb hby at_11) rfl k)
  show own_G p.tables e below _ _ (s₁.setTop (mkF m 12 #[.val (.int p0), .val (.int ((p0 &&& (65535 : Int32)).toUInt32.toUInt16.toUInt32.toInt32)), .val (.int (((p0 &&& (65535 : Int32)).toUInt32.toUInt16.toUInt32.toInt32) ||| (32 : Int32))), .unset] [(.int (((p0 &&& (65535 : Int32)).toUInt32.toUInt16.toUInt32.toInt32) ||| (32 : Int32)))]))
  refine own_st ?_ (fun t k => XS.bipush X0.here hx rfl (hb hby at_12) k)
  show own_G p.tables e below _ _ (s₁.setTop (mkF m 14 #[.val (.int p0), .val (.int ((p0 &&& (65535 : Int32)).toUInt32.toUInt16.toUInt32.toInt32)), .val (.int (((p0 &&& (65535 : Int32)).toUInt32.toUInt16.toUInt32.toInt32) ||| (32 : Int32))), .unset] [(.int (97 : Int32)), (.int (((p0 &&& (65535 : Int32)).toUInt32.toUInt16.toUInt32.toInt32) ||| (32 : Int32)))]))
  by_cases hc14 : (((p0 &&& (65535 : Int32)).toUInt32.toUInt16.toUInt32.toInt32) ||| (32 : Int32)) < (97 : Int32)
  · refine own_st ?_ (fun t k => XS.icmpYes X0.here hx rfl (pc0 := 14) (pc' := 27) rfl (hb hby at_14) rfl (tlt hc14).1 (by decide) (by decide) k)
    show own_G p.tables e below _ _ (s₁.setTop (mkF m 27 #[.val (.int p0), .val (.int ((p0 &&& (65535 : Int32)).toUInt32.toUInt16.toUInt32.toInt32)), .val (.int (((p0 &&& (65535 : Int32)).toUInt32.toUInt16.toUInt32.toInt32) ||| (32 : Int32))), .unset] []))
    refine own_st ?_ (fun t k => XS.iconst X0.here hx rfl (hb hby at_27) k)
    show own_G p.tables e below _ _ (s₁.setTop (mkF m 28 #[.val (.int p0), .val (.int ((p0 &&& (65535 : Int32)).toUInt32.toUInt16.toUInt32.toInt32)), .val (.int (((p0 &&& (65535 : Int32)).toUInt32.toUInt16.toUInt32.toInt32) ||| (32 : Int32))), .unset] [(.int (0 : Int32))]))
    refine own_st ?_ (fun t k => XS.istoreN X0.here hx rfl (hb hby at_28) rfl (l' := #[.val (.int p0), .val (.int ((p0 &&& (65535 : Int32)).toUInt32.toUInt16.toUInt32.toInt32)), .val (.int (((p0 &&& (65535 : Int32)).toUInt32.toUInt16.toUInt32.toInt32) ||| (32 : Int32))), .val (.int (0 : Int32))]) rfl k)
    show own_G p.tables e below _ _ (s₁.setTop (mkF m 29 #[.val (.int p0), .val (.int ((p0 &&& (65535 : Int32)).toUInt32.toUInt16.toUInt32.toInt32)), .val (.int (((p0 &&& (65535 : Int32)).toUInt32.toUInt16.toUInt32.toInt32) ||| (32 : Int32))), .val (.int (0 : Int32))] []))
    refine own_st ?_ (fun t k => XS.iloadN X0.here hx rfl (hb hby at_29) rfl k)
    show own_G p.tables e below _ _ (s₁.setTop (mkF m 30 #[.val (.int p0), .val (.int ((p0 &&& (65535 : Int32)).toUInt32.toUInt16.toUInt32.toInt32)), .val (.int (((p0 &&& (65535 : Int32)).toUInt32.toUInt16.toUInt32.toInt32) ||| (32 : Int32))), .val (.int (0 : Int32))] [(.int ((p0 &&& (65535 : Int32)).toUInt32.toUInt16.toUInt32.toInt32))]))
    obtain ⟨_, _, ⟨T1, L1, k1, n1⟩, -, X1, ⟨Lc1, hQ1, l1, y1, z1⟩, st1⟩ := Jvm.LawKit.callS X0 hx (y := (⟨"org/entitle/licences/LicenceUrls", "isAsciiLetter", "(C)Z"⟩ : MethodName)) hown (mvT hZ (hw _ (List.mem_of_getElem? (i := 1) rfl))) (mvT hZ (hw _ (List.mem_of_getElem? (i := 2) rfl))) (mvT hZ (hw _ (List.mem_of_getElem? (i := 3) rfl))) (mvT hZ (hw _ (List.mem_of_getElem? (i := 4) rfl))) (by decide) (backOf (W := 0) (rm1 l Z _ hw [] ((p0 &&& (65535 : Int32)).toUInt32.toUInt16.toUInt32.toInt32)  h0 n0 Z0 ) hZ (hw _ (List.mem_of_getElem? (i := 4) rfl)) (hw _ (List.mem_of_getElem? (i := 3) rfl)) (by decide) (by decide)) (g := (mkF m 30 #[.val (.int p0), .val (.int ((p0 &&& (65535 : Int32)).toUInt32.toUInt16.toUInt32.toInt32)), .val (.int (((p0 &&& (65535 : Int32)).toUInt32.toUInt16.toUInt32.toInt32) ||| (32 : Int32))), .val (.int (0 : Int32))] [(.int ((p0 &&& (65535 : Int32)).toUInt32.toUInt16.toUInt32.toInt32))])) rfl (by rw [hml]; rfl) (argsL := [(.int ((p0 &&& (65535 : Int32)).toUInt32.toUInt16.toUInt32.toInt32))]) (rest := []) (lenOf pd_0 rfl) rfl (by show 2 * 0 + _ ≤ _; exact Nat.le_of_eq rfl) (hb hby at_30) (fun _ _ => ⟨rfl, e0, (by decide : 0 + 0 ≤ _), (by decide : 0 + 0 ≤ _)⟩)
    dsimp only [Pt.U, Pt.locs, Pt.cells, Pt.slots] at X1 l1 y1 z1 st1 hQ1
    subst l1 y1 z1
    obtain ⟨rfl, N1q, e1⟩ := hQ1
    have N1 := Fr.app N0 N1q
    refine own_st ?_ st1
    show own_G p.tables e below _ _ (T1.setTop (mkF m 33 #[.val (.int p0), .val (.int ((p0 &&& (65535 : Int32)).toUInt32.toUInt16.toUInt32.toInt32)), .val (.int (((p0 &&& (65535 : Int32)).toUInt32.toUInt16.toUInt32.toInt32) ||| (32 : Int32))), .val (.int (0 : Int32))] [(.int (f1 ((p0 &&& (65535 : Int32)).toUInt32.toUInt16.toUInt32.toInt32)))]))
    refine own_st ?_ (fun t k => XS.iloadN X1.here hx rfl (hb hby at_33) rfl k)
    show own_G p.tables e below _ _ (T1.setTop (mkF m 34 #[.val (.int p0), .val (.int ((p0 &&& (65535 : Int32)).toUInt32.toUInt16.toUInt32.toInt32)), .val (.int (((p0 &&& (65535 : Int32)).toUInt32.toUInt16.toUInt32.toInt32) ||| (32 : Int32))), .val (.int (0 : Int32))] [(.int (0 : Int32)), (.int (f1 ((p0 &&& (65535 : Int32)).toUInt32.toUInt16.toUInt32.toInt32)))]))
    by_cases hc34 : (f1 ((p0 &&& (65535 : Int32)).toUInt32.toUInt16.toUInt32.toInt32)) = (0 : Int32)
    · refine own_st ?_ (fun t k => XS.icmpNo X1.here hx rfl (hb hby at_34) rfl (teq hc34).2 k)
      show own_G p.tables e below _ _ (T1.setTop (mkF m 37 #[.val (.int p0), .val (.int ((p0 &&& (65535 : Int32)).toUInt32.toUInt16.toUInt32.toInt32)), .val (.int (((p0 &&& (65535 : Int32)).toUInt32.toUInt16.toUInt32.toInt32) ||| (32 : Int32))), .val (.int (0 : Int32))] []))
      refine own_st ?_ (fun t k => XS.iconst X1.here hx rfl (hb hby at_37) k)
      show own_G p.tables e below _ _ (T1.setTop (mkF m 38 #[.val (.int p0), .val (.int ((p0 &&& (65535 : Int32)).toUInt32.toUInt16.toUInt32.toInt32)), .val (.int (((p0 &&& (65535 : Int32)).toUInt32.toUInt16.toUInt32.toInt32) ||| (32 : Int32))), .val (.int (0 : Int32))] [(.int (1 : Int32))]))
      refine own_st ?_ (fun t k => XS.goto X1.here hx rfl (pc0 := 38) (pc' := 42) rfl (hb hby at_38) (by decide) (by decide) k)
      show own_G p.tables e below _ _ (T1.setTop (mkF m 42 #[.val (.int p0), .val (.int ((p0 &&& (65535 : Int32)).toUInt32.toUInt16.toUInt32.toInt32)), .val (.int (((p0 &&& (65535 : Int32)).toUInt32.toUInt16.toUInt32.toInt32) ||| (32 : Int32))), .val (.int (0 : Int32))] [(.int (1 : Int32))]))
      refine own_retN X1 hx hlk (t := .boolean) hret (by simp) (hb hby at_42) (by decide) (by decide) (z' := (1 : Int32)) rfl ⟨?_, N1, e1⟩
      rw [show f0 p0  = (1 : Int32) from (if_pos hc14).trans ((if_pos hc34).trans (rfl))]
    · refine own_st ?_ (fun t k => XS.icmpYes X1.here hx rfl (pc0 := 34) (pc' := 41) rfl (hb hby at_34) rfl (feq hc34).2 (by decide) (by decide) k)
      show own_G p.tables e below _ _ (T1.setTop (mkF m 41 #[.val (.int p0), .val (.int ((p0 &&& (65535 : Int32)).toUInt32.toUInt16.toUInt32.toInt32)), .val (.int (((p0 &&& (65535 : Int32)).toUInt32.toUInt16.toUInt32.toInt32) ||| (32 : Int32))), .val (.int (0 : Int32))] []))
      refine own_st ?_ (fun t k => XS.iconst X1.here hx rfl (hb hby at_41) k)
      show own_G p.tables e below _ _ (T1.setTop (mkF m 42 #[.val (.int p0), .val (.int ((p0 &&& (65535 : Int32)).toUInt32.toUInt16.toUInt32.toInt32)), .val (.int (((p0 &&& (65535 : Int32)).toUInt32.toUInt16.toUInt32.toInt32) ||| (32 : Int32))), .val (.int (0 : Int32))] [(.int (0 : Int32))]))
      refine own_retN X1 hx hlk (t := .boolean) hret (by simp) (hb hby at_42) (by decide) (by decide) (z' := (0 : Int32)) rfl ⟨?_, N1, e1⟩
      rw [show f0 p0  = (0 : Int32) from (if_pos hc14).trans ((if_neg hc34).trans (rfl))]
  · refine own_st ?_ (fun t k => XS.icmpNo X0.here hx rfl (hb hby at_14) rfl (flt hc14).1 k)
    show own_G p.tables e below _ _ (s₁.setTop (mkF m 17 #[.val (.int p0), .val (.int ((p0 &&& (65535 : Int32)).toUInt32.toUInt16.toUInt32.toInt32)), .val (.int (((p0 &&& (65535 : Int32)).toUInt32.toUInt16.toUInt32.toInt32) ||| (32 : Int32))), .unset] []))
    refine own_st ?_ (fun t k => XS.iloadN X0.here hx rfl (hb hby at_17) rfl k)
    show own_G p.tables e below _ _ (s₁.setTop (mkF m 18 #[.val (.int p0), .val (.int ((p0 &&& (65535 : Int32)).toUInt32.toUInt16.toUInt32.toInt32)), .val (.int (((p0 &&& (65535 : Int32)).toUInt32.toUInt16.toUInt32.toInt32) ||| (32 : Int32))), .unset] [(.int (((p0 &&& (65535 : Int32)).toUInt32.toUInt16.toUInt32.toInt32) ||| (32 : Int32)))]))
    refine own_st ?_ (fun t k => XS.bipush X0.here hx rfl (hb hby at_18) k)
    show own_G p.tables e below _ _ (s₁.setTop (mkF m 20 #[.val (.int p0), .val (.int ((p0 &&& (65535 : Int32)).toUInt32.toUInt16.toUInt32.toInt32)), .val (.int (((p0 &&& (65535 : Int32)).toUInt32.toUInt16.toUInt32.toInt32) ||| (32 : Int32))), .unset] [(.int (122 : Int32)), (.int (((p0 &&& (65535 : Int32)).toUInt32.toUInt16.toUInt32.toInt32) ||| (32 : Int32)))]))
    by_cases hc20 : (122 : Int32) < (((p0 &&& (65535 : Int32)).toUInt32.toUInt16.toUInt32.toInt32) ||| (32 : Int32))
    · refine own_st ?_ (fun t k => XS.icmpYes X0.here hx rfl (pc0 := 20) (pc' := 27) rfl (hb hby at_20) rfl (tlt hc20).2.2.1 (by decide) (by decide) k)
      show own_G p.tables e below _ _ (s₁.setTop (mkF m 27 #[.val (.int p0), .val (.int ((p0 &&& (65535 : Int32)).toUInt32.toUInt16.toUInt32.toInt32)), .val (.int (((p0 &&& (65535 : Int32)).toUInt32.toUInt16.toUInt32.toInt32) ||| (32 : Int32))), .unset] []))
      refine own_st ?_ (fun t k => XS.iconst X0.here hx rfl (hb hby at_27) k)
      show own_G p.tables e below _ _ (s₁.setTop (mkF m 28 #[.val (.int p0), .val (.int ((p0 &&& (65535 : Int32)).toUInt32.toUInt16.toUInt32.toInt32)), .val (.int (((p0 &&& (65535 : Int32)).toUInt32.toUInt16.toUInt32.toInt32) ||| (32 : Int32))), .unset] [(.int (0 : Int32))]))
      refine own_st ?_ (fun t k => XS.istoreN X0.here hx rfl (hb hby at_28) rfl (l' := #[.val (.int p0), .val (.int ((p0 &&& (65535 : Int32)).toUInt32.toUInt16.toUInt32.toInt32)), .val (.int (((p0 &&& (65535 : Int32)).toUInt32.toUInt16.toUInt32.toInt32) ||| (32 : Int32))), .val (.int (0 : Int32))]) rfl k)
      show own_G p.tables e below _ _ (s₁.setTop (mkF m 29 #[.val (.int p0), .val (.int ((p0 &&& (65535 : Int32)).toUInt32.toUInt16.toUInt32.toInt32)), .val (.int (((p0 &&& (65535 : Int32)).toUInt32.toUInt16.toUInt32.toInt32) ||| (32 : Int32))), .val (.int (0 : Int32))] []))
      refine own_st ?_ (fun t k => XS.iloadN X0.here hx rfl (hb hby at_29) rfl k)
      show own_G p.tables e below _ _ (s₁.setTop (mkF m 30 #[.val (.int p0), .val (.int ((p0 &&& (65535 : Int32)).toUInt32.toUInt16.toUInt32.toInt32)), .val (.int (((p0 &&& (65535 : Int32)).toUInt32.toUInt16.toUInt32.toInt32) ||| (32 : Int32))), .val (.int (0 : Int32))] [(.int ((p0 &&& (65535 : Int32)).toUInt32.toUInt16.toUInt32.toInt32))]))
      obtain ⟨_, _, ⟨T2, L2, k2, n2⟩, -, X2, ⟨Lc2, hQ2, l2, y2, z2⟩, st2⟩ := Jvm.LawKit.callS X0 hx (y := (⟨"org/entitle/licences/LicenceUrls", "isAsciiLetter", "(C)Z"⟩ : MethodName)) hown (mvT hZ (hw _ (List.mem_of_getElem? (i := 1) rfl))) (mvT hZ (hw _ (List.mem_of_getElem? (i := 2) rfl))) (mvT hZ (hw _ (List.mem_of_getElem? (i := 3) rfl))) (mvT hZ (hw _ (List.mem_of_getElem? (i := 4) rfl))) (by decide) (backOf (W := 0) (rm1 l Z _ hw [] ((p0 &&& (65535 : Int32)).toUInt32.toUInt16.toUInt32.toInt32)  h0 n0 Z0 ) hZ (hw _ (List.mem_of_getElem? (i := 4) rfl)) (hw _ (List.mem_of_getElem? (i := 3) rfl)) (by decide) (by decide)) (g := (mkF m 30 #[.val (.int p0), .val (.int ((p0 &&& (65535 : Int32)).toUInt32.toUInt16.toUInt32.toInt32)), .val (.int (((p0 &&& (65535 : Int32)).toUInt32.toUInt16.toUInt32.toInt32) ||| (32 : Int32))), .val (.int (0 : Int32))] [(.int ((p0 &&& (65535 : Int32)).toUInt32.toUInt16.toUInt32.toInt32))])) rfl (by rw [hml]; rfl) (argsL := [(.int ((p0 &&& (65535 : Int32)).toUInt32.toUInt16.toUInt32.toInt32))]) (rest := []) (lenOf pd_0 rfl) rfl (by show 2 * 0 + _ ≤ _; exact Nat.le_of_eq rfl) (hb hby at_30) (fun _ _ => ⟨rfl, e0, (by decide : 0 + 0 ≤ _), (by decide : 0 + 0 ≤ _)⟩)
      dsimp only [Pt.U, Pt.locs, Pt.cells, Pt.slots] at X2 l2 y2 z2 st2 hQ2
      subst l2 y2 z2
      obtain ⟨rfl, N2q, e2⟩ := hQ2
      have N2 := Fr.app N0 N2q
      refine own_st ?_ st2
      show own_G p.tables e below _ _ (T2.setTop (mkF m 33 #[.val (.int p0), .val (.int ((p0 &&& (65535 : Int32)).toUInt32.toUInt16.toUInt32.toInt32)), .val (.int (((p0 &&& (65535 : Int32)).toUInt32.toUInt16.toUInt32.toInt32) ||| (32 : Int32))), .val (.int (0 : Int32))] [(.int (f1 ((p0 &&& (65535 : Int32)).toUInt32.toUInt16.toUInt32.toInt32)))]))
      refine own_st ?_ (fun t k => XS.iloadN X2.here hx rfl (hb hby at_33) rfl k)
      show own_G p.tables e below _ _ (T2.setTop (mkF m 34 #[.val (.int p0), .val (.int ((p0 &&& (65535 : Int32)).toUInt32.toUInt16.toUInt32.toInt32)), .val (.int (((p0 &&& (65535 : Int32)).toUInt32.toUInt16.toUInt32.toInt32) ||| (32 : Int32))), .val (.int (0 : Int32))] [(.int (0 : Int32)), (.int (f1 ((p0 &&& (65535 : Int32)).toUInt32.toUInt16.toUInt32.toInt32)))]))
      by_cases hc34 : (f1 ((p0 &&& (65535 : Int32)).toUInt32.toUInt16.toUInt32.toInt32)) = (0 : Int32)
      · refine own_st ?_ (fun t k => XS.icmpNo X2.here hx rfl (hb hby at_34) rfl (teq hc34).2 k)
        show own_G p.tables e below _ _ (T2.setTop (mkF m 37 #[.val (.int p0), .val (.int ((p0 &&& (65535 : Int32)).toUInt32.toUInt16.toUInt32.toInt32)), .val (.int (((p0 &&& (65535 : Int32)).toUInt32.toUInt16.toUInt32.toInt32) ||| (32 : Int32))), .val (.int (0 : Int32))] []))
        refine own_st ?_ (fun t k => XS.iconst X2.here hx rfl (hb hby at_37) k)
        show own_G p.tables e below _ _ (T2.setTop (mkF m 38 #[.val (.int p0), .val (.int ((p0 &&& (65535 : Int32)).toUInt32.toUInt16.toUInt32.toInt32)), .val (.int (((p0 &&& (65535 : Int32)).toUInt32.toUInt16.toUInt32.toInt32) ||| (32 : Int32))), .val (.int (0 : Int32))] [(.int (1 : Int32))]))
        refine own_st ?_ (fun t k => XS.goto X2.here hx rfl (pc0 := 38) (pc' := 42) rfl (hb hby at_38) (by decide) (by decide) k)
        show own_G p.tables e below _ _ (T2.setTop (mkF m 42 #[.val (.int p0), .val (.int ((p0 &&& (65535 : Int32)).toUInt32.toUInt16.toUInt32.toInt32)), .val (.int (((p0 &&& (65535 : Int32)).toUInt32.toUInt16.toUInt32.toInt32) ||| (32 : Int32))), .val (.int (0 : Int32))] [(.int (1 : Int32))]))
        refine own_retN X2 hx hlk (t := .boolean) hret (by simp) (hb hby at_42) (by decide) (by decide) (z' := (1 : Int32)) rfl ⟨?_, N2, e2⟩
        rw [show f0 p0  = (1 : Int32) from (if_neg hc14).trans ((if_pos hc20).trans ((if_pos hc34).trans (rfl)))]
      · refine own_st ?_ (fun t k => XS.icmpYes X2.here hx rfl (pc0 := 34) (pc' := 41) rfl (hb hby at_34) rfl (feq hc34).2 (by decide) (by decide) k)
        show own_G p.tables e below _ _ (T2.setTop (mkF m 41 #[.val (.int p0), .val (.int ((p0 &&& (65535 : Int32)).toUInt32.toUInt16.toUInt32.toInt32)), .val (.int (((p0 &&& (65535 : Int32)).toUInt32.toUInt16.toUInt32.toInt32) ||| (32 : Int32))), .val (.int (0 : Int32))] []))
        refine own_st ?_ (fun t k => XS.iconst X2.here hx rfl (hb hby at_41) k)
        show own_G p.tables e below _ _ (T2.setTop (mkF m 42 #[.val (.int p0), .val (.int ((p0 &&& (65535 : Int32)).toUInt32.toUInt16.toUInt32.toInt32)), .val (.int (((p0 &&& (65535 : Int32)).toUInt32.toUInt16.toUInt32.toInt32) ||| (32 : Int32))), .val (.int (0 : Int32))] [(.int (0 : Int32))]))
        refine own_retN X2 hx hlk (t := .boolean) hret (by simp) (hb hby at_42) (by decide) (by decide) (z' := (0 : Int32)) rfl ⟨?_, N2, e2⟩
        rw [show f0 p0  = (0 : Int32) from (if_neg hc14).trans ((if_pos hc20).trans ((if_neg hc34).trans (rfl)))]
    · refine own_st ?_ (fun t k => XS.icmpNo X0.here hx rfl (hb hby at_20) rfl (flt hc20).2.2.1 k)
      show own_G p.tables e below _ _ (s₁.setTop (mkF m 23 #[.val (.int p0), .val (.int ((p0 &&& (65535 : Int32)).toUInt32.toUInt16.toUInt32.toInt32)), .val (.int (((p0 &&& (65535 : Int32)).toUInt32.toUInt16.toUInt32.toInt32) ||| (32 : Int32))), .unset] []))
      refine own_st ?_ (fun t k => XS.iconst X0.here hx rfl (hb hby at_23) k)
      show own_G p.tables e below _ _ (s₁.setTop (mkF m 24 #[.val (.int p0), .val (.int ((p0 &&& (65535 : Int32)).toUInt32.toUInt16.toUInt32.toInt32)), .val (.int (((p0 &&& (65535 : Int32)).toUInt32.toUInt16.toUInt32.toInt32) ||| (32 : Int32))), .unset] [(.int (1 : Int32))]))
      refine own_st ?_ (fun t k => XS.goto X0.here hx rfl (pc0 := 24) (pc' := 28) rfl (hb hby at_24) (by decide) (by decide) k)
      show own_G p.tables e below _ _ (s₁.setTop (mkF m 28 #[.val (.int p0), .val (.int ((p0 &&& (65535 : Int32)).toUInt32.toUInt16.toUInt32.toInt32)), .val (.int (((p0 &&& (65535 : Int32)).toUInt32.toUInt16.toUInt32.toInt32) ||| (32 : Int32))), .unset] [(.int (1 : Int32))]))
      refine own_st ?_ (fun t k => XS.istoreN X0.here hx rfl (hb hby at_28) rfl (l' := #[.val (.int p0), .val (.int ((p0 &&& (65535 : Int32)).toUInt32.toUInt16.toUInt32.toInt32)), .val (.int (((p0 &&& (65535 : Int32)).toUInt32.toUInt16.toUInt32.toInt32) ||| (32 : Int32))), .val (.int (1 : Int32))]) rfl k)
      show own_G p.tables e below _ _ (s₁.setTop (mkF m 29 #[.val (.int p0), .val (.int ((p0 &&& (65535 : Int32)).toUInt32.toUInt16.toUInt32.toInt32)), .val (.int (((p0 &&& (65535 : Int32)).toUInt32.toUInt16.toUInt32.toInt32) ||| (32 : Int32))), .val (.int (1 : Int32))] []))
      refine own_st ?_ (fun t k => XS.iloadN X0.here hx rfl (hb hby at_29) rfl k)
      show own_G p.tables e below _ _ (s₁.setTop (mkF m 30 #[.val (.int p0), .val (.int ((p0 &&& (65535 : Int32)).toUInt32.toUInt16.toUInt32.toInt32)), .val (.int (((p0 &&& (65535 : Int32)).toUInt32.toUInt16.toUInt32.toInt32) ||| (32 : Int32))), .val (.int (1 : Int32))] [(.int ((p0 &&& (65535 : Int32)).toUInt32.toUInt16.toUInt32.toInt32))]))
      obtain ⟨_, _, ⟨T3, L3, k3, n3⟩, -, X3, ⟨Lc3, hQ3, l3, y3, z3⟩, st3⟩ := Jvm.LawKit.callS X0 hx (y := (⟨"org/entitle/licences/LicenceUrls", "isAsciiLetter", "(C)Z"⟩ : MethodName)) hown (mvT hZ (hw _ (List.mem_of_getElem? (i := 1) rfl))) (mvT hZ (hw _ (List.mem_of_getElem? (i := 2) rfl))) (mvT hZ (hw _ (List.mem_of_getElem? (i := 3) rfl))) (mvT hZ (hw _ (List.mem_of_getElem? (i := 4) rfl))) (by decide) (backOf (W := 0) (rm1 l Z _ hw [] ((p0 &&& (65535 : Int32)).toUInt32.toUInt16.toUInt32.toInt32)  h0 n0 Z0 ) hZ (hw _ (List.mem_of_getElem? (i := 4) rfl)) (hw _ (List.mem_of_getElem? (i := 3) rfl)) (by decide) (by decide)) (g := (mkF m 30 #[.val (.int p0), .val (.int ((p0 &&& (65535 : Int32)).toUInt32.toUInt16.toUInt32.toInt32)), .val (.int (((p0 &&& (65535 : Int32)).toUInt32.toUInt16.toUInt32.toInt32) ||| (32 : Int32))), .val (.int (1 : Int32))] [(.int ((p0 &&& (65535 : Int32)).toUInt32.toUInt16.toUInt32.toInt32))])) rfl (by rw [hml]; rfl) (argsL := [(.int ((p0 &&& (65535 : Int32)).toUInt32.toUInt16.toUInt32.toInt32))]) (rest := []) (lenOf pd_0 rfl) rfl (by show 2 * 0 + _ ≤ _; exact Nat.le_of_eq rfl) (hb hby at_30) (fun _ _ => ⟨rfl, e0, (by decide : 0 + 0 ≤ _), (by decide : 0 + 0 ≤ _)⟩)
      dsimp only [Pt.U, Pt.locs, Pt.cells, Pt.slots] at X3 l3 y3 z3 st3 hQ3
      subst l3 y3 z3
      obtain ⟨rfl, N3q, e3⟩ := hQ3
      have N3 := Fr.app N0 N3q
      refine own_st ?_ st3
      show own_G p.tables e below _ _ (T3.setTop (mkF m 33 #[.val (.int p0), .val (.int ((p0 &&& (65535 : Int32)).toUInt32.toUInt16.toUInt32.toInt32)), .val (.int (((p0 &&& (65535 : Int32)).toUInt32.toUInt16.toUInt32.toInt32) ||| (32 : Int32))), .val (.int (1 : Int32))] [(.int (f1 ((p0 &&& (65535 : Int32)).toUInt32.toUInt16.toUInt32.toInt32)))]))
      refine own_st ?_ (fun t k => XS.iloadN X3.here hx rfl (hb hby at_33) rfl k)
      show own_G p.tables e below _ _ (T3.setTop (mkF m 34 #[.val (.int p0), .val (.int ((p0 &&& (65535 : Int32)).toUInt32.toUInt16.toUInt32.toInt32)), .val (.int (((p0 &&& (65535 : Int32)).toUInt32.toUInt16.toUInt32.toInt32) ||| (32 : Int32))), .val (.int (1 : Int32))] [(.int (1 : Int32)), (.int (f1 ((p0 &&& (65535 : Int32)).toUInt32.toUInt16.toUInt32.toInt32)))]))
      by_cases hc34 : (f1 ((p0 &&& (65535 : Int32)).toUInt32.toUInt16.toUInt32.toInt32)) = (1 : Int32)
      · refine own_st ?_ (fun t k => XS.icmpNo X3.here hx rfl (hb hby at_34) rfl (teq hc34).2 k)
        show own_G p.tables e below _ _ (T3.setTop (mkF m 37 #[.val (.int p0), .val (.int ((p0 &&& (65535 : Int32)).toUInt32.toUInt16.toUInt32.toInt32)), .val (.int (((p0 &&& (65535 : Int32)).toUInt32.toUInt16.toUInt32.toInt32) ||| (32 : Int32))), .val (.int (1 : Int32))] []))
        refine own_st ?_ (fun t k => XS.iconst X3.here hx rfl (hb hby at_37) k)
        show own_G p.tables e below _ _ (T3.setTop (mkF m 38 #[.val (.int p0), .val (.int ((p0 &&& (65535 : Int32)).toUInt32.toUInt16.toUInt32.toInt32)), .val (.int (((p0 &&& (65535 : Int32)).toUInt32.toUInt16.toUInt32.toInt32) ||| (32 : Int32))), .val (.int (1 : Int32))] [(.int (1 : Int32))]))
        refine own_st ?_ (fun t k => XS.goto X3.here hx rfl (pc0 := 38) (pc' := 42) rfl (hb hby at_38) (by decide) (by decide) k)
        show own_G p.tables e below _ _ (T3.setTop (mkF m 42 #[.val (.int p0), .val (.int ((p0 &&& (65535 : Int32)).toUInt32.toUInt16.toUInt32.toInt32)), .val (.int (((p0 &&& (65535 : Int32)).toUInt32.toUInt16.toUInt32.toInt32) ||| (32 : Int32))), .val (.int (1 : Int32))] [(.int (1 : Int32))]))
        refine own_retN X3 hx hlk (t := .boolean) hret (by simp) (hb hby at_42) (by decide) (by decide) (z' := (1 : Int32)) rfl ⟨?_, N3, e3⟩
        rw [show f0 p0  = (1 : Int32) from (if_neg hc14).trans ((if_neg hc20).trans ((if_pos hc34).trans (rfl)))]
      · refine own_st ?_ (fun t k => XS.icmpYes X3.here hx rfl (pc0 := 34) (pc' := 41) rfl (hb hby at_34) rfl (feq hc34).2 (by decide) (by decide) k)
        show own_G p.tables e below _ _ (T3.setTop (mkF m 41 #[.val (.int p0), .val (.int ((p0 &&& (65535 : Int32)).toUInt32.toUInt16.toUInt32.toInt32)), .val (.int (((p0 &&& (65535 : Int32)).toUInt32.toUInt16.toUInt32.toInt32) ||| (32 : Int32))), .val (.int (1 : Int32))] []))
        refine own_st ?_ (fun t k => XS.iconst X3.here hx rfl (hb hby at_41) k)
        show own_G p.tables e below _ _ (T3.setTop (mkF m 42 #[.val (.int p0), .val (.int ((p0 &&& (65535 : Int32)).toUInt32.toUInt16.toUInt32.toInt32)), .val (.int (((p0 &&& (65535 : Int32)).toUInt32.toUInt16.toUInt32.toInt32) ||| (32 : Int32))), .val (.int (1 : Int32))] [(.int (0 : Int32))]))
        refine own_retN X3 hx hlk (t := .boolean) hret (by simp) (hb hby at_42) (by decide) (by decide) (z' := (0 : Int32)) rfl ⟨?_, N3, e3⟩
        rw [show f0 p0  = (0 : Int32) from (if_neg hc14).trans ((if_neg hc20).trans ((if_neg hc34).trans (rfl)))]
theorem own_char (x : Int32) : 0 ≤ (x.toUInt32.toUInt16.toUInt32.toInt32).toInt ∧ (x.toUInt32.toUInt16.toUInt32.toInt32).toInt ≤ 65535 := by
  have h := fits_nar_char x
  have e1 : (0 : Int32).toInt = 0 := by decide
  have e2 : (65535 : Int32).toInt = 65535 := by decide
  simp only [fits, Bool.and_eq_true, decide_eq_true_eq] at h
  rw [Int32.le_iff_toInt_le, Int32.le_iff_toInt_le, e1, e2] at h
  exact h
theorem own_small {n : Nat} {P : Int32 → Prop} (h : ∀ k : Fin n, P (Int32.ofInt (k.1 : Int))) (c : Int32) (h0 : 0 ≤ c.toInt) (h1 : c.toInt < n) : P c := by
  have e : c.toInt = ((c.toInt.toNat : Nat) : Int) := by omega
  have q := h ⟨c.toInt.toNat, by omega⟩
  rw [show (((⟨c.toInt.toNat, by omega⟩ : Fin n).1 : Nat) : Int) = c.toInt from e.symm, Int32.ofInt_toInt] at q
  exact q
theorem own_or (c : Int32) (h0 : 0 ≤ c.toInt) : c.toInt ≤ (c ||| 32).toInt := by
  have h1 := Jvm.Kit.i32_small_of_nonneg (m := c) (Jvm.Kit.i32_nonneg.mpr h0)
  have e : (c ||| 32).toBitVec.toNat = c.toBitVec.toNat ||| 32 := by simp
  have h2 : c.toBitVec.toNat ||| 32 < 2 ^ 31 := Nat.or_lt_two_pow (by omega) (by decide)
  rw [Jvm.Kit.i32_toInt_of_small h1, Jvm.Kit.i32_toInt_of_small (y := c ||| 32) (by rw [e]; omega), e]
  have := Nat.left_le_or (n := c.toBitVec.toNat) (m := 32)
  omega
def own_g (c : Int32) : Int32 := if c ||| 32 < 97 then (if f1 c = 0 then 1 else 0) else if 122 < c ||| 32 then (if f1 c = 0 then 1 else 0) else (if f1 c = 1 then 1 else 0)
theorem own_g1 (c : Int32) (h0 : 0 ≤ c.toInt) : own_g c = 1 := by
  by_cases h : c.toInt < 128
  · exact own_small (n := 128) (P := fun c => own_g c = 1) (by decide +kernel) c h0 h
  · have hq := own_or c h0
    have e1 : (97 : Int32).toInt = 97 := by decide
    have e2 : (122 : Int32).toInt = 122 := by decide
    have e3 : (65 : Int32).toInt = 65 := by decide
    have e4 : (90 : Int32).toInt = 90 := by decide
    have a1 : ¬ (c ||| 32) < 97 := by rw [Int32.lt_iff_toInt_lt, e1]; omega
    have a2 : 122 < (c ||| 32) := by rw [Int32.lt_iff_toInt_lt, e2]; omega
    have b1 : ¬ c < 97 := by rw [Int32.lt_iff_toInt_lt, e1]; omega
    have b2 : 122 < c := by rw [Int32.lt_iff_toInt_lt, e2]; omega
    have b3 : ¬ c < 65 := by rw [Int32.lt_iff_toInt_lt, e3]; omega
    have b4 : 90 < c := by rw [Int32.lt_iff_toInt_lt, e4]; omega
    have k : f1 c = 0 := by unfold f1; rw [if_neg b1, if_pos b2, if_neg b3, if_pos b4]
    unfold own_g; rw [if_neg a1, if_pos a2, if_pos k]
theorem own_law (p0 : Int32) : f0 p0 = 1 := own_g1 _ (own_char _).1
set_option maxRecDepth 65536 in
set_option maxHeartbeats 40000000 in
theorem comes_1 {Post : Tables → Env → Array Value → State → Outcome → State → Prop} (hpost : ∀ tb e args s v u, (limb_1_1.after args s (.returned v) u = true ∧ limb_1_2.after args s (.returned v) u = true ∧ True) → FrameEnd s (.returned v) u (Jvm.fieldLocs frame_1_writes args s ++ Jvm.arrayLocs frame_1_arrays args s ++ Jvm.staticLocs frame_1_statics s) 0 0 → Post tb e args s (.returned v) u) :
    ArmFor flags0 classFile x code maxLocals ret World_1 tables_1 room_1 Calls_1 rest_1 Pre_1 Post := by
  intro l hfl _ _ p e ha hc hk s m args below hf hA hF happ hP
  obtain ⟨hcalls, hrest, hpre⟩ := hP
  obtain ⟨-, -, -, hnamed, -, -, -, hat⟩ := (Spec.applies_iff hf).mp happ
  obtain ⟨hg, hn⟩ := and_e (Cond.before_iff.mp (show (Jvm.Cond.and given_1 narrow_1).before args s = true from hpre))
  obtain ⟨hcount, hgs0⟩ := and_e hg
  obtain ⟨w0, rfl⟩ : ∃ w0 : Value, args = #[w0] := by
    have hs : args.size = 1 := by simpa [Cond.value, given_1] using hcount
    obtain ⟨L⟩ := args
    match L, hs with
    | [w0], _ => exact ⟨w0, rfl⟩
  have hw := fun d (hd : d ∈ tables_1) => atoms_spec (ws := Jvm.Cond.code x code maxLocals ret :: tables_1) hat d (List.mem_cons_of_mem _ hd)
  have hv0 := hgs0
  obtain ⟨i0, ei0⟩ := is_v hv0
  obtain rfl : w0 = (.int i0) := Option.some.inj ei0
  obtain ⟨n, o, h1, h2, h3, _, L, rfl, ⟨rfl, N, -⟩, hq⟩ := rm0 l s _ hw tables_1 i0  s.heap s.heap.size (Nat.le_refl _)  p e ha hc hk s m _ below hf ((Spec.applies_iff_loose hf).mp happ).1 ⟨rfl, State.Warmed39.refl s, rfl⟩ trivial
  rw [own_law i0] at h3
  refine ⟨n, _, h1, h2, h3, hpost _ _ _ _ _ _ ⟨Cond.after_iff.mpr rfl, Cond.after_iff.mpr (eq_i res_at (Term.int_eval (1)) rfl), trivial⟩ ⟨⟨_, rfl⟩, hq.2.1, (hq.2.2.sift fun y hy => Or.inr (N y hy)).mono (by decide) (by decide)⟩⟩
theorem main_1_1 : Claimed_1_1 := comes_1 fun _ _ _ _ _ _ h hF => ⟨h.1, hF⟩
theorem main_1_2 : Claimed_1_2 := comes_1 fun _ _ _ _ _ _ h hF => ⟨h.2.1, hF⟩
end Jvm.Pilot.@@N@@
namespace Jvm.Pilot.@@N@@
open Jvm Jvm.ClassFile Sem Op Lib Jvm.Free Jvm.Stand Jvm.Pilot.@@N@@.Jvm.D
/-! MADE BY PROGRAM (witnessworld.py) out of the Statement's table words and the real class files: 9 classes; the members and pool entries that the words name. The judged class is class 1, her method 1. -/
namespace start1
open Jvm.ClassFile
def u (s : String) : CpInfo := .utf8 (stringToUtf16 s)
/-- a pool by its gaps: so many unusable entries, then the entry; so many at the end -/
def gap : Nat → List CpInfo → List CpInfo
  | 0, r => r
  | n + 1, r => .unusable :: gap n r
def poolList (es : List (Nat × CpInfo)) (last : Nat) : List CpInfo := es.foldr (fun e r => gap e.1 (e.2 :: r)) (gap last [])
def pool (es : List (Nat × CpInfo)) (last : Nat) : Array CpInfo := ⟨poolList es last⟩
def fileOf (pool : Array CpInfo) (this : Nat) (attrs : Array Attribute := #[]) (ms : Array MethodInfo := #[]) (fl : Nat := 33) (sup : Nat := 0) (ifs : Array Nat := #[]) (fds : Array FieldInfo := #[]) : ClassFile where
  minorVersion := 0
  majorVersion := 65
  constantPool := pool
  accessFlags := fl
  thisClass := this
  superClass := sup
  interfaces := ifs
  fields := fds
  methods := ms
  attributes := attrs
def plain (name : String) (sup : Option ClassId) : Class where
  name := name
  kind := .ordinary
  loader := none
  accessFlags := 33
  super := sup
  interfaces := #[]
  cf := none
  fields := #[]
  methods := #[]
  instanceTypes := #[]
  staticTypes := #[]
  resolved := #[]
  callSites := []
  init := .initialized
  statics := none
  mirror := none

def pool0 : Array CpInfo := pool [(5, u "<init>"), (0, u "()V"), (1, .class_ 10), (1, u "java/lang/Object")] 113

def k0m0 : Method := { name := "<init>", desc := "()V", sig := { parameters := [], returnType := none }, accessFlags := 1, code := none }
/-- java/lang/Object -/
def k0 : Class := { plain "java/lang/Object" none with
  accessFlags := 33
  interfaces := #[]
  cf := some (fileOf pool0 8 #[] #[{ accessFlags := 1, nameIndex := 5, descriptorIndex := 6, attributes := #[] }] 33 0 #[] #[])
  fields := #[]
  methods := #[k0m0]
  instanceTypes := #[]
  staticTypes := #[]
  resolved := Array.replicate 124 none
  statics := none }

def pool1 : Array CpInfo := pool [(2, .class_ 4), (1, u "java/lang/Object"), (0, u "<init>"), (0, u "()V"), (0, .integer 65535), (0, .methodref 9 10), (0, .class_ 11), (0, .nameAndType 12 13), (0, u "org/entitle/licences/LicenceUrls"), (0, u "isAsciiLetter"), (0, u "(C)Z"), (0, .class_ 15), (0, u "org/entitle/licences/LicenceUrlsIsAsciiLetterPinLaw"), (2, u "law"), (0, u "(I)Z")] 3

def k1m0 : Method := { name := "<init>", desc := "()V", sig := { parameters := [], returnType := none }, accessFlags := 2, code := none }
def k1c1 : Code := { maxStack := 2, maxLocals := 4, code := code, exceptionTable := #[], attributes := #[] }
def k1m1 : Method := { name := "law", desc := "(I)Z", sig := { parameters := [.int], returnType := some .boolean }, accessFlags := 9, code := some k1c1 }
/-- org/entitle/licences/LicenceUrlsIsAsciiLetterPinLaw -/
def k1 : Class := { plain "org/entitle/licences/LicenceUrlsIsAsciiLetterPinLaw" (some 0) with
  accessFlags := 49
  interfaces := #[]
  cf := some (fileOf pool1 14 #[] #[{ accessFlags := 2, nameIndex := 5, descriptorIndex := 6, attributes := #[] }, { accessFlags := 9, nameIndex := 18, descriptorIndex := 19, attributes := #[] }] 49 2 #[] #[])
  fields := #[]
  methods := #[k1m0, k1m1]
  instanceTypes := #[]
  staticTypes := #[]
  resolved := Array.replicate 23 none
  statics := none }

def pool2 : Array CpInfo := pool [(2, .class_ 4), (1, u "java/lang/Object"), (0, u "<init>"), (0, u "()V"), (1, .class_ 10), (1, u "org/entitle/licences/LicenceUrls"), (70, u "isAsciiLetter"), (0, u "(C)Z"), (16, u "SCHEME_SEPARATOR"), (0, u "Ljava/lang/String;")] 27

def k2m0 : Method := { name := "<init>", desc := "()V", sig := { parameters := [], returnType := none }, accessFlags := 2, code := none }
def k2c1 : Code := { maxStack := 2, maxLocals := 1, code := prog_60_method_8_code, exceptionTable := #[], attributes := #[] }
def k2m1 : Method := { name := "isAsciiLetter", desc := "(C)Z", sig := { parameters := [.char], returnType := some .boolean }, accessFlags := 8, code := some k2c1 }
/-- org/entitle/licences/LicenceUrls -/
def k2 : Class := { plain "org/entitle/licences/LicenceUrls" (some 0) with
  accessFlags := 49
  interfaces := #[]
  cf := some (fileOf pool2 8 #[] #[{ accessFlags := 2, nameIndex := 5, descriptorIndex := 6, attributes := #[] }, { accessFlags := 8, nameIndex := 81, descriptorIndex := 82, attributes := #[] }] 49 2 #[] #[{ accessFlags := 26, nameIndex := 99, descriptorIndex := 100, attributes := #[] }])
  fields := #[{ name := "SCHEME_SEPARATOR", type := (.object "java/lang/String"), accessFlags := 26, slot := 0, constantValue := 0 }]
  methods := #[k2m0, k2m1]
  instanceTypes := #[]
  staticTypes := #[(.object "java/lang/String")]
  resolved := Array.replicate 128 none
  statics := none }

def pool3 : Array CpInfo := pool [(1, u "java/lang/Cloneable"), (0, .class_ 1), (0, u "java/lang/Object"), (0, .class_ 3)] 3

/-- java/lang/Cloneable -/
def k3 : Class := { plain "java/lang/Cloneable" (some 0) with
  accessFlags := 1537
  interfaces := #[]
  cf := some (fileOf pool3 2 #[] #[] 1537 4 #[] #[])
  fields := #[]
  methods := #[]
  instanceTypes := #[]
  staticTypes := #[]
  resolved := Array.replicate 8 none
  statics := none }

def pool4 : Array CpInfo := pool [(1, u "java/io/Serializable"), (0, .class_ 1), (0, u "java/lang/Object"), (0, .class_ 3)] 3

/-- java/io/Serializable -/
def k4 : Class := { plain "java/io/Serializable" (some 0) with
  accessFlags := 1537
  interfaces := #[]
  cf := some (fileOf pool4 2 #[] #[] 1537 4 #[] #[])
  fields := #[]
  methods := #[]
  instanceTypes := #[]
  staticTypes := #[]
  resolved := Array.replicate 8 none
  statics := none }

/-- the primitive byte -/
def k5 : Class := { plain "byte" none with kind := .primitive 'B', accessFlags := 0x411 }
/-- [B -/
def k6 : Class := { plain "[B" (some 0) with kind := .array 5 .byte, interfaces := #[3, 4], accessFlags := 1041 }

/-- the primitive int -/
def k7 : Class := { plain "int" none with kind := .primitive 'I', accessFlags := 0x411 }
/-- [I -/
def k8 : Class := { plain "[I" (some 0) with kind := .array 7 .int, interfaces := #[3, 4], accessFlags := 1041 }

def heap : Heap := #[]
def classes : Array Class := #[k0, k1, k2, k3, k4, k5, k6, k7, k8]
def interned : List (Array UInt16 × Addr) := []
def slotsUsed : Nat := 0
def theMethod : MethodId := ⟨1, 1⟩
def args0 : Array Value := #[.int 65]
def aboutOver (below : List Frame) : State where
  vm := { classes := classes, interned := interned.toArray }
  heap := heap
  slotsUsed := slotsUsed
  threads := #[{ frames := .invoking theMethod args0 :: below }]
def below0 : List Frame := [.native { method := ⟨0, 0⟩, args := #[] }]
def about1 : State := aboutOver below0
def p0 : Program := .bare "" "" ""
def e0 : Env := launch0.env 0 0 0
theorem w_frames : about1.frames = Frame.invoking theMethod args0 :: below0 := rfl
set_option maxRecDepth 65536 in
theorem w_args : argsFit about1.vm theMethod args0 = true := by decide +kernel
set_option maxRecDepth 65536 in
theorem w_heap : heapFits about1 = true := by decide +kernel
set_option maxRecDepth 65536 in
theorem w_runnable : about1.curStatus? = some .runnable := by decide +kernel
set_option maxRecDepth 65536 in
theorem w_alone : about1.alone = true := by decide +kernel
set_option maxRecDepth 65536 in
theorem w_named : about1.methodNamed? x = some theMethod := by decide +kernel
set_option maxRecDepth 65536 in
theorem w_hears : about1.hears theMethod below0 = true := by decide +kernel
set_option maxRecDepth 65536 in
theorem w_ripe : about1.ripe theMethod args0 below0 = true := by decide +kernel
theorem w_running : about1.status = .running := rfl
set_option maxRecDepth 65536 in
theorem w_room : about1.hasRoom e0.platform room_1 = true :=
  launch0.hasRoom_least _ room_1 (by decide +kernel) (by decide +kernel) (by decide +kernel) (by decide +kernel) (by decide +kernel) (by decide +kernel)
theorem allAtoms_all (ts : List Jvm.Cond) (a : Array Jvm.Value) (st : Jvm.State) : (allAtoms ts).before a st = ts.all (fun c => c.before a st) := by
  induction ts with
  | nil => rfl
  | cons c t ih =>
    show (Jvm.Cond.and c (allAtoms t)).before a st = _
    rw [Jvm.Cond.before_and, ih, List.all_cons]
def words1 : List Jvm.Cond := Jvm.Cond.code x code maxLocals ret :: tables_1
/-- a 'code' word, met by the world's own term for the bytes: nothing is compared byte by byte -/
theorem code_word {y : MethodName} {bytes : ByteArray} {mx : Nat} {rt : Option FieldType} {a : Array Value} {s : State} {m : MethodId} {meth : Method} {c : Code} (h1 : s.methodNamed? y = some m) (h2 : s.vm.method? m = some meth) (h3 : meth.code = some c) (h4 : c.code = bytes)
    (h5 : (c.maxLocals == mx && c.exceptionTable.isEmpty && decide (c.maxStack ≤ mostOperands) && decide (meth.sig.returnType = rt) && !meth.locks && decide (parseMethodDescriptor y.desc = some meth.sig)) = true) : (Jvm.Cond.code y bytes mx rt).before a s = true := by
  simp only [Bool.and_eq_true, beq_iff_eq, Bool.not_eq_true', decide_eq_true_eq] at h5
  obtain ⟨⟨⟨⟨⟨g1, g2⟩, g3⟩, g4⟩, g5⟩, g6⟩ := h5
  simp [Cond.before, Cond.holds, Cond.value, h1, h2, h3, h4, g1, g2, g3, g4, g5, g6]
def isCode : Jvm.Cond → Bool
  | .code _ _ _ _ => true
  | _ => false
theorem all_split {L : List Jvm.Cond} {P : Jvm.Cond → Bool} (h1 : L.all (fun c => isCode c || P c) = true) (h2 : ∀ c ∈ L.filter isCode, P c = true) : L.all P = true := by
  refine List.all_eq_true.mpr fun c hc => ?_
  have h := List.all_eq_true.mp h1 c hc
  rcases Bool.eq_false_or_eq_true (isCode c) with hi | hi
  · exact h2 c (List.mem_filter.mpr ⟨hc, hi⟩)
  · simpa [hi] using h
set_option maxRecDepth 65536 in
theorem w_c0 : (Jvm.Cond.code x code maxLocals ret).before args0 about1 = true := code_word (m := ⟨1, 1⟩) (meth := k1m1) (c := k1c1) (by decide +kernel) rfl rfl rfl (by decide +kernel)
set_option maxRecDepth 65536 in
theorem w_c1 : (Jvm.Cond.code ({ cls := "org/entitle/licences/LicenceUrls", name := "isAsciiLetter", desc := "(C)Z" } : Jvm.MethodName) prog_60_method_8_code (1 : Nat) (Option.some Jvm.ClassFile.FieldType.boolean)).before args0 about1 = true := code_word (m := ⟨2, 1⟩) (meth := k2m1) (c := k2c1) (by decide +kernel) rfl rfl rfl (by decide +kernel)
def codes1 : List Jvm.Cond := [Jvm.Cond.code x code maxLocals ret, Jvm.Cond.code ({ cls := "org/entitle/licences/LicenceUrls", name := "isAsciiLetter", desc := "(C)Z" } : Jvm.MethodName) prog_60_method_8_code (1 : Nat) (Option.some Jvm.ClassFile.FieldType.boolean)]
set_option maxRecDepth 65536 in
theorem codes_eq : words1.filter isCode = codes1 := rfl
theorem w_codes : ∀ c ∈ words1.filter isCode, c.before args0 about1 = true := by
  rw [codes_eq]
  intro c hc
  simp only [codes1, List.mem_cons, List.not_mem_nil, or_false] at hc
  rcases hc with rfl | rfl
  · exact w_c0
  · exact w_c1
set_option maxRecDepth 65536 in
theorem w_t1 : words1.all (fun c => isCode c || c.before args0 about1) = true := by decide +kernel
theorem w_tables : (allAtoms (Jvm.Cond.code x code maxLocals ret :: tables_1)).before args0 about1 = true := by
  rw [allAtoms_all]
  show words1.all (fun c => c.before args0 about1) = true
  refine all_split ?_ w_codes
  rw [w_t1]
set_option maxRecDepth 65536 in
theorem w_case : (Jvm.Cond.and given_1 narrow_1).before args0 about1 = true := by decide +kernel
theorem w_applies : (headSpec (Jvm.Cond.code x code maxLocals ret :: tables_1) room_1).applies x e0.platform about1 = true :=
  (Spec.applies_iff w_frames).mpr ⟨w_running, w_runnable, w_alone, w_named, w_hears, w_ripe, w_room, w_tables⟩
theorem atStart : AtStart classFile x code maxLocals ret World_1 tables_1 room_1 Calls_1 rest_1 Pre_1 launch0 p0 e0 about1 theMethod args0 below0 :=
  ⟨lists_1, trivial, launch0.admits_env _ _ _, launch0.least_env, fairChoices_fair.cas, fairChoices_fair.clock, w_frames, w_args, w_heap, w_applies, trivial, trivial, w_case⟩
end start1
theorem witness_1 : WitnessClaimed_1 := ⟨start1.p0, start1.e0, start1.about1, start1.theMethod, start1.args0, start1.below0, start1.atStart⟩
end Jvm.Pilot.@@N@@
