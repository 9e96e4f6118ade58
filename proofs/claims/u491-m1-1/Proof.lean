import JvmDerived
import JvmDerived.Pilot.@@N@@Statement
import JvmDerived.Pilot.@@N@@Code
set_option linter.unusedVariables false
set_option linter.unusedSimpArgs false
namespace Jvm.Pilot.@@N@@
open Jvm Jvm.ClassFile Sem Op Lib Jvm.Free Jvm.Stand Jvm.LawKit Jvm.RoadKit Bundle Jvm.Pilot.@@N@@.Jvm.D
section OwnGo
variable {p : Program} {l : Launch} {e : Env} {R : Room} {s : State} {m : MethodId} {args : Array Value} {below : List Frame} {meth : Method} {c : Code} {T T' : State} {locs : List Loc} {cells slots : Nat} {g g' : JFrame} {F : State → Outcome → Prop} {Q : Option Value → Heap → List Loc → Prop} {ck sk : Nat}
/-- from this place the run ends, and F holds at the end -/
def Go (p : Program) (e : Env) (below : List Frame) (F : State → Outcome → Prop) (T : State) (g : JFrame) : Prop :=
  ∃ t o, Steps p.tables e below (T.setTop g) t ∧ t.status = .running ∧ Ended t below o ∧ F t o
def FinN (s : State) (Q : Option Value → Heap → List Loc → Prop) (ck sk : Nat) (t : State) (o : Outcome) : Prop :=
  ∃ v L, o = .returned v ∧ Q v t.heap L ∧ FrameEnd s o t L ck sk
theorem Go.by (h : ∀ target, Steps p.tables e below (T'.setTop g') target → Steps p.tables e below (T.setTop g) target) (k : Go p e below F T' g') : Go p e below F T g := by
  obtain ⟨t, o, h1, h2⟩ := k; exact ⟨t, o, h _ h1, h2⟩
theorem Go.call (h : Steps p.tables e below (T.setTop g) (T'.setTop g')) (k : Go p e below F T' g') : Go p e below F T g := by
  obtain ⟨t, o, h1, h2⟩ := k; exact ⟨t, o, h.trans h1, h2⟩
theorem Go.join (T' : State) (g' : JFrame) (h : Go p e below F T' g' → Go p e below F T g) (k : Go p e below F T' g') : Go p e below F T g := h k
theorem Go.done (X : Stand p l e R s m args below meth c T locs cells slots) {v : Option Value} (hv : meth.sig.returnType = none → v = none) (hlocks : meth.locks = false)
    (st : ∀ fs, (∀ (f : JFrame) (acts : List Action), f.method = m → f.locked = none → f.entered = [] → (doReturn e (T.setTop f) acts v).1 = T.setFrames fs) → Steps p.tables e below (T.setTop g) (T.setFrames fs))
    (hQ : Q v T.heap locs) (hc : cells ≤ ck) (hs : slots ≤ sk) : Go p e below (FinN s Q ck sk) T g := by
  obtain ⟨fs, hr, hrun, hended, hW, hsame⟩ := X.leave hv hlocks
  exact ⟨_, _, st fs hr, hrun, hended, v, locs, rfl, hQ, ⟨_, rfl⟩, hW, hsame.mono hc hs⟩
theorem Go.retZ (X : Stand p l e R s m args below meth c T locs cells slots) (hx : p.tables.exec = Jvm.exec) (hlocks : meth.locks = false) {pc : Nat} {Ls : Array Slot} {z : Int32} {t : FieldType} {rest : List Value} (hret : meth.sig.returnType = some t) (ht : t = .boolean ∨ t = .byte ∨ t = .char ∨ t = .short)
    (hd : decode c.code pc = .ok (.ireturn, 1)) (hQ : Q (some (.int (nar t z))) T.heap locs) (hc : cells ≤ ck) (hs : slots ≤ sk) : Go p e below (FinN s Q ck sk) T (mkF m pc Ls (.int z :: rest)) :=
  Go.done X (fun h => by rw [hret] at h; cases h) hlocks (fun fs hr => retN X hx hret ht hd hr) hQ hc hs
theorem Go.retO (X : Stand p l e R s m args below meth c T locs cells slots) (hx : p.tables.exec = Jvm.exec) (hlocks : meth.locks = false) {pc : Nat} {Ls : Array Slot} {w : Value} {t : FieldType} {i : Instr} {rest : List Value} (hret : meth.sig.returnType = some t) (hn : narrow t w = w)
    (hi : (i = .ireturn ∧ (t = .int ∨ t = .boolean ∨ t = .byte ∨ t = .char ∨ t = .short) ∧ ∃ z, w = .int z) ∨ (i = .lreturn ∧ t = .long ∧ ∃ z, w = .long z) ∨ (i = .dreturn ∧ t = .double ∧ ∃ z, w = .double z) ∨ (i = .freturn ∧ t = .float ∧ ∃ z, w = .float z) ∨ (i = .areturn ∧ t.isReference = true ∧ w.isRef = true))
    (hd : decode c.code pc = .ok (i, 1)) (hQ : Q (some w) T.heap locs) (hc : cells ≤ ck) (hs : slots ≤ sk) : Go p e below (FinN s Q ck sk) T (mkF m pc Ls (w :: rest)) :=
  Go.done X (fun h => by rw [hret] at h; cases h) hlocks (fun fs hr => retOut X hx hret hn hi hd hr) hQ hc hs
theorem Go.retI (X : Stand p l e R s m args below meth c T locs cells slots) (hx : p.tables.exec = Jvm.exec) (hlocks : meth.locks = false) {pc : Nat} {Ls : Array Slot} {z : Int32} {rest : List Value} (hret : meth.sig.returnType = some .int)
    (hd : decode c.code pc = .ok (.ireturn, 1)) (hQ : Q (some (.int z)) T.heap locs) (hc : cells ≤ ck) (hs : slots ≤ sk) : Go p e below (FinN s Q ck sk) T (mkF m pc Ls (.int z :: rest)) :=
  Go.retO X hx hlocks hret rfl (Or.inl ⟨rfl, Or.inl rfl, _, rfl⟩) hd hQ hc hs
theorem Go.retA (X : Stand p l e R s m args below meth c T locs cells slots) (hx : p.tables.exec = Jvm.exec) (hlocks : meth.locks = false) {pc : Nat} {Ls : Array Slot} {w : Value} {t : FieldType} {rest : List Value} (hret : meth.sig.returnType = some t) (ht : t.isReference = true) (hw : w.isRef = true)
    (hd : decode c.code pc = .ok (.areturn, 1)) (hQ : Q (some w) T.heap locs) (hc : cells ≤ ck) (hs : slots ≤ sk) : Go p e below (FinN s Q ck sk) T (mkF m pc Ls (w :: rest)) :=
  Go.retO X hx hlocks hret (by cases w <;> cases t <;> first | rfl | (cases hw; done) | (cases ht; done)) (Or.inr (Or.inr (Or.inr (Or.inr ⟨rfl, ht, hw⟩)))) hd hQ hc hs
theorem Go.retV (X : Stand p l e R s m args below meth c T locs cells slots) (hx : p.tables.exec = Jvm.exec) (hlocks : meth.locks = false) {pc : Nat} {Ls : Array Slot} (hret : meth.sig.returnType = none)
    (hd : decode c.code pc = .ok (.return_, 1)) (hQ : Q none T.heap locs) (hc : cells ≤ ck) (hs : slots ≤ sk) : Go p e below (FinN s Q ck sk) T (mkF m pc Ls []) :=
  Go.done X (fun _ => rfl) hlocks (fun fs hr => X.returnOut hx hret hd hr) hQ hc hs
end OwnGo
theorem own_mod3 (i : Int32) : (i &&& (2147483647 : Int32)) % (3 : Int32) = 0 ∨ (i &&& (2147483647 : Int32)) % (3 : Int32) = 1 ∨ (i &&& (2147483647 : Int32)) % (3 : Int32) = 2 := by
  have h1 := (c_and i (2147483647 : Int32) (by decide)).1
  have h2 := (c_irem (i &&& (2147483647 : Int32)) (3 : Int32) 3 (by decide)).1 h1
  simp only [← Int32.toInt_inj]
  have e0 : (0 : Int32).toInt = 0 := by decide
  have e1 : (1 : Int32).toInt = 1 := by decide
  have e2 : (2 : Int32).toInt = 2 := by decide
  rw [h2, e0, e1, e2]
  omega
def cntV (a aE aH : Addr) (z : Int32) : Int32 := if a = aE then 1 else if (if a = aH then (1 : Int32) else 0) = z then 1 else 0
def expV (k z : Int32) : Int32 := if k = 0 then nar .boolean z else if k = 1 then (if z = 0 then 1 else 0) else 1
theorem pn_com_example_rondelle_rondelle_league_Mode : plainName "com/example/rondelle/rondelle/league/Mode" = true := by first | (simp [plainName, overriddenIn]; done) | decide +kernel
theorem d0_0 : decode prog_18_method_4_code 0 = .ok (.aload_n 0, 1) := by decide +kernel
theorem d0_1 : decode prog_18_method_4_code 1 = .ok (.getstatic 10, 3) := by decide +kernel
theorem d0_4 : decode prog_18_method_4_code 4 = .ok (.if_acmp .eq 19, 3) := by decide +kernel
theorem d0_23 : decode prog_18_method_4_code 23 = .ok (.iconst 1, 1) := by decide +kernel
theorem d0_24 : decode prog_18_method_4_code 24 = .ok (.goto 4, 3) := by decide +kernel
theorem d0_28 : decode prog_18_method_4_code 28 = .ok (.ireturn, 1) := by decide +kernel
theorem d0_7 : decode prog_18_method_4_code 7 = .ok (.aload_n 0, 1) := by decide +kernel
theorem d0_8 : decode prog_18_method_4_code 8 = .ok (.getstatic 3, 3) := by decide +kernel
theorem d0_11 : decode prog_18_method_4_code 11 = .ok (.if_acmp .ne 7, 3) := by decide +kernel
theorem d0_14 : decode prog_18_method_4_code 14 = .ok (.iconst 1, 1) := by decide +kernel
theorem d0_15 : decode prog_18_method_4_code 15 = .ok (.goto 4, 3) := by decide +kernel
theorem d0_19 : decode prog_18_method_4_code 19 = .ok (.iload_n 1, 1) := by decide +kernel
theorem d0_20 : decode prog_18_method_4_code 20 = .ok (.if_icmp .ne 7, 3) := by decide +kernel
theorem d0_27 : decode prog_18_method_4_code 27 = .ok (.iconst 0, 1) := by decide +kernel
theorem d0_18 : decode prog_18_method_4_code 18 = .ok (.iconst 0, 1) := by decide +kernel
def Q_rm1 (Z : State) (aS : Addr) (z : Int32) (aE : Addr) (aH : Addr) (h0 : Heap) (n0 : Nat) (v : Option Value) (h : Heap) (L : List Loc) : Prop := v = some (.int (cntV aS aE aH z)) ∧ Fr n0 L ∧ h = h0
set_option maxRecDepth 65536 in
set_option maxHeartbeats 40000000 in
theorem rm1 (l : Launch) (Z : State) (a0 : Array Value) (hw : ∀ d ∈ tables_1, d.before a0 Z = true) (ws : List Jvm.Cond) (aS : Addr) (z : Int32) (aE : Addr) (aH : Addr) (h0 : Heap) (n0 : Nat) (Z0 : n0 ≤ h0.size) (SE : Sta Z h0 "com/example/rondelle/rondelle/league/Mode" "EITHER" "Lcom/example/rondelle/rondelle/league/Mode;" (.ref aE)) (SH : Sta Z h0 "com/example/rondelle/rondelle/league/Mode" "HOME" "Lcom/example/rondelle/rondelle/league/Mode;" (.ref aH)) :
    MetFree l (⟨"com/example/rondelle/rondelle/league/Mode", "counts", "(Z)Z"⟩ : MethodName) (head1 (Jvm.Cond.code (⟨"com/example/rondelle/rondelle/league/Mode", "counts", "(Z)Z"⟩ : MethodName) prog_18_method_4_code 2 (some .boolean) :: ws) ({ frames := 0, cells := 0, slots := 0, locals := 0 } : Room)) (fun a U => a = #[(.ref aS), (.int z)] ∧ Z.Warmed39 U.vm ∧ U.heap = h0) (fun _ _ _ _ _ => True) (fun _ U o U' => ∃ v L, o = .returned v ∧ Q_rm1 Z aS z aE aH h0 n0 v U'.heap L ∧ FrameEnd U o U' L ({ frames := 0, cells := 0, slots := 0, locals := 0 } : Room).cells ({ frames := 0, cells := 0, slots := 0, locals := 0 } : Room).slots) := by
  refine MetFree.of_bodySF (plainFor_of_name pn_com_example_rondelle_rondelle_league_Mode) hisR ?_
  intro p e s m args below meth c s₁ Bd hml0 hP hK
  obtain ⟨rfl, hZ, hh⟩ := hP
  have hx := Bd.exec
  have hby := Bd.bytes
  have hml : c.maxLocals = 2 := hml0
  have hown : s.vm.findClass "com/example/rondelle/rondelle/league/Mode" = some m.cls := findClass_of_methodNamed Bd.named
  have hnm := (name_of_methodNamed Bd.named Bd.method).1
  have X0 : Stand p l e ({ frames := 0, cells := 0, slots := 0, locals := 0 } : Room) s m #[(.ref aS), (.int z)] below meth c s₁ [] 0 0 := Stand.of_body Bd
  have e0 : s₁.heap = h0 := by rw [← hh, Bd.state]; rfl
  have N0 := Fr.nil n0
  have ef : entryFrame m #[(.ref aS), (.int z)] 2 = mkF m 0 #[.val (.ref aS), .val (.int z)] [] := by first | (simp [entryFrame, mkF, argsToLocals, Value.category, maxLocals]; done) | rfl
  show Go p e below (FinN s (Q_rm1 Z aS z aE aH h0 n0) ({ frames := 0, cells := 0, slots := 0, locals := 0 } : Room).cells ({ frames := 0, cells := 0, slots := 0, locals := 0 } : Room).slots) s₁ (entryFrame m #[(.ref aS), (.int z)] 2)
  rw [ef]
  refine Go.by (fun _ k => XS.aloadN X0.here hx rfl (hb hby d0_0) rfl rfl k) ?_
  show Go _ _ _ _ s₁ (mkF m 1 #[.val (.ref aS), .val (.int z)] [(.ref aS)])
  obtain ⟨T101, X102, e103, st104⟩ := getS X0 hx hZ hown (host := "") (hw _ (List.mem_of_getElem? (i := 9) rfl)) Via.refl e0 SE (g := (mkF m 1 #[.val (.ref aS), .val (.int z)] [(.ref aS)])) rfl (hb hby d0_1)
  refine Go.by st104 ?_
  show Go _ _ _ _ T101 (mkF m 4 #[.val (.ref aS), .val (.int z)] [(.ref aE), (.ref aS)])
  by_cases c105 : ((.ref aS) : Value) = ((.ref aE) : Value)
  · refine Go.by (fun _ k => XT.acmpYes X102.here hx rfl (pc0 := 4) (pc' := 23) rfl (hb hby d0_4) rfl rfl rfl (XT.aa_eq_t c105) (by decide) (by decide) k) ?_
    show Go _ _ _ _ T101 (mkF m 23 #[.val (.ref aS), .val (.int z)] [])
    refine Go.by (fun _ k => XT.iconstV X102.here hx rfl (1 : Int32) (hb hby d0_23) (by decide) k) ?_
    show Go _ _ _ _ T101 (mkF m 24 #[.val (.ref aS), .val (.int z)] [(.int (1 : Int32))])
    refine Go.by (fun _ k => XS.goto X102.here hx rfl (pc0 := 24) (pc' := 28) rfl (hb hby d0_24) (by decide) (by decide) k) ?_
    show Go _ _ _ _ T101 (mkF m 28 #[.val (.ref aS), .val (.int z)] [(.int (1 : Int32))])
    exact Go.retZ X102 hx Bd.notSynchronized (t := .boolean) Bd.returns (by simp) (hb hby d0_28) ⟨by simp_all [cntV, nar], N0, e103⟩ (by decide) (by decide)
  · refine Go.by (fun _ k => XT.acmpNo X102.here hx rfl (hb hby d0_4) rfl rfl rfl (XT.aa_eq_f c105) k) ?_
    show Go _ _ _ _ T101 (mkF m 7 #[.val (.ref aS), .val (.int z)] [])
    refine Go.by (fun _ k => XS.aloadN X102.here hx rfl (hb hby d0_7) rfl rfl k) ?_
    show Go _ _ _ _ T101 (mkF m 8 #[.val (.ref aS), .val (.int z)] [(.ref aS)])
    obtain ⟨T106, X107, e108, st109⟩ := getS X102 hx hZ hown (host := "") (hw _ (List.mem_of_getElem? (i := 11) rfl)) Via.refl e103 SH (g := (mkF m 8 #[.val (.ref aS), .val (.int z)] [(.ref aS)])) rfl (hb hby d0_8)
    refine Go.by st109 ?_
    show Go _ _ _ _ T106 (mkF m 11 #[.val (.ref aS), .val (.int z)] [(.ref aH), (.ref aS)])
    by_cases c110 : ((.ref aS) : Value) = ((.ref aH) : Value)
    · refine Go.by (fun _ k => XT.acmpNo X107.here hx rfl (hb hby d0_11) rfl rfl rfl (XT.aa_ne_f c110) k) ?_
      show Go _ _ _ _ T106 (mkF m 14 #[.val (.ref aS), .val (.int z)] [])
      refine Go.by (fun _ k => XT.iconstV X107.here hx rfl (1 : Int32) (hb hby d0_14) (by decide) k) ?_
      show Go _ _ _ _ T106 (mkF m 15 #[.val (.ref aS), .val (.int z)] [(.int (1 : Int32))])
      refine Go.by (fun _ k => XS.goto X107.here hx rfl (pc0 := 15) (pc' := 19) rfl (hb hby d0_15) (by decide) (by decide) k) ?_
      show Go _ _ _ _ T106 (mkF m 19 #[.val (.ref aS), .val (.int z)] [(.int (1 : Int32))])
      refine Go.by (fun _ k => XS.iloadN X107.here hx rfl (hb hby d0_19) rfl k) ?_
      show Go _ _ _ _ T106 (mkF m 20 #[.val (.ref aS), .val (.int z)] [(.int z), (.int (1 : Int32))])
      by_cases c111 : (1 : Int32) = z
      · refine Go.by (fun _ k => XS.icmpNo X107.here hx rfl (hb hby d0_20) rfl (XT.ii_ne_f c111) k) ?_
        show Go _ _ _ _ T106 (mkF m 23 #[.val (.ref aS), .val (.int z)] [])
        refine Go.by (fun _ k => XT.iconstV X107.here hx rfl (1 : Int32) (hb hby d0_23) (by decide) k) ?_
        show Go _ _ _ _ T106 (mkF m 24 #[.val (.ref aS), .val (.int z)] [(.int (1 : Int32))])
        refine Go.by (fun _ k => XS.goto X107.here hx rfl (pc0 := 24) (pc' := 28) rfl (hb hby d0_24) (by decide) (by decide) k) ?_
        show Go _ _ _ _ T106 (mkF m 28 #[.val (.ref aS), .val (.int z)] [(.int (1 : Int32))])
        exact Go.retZ X107 hx Bd.notSynchronized (t := .boolean) Bd.returns (by simp) (hb hby d0_28) ⟨by simp_all [cntV, nar], N0, e108⟩ (by decide) (by decide)
      · refine Go.by (fun _ k => XS.icmpYes X107.here hx rfl (pc0 := 20) (pc' := 27) rfl (hb hby d0_20) rfl (XT.ii_ne_t c111) (by decide) (by decide) k) ?_
        show Go _ _ _ _ T106 (mkF m 27 #[.val (.ref aS), .val (.int z)] [])
        refine Go.by (fun _ k => XT.iconstV X107.here hx rfl (0 : Int32) (hb hby d0_27) (by decide) k) ?_
        show Go _ _ _ _ T106 (mkF m 28 #[.val (.ref aS), .val (.int z)] [(.int (0 : Int32))])
        exact Go.retZ X107 hx Bd.notSynchronized (t := .boolean) Bd.returns (by simp) (hb hby d0_28) ⟨by simp_all [cntV, nar], N0, e108⟩ (by decide) (by decide)
    · refine Go.by (fun _ k => XT.acmpYes X107.here hx rfl (pc0 := 11) (pc' := 18) rfl (hb hby d0_11) rfl rfl rfl (XT.aa_ne_t c110) (by decide) (by decide) k) ?_
      show Go _ _ _ _ T106 (mkF m 18 #[.val (.ref aS), .val (.int z)] [])
      refine Go.by (fun _ k => XT.iconstV X107.here hx rfl (0 : Int32) (hb hby d0_18) (by decide) k) ?_
      show Go _ _ _ _ T106 (mkF m 19 #[.val (.ref aS), .val (.int z)] [(.int (0 : Int32))])
      refine Go.by (fun _ k => XS.iloadN X107.here hx rfl (hb hby d0_19) rfl k) ?_
      show Go _ _ _ _ T106 (mkF m 20 #[.val (.ref aS), .val (.int z)] [(.int z), (.int (0 : Int32))])
      by_cases c112 : (0 : Int32) = z
      · refine Go.by (fun _ k => XS.icmpNo X107.here hx rfl (hb hby d0_20) rfl (XT.ii_ne_f c112) k) ?_
        show Go _ _ _ _ T106 (mkF m 23 #[.val (.ref aS), .val (.int z)] [])
        refine Go.by (fun _ k => XT.iconstV X107.here hx rfl (1 : Int32) (hb hby d0_23) (by decide) k) ?_
        show Go _ _ _ _ T106 (mkF m 24 #[.val (.ref aS), .val (.int z)] [(.int (1 : Int32))])
        refine Go.by (fun _ k => XS.goto X107.here hx rfl (pc0 := 24) (pc' := 28) rfl (hb hby d0_24) (by decide) (by decide) k) ?_
        show Go _ _ _ _ T106 (mkF m 28 #[.val (.ref aS), .val (.int z)] [(.int (1 : Int32))])
        exact Go.retZ X107 hx Bd.notSynchronized (t := .boolean) Bd.returns (by simp) (hb hby d0_28) ⟨by simp_all [cntV, nar], N0, e108⟩ (by decide) (by decide)
      · refine Go.by (fun _ k => XS.icmpYes X107.here hx rfl (pc0 := 20) (pc' := 27) rfl (hb hby d0_20) rfl (XT.ii_ne_t c112) (by decide) (by decide) k) ?_
        show Go _ _ _ _ T106 (mkF m 27 #[.val (.ref aS), .val (.int z)] [])
        refine Go.by (fun _ k => XT.iconstV X107.here hx rfl (0 : Int32) (hb hby d0_27) (by decide) k) ?_
        show Go _ _ _ _ T106 (mkF m 28 #[.val (.ref aS), .val (.int z)] [(.int (0 : Int32))])
        exact Go.retZ X107 hx Bd.notSynchronized (t := .boolean) Bd.returns (by simp) (hb hby d0_28) ⟨by simp_all [cntV, nar], N0, e108⟩ (by decide) (by decide)
theorem pn_com_example_rondelle_rondelle_league_ModeCountsPinLaw : plainName "com/example/rondelle/rondelle/league/ModeCountsPinLaw" = true := by first | (simp [plainName, overriddenIn]; done) | decide +kernel
theorem d1_0 : decode method_2_code 0 = .ok (.iload_n 0, 1) := by decide +kernel
theorem d1_1 : decode method_2_code 1 = .ok (.ifCond .ne 5, 3) := by decide +kernel
theorem d1_4 : decode method_2_code 4 = .ok (.iload_n 1, 1) := by decide +kernel
theorem d1_5 : decode method_2_code 5 = .ok (.ireturn, 1) := by decide +kernel
theorem d1_6 : decode method_2_code 6 = .ok (.iload_n 0, 1) := by decide +kernel
theorem d1_7 : decode method_2_code 7 = .ok (.iconst 1, 1) := by decide +kernel
theorem d1_8 : decode method_2_code 8 = .ok (.if_icmp .ne 13, 3) := by decide +kernel
theorem d1_11 : decode method_2_code 11 = .ok (.iload_n 1, 1) := by decide +kernel
theorem d1_12 : decode method_2_code 12 = .ok (.ifCond .ne 7, 3) := by decide +kernel
theorem d1_15 : decode method_2_code 15 = .ok (.iconst 1, 1) := by decide +kernel
theorem d1_16 : decode method_2_code 16 = .ok (.goto 4, 3) := by decide +kernel
theorem d1_20 : decode method_2_code 20 = .ok (.ireturn, 1) := by decide +kernel
theorem d1_19 : decode method_2_code 19 = .ok (.iconst 0, 1) := by decide +kernel
theorem d1_21 : decode method_2_code 21 = .ok (.iconst 1, 1) := by decide +kernel
theorem d1_22 : decode method_2_code 22 = .ok (.ireturn, 1) := by decide +kernel
def Q_rm2 (Z : State) (k : Int32) (z : Int32) (h0 : Heap) (n0 : Nat) (v : Option Value) (h : Heap) (L : List Loc) : Prop := v = some (.int (expV k z)) ∧ Fr n0 L ∧ h = h0
set_option maxRecDepth 65536 in
set_option maxHeartbeats 40000000 in
theorem rm2 (l : Launch) (Z : State) (a0 : Array Value) (hw : ∀ d ∈ tables_1, d.before a0 Z = true) (ws : List Jvm.Cond) (k : Int32) (z : Int32) (h0 : Heap) (n0 : Nat) (Z0 : n0 ≤ h0.size)  :
    MetFree l (⟨"com/example/rondelle/rondelle/league/ModeCountsPinLaw", "expected", "(IZ)Z"⟩ : MethodName) (head1 (Jvm.Cond.code (⟨"com/example/rondelle/rondelle/league/ModeCountsPinLaw", "expected", "(IZ)Z"⟩ : MethodName) method_2_code 2 (some .boolean) :: ws) ({ frames := 0, cells := 0, slots := 0, locals := 0 } : Room)) (fun a U => a = #[(.int k), (.int z)] ∧ Z.Warmed39 U.vm ∧ U.heap = h0) (fun _ _ _ _ _ => True) (fun _ U o U' => ∃ v L, o = .returned v ∧ Q_rm2 Z k z h0 n0 v U'.heap L ∧ FrameEnd U o U' L ({ frames := 0, cells := 0, slots := 0, locals := 0 } : Room).cells ({ frames := 0, cells := 0, slots := 0, locals := 0 } : Room).slots) := by
  refine MetFree.of_bodySF (plainFor_of_name pn_com_example_rondelle_rondelle_league_ModeCountsPinLaw) hisR ?_
  intro p e s m args below meth c s₁ Bd hml0 hP hK
  obtain ⟨rfl, hZ, hh⟩ := hP
  have hx := Bd.exec
  have hby := Bd.bytes
  have hml : c.maxLocals = 2 := hml0
  have hown : s.vm.findClass "com/example/rondelle/rondelle/league/ModeCountsPinLaw" = some m.cls := findClass_of_methodNamed Bd.named
  have hnm := (name_of_methodNamed Bd.named Bd.method).1
  have X0 : Stand p l e ({ frames := 0, cells := 0, slots := 0, locals := 0 } : Room) s m #[(.int k), (.int z)] below meth c s₁ [] 0 0 := Stand.of_body Bd
  have e0 : s₁.heap = h0 := by rw [← hh, Bd.state]; rfl
  have N0 := Fr.nil n0
  have ef : entryFrame m #[(.int k), (.int z)] 2 = mkF m 0 #[.val (.int k), .val (.int z)] [] := by first | (simp [entryFrame, mkF, argsToLocals, Value.category, maxLocals]; done) | rfl
  show Go p e below (FinN s (Q_rm2 Z k z h0 n0) ({ frames := 0, cells := 0, slots := 0, locals := 0 } : Room).cells ({ frames := 0, cells := 0, slots := 0, locals := 0 } : Room).slots) s₁ (entryFrame m #[(.int k), (.int z)] 2)
  rw [ef]
  refine Go.by (fun _ k => XS.iloadN X0.here hx rfl (hb hby d1_0) rfl k) ?_
  show Go _ _ _ _ s₁ (mkF m 1 #[.val (.int k), .val (.int z)] [(.int k)])
  by_cases c113 : k = 0
  · refine Go.by (fun _ k => XS.ifNo X0.here hx rfl (hb hby d1_1) rfl (XT.i0_ne_f c113) k) ?_
    show Go _ _ _ _ s₁ (mkF m 4 #[.val (.int k), .val (.int z)] [])
    refine Go.by (fun _ k => XS.iloadN X0.here hx rfl (hb hby d1_4) rfl k) ?_
    show Go _ _ _ _ s₁ (mkF m 5 #[.val (.int k), .val (.int z)] [(.int z)])
    exact Go.retZ X0 hx Bd.notSynchronized (t := .boolean) Bd.returns (by simp) (hb hby d1_5) ⟨by simp_all [expV, nar], N0, e0⟩ (by decide) (by decide)
  · refine Go.by (fun _ k => XS.ifYes X0.here hx rfl (pc0 := 1) (pc' := 6) rfl (hb hby d1_1) rfl (XT.i0_ne_t c113) (by decide) (by decide) k) ?_
    show Go _ _ _ _ s₁ (mkF m 6 #[.val (.int k), .val (.int z)] [])
    refine Go.by (fun _ k => XS.iloadN X0.here hx rfl (hb hby d1_6) rfl k) ?_
    show Go _ _ _ _ s₁ (mkF m 7 #[.val (.int k), .val (.int z)] [(.int k)])
    refine Go.by (fun _ k => XT.iconstV X0.here hx rfl (1 : Int32) (hb hby d1_7) (by decide) k) ?_
    show Go _ _ _ _ s₁ (mkF m 8 #[.val (.int k), .val (.int z)] [(.int (1 : Int32)), (.int k)])
    by_cases c114 : k = (1 : Int32)
    · refine Go.by (fun _ k => XS.icmpNo X0.here hx rfl (hb hby d1_8) rfl (XT.ii_ne_f c114) k) ?_
      show Go _ _ _ _ s₁ (mkF m 11 #[.val (.int k), .val (.int z)] [])
      refine Go.by (fun _ k => XS.iloadN X0.here hx rfl (hb hby d1_11) rfl k) ?_
      show Go _ _ _ _ s₁ (mkF m 12 #[.val (.int k), .val (.int z)] [(.int z)])
      by_cases c115 : z = 0
      · refine Go.by (fun _ k => XS.ifNo X0.here hx rfl (hb hby d1_12) rfl (XT.i0_ne_f c115) k) ?_
        show Go _ _ _ _ s₁ (mkF m 15 #[.val (.int k), .val (.int z)] [])
        refine Go.by (fun _ k => XT.iconstV X0.here hx rfl (1 : Int32) (hb hby d1_15) (by decide) k) ?_
        show Go _ _ _ _ s₁ (mkF m 16 #[.val (.int k), .val (.int z)] [(.int (1 : Int32))])
        refine Go.by (fun _ k => XS.goto X0.here hx rfl (pc0 := 16) (pc' := 20) rfl (hb hby d1_16) (by decide) (by decide) k) ?_
        show Go _ _ _ _ s₁ (mkF m 20 #[.val (.int k), .val (.int z)] [(.int (1 : Int32))])
        exact Go.retZ X0 hx Bd.notSynchronized (t := .boolean) Bd.returns (by simp) (hb hby d1_20) ⟨by simp_all [expV, nar], N0, e0⟩ (by decide) (by decide)
      · refine Go.by (fun _ k => XS.ifYes X0.here hx rfl (pc0 := 12) (pc' := 19) rfl (hb hby d1_12) rfl (XT.i0_ne_t c115) (by decide) (by decide) k) ?_
        show Go _ _ _ _ s₁ (mkF m 19 #[.val (.int k), .val (.int z)] [])
        refine Go.by (fun _ k => XT.iconstV X0.here hx rfl (0 : Int32) (hb hby d1_19) (by decide) k) ?_
        show Go _ _ _ _ s₁ (mkF m 20 #[.val (.int k), .val (.int z)] [(.int (0 : Int32))])
        exact Go.retZ X0 hx Bd.notSynchronized (t := .boolean) Bd.returns (by simp) (hb hby d1_20) ⟨by simp_all [expV, nar], N0, e0⟩ (by decide) (by decide)
    · refine Go.by (fun _ k => XS.icmpYes X0.here hx rfl (pc0 := 8) (pc' := 21) rfl (hb hby d1_8) rfl (XT.ii_ne_t c114) (by decide) (by decide) k) ?_
      show Go _ _ _ _ s₁ (mkF m 21 #[.val (.int k), .val (.int z)] [])
      refine Go.by (fun _ k => XT.iconstV X0.here hx rfl (1 : Int32) (hb hby d1_21) (by decide) k) ?_
      show Go _ _ _ _ s₁ (mkF m 22 #[.val (.int k), .val (.int z)] [(.int (1 : Int32))])
      exact Go.retZ X0 hx Bd.notSynchronized (t := .boolean) Bd.returns (by simp) (hb hby d1_22) ⟨by simp_all [expV, nar], N0, e0⟩ (by decide) (by decide)
theorem pd__Z_Z : parseMethodDescriptor "(Z)Z" = some ⟨[.boolean], some .boolean⟩ := by decide +kernel
theorem pd__IZ_Z : parseMethodDescriptor "(IZ)Z" = some ⟨[.int, .boolean], some .boolean⟩ := by decide +kernel
def Q_rm0 (Z : State) (i0 : Int32) (i1 : Int32) (aH : Addr) (aA : Addr) (aE : Addr) (h0 : Heap) (n0 : Nat) (v : Option Value) (h : Heap) (L : List Loc) : Prop := v = some (.int 1) ∧ Fr n0 L
set_option maxRecDepth 65536 in
set_option maxHeartbeats 40000000 in
theorem rm0 (l : Launch) (Z : State) (a0 : Array Value) (hw : ∀ d ∈ tables_1, d.before a0 Z = true) (ws : List Jvm.Cond) (i0 : Int32) (i1 : Int32) (aH : Addr) (aA : Addr) (aE : Addr) (h0 : Heap) (n0 : Nat) (Z0 : n0 ≤ h0.size) (SH : Sta Z h0 "com/example/rondelle/rondelle/league/Mode" "HOME" "Lcom/example/rondelle/rondelle/league/Mode;" (.ref aH)) (SA : Sta Z h0 "com/example/rondelle/rondelle/league/Mode" "AWAY" "Lcom/example/rondelle/rondelle/league/Mode;" (.ref aA)) (SE : Sta Z h0 "com/example/rondelle/rondelle/league/Mode" "EITHER" "Lcom/example/rondelle/rondelle/league/Mode;" (.ref aE)) (EH : Exa Z h0 aH "com/example/rondelle/rondelle/league/Mode") (EA : Exa Z h0 aA "com/example/rondelle/rondelle/league/Mode") (EE : Exa Z h0 aE "com/example/rondelle/rondelle/league/Mode") (n1 : aH ≠ aA) (n2 : aH ≠ aE) (n3 : aA ≠ aE) :
    MetFree l x (head1 (Jvm.Cond.code x code maxLocals ret :: ws) room_1) (fun a U => a = #[(.int i0), (.int i1)] ∧ Z.Warmed39 U.vm ∧ U.heap = h0) (fun _ _ _ _ _ => True) (fun _ U o U' => ∃ v L, o = .returned v ∧ Q_rm0 Z i0 i1 aH aA aE h0 n0 v U'.heap L ∧ FrameEnd U o U' L 0 0) := by
  refine MetFree.of_bodySF (plainFor_of_name pn_com_example_rondelle_rondelle_league_ModeCountsPinLaw) hisR ?_
  intro p e s m args below meth c s₁ Bd hml0 hP hK
  obtain ⟨rfl, hZ, hh⟩ := hP
  have hx := Bd.exec
  have hby := Bd.bytes
  have hml : c.maxLocals = 7 := hml0
  have hown : s.vm.findClass "com/example/rondelle/rondelle/league/ModeCountsPinLaw" = some m.cls := findClass_of_methodNamed Bd.named
  have hnm := (name_of_methodNamed Bd.named Bd.method).1
  have X0 : Stand p l e room_1 s m #[(.int i0), (.int i1)] below meth c s₁ [] 0 0 := Stand.of_body Bd
  have e0 : s₁.heap = h0 := by rw [← hh, Bd.state]; rfl
  have N0 := Fr.nil n0
  have ef : entryFrame m #[(.int i0), (.int i1)] maxLocals = mkF m 0 #[.val (.int i0), .val (.int i1), .unset, .unset, .unset, .unset, .unset] [] := by first | (simp [entryFrame, mkF, argsToLocals, Value.category, maxLocals]; done) | rfl
  show Go p e below (FinN s (Q_rm0 Z i0 i1 aH aA aE h0 n0) 0 0) s₁ (entryFrame m #[(.int i0), (.int i1)] maxLocals)
  rw [ef]
  show Go _ _ _ _ s₁ (mkF m 0 #[.val (.int i0), .val (.int i1), .unset, .unset, .unset, .unset, .unset] [])
  refine Go.by (fun _ k => XS.iloadN X0.here hx rfl (hb hby at_0) rfl k) ?_
  show Go _ _ _ _ s₁ (mkF m 1 #[.val (.int i0), .val (.int i1), .unset, .unset, .unset, .unset, .unset] [(.int i0)])
  refine Go.by (fun _ k => X0.ldcI hx hown (mvT hZ (hw _ (List.mem_of_getElem? (i := 0) rfl))) rfl (hb hby at_1) k) ?_
  show Go _ _ _ _ s₁ (mkF m 3 #[.val (.int i0), .val (.int i1), .unset, .unset, .unset, .unset, .unset] [(.int (2147483647 : Int32)), (.int i0)])
  refine Go.by (fun _ k => XS.iand X0.here hx rfl (hb hby at_3) rfl k) ?_
  show Go _ _ _ _ s₁ (mkF m 4 #[.val (.int i0), .val (.int i1), .unset, .unset, .unset, .unset, .unset] [(.int (i0 &&& (2147483647 : Int32)))])
  refine Go.by (fun _ k => XT.iconstV X0.here hx rfl (3 : Int32) (hb hby at_4) (by decide) k) ?_
  show Go _ _ _ _ s₁ (mkF m 5 #[.val (.int i0), .val (.int i1), .unset, .unset, .unset, .unset, .unset] [(.int (3 : Int32)), (.int (i0 &&& (2147483647 : Int32)))])
  refine Go.by (fun _ k => iremM X0 hx rfl (hb hby at_5) rfl (by decide) k) ?_
  show Go _ _ _ _ s₁ (mkF m 6 #[.val (.int i0), .val (.int i1), .unset, .unset, .unset, .unset, .unset] [(.int ((i0 &&& (2147483647 : Int32)) % (3 : Int32)))])
  refine Go.by (fun _ k => XS.istoreN X0.here hx rfl (hb hby at_6) rfl (l' := #[.val (.int i0), .val (.int i1), .val (.int ((i0 &&& (2147483647 : Int32)) % (3 : Int32))), .unset, .unset, .unset, .unset]) rfl k) ?_
  show Go _ _ _ _ s₁ (mkF m 7 #[.val (.int i0), .val (.int i1), .val (.int ((i0 &&& (2147483647 : Int32)) % (3 : Int32))), .unset, .unset, .unset, .unset] [])
  have hk : ((i0 &&& (2147483647 : Int32)) % (3 : Int32)) = 0 ∨ ((i0 &&& (2147483647 : Int32)) % (3 : Int32)) = 1 ∨ ((i0 &&& (2147483647 : Int32)) % (3 : Int32)) = 2 := own_mod3 i0
  generalize ((i0 &&& (2147483647 : Int32)) % (3 : Int32)) = k at hk
  rcases hk with rfl | rfl | rfl
  · show Go _ _ _ _ s₁ (mkF m 7 #[.val (.int i0), .val (.int i1), .val (.int (0 : Int32)), .unset, .unset, .unset, .unset] [])
    refine Go.by (fun _ k => XS.iloadN X0.here hx rfl (hb hby at_7) rfl k) ?_
    show Go _ _ _ _ s₁ (mkF m 8 #[.val (.int i0), .val (.int i1), .val (.int (0 : Int32)), .unset, .unset, .unset, .unset] [(.int (0 : Int32))])
    refine Go.by (fun _ k => XS.ifNo X0.here hx rfl (hb hby at_8) rfl (XT.i0_ne_f (by decide)) k) ?_
    show Go _ _ _ _ s₁ (mkF m 11 #[.val (.int i0), .val (.int i1), .val (.int (0 : Int32)), .unset, .unset, .unset, .unset] [])
    obtain ⟨T116, X117, e118, st119⟩ := getS X0 hx hZ hown (host := "") (hw _ (List.mem_of_getElem? (i := 1) rfl)) Via.refl e0 SH (g := (mkF m 11 #[.val (.int i0), .val (.int i1), .val (.int (0 : Int32)), .unset, .unset, .unset, .unset] [])) rfl (hb hby at_11)
    refine Go.by st119 ?_
    show Go _ _ _ _ T116 (mkF m 14 #[.val (.int i0), .val (.int i1), .val (.int (0 : Int32)), .unset, .unset, .unset, .unset] [(.ref aH)])
    refine Go.by (fun _ k => XS.astoreN X117.here hx rfl (hb hby at_14) rfl rfl (l' := #[.val (.int i0), .val (.int i1), .val (.int (0 : Int32)), .val (.ref aH), .unset, .unset, .unset]) rfl k) ?_
    show Go _ _ _ _ T116 (mkF m 15 #[.val (.int i0), .val (.int i1), .val (.int (0 : Int32)), .val (.ref aH), .unset, .unset, .unset] [])
    refine Go.by (fun _ k => XS.goto X117.here hx rfl (pc0 := 15) (pc' := 34) rfl (hb hby at_15) (by decide) (by decide) k) ?_
    show Go _ _ _ _ T116 (mkF m 34 #[.val (.int i0), .val (.int i1), .val (.int (0 : Int32)), .val (.ref aH), .unset, .unset, .unset] [])
    refine Go.by (fun _ k => XS.iloadN X117.here hx rfl (hb hby at_34) rfl k) ?_
    show Go _ _ _ _ T116 (mkF m 35 #[.val (.int i0), .val (.int i1), .val (.int (0 : Int32)), .val (.ref aH), .unset, .unset, .unset] [(.int i1)])
    refine Go.by (fun _ k => XT.iconstV X117.here hx rfl (1 : Int32) (hb hby at_35) (by decide) k) ?_
    show Go _ _ _ _ T116 (mkF m 36 #[.val (.int i0), .val (.int i1), .val (.int (0 : Int32)), .val (.ref aH), .unset, .unset, .unset] [(.int (1 : Int32)), (.int i1)])
    refine Go.by (fun _ k => XS.iand X117.here hx rfl (hb hby at_36) rfl k) ?_
    show Go _ _ _ _ T116 (mkF m 37 #[.val (.int i0), .val (.int i1), .val (.int (0 : Int32)), .val (.ref aH), .unset, .unset, .unset] [(.int (i1 &&& (1 : Int32)))])
    by_cases c120 : (i1 &&& (1 : Int32)) = 0
    · refine Go.by (fun _ k => XS.ifYes X117.here hx rfl (pc0 := 37) (pc' := 44) rfl (hb hby at_37) rfl (XT.i0_eq_t c120) (by decide) (by decide) k) ?_
      show Go _ _ _ _ T116 (mkF m 44 #[.val (.int i0), .val (.int i1), .val (.int (0 : Int32)), .val (.ref aH), .unset, .unset, .unset] [])
      refine Go.by (fun _ k => XT.iconstV X117.here hx rfl (0 : Int32) (hb hby at_44) (by decide) k) ?_
      show Go _ _ _ _ T116 (mkF m 45 #[.val (.int i0), .val (.int i1), .val (.int (0 : Int32)), .val (.ref aH), .unset, .unset, .unset] [(.int (0 : Int32))])
      refine Go.by (fun _ k => XS.istore X117.here hx rfl (hb hby at_45) rfl (l' := #[.val (.int i0), .val (.int i1), .val (.int (0 : Int32)), .val (.ref aH), .val (.int (0 : Int32)), .unset, .unset]) rfl k) ?_
      show Go _ _ _ _ T116 (mkF m 47 #[.val (.int i0), .val (.int i1), .val (.int (0 : Int32)), .val (.ref aH), .val (.int (0 : Int32)), .unset, .unset] [])
      refine Go.by (fun _ k => XS.aloadN X117.here hx rfl (hb hby at_47) rfl rfl k) ?_
      show Go _ _ _ _ T116 (mkF m 48 #[.val (.int i0), .val (.int i1), .val (.int (0 : Int32)), .val (.ref aH), .val (.int (0 : Int32)), .unset, .unset] [(.ref aH)])
      refine Go.by (fun _ k => XS.iload X117.here hx rfl (hb hby at_48) rfl k) ?_
      show Go _ _ _ _ T116 (mkF m 50 #[.val (.int i0), .val (.int i1), .val (.int (0 : Int32)), .val (.ref aH), .val (.int (0 : Int32)), .unset, .unset] [(.int (0 : Int32)), (.ref aH)])
      obtain ⟨cq122, kq122, q122a, q122b, q122c⟩ := isOf hZ e118 EH
      obtain ⟨_, _, ⟨T121, L121, k121, n121⟩, -, X121, ⟨Lc121, hQ121, l121, y121, z121⟩, st121⟩ := X117.virtualBack hx (y := (⟨"com/example/rondelle/rondelle/league/Mode", "counts", "(Z)Z"⟩ : MethodName)) (z := (⟨"com/example/rondelle/rondelle/league/Mode", "counts", "(Z)Z"⟩ : MethodName)) hown (mvT hZ (hw _ (List.mem_of_getElem? (i := 4) rfl))) (mvT hZ (hw _ (List.mem_of_getElem? (i := 5) rfl))) (notFace_of_selects (args := #[]) (mvT hZ (hw _ (List.mem_of_getElem? (i := 7) rfl)))) (mvT hZ (hw _ (List.mem_of_getElem? (i := 7) rfl))) (mvT hZ (hw _ (List.mem_of_getElem? (i := 6) rfl))) (by decide) (backOf (W := 0) (rm1 l Z a0 hw [] aH (0 : Int32) aE aH h0 n0 Z0 SE SH) hZ (hw _ (List.mem_of_getElem? (i := 8) rfl)) (hw _ (List.mem_of_getElem? (i := 2) rfl)) (by decide) (by decide)) q122a q122c (g := (mkF m 50 #[.val (.int i0), .val (.int i1), .val (.int (0 : Int32)), .val (.ref aH), .val (.int (0 : Int32)), .unset, .unset] [(.int (0 : Int32)), (.ref aH)])) rfl (by rw [hml]; rfl) (Steps.refl _) (argsL := [(.int (0 : Int32))]) (rest := []) (lenOf pd__Z_Z rfl) rfl (by show 2 * 0 + _ ≤ _; exact Nat.le_of_eq rfl) (hb hby at_50) (fun _ _ => ⟨rfl, e118, (by decide : 0 + 0 ≤ _), (by decide : 0 + 0 ≤ _)⟩)
      dsimp only [Pt.U, Pt.locs, Pt.cells, Pt.slots] at X121 l121 y121 z121 st121 hQ121
      subst l121 y121 z121
      obtain ⟨rfl, N121, e121⟩ := hQ121
      have NN121 := Fr.app N0 N121
      refine Go.call st121 ?_
      show Go _ _ _ _ T121 (mkF m 53 #[.val (.int i0), .val (.int i1), .val (.int (0 : Int32)), .val (.ref aH), .val (.int (0 : Int32)), .unset, .unset] [(.int (cntV aH aE aH (0 : Int32)))])
      refine Go.by (fun _ k => XS.istore X121.here hx rfl (hb hby at_53) rfl (l' := #[.val (.int i0), .val (.int i1), .val (.int (0 : Int32)), .val (.ref aH), .val (.int (0 : Int32)), .val (.int (cntV aH aE aH (0 : Int32))), .unset]) rfl k) ?_
      show Go _ _ _ _ T121 (mkF m 55 #[.val (.int i0), .val (.int i1), .val (.int (0 : Int32)), .val (.ref aH), .val (.int (0 : Int32)), .val (.int (cntV aH aE aH (0 : Int32))), .unset] [])
      refine Go.by (fun _ k => XS.aloadN X121.here hx rfl (hb hby at_55) rfl rfl k) ?_
      show Go _ _ _ _ T121 (mkF m 56 #[.val (.int i0), .val (.int i1), .val (.int (0 : Int32)), .val (.ref aH), .val (.int (0 : Int32)), .val (.int (cntV aH aE aH (0 : Int32))), .unset] [(.ref aH)])
      refine Go.by (fun _ k => XS.iload X121.here hx rfl (hb hby at_56) rfl k) ?_
      show Go _ _ _ _ T121 (mkF m 58 #[.val (.int i0), .val (.int i1), .val (.int (0 : Int32)), .val (.ref aH), .val (.int (0 : Int32)), .val (.int (cntV aH aE aH (0 : Int32))), .unset] [(.int (0 : Int32)), (.ref aH)])
      refine Go.by (fun _ k => XS.ifNo X121.here hx rfl (hb hby at_58) rfl (XT.i0_ne_f (by decide)) k) ?_
      show Go _ _ _ _ T121 (mkF m 61 #[.val (.int i0), .val (.int i1), .val (.int (0 : Int32)), .val (.ref aH), .val (.int (0 : Int32)), .val (.int (cntV aH aE aH (0 : Int32))), .unset] [(.ref aH)])
      refine Go.by (fun _ k => XT.iconstV X121.here hx rfl (1 : Int32) (hb hby at_61) (by decide) k) ?_
      show Go _ _ _ _ T121 (mkF m 62 #[.val (.int i0), .val (.int i1), .val (.int (0 : Int32)), .val (.ref aH), .val (.int (0 : Int32)), .val (.int (cntV aH aE aH (0 : Int32))), .unset] [(.int (1 : Int32)), (.ref aH)])
      refine Go.by (fun _ k => XS.goto X121.here hx rfl (pc0 := 62) (pc' := 66) rfl (hb hby at_62) (by decide) (by decide) k) ?_
      show Go _ _ _ _ T121 (mkF m 66 #[.val (.int i0), .val (.int i1), .val (.int (0 : Int32)), .val (.ref aH), .val (.int (0 : Int32)), .val (.int (cntV aH aE aH (0 : Int32))), .unset] [(.int (1 : Int32)), (.ref aH)])
      obtain ⟨cq124, kq124, q124a, q124b, q124c⟩ := isOf hZ e121 EH
      obtain ⟨_, _, ⟨T123, L123, k123, n123⟩, -, X123, ⟨Lc123, hQ123, l123, y123, z123⟩, st123⟩ := X121.virtualBack hx (y := (⟨"com/example/rondelle/rondelle/league/Mode", "counts", "(Z)Z"⟩ : MethodName)) (z := (⟨"com/example/rondelle/rondelle/league/Mode", "counts", "(Z)Z"⟩ : MethodName)) hown (mvT hZ (hw _ (List.mem_of_getElem? (i := 4) rfl))) (mvT hZ (hw _ (List.mem_of_getElem? (i := 5) rfl))) (notFace_of_selects (args := #[]) (mvT hZ (hw _ (List.mem_of_getElem? (i := 7) rfl)))) (mvT hZ (hw _ (List.mem_of_getElem? (i := 7) rfl))) (mvT hZ (hw _ (List.mem_of_getElem? (i := 6) rfl))) (by decide) (backOf (W := 0) (rm1 l Z a0 hw [] aH (1 : Int32) aE aH h0 n0 Z0 SE SH) hZ (hw _ (List.mem_of_getElem? (i := 8) rfl)) (hw _ (List.mem_of_getElem? (i := 2) rfl)) (by decide) (by decide)) q124a q124c (g := (mkF m 66 #[.val (.int i0), .val (.int i1), .val (.int (0 : Int32)), .val (.ref aH), .val (.int (0 : Int32)), .val (.int (cntV aH aE aH (0 : Int32))), .unset] [(.int (1 : Int32)), (.ref aH)])) rfl (by rw [hml]; rfl) (Steps.refl _) (argsL := [(.int (1 : Int32))]) (rest := []) (lenOf pd__Z_Z rfl) rfl (by show 2 * 0 + _ ≤ _; exact Nat.le_of_eq rfl) (hb hby at_66) (fun _ _ => ⟨rfl, e121, (by decide : 0 + 0 + 0 ≤ _), (by decide : 0 + 0 + 0 ≤ _)⟩)
      dsimp only [Pt.U, Pt.locs, Pt.cells, Pt.slots] at X123 l123 y123 z123 st123 hQ123
      subst l123 y123 z123
      obtain ⟨rfl, N123, e123⟩ := hQ123
      have NN123 := Fr.app NN121 N123
      refine Go.call st123 ?_
      show Go _ _ _ _ T123 (mkF m 69 #[.val (.int i0), .val (.int i1), .val (.int (0 : Int32)), .val (.ref aH), .val (.int (0 : Int32)), .val (.int (cntV aH aE aH (0 : Int32))), .unset] [(.int (cntV aH aE aH (1 : Int32)))])
      refine Go.by (fun _ k => XS.istore X123.here hx rfl (hb hby at_69) rfl (l' := #[.val (.int i0), .val (.int i1), .val (.int (0 : Int32)), .val (.ref aH), .val (.int (0 : Int32)), .val (.int (cntV aH aE aH (0 : Int32))), .val (.int (cntV aH aE aH (1 : Int32)))]) rfl k) ?_
      show Go _ _ _ _ T123 (mkF m 71 #[.val (.int i0), .val (.int i1), .val (.int (0 : Int32)), .val (.ref aH), .val (.int (0 : Int32)), .val (.int (cntV aH aE aH (0 : Int32))), .val (.int (cntV aH aE aH (1 : Int32)))] [])
      refine Go.by (fun _ k => XS.iload X123.here hx rfl (hb hby at_71) rfl k) ?_
      show Go _ _ _ _ T123 (mkF m 73 #[.val (.int i0), .val (.int i1), .val (.int (0 : Int32)), .val (.ref aH), .val (.int (0 : Int32)), .val (.int (cntV aH aE aH (0 : Int32))), .val (.int (cntV aH aE aH (1 : Int32)))] [(.int (cntV aH aE aH (0 : Int32)))])
      refine Go.by (fun _ k => XS.iloadN X123.here hx rfl (hb hby at_73) rfl k) ?_
      show Go _ _ _ _ T123 (mkF m 74 #[.val (.int i0), .val (.int i1), .val (.int (0 : Int32)), .val (.ref aH), .val (.int (0 : Int32)), .val (.int (cntV aH aE aH (0 : Int32))), .val (.int (cntV aH aE aH (1 : Int32)))] [(.int (0 : Int32)), (.int (cntV aH aE aH (0 : Int32)))])
      refine Go.by (fun _ k => XS.iload X123.here hx rfl (hb hby at_74) rfl k) ?_
      show Go _ _ _ _ T123 (mkF m 76 #[.val (.int i0), .val (.int i1), .val (.int (0 : Int32)), .val (.ref aH), .val (.int (0 : Int32)), .val (.int (cntV aH aE aH (0 : Int32))), .val (.int (cntV aH aE aH (1 : Int32)))] [(.int (0 : Int32)), (.int (0 : Int32)), (.int (cntV aH aE aH (0 : Int32)))])
      obtain ⟨_, _, ⟨T125, L125, k125, n125⟩, -, X125, ⟨Lc125, hQ125, l125, y125, z125⟩, st125⟩ := Jvm.LawKit.callS X123 hx (y := (⟨"com/example/rondelle/rondelle/league/ModeCountsPinLaw", "expected", "(IZ)Z"⟩ : MethodName)) hown (mvT hZ (hw _ (List.mem_of_getElem? (i := 12) rfl))) (mvT hZ (hw _ (List.mem_of_getElem? (i := 13) rfl))) (mvT hZ (hw _ (List.mem_of_getElem? (i := 14) rfl))) (mvT hZ (hw _ (List.mem_of_getElem? (i := 15) rfl))) (by decide) (backOf (W := 1) (rm2 l Z a0 hw [] (0 : Int32) (0 : Int32) h0 n0 Z0 ) hZ (hw _ (List.mem_of_getElem? (i := 15) rfl)) (hw _ (List.mem_of_getElem? (i := 14) rfl)) (by decide) (by decide)) (g := (mkF m 76 #[.val (.int i0), .val (.int i1), .val (.int (0 : Int32)), .val (.ref aH), .val (.int (0 : Int32)), .val (.int (cntV aH aE aH (0 : Int32))), .val (.int (cntV aH aE aH (1 : Int32)))] [(.int (0 : Int32)), (.int (0 : Int32)), (.int (cntV aH aE aH (0 : Int32)))])) rfl (by rw [hml]; rfl) (argsL := [(.int (0 : Int32)), (.int (0 : Int32))]) (rest := [(.int (cntV aH aE aH (0 : Int32)))]) (lenOf pd__IZ_Z rfl) rfl (by show 2 * 0 + _ ≤ _; exact Nat.le_of_eq rfl) (hb hby at_76) (fun _ _ => ⟨rfl, e123, (by decide : 0 + 0 + 0 + 0 ≤ _), (by decide : 0 + 0 + 0 + 0 ≤ _)⟩)
      dsimp only [Pt.U, Pt.locs, Pt.cells, Pt.slots] at X125 l125 y125 z125 st125 hQ125
      subst l125 y125 z125
      obtain ⟨rfl, N125, e125⟩ := hQ125
      have NN125 := Fr.app NN123 N125
      refine Go.by st125 ?_
      show Go _ _ _ _ T125 (mkF m 79 #[.val (.int i0), .val (.int i1), .val (.int (0 : Int32)), .val (.ref aH), .val (.int (0 : Int32)), .val (.int (cntV aH aE aH (0 : Int32))), .val (.int (cntV aH aE aH (1 : Int32)))] [(.int (expV (0 : Int32) (0 : Int32))), (.int (cntV aH aE aH (0 : Int32)))])
      refine Go.by (fun _ k => XS.icmpNo X125.here hx rfl (hb hby at_79) rfl (XT.ii_ne_f (by simp [cntV, expV, nar, n1, n2, n3, n1.symm, n2.symm, n3.symm])) k) ?_
      show Go _ _ _ _ T125 (mkF m 82 #[.val (.int i0), .val (.int i1), .val (.int (0 : Int32)), .val (.ref aH), .val (.int (0 : Int32)), .val (.int (cntV aH aE aH (0 : Int32))), .val (.int (cntV aH aE aH (1 : Int32)))] [])
      refine Go.by (fun _ k => XS.iload X125.here hx rfl (hb hby at_82) rfl k) ?_
      show Go _ _ _ _ T125 (mkF m 84 #[.val (.int i0), .val (.int i1), .val (.int (0 : Int32)), .val (.ref aH), .val (.int (0 : Int32)), .val (.int (cntV aH aE aH (0 : Int32))), .val (.int (cntV aH aE aH (1 : Int32)))] [(.int (cntV aH aE aH (1 : Int32)))])
      refine Go.by (fun _ k => XS.iloadN X125.here hx rfl (hb hby at_84) rfl k) ?_
      show Go _ _ _ _ T125 (mkF m 85 #[.val (.int i0), .val (.int i1), .val (.int (0 : Int32)), .val (.ref aH), .val (.int (0 : Int32)), .val (.int (cntV aH aE aH (0 : Int32))), .val (.int (cntV aH aE aH (1 : Int32)))] [(.int (0 : Int32)), (.int (cntV aH aE aH (1 : Int32)))])
      refine Go.by (fun _ k => XS.iload X125.here hx rfl (hb hby at_85) rfl k) ?_
      show Go _ _ _ _ T125 (mkF m 87 #[.val (.int i0), .val (.int i1), .val (.int (0 : Int32)), .val (.ref aH), .val (.int (0 : Int32)), .val (.int (cntV aH aE aH (0 : Int32))), .val (.int (cntV aH aE aH (1 : Int32)))] [(.int (0 : Int32)), (.int (0 : Int32)), (.int (cntV aH aE aH (1 : Int32)))])
      refine Go.by (fun _ k => XS.ifNo X125.here hx rfl (hb hby at_87) rfl (XT.i0_ne_f (by decide)) k) ?_
      show Go _ _ _ _ T125 (mkF m 90 #[.val (.int i0), .val (.int i1), .val (.int (0 : Int32)), .val (.ref aH), .val (.int (0 : Int32)), .val (.int (cntV aH aE aH (0 : Int32))), .val (.int (cntV aH aE aH (1 : Int32)))] [(.int (0 : Int32)), (.int (cntV aH aE aH (1 : Int32)))])
      refine Go.by (fun _ k => XT.iconstV X125.here hx rfl (1 : Int32) (hb hby at_90) (by decide) k) ?_
      show Go _ _ _ _ T125 (mkF m 91 #[.val (.int i0), .val (.int i1), .val (.int (0 : Int32)), .val (.ref aH), .val (.int (0 : Int32)), .val (.int (cntV aH aE aH (0 : Int32))), .val (.int (cntV aH aE aH (1 : Int32)))] [(.int (1 : Int32)), (.int (0 : Int32)), (.int (cntV aH aE aH (1 : Int32)))])
      refine Go.by (fun _ k => XS.goto X125.here hx rfl (pc0 := 91) (pc' := 95) rfl (hb hby at_91) (by decide) (by decide) k) ?_
      show Go _ _ _ _ T125 (mkF m 95 #[.val (.int i0), .val (.int i1), .val (.int (0 : Int32)), .val (.ref aH), .val (.int (0 : Int32)), .val (.int (cntV aH aE aH (0 : Int32))), .val (.int (cntV aH aE aH (1 : Int32)))] [(.int (1 : Int32)), (.int (0 : Int32)), (.int (cntV aH aE aH (1 : Int32)))])
      obtain ⟨_, _, ⟨T126, L126, k126, n126⟩, -, X126, ⟨Lc126, hQ126, l126, y126, z126⟩, st126⟩ := Jvm.LawKit.callS X125 hx (y := (⟨"com/example/rondelle/rondelle/league/ModeCountsPinLaw", "expected", "(IZ)Z"⟩ : MethodName)) hown (mvT hZ (hw _ (List.mem_of_getElem? (i := 12) rfl))) (mvT hZ (hw _ (List.mem_of_getElem? (i := 13) rfl))) (mvT hZ (hw _ (List.mem_of_getElem? (i := 14) rfl))) (mvT hZ (hw _ (List.mem_of_getElem? (i := 15) rfl))) (by decide) (backOf (W := 1) (rm2 l Z a0 hw [] (0 : Int32) (1 : Int32) h0 n0 Z0 ) hZ (hw _ (List.mem_of_getElem? (i := 15) rfl)) (hw _ (List.mem_of_getElem? (i := 14) rfl)) (by decide) (by decide)) (g := (mkF m 95 #[.val (.int i0), .val (.int i1), .val (.int (0 : Int32)), .val (.ref aH), .val (.int (0 : Int32)), .val (.int (cntV aH aE aH (0 : Int32))), .val (.int (cntV aH aE aH (1 : Int32)))] [(.int (1 : Int32)), (.int (0 : Int32)), (.int (cntV aH aE aH (1 : Int32)))])) rfl (by rw [hml]; rfl) (argsL := [(.int (0 : Int32)), (.int (1 : Int32))]) (rest := [(.int (cntV aH aE aH (1 : Int32)))]) (lenOf pd__IZ_Z rfl) rfl (by show 2 * 0 + _ ≤ _; exact Nat.le_of_eq rfl) (hb hby at_95) (fun _ _ => ⟨rfl, e125, (by decide : 0 + 0 + 0 + 0 + 0 ≤ _), (by decide : 0 + 0 + 0 + 0 + 0 ≤ _)⟩)
      dsimp only [Pt.U, Pt.locs, Pt.cells, Pt.slots] at X126 l126 y126 z126 st126 hQ126
      subst l126 y126 z126
      obtain ⟨rfl, N126, e126⟩ := hQ126
      have NN126 := Fr.app NN125 N126
      refine Go.by st126 ?_
      show Go _ _ _ _ T126 (mkF m 98 #[.val (.int i0), .val (.int i1), .val (.int (0 : Int32)), .val (.ref aH), .val (.int (0 : Int32)), .val (.int (cntV aH aE aH (0 : Int32))), .val (.int (cntV aH aE aH (1 : Int32)))] [(.int (expV (0 : Int32) (1 : Int32))), (.int (cntV aH aE aH (1 : Int32)))])
      refine Go.by (fun _ k => XS.icmpNo X126.here hx rfl (hb hby at_98) rfl (XT.ii_ne_f (by simp [cntV, expV, nar, n1, n2, n3, n1.symm, n2.symm, n3.symm])) k) ?_
      show Go _ _ _ _ T126 (mkF m 101 #[.val (.int i0), .val (.int i1), .val (.int (0 : Int32)), .val (.ref aH), .val (.int (0 : Int32)), .val (.int (cntV aH aE aH (0 : Int32))), .val (.int (cntV aH aE aH (1 : Int32)))] [])
      refine Go.by (fun _ k => XT.iconstV X126.here hx rfl (1 : Int32) (hb hby at_101) (by decide) k) ?_
      show Go _ _ _ _ T126 (mkF m 102 #[.val (.int i0), .val (.int i1), .val (.int (0 : Int32)), .val (.ref aH), .val (.int (0 : Int32)), .val (.int (cntV aH aE aH (0 : Int32))), .val (.int (cntV aH aE aH (1 : Int32)))] [(.int (1 : Int32))])
      refine Go.by (fun _ k => XS.goto X126.here hx rfl (pc0 := 102) (pc' := 106) rfl (hb hby at_102) (by decide) (by decide) k) ?_
      show Go _ _ _ _ T126 (mkF m 106 #[.val (.int i0), .val (.int i1), .val (.int (0 : Int32)), .val (.ref aH), .val (.int (0 : Int32)), .val (.int (cntV aH aE aH (0 : Int32))), .val (.int (cntV aH aE aH (1 : Int32)))] [(.int (1 : Int32))])
      exact Go.retZ X126 hx Bd.notSynchronized (t := .boolean) Bd.returns (by simp) (hb hby at_106) ⟨rfl, NN126⟩ (by decide) (by decide)
    · refine Go.by (fun _ k => XS.ifNo X117.here hx rfl (hb hby at_37) rfl (XT.i0_eq_f c120) k) ?_
      show Go _ _ _ _ T116 (mkF m 40 #[.val (.int i0), .val (.int i1), .val (.int (0 : Int32)), .val (.ref aH), .unset, .unset, .unset] [])
      refine Go.by (fun _ k => XT.iconstV X117.here hx rfl (1 : Int32) (hb hby at_40) (by decide) k) ?_
      show Go _ _ _ _ T116 (mkF m 41 #[.val (.int i0), .val (.int i1), .val (.int (0 : Int32)), .val (.ref aH), .unset, .unset, .unset] [(.int (1 : Int32))])
      refine Go.by (fun _ k => XS.goto X117.here hx rfl (pc0 := 41) (pc' := 45) rfl (hb hby at_41) (by decide) (by decide) k) ?_
      show Go _ _ _ _ T116 (mkF m 45 #[.val (.int i0), .val (.int i1), .val (.int (0 : Int32)), .val (.ref aH), .unset, .unset, .unset] [(.int (1 : Int32))])
      refine Go.by (fun _ k => XS.istore X117.here hx rfl (hb hby at_45) rfl (l' := #[.val (.int i0), .val (.int i1), .val (.int (0 : Int32)), .val (.ref aH), .val (.int (1 : Int32)), .unset, .unset]) rfl k) ?_
      show Go _ _ _ _ T116 (mkF m 47 #[.val (.int i0), .val (.int i1), .val (.int (0 : Int32)), .val (.ref aH), .val (.int (1 : Int32)), .unset, .unset] [])
      refine Go.by (fun _ k => XS.aloadN X117.here hx rfl (hb hby at_47) rfl rfl k) ?_
      show Go _ _ _ _ T116 (mkF m 48 #[.val (.int i0), .val (.int i1), .val (.int (0 : Int32)), .val (.ref aH), .val (.int (1 : Int32)), .unset, .unset] [(.ref aH)])
      refine Go.by (fun _ k => XS.iload X117.here hx rfl (hb hby at_48) rfl k) ?_
      show Go _ _ _ _ T116 (mkF m 50 #[.val (.int i0), .val (.int i1), .val (.int (0 : Int32)), .val (.ref aH), .val (.int (1 : Int32)), .unset, .unset] [(.int (1 : Int32)), (.ref aH)])
      obtain ⟨cq128, kq128, q128a, q128b, q128c⟩ := isOf hZ e118 EH
      obtain ⟨_, _, ⟨T127, L127, k127, n127⟩, -, X127, ⟨Lc127, hQ127, l127, y127, z127⟩, st127⟩ := X117.virtualBack hx (y := (⟨"com/example/rondelle/rondelle/league/Mode", "counts", "(Z)Z"⟩ : MethodName)) (z := (⟨"com/example/rondelle/rondelle/league/Mode", "counts", "(Z)Z"⟩ : MethodName)) hown (mvT hZ (hw _ (List.mem_of_getElem? (i := 4) rfl))) (mvT hZ (hw _ (List.mem_of_getElem? (i := 5) rfl))) (notFace_of_selects (args := #[]) (mvT hZ (hw _ (List.mem_of_getElem? (i := 7) rfl)))) (mvT hZ (hw _ (List.mem_of_getElem? (i := 7) rfl))) (mvT hZ (hw _ (List.mem_of_getElem? (i := 6) rfl))) (by decide) (backOf (W := 0) (rm1 l Z a0 hw [] aH (1 : Int32) aE aH h0 n0 Z0 SE SH) hZ (hw _ (List.mem_of_getElem? (i := 8) rfl)) (hw _ (List.mem_of_getElem? (i := 2) rfl)) (by decide) (by decide)) q128a q128c (g := (mkF m 50 #[.val (.int i0), .val (.int i1), .val (.int (0 : Int32)), .val (.ref aH), .val (.int (1 : Int32)), .unset, .unset] [(.int (1 : Int32)), (.ref aH)])) rfl (by rw [hml]; rfl) (Steps.refl _) (argsL := [(.int (1 : Int32))]) (rest := []) (lenOf pd__Z_Z rfl) rfl (by show 2 * 0 + _ ≤ _; exact Nat.le_of_eq rfl) (hb hby at_50) (fun _ _ => ⟨rfl, e118, (by decide : 0 + 0 ≤ _), (by decide : 0 + 0 ≤ _)⟩)
      dsimp only [Pt.U, Pt.locs, Pt.cells, Pt.slots] at X127 l127 y127 z127 st127 hQ127
      subst l127 y127 z127
      obtain ⟨rfl, N127, e127⟩ := hQ127
      have NN127 := Fr.app N0 N127
      refine Go.call st127 ?_
      show Go _ _ _ _ T127 (mkF m 53 #[.val (.int i0), .val (.int i1), .val (.int (0 : Int32)), .val (.ref aH), .val (.int (1 : Int32)), .unset, .unset] [(.int (cntV aH aE aH (1 : Int32)))])
      refine Go.by (fun _ k => XS.istore X127.here hx rfl (hb hby at_53) rfl (l' := #[.val (.int i0), .val (.int i1), .val (.int (0 : Int32)), .val (.ref aH), .val (.int (1 : Int32)), .val (.int (cntV aH aE aH (1 : Int32))), .unset]) rfl k) ?_
      show Go _ _ _ _ T127 (mkF m 55 #[.val (.int i0), .val (.int i1), .val (.int (0 : Int32)), .val (.ref aH), .val (.int (1 : Int32)), .val (.int (cntV aH aE aH (1 : Int32))), .unset] [])
      refine Go.by (fun _ k => XS.aloadN X127.here hx rfl (hb hby at_55) rfl rfl k) ?_
      show Go _ _ _ _ T127 (mkF m 56 #[.val (.int i0), .val (.int i1), .val (.int (0 : Int32)), .val (.ref aH), .val (.int (1 : Int32)), .val (.int (cntV aH aE aH (1 : Int32))), .unset] [(.ref aH)])
      refine Go.by (fun _ k => XS.iload X127.here hx rfl (hb hby at_56) rfl k) ?_
      show Go _ _ _ _ T127 (mkF m 58 #[.val (.int i0), .val (.int i1), .val (.int (0 : Int32)), .val (.ref aH), .val (.int (1 : Int32)), .val (.int (cntV aH aE aH (1 : Int32))), .unset] [(.int (1 : Int32)), (.ref aH)])
      refine Go.by (fun _ k => XS.ifYes X127.here hx rfl (pc0 := 58) (pc' := 65) rfl (hb hby at_58) rfl (XT.i0_ne_t (by decide)) (by decide) (by decide) k) ?_
      show Go _ _ _ _ T127 (mkF m 65 #[.val (.int i0), .val (.int i1), .val (.int (0 : Int32)), .val (.ref aH), .val (.int (1 : Int32)), .val (.int (cntV aH aE aH (1 : Int32))), .unset] [(.ref aH)])
      refine Go.by (fun _ k => XT.iconstV X127.here hx rfl (0 : Int32) (hb hby at_65) (by decide) k) ?_
      show Go _ _ _ _ T127 (mkF m 66 #[.val (.int i0), .val (.int i1), .val (.int (0 : Int32)), .val (.ref aH), .val (.int (1 : Int32)), .val (.int (cntV aH aE aH (1 : Int32))), .unset] [(.int (0 : Int32)), (.ref aH)])
      obtain ⟨cq130, kq130, q130a, q130b, q130c⟩ := isOf hZ e127 EH
      obtain ⟨_, _, ⟨T129, L129, k129, n129⟩, -, X129, ⟨Lc129, hQ129, l129, y129, z129⟩, st129⟩ := X127.virtualBack hx (y := (⟨"com/example/rondelle/rondelle/league/Mode", "counts", "(Z)Z"⟩ : MethodName)) (z := (⟨"com/example/rondelle/rondelle/league/Mode", "counts", "(Z)Z"⟩ : MethodName)) hown (mvT hZ (hw _ (List.mem_of_getElem? (i := 4) rfl))) (mvT hZ (hw _ (List.mem_of_getElem? (i := 5) rfl))) (notFace_of_selects (args := #[]) (mvT hZ (hw _ (List.mem_of_getElem? (i := 7) rfl)))) (mvT hZ (hw _ (List.mem_of_getElem? (i := 7) rfl))) (mvT hZ (hw _ (List.mem_of_getElem? (i := 6) rfl))) (by decide) (backOf (W := 0) (rm1 l Z a0 hw [] aH (0 : Int32) aE aH h0 n0 Z0 SE SH) hZ (hw _ (List.mem_of_getElem? (i := 8) rfl)) (hw _ (List.mem_of_getElem? (i := 2) rfl)) (by decide) (by decide)) q130a q130c (g := (mkF m 66 #[.val (.int i0), .val (.int i1), .val (.int (0 : Int32)), .val (.ref aH), .val (.int (1 : Int32)), .val (.int (cntV aH aE aH (1 : Int32))), .unset] [(.int (0 : Int32)), (.ref aH)])) rfl (by rw [hml]; rfl) (Steps.refl _) (argsL := [(.int (0 : Int32))]) (rest := []) (lenOf pd__Z_Z rfl) rfl (by show 2 * 0 + _ ≤ _; exact Nat.le_of_eq rfl) (hb hby at_66) (fun _ _ => ⟨rfl, e127, (by decide : 0 + 0 + 0 ≤ _), (by decide : 0 + 0 + 0 ≤ _)⟩)
      dsimp only [Pt.U, Pt.locs, Pt.cells, Pt.slots] at X129 l129 y129 z129 st129 hQ129
      subst l129 y129 z129
      obtain ⟨rfl, N129, e129⟩ := hQ129
      have NN129 := Fr.app NN127 N129
      refine Go.call st129 ?_
      show Go _ _ _ _ T129 (mkF m 69 #[.val (.int i0), .val (.int i1), .val (.int (0 : Int32)), .val (.ref aH), .val (.int (1 : Int32)), .val (.int (cntV aH aE aH (1 : Int32))), .unset] [(.int (cntV aH aE aH (0 : Int32)))])
      refine Go.by (fun _ k => XS.istore X129.here hx rfl (hb hby at_69) rfl (l' := #[.val (.int i0), .val (.int i1), .val (.int (0 : Int32)), .val (.ref aH), .val (.int (1 : Int32)), .val (.int (cntV aH aE aH (1 : Int32))), .val (.int (cntV aH aE aH (0 : Int32)))]) rfl k) ?_
      show Go _ _ _ _ T129 (mkF m 71 #[.val (.int i0), .val (.int i1), .val (.int (0 : Int32)), .val (.ref aH), .val (.int (1 : Int32)), .val (.int (cntV aH aE aH (1 : Int32))), .val (.int (cntV aH aE aH (0 : Int32)))] [])
      refine Go.by (fun _ k => XS.iload X129.here hx rfl (hb hby at_71) rfl k) ?_
      show Go _ _ _ _ T129 (mkF m 73 #[.val (.int i0), .val (.int i1), .val (.int (0 : Int32)), .val (.ref aH), .val (.int (1 : Int32)), .val (.int (cntV aH aE aH (1 : Int32))), .val (.int (cntV aH aE aH (0 : Int32)))] [(.int (cntV aH aE aH (1 : Int32)))])
      refine Go.by (fun _ k => XS.iloadN X129.here hx rfl (hb hby at_73) rfl k) ?_
      show Go _ _ _ _ T129 (mkF m 74 #[.val (.int i0), .val (.int i1), .val (.int (0 : Int32)), .val (.ref aH), .val (.int (1 : Int32)), .val (.int (cntV aH aE aH (1 : Int32))), .val (.int (cntV aH aE aH (0 : Int32)))] [(.int (0 : Int32)), (.int (cntV aH aE aH (1 : Int32)))])
      refine Go.by (fun _ k => XS.iload X129.here hx rfl (hb hby at_74) rfl k) ?_
      show Go _ _ _ _ T129 (mkF m 76 #[.val (.int i0), .val (.int i1), .val (.int (0 : Int32)), .val (.ref aH), .val (.int (1 : Int32)), .val (.int (cntV aH aE aH (1 : Int32))), .val (.int (cntV aH aE aH (0 : Int32)))] [(.int (1 : Int32)), (.int (0 : Int32)), (.int (cntV aH aE aH (1 : Int32)))])
      obtain ⟨_, _, ⟨T131, L131, k131, n131⟩, -, X131, ⟨Lc131, hQ131, l131, y131, z131⟩, st131⟩ := Jvm.LawKit.callS X129 hx (y := (⟨"com/example/rondelle/rondelle/league/ModeCountsPinLaw", "expected", "(IZ)Z"⟩ : MethodName)) hown (mvT hZ (hw _ (List.mem_of_getElem? (i := 12) rfl))) (mvT hZ (hw _ (List.mem_of_getElem? (i := 13) rfl))) (mvT hZ (hw _ (List.mem_of_getElem? (i := 14) rfl))) (mvT hZ (hw _ (List.mem_of_getElem? (i := 15) rfl))) (by decide) (backOf (W := 1) (rm2 l Z a0 hw [] (0 : Int32) (1 : Int32) h0 n0 Z0 ) hZ (hw _ (List.mem_of_getElem? (i := 15) rfl)) (hw _ (List.mem_of_getElem? (i := 14) rfl)) (by decide) (by decide)) (g := (mkF m 76 #[.val (.int i0), .val (.int i1), .val (.int (0 : Int32)), .val (.ref aH), .val (.int (1 : Int32)), .val (.int (cntV aH aE aH (1 : Int32))), .val (.int (cntV aH aE aH (0 : Int32)))] [(.int (1 : Int32)), (.int (0 : Int32)), (.int (cntV aH aE aH (1 : Int32)))])) rfl (by rw [hml]; rfl) (argsL := [(.int (0 : Int32)), (.int (1 : Int32))]) (rest := [(.int (cntV aH aE aH (1 : Int32)))]) (lenOf pd__IZ_Z rfl) rfl (by show 2 * 0 + _ ≤ _; exact Nat.le_of_eq rfl) (hb hby at_76) (fun _ _ => ⟨rfl, e129, (by decide : 0 + 0 + 0 + 0 ≤ _), (by decide : 0 + 0 + 0 + 0 ≤ _)⟩)
      dsimp only [Pt.U, Pt.locs, Pt.cells, Pt.slots] at X131 l131 y131 z131 st131 hQ131
      subst l131 y131 z131
      obtain ⟨rfl, N131, e131⟩ := hQ131
      have NN131 := Fr.app NN129 N131
      refine Go.by st131 ?_
      show Go _ _ _ _ T131 (mkF m 79 #[.val (.int i0), .val (.int i1), .val (.int (0 : Int32)), .val (.ref aH), .val (.int (1 : Int32)), .val (.int (cntV aH aE aH (1 : Int32))), .val (.int (cntV aH aE aH (0 : Int32)))] [(.int (expV (0 : Int32) (1 : Int32))), (.int (cntV aH aE aH (1 : Int32)))])
      refine Go.by (fun _ k => XS.icmpNo X131.here hx rfl (hb hby at_79) rfl (XT.ii_ne_f (by simp [cntV, expV, nar, n1, n2, n3, n1.symm, n2.symm, n3.symm])) k) ?_
      show Go _ _ _ _ T131 (mkF m 82 #[.val (.int i0), .val (.int i1), .val (.int (0 : Int32)), .val (.ref aH), .val (.int (1 : Int32)), .val (.int (cntV aH aE aH (1 : Int32))), .val (.int (cntV aH aE aH (0 : Int32)))] [])
      refine Go.by (fun _ k => XS.iload X131.here hx rfl (hb hby at_82) rfl k) ?_
      show Go _ _ _ _ T131 (mkF m 84 #[.val (.int i0), .val (.int i1), .val (.int (0 : Int32)), .val (.ref aH), .val (.int (1 : Int32)), .val (.int (cntV aH aE aH (1 : Int32))), .val (.int (cntV aH aE aH (0 : Int32)))] [(.int (cntV aH aE aH (0 : Int32)))])
      refine Go.by (fun _ k => XS.iloadN X131.here hx rfl (hb hby at_84) rfl k) ?_
      show Go _ _ _ _ T131 (mkF m 85 #[.val (.int i0), .val (.int i1), .val (.int (0 : Int32)), .val (.ref aH), .val (.int (1 : Int32)), .val (.int (cntV aH aE aH (1 : Int32))), .val (.int (cntV aH aE aH (0 : Int32)))] [(.int (0 : Int32)), (.int (cntV aH aE aH (0 : Int32)))])
      refine Go.by (fun _ k => XS.iload X131.here hx rfl (hb hby at_85) rfl k) ?_
      show Go _ _ _ _ T131 (mkF m 87 #[.val (.int i0), .val (.int i1), .val (.int (0 : Int32)), .val (.ref aH), .val (.int (1 : Int32)), .val (.int (cntV aH aE aH (1 : Int32))), .val (.int (cntV aH aE aH (0 : Int32)))] [(.int (1 : Int32)), (.int (0 : Int32)), (.int (cntV aH aE aH (0 : Int32)))])
      refine Go.by (fun _ k => XS.ifYes X131.here hx rfl (pc0 := 87) (pc' := 94) rfl (hb hby at_87) rfl (XT.i0_ne_t (by decide)) (by decide) (by decide) k) ?_
      show Go _ _ _ _ T131 (mkF m 94 #[.val (.int i0), .val (.int i1), .val (.int (0 : Int32)), .val (.ref aH), .val (.int (1 : Int32)), .val (.int (cntV aH aE aH (1 : Int32))), .val (.int (cntV aH aE aH (0 : Int32)))] [(.int (0 : Int32)), (.int (cntV aH aE aH (0 : Int32)))])
      refine Go.by (fun _ k => XT.iconstV X131.here hx rfl (0 : Int32) (hb hby at_94) (by decide) k) ?_
      show Go _ _ _ _ T131 (mkF m 95 #[.val (.int i0), .val (.int i1), .val (.int (0 : Int32)), .val (.ref aH), .val (.int (1 : Int32)), .val (.int (cntV aH aE aH (1 : Int32))), .val (.int (cntV aH aE aH (0 : Int32)))] [(.int (0 : Int32)), (.int (0 : Int32)), (.int (cntV aH aE aH (0 : Int32)))])
      obtain ⟨_, _, ⟨T132, L132, k132, n132⟩, -, X132, ⟨Lc132, hQ132, l132, y132, z132⟩, st132⟩ := Jvm.LawKit.callS X131 hx (y := (⟨"com/example/rondelle/rondelle/league/ModeCountsPinLaw", "expected", "(IZ)Z"⟩ : MethodName)) hown (mvT hZ (hw _ (List.mem_of_getElem? (i := 12) rfl))) (mvT hZ (hw _ (List.mem_of_getElem? (i := 13) rfl))) (mvT hZ (hw _ (List.mem_of_getElem? (i := 14) rfl))) (mvT hZ (hw _ (List.mem_of_getElem? (i := 15) rfl))) (by decide) (backOf (W := 1) (rm2 l Z a0 hw [] (0 : Int32) (0 : Int32) h0 n0 Z0 ) hZ (hw _ (List.mem_of_getElem? (i := 15) rfl)) (hw _ (List.mem_of_getElem? (i := 14) rfl)) (by decide) (by decide)) (g := (mkF m 95 #[.val (.int i0), .val (.int i1), .val (.int (0 : Int32)), .val (.ref aH), .val (.int (1 : Int32)), .val (.int (cntV aH aE aH (1 : Int32))), .val (.int (cntV aH aE aH (0 : Int32)))] [(.int (0 : Int32)), (.int (0 : Int32)), (.int (cntV aH aE aH (0 : Int32)))])) rfl (by rw [hml]; rfl) (argsL := [(.int (0 : Int32)), (.int (0 : Int32))]) (rest := [(.int (cntV aH aE aH (0 : Int32)))]) (lenOf pd__IZ_Z rfl) rfl (by show 2 * 0 + _ ≤ _; exact Nat.le_of_eq rfl) (hb hby at_95) (fun _ _ => ⟨rfl, e131, (by decide : 0 + 0 + 0 + 0 + 0 ≤ _), (by decide : 0 + 0 + 0 + 0 + 0 ≤ _)⟩)
      dsimp only [Pt.U, Pt.locs, Pt.cells, Pt.slots] at X132 l132 y132 z132 st132 hQ132
      subst l132 y132 z132
      obtain ⟨rfl, N132, e132⟩ := hQ132
      have NN132 := Fr.app NN131 N132
      refine Go.by st132 ?_
      show Go _ _ _ _ T132 (mkF m 98 #[.val (.int i0), .val (.int i1), .val (.int (0 : Int32)), .val (.ref aH), .val (.int (1 : Int32)), .val (.int (cntV aH aE aH (1 : Int32))), .val (.int (cntV aH aE aH (0 : Int32)))] [(.int (expV (0 : Int32) (0 : Int32))), (.int (cntV aH aE aH (0 : Int32)))])
      refine Go.by (fun _ k => XS.icmpNo X132.here hx rfl (hb hby at_98) rfl (XT.ii_ne_f (by simp [cntV, expV, nar, n1, n2, n3, n1.symm, n2.symm, n3.symm])) k) ?_
      show Go _ _ _ _ T132 (mkF m 101 #[.val (.int i0), .val (.int i1), .val (.int (0 : Int32)), .val (.ref aH), .val (.int (1 : Int32)), .val (.int (cntV aH aE aH (1 : Int32))), .val (.int (cntV aH aE aH (0 : Int32)))] [])
      refine Go.by (fun _ k => XT.iconstV X132.here hx rfl (1 : Int32) (hb hby at_101) (by decide) k) ?_
      show Go _ _ _ _ T132 (mkF m 102 #[.val (.int i0), .val (.int i1), .val (.int (0 : Int32)), .val (.ref aH), .val (.int (1 : Int32)), .val (.int (cntV aH aE aH (1 : Int32))), .val (.int (cntV aH aE aH (0 : Int32)))] [(.int (1 : Int32))])
      refine Go.by (fun _ k => XS.goto X132.here hx rfl (pc0 := 102) (pc' := 106) rfl (hb hby at_102) (by decide) (by decide) k) ?_
      show Go _ _ _ _ T132 (mkF m 106 #[.val (.int i0), .val (.int i1), .val (.int (0 : Int32)), .val (.ref aH), .val (.int (1 : Int32)), .val (.int (cntV aH aE aH (1 : Int32))), .val (.int (cntV aH aE aH (0 : Int32)))] [(.int (1 : Int32))])
      exact Go.retZ X132 hx Bd.notSynchronized (t := .boolean) Bd.returns (by simp) (hb hby at_106) ⟨rfl, NN132⟩ (by decide) (by decide)
  · show Go _ _ _ _ s₁ (mkF m 7 #[.val (.int i0), .val (.int i1), .val (.int (1 : Int32)), .unset, .unset, .unset, .unset] [])
    refine Go.by (fun _ k => XS.iloadN X0.here hx rfl (hb hby at_7) rfl k) ?_
    show Go _ _ _ _ s₁ (mkF m 8 #[.val (.int i0), .val (.int i1), .val (.int (1 : Int32)), .unset, .unset, .unset, .unset] [(.int (1 : Int32))])
    refine Go.by (fun _ k => XS.ifYes X0.here hx rfl (pc0 := 8) (pc' := 18) rfl (hb hby at_8) rfl (XT.i0_ne_t (by decide)) (by decide) (by decide) k) ?_
    show Go _ _ _ _ s₁ (mkF m 18 #[.val (.int i0), .val (.int i1), .val (.int (1 : Int32)), .unset, .unset, .unset, .unset] [])
    refine Go.by (fun _ k => XS.iloadN X0.here hx rfl (hb hby at_18) rfl k) ?_
    show Go _ _ _ _ s₁ (mkF m 19 #[.val (.int i0), .val (.int i1), .val (.int (1 : Int32)), .unset, .unset, .unset, .unset] [(.int (1 : Int32))])
    refine Go.by (fun _ k => XT.iconstV X0.here hx rfl (1 : Int32) (hb hby at_19) (by decide) k) ?_
    show Go _ _ _ _ s₁ (mkF m 20 #[.val (.int i0), .val (.int i1), .val (.int (1 : Int32)), .unset, .unset, .unset, .unset] [(.int (1 : Int32)), (.int (1 : Int32))])
    refine Go.by (fun _ k => XS.icmpNo X0.here hx rfl (hb hby at_20) rfl (XT.ii_ne_f (by decide)) k) ?_
    show Go _ _ _ _ s₁ (mkF m 23 #[.val (.int i0), .val (.int i1), .val (.int (1 : Int32)), .unset, .unset, .unset, .unset] [])
    obtain ⟨T133, X134, e135, st136⟩ := getS X0 hx hZ hown (host := "") (hw _ (List.mem_of_getElem? (i := 17) rfl)) Via.refl e0 SA (g := (mkF m 23 #[.val (.int i0), .val (.int i1), .val (.int (1 : Int32)), .unset, .unset, .unset, .unset] [])) rfl (hb hby at_23)
    refine Go.by st136 ?_
    show Go _ _ _ _ T133 (mkF m 26 #[.val (.int i0), .val (.int i1), .val (.int (1 : Int32)), .unset, .unset, .unset, .unset] [(.ref aA)])
    refine Go.by (fun _ k => XS.astoreN X134.here hx rfl (hb hby at_26) rfl rfl (l' := #[.val (.int i0), .val (.int i1), .val (.int (1 : Int32)), .val (.ref aA), .unset, .unset, .unset]) rfl k) ?_
    show Go _ _ _ _ T133 (mkF m 27 #[.val (.int i0), .val (.int i1), .val (.int (1 : Int32)), .val (.ref aA), .unset, .unset, .unset] [])
    refine Go.by (fun _ k => XS.goto X134.here hx rfl (pc0 := 27) (pc' := 34) rfl (hb hby at_27) (by decide) (by decide) k) ?_
    show Go _ _ _ _ T133 (mkF m 34 #[.val (.int i0), .val (.int i1), .val (.int (1 : Int32)), .val (.ref aA), .unset, .unset, .unset] [])
    refine Go.by (fun _ k => XS.iloadN X134.here hx rfl (hb hby at_34) rfl k) ?_
    show Go _ _ _ _ T133 (mkF m 35 #[.val (.int i0), .val (.int i1), .val (.int (1 : Int32)), .val (.ref aA), .unset, .unset, .unset] [(.int i1)])
    refine Go.by (fun _ k => XT.iconstV X134.here hx rfl (1 : Int32) (hb hby at_35) (by decide) k) ?_
    show Go _ _ _ _ T133 (mkF m 36 #[.val (.int i0), .val (.int i1), .val (.int (1 : Int32)), .val (.ref aA), .unset, .unset, .unset] [(.int (1 : Int32)), (.int i1)])
    refine Go.by (fun _ k => XS.iand X134.here hx rfl (hb hby at_36) rfl k) ?_
    show Go _ _ _ _ T133 (mkF m 37 #[.val (.int i0), .val (.int i1), .val (.int (1 : Int32)), .val (.ref aA), .unset, .unset, .unset] [(.int (i1 &&& (1 : Int32)))])
    by_cases c137 : (i1 &&& (1 : Int32)) = 0
    · refine Go.by (fun _ k => XS.ifYes X134.here hx rfl (pc0 := 37) (pc' := 44) rfl (hb hby at_37) rfl (XT.i0_eq_t c137) (by decide) (by decide) k) ?_
      show Go _ _ _ _ T133 (mkF m 44 #[.val (.int i0), .val (.int i1), .val (.int (1 : Int32)), .val (.ref aA), .unset, .unset, .unset] [])
      refine Go.by (fun _ k => XT.iconstV X134.here hx rfl (0 : Int32) (hb hby at_44) (by decide) k) ?_
      show Go _ _ _ _ T133 (mkF m 45 #[.val (.int i0), .val (.int i1), .val (.int (1 : Int32)), .val (.ref aA), .unset, .unset, .unset] [(.int (0 : Int32))])
      refine Go.by (fun _ k => XS.istore X134.here hx rfl (hb hby at_45) rfl (l' := #[.val (.int i0), .val (.int i1), .val (.int (1 : Int32)), .val (.ref aA), .val (.int (0 : Int32)), .unset, .unset]) rfl k) ?_
      show Go _ _ _ _ T133 (mkF m 47 #[.val (.int i0), .val (.int i1), .val (.int (1 : Int32)), .val (.ref aA), .val (.int (0 : Int32)), .unset, .unset] [])
      refine Go.by (fun _ k => XS.aloadN X134.here hx rfl (hb hby at_47) rfl rfl k) ?_
      show Go _ _ _ _ T133 (mkF m 48 #[.val (.int i0), .val (.int i1), .val (.int (1 : Int32)), .val (.ref aA), .val (.int (0 : Int32)), .unset, .unset] [(.ref aA)])
      refine Go.by (fun _ k => XS.iload X134.here hx rfl (hb hby at_48) rfl k) ?_
      show Go _ _ _ _ T133 (mkF m 50 #[.val (.int i0), .val (.int i1), .val (.int (1 : Int32)), .val (.ref aA), .val (.int (0 : Int32)), .unset, .unset] [(.int (0 : Int32)), (.ref aA)])
      obtain ⟨cq139, kq139, q139a, q139b, q139c⟩ := isOf hZ e135 EA
      obtain ⟨_, _, ⟨T138, L138, k138, n138⟩, -, X138, ⟨Lc138, hQ138, l138, y138, z138⟩, st138⟩ := X134.virtualBack hx (y := (⟨"com/example/rondelle/rondelle/league/Mode", "counts", "(Z)Z"⟩ : MethodName)) (z := (⟨"com/example/rondelle/rondelle/league/Mode", "counts", "(Z)Z"⟩ : MethodName)) hown (mvT hZ (hw _ (List.mem_of_getElem? (i := 4) rfl))) (mvT hZ (hw _ (List.mem_of_getElem? (i := 5) rfl))) (notFace_of_selects (args := #[]) (mvT hZ (hw _ (List.mem_of_getElem? (i := 7) rfl)))) (mvT hZ (hw _ (List.mem_of_getElem? (i := 7) rfl))) (mvT hZ (hw _ (List.mem_of_getElem? (i := 6) rfl))) (by decide) (backOf (W := 0) (rm1 l Z a0 hw [] aA (0 : Int32) aE aH h0 n0 Z0 SE SH) hZ (hw _ (List.mem_of_getElem? (i := 8) rfl)) (hw _ (List.mem_of_getElem? (i := 2) rfl)) (by decide) (by decide)) q139a q139c (g := (mkF m 50 #[.val (.int i0), .val (.int i1), .val (.int (1 : Int32)), .val (.ref aA), .val (.int (0 : Int32)), .unset, .unset] [(.int (0 : Int32)), (.ref aA)])) rfl (by rw [hml]; rfl) (Steps.refl _) (argsL := [(.int (0 : Int32))]) (rest := []) (lenOf pd__Z_Z rfl) rfl (by show 2 * 0 + _ ≤ _; exact Nat.le_of_eq rfl) (hb hby at_50) (fun _ _ => ⟨rfl, e135, (by decide : 0 + 0 ≤ _), (by decide : 0 + 0 ≤ _)⟩)
      dsimp only [Pt.U, Pt.locs, Pt.cells, Pt.slots] at X138 l138 y138 z138 st138 hQ138
      subst l138 y138 z138
      obtain ⟨rfl, N138, e138⟩ := hQ138
      have NN138 := Fr.app N0 N138
      refine Go.call st138 ?_
      show Go _ _ _ _ T138 (mkF m 53 #[.val (.int i0), .val (.int i1), .val (.int (1 : Int32)), .val (.ref aA), .val (.int (0 : Int32)), .unset, .unset] [(.int (cntV aA aE aH (0 : Int32)))])
      refine Go.by (fun _ k => XS.istore X138.here hx rfl (hb hby at_53) rfl (l' := #[.val (.int i0), .val (.int i1), .val (.int (1 : Int32)), .val (.ref aA), .val (.int (0 : Int32)), .val (.int (cntV aA aE aH (0 : Int32))), .unset]) rfl k) ?_
      show Go _ _ _ _ T138 (mkF m 55 #[.val (.int i0), .val (.int i1), .val (.int (1 : Int32)), .val (.ref aA), .val (.int (0 : Int32)), .val (.int (cntV aA aE aH (0 : Int32))), .unset] [])
      refine Go.by (fun _ k => XS.aloadN X138.here hx rfl (hb hby at_55) rfl rfl k) ?_
      show Go _ _ _ _ T138 (mkF m 56 #[.val (.int i0), .val (.int i1), .val (.int (1 : Int32)), .val (.ref aA), .val (.int (0 : Int32)), .val (.int (cntV aA aE aH (0 : Int32))), .unset] [(.ref aA)])
      refine Go.by (fun _ k => XS.iload X138.here hx rfl (hb hby at_56) rfl k) ?_
      show Go _ _ _ _ T138 (mkF m 58 #[.val (.int i0), .val (.int i1), .val (.int (1 : Int32)), .val (.ref aA), .val (.int (0 : Int32)), .val (.int (cntV aA aE aH (0 : Int32))), .unset] [(.int (0 : Int32)), (.ref aA)])
      refine Go.by (fun _ k => XS.ifNo X138.here hx rfl (hb hby at_58) rfl (XT.i0_ne_f (by decide)) k) ?_
      show Go _ _ _ _ T138 (mkF m 61 #[.val (.int i0), .val (.int i1), .val (.int (1 : Int32)), .val (.ref aA), .val (.int (0 : Int32)), .val (.int (cntV aA aE aH (0 : Int32))), .unset] [(.ref aA)])
      refine Go.by (fun _ k => XT.iconstV X138.here hx rfl (1 : Int32) (hb hby at_61) (by decide) k) ?_
      show Go _ _ _ _ T138 (mkF m 62 #[.val (.int i0), .val (.int i1), .val (.int (1 : Int32)), .val (.ref aA), .val (.int (0 : Int32)), .val (.int (cntV aA aE aH (0 : Int32))), .unset] [(.int (1 : Int32)), (.ref aA)])
      refine Go.by (fun _ k => XS.goto X138.here hx rfl (pc0 := 62) (pc' := 66) rfl (hb hby at_62) (by decide) (by decide) k) ?_
      show Go _ _ _ _ T138 (mkF m 66 #[.val (.int i0), .val (.int i1), .val (.int (1 : Int32)), .val (.ref aA), .val (.int (0 : Int32)), .val (.int (cntV aA aE aH (0 : Int32))), .unset] [(.int (1 : Int32)), (.ref aA)])
      obtain ⟨cq141, kq141, q141a, q141b, q141c⟩ := isOf hZ e138 EA
      obtain ⟨_, _, ⟨T140, L140, k140, n140⟩, -, X140, ⟨Lc140, hQ140, l140, y140, z140⟩, st140⟩ := X138.virtualBack hx (y := (⟨"com/example/rondelle/rondelle/league/Mode", "counts", "(Z)Z"⟩ : MethodName)) (z := (⟨"com/example/rondelle/rondelle/league/Mode", "counts", "(Z)Z"⟩ : MethodName)) hown (mvT hZ (hw _ (List.mem_of_getElem? (i := 4) rfl))) (mvT hZ (hw _ (List.mem_of_getElem? (i := 5) rfl))) (notFace_of_selects (args := #[]) (mvT hZ (hw _ (List.mem_of_getElem? (i := 7) rfl)))) (mvT hZ (hw _ (List.mem_of_getElem? (i := 7) rfl))) (mvT hZ (hw _ (List.mem_of_getElem? (i := 6) rfl))) (by decide) (backOf (W := 0) (rm1 l Z a0 hw [] aA (1 : Int32) aE aH h0 n0 Z0 SE SH) hZ (hw _ (List.mem_of_getElem? (i := 8) rfl)) (hw _ (List.mem_of_getElem? (i := 2) rfl)) (by decide) (by decide)) q141a q141c (g := (mkF m 66 #[.val (.int i0), .val (.int i1), .val (.int (1 : Int32)), .val (.ref aA), .val (.int (0 : Int32)), .val (.int (cntV aA aE aH (0 : Int32))), .unset] [(.int (1 : Int32)), (.ref aA)])) rfl (by rw [hml]; rfl) (Steps.refl _) (argsL := [(.int (1 : Int32))]) (rest := []) (lenOf pd__Z_Z rfl) rfl (by show 2 * 0 + _ ≤ _; exact Nat.le_of_eq rfl) (hb hby at_66) (fun _ _ => ⟨rfl, e138, (by decide : 0 + 0 + 0 ≤ _), (by decide : 0 + 0 + 0 ≤ _)⟩)
      dsimp only [Pt.U, Pt.locs, Pt.cells, Pt.slots] at X140 l140 y140 z140 st140 hQ140
      subst l140 y140 z140
      obtain ⟨rfl, N140, e140⟩ := hQ140
      have NN140 := Fr.app NN138 N140
      refine Go.call st140 ?_
      show Go _ _ _ _ T140 (mkF m 69 #[.val (.int i0), .val (.int i1), .val (.int (1 : Int32)), .val (.ref aA), .val (.int (0 : Int32)), .val (.int (cntV aA aE aH (0 : Int32))), .unset] [(.int (cntV aA aE aH (1 : Int32)))])
      refine Go.by (fun _ k => XS.istore X140.here hx rfl (hb hby at_69) rfl (l' := #[.val (.int i0), .val (.int i1), .val (.int (1 : Int32)), .val (.ref aA), .val (.int (0 : Int32)), .val (.int (cntV aA aE aH (0 : Int32))), .val (.int (cntV aA aE aH (1 : Int32)))]) rfl k) ?_
      show Go _ _ _ _ T140 (mkF m 71 #[.val (.int i0), .val (.int i1), .val (.int (1 : Int32)), .val (.ref aA), .val (.int (0 : Int32)), .val (.int (cntV aA aE aH (0 : Int32))), .val (.int (cntV aA aE aH (1 : Int32)))] [])
      refine Go.by (fun _ k => XS.iload X140.here hx rfl (hb hby at_71) rfl k) ?_
      show Go _ _ _ _ T140 (mkF m 73 #[.val (.int i0), .val (.int i1), .val (.int (1 : Int32)), .val (.ref aA), .val (.int (0 : Int32)), .val (.int (cntV aA aE aH (0 : Int32))), .val (.int (cntV aA aE aH (1 : Int32)))] [(.int (cntV aA aE aH (0 : Int32)))])
      refine Go.by (fun _ k => XS.iloadN X140.here hx rfl (hb hby at_73) rfl k) ?_
      show Go _ _ _ _ T140 (mkF m 74 #[.val (.int i0), .val (.int i1), .val (.int (1 : Int32)), .val (.ref aA), .val (.int (0 : Int32)), .val (.int (cntV aA aE aH (0 : Int32))), .val (.int (cntV aA aE aH (1 : Int32)))] [(.int (1 : Int32)), (.int (cntV aA aE aH (0 : Int32)))])
      refine Go.by (fun _ k => XS.iload X140.here hx rfl (hb hby at_74) rfl k) ?_
      show Go _ _ _ _ T140 (mkF m 76 #[.val (.int i0), .val (.int i1), .val (.int (1 : Int32)), .val (.ref aA), .val (.int (0 : Int32)), .val (.int (cntV aA aE aH (0 : Int32))), .val (.int (cntV aA aE aH (1 : Int32)))] [(.int (0 : Int32)), (.int (1 : Int32)), (.int (cntV aA aE aH (0 : Int32)))])
      obtain ⟨_, _, ⟨T142, L142, k142, n142⟩, -, X142, ⟨Lc142, hQ142, l142, y142, z142⟩, st142⟩ := Jvm.LawKit.callS X140 hx (y := (⟨"com/example/rondelle/rondelle/league/ModeCountsPinLaw", "expected", "(IZ)Z"⟩ : MethodName)) hown (mvT hZ (hw _ (List.mem_of_getElem? (i := 12) rfl))) (mvT hZ (hw _ (List.mem_of_getElem? (i := 13) rfl))) (mvT hZ (hw _ (List.mem_of_getElem? (i := 14) rfl))) (mvT hZ (hw _ (List.mem_of_getElem? (i := 15) rfl))) (by decide) (backOf (W := 1) (rm2 l Z a0 hw [] (1 : Int32) (0 : Int32) h0 n0 Z0 ) hZ (hw _ (List.mem_of_getElem? (i := 15) rfl)) (hw _ (List.mem_of_getElem? (i := 14) rfl)) (by decide) (by decide)) (g := (mkF m 76 #[.val (.int i0), .val (.int i1), .val (.int (1 : Int32)), .val (.ref aA), .val (.int (0 : Int32)), .val (.int (cntV aA aE aH (0 : Int32))), .val (.int (cntV aA aE aH (1 : Int32)))] [(.int (0 : Int32)), (.int (1 : Int32)), (.int (cntV aA aE aH (0 : Int32)))])) rfl (by rw [hml]; rfl) (argsL := [(.int (1 : Int32)), (.int (0 : Int32))]) (rest := [(.int (cntV aA aE aH (0 : Int32)))]) (lenOf pd__IZ_Z rfl) rfl (by show 2 * 0 + _ ≤ _; exact Nat.le_of_eq rfl) (hb hby at_76) (fun _ _ => ⟨rfl, e140, (by decide : 0 + 0 + 0 + 0 ≤ _), (by decide : 0 + 0 + 0 + 0 ≤ _)⟩)
      dsimp only [Pt.U, Pt.locs, Pt.cells, Pt.slots] at X142 l142 y142 z142 st142 hQ142
      subst l142 y142 z142
      obtain ⟨rfl, N142, e142⟩ := hQ142
      have NN142 := Fr.app NN140 N142
      refine Go.by st142 ?_
      show Go _ _ _ _ T142 (mkF m 79 #[.val (.int i0), .val (.int i1), .val (.int (1 : Int32)), .val (.ref aA), .val (.int (0 : Int32)), .val (.int (cntV aA aE aH (0 : Int32))), .val (.int (cntV aA aE aH (1 : Int32)))] [(.int (expV (1 : Int32) (0 : Int32))), (.int (cntV aA aE aH (0 : Int32)))])
      refine Go.by (fun _ k => XS.icmpNo X142.here hx rfl (hb hby at_79) rfl (XT.ii_ne_f (by simp [cntV, expV, nar, n1, n2, n3, n1.symm, n2.symm, n3.symm])) k) ?_
      show Go _ _ _ _ T142 (mkF m 82 #[.val (.int i0), .val (.int i1), .val (.int (1 : Int32)), .val (.ref aA), .val (.int (0 : Int32)), .val (.int (cntV aA aE aH (0 : Int32))), .val (.int (cntV aA aE aH (1 : Int32)))] [])
      refine Go.by (fun _ k => XS.iload X142.here hx rfl (hb hby at_82) rfl k) ?_
      show Go _ _ _ _ T142 (mkF m 84 #[.val (.int i0), .val (.int i1), .val (.int (1 : Int32)), .val (.ref aA), .val (.int (0 : Int32)), .val (.int (cntV aA aE aH (0 : Int32))), .val (.int (cntV aA aE aH (1 : Int32)))] [(.int (cntV aA aE aH (1 : Int32)))])
      refine Go.by (fun _ k => XS.iloadN X142.here hx rfl (hb hby at_84) rfl k) ?_
      show Go _ _ _ _ T142 (mkF m 85 #[.val (.int i0), .val (.int i1), .val (.int (1 : Int32)), .val (.ref aA), .val (.int (0 : Int32)), .val (.int (cntV aA aE aH (0 : Int32))), .val (.int (cntV aA aE aH (1 : Int32)))] [(.int (1 : Int32)), (.int (cntV aA aE aH (1 : Int32)))])
      refine Go.by (fun _ k => XS.iload X142.here hx rfl (hb hby at_85) rfl k) ?_
      show Go _ _ _ _ T142 (mkF m 87 #[.val (.int i0), .val (.int i1), .val (.int (1 : Int32)), .val (.ref aA), .val (.int (0 : Int32)), .val (.int (cntV aA aE aH (0 : Int32))), .val (.int (cntV aA aE aH (1 : Int32)))] [(.int (0 : Int32)), (.int (1 : Int32)), (.int (cntV aA aE aH (1 : Int32)))])
      refine Go.by (fun _ k => XS.ifNo X142.here hx rfl (hb hby at_87) rfl (XT.i0_ne_f (by decide)) k) ?_
      show Go _ _ _ _ T142 (mkF m 90 #[.val (.int i0), .val (.int i1), .val (.int (1 : Int32)), .val (.ref aA), .val (.int (0 : Int32)), .val (.int (cntV aA aE aH (0 : Int32))), .val (.int (cntV aA aE aH (1 : Int32)))] [(.int (1 : Int32)), (.int (cntV aA aE aH (1 : Int32)))])
      refine Go.by (fun _ k => XT.iconstV X142.here hx rfl (1 : Int32) (hb hby at_90) (by decide) k) ?_
      show Go _ _ _ _ T142 (mkF m 91 #[.val (.int i0), .val (.int i1), .val (.int (1 : Int32)), .val (.ref aA), .val (.int (0 : Int32)), .val (.int (cntV aA aE aH (0 : Int32))), .val (.int (cntV aA aE aH (1 : Int32)))] [(.int (1 : Int32)), (.int (1 : Int32)), (.int (cntV aA aE aH (1 : Int32)))])
      refine Go.by (fun _ k => XS.goto X142.here hx rfl (pc0 := 91) (pc' := 95) rfl (hb hby at_91) (by decide) (by decide) k) ?_
      show Go _ _ _ _ T142 (mkF m 95 #[.val (.int i0), .val (.int i1), .val (.int (1 : Int32)), .val (.ref aA), .val (.int (0 : Int32)), .val (.int (cntV aA aE aH (0 : Int32))), .val (.int (cntV aA aE aH (1 : Int32)))] [(.int (1 : Int32)), (.int (1 : Int32)), (.int (cntV aA aE aH (1 : Int32)))])
      obtain ⟨_, _, ⟨T143, L143, k143, n143⟩, -, X143, ⟨Lc143, hQ143, l143, y143, z143⟩, st143⟩ := Jvm.LawKit.callS X142 hx (y := (⟨"com/example/rondelle/rondelle/league/ModeCountsPinLaw", "expected", "(IZ)Z"⟩ : MethodName)) hown (mvT hZ (hw _ (List.mem_of_getElem? (i := 12) rfl))) (mvT hZ (hw _ (List.mem_of_getElem? (i := 13) rfl))) (mvT hZ (hw _ (List.mem_of_getElem? (i := 14) rfl))) (mvT hZ (hw _ (List.mem_of_getElem? (i := 15) rfl))) (by decide) (backOf (W := 1) (rm2 l Z a0 hw [] (1 : Int32) (1 : Int32) h0 n0 Z0 ) hZ (hw _ (List.mem_of_getElem? (i := 15) rfl)) (hw _ (List.mem_of_getElem? (i := 14) rfl)) (by decide) (by decide)) (g := (mkF m 95 #[.val (.int i0), .val (.int i1), .val (.int (1 : Int32)), .val (.ref aA), .val (.int (0 : Int32)), .val (.int (cntV aA aE aH (0 : Int32))), .val (.int (cntV aA aE aH (1 : Int32)))] [(.int (1 : Int32)), (.int (1 : Int32)), (.int (cntV aA aE aH (1 : Int32)))])) rfl (by rw [hml]; rfl) (argsL := [(.int (1 : Int32)), (.int (1 : Int32))]) (rest := [(.int (cntV aA aE aH (1 : Int32)))]) (lenOf pd__IZ_Z rfl) rfl (by show 2 * 0 + _ ≤ _; exact Nat.le_of_eq rfl) (hb hby at_95) (fun _ _ => ⟨rfl, e142, (by decide : 0 + 0 + 0 + 0 + 0 ≤ _), (by decide : 0 + 0 + 0 + 0 + 0 ≤ _)⟩)
      dsimp only [Pt.U, Pt.locs, Pt.cells, Pt.slots] at X143 l143 y143 z143 st143 hQ143
      subst l143 y143 z143
      obtain ⟨rfl, N143, e143⟩ := hQ143
      have NN143 := Fr.app NN142 N143
      refine Go.by st143 ?_
      show Go _ _ _ _ T143 (mkF m 98 #[.val (.int i0), .val (.int i1), .val (.int (1 : Int32)), .val (.ref aA), .val (.int (0 : Int32)), .val (.int (cntV aA aE aH (0 : Int32))), .val (.int (cntV aA aE aH (1 : Int32)))] [(.int (expV (1 : Int32) (1 : Int32))), (.int (cntV aA aE aH (1 : Int32)))])
      refine Go.by (fun _ k => XS.icmpNo X143.here hx rfl (hb hby at_98) rfl (XT.ii_ne_f (by simp [cntV, expV, nar, n1, n2, n3, n1.symm, n2.symm, n3.symm])) k) ?_
      show Go _ _ _ _ T143 (mkF m 101 #[.val (.int i0), .val (.int i1), .val (.int (1 : Int32)), .val (.ref aA), .val (.int (0 : Int32)), .val (.int (cntV aA aE aH (0 : Int32))), .val (.int (cntV aA aE aH (1 : Int32)))] [])
      refine Go.by (fun _ k => XT.iconstV X143.here hx rfl (1 : Int32) (hb hby at_101) (by decide) k) ?_
      show Go _ _ _ _ T143 (mkF m 102 #[.val (.int i0), .val (.int i1), .val (.int (1 : Int32)), .val (.ref aA), .val (.int (0 : Int32)), .val (.int (cntV aA aE aH (0 : Int32))), .val (.int (cntV aA aE aH (1 : Int32)))] [(.int (1 : Int32))])
      refine Go.by (fun _ k => XS.goto X143.here hx rfl (pc0 := 102) (pc' := 106) rfl (hb hby at_102) (by decide) (by decide) k) ?_
      show Go _ _ _ _ T143 (mkF m 106 #[.val (.int i0), .val (.int i1), .val (.int (1 : Int32)), .val (.ref aA), .val (.int (0 : Int32)), .val (.int (cntV aA aE aH (0 : Int32))), .val (.int (cntV aA aE aH (1 : Int32)))] [(.int (1 : Int32))])
      exact Go.retZ X143 hx Bd.notSynchronized (t := .boolean) Bd.returns (by simp) (hb hby at_106) ⟨rfl, NN143⟩ (by decide) (by decide)
    · refine Go.by (fun _ k => XS.ifNo X134.here hx rfl (hb hby at_37) rfl (XT.i0_eq_f c137) k) ?_
      show Go _ _ _ _ T133 (mkF m 40 #[.val (.int i0), .val (.int i1), .val (.int (1 : Int32)), .val (.ref aA), .unset, .unset, .unset] [])
      refine Go.by (fun _ k => XT.iconstV X134.here hx rfl (1 : Int32) (hb hby at_40) (by decide) k) ?_
      show Go _ _ _ _ T133 (mkF m 41 #[.val (.int i0), .val (.int i1), .val (.int (1 : Int32)), .val (.ref aA), .unset, .unset, .unset] [(.int (1 : Int32))])
      refine Go.by (fun _ k => XS.goto X134.here hx rfl (pc0 := 41) (pc' := 45) rfl (hb hby at_41) (by decide) (by decide) k) ?_
      show Go _ _ _ _ T133 (mkF m 45 #[.val (.int i0), .val (.int i1), .val (.int (1 : Int32)), .val (.ref aA), .unset, .unset, .unset] [(.int (1 : Int32))])
      refine Go.by (fun _ k => XS.istore X134.here hx rfl (hb hby at_45) rfl (l' := #[.val (.int i0), .val (.int i1), .val (.int (1 : Int32)), .val (.ref aA), .val (.int (1 : Int32)), .unset, .unset]) rfl k) ?_
      show Go _ _ _ _ T133 (mkF m 47 #[.val (.int i0), .val (.int i1), .val (.int (1 : Int32)), .val (.ref aA), .val (.int (1 : Int32)), .unset, .unset] [])
      refine Go.by (fun _ k => XS.aloadN X134.here hx rfl (hb hby at_47) rfl rfl k) ?_
      show Go _ _ _ _ T133 (mkF m 48 #[.val (.int i0), .val (.int i1), .val (.int (1 : Int32)), .val (.ref aA), .val (.int (1 : Int32)), .unset, .unset] [(.ref aA)])
      refine Go.by (fun _ k => XS.iload X134.here hx rfl (hb hby at_48) rfl k) ?_
      show Go _ _ _ _ T133 (mkF m 50 #[.val (.int i0), .val (.int i1), .val (.int (1 : Int32)), .val (.ref aA), .val (.int (1 : Int32)), .unset, .unset] [(.int (1 : Int32)), (.ref aA)])
      obtain ⟨cq145, kq145, q145a, q145b, q145c⟩ := isOf hZ e135 EA
      obtain ⟨_, _, ⟨T144, L144, k144, n144⟩, -, X144, ⟨Lc144, hQ144, l144, y144, z144⟩, st144⟩ := X134.virtualBack hx (y := (⟨"com/example/rondelle/rondelle/league/Mode", "counts", "(Z)Z"⟩ : MethodName)) (z := (⟨"com/example/rondelle/rondelle/league/Mode", "counts", "(Z)Z"⟩ : MethodName)) hown (mvT hZ (hw _ (List.mem_of_getElem? (i := 4) rfl))) (mvT hZ (hw _ (List.mem_of_getElem? (i := 5) rfl))) (notFace_of_selects (args := #[]) (mvT hZ (hw _ (List.mem_of_getElem? (i := 7) rfl)))) (mvT hZ (hw _ (List.mem_of_getElem? (i := 7) rfl))) (mvT hZ (hw _ (List.mem_of_getElem? (i := 6) rfl))) (by decide) (backOf (W := 0) (rm1 l Z a0 hw [] aA (1 : Int32) aE aH h0 n0 Z0 SE SH) hZ (hw _ (List.mem_of_getElem? (i := 8) rfl)) (hw _ (List.mem_of_getElem? (i := 2) rfl)) (by decide) (by decide)) q145a q145c (g := (mkF m 50 #[.val (.int i0), .val (.int i1), .val (.int (1 : Int32)), .val (.ref aA), .val (.int (1 : Int32)), .unset, .unset] [(.int (1 : Int32)), (.ref aA)])) rfl (by rw [hml]; rfl) (Steps.refl _) (argsL := [(.int (1 : Int32))]) (rest := []) (lenOf pd__Z_Z rfl) rfl (by show 2 * 0 + _ ≤ _; exact Nat.le_of_eq rfl) (hb hby at_50) (fun _ _ => ⟨rfl, e135, (by decide : 0 + 0 ≤ _), (by decide : 0 + 0 ≤ _)⟩)
      dsimp only [Pt.U, Pt.locs, Pt.cells, Pt.slots] at X144 l144 y144 z144 st144 hQ144
      subst l144 y144 z144
      obtain ⟨rfl, N144, e144⟩ := hQ144
      have NN144 := Fr.app N0 N144
      refine Go.call st144 ?_
      show Go _ _ _ _ T144 (mkF m 53 #[.val (.int i0), .val (.int i1), .val (.int (1 : Int32)), .val (.ref aA), .val (.int (1 : Int32)), .unset, .unset] [(.int (cntV aA aE aH (1 : Int32)))])
      refine Go.by (fun _ k => XS.istore X144.here hx rfl (hb hby at_53) rfl (l' := #[.val (.int i0), .val (.int i1), .val (.int (1 : Int32)), .val (.ref aA), .val (.int (1 : Int32)), .val (.int (cntV aA aE aH (1 : Int32))), .unset]) rfl k) ?_
      show Go _ _ _ _ T144 (mkF m 55 #[.val (.int i0), .val (.int i1), .val (.int (1 : Int32)), .val (.ref aA), .val (.int (1 : Int32)), .val (.int (cntV aA aE aH (1 : Int32))), .unset] [])
      refine Go.by (fun _ k => XS.aloadN X144.here hx rfl (hb hby at_55) rfl rfl k) ?_
      show Go _ _ _ _ T144 (mkF m 56 #[.val (.int i0), .val (.int i1), .val (.int (1 : Int32)), .val (.ref aA), .val (.int (1 : Int32)), .val (.int (cntV aA aE aH (1 : Int32))), .unset] [(.ref aA)])
      refine Go.by (fun _ k => XS.iload X144.here hx rfl (hb hby at_56) rfl k) ?_
      show Go _ _ _ _ T144 (mkF m 58 #[.val (.int i0), .val (.int i1), .val (.int (1 : Int32)), .val (.ref aA), .val (.int (1 : Int32)), .val (.int (cntV aA aE aH (1 : Int32))), .unset] [(.int (1 : Int32)), (.ref aA)])
      refine Go.by (fun _ k => XS.ifYes X144.here hx rfl (pc0 := 58) (pc' := 65) rfl (hb hby at_58) rfl (XT.i0_ne_t (by decide)) (by decide) (by decide) k) ?_
      show Go _ _ _ _ T144 (mkF m 65 #[.val (.int i0), .val (.int i1), .val (.int (1 : Int32)), .val (.ref aA), .val (.int (1 : Int32)), .val (.int (cntV aA aE aH (1 : Int32))), .unset] [(.ref aA)])
      refine Go.by (fun _ k => XT.iconstV X144.here hx rfl (0 : Int32) (hb hby at_65) (by decide) k) ?_
      show Go _ _ _ _ T144 (mkF m 66 #[.val (.int i0), .val (.int i1), .val (.int (1 : Int32)), .val (.ref aA), .val (.int (1 : Int32)), .val (.int (cntV aA aE aH (1 : Int32))), .unset] [(.int (0 : Int32)), (.ref aA)])
      obtain ⟨cq147, kq147, q147a, q147b, q147c⟩ := isOf hZ e144 EA
      obtain ⟨_, _, ⟨T146, L146, k146, n146⟩, -, X146, ⟨Lc146, hQ146, l146, y146, z146⟩, st146⟩ := X144.virtualBack hx (y := (⟨"com/example/rondelle/rondelle/league/Mode", "counts", "(Z)Z"⟩ : MethodName)) (z := (⟨"com/example/rondelle/rondelle/league/Mode", "counts", "(Z)Z"⟩ : MethodName)) hown (mvT hZ (hw _ (List.mem_of_getElem? (i := 4) rfl))) (mvT hZ (hw _ (List.mem_of_getElem? (i := 5) rfl))) (notFace_of_selects (args := #[]) (mvT hZ (hw _ (List.mem_of_getElem? (i := 7) rfl)))) (mvT hZ (hw _ (List.mem_of_getElem? (i := 7) rfl))) (mvT hZ (hw _ (List.mem_of_getElem? (i := 6) rfl))) (by decide) (backOf (W := 0) (rm1 l Z a0 hw [] aA (0 : Int32) aE aH h0 n0 Z0 SE SH) hZ (hw _ (List.mem_of_getElem? (i := 8) rfl)) (hw _ (List.mem_of_getElem? (i := 2) rfl)) (by decide) (by decide)) q147a q147c (g := (mkF m 66 #[.val (.int i0), .val (.int i1), .val (.int (1 : Int32)), .val (.ref aA), .val (.int (1 : Int32)), .val (.int (cntV aA aE aH (1 : Int32))), .unset] [(.int (0 : Int32)), (.ref aA)])) rfl (by rw [hml]; rfl) (Steps.refl _) (argsL := [(.int (0 : Int32))]) (rest := []) (lenOf pd__Z_Z rfl) rfl (by show 2 * 0 + _ ≤ _; exact Nat.le_of_eq rfl) (hb hby at_66) (fun _ _ => ⟨rfl, e144, (by decide : 0 + 0 + 0 ≤ _), (by decide : 0 + 0 + 0 ≤ _)⟩)
      dsimp only [Pt.U, Pt.locs, Pt.cells, Pt.slots] at X146 l146 y146 z146 st146 hQ146
      subst l146 y146 z146
      obtain ⟨rfl, N146, e146⟩ := hQ146
      have NN146 := Fr.app NN144 N146
      refine Go.call st146 ?_
      show Go _ _ _ _ T146 (mkF m 69 #[.val (.int i0), .val (.int i1), .val (.int (1 : Int32)), .val (.ref aA), .val (.int (1 : Int32)), .val (.int (cntV aA aE aH (1 : Int32))), .unset] [(.int (cntV aA aE aH (0 : Int32)))])
      refine Go.by (fun _ k => XS.istore X146.here hx rfl (hb hby at_69) rfl (l' := #[.val (.int i0), .val (.int i1), .val (.int (1 : Int32)), .val (.ref aA), .val (.int (1 : Int32)), .val (.int (cntV aA aE aH (1 : Int32))), .val (.int (cntV aA aE aH (0 : Int32)))]) rfl k) ?_
      show Go _ _ _ _ T146 (mkF m 71 #[.val (.int i0), .val (.int i1), .val (.int (1 : Int32)), .val (.ref aA), .val (.int (1 : Int32)), .val (.int (cntV aA aE aH (1 : Int32))), .val (.int (cntV aA aE aH (0 : Int32)))] [])
      refine Go.by (fun _ k => XS.iload X146.here hx rfl (hb hby at_71) rfl k) ?_
      show Go _ _ _ _ T146 (mkF m 73 #[.val (.int i0), .val (.int i1), .val (.int (1 : Int32)), .val (.ref aA), .val (.int (1 : Int32)), .val (.int (cntV aA aE aH (1 : Int32))), .val (.int (cntV aA aE aH (0 : Int32)))] [(.int (cntV aA aE aH (1 : Int32)))])
      refine Go.by (fun _ k => XS.iloadN X146.here hx rfl (hb hby at_73) rfl k) ?_
      show Go _ _ _ _ T146 (mkF m 74 #[.val (.int i0), .val (.int i1), .val (.int (1 : Int32)), .val (.ref aA), .val (.int (1 : Int32)), .val (.int (cntV aA aE aH (1 : Int32))), .val (.int (cntV aA aE aH (0 : Int32)))] [(.int (1 : Int32)), (.int (cntV aA aE aH (1 : Int32)))])
      refine Go.by (fun _ k => XS.iload X146.here hx rfl (hb hby at_74) rfl k) ?_
      show Go _ _ _ _ T146 (mkF m 76 #[.val (.int i0), .val (.int i1), .val (.int (1 : Int32)), .val (.ref aA), .val (.int (1 : Int32)), .val (.int (cntV aA aE aH (1 : Int32))), .val (.int (cntV aA aE aH (0 : Int32)))] [(.int (1 : Int32)), (.int (1 : Int32)), (.int (cntV aA aE aH (1 : Int32)))])
      obtain ⟨_, _, ⟨T148, L148, k148, n148⟩, -, X148, ⟨Lc148, hQ148, l148, y148, z148⟩, st148⟩ := Jvm.LawKit.callS X146 hx (y := (⟨"com/example/rondelle/rondelle/league/ModeCountsPinLaw", "expected", "(IZ)Z"⟩ : MethodName)) hown (mvT hZ (hw _ (List.mem_of_getElem? (i := 12) rfl))) (mvT hZ (hw _ (List.mem_of_getElem? (i := 13) rfl))) (mvT hZ (hw _ (List.mem_of_getElem? (i := 14) rfl))) (mvT hZ (hw _ (List.mem_of_getElem? (i := 15) rfl))) (by decide) (backOf (W := 1) (rm2 l Z a0 hw [] (1 : Int32) (1 : Int32) h0 n0 Z0 ) hZ (hw _ (List.mem_of_getElem? (i := 15) rfl)) (hw _ (List.mem_of_getElem? (i := 14) rfl)) (by decide) (by decide)) (g := (mkF m 76 #[.val (.int i0), .val (.int i1), .val (.int (1 : Int32)), .val (.ref aA), .val (.int (1 : Int32)), .val (.int (cntV aA aE aH (1 : Int32))), .val (.int (cntV aA aE aH (0 : Int32)))] [(.int (1 : Int32)), (.int (1 : Int32)), (.int (cntV aA aE aH (1 : Int32)))])) rfl (by rw [hml]; rfl) (argsL := [(.int (1 : Int32)), (.int (1 : Int32))]) (rest := [(.int (cntV aA aE aH (1 : Int32)))]) (lenOf pd__IZ_Z rfl) rfl (by show 2 * 0 + _ ≤ _; exact Nat.le_of_eq rfl) (hb hby at_76) (fun _ _ => ⟨rfl, e146, (by decide : 0 + 0 + 0 + 0 ≤ _), (by decide : 0 + 0 + 0 + 0 ≤ _)⟩)
      dsimp only [Pt.U, Pt.locs, Pt.cells, Pt.slots] at X148 l148 y148 z148 st148 hQ148
      subst l148 y148 z148
      obtain ⟨rfl, N148, e148⟩ := hQ148
      have NN148 := Fr.app NN146 N148
      refine Go.by st148 ?_
      show Go _ _ _ _ T148 (mkF m 79 #[.val (.int i0), .val (.int i1), .val (.int (1 : Int32)), .val (.ref aA), .val (.int (1 : Int32)), .val (.int (cntV aA aE aH (1 : Int32))), .val (.int (cntV aA aE aH (0 : Int32)))] [(.int (expV (1 : Int32) (1 : Int32))), (.int (cntV aA aE aH (1 : Int32)))])
      refine Go.by (fun _ k => XS.icmpNo X148.here hx rfl (hb hby at_79) rfl (XT.ii_ne_f (by simp [cntV, expV, nar, n1, n2, n3, n1.symm, n2.symm, n3.symm])) k) ?_
      show Go _ _ _ _ T148 (mkF m 82 #[.val (.int i0), .val (.int i1), .val (.int (1 : Int32)), .val (.ref aA), .val (.int (1 : Int32)), .val (.int (cntV aA aE aH (1 : Int32))), .val (.int (cntV aA aE aH (0 : Int32)))] [])
      refine Go.by (fun _ k => XS.iload X148.here hx rfl (hb hby at_82) rfl k) ?_
      show Go _ _ _ _ T148 (mkF m 84 #[.val (.int i0), .val (.int i1), .val (.int (1 : Int32)), .val (.ref aA), .val (.int (1 : Int32)), .val (.int (cntV aA aE aH (1 : Int32))), .val (.int (cntV aA aE aH (0 : Int32)))] [(.int (cntV aA aE aH (0 : Int32)))])
      refine Go.by (fun _ k => XS.iloadN X148.here hx rfl (hb hby at_84) rfl k) ?_
      show Go _ _ _ _ T148 (mkF m 85 #[.val (.int i0), .val (.int i1), .val (.int (1 : Int32)), .val (.ref aA), .val (.int (1 : Int32)), .val (.int (cntV aA aE aH (1 : Int32))), .val (.int (cntV aA aE aH (0 : Int32)))] [(.int (1 : Int32)), (.int (cntV aA aE aH (0 : Int32)))])
      refine Go.by (fun _ k => XS.iload X148.here hx rfl (hb hby at_85) rfl k) ?_
      show Go _ _ _ _ T148 (mkF m 87 #[.val (.int i0), .val (.int i1), .val (.int (1 : Int32)), .val (.ref aA), .val (.int (1 : Int32)), .val (.int (cntV aA aE aH (1 : Int32))), .val (.int (cntV aA aE aH (0 : Int32)))] [(.int (1 : Int32)), (.int (1 : Int32)), (.int (cntV aA aE aH (0 : Int32)))])
      refine Go.by (fun _ k => XS.ifYes X148.here hx rfl (pc0 := 87) (pc' := 94) rfl (hb hby at_87) rfl (XT.i0_ne_t (by decide)) (by decide) (by decide) k) ?_
      show Go _ _ _ _ T148 (mkF m 94 #[.val (.int i0), .val (.int i1), .val (.int (1 : Int32)), .val (.ref aA), .val (.int (1 : Int32)), .val (.int (cntV aA aE aH (1 : Int32))), .val (.int (cntV aA aE aH (0 : Int32)))] [(.int (1 : Int32)), (.int (cntV aA aE aH (0 : Int32)))])
      refine Go.by (fun _ k => XT.iconstV X148.here hx rfl (0 : Int32) (hb hby at_94) (by decide) k) ?_
      show Go _ _ _ _ T148 (mkF m 95 #[.val (.int i0), .val (.int i1), .val (.int (1 : Int32)), .val (.ref aA), .val (.int (1 : Int32)), .val (.int (cntV aA aE aH (1 : Int32))), .val (.int (cntV aA aE aH (0 : Int32)))] [(.int (0 : Int32)), (.int (1 : Int32)), (.int (cntV aA aE aH (0 : Int32)))])
      obtain ⟨_, _, ⟨T149, L149, k149, n149⟩, -, X149, ⟨Lc149, hQ149, l149, y149, z149⟩, st149⟩ := Jvm.LawKit.callS X148 hx (y := (⟨"com/example/rondelle/rondelle/league/ModeCountsPinLaw", "expected", "(IZ)Z"⟩ : MethodName)) hown (mvT hZ (hw _ (List.mem_of_getElem? (i := 12) rfl))) (mvT hZ (hw _ (List.mem_of_getElem? (i := 13) rfl))) (mvT hZ (hw _ (List.mem_of_getElem? (i := 14) rfl))) (mvT hZ (hw _ (List.mem_of_getElem? (i := 15) rfl))) (by decide) (backOf (W := 1) (rm2 l Z a0 hw [] (1 : Int32) (0 : Int32) h0 n0 Z0 ) hZ (hw _ (List.mem_of_getElem? (i := 15) rfl)) (hw _ (List.mem_of_getElem? (i := 14) rfl)) (by decide) (by decide)) (g := (mkF m 95 #[.val (.int i0), .val (.int i1), .val (.int (1 : Int32)), .val (.ref aA), .val (.int (1 : Int32)), .val (.int (cntV aA aE aH (1 : Int32))), .val (.int (cntV aA aE aH (0 : Int32)))] [(.int (0 : Int32)), (.int (1 : Int32)), (.int (cntV aA aE aH (0 : Int32)))])) rfl (by rw [hml]; rfl) (argsL := [(.int (1 : Int32)), (.int (0 : Int32))]) (rest := [(.int (cntV aA aE aH (0 : Int32)))]) (lenOf pd__IZ_Z rfl) rfl (by show 2 * 0 + _ ≤ _; exact Nat.le_of_eq rfl) (hb hby at_95) (fun _ _ => ⟨rfl, e148, (by decide : 0 + 0 + 0 + 0 + 0 ≤ _), (by decide : 0 + 0 + 0 + 0 + 0 ≤ _)⟩)
      dsimp only [Pt.U, Pt.locs, Pt.cells, Pt.slots] at X149 l149 y149 z149 st149 hQ149
      subst l149 y149 z149
      obtain ⟨rfl, N149, e149⟩ := hQ149
      have NN149 := Fr.app NN148 N149
      refine Go.by st149 ?_
      show Go _ _ _ _ T149 (mkF m 98 #[.val (.int i0), .val (.int i1), .val (.int (1 : Int32)), .val (.ref aA), .val (.int (1 : Int32)), .val (.int (cntV aA aE aH (1 : Int32))), .val (.int (cntV aA aE aH (0 : Int32)))] [(.int (expV (1 : Int32) (0 : Int32))), (.int (cntV aA aE aH (0 : Int32)))])
      refine Go.by (fun _ k => XS.icmpNo X149.here hx rfl (hb hby at_98) rfl (XT.ii_ne_f (by simp [cntV, expV, nar, n1, n2, n3, n1.symm, n2.symm, n3.symm])) k) ?_
      show Go _ _ _ _ T149 (mkF m 101 #[.val (.int i0), .val (.int i1), .val (.int (1 : Int32)), .val (.ref aA), .val (.int (1 : Int32)), .val (.int (cntV aA aE aH (1 : Int32))), .val (.int (cntV aA aE aH (0 : Int32)))] [])
      refine Go.by (fun _ k => XT.iconstV X149.here hx rfl (1 : Int32) (hb hby at_101) (by decide) k) ?_
      show Go _ _ _ _ T149 (mkF m 102 #[.val (.int i0), .val (.int i1), .val (.int (1 : Int32)), .val (.ref aA), .val (.int (1 : Int32)), .val (.int (cntV aA aE aH (1 : Int32))), .val (.int (cntV aA aE aH (0 : Int32)))] [(.int (1 : Int32))])
      refine Go.by (fun _ k => XS.goto X149.here hx rfl (pc0 := 102) (pc' := 106) rfl (hb hby at_102) (by decide) (by decide) k) ?_
      show Go _ _ _ _ T149 (mkF m 106 #[.val (.int i0), .val (.int i1), .val (.int (1 : Int32)), .val (.ref aA), .val (.int (1 : Int32)), .val (.int (cntV aA aE aH (1 : Int32))), .val (.int (cntV aA aE aH (0 : Int32)))] [(.int (1 : Int32))])
      exact Go.retZ X149 hx Bd.notSynchronized (t := .boolean) Bd.returns (by simp) (hb hby at_106) ⟨rfl, NN149⟩ (by decide) (by decide)
  · show Go _ _ _ _ s₁ (mkF m 7 #[.val (.int i0), .val (.int i1), .val (.int (2 : Int32)), .unset, .unset, .unset, .unset] [])
    refine Go.by (fun _ k => XS.iloadN X0.here hx rfl (hb hby at_7) rfl k) ?_
    show Go _ _ _ _ s₁ (mkF m 8 #[.val (.int i0), .val (.int i1), .val (.int (2 : Int32)), .unset, .unset, .unset, .unset] [(.int (2 : Int32))])
    refine Go.by (fun _ k => XS.ifYes X0.here hx rfl (pc0 := 8) (pc' := 18) rfl (hb hby at_8) rfl (XT.i0_ne_t (by decide)) (by decide) (by decide) k) ?_
    show Go _ _ _ _ s₁ (mkF m 18 #[.val (.int i0), .val (.int i1), .val (.int (2 : Int32)), .unset, .unset, .unset, .unset] [])
    refine Go.by (fun _ k => XS.iloadN X0.here hx rfl (hb hby at_18) rfl k) ?_
    show Go _ _ _ _ s₁ (mkF m 19 #[.val (.int i0), .val (.int i1), .val (.int (2 : Int32)), .unset, .unset, .unset, .unset] [(.int (2 : Int32))])
    refine Go.by (fun _ k => XT.iconstV X0.here hx rfl (1 : Int32) (hb hby at_19) (by decide) k) ?_
    show Go _ _ _ _ s₁ (mkF m 20 #[.val (.int i0), .val (.int i1), .val (.int (2 : Int32)), .unset, .unset, .unset, .unset] [(.int (1 : Int32)), (.int (2 : Int32))])
    refine Go.by (fun _ k => XS.icmpYes X0.here hx rfl (pc0 := 20) (pc' := 30) rfl (hb hby at_20) rfl (XT.ii_ne_t (by decide)) (by decide) (by decide) k) ?_
    show Go _ _ _ _ s₁ (mkF m 30 #[.val (.int i0), .val (.int i1), .val (.int (2 : Int32)), .unset, .unset, .unset, .unset] [])
    obtain ⟨T150, X151, e152, st153⟩ := getS X0 hx hZ hown (host := "") (hw _ (List.mem_of_getElem? (i := 16) rfl)) Via.refl e0 SE (g := (mkF m 30 #[.val (.int i0), .val (.int i1), .val (.int (2 : Int32)), .unset, .unset, .unset, .unset] [])) rfl (hb hby at_30)
    refine Go.by st153 ?_
    show Go _ _ _ _ T150 (mkF m 33 #[.val (.int i0), .val (.int i1), .val (.int (2 : Int32)), .unset, .unset, .unset, .unset] [(.ref aE)])
    refine Go.by (fun _ k => XS.astoreN X151.here hx rfl (hb hby at_33) rfl rfl (l' := #[.val (.int i0), .val (.int i1), .val (.int (2 : Int32)), .val (.ref aE), .unset, .unset, .unset]) rfl k) ?_
    show Go _ _ _ _ T150 (mkF m 34 #[.val (.int i0), .val (.int i1), .val (.int (2 : Int32)), .val (.ref aE), .unset, .unset, .unset] [])
    refine Go.by (fun _ k => XS.iloadN X151.here hx rfl (hb hby at_34) rfl k) ?_
    show Go _ _ _ _ T150 (mkF m 35 #[.val (.int i0), .val (.int i1), .val (.int (2 : Int32)), .val (.ref aE), .unset, .unset, .unset] [(.int i1)])
    refine Go.by (fun _ k => XT.iconstV X151.here hx rfl (1 : Int32) (hb hby at_35) (by decide) k) ?_
    show Go _ _ _ _ T150 (mkF m 36 #[.val (.int i0), .val (.int i1), .val (.int (2 : Int32)), .val (.ref aE), .unset, .unset, .unset] [(.int (1 : Int32)), (.int i1)])
    refine Go.by (fun _ k => XS.iand X151.here hx rfl (hb hby at_36) rfl k) ?_
    show Go _ _ _ _ T150 (mkF m 37 #[.val (.int i0), .val (.int i1), .val (.int (2 : Int32)), .val (.ref aE), .unset, .unset, .unset] [(.int (i1 &&& (1 : Int32)))])
    by_cases c154 : (i1 &&& (1 : Int32)) = 0
    · refine Go.by (fun _ k => XS.ifYes X151.here hx rfl (pc0 := 37) (pc' := 44) rfl (hb hby at_37) rfl (XT.i0_eq_t c154) (by decide) (by decide) k) ?_
      show Go _ _ _ _ T150 (mkF m 44 #[.val (.int i0), .val (.int i1), .val (.int (2 : Int32)), .val (.ref aE), .unset, .unset, .unset] [])
      refine Go.by (fun _ k => XT.iconstV X151.here hx rfl (0 : Int32) (hb hby at_44) (by decide) k) ?_
      show Go _ _ _ _ T150 (mkF m 45 #[.val (.int i0), .val (.int i1), .val (.int (2 : Int32)), .val (.ref aE), .unset, .unset, .unset] [(.int (0 : Int32))])
      refine Go.by (fun _ k => XS.istore X151.here hx rfl (hb hby at_45) rfl (l' := #[.val (.int i0), .val (.int i1), .val (.int (2 : Int32)), .val (.ref aE), .val (.int (0 : Int32)), .unset, .unset]) rfl k) ?_
      show Go _ _ _ _ T150 (mkF m 47 #[.val (.int i0), .val (.int i1), .val (.int (2 : Int32)), .val (.ref aE), .val (.int (0 : Int32)), .unset, .unset] [])
      refine Go.by (fun _ k => XS.aloadN X151.here hx rfl (hb hby at_47) rfl rfl k) ?_
      show Go _ _ _ _ T150 (mkF m 48 #[.val (.int i0), .val (.int i1), .val (.int (2 : Int32)), .val (.ref aE), .val (.int (0 : Int32)), .unset, .unset] [(.ref aE)])
      refine Go.by (fun _ k => XS.iload X151.here hx rfl (hb hby at_48) rfl k) ?_
      show Go _ _ _ _ T150 (mkF m 50 #[.val (.int i0), .val (.int i1), .val (.int (2 : Int32)), .val (.ref aE), .val (.int (0 : Int32)), .unset, .unset] [(.int (0 : Int32)), (.ref aE)])
      obtain ⟨cq156, kq156, q156a, q156b, q156c⟩ := isOf hZ e152 EE
      obtain ⟨_, _, ⟨T155, L155, k155, n155⟩, -, X155, ⟨Lc155, hQ155, l155, y155, z155⟩, st155⟩ := X151.virtualBack hx (y := (⟨"com/example/rondelle/rondelle/league/Mode", "counts", "(Z)Z"⟩ : MethodName)) (z := (⟨"com/example/rondelle/rondelle/league/Mode", "counts", "(Z)Z"⟩ : MethodName)) hown (mvT hZ (hw _ (List.mem_of_getElem? (i := 4) rfl))) (mvT hZ (hw _ (List.mem_of_getElem? (i := 5) rfl))) (notFace_of_selects (args := #[]) (mvT hZ (hw _ (List.mem_of_getElem? (i := 7) rfl)))) (mvT hZ (hw _ (List.mem_of_getElem? (i := 7) rfl))) (mvT hZ (hw _ (List.mem_of_getElem? (i := 6) rfl))) (by decide) (backOf (W := 0) (rm1 l Z a0 hw [] aE (0 : Int32) aE aH h0 n0 Z0 SE SH) hZ (hw _ (List.mem_of_getElem? (i := 8) rfl)) (hw _ (List.mem_of_getElem? (i := 2) rfl)) (by decide) (by decide)) q156a q156c (g := (mkF m 50 #[.val (.int i0), .val (.int i1), .val (.int (2 : Int32)), .val (.ref aE), .val (.int (0 : Int32)), .unset, .unset] [(.int (0 : Int32)), (.ref aE)])) rfl (by rw [hml]; rfl) (Steps.refl _) (argsL := [(.int (0 : Int32))]) (rest := []) (lenOf pd__Z_Z rfl) rfl (by show 2 * 0 + _ ≤ _; exact Nat.le_of_eq rfl) (hb hby at_50) (fun _ _ => ⟨rfl, e152, (by decide : 0 + 0 ≤ _), (by decide : 0 + 0 ≤ _)⟩)
      dsimp only [Pt.U, Pt.locs, Pt.cells, Pt.slots] at X155 l155 y155 z155 st155 hQ155
      subst l155 y155 z155
      obtain ⟨rfl, N155, e155⟩ := hQ155
      have NN155 := Fr.app N0 N155
      refine Go.call st155 ?_
      show Go _ _ _ _ T155 (mkF m 53 #[.val (.int i0), .val (.int i1), .val (.int (2 : Int32)), .val (.ref aE), .val (.int (0 : Int32)), .unset, .unset] [(.int (cntV aE aE aH (0 : Int32)))])
      refine Go.by (fun _ k => XS.istore X155.here hx rfl (hb hby at_53) rfl (l' := #[.val (.int i0), .val (.int i1), .val (.int (2 : Int32)), .val (.ref aE), .val (.int (0 : Int32)), .val (.int (cntV aE aE aH (0 : Int32))), .unset]) rfl k) ?_
      show Go _ _ _ _ T155 (mkF m 55 #[.val (.int i0), .val (.int i1), .val (.int (2 : Int32)), .val (.ref aE), .val (.int (0 : Int32)), .val (.int (cntV aE aE aH (0 : Int32))), .unset] [])
      refine Go.by (fun _ k => XS.aloadN X155.here hx rfl (hb hby at_55) rfl rfl k) ?_
      show Go _ _ _ _ T155 (mkF m 56 #[.val (.int i0), .val (.int i1), .val (.int (2 : Int32)), .val (.ref aE), .val (.int (0 : Int32)), .val (.int (cntV aE aE aH (0 : Int32))), .unset] [(.ref aE)])
      refine Go.by (fun _ k => XS.iload X155.here hx rfl (hb hby at_56) rfl k) ?_
      show Go _ _ _ _ T155 (mkF m 58 #[.val (.int i0), .val (.int i1), .val (.int (2 : Int32)), .val (.ref aE), .val (.int (0 : Int32)), .val (.int (cntV aE aE aH (0 : Int32))), .unset] [(.int (0 : Int32)), (.ref aE)])
      refine Go.by (fun _ k => XS.ifNo X155.here hx rfl (hb hby at_58) rfl (XT.i0_ne_f (by decide)) k) ?_
      show Go _ _ _ _ T155 (mkF m 61 #[.val (.int i0), .val (.int i1), .val (.int (2 : Int32)), .val (.ref aE), .val (.int (0 : Int32)), .val (.int (cntV aE aE aH (0 : Int32))), .unset] [(.ref aE)])
      refine Go.by (fun _ k => XT.iconstV X155.here hx rfl (1 : Int32) (hb hby at_61) (by decide) k) ?_
      show Go _ _ _ _ T155 (mkF m 62 #[.val (.int i0), .val (.int i1), .val (.int (2 : Int32)), .val (.ref aE), .val (.int (0 : Int32)), .val (.int (cntV aE aE aH (0 : Int32))), .unset] [(.int (1 : Int32)), (.ref aE)])
      refine Go.by (fun _ k => XS.goto X155.here hx rfl (pc0 := 62) (pc' := 66) rfl (hb hby at_62) (by decide) (by decide) k) ?_
      show Go _ _ _ _ T155 (mkF m 66 #[.val (.int i0), .val (.int i1), .val (.int (2 : Int32)), .val (.ref aE), .val (.int (0 : Int32)), .val (.int (cntV aE aE aH (0 : Int32))), .unset] [(.int (1 : Int32)), (.ref aE)])
      obtain ⟨cq158, kq158, q158a, q158b, q158c⟩ := isOf hZ e155 EE
      obtain ⟨_, _, ⟨T157, L157, k157, n157⟩, -, X157, ⟨Lc157, hQ157, l157, y157, z157⟩, st157⟩ := X155.virtualBack hx (y := (⟨"com/example/rondelle/rondelle/league/Mode", "counts", "(Z)Z"⟩ : MethodName)) (z := (⟨"com/example/rondelle/rondelle/league/Mode", "counts", "(Z)Z"⟩ : MethodName)) hown (mvT hZ (hw _ (List.mem_of_getElem? (i := 4) rfl))) (mvT hZ (hw _ (List.mem_of_getElem? (i := 5) rfl))) (notFace_of_selects (args := #[]) (mvT hZ (hw _ (List.mem_of_getElem? (i := 7) rfl)))) (mvT hZ (hw _ (List.mem_of_getElem? (i := 7) rfl))) (mvT hZ (hw _ (List.mem_of_getElem? (i := 6) rfl))) (by decide) (backOf (W := 0) (rm1 l Z a0 hw [] aE (1 : Int32) aE aH h0 n0 Z0 SE SH) hZ (hw _ (List.mem_of_getElem? (i := 8) rfl)) (hw _ (List.mem_of_getElem? (i := 2) rfl)) (by decide) (by decide)) q158a q158c (g := (mkF m 66 #[.val (.int i0), .val (.int i1), .val (.int (2 : Int32)), .val (.ref aE), .val (.int (0 : Int32)), .val (.int (cntV aE aE aH (0 : Int32))), .unset] [(.int (1 : Int32)), (.ref aE)])) rfl (by rw [hml]; rfl) (Steps.refl _) (argsL := [(.int (1 : Int32))]) (rest := []) (lenOf pd__Z_Z rfl) rfl (by show 2 * 0 + _ ≤ _; exact Nat.le_of_eq rfl) (hb hby at_66) (fun _ _ => ⟨rfl, e155, (by decide : 0 + 0 + 0 ≤ _), (by decide : 0 + 0 + 0 ≤ _)⟩)
      dsimp only [Pt.U, Pt.locs, Pt.cells, Pt.slots] at X157 l157 y157 z157 st157 hQ157
      subst l157 y157 z157
      obtain ⟨rfl, N157, e157⟩ := hQ157
      have NN157 := Fr.app NN155 N157
      refine Go.call st157 ?_
      show Go _ _ _ _ T157 (mkF m 69 #[.val (.int i0), .val (.int i1), .val (.int (2 : Int32)), .val (.ref aE), .val (.int (0 : Int32)), .val (.int (cntV aE aE aH (0 : Int32))), .unset] [(.int (cntV aE aE aH (1 : Int32)))])
      refine Go.by (fun _ k => XS.istore X157.here hx rfl (hb hby at_69) rfl (l' := #[.val (.int i0), .val (.int i1), .val (.int (2 : Int32)), .val (.ref aE), .val (.int (0 : Int32)), .val (.int (cntV aE aE aH (0 : Int32))), .val (.int (cntV aE aE aH (1 : Int32)))]) rfl k) ?_
      show Go _ _ _ _ T157 (mkF m 71 #[.val (.int i0), .val (.int i1), .val (.int (2 : Int32)), .val (.ref aE), .val (.int (0 : Int32)), .val (.int (cntV aE aE aH (0 : Int32))), .val (.int (cntV aE aE aH (1 : Int32)))] [])
      refine Go.by (fun _ k => XS.iload X157.here hx rfl (hb hby at_71) rfl k) ?_
      show Go _ _ _ _ T157 (mkF m 73 #[.val (.int i0), .val (.int i1), .val (.int (2 : Int32)), .val (.ref aE), .val (.int (0 : Int32)), .val (.int (cntV aE aE aH (0 : Int32))), .val (.int (cntV aE aE aH (1 : Int32)))] [(.int (cntV aE aE aH (0 : Int32)))])
      refine Go.by (fun _ k => XS.iloadN X157.here hx rfl (hb hby at_73) rfl k) ?_
      show Go _ _ _ _ T157 (mkF m 74 #[.val (.int i0), .val (.int i1), .val (.int (2 : Int32)), .val (.ref aE), .val (.int (0 : Int32)), .val (.int (cntV aE aE aH (0 : Int32))), .val (.int (cntV aE aE aH (1 : Int32)))] [(.int (2 : Int32)), (.int (cntV aE aE aH (0 : Int32)))])
      refine Go.by (fun _ k => XS.iload X157.here hx rfl (hb hby at_74) rfl k) ?_
      show Go _ _ _ _ T157 (mkF m 76 #[.val (.int i0), .val (.int i1), .val (.int (2 : Int32)), .val (.ref aE), .val (.int (0 : Int32)), .val (.int (cntV aE aE aH (0 : Int32))), .val (.int (cntV aE aE aH (1 : Int32)))] [(.int (0 : Int32)), (.int (2 : Int32)), (.int (cntV aE aE aH (0 : Int32)))])
      obtain ⟨_, _, ⟨T159, L159, k159, n159⟩, -, X159, ⟨Lc159, hQ159, l159, y159, z159⟩, st159⟩ := Jvm.LawKit.callS X157 hx (y := (⟨"com/example/rondelle/rondelle/league/ModeCountsPinLaw", "expected", "(IZ)Z"⟩ : MethodName)) hown (mvT hZ (hw _ (List.mem_of_getElem? (i := 12) rfl))) (mvT hZ (hw _ (List.mem_of_getElem? (i := 13) rfl))) (mvT hZ (hw _ (List.mem_of_getElem? (i := 14) rfl))) (mvT hZ (hw _ (List.mem_of_getElem? (i := 15) rfl))) (by decide) (backOf (W := 1) (rm2 l Z a0 hw [] (2 : Int32) (0 : Int32) h0 n0 Z0 ) hZ (hw _ (List.mem_of_getElem? (i := 15) rfl)) (hw _ (List.mem_of_getElem? (i := 14) rfl)) (by decide) (by decide)) (g := (mkF m 76 #[.val (.int i0), .val (.int i1), .val (.int (2 : Int32)), .val (.ref aE), .val (.int (0 : Int32)), .val (.int (cntV aE aE aH (0 : Int32))), .val (.int (cntV aE aE aH (1 : Int32)))] [(.int (0 : Int32)), (.int (2 : Int32)), (.int (cntV aE aE aH (0 : Int32)))])) rfl (by rw [hml]; rfl) (argsL := [(.int (2 : Int32)), (.int (0 : Int32))]) (rest := [(.int (cntV aE aE aH (0 : Int32)))]) (lenOf pd__IZ_Z rfl) rfl (by show 2 * 0 + _ ≤ _; exact Nat.le_of_eq rfl) (hb hby at_76) (fun _ _ => ⟨rfl, e157, (by decide : 0 + 0 + 0 + 0 ≤ _), (by decide : 0 + 0 + 0 + 0 ≤ _)⟩)
      dsimp only [Pt.U, Pt.locs, Pt.cells, Pt.slots] at X159 l159 y159 z159 st159 hQ159
      subst l159 y159 z159
      obtain ⟨rfl, N159, e159⟩ := hQ159
      have NN159 := Fr.app NN157 N159
      refine Go.by st159 ?_
      show Go _ _ _ _ T159 (mkF m 79 #[.val (.int i0), .val (.int i1), .val (.int (2 : Int32)), .val (.ref aE), .val (.int (0 : Int32)), .val (.int (cntV aE aE aH (0 : Int32))), .val (.int (cntV aE aE aH (1 : Int32)))] [(.int (expV (2 : Int32) (0 : Int32))), (.int (cntV aE aE aH (0 : Int32)))])
      refine Go.by (fun _ k => XS.icmpNo X159.here hx rfl (hb hby at_79) rfl (XT.ii_ne_f (by simp [cntV, expV, nar, n1, n2, n3, n1.symm, n2.symm, n3.symm])) k) ?_
      show Go _ _ _ _ T159 (mkF m 82 #[.val (.int i0), .val (.int i1), .val (.int (2 : Int32)), .val (.ref aE), .val (.int (0 : Int32)), .val (.int (cntV aE aE aH (0 : Int32))), .val (.int (cntV aE aE aH (1 : Int32)))] [])
      refine Go.by (fun _ k => XS.iload X159.here hx rfl (hb hby at_82) rfl k) ?_
      show Go _ _ _ _ T159 (mkF m 84 #[.val (.int i0), .val (.int i1), .val (.int (2 : Int32)), .val (.ref aE), .val (.int (0 : Int32)), .val (.int (cntV aE aE aH (0 : Int32))), .val (.int (cntV aE aE aH (1 : Int32)))] [(.int (cntV aE aE aH (1 : Int32)))])
      refine Go.by (fun _ k => XS.iloadN X159.here hx rfl (hb hby at_84) rfl k) ?_
      show Go _ _ _ _ T159 (mkF m 85 #[.val (.int i0), .val (.int i1), .val (.int (2 : Int32)), .val (.ref aE), .val (.int (0 : Int32)), .val (.int (cntV aE aE aH (0 : Int32))), .val (.int (cntV aE aE aH (1 : Int32)))] [(.int (2 : Int32)), (.int (cntV aE aE aH (1 : Int32)))])
      refine Go.by (fun _ k => XS.iload X159.here hx rfl (hb hby at_85) rfl k) ?_
      show Go _ _ _ _ T159 (mkF m 87 #[.val (.int i0), .val (.int i1), .val (.int (2 : Int32)), .val (.ref aE), .val (.int (0 : Int32)), .val (.int (cntV aE aE aH (0 : Int32))), .val (.int (cntV aE aE aH (1 : Int32)))] [(.int (0 : Int32)), (.int (2 : Int32)), (.int (cntV aE aE aH (1 : Int32)))])
      refine Go.by (fun _ k => XS.ifNo X159.here hx rfl (hb hby at_87) rfl (XT.i0_ne_f (by decide)) k) ?_
      show Go _ _ _ _ T159 (mkF m 90 #[.val (.int i0), .val (.int i1), .val (.int (2 : Int32)), .val (.ref aE), .val (.int (0 : Int32)), .val (.int (cntV aE aE aH (0 : Int32))), .val (.int (cntV aE aE aH (1 : Int32)))] [(.int (2 : Int32)), (.int (cntV aE aE aH (1 : Int32)))])
      refine Go.by (fun _ k => XT.iconstV X159.here hx rfl (1 : Int32) (hb hby at_90) (by decide) k) ?_
      show Go _ _ _ _ T159 (mkF m 91 #[.val (.int i0), .val (.int i1), .val (.int (2 : Int32)), .val (.ref aE), .val (.int (0 : Int32)), .val (.int (cntV aE aE aH (0 : Int32))), .val (.int (cntV aE aE aH (1 : Int32)))] [(.int (1 : Int32)), (.int (2 : Int32)), (.int (cntV aE aE aH (1 : Int32)))])
      refine Go.by (fun _ k => XS.goto X159.here hx rfl (pc0 := 91) (pc' := 95) rfl (hb hby at_91) (by decide) (by decide) k) ?_
      show Go _ _ _ _ T159 (mkF m 95 #[.val (.int i0), .val (.int i1), .val (.int (2 : Int32)), .val (.ref aE), .val (.int (0 : Int32)), .val (.int (cntV aE aE aH (0 : Int32))), .val (.int (cntV aE aE aH (1 : Int32)))] [(.int (1 : Int32)), (.int (2 : Int32)), (.int (cntV aE aE aH (1 : Int32)))])
      obtain ⟨_, _, ⟨T160, L160, k160, n160⟩, -, X160, ⟨Lc160, hQ160, l160, y160, z160⟩, st160⟩ := Jvm.LawKit.callS X159 hx (y := (⟨"com/example/rondelle/rondelle/league/ModeCountsPinLaw", "expected", "(IZ)Z"⟩ : MethodName)) hown (mvT hZ (hw _ (List.mem_of_getElem? (i := 12) rfl))) (mvT hZ (hw _ (List.mem_of_getElem? (i := 13) rfl))) (mvT hZ (hw _ (List.mem_of_getElem? (i := 14) rfl))) (mvT hZ (hw _ (List.mem_of_getElem? (i := 15) rfl))) (by decide) (backOf (W := 1) (rm2 l Z a0 hw [] (2 : Int32) (1 : Int32) h0 n0 Z0 ) hZ (hw _ (List.mem_of_getElem? (i := 15) rfl)) (hw _ (List.mem_of_getElem? (i := 14) rfl)) (by decide) (by decide)) (g := (mkF m 95 #[.val (.int i0), .val (.int i1), .val (.int (2 : Int32)), .val (.ref aE), .val (.int (0 : Int32)), .val (.int (cntV aE aE aH (0 : Int32))), .val (.int (cntV aE aE aH (1 : Int32)))] [(.int (1 : Int32)), (.int (2 : Int32)), (.int (cntV aE aE aH (1 : Int32)))])) rfl (by rw [hml]; rfl) (argsL := [(.int (2 : Int32)), (.int (1 : Int32))]) (rest := [(.int (cntV aE aE aH (1 : Int32)))]) (lenOf pd__IZ_Z rfl) rfl (by show 2 * 0 + _ ≤ _; exact Nat.le_of_eq rfl) (hb hby at_95) (fun _ _ => ⟨rfl, e159, (by decide : 0 + 0 + 0 + 0 + 0 ≤ _), (by decide : 0 + 0 + 0 + 0 + 0 ≤ _)⟩)
      dsimp only [Pt.U, Pt.locs, Pt.cells, Pt.slots] at X160 l160 y160 z160 st160 hQ160
      subst l160 y160 z160
      obtain ⟨rfl, N160, e160⟩ := hQ160
      have NN160 := Fr.app NN159 N160
      refine Go.by st160 ?_
      show Go _ _ _ _ T160 (mkF m 98 #[.val (.int i0), .val (.int i1), .val (.int (2 : Int32)), .val (.ref aE), .val (.int (0 : Int32)), .val (.int (cntV aE aE aH (0 : Int32))), .val (.int (cntV aE aE aH (1 : Int32)))] [(.int (expV (2 : Int32) (1 : Int32))), (.int (cntV aE aE aH (1 : Int32)))])
      refine Go.by (fun _ k => XS.icmpNo X160.here hx rfl (hb hby at_98) rfl (XT.ii_ne_f (by simp [cntV, expV, nar, n1, n2, n3, n1.symm, n2.symm, n3.symm])) k) ?_
      show Go _ _ _ _ T160 (mkF m 101 #[.val (.int i0), .val (.int i1), .val (.int (2 : Int32)), .val (.ref aE), .val (.int (0 : Int32)), .val (.int (cntV aE aE aH (0 : Int32))), .val (.int (cntV aE aE aH (1 : Int32)))] [])
      refine Go.by (fun _ k => XT.iconstV X160.here hx rfl (1 : Int32) (hb hby at_101) (by decide) k) ?_
      show Go _ _ _ _ T160 (mkF m 102 #[.val (.int i0), .val (.int i1), .val (.int (2 : Int32)), .val (.ref aE), .val (.int (0 : Int32)), .val (.int (cntV aE aE aH (0 : Int32))), .val (.int (cntV aE aE aH (1 : Int32)))] [(.int (1 : Int32))])
      refine Go.by (fun _ k => XS.goto X160.here hx rfl (pc0 := 102) (pc' := 106) rfl (hb hby at_102) (by decide) (by decide) k) ?_
      show Go _ _ _ _ T160 (mkF m 106 #[.val (.int i0), .val (.int i1), .val (.int (2 : Int32)), .val (.ref aE), .val (.int (0 : Int32)), .val (.int (cntV aE aE aH (0 : Int32))), .val (.int (cntV aE aE aH (1 : Int32)))] [(.int (1 : Int32))])
      exact Go.retZ X160 hx Bd.notSynchronized (t := .boolean) Bd.returns (by simp) (hb hby at_106) ⟨rfl, NN160⟩ (by decide) (by decide)
    · refine Go.by (fun _ k => XS.ifNo X151.here hx rfl (hb hby at_37) rfl (XT.i0_eq_f c154) k) ?_
      show Go _ _ _ _ T150 (mkF m 40 #[.val (.int i0), .val (.int i1), .val (.int (2 : Int32)), .val (.ref aE), .unset, .unset, .unset] [])
      refine Go.by (fun _ k => XT.iconstV X151.here hx rfl (1 : Int32) (hb hby at_40) (by decide) k) ?_
      show Go _ _ _ _ T150 (mkF m 41 #[.val (.int i0), .val (.int i1), .val (.int (2 : Int32)), .val (.ref aE), .unset, .unset, .unset] [(.int (1 : Int32))])
      refine Go.by (fun _ k => XS.goto X151.here hx rfl (pc0 := 41) (pc' := 45) rfl (hb hby at_41) (by decide) (by decide) k) ?_
      show Go _ _ _ _ T150 (mkF m 45 #[.val (.int i0), .val (.int i1), .val (.int (2 : Int32)), .val (.ref aE), .unset, .unset, .unset] [(.int (1 : Int32))])
      refine Go.by (fun _ k => XS.istore X151.here hx rfl (hb hby at_45) rfl (l' := #[.val (.int i0), .val (.int i1), .val (.int (2 : Int32)), .val (.ref aE), .val (.int (1 : Int32)), .unset, .unset]) rfl k) ?_
      show Go _ _ _ _ T150 (mkF m 47 #[.val (.int i0), .val (.int i1), .val (.int (2 : Int32)), .val (.ref aE), .val (.int (1 : Int32)), .unset, .unset] [])
      refine Go.by (fun _ k => XS.aloadN X151.here hx rfl (hb hby at_47) rfl rfl k) ?_
      show Go _ _ _ _ T150 (mkF m 48 #[.val (.int i0), .val (.int i1), .val (.int (2 : Int32)), .val (.ref aE), .val (.int (1 : Int32)), .unset, .unset] [(.ref aE)])
      refine Go.by (fun _ k => XS.iload X151.here hx rfl (hb hby at_48) rfl k) ?_
      show Go _ _ _ _ T150 (mkF m 50 #[.val (.int i0), .val (.int i1), .val (.int (2 : Int32)), .val (.ref aE), .val (.int (1 : Int32)), .unset, .unset] [(.int (1 : Int32)), (.ref aE)])
      obtain ⟨cq162, kq162, q162a, q162b, q162c⟩ := isOf hZ e152 EE
      obtain ⟨_, _, ⟨T161, L161, k161, n161⟩, -, X161, ⟨Lc161, hQ161, l161, y161, z161⟩, st161⟩ := X151.virtualBack hx (y := (⟨"com/example/rondelle/rondelle/league/Mode", "counts", "(Z)Z"⟩ : MethodName)) (z := (⟨"com/example/rondelle/rondelle/league/Mode", "counts", "(Z)Z"⟩ : MethodName)) hown (mvT hZ (hw _ (List.mem_of_getElem? (i := 4) rfl))) (mvT hZ (hw _ (List.mem_of_getElem? (i := 5) rfl))) (notFace_of_selects (args := #[]) (mvT hZ (hw _ (List.mem_of_getElem? (i := 7) rfl)))) (mvT hZ (hw _ (List.mem_of_getElem? (i := 7) rfl))) (mvT hZ (hw _ (List.mem_of_getElem? (i := 6) rfl))) (by decide) (backOf (W := 0) (rm1 l Z a0 hw [] aE (1 : Int32) aE aH h0 n0 Z0 SE SH) hZ (hw _ (List.mem_of_getElem? (i := 8) rfl)) (hw _ (List.mem_of_getElem? (i := 2) rfl)) (by decide) (by decide)) q162a q162c (g := (mkF m 50 #[.val (.int i0), .val (.int i1), .val (.int (2 : Int32)), .val (.ref aE), .val (.int (1 : Int32)), .unset, .unset] [(.int (1 : Int32)), (.ref aE)])) rfl (by rw [hml]; rfl) (Steps.refl _) (argsL := [(.int (1 : Int32))]) (rest := []) (lenOf pd__Z_Z rfl) rfl (by show 2 * 0 + _ ≤ _; exact Nat.le_of_eq rfl) (hb hby at_50) (fun _ _ => ⟨rfl, e152, (by decide : 0 + 0 ≤ _), (by decide : 0 + 0 ≤ _)⟩)
      dsimp only [Pt.U, Pt.locs, Pt.cells, Pt.slots] at X161 l161 y161 z161 st161 hQ161
      subst l161 y161 z161
      obtain ⟨rfl, N161, e161⟩ := hQ161
      have NN161 := Fr.app N0 N161
      refine Go.call st161 ?_
      show Go _ _ _ _ T161 (mkF m 53 #[.val (.int i0), .val (.int i1), .val (.int (2 : Int32)), .val (.ref aE), .val (.int (1 : Int32)), .unset, .unset] [(.int (cntV aE aE aH (1 : Int32)))])
      refine Go.by (fun _ k => XS.istore X161.here hx rfl (hb hby at_53) rfl (l' := #[.val (.int i0), .val (.int i1), .val (.int (2 : Int32)), .val (.ref aE), .val (.int (1 : Int32)), .val (.int (cntV aE aE aH (1 : Int32))), .unset]) rfl k) ?_
      show Go _ _ _ _ T161 (mkF m 55 #[.val (.int i0), .val (.int i1), .val (.int (2 : Int32)), .val (.ref aE), .val (.int (1 : Int32)), .val (.int (cntV aE aE aH (1 : Int32))), .unset] [])
      refine Go.by (fun _ k => XS.aloadN X161.here hx rfl (hb hby at_55) rfl rfl k) ?_
      show Go _ _ _ _ T161 (mkF m 56 #[.val (.int i0), .val (.int i1), .val (.int (2 : Int32)), .val (.ref aE), .val (.int (1 : Int32)), .val (.int (cntV aE aE aH (1 : Int32))), .unset] [(.ref aE)])
      refine Go.by (fun _ k => XS.iload X161.here hx rfl (hb hby at_56) rfl k) ?_
      show Go _ _ _ _ T161 (mkF m 58 #[.val (.int i0), .val (.int i1), .val (.int (2 : Int32)), .val (.ref aE), .val (.int (1 : Int32)), .val (.int (cntV aE aE aH (1 : Int32))), .unset] [(.int (1 : Int32)), (.ref aE)])
      refine Go.by (fun _ k => XS.ifYes X161.here hx rfl (pc0 := 58) (pc' := 65) rfl (hb hby at_58) rfl (XT.i0_ne_t (by decide)) (by decide) (by decide) k) ?_
      show Go _ _ _ _ T161 (mkF m 65 #[.val (.int i0), .val (.int i1), .val (.int (2 : Int32)), .val (.ref aE), .val (.int (1 : Int32)), .val (.int (cntV aE aE aH (1 : Int32))), .unset] [(.ref aE)])
      refine Go.by (fun _ k => XT.iconstV X161.here hx rfl (0 : Int32) (hb hby at_65) (by decide) k) ?_
      show Go _ _ _ _ T161 (mkF m 66 #[.val (.int i0), .val (.int i1), .val (.int (2 : Int32)), .val (.ref aE), .val (.int (1 : Int32)), .val (.int (cntV aE aE aH (1 : Int32))), .unset] [(.int (0 : Int32)), (.ref aE)])
      obtain ⟨cq164, kq164, q164a, q164b, q164c⟩ := isOf hZ e161 EE
      obtain ⟨_, _, ⟨T163, L163, k163, n163⟩, -, X163, ⟨Lc163, hQ163, l163, y163, z163⟩, st163⟩ := X161.virtualBack hx (y := (⟨"com/example/rondelle/rondelle/league/Mode", "counts", "(Z)Z"⟩ : MethodName)) (z := (⟨"com/example/rondelle/rondelle/league/Mode", "counts", "(Z)Z"⟩ : MethodName)) hown (mvT hZ (hw _ (List.mem_of_getElem? (i := 4) rfl))) (mvT hZ (hw _ (List.mem_of_getElem? (i := 5) rfl))) (notFace_of_selects (args := #[]) (mvT hZ (hw _ (List.mem_of_getElem? (i := 7) rfl)))) (mvT hZ (hw _ (List.mem_of_getElem? (i := 7) rfl))) (mvT hZ (hw _ (List.mem_of_getElem? (i := 6) rfl))) (by decide) (backOf (W := 0) (rm1 l Z a0 hw [] aE (0 : Int32) aE aH h0 n0 Z0 SE SH) hZ (hw _ (List.mem_of_getElem? (i := 8) rfl)) (hw _ (List.mem_of_getElem? (i := 2) rfl)) (by decide) (by decide)) q164a q164c (g := (mkF m 66 #[.val (.int i0), .val (.int i1), .val (.int (2 : Int32)), .val (.ref aE), .val (.int (1 : Int32)), .val (.int (cntV aE aE aH (1 : Int32))), .unset] [(.int (0 : Int32)), (.ref aE)])) rfl (by rw [hml]; rfl) (Steps.refl _) (argsL := [(.int (0 : Int32))]) (rest := []) (lenOf pd__Z_Z rfl) rfl (by show 2 * 0 + _ ≤ _; exact Nat.le_of_eq rfl) (hb hby at_66) (fun _ _ => ⟨rfl, e161, (by decide : 0 + 0 + 0 ≤ _), (by decide : 0 + 0 + 0 ≤ _)⟩)
      dsimp only [Pt.U, Pt.locs, Pt.cells, Pt.slots] at X163 l163 y163 z163 st163 hQ163
      subst l163 y163 z163
      obtain ⟨rfl, N163, e163⟩ := hQ163
      have NN163 := Fr.app NN161 N163
      refine Go.call st163 ?_
      show Go _ _ _ _ T163 (mkF m 69 #[.val (.int i0), .val (.int i1), .val (.int (2 : Int32)), .val (.ref aE), .val (.int (1 : Int32)), .val (.int (cntV aE aE aH (1 : Int32))), .unset] [(.int (cntV aE aE aH (0 : Int32)))])
      refine Go.by (fun _ k => XS.istore X163.here hx rfl (hb hby at_69) rfl (l' := #[.val (.int i0), .val (.int i1), .val (.int (2 : Int32)), .val (.ref aE), .val (.int (1 : Int32)), .val (.int (cntV aE aE aH (1 : Int32))), .val (.int (cntV aE aE aH (0 : Int32)))]) rfl k) ?_
      show Go _ _ _ _ T163 (mkF m 71 #[.val (.int i0), .val (.int i1), .val (.int (2 : Int32)), .val (.ref aE), .val (.int (1 : Int32)), .val (.int (cntV aE aE aH (1 : Int32))), .val (.int (cntV aE aE aH (0 : Int32)))] [])
      refine Go.by (fun _ k => XS.iload X163.here hx rfl (hb hby at_71) rfl k) ?_
      show Go _ _ _ _ T163 (mkF m 73 #[.val (.int i0), .val (.int i1), .val (.int (2 : Int32)), .val (.ref aE), .val (.int (1 : Int32)), .val (.int (cntV aE aE aH (1 : Int32))), .val (.int (cntV aE aE aH (0 : Int32)))] [(.int (cntV aE aE aH (1 : Int32)))])
      refine Go.by (fun _ k => XS.iloadN X163.here hx rfl (hb hby at_73) rfl k) ?_
      show Go _ _ _ _ T163 (mkF m 74 #[.val (.int i0), .val (.int i1), .val (.int (2 : Int32)), .val (.ref aE), .val (.int (1 : Int32)), .val (.int (cntV aE aE aH (1 : Int32))), .val (.int (cntV aE aE aH (0 : Int32)))] [(.int (2 : Int32)), (.int (cntV aE aE aH (1 : Int32)))])
      refine Go.by (fun _ k => XS.iload X163.here hx rfl (hb hby at_74) rfl k) ?_
      show Go _ _ _ _ T163 (mkF m 76 #[.val (.int i0), .val (.int i1), .val (.int (2 : Int32)), .val (.ref aE), .val (.int (1 : Int32)), .val (.int (cntV aE aE aH (1 : Int32))), .val (.int (cntV aE aE aH (0 : Int32)))] [(.int (1 : Int32)), (.int (2 : Int32)), (.int (cntV aE aE aH (1 : Int32)))])
      obtain ⟨_, _, ⟨T165, L165, k165, n165⟩, -, X165, ⟨Lc165, hQ165, l165, y165, z165⟩, st165⟩ := Jvm.LawKit.callS X163 hx (y := (⟨"com/example/rondelle/rondelle/league/ModeCountsPinLaw", "expected", "(IZ)Z"⟩ : MethodName)) hown (mvT hZ (hw _ (List.mem_of_getElem? (i := 12) rfl))) (mvT hZ (hw _ (List.mem_of_getElem? (i := 13) rfl))) (mvT hZ (hw _ (List.mem_of_getElem? (i := 14) rfl))) (mvT hZ (hw _ (List.mem_of_getElem? (i := 15) rfl))) (by decide) (backOf (W := 1) (rm2 l Z a0 hw [] (2 : Int32) (1 : Int32) h0 n0 Z0 ) hZ (hw _ (List.mem_of_getElem? (i := 15) rfl)) (hw _ (List.mem_of_getElem? (i := 14) rfl)) (by decide) (by decide)) (g := (mkF m 76 #[.val (.int i0), .val (.int i1), .val (.int (2 : Int32)), .val (.ref aE), .val (.int (1 : Int32)), .val (.int (cntV aE aE aH (1 : Int32))), .val (.int (cntV aE aE aH (0 : Int32)))] [(.int (1 : Int32)), (.int (2 : Int32)), (.int (cntV aE aE aH (1 : Int32)))])) rfl (by rw [hml]; rfl) (argsL := [(.int (2 : Int32)), (.int (1 : Int32))]) (rest := [(.int (cntV aE aE aH (1 : Int32)))]) (lenOf pd__IZ_Z rfl) rfl (by show 2 * 0 + _ ≤ _; exact Nat.le_of_eq rfl) (hb hby at_76) (fun _ _ => ⟨rfl, e163, (by decide : 0 + 0 + 0 + 0 ≤ _), (by decide : 0 + 0 + 0 + 0 ≤ _)⟩)
      dsimp only [Pt.U, Pt.locs, Pt.cells, Pt.slots] at X165 l165 y165 z165 st165 hQ165
      subst l165 y165 z165
      obtain ⟨rfl, N165, e165⟩ := hQ165
      have NN165 := Fr.app NN163 N165
      refine Go.by st165 ?_
      show Go _ _ _ _ T165 (mkF m 79 #[.val (.int i0), .val (.int i1), .val (.int (2 : Int32)), .val (.ref aE), .val (.int (1 : Int32)), .val (.int (cntV aE aE aH (1 : Int32))), .val (.int (cntV aE aE aH (0 : Int32)))] [(.int (expV (2 : Int32) (1 : Int32))), (.int (cntV aE aE aH (1 : Int32)))])
      refine Go.by (fun _ k => XS.icmpNo X165.here hx rfl (hb hby at_79) rfl (XT.ii_ne_f (by simp [cntV, expV, nar, n1, n2, n3, n1.symm, n2.symm, n3.symm])) k) ?_
      show Go _ _ _ _ T165 (mkF m 82 #[.val (.int i0), .val (.int i1), .val (.int (2 : Int32)), .val (.ref aE), .val (.int (1 : Int32)), .val (.int (cntV aE aE aH (1 : Int32))), .val (.int (cntV aE aE aH (0 : Int32)))] [])
      refine Go.by (fun _ k => XS.iload X165.here hx rfl (hb hby at_82) rfl k) ?_
      show Go _ _ _ _ T165 (mkF m 84 #[.val (.int i0), .val (.int i1), .val (.int (2 : Int32)), .val (.ref aE), .val (.int (1 : Int32)), .val (.int (cntV aE aE aH (1 : Int32))), .val (.int (cntV aE aE aH (0 : Int32)))] [(.int (cntV aE aE aH (0 : Int32)))])
      refine Go.by (fun _ k => XS.iloadN X165.here hx rfl (hb hby at_84) rfl k) ?_
      show Go _ _ _ _ T165 (mkF m 85 #[.val (.int i0), .val (.int i1), .val (.int (2 : Int32)), .val (.ref aE), .val (.int (1 : Int32)), .val (.int (cntV aE aE aH (1 : Int32))), .val (.int (cntV aE aE aH (0 : Int32)))] [(.int (2 : Int32)), (.int (cntV aE aE aH (0 : Int32)))])
      refine Go.by (fun _ k => XS.iload X165.here hx rfl (hb hby at_85) rfl k) ?_
      show Go _ _ _ _ T165 (mkF m 87 #[.val (.int i0), .val (.int i1), .val (.int (2 : Int32)), .val (.ref aE), .val (.int (1 : Int32)), .val (.int (cntV aE aE aH (1 : Int32))), .val (.int (cntV aE aE aH (0 : Int32)))] [(.int (1 : Int32)), (.int (2 : Int32)), (.int (cntV aE aE aH (0 : Int32)))])
      refine Go.by (fun _ k => XS.ifYes X165.here hx rfl (pc0 := 87) (pc' := 94) rfl (hb hby at_87) rfl (XT.i0_ne_t (by decide)) (by decide) (by decide) k) ?_
      show Go _ _ _ _ T165 (mkF m 94 #[.val (.int i0), .val (.int i1), .val (.int (2 : Int32)), .val (.ref aE), .val (.int (1 : Int32)), .val (.int (cntV aE aE aH (1 : Int32))), .val (.int (cntV aE aE aH (0 : Int32)))] [(.int (2 : Int32)), (.int (cntV aE aE aH (0 : Int32)))])
      refine Go.by (fun _ k => XT.iconstV X165.here hx rfl (0 : Int32) (hb hby at_94) (by decide) k) ?_
      show Go _ _ _ _ T165 (mkF m 95 #[.val (.int i0), .val (.int i1), .val (.int (2 : Int32)), .val (.ref aE), .val (.int (1 : Int32)), .val (.int (cntV aE aE aH (1 : Int32))), .val (.int (cntV aE aE aH (0 : Int32)))] [(.int (0 : Int32)), (.int (2 : Int32)), (.int (cntV aE aE aH (0 : Int32)))])
      obtain ⟨_, _, ⟨T166, L166, k166, n166⟩, -, X166, ⟨Lc166, hQ166, l166, y166, z166⟩, st166⟩ := Jvm.LawKit.callS X165 hx (y := (⟨"com/example/rondelle/rondelle/league/ModeCountsPinLaw", "expected", "(IZ)Z"⟩ : MethodName)) hown (mvT hZ (hw _ (List.mem_of_getElem? (i := 12) rfl))) (mvT hZ (hw _ (List.mem_of_getElem? (i := 13) rfl))) (mvT hZ (hw _ (List.mem_of_getElem? (i := 14) rfl))) (mvT hZ (hw _ (List.mem_of_getElem? (i := 15) rfl))) (by decide) (backOf (W := 1) (rm2 l Z a0 hw [] (2 : Int32) (0 : Int32) h0 n0 Z0 ) hZ (hw _ (List.mem_of_getElem? (i := 15) rfl)) (hw _ (List.mem_of_getElem? (i := 14) rfl)) (by decide) (by decide)) (g := (mkF m 95 #[.val (.int i0), .val (.int i1), .val (.int (2 : Int32)), .val (.ref aE), .val (.int (1 : Int32)), .val (.int (cntV aE aE aH (1 : Int32))), .val (.int (cntV aE aE aH (0 : Int32)))] [(.int (0 : Int32)), (.int (2 : Int32)), (.int (cntV aE aE aH (0 : Int32)))])) rfl (by rw [hml]; rfl) (argsL := [(.int (2 : Int32)), (.int (0 : Int32))]) (rest := [(.int (cntV aE aE aH (0 : Int32)))]) (lenOf pd__IZ_Z rfl) rfl (by show 2 * 0 + _ ≤ _; exact Nat.le_of_eq rfl) (hb hby at_95) (fun _ _ => ⟨rfl, e165, (by decide : 0 + 0 + 0 + 0 + 0 ≤ _), (by decide : 0 + 0 + 0 + 0 + 0 ≤ _)⟩)
      dsimp only [Pt.U, Pt.locs, Pt.cells, Pt.slots] at X166 l166 y166 z166 st166 hQ166
      subst l166 y166 z166
      obtain ⟨rfl, N166, e166⟩ := hQ166
      have NN166 := Fr.app NN165 N166
      refine Go.by st166 ?_
      show Go _ _ _ _ T166 (mkF m 98 #[.val (.int i0), .val (.int i1), .val (.int (2 : Int32)), .val (.ref aE), .val (.int (1 : Int32)), .val (.int (cntV aE aE aH (1 : Int32))), .val (.int (cntV aE aE aH (0 : Int32)))] [(.int (expV (2 : Int32) (0 : Int32))), (.int (cntV aE aE aH (0 : Int32)))])
      refine Go.by (fun _ k => XS.icmpNo X166.here hx rfl (hb hby at_98) rfl (XT.ii_ne_f (by simp [cntV, expV, nar, n1, n2, n3, n1.symm, n2.symm, n3.symm])) k) ?_
      show Go _ _ _ _ T166 (mkF m 101 #[.val (.int i0), .val (.int i1), .val (.int (2 : Int32)), .val (.ref aE), .val (.int (1 : Int32)), .val (.int (cntV aE aE aH (1 : Int32))), .val (.int (cntV aE aE aH (0 : Int32)))] [])
      refine Go.by (fun _ k => XT.iconstV X166.here hx rfl (1 : Int32) (hb hby at_101) (by decide) k) ?_
      show Go _ _ _ _ T166 (mkF m 102 #[.val (.int i0), .val (.int i1), .val (.int (2 : Int32)), .val (.ref aE), .val (.int (1 : Int32)), .val (.int (cntV aE aE aH (1 : Int32))), .val (.int (cntV aE aE aH (0 : Int32)))] [(.int (1 : Int32))])
      refine Go.by (fun _ k => XS.goto X166.here hx rfl (pc0 := 102) (pc' := 106) rfl (hb hby at_102) (by decide) (by decide) k) ?_
      show Go _ _ _ _ T166 (mkF m 106 #[.val (.int i0), .val (.int i1), .val (.int (2 : Int32)), .val (.ref aE), .val (.int (1 : Int32)), .val (.int (cntV aE aE aH (1 : Int32))), .val (.int (cntV aE aE aH (0 : Int32)))] [(.int (1 : Int32))])
      exact Go.retZ X166 hx Bd.notSynchronized (t := .boolean) Bd.returns (by simp) (hb hby at_106) ⟨rfl, NN166⟩ (by decide) (by decide)
theorem own_ord {args : Array Value} {s : State} {t : Term} {a : Addr} {C n d : String} {k : Int32} (ht : t.eval args s none [] s = some (.ref a)) (h : (Cond.eq (.field t C n d) (.int k)).value args s none s [] = some true) : Fld s s.heap a C n d (.int k) := by
  obtain ⟨x, y, e1, e2, k1, k2⟩ := cmp_v (Or.inl h)
  have e3 : y = .int k := Option.some.inj (e2.symm.trans (Term.int_eval k))
  subst e3
  obtain ⟨z, rfl⟩ := k2
  refine Fld.start ?_
  rw [← fld_at ht, e1]
  have := gotT (Cond.eq_ints e1 (Term.int_eval k)) h
  rw [this]
set_option maxRecDepth 65536 in
set_option maxHeartbeats 40000000 in
theorem comes_1 {Post : Tables → Env → Array Value → State → Outcome → State → Prop} (hpost : ∀ tb e args s v u, (limb_1_1.after args s (.returned v) u = true ∧ limb_1_2.after args s (.returned v) u = true ∧ True) → FrameEnd s (.returned v) u (Jvm.fieldLocs frame_1_writes args s ++ Jvm.arrayLocs frame_1_arrays args s ++ Jvm.staticLocs frame_1_statics s) 0 0 → Post tb e args s (.returned v) u) :
    ArmFor flags0 classFile x code maxLocals ret World_1 tables_1 room_1 Calls_1 rest_1 Pre_1 Post := by
  intro l hfl _ _ p e ha hc hk s m args below hf hA hF happ hP
  obtain ⟨hcalls, hrest, hpre⟩ := hP
  obtain ⟨-, -, -, hnamed, -, -, -, hat⟩ := (Spec.applies_iff hf).mp happ
  obtain ⟨hg, hn⟩ := and_e (Cond.before_iff.mp (show (Jvm.Cond.and given_1 narrow_1).before args s = true from hpre))
  obtain ⟨h1, h2⟩ := and_e hg
  obtain ⟨h3, h4⟩ := and_e h2
  obtain ⟨w0, w1, rfl⟩ : ∃ w0 w1 : Value, args = #[w0, w1] := by
    have hs : args.size = 2 := by simpa [Cond.value, given_1] using h1
    obtain ⟨L⟩ := args
    match L, hs with
    | [w0, w1], _ => exact ⟨w0, w1, rfl⟩
  have hw := fun d (hd : d ∈ tables_1) => atoms_spec (ws := Jvm.Cond.code x code maxLocals ret :: tables_1) hat d (List.mem_cons_of_mem _ hd)
  obtain ⟨i0, e0⟩ := is_v h3
  obtain rfl : w0 = (.int i0) := Option.some.inj e0
  obtain ⟨i1, e1⟩ := is_v h4
  obtain rfl : w1 = (.int i1) := Option.some.inj e1
  obtain ⟨m1, hn⟩ := and_e hn
  obtain ⟨m2, hn⟩ := and_e hn
  obtain ⟨m3, hn⟩ := and_e hn
  obtain ⟨m4, hn⟩ := and_e hn
  obtain ⟨m5, m6⟩ := and_e hn
  obtain ⟨aH, vH⟩ := exa_v m1
  obtain ⟨aE, vE⟩ := exa_v m2
  obtain ⟨aA, vA⟩ := exa_v m5
  have FH := own_ord vH m3
  have FE := own_ord vE m4
  have FA := own_ord vA m6
  have wi := (hw _ (List.mem_of_getElem? (i := 2) rfl))
  obtain ⟨n, o, h1, h2, h3, _, L, rfl, ⟨rfl, N⟩, hq⟩ := rm0 l s _ hw tables_1 i0 i1 aH aA aE s.heap s.heap.size (Nat.le_refl _) (Sta.start vH (Or.inr ⟨wi, (hw _ (List.mem_of_getElem? (i := 3) rfl))⟩)) (Sta.start vA (Or.inr ⟨wi, (hw _ (List.mem_of_getElem? (i := 18) rfl))⟩)) (Sta.start vE (Or.inr ⟨wi, (hw _ (List.mem_of_getElem? (i := 10) rfl))⟩)) (Exa.start vH m1) (Exa.start vA m5) (Exa.start vE m2) (FH.ne FA (by simp)) (FH.ne FE (by simp)) (FA.ne FE (by simp)) p e ha hc hk s m _ below hf ((Spec.applies_iff_loose hf).mp happ).1 ⟨rfl, State.Warmed39.refl s, rfl⟩ trivial
  refine ⟨n, _, h1, h2, h3, hpost _ _ _ _ _ _ ⟨Cond.after_iff.mpr rfl, Cond.after_iff.mpr (eq_i res_at (Term.int_eval (1)) rfl), trivial⟩ ⟨hq.1, hq.2.1, (hq.2.2.sift fun y hy => Or.inr (N y hy)).mono (by decide) (by decide)⟩⟩
theorem main_1_1 : Claimed_1_1 := comes_1 fun _ _ _ _ _ _ h hF => ⟨h.1, hF⟩
theorem main_1_2 : Claimed_1_2 := comes_1 fun _ _ _ _ _ _ h hF => ⟨h.2.1, hF⟩
end Jvm.Pilot.@@N@@
namespace Jvm.Pilot.@@N@@
open Jvm Jvm.ClassFile Sem Op Lib Jvm.Free Jvm.Stand Jvm.Pilot.@@N@@.Jvm.D
/-! MADE BY PROGRAM (witnessworld.py) out of the Statement's table words and the real class files: 12 classes; the members and pool entries that the words name. The judged class is class 1, her method 2. -/
namespace start1
open Jvm.ClassFile
def u (s : String) : CpInfo := .utf8 (stringToUtf16 s)
/-- a pool by its gaps: so many unusable entries, then the entry; so many at the end -/
def gap : Nat → List CpInfo → List CpInfo
  | 0, r => r
  | n + 1, r => .unusable :: gap n r
def poolList (es : List (Nat × CpInfo)) (last : Nat) : List CpInfo := es.foldr (fun e r => gap e.1 (e.2 :: r)) (gap last [])
def pool (es : List (Nat × CpInfo)) (last : Nat) : Array CpInfo := ⟨poolList es last⟩
def fileOf (pool : Array CpInfo) (this : Nat) (attrs : Array Attribute := #[]) (ms : Array MethodInfo := #[]) (fl : Nat := 33) (sup : Nat := 0) (ifs : Array Nat := #[]) (fds : Array FieldInfo := #[]) : ClassFile where
  minorVersion := 0
  majorVersion := 65
  constantPool := pool
  accessFlags := fl
  thisClass := this
  superClass := sup
  interfaces := ifs
  fields := fds
  methods := ms
  attributes := attrs
def plain (name : String) (sup : Option ClassId) : Class where
  name := name
  kind := .ordinary
  loader := none
  accessFlags := 33
  super := sup
  interfaces := #[]
  cf := none
  fields := #[]
  methods := #[]
  instanceTypes := #[]
  staticTypes := #[]
  resolved := #[]
  callSites := []
  init := .initialized
  statics := none
  mirror := none

def pool0 : Array CpInfo := pool [(5, u "<init>"), (0, u "()V"), (1, .class_ 10), (1, u "java/lang/Object")] 113

def k0m0 : Method := { name := "<init>", desc := "()V", sig := { parameters := [], returnType := none }, accessFlags := 1, code := none }
/-- java/lang/Object -/
def k0 : Class := { plain "java/lang/Object" none with
  accessFlags := 33
  interfaces := #[]
  cf := some (fileOf pool0 8 #[] #[{ accessFlags := 1, nameIndex := 5, descriptorIndex := 6, attributes := #[] }] 33 0 #[] #[])
  fields := #[]
  methods := #[k0m0]
  instanceTypes := #[]
  staticTypes := #[]
  resolved := Array.replicate 124 none
  statics := none }

def pool1 : Array CpInfo := pool [(2, .class_ 4), (1, u "java/lang/Object"), (0, u "<init>"), (0, u "()V"), (0, .integer 2147483647), (0, .fieldref 9 10), (0, .class_ 11), (0, .nameAndType 12 13), (0, u "com/example/rondelle/rondelle/league/Mode"), (0, u "HOME"), (0, u "Lcom/example/rondelle/rondelle/league/Mode;"), (0, .fieldref 9 15), (0, .nameAndType 16 13), (0, u "AWAY"), (0, .fieldref 9 18), (0, .nameAndType 19 13), (0, u "EITHER"), (0, .methodref 9 21), (0, .nameAndType 22 23), (0, u "counts"), (0, u "(Z)Z"), (0, .methodref 25 26), (0, .class_ 27), (0, .nameAndType 28 29), (0, u "com/example/rondelle/rondelle/league/ModeCountsPinLaw"), (0, u "expected"), (0, u "(IZ)Z"), (3, u "law"), (0, u "(II)Z")] 2

def k1m0 : Method := { name := "<init>", desc := "()V", sig := { parameters := [], returnType := none }, accessFlags := 2, code := none }
def k1c1 : Code := { maxStack := 2, maxLocals := 2, code := method_2_code, exceptionTable := #[], attributes := #[] }
def k1m1 : Method := { name := "expected", desc := "(IZ)Z", sig := { parameters := [.int, .boolean], returnType := some .boolean }, accessFlags := 10, code := some k1c1 }
def k1c2 : Code := { maxStack := 3, maxLocals := 7, code := code, exceptionTable := #[], attributes := #[] }
def k1m2 : Method := { name := "law", desc := "(II)Z", sig := { parameters := [.int, .int], returnType := some .boolean }, accessFlags := 9, code := some k1c2 }
/-- com/example/rondelle/rondelle/league/ModeCountsPinLaw -/
def k1 : Class := { plain "com/example/rondelle/rondelle/league/ModeCountsPinLaw" (some 0) with
  accessFlags := 49
  interfaces := #[]
  cf := some (fileOf pool1 25 #[] #[{ accessFlags := 2, nameIndex := 5, descriptorIndex := 6, attributes := #[] }, { accessFlags := 10, nameIndex := 28, descriptorIndex := 29, attributes := #[] }, { accessFlags := 9, nameIndex := 33, descriptorIndex := 34, attributes := #[] }] 49 2 #[] #[])
  fields := #[]
  methods := #[k1m0, k1m1, k1m2]
  instanceTypes := #[]
  staticTypes := #[]
  resolved := Array.replicate 37 none
  statics := none }

def pool2 : Array CpInfo := pool [(1, .class_ 2), (0, u "java/lang/constant/Constable"), (0, .class_ 4), (0, u "java/lang/Object")] 6

/-- java/lang/constant/Constable -/
def k2 : Class := { plain "java/lang/constant/Constable" (some 0) with
  accessFlags := 1537
  interfaces := #[]
  cf := some (fileOf pool2 1 #[] #[] 1537 3 #[] #[])
  fields := #[]
  methods := #[]
  instanceTypes := #[]
  staticTypes := #[]
  resolved := Array.replicate 11 none
  statics := none }

def pool3 : Array CpInfo := pool [(1, .class_ 2), (0, u "java/lang/Comparable"), (0, .class_ 4), (0, u "java/lang/Object")] 7

/-- java/lang/Comparable -/
def k3 : Class := { plain "java/lang/Comparable" (some 0) with
  accessFlags := 1537
  interfaces := #[]
  cf := some (fileOf pool3 1 #[] #[] 1537 3 #[] #[])
  fields := #[]
  methods := #[]
  instanceTypes := #[]
  staticTypes := #[]
  resolved := Array.replicate 12 none
  statics := none }

def pool4 : Array CpInfo := pool [(1, .class_ 2), (0, u "java/io/Serializable"), (0, .class_ 4), (0, u "java/lang/Object")] 2

/-- java/io/Serializable -/
def k4 : Class := { plain "java/io/Serializable" (some 0) with
  accessFlags := 1537
  interfaces := #[]
  cf := some (fileOf pool4 1 #[] #[] 1537 3 #[] #[])
  fields := #[]
  methods := #[]
  instanceTypes := #[]
  staticTypes := #[]
  resolved := Array.replicate 7 none
  statics := none }

def pool5 : Array CpInfo := pool [(2, .class_ 4), (1, u "java/lang/Enum"), (0, u "name"), (0, u "Ljava/lang/String;"), (2, u "ordinal"), (0, u "I"), (1, .class_ 14), (1, u "java/lang/Object"), (4, u "hash"), (86, .class_ 108), (1, u "java/lang/Enum$EnumDesc"), (2, .class_ 112), (0, u "java/lang/constant/Constable"), (0, .class_ 114), (0, u "java/lang/Comparable"), (0, .class_ 116), (0, u "java/io/Serializable")] 87

/-- java/lang/Enum -/
def k5 : Class := { plain "java/lang/Enum" (some 0) with
  accessFlags := 1057
  interfaces := #[2, 3, 4]
  cf := some (fileOf pool5 2 #[.nestMembers #[106]] #[] 1057 12 #[111, 113, 115] #[{ accessFlags := 18, nameIndex := 5, descriptorIndex := 6, attributes := #[] }, { accessFlags := 18, nameIndex := 9, descriptorIndex := 10, attributes := #[] }, { accessFlags := 2, nameIndex := 19, descriptorIndex := 10, attributes := #[] }])
  fields := #[{ name := "name", type := (.object "java/lang/String"), accessFlags := 18, slot := 0, constantValue := 0 }, { name := "ordinal", type := .int, accessFlags := 18, slot := 1, constantValue := 0 }, { name := "hash", type := .int, accessFlags := 2, slot := 2, constantValue := 0 }]
  methods := #[]
  instanceTypes := #[(.object "java/lang/String"), .int, .int]
  staticTypes := #[]
  resolved := Array.replicate 204 none
  statics := none }

def pool6 : Array CpInfo := pool [(1, .class_ 2), (0, u "com/example/rondelle/rondelle/league/Mode"), (0, .fieldref 1 4), (0, .nameAndType 5 6), (0, u "HOME"), (0, u "Lcom/example/rondelle/rondelle/league/Mode;"), (2, u "AWAY"), (0, .fieldref 1 11), (0, .nameAndType 12 6), (0, u "EITHER"), (2, u "$VALUES"), (0, u "[Lcom/example/rondelle/rondelle/league/Mode;"), (6, .class_ 25), (1, u "java/lang/Enum"), (21, u "counts"), (0, u "(Z)Z")] 5

def k6c0 : Code := { maxStack := 2, maxLocals := 2, code := prog_18_method_4_code, exceptionTable := #[], attributes := #[] }
def k6m0 : Method := { name := "counts", desc := "(Z)Z", sig := { parameters := [.boolean], returnType := some .boolean }, accessFlags := 1, code := some k6c0 }
/-- com/example/rondelle/rondelle/league/Mode -/
def k6 : Class := { plain "com/example/rondelle/rondelle/league/Mode" (some 5) with
  accessFlags := 16433
  interfaces := #[]
  cf := some (fileOf pool6 1 #[] #[{ accessFlags := 1, nameIndex := 47, descriptorIndex := 48, attributes := #[] }] 16433 23 #[] #[{ accessFlags := 16409, nameIndex := 5, descriptorIndex := 6, attributes := #[] }, { accessFlags := 16409, nameIndex := 9, descriptorIndex := 6, attributes := #[] }, { accessFlags := 16409, nameIndex := 12, descriptorIndex := 6, attributes := #[] }, { accessFlags := 4122, nameIndex := 15, descriptorIndex := 16, attributes := #[] }])
  fields := #[{ name := "HOME", type := (.object "com/example/rondelle/rondelle/league/Mode"), accessFlags := 16409, slot := 0, constantValue := 0 }, { name := "AWAY", type := (.object "com/example/rondelle/rondelle/league/Mode"), accessFlags := 16409, slot := 1, constantValue := 0 }, { name := "EITHER", type := (.object "com/example/rondelle/rondelle/league/Mode"), accessFlags := 16409, slot := 2, constantValue := 0 }, { name := "$VALUES", type := (.array (.object "com/example/rondelle/rondelle/league/Mode")), accessFlags := 4122, slot := 3, constantValue := 0 }]
  methods := #[k6m0]
  instanceTypes := #[(.object "java/lang/String"), .int, .int]
  staticTypes := #[(.object "com/example/rondelle/rondelle/league/Mode"), (.object "com/example/rondelle/rondelle/league/Mode"), (.object "com/example/rondelle/rondelle/league/Mode"), (.array (.object "com/example/rondelle/rondelle/league/Mode"))]
  resolved := Array.replicate 54 none
  statics := some 0 }

def pool7 : Array CpInfo := pool [(1, u "java/lang/Cloneable"), (0, .class_ 1), (0, u "java/lang/Object"), (0, .class_ 3)] 3

/-- java/lang/Cloneable -/
def k7 : Class := { plain "java/lang/Cloneable" (some 0) with
  accessFlags := 1537
  interfaces := #[]
  cf := some (fileOf pool7 2 #[] #[] 1537 4 #[] #[])
  fields := #[]
  methods := #[]
  instanceTypes := #[]
  staticTypes := #[]
  resolved := Array.replicate 8 none
  statics := none }

/-- the primitive byte -/
def k8 : Class := { plain "byte" none with kind := .primitive 'B', accessFlags := 0x411 }
/-- [B -/
def k9 : Class := { plain "[B" (some 0) with kind := .array 8 .byte, interfaces := #[7, 4], accessFlags := 1041 }

/-- the primitive int -/
def k10 : Class := { plain "int" none with kind := .primitive 'I', accessFlags := 0x411 }
/-- [I -/
def k11 : Class := { plain "[I" (some 0) with kind := .array 10 .int, interfaces := #[7, 4], accessFlags := 1041 }

def heap : Heap := #[{ cls := 6, slots := #[.ref 1, .ref 2, .ref 3, .null], vm := .statics 6 },
  { cls := 6, slots := #[.null, .int 0, .int 0], vm := .none },
  { cls := 6, slots := #[.null, .int 1, .int 0], vm := .none },
  { cls := 6, slots := #[.null, .int 2, .int 0], vm := .none }]
def classes : Array Class := #[k0, k1, k2, k3, k4, k5, k6, k7, k8, k9, k10, k11]
def interned : List (Array UInt16 × Addr) := []
def slotsUsed : Nat := 13
def theMethod : MethodId := ⟨1, 2⟩
def args0 : Array Value := #[.int 5, .int 1]
def aboutOver (below : List Frame) : State where
  vm := { classes := classes, interned := interned.toArray }
  heap := heap
  slotsUsed := slotsUsed
  threads := #[{ frames := .invoking theMethod args0 :: below }]
def below0 : List Frame := [.native { method := ⟨0, 0⟩, args := #[] }]
def about1 : State := aboutOver below0
def p0 : Program := .bare "" "" ""
def e0 : Env := launch0.env 0 0 0
theorem w_frames : about1.frames = Frame.invoking theMethod args0 :: below0 := rfl
set_option maxRecDepth 65536 in
theorem w_args : argsFit about1.vm theMethod args0 = true := by decide +kernel
set_option maxRecDepth 65536 in
theorem w_heap : heapFits about1 = true := by decide +kernel
set_option maxRecDepth 65536 in
theorem w_runnable : about1.curStatus? = some .runnable := by decide +kernel
set_option maxRecDepth 65536 in
theorem w_alone : about1.alone = true := by decide +kernel
set_option maxRecDepth 65536 in
theorem w_named : about1.methodNamed? x = some theMethod := by decide +kernel
set_option maxRecDepth 65536 in
theorem w_hears : about1.hears theMethod below0 = true := by decide +kernel
set_option maxRecDepth 65536 in
theorem w_ripe : about1.ripe theMethod args0 below0 = true := by decide +kernel
theorem w_running : about1.status = .running := rfl
set_option maxRecDepth 65536 in
theorem w_room : about1.hasRoom e0.platform room_1 = true :=
  launch0.hasRoom_least _ room_1 (by decide +kernel) (by decide +kernel) (by decide +kernel) (by decide +kernel) (by decide +kernel) (by decide +kernel)
theorem allAtoms_all (ts : List Jvm.Cond) (a : Array Jvm.Value) (st : Jvm.State) : (allAtoms ts).before a st = ts.all (fun c => c.before a st) := by
  induction ts with
  | nil => rfl
  | cons c t ih =>
    show (Jvm.Cond.and c (allAtoms t)).before a st = _
    rw [Jvm.Cond.before_and, ih, List.all_cons]
def words1 : List Jvm.Cond := Jvm.Cond.code x code maxLocals ret :: tables_1
/-- a 'code' word, met by the world's own term for the bytes: nothing is compared byte by byte -/
theorem code_word {y : MethodName} {bytes : ByteArray} {mx : Nat} {rt : Option FieldType} {a : Array Value} {s : State} {m : MethodId} {meth : Method} {c : Code} (h1 : s.methodNamed? y = some m) (h2 : s.vm.method? m = some meth) (h3 : meth.code = some c) (h4 : c.code = bytes)
    (h5 : (c.maxLocals == mx && c.exceptionTable.isEmpty && decide (c.maxStack ≤ mostOperands) && decide (meth.sig.returnType = rt) && !meth.locks && decide (parseMethodDescriptor y.desc = some meth.sig)) = true) : (Jvm.Cond.code y bytes mx rt).before a s = true := by
  simp only [Bool.and_eq_true, beq_iff_eq, Bool.not_eq_true', decide_eq_true_eq] at h5
  obtain ⟨⟨⟨⟨⟨g1, g2⟩, g3⟩, g4⟩, g5⟩, g6⟩ := h5
  simp [Cond.before, Cond.holds, Cond.value, h1, h2, h3, h4, g1, g2, g3, g4, g5, g6]
def isCode : Jvm.Cond → Bool
  | .code _ _ _ _ => true
  | _ => false
theorem all_split {L : List Jvm.Cond} {P : Jvm.Cond → Bool} (h1 : L.all (fun c => isCode c || P c) = true) (h2 : ∀ c ∈ L.filter isCode, P c = true) : L.all P = true := by
  refine List.all_eq_true.mpr fun c hc => ?_
  have h := List.all_eq_true.mp h1 c hc
  rcases Bool.eq_false_or_eq_true (isCode c) with hi | hi
  · exact h2 c (List.mem_filter.mpr ⟨hc, hi⟩)
  · simpa [hi] using h
set_option maxRecDepth 65536 in
theorem w_c0 : (Jvm.Cond.code x code maxLocals ret).before args0 about1 = true := code_word (m := ⟨1, 2⟩) (meth := k1m2) (c := k1c2) (by decide +kernel) rfl rfl rfl (by decide +kernel)
set_option maxRecDepth 65536 in
theorem w_c1 : (Jvm.Cond.code ({ cls := "com/example/rondelle/rondelle/league/Mode", name := "counts", desc := "(Z)Z" } : Jvm.MethodName) prog_18_method_4_code (2 : Nat) (Option.some Jvm.ClassFile.FieldType.boolean)).before args0 about1 = true := code_word (m := ⟨6, 0⟩) (meth := k6m0) (c := k6c0) (by decide +kernel) rfl rfl rfl (by decide +kernel)
set_option maxRecDepth 65536 in
theorem w_c2 : (Jvm.Cond.code ({ cls := "com/example/rondelle/rondelle/league/ModeCountsPinLaw", name := "expected", desc := "(IZ)Z" } : Jvm.MethodName) method_2_code (2 : Nat) (Option.some Jvm.ClassFile.FieldType.boolean)).before args0 about1 = true := code_word (m := ⟨1, 1⟩) (meth := k1m1) (c := k1c1) (by decide +kernel) rfl rfl rfl (by decide +kernel)
def codes1 : List Jvm.Cond := [Jvm.Cond.code x code maxLocals ret, Jvm.Cond.code ({ cls := "com/example/rondelle/rondelle/league/Mode", name := "counts", desc := "(Z)Z" } : Jvm.MethodName) prog_18_method_4_code (2 : Nat) (Option.some Jvm.ClassFile.FieldType.boolean), Jvm.Cond.code ({ cls := "com/example/rondelle/rondelle/league/ModeCountsPinLaw", name := "expected", desc := "(IZ)Z" } : Jvm.MethodName) method_2_code (2 : Nat) (Option.some Jvm.ClassFile.FieldType.boolean)]
set_option maxRecDepth 65536 in
theorem codes_eq : words1.filter isCode = codes1 := rfl
theorem w_codes : ∀ c ∈ words1.filter isCode, c.before args0 about1 = true := by
  rw [codes_eq]
  intro c hc
  simp only [codes1, List.mem_cons, List.not_mem_nil, or_false] at hc
  rcases hc with rfl | rfl | rfl
  · exact w_c0
  · exact w_c1
  · exact w_c2
set_option maxRecDepth 65536 in
theorem w_t1 : words1.all (fun c => isCode c || c.before args0 about1) = true := by decide +kernel
theorem w_tables : (allAtoms (Jvm.Cond.code x code maxLocals ret :: tables_1)).before args0 about1 = true := by
  rw [allAtoms_all]
  show words1.all (fun c => c.before args0 about1) = true
  refine all_split ?_ w_codes
  rw [w_t1]
set_option maxRecDepth 65536 in
theorem w_case : (Jvm.Cond.and given_1 narrow_1).before args0 about1 = true := by decide +kernel
theorem w_applies : (headSpec (Jvm.Cond.code x code maxLocals ret :: tables_1) room_1).applies x e0.platform about1 = true :=
  (Spec.applies_iff w_frames).mpr ⟨w_running, w_runnable, w_alone, w_named, w_hears, w_ripe, w_room, w_tables⟩
theorem atStart : AtStart classFile x code maxLocals ret World_1 tables_1 room_1 Calls_1 rest_1 Pre_1 launch0 p0 e0 about1 theMethod args0 below0 :=
  ⟨lists_1, trivial, launch0.admits_env _ _ _, launch0.least_env, fairChoices_fair.cas, fairChoices_fair.clock, w_frames, w_args, w_heap, w_applies, trivial, trivial, w_case⟩
end start1
theorem witness_1 : WitnessClaimed_1 := ⟨start1.p0, start1.e0, start1.about1, start1.theMethod, start1.args0, start1.below0, start1.atStart⟩
end Jvm.Pilot.@@N@@
