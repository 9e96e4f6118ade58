import JvmDerived
import JvmDerived.Pilot.@@N@@Statement
import JvmDerived.Pilot.@@N@@Code
set_option linter.unusedVariables false
set_option linter.unusedSimpArgs false
namespace Jvm.Pilot.@@N@@
open Jvm Jvm.ClassFile Sem Op Lib Jvm.Free Jvm.Stand Jvm.LawKit Jvm.RoadKit Bundle Jvm.Pilot.@@N@@.Jvm.D
section OwnGo
variable {p : Program} {l : Launch} {e : Env} {R : Room} {s : State} {m : MethodId} {args : Array Value} {below : List Frame} {meth : Method} {c : Code} {T T' : State} {locs : List Loc} {cells slots : Nat} {g g' : JFrame} {F : State → Outcome → Prop} {Q : Option Value → Heap → List Loc → Prop} {ck sk : Nat}
/-- from this place the run ends, and F holds at the end -/
def Go (p : Program) (e : Env) (below : List Frame) (F : State → Outcome → Prop) (T : State) (g : JFrame) : Prop :=
  ∃ t o, Steps p.tables e below (T.setTop g) t ∧ t.status = .running ∧ Ended t below o ∧ F t o
def FinN (s : State) (Q : Option Value → Heap → List Loc → Prop) (ck sk : Nat) (t : State) (o : Outcome) : Prop :=
  ∃ v L, o = .returned v ∧ Q v t.heap L ∧ FrameEnd s o t L ck sk
theorem Go.by (h : ∀ target, Steps p.tables e below (T'.setTop g') target → Steps p.tables e below (T.setTop g) target) (k : Go p e below F T' g') : Go p e below F T g := by
  obtain ⟨t, o, h1, h2⟩ := k; exact ⟨t, o, h _ h1, h2⟩
theorem Go.call (h : Steps p.tables e below (T.setTop g) (T'.setTop g')) (k : Go p e below F T' g') : Go p e below F T g := by
  obtain ⟨t, o, h1, h2⟩ := k; exact ⟨t, o, h.trans h1, h2⟩
theorem Go.join (T' : State) (g' : JFrame) (h : Go p e below F T' g' → Go p e below F T g) (k : Go p e below F T' g') : Go p e below F T g := h k
theorem Go.done (X : Stand p l e R s m args below meth c T locs cells slots) {v : Option Value} (hv : meth.sig.returnType = none → v = none) (hlocks : meth.locks = false)
    (st : ∀ fs, (∀ (f : JFrame) (acts : List Action), f.method = m → f.locked = none → f.entered = [] → (doReturn e (T.setTop f) acts v).1 = T.setFrames fs) → Steps p.tables e below (T.setTop g) (T.setFrames fs))
    (hQ : Q v T.heap locs) (hc : cells ≤ ck) (hs : slots ≤ sk) : Go p e below (FinN s Q ck sk) T g := by
  obtain ⟨fs, hr, hrun, hended, hW, hsame⟩ := X.leave hv hlocks
  exact ⟨_, _, st fs hr, hrun, hended, v, locs, rfl, hQ, ⟨_, rfl⟩, hW, hsame.mono hc hs⟩
theorem Go.retZ (X : Stand p l e R s m args below meth c T locs cells slots) (hx : p.tables.exec = Jvm.exec) (hlocks : meth.locks = false) {pc : Nat} {Ls : Array Slot} {z : Int32} {t : FieldType} {rest : List Value} (hret : meth.sig.returnType = some t) (ht : t = .boolean ∨ t = .byte ∨ t = .char ∨ t = .short)
    (hd : decode c.code pc = .ok (.ireturn, 1)) (hQ : Q (some (.int (nar t z))) T.heap locs) (hc : cells ≤ ck) (hs : slots ≤ sk) : Go p e below (FinN s Q ck sk) T (mkF m pc Ls (.int z :: rest)) :=
  Go.done X (fun h => by rw [hret] at h; cases h) hlocks (fun fs hr => retN X hx hret ht hd hr) hQ hc hs
theorem Go.retO (X : Stand p l e R s m args below meth c T locs cells slots) (hx : p.tables.exec = Jvm.exec) (hlocks : meth.locks = false) {pc : Nat} {Ls : Array Slot} {w : Value} {t : FieldType} {i : Instr} {rest : List Value} (hret : meth.sig.returnType = some t) (hn : narrow t w = w)
    (hi : (i = .ireturn ∧ (t = .int ∨ t = .boolean ∨ t = .byte ∨ t = .char ∨ t = .short) ∧ ∃ z, w = .int z) ∨ (i = .lreturn ∧ t = .long ∧ ∃ z, w = .long z) ∨ (i = .dreturn ∧ t = .double ∧ ∃ z, w = .double z) ∨ (i = .freturn ∧ t = .float ∧ ∃ z, w = .float z) ∨ (i = .areturn ∧ t.isReference = true ∧ w.isRef = true))
    (hd : decode c.code pc = .ok (i, 1)) (hQ : Q (some w) T.heap locs) (hc : cells ≤ ck) (hs : slots ≤ sk) : Go p e below (FinN s Q ck sk) T (mkF m pc Ls (w :: rest)) :=
  Go.done X (fun h => by rw [hret] at h; cases h) hlocks (fun fs hr => retOut X hx hret hn hi hd hr) hQ hc hs
theorem Go.retI (X : Stand p l e R s m args below meth c T locs cells slots) (hx : p.tables.exec = Jvm.exec) (hlocks : meth.locks = false) {pc : Nat} {Ls : Array Slot} {z : Int32} {rest : List Value} (hret : meth.sig.returnType = some .int)
    (hd : decode c.code pc = .ok (.ireturn, 1)) (hQ : Q (some (.int z)) T.heap locs) (hc : cells ≤ ck) (hs : slots ≤ sk) : Go p e below (FinN s Q ck sk) T (mkF m pc Ls (.int z :: rest)) :=
  Go.retO X hx hlocks hret rfl (Or.inl ⟨rfl, Or.inl rfl, _, rfl⟩) hd hQ hc hs
theorem Go.retA (X : Stand p l e R s m args below meth c T locs cells slots) (hx : p.tables.exec = Jvm.exec) (hlocks : meth.locks = false) {pc : Nat} {Ls : Array Slot} {w : Value} {t : FieldType} {rest : List Value} (hret : meth.sig.returnType = some t) (ht : t.isReference = true) (hw : w.isRef = true)
    (hd : decode c.code pc = .ok (.areturn, 1)) (hQ : Q (some w) T.heap locs) (hc : cells ≤ ck) (hs : slots ≤ sk) : Go p e below (FinN s Q ck sk) T (mkF m pc Ls (w :: rest)) :=
  Go.retO X hx hlocks hret (by cases w <;> cases t <;> first | rfl | (cases hw; done) | (cases ht; done)) (Or.inr (Or.inr (Or.inr (Or.inr ⟨rfl, ht, hw⟩)))) hd hQ hc hs
theorem Go.retV (X : Stand p l e R s m args below meth c T locs cells slots) (hx : p.tables.exec = Jvm.exec) (hlocks : meth.locks = false) {pc : Nat} {Ls : Array Slot} (hret : meth.sig.returnType = none)
    (hd : decode c.code pc = .ok (.return_, 1)) (hQ : Q none T.heap locs) (hc : cells ≤ ck) (hs : slots ≤ sk) : Go p e below (FinN s Q ck sk) T (mkF m pc Ls []) :=
  Go.done X (fun _ => rfl) hlocks (fun fs hr => X.returnOut hx hret hd hr) hQ hc hs
end OwnGo
theorem own_modN (n : Nat) (N : Int32) (hN : N.toInt = (n : Int)) (hn : 0 < n) (hb : n < 2147483648) (i : Int32) : ∃ k : Fin n, (i &&& (2147483647 : Int32)) % N = Int32.ofInt k.1 := by
  have h1 := (c_and i (2147483647 : Int32) (by decide)).1
  have h2 := (c_irem (i &&& (2147483647 : Int32)) N n hN).1 h1
  have h3 := Int.emod_lt_of_pos (i &&& (2147483647 : Int32)).toInt (show (0 : Int) < (n : Int) by omega)
  have h4 := Int.emod_nonneg (i &&& (2147483647 : Int32)).toInt (show (n : Int) ≠ 0 by omega)
  refine ⟨⟨((i &&& (2147483647 : Int32)).toInt % (n : Int)).toNat, by omega⟩, ?_⟩
  rw [← Int32.toInt_inj, h2, Int32.toInt_ofInt]
  show _ = Int.bmod (((((i &&& (2147483647 : Int32)).toInt % (n : Int)).toNat : Nat) : Int)) _
  rw [Int.toNat_of_nonneg h4, show Int32.size = 4294967296 from rfl, Int.bmod_eq_of_le (by omega) (by omega)]
section OwnArr
variable {p : Program} {l : Launch} {e : Env} {R : Room} {s : State} {m : MethodId} {args : Array Value} {below : List Frame} {meth : Method} {c : Code} {T : State} {locs : List Loc} {cells slots : Nat} {Z : State} {h : Heap} {a y : Addr} {k : ClassId} {ty : FieldType} {z j : Int32} {vs : List Value} {dv v : Value} {C : String} {g : JFrame} {rest : List Value}
theorem own_stR (X : Stand p l e R s m args below meth c T locs cells slots) (hx : p.tables.exec = Jvm.exec) (hZ : Z.Warmed39 s.vm) (eT : T.heap = h) (F : Arv Z h a k ty z vs dv) (hty : ty.isReference = true) (O : Ovr Z k C) (I : Ins Z h y C true)
    (hj : ¬ j < 0 ∧ j < z) (i : Nat) (hi : j.toNatClampNeg = i) (hl : i < vs.length) (hg : g.method = m) (hs : g.stack = .ref y :: .int j :: .ref a :: rest) (hd : decode c.code g.pc = .ok (.aastore, 1)) :
    ∃ T' h', Stand p l e R s m args below meth c T' (locs ++ [⟨a, j.toNatClampNeg⟩]) cells slots ∧ T'.heap = h' ∧ Wr h h' a j.toNatClampNeg (.ref y) ∧ Arv Z h' a k ty z (vs.set i (.ref y)) dv ∧ ∀ target, Steps p.tables e below (T'.setTop { g with pc := g.pc + 1, stack := rest }) target → Steps p.tables e below (T.setTop g) target := by
  obtain ⟨cl, A, q1, S, q3, H, G⟩ := F
  obtain ⟨T', h', X', e', W, st⟩ := stR X hx hZ eT A (inb_of S hj) hty (Sto.ofV A q1 O I) hg hs hd
  exact ⟨T', h', X', e', W, Arv.set A q1 S q3 H G (by cases ty <;> first | rfl | (cases hty; done)) W i hi hl, st⟩
theorem own_aaload (X : Stand p l e R s m args below meth c T locs cells slots) (hx : p.tables.exec = Jvm.exec) (hZ : Z.Warmed39 s.vm) (eT : T.heap = h) (F : Arv Z h a k ty z vs dv) (hty : ty.isReference = true) (hj : ¬ j < 0 ∧ j < z) (hv : vs.getD j.toNatClampNeg dv = v)
    (hg : g.method = m) (hs : g.stack = .int j :: .ref a :: rest) (hd : decode c.code g.pc = .ok (.aaload, 1)) (target : State) (hr : Steps p.tables e below (T.setTop { g with pc := g.pc + 1, stack := v :: rest }) target) : Steps p.tables e below (T.setTop g) target := by
  obtain ⟨cl, A, q1, S, q3, H, G⟩ := F
  exact X.aaload hx (by rw [eT]; exact A.1) (State.isArrayOf_alike hZ.alike A.2.1) hty A.2.2 (inb_of S hj) (H.at (inb_of S hj) hv) hg hs hd target hr
theorem own_laload (X : Stand p l e R s m args below meth c T locs cells slots) (hx : p.tables.exec = Jvm.exec) (hZ : Z.Warmed39 s.vm) (eT : T.heap = h) (F : Arv Z h a k .long z vs dv) (hj : ¬ j < 0 ∧ j < z) (hv : vs.getD j.toNatClampNeg dv = v)
    (hg : g.method = m) (hs : g.stack = .int j :: .ref a :: rest) (hd : decode c.code g.pc = .ok (.laload, 1)) (target : State) (hr : Steps p.tables e below (T.setTop { g with pc := g.pc + 1, stack := v :: rest }) target) : Steps p.tables e below (T.setTop g) target := by
  obtain ⟨cl, A, q1, S, q3, H, G⟩ := F
  exact X.laload hx (by rw [eT]; exact A.1) (State.isArrayOf_alike hZ.alike A.2.1) A.2.2 (inb_of S hj) (H.at (inb_of S hj) hv) hg hs hd target hr
end OwnArr
theorem own_fldv {args : Array Value} {s : State} {t : Term} {a : Addr} {C n d : String} {k : Int32} (ht : t.eval args s none [] s = some (.ref a)) (h : (Cond.eq (.field t C n d) (.int k)).value args s none s [] = some true) : Fld s s.heap a C n d (.int k) := by
  obtain ⟨x, y, e1, e2, k1, k2⟩ := cmp_v (Or.inl h)
  have e3 : y = .int k := Option.some.inj (e2.symm.trans (Term.int_eval k))
  subst e3
  obtain ⟨z, rfl⟩ := k2
  refine Fld.start ?_
  rw [← fld_at ht, e1]
  have := gotT (Cond.eq_ints e1 (Term.int_eval k)) h
  rw [this]
def plV (a b c : Addr) : Int32 := if a = b then 1 else if a = c then 1 else 0
theorem own_mod14 (i : Int32) : ∃ k : Fin 14, (i &&& (2147483647 : Int32)) % (14 : Int32) = Int32.ofInt k.1 := own_modN 14 14 (by decide) (by decide) (by decide) i
theorem pn_com_example_nonet_nonet_logic_Technique : plainName "com/example/nonet/nonet/logic/Technique" = true := by first | (simp [plainName, overriddenIn]; done) | decide +kernel
theorem d0_0 : decode prog_47_method_5_code 0 = .ok (.aload_n 0, 1) := by decide +kernel
theorem d0_1 : decode prog_47_method_5_code 1 = .ok (.getstatic 3, 3) := by decide +kernel
theorem d0_4 : decode prog_47_method_5_code 4 = .ok (.if_acmp .eq 10, 3) := by decide +kernel
theorem d0_14 : decode prog_47_method_5_code 14 = .ok (.iconst 1, 1) := by decide +kernel
theorem d0_15 : decode prog_47_method_5_code 15 = .ok (.goto 4, 3) := by decide +kernel
theorem d0_19 : decode prog_47_method_5_code 19 = .ok (.ireturn, 1) := by decide +kernel
theorem d0_7 : decode prog_47_method_5_code 7 = .ok (.aload_n 0, 1) := by decide +kernel
theorem d0_8 : decode prog_47_method_5_code 8 = .ok (.getstatic 7, 3) := by decide +kernel
theorem d0_11 : decode prog_47_method_5_code 11 = .ok (.if_acmp .ne 7, 3) := by decide +kernel
theorem d0_18 : decode prog_47_method_5_code 18 = .ok (.iconst 0, 1) := by decide +kernel
def Q_rm1 (Z : State) (aS : Addr) (b : Addr) (c1 : Addr) (h0 : Heap) (n0 : Nat) (v : Option Value) (h : Heap) (L : List Loc) : Prop := v = some (.int (plV aS b c1)) ∧ Fr n0 L ∧ h = h0
set_option maxRecDepth 65536 in
set_option maxHeartbeats 40000000 in
theorem rm1 (l : Launch) (Z : State) (a0 : Array Value) (hw : ∀ d ∈ tables_1, d.before a0 Z = true) (ws : List Jvm.Cond) (aS : Addr) (b : Addr) (c1 : Addr) (h0 : Heap) (n0 : Nat) (Z0 : n0 ≤ h0.size) (S0 : Sta Z h0 "com/example/nonet/nonet/logic/Technique" "HIDDEN_SINGLE" "Lcom/example/nonet/nonet/logic/Technique;" (.ref b)) (S1 : Sta Z h0 "com/example/nonet/nonet/logic/Technique" "NAKED_SINGLE" "Lcom/example/nonet/nonet/logic/Technique;" (.ref c1)) :
    MetFree l (⟨"com/example/nonet/nonet/logic/Technique", "places", "()Z"⟩ : MethodName) (head1 (Jvm.Cond.code (⟨"com/example/nonet/nonet/logic/Technique", "places", "()Z"⟩ : MethodName) prog_47_method_5_code 1 (some .boolean) :: ws) ({ frames := 0, cells := 0, slots := 0, locals := 0 } : Room)) (fun a U => a = #[(.ref aS)] ∧ Z.Warmed39 U.vm ∧ U.heap = h0) (fun _ _ _ _ _ => True) (fun _ U o U' => ∃ v L, o = .returned v ∧ Q_rm1 Z aS b c1 h0 n0 v U'.heap L ∧ FrameEnd U o U' L ({ frames := 0, cells := 0, slots := 0, locals := 0 } : Room).cells ({ frames := 0, cells := 0, slots := 0, locals := 0 } : Room).slots) := by
  refine MetFree.of_bodySF (plainFor_of_name pn_com_example_nonet_nonet_logic_Technique) hisR ?_
  intro p e s m args below meth c s₁ Bd hml0 hP hK
  obtain ⟨rfl, hZ, hh⟩ := hP
  have hx := Bd.exec
  have hby := Bd.bytes
  have hml : c.maxLocals = 1 := hml0
  have hown : s.vm.findClass "com/example/nonet/nonet/logic/Technique" = some m.cls := findClass_of_methodNamed Bd.named
  have hnm := (name_of_methodNamed Bd.named Bd.method).1
  have X0 : Stand p l e ({ frames := 0, cells := 0, slots := 0, locals := 0 } : Room) s m #[(.ref aS)] below meth c s₁ [] 0 0 := Stand.of_body Bd
  have e0 : s₁.heap = h0 := by rw [← hh, Bd.state]; rfl
  have N0 := Fr.nil n0
  have ef : entryFrame m #[(.ref aS)] 1 = mkF m 0 #[.val (.ref aS)] [] := by first | (simp [entryFrame, mkF, argsToLocals, Value.category, maxLocals]; done) | rfl
  show Go p e below (FinN s (Q_rm1 Z aS b c1 h0 n0) ({ frames := 0, cells := 0, slots := 0, locals := 0 } : Room).cells ({ frames := 0, cells := 0, slots := 0, locals := 0 } : Room).slots) s₁ (entryFrame m #[(.ref aS)] 1)
  rw [ef]
  refine Go.by (fun _ k => XS.aloadN X0.here hx rfl (hb hby d0_0) rfl rfl k) ?_
  show Go _ _ _ _ s₁ (mkF m 1 #[.val (.ref aS)] [(.ref aS)])
  obtain ⟨T101, X102, e103, st104⟩ := getS X0 hx hZ hown (host := "") (hw _ (List.mem_of_getElem? (i := 38) rfl)) Via.refl e0 S0 (g := (mkF m 1 #[.val (.ref aS)] [(.ref aS)])) rfl (hb hby d0_1)
  refine Go.by st104 ?_
  show Go _ _ _ _ T101 (mkF m 4 #[.val (.ref aS)] [(.ref b), (.ref aS)])
  by_cases c105 : ((.ref aS) : Value) = ((.ref b) : Value)
  · refine Go.by (fun _ k => XT.acmpYes X102.here hx rfl (pc0 := 4) (pc' := 14) rfl (hb hby d0_4) rfl rfl rfl (XT.aa_eq_t c105) (by decide) (by decide) k) ?_
    show Go _ _ _ _ T101 (mkF m 14 #[.val (.ref aS)] [])
    refine Go.by (fun _ k => XT.iconstV X102.here hx rfl (1 : Int32) (hb hby d0_14) (by decide) k) ?_
    show Go _ _ _ _ T101 (mkF m 15 #[.val (.ref aS)] [(.int (1 : Int32))])
    refine Go.by (fun _ k => XS.goto X102.here hx rfl (pc0 := 15) (pc' := 19) rfl (hb hby d0_15) (by decide) (by decide) k) ?_
    show Go _ _ _ _ T101 (mkF m 19 #[.val (.ref aS)] [(.int (1 : Int32))])
    exact Go.retZ X102 hx Bd.notSynchronized (t := .boolean) Bd.returns (by simp) (hb hby d0_19) ⟨by simp_all [plV, nar], N0, e103⟩ (by decide) (by decide)
  · refine Go.by (fun _ k => XT.acmpNo X102.here hx rfl (hb hby d0_4) rfl rfl rfl (XT.aa_eq_f c105) k) ?_
    show Go _ _ _ _ T101 (mkF m 7 #[.val (.ref aS)] [])
    refine Go.by (fun _ k => XS.aloadN X102.here hx rfl (hb hby d0_7) rfl rfl k) ?_
    show Go _ _ _ _ T101 (mkF m 8 #[.val (.ref aS)] [(.ref aS)])
    obtain ⟨T106, X107, e108, st109⟩ := getS X102 hx hZ hown (host := "") (hw _ (List.mem_of_getElem? (i := 39) rfl)) Via.refl e103 S1 (g := (mkF m 8 #[.val (.ref aS)] [(.ref aS)])) rfl (hb hby d0_8)
    refine Go.by st109 ?_
    show Go _ _ _ _ T106 (mkF m 11 #[.val (.ref aS)] [(.ref c1), (.ref aS)])
    by_cases c110 : ((.ref aS) : Value) = ((.ref c1) : Value)
    · refine Go.by (fun _ k => XT.acmpNo X107.here hx rfl (hb hby d0_11) rfl rfl rfl (XT.aa_ne_f c110) k) ?_
      show Go _ _ _ _ T106 (mkF m 14 #[.val (.ref aS)] [])
      refine Go.by (fun _ k => XT.iconstV X107.here hx rfl (1 : Int32) (hb hby d0_14) (by decide) k) ?_
      show Go _ _ _ _ T106 (mkF m 15 #[.val (.ref aS)] [(.int (1 : Int32))])
      refine Go.by (fun _ k => XS.goto X107.here hx rfl (pc0 := 15) (pc' := 19) rfl (hb hby d0_15) (by decide) (by decide) k) ?_
      show Go _ _ _ _ T106 (mkF m 19 #[.val (.ref aS)] [(.int (1 : Int32))])
      exact Go.retZ X107 hx Bd.notSynchronized (t := .boolean) Bd.returns (by simp) (hb hby d0_19) ⟨by simp_all [plV, nar], N0, e108⟩ (by decide) (by decide)
    · refine Go.by (fun _ k => XT.acmpYes X107.here hx rfl (pc0 := 11) (pc' := 18) rfl (hb hby d0_11) rfl rfl rfl (XT.aa_ne_t c110) (by decide) (by decide) k) ?_
      show Go _ _ _ _ T106 (mkF m 18 #[.val (.ref aS)] [])
      refine Go.by (fun _ k => XT.iconstV X107.here hx rfl (0 : Int32) (hb hby d0_18) (by decide) k) ?_
      show Go _ _ _ _ T106 (mkF m 19 #[.val (.ref aS)] [(.int (0 : Int32))])
      exact Go.retZ X107 hx Bd.notSynchronized (t := .boolean) Bd.returns (by simp) (hb hby d0_19) ⟨by simp_all [plV, nar], N0, e108⟩ (by decide) (by decide)
theorem pn_com_example_nonet_nonet_logic_TechniquePlacesPinLaw : plainName "com/example/nonet/nonet/logic/TechniquePlacesPinLaw" = true := by first | (simp [plainName, overriddenIn]; done) | decide +kernel
theorem pd___Z : parseMethodDescriptor "()Z" = some ⟨[], some .boolean⟩ := by decide +kernel
def Q_rm0 (Z : State) (i0 : Int32) (ad0 : Addr) (ad1 : Addr) (ad2 : Addr) (ad3 : Addr) (ad4 : Addr) (ad5 : Addr) (ad6 : Addr) (ad7 : Addr) (ad8 : Addr) (ad9 : Addr) (ad10 : Addr) (ad11 : Addr) (ad12 : Addr) (ad13 : Addr) (h0 : Heap) (n0 : Nat) (v : Option Value) (h : Heap) (L : List Loc) : Prop := v = some (.int 1) ∧ Fr n0 L
set_option maxRecDepth 65536 in
set_option maxHeartbeats 40000000 in
theorem rm0 (l : Launch) (Z : State) (a0 : Array Value) (hw : ∀ d ∈ tables_1, d.before a0 Z = true) (ws : List Jvm.Cond) (i0 : Int32) (ad0 : Addr) (ad1 : Addr) (ad2 : Addr) (ad3 : Addr) (ad4 : Addr) (ad5 : Addr) (ad6 : Addr) (ad7 : Addr) (ad8 : Addr) (ad9 : Addr) (ad10 : Addr) (ad11 : Addr) (ad12 : Addr) (ad13 : Addr) (h0 : Heap) (n0 : Nat) (Z0 : n0 ≤ h0.size) (O0 : Old Z n0 h0) (S0 : Sta Z Z.heap "com/example/nonet/nonet/logic/Technique" "HIDDEN_SINGLE" "Lcom/example/nonet/nonet/logic/Technique;" (.ref ad0)) (S1 : Sta Z Z.heap "com/example/nonet/nonet/logic/Technique" "NAKED_SINGLE" "Lcom/example/nonet/nonet/logic/Technique;" (.ref ad1)) (S2 : Sta Z Z.heap "com/example/nonet/nonet/logic/Technique" "POINTING" "Lcom/example/nonet/nonet/logic/Technique;" (.ref ad2)) (S3 : Sta Z Z.heap "com/example/nonet/nonet/logic/Technique" "CLAIMING" "Lcom/example/nonet/nonet/logic/Technique;" (.ref ad3)) (S4 : Sta Z Z.heap "com/example/nonet/nonet/logic/Technique" "NAKED_PAIR" "Lcom/example/nonet/nonet/logic/Technique;" (.ref ad4)) (S5 : Sta Z Z.heap "com/example/nonet/nonet/logic/Technique" "X_WING" "Lcom/example/nonet/nonet/logic/Technique;" (.ref ad5)) (S6 : Sta Z Z.heap "com/example/nonet/nonet/logic/Technique" "HIDDEN_PAIR" "Lcom/example/nonet/nonet/logic/Technique;" (.ref ad6)) (S7 : Sta Z Z.heap "com/example/nonet/nonet/logic/Technique" "NAKED_TRIPLE" "Lcom/example/nonet/nonet/logic/Technique;" (.ref ad7)) (S8 : Sta Z Z.heap "com/example/nonet/nonet/logic/Technique" "SWORDFISH" "Lcom/example/nonet/nonet/logic/Technique;" (.ref ad8)) (S9 : Sta Z Z.heap "com/example/nonet/nonet/logic/Technique" "HIDDEN_TRIPLE" "Lcom/example/nonet/nonet/logic/Technique;" (.ref ad9)) (S10 : Sta Z Z.heap "com/example/nonet/nonet/logic/Technique" "SKYSCRAPER" "Lcom/example/nonet/nonet/logic/Technique;" (.ref ad10)) (S11 : Sta Z Z.heap "com/example/nonet/nonet/logic/Technique" "NAKED_QUAD" "Lcom/example/nonet/nonet/logic/Technique;" (.ref ad11)) (S12 : Sta Z Z.heap "com/example/nonet/nonet/logic/Technique" "JELLYFISH" "Lcom/example/nonet/nonet/logic/Technique;" (.ref ad12)) (S13 : Sta Z Z.heap "com/example/nonet/nonet/logic/Technique" "HIDDEN_QUAD" "Lcom/example/nonet/nonet/logic/Technique;" (.ref ad13)) (E0 : Exa Z Z.heap ad0 "com/example/nonet/nonet/logic/Technique") (E1 : Exa Z Z.heap ad1 "com/example/nonet/nonet/logic/Technique") (E2 : Exa Z Z.heap ad2 "com/example/nonet/nonet/logic/Technique") (E3 : Exa Z Z.heap ad3 "com/example/nonet/nonet/logic/Technique") (E4 : Exa Z Z.heap ad4 "com/example/nonet/nonet/logic/Technique") (E5 : Exa Z Z.heap ad5 "com/example/nonet/nonet/logic/Technique") (E6 : Exa Z Z.heap ad6 "com/example/nonet/nonet/logic/Technique") (E7 : Exa Z Z.heap ad7 "com/example/nonet/nonet/logic/Technique") (E8 : Exa Z Z.heap ad8 "com/example/nonet/nonet/logic/Technique") (E9 : Exa Z Z.heap ad9 "com/example/nonet/nonet/logic/Technique") (E10 : Exa Z Z.heap ad10 "com/example/nonet/nonet/logic/Technique") (E11 : Exa Z Z.heap ad11 "com/example/nonet/nonet/logic/Technique") (E12 : Exa Z Z.heap ad12 "com/example/nonet/nonet/logic/Technique") (E13 : Exa Z Z.heap ad13 "com/example/nonet/nonet/logic/Technique") (F0 : Fld Z Z.heap ad0 "java/lang/Enum" "ordinal" "I" (.int 0)) (F1 : Fld Z Z.heap ad1 "java/lang/Enum" "ordinal" "I" (.int 1)) (F2 : Fld Z Z.heap ad2 "java/lang/Enum" "ordinal" "I" (.int 2)) (F3 : Fld Z Z.heap ad3 "java/lang/Enum" "ordinal" "I" (.int 3)) (F4 : Fld Z Z.heap ad4 "java/lang/Enum" "ordinal" "I" (.int 4)) (F5 : Fld Z Z.heap ad5 "java/lang/Enum" "ordinal" "I" (.int 5)) (F6 : Fld Z Z.heap ad6 "java/lang/Enum" "ordinal" "I" (.int 6)) (F7 : Fld Z Z.heap ad7 "java/lang/Enum" "ordinal" "I" (.int 7)) (F8 : Fld Z Z.heap ad8 "java/lang/Enum" "ordinal" "I" (.int 8)) (F9 : Fld Z Z.heap ad9 "java/lang/Enum" "ordinal" "I" (.int 9)) (F10 : Fld Z Z.heap ad10 "java/lang/Enum" "ordinal" "I" (.int 10)) (F11 : Fld Z Z.heap ad11 "java/lang/Enum" "ordinal" "I" (.int 11)) (F12 : Fld Z Z.heap ad12 "java/lang/Enum" "ordinal" "I" (.int 12)) (F13 : Fld Z Z.heap ad13 "java/lang/Enum" "ordinal" "I" (.int 13)) :
    MetFree l x (head1 (Jvm.Cond.code x code maxLocals ret :: ws) room_1) (fun a U => a = #[(.int i0)] ∧ Z.Warmed39 U.vm ∧ U.heap = h0) (fun _ _ _ _ _ => True) (fun _ U o U' => ∃ v L, o = .returned v ∧ Q_rm0 Z i0 ad0 ad1 ad2 ad3 ad4 ad5 ad6 ad7 ad8 ad9 ad10 ad11 ad12 ad13 h0 n0 v U'.heap L ∧ FrameEnd U o U' L 1 14) := by
  refine MetFree.of_bodySF (plainFor_of_name pn_com_example_nonet_nonet_logic_TechniquePlacesPinLaw) hisR ?_
  intro p e s m args below meth c s₁ Bd hml0 hP hK
  obtain ⟨rfl, hZ, hh⟩ := hP
  have hx := Bd.exec
  have hby := Bd.bytes
  have hml : c.maxLocals = 4 := hml0
  have hown : s.vm.findClass "com/example/nonet/nonet/logic/TechniquePlacesPinLaw" = some m.cls := findClass_of_methodNamed Bd.named
  have hnm := (name_of_methodNamed Bd.named Bd.method).1
  have X0 : Stand p l e room_1 s m #[(.int i0)] below meth c s₁ [] 0 0 := Stand.of_body Bd
  have e0 : s₁.heap = h0 := by rw [← hh, Bd.state]; rfl
  have N0 := Fr.nil n0
  have ef : entryFrame m #[(.int i0)] maxLocals = mkF m 0 #[.val (.int i0), .unset, .unset, .unset] [] := by first | (simp [entryFrame, mkF, argsToLocals, Value.category, maxLocals]; done) | rfl
  show Go p e below (FinN s (Q_rm0 Z i0 ad0 ad1 ad2 ad3 ad4 ad5 ad6 ad7 ad8 ad9 ad10 ad11 ad12 ad13 h0 n0) 1 14) s₁ (entryFrame m #[(.int i0)] maxLocals)
  rw [ef]
  show Go _ _ _ _ s₁ (mkF m 0 #[.val (.int i0), .unset, .unset, .unset] [])
  refine Go.by (fun _ k => XT.bipushV X0.here hx rfl (14 : Int32) (hb hby at_0) (by decide) k) ?_
  show Go _ _ _ _ s₁ (mkF m 2 #[.val (.int i0), .unset, .unset, .unset] [(.int (14 : Int32))])
  obtain ⟨T1, h1, kA, X1, e1, Ex1, Ar1, Ov1, st1⟩ := newR X0 hx hZ hown (hw _ (List.mem_of_getElem? (i := 0) rfl)) (hw _ (List.mem_of_getElem? (i := 1) rfl)) e0 (g := (mkF m 2 #[.val (.int i0), .unset, .unset, .unset] [(.int (14 : Int32))])) rfl (hb hby at_2) (n := (14 : Int32)) (rest := []) rfl (by decide) (cap := 14) (by decide) (by decide) (by decide) (by decide)
  obtain ⟨ar, gar⟩ : ∃ q, q = h0.size := ⟨_, rfl⟩
  rw [← gar] at Ar1 st1
  have O1 := O0.ext Ex1
  have nar0 : n0 ≤ ar := gar ▸ Z0
  have V1 := (Arv.new Ar1 (by decide)).pad (vs' := List.replicate 14 .null) (pad_rep [] _ 14)
  refine Go.by st1 ?_
  show Go _ _ _ _ T1 (mkF m 5 #[.val (.int i0), .unset, .unset, .unset] [(.ref ar)])
  refine Go.by (fun _ k => XS.dup X1.here hx rfl (hb hby at_5) rfl rfl k) ?_
  show Go _ _ _ _ T1 (mkF m 6 #[.val (.int i0), .unset, .unset, .unset] [(.ref ar), (.ref ar)])
  refine Go.by (fun _ k => XT.iconstV X1.here hx rfl (0 : Int32) (hb hby at_6) (by decide) k) ?_
  show Go _ _ _ _ T1 (mkF m 7 #[.val (.int i0), .unset, .unset, .unset] [(.int (0 : Int32)), (.ref ar), (.ref ar)])
  obtain ⟨T111, X112, e113, st114⟩ := getS X1 hx hZ hown (host := "") (hw _ (List.mem_of_getElem? (i := 2) rfl)) Via.refl e1 (S0.ext O1.2) (g := (mkF m 7 #[.val (.int i0), .unset, .unset, .unset] [(.int (0 : Int32)), (.ref ar), (.ref ar)])) rfl (hb hby at_7)
  refine Go.by st114 ?_
  show Go _ _ _ _ T111 (mkF m 10 #[.val (.int i0), .unset, .unset, .unset] [(.ref ad0), (.int (0 : Int32)), (.ref ar), (.ref ar)])
  obtain ⟨T115, h115, X115, e115, W115, V115, st115⟩ := own_stR X112 hx hZ e113 V1 rfl Ov1 (Ins.of_exa (E0.ext O1.2) (hw _ (List.mem_of_getElem? (i := 5) rfl))) (j := (0 : Int32)) (by decide) 0 (by decide) (by show 0 < 14; decide) (g := (mkF m 10 #[.val (.int i0), .unset, .unset, .unset] [(.ref ad0), (.int (0 : Int32)), (.ref ar), (.ref ar)])) rfl rfl (hb hby at_10)
  replace V115 : Arv Z h115 ar kA _ _ [.ref ad0, .null, .null, .null, .null, .null, .null, .null, .null, .null, .null, .null, .null, .null] _ := V115
  have O115 := O1.wr W115 nar0
  have N115 := Fr.snoc X115 N0 nar0
  refine Go.by st115 ?_
  show Go _ _ _ _ T115 (mkF m 11 #[.val (.int i0), .unset, .unset, .unset] [(.ref ar)])
  refine Go.by (fun _ k => XS.dup X115.here hx rfl (hb hby at_11) rfl rfl k) ?_
  show Go _ _ _ _ T115 (mkF m 12 #[.val (.int i0), .unset, .unset, .unset] [(.ref ar), (.ref ar)])
  refine Go.by (fun _ k => XT.iconstV X115.here hx rfl (1 : Int32) (hb hby at_12) (by decide) k) ?_
  show Go _ _ _ _ T115 (mkF m 13 #[.val (.int i0), .unset, .unset, .unset] [(.int (1 : Int32)), (.ref ar), (.ref ar)])
  obtain ⟨T116, X117, e118, st119⟩ := getS X115 hx hZ hown (host := "") (hw _ (List.mem_of_getElem? (i := 6) rfl)) Via.refl e115 (S1.ext O115.2) (g := (mkF m 13 #[.val (.int i0), .unset, .unset, .unset] [(.int (1 : Int32)), (.ref ar), (.ref ar)])) rfl (hb hby at_13)
  refine Go.by st119 ?_
  show Go _ _ _ _ T116 (mkF m 16 #[.val (.int i0), .unset, .unset, .unset] [(.ref ad1), (.int (1 : Int32)), (.ref ar), (.ref ar)])
  obtain ⟨T120, h120, X120, e120, W120, V120, st120⟩ := own_stR X117 hx hZ e118 V115 rfl Ov1 (Ins.of_exa (E1.ext O115.2) (hw _ (List.mem_of_getElem? (i := 5) rfl))) (j := (1 : Int32)) (by decide) 1 (by decide) (by show 1 < 14; decide) (g := (mkF m 16 #[.val (.int i0), .unset, .unset, .unset] [(.ref ad1), (.int (1 : Int32)), (.ref ar), (.ref ar)])) rfl rfl (hb hby at_16)
  replace V120 : Arv Z h120 ar kA _ _ [.ref ad0, .ref ad1, .null, .null, .null, .null, .null, .null, .null, .null, .null, .null, .null, .null] _ := V120
  have O120 := O115.wr W120 nar0
  have N120 := Fr.snoc X120 N115 nar0
  refine Go.by st120 ?_
  show Go _ _ _ _ T120 (mkF m 17 #[.val (.int i0), .unset, .unset, .unset] [(.ref ar)])
  refine Go.by (fun _ k => XS.dup X120.here hx rfl (hb hby at_17) rfl rfl k) ?_
  show Go _ _ _ _ T120 (mkF m 18 #[.val (.int i0), .unset, .unset, .unset] [(.ref ar), (.ref ar)])
  refine Go.by (fun _ k => XT.iconstV X120.here hx rfl (2 : Int32) (hb hby at_18) (by decide) k) ?_
  show Go _ _ _ _ T120 (mkF m 19 #[.val (.int i0), .unset, .unset, .unset] [(.int (2 : Int32)), (.ref ar), (.ref ar)])
  obtain ⟨T121, X122, e123, st124⟩ := getS X120 hx hZ hown (host := "") (hw _ (List.mem_of_getElem? (i := 8) rfl)) Via.refl e120 (S2.ext O120.2) (g := (mkF m 19 #[.val (.int i0), .unset, .unset, .unset] [(.int (2 : Int32)), (.ref ar), (.ref ar)])) rfl (hb hby at_19)
  refine Go.by st124 ?_
  show Go _ _ _ _ T121 (mkF m 22 #[.val (.int i0), .unset, .unset, .unset] [(.ref ad2), (.int (2 : Int32)), (.ref ar), (.ref ar)])
  obtain ⟨T125, h125, X125, e125, W125, V125, st125⟩ := own_stR X122 hx hZ e123 V120 rfl Ov1 (Ins.of_exa (E2.ext O120.2) (hw _ (List.mem_of_getElem? (i := 5) rfl))) (j := (2 : Int32)) (by decide) 2 (by decide) (by show 2 < 14; decide) (g := (mkF m 22 #[.val (.int i0), .unset, .unset, .unset] [(.ref ad2), (.int (2 : Int32)), (.ref ar), (.ref ar)])) rfl rfl (hb hby at_22)
  replace V125 : Arv Z h125 ar kA _ _ [.ref ad0, .ref ad1, .ref ad2, .null, .null, .null, .null, .null, .null, .null, .null, .null, .null, .null] _ := V125
  have O125 := O120.wr W125 nar0
  have N125 := Fr.snoc X125 N120 nar0
  refine Go.by st125 ?_
  show Go _ _ _ _ T125 (mkF m 23 #[.val (.int i0), .unset, .unset, .unset] [(.ref ar)])
  refine Go.by (fun _ k => XS.dup X125.here hx rfl (hb hby at_23) rfl rfl k) ?_
  show Go _ _ _ _ T125 (mkF m 24 #[.val (.int i0), .unset, .unset, .unset] [(.ref ar), (.ref ar)])
  refine Go.by (fun _ k => XT.iconstV X125.here hx rfl (3 : Int32) (hb hby at_24) (by decide) k) ?_
  show Go _ _ _ _ T125 (mkF m 25 #[.val (.int i0), .unset, .unset, .unset] [(.int (3 : Int32)), (.ref ar), (.ref ar)])
  obtain ⟨T126, X127, e128, st129⟩ := getS X125 hx hZ hown (host := "") (hw _ (List.mem_of_getElem? (i := 10) rfl)) Via.refl e125 (S3.ext O125.2) (g := (mkF m 25 #[.val (.int i0), .unset, .unset, .unset] [(.int (3 : Int32)), (.ref ar), (.ref ar)])) rfl (hb hby at_25)
  refine Go.by st129 ?_
  show Go _ _ _ _ T126 (mkF m 28 #[.val (.int i0), .unset, .unset, .unset] [(.ref ad3), (.int (3 : Int32)), (.ref ar), (.ref ar)])
  obtain ⟨T130, h130, X130, e130, W130, V130, st130⟩ := own_stR X127 hx hZ e128 V125 rfl Ov1 (Ins.of_exa (E3.ext O125.2) (hw _ (List.mem_of_getElem? (i := 5) rfl))) (j := (3 : Int32)) (by decide) 3 (by decide) (by show 3 < 14; decide) (g := (mkF m 28 #[.val (.int i0), .unset, .unset, .unset] [(.ref ad3), (.int (3 : Int32)), (.ref ar), (.ref ar)])) rfl rfl (hb hby at_28)
  replace V130 : Arv Z h130 ar kA _ _ [.ref ad0, .ref ad1, .ref ad2, .ref ad3, .null, .null, .null, .null, .null, .null, .null, .null, .null, .null] _ := V130
  have O130 := O125.wr W130 nar0
  have N130 := Fr.snoc X130 N125 nar0
  refine Go.by st130 ?_
  show Go _ _ _ _ T130 (mkF m 29 #[.val (.int i0), .unset, .unset, .unset] [(.ref ar)])
  refine Go.by (fun _ k => XS.dup X130.here hx rfl (hb hby at_29) rfl rfl k) ?_
  show Go _ _ _ _ T130 (mkF m 30 #[.val (.int i0), .unset, .unset, .unset] [(.ref ar), (.ref ar)])
  refine Go.by (fun _ k => XT.iconstV X130.here hx rfl (4 : Int32) (hb hby at_30) (by decide) k) ?_
  show Go _ _ _ _ T130 (mkF m 31 #[.val (.int i0), .unset, .unset, .unset] [(.int (4 : Int32)), (.ref ar), (.ref ar)])
  obtain ⟨T131, X132, e133, st134⟩ := getS X130 hx hZ hown (host := "") (hw _ (List.mem_of_getElem? (i := 12) rfl)) Via.refl e130 (S4.ext O130.2) (g := (mkF m 31 #[.val (.int i0), .unset, .unset, .unset] [(.int (4 : Int32)), (.ref ar), (.ref ar)])) rfl (hb hby at_31)
  refine Go.by st134 ?_
  show Go _ _ _ _ T131 (mkF m 34 #[.val (.int i0), .unset, .unset, .unset] [(.ref ad4), (.int (4 : Int32)), (.ref ar), (.ref ar)])
  obtain ⟨T135, h135, X135, e135, W135, V135, st135⟩ := own_stR X132 hx hZ e133 V130 rfl Ov1 (Ins.of_exa (E4.ext O130.2) (hw _ (List.mem_of_getElem? (i := 5) rfl))) (j := (4 : Int32)) (by decide) 4 (by decide) (by show 4 < 14; decide) (g := (mkF m 34 #[.val (.int i0), .unset, .unset, .unset] [(.ref ad4), (.int (4 : Int32)), (.ref ar), (.ref ar)])) rfl rfl (hb hby at_34)
  replace V135 : Arv Z h135 ar kA _ _ [.ref ad0, .ref ad1, .ref ad2, .ref ad3, .ref ad4, .null, .null, .null, .null, .null, .null, .null, .null, .null] _ := V135
  have O135 := O130.wr W135 nar0
  have N135 := Fr.snoc X135 N130 nar0
  refine Go.by st135 ?_
  show Go _ _ _ _ T135 (mkF m 35 #[.val (.int i0), .unset, .unset, .unset] [(.ref ar)])
  refine Go.by (fun _ k => XS.dup X135.here hx rfl (hb hby at_35) rfl rfl k) ?_
  show Go _ _ _ _ T135 (mkF m 36 #[.val (.int i0), .unset, .unset, .unset] [(.ref ar), (.ref ar)])
  refine Go.by (fun _ k => XT.iconstV X135.here hx rfl (5 : Int32) (hb hby at_36) (by decide) k) ?_
  show Go _ _ _ _ T135 (mkF m 37 #[.val (.int i0), .unset, .unset, .unset] [(.int (5 : Int32)), (.ref ar), (.ref ar)])
  obtain ⟨T136, X137, e138, st139⟩ := getS X135 hx hZ hown (host := "") (hw _ (List.mem_of_getElem? (i := 14) rfl)) Via.refl e135 (S5.ext O135.2) (g := (mkF m 37 #[.val (.int i0), .unset, .unset, .unset] [(.int (5 : Int32)), (.ref ar), (.ref ar)])) rfl (hb hby at_37)
  refine Go.by st139 ?_
  show Go _ _ _ _ T136 (mkF m 40 #[.val (.int i0), .unset, .unset, .unset] [(.ref ad5), (.int (5 : Int32)), (.ref ar), (.ref ar)])
  obtain ⟨T140, h140, X140, e140, W140, V140, st140⟩ := own_stR X137 hx hZ e138 V135 rfl Ov1 (Ins.of_exa (E5.ext O135.2) (hw _ (List.mem_of_getElem? (i := 5) rfl))) (j := (5 : Int32)) (by decide) 5 (by decide) (by show 5 < 14; decide) (g := (mkF m 40 #[.val (.int i0), .unset, .unset, .unset] [(.ref ad5), (.int (5 : Int32)), (.ref ar), (.ref ar)])) rfl rfl (hb hby at_40)
  replace V140 : Arv Z h140 ar kA _ _ [.ref ad0, .ref ad1, .ref ad2, .ref ad3, .ref ad4, .ref ad5, .null, .null, .null, .null, .null, .null, .null, .null] _ := V140
  have O140 := O135.wr W140 nar0
  have N140 := Fr.snoc X140 N135 nar0
  refine Go.by st140 ?_
  show Go _ _ _ _ T140 (mkF m 41 #[.val (.int i0), .unset, .unset, .unset] [(.ref ar)])
  refine Go.by (fun _ k => XS.dup X140.here hx rfl (hb hby at_41) rfl rfl k) ?_
  show Go _ _ _ _ T140 (mkF m 42 #[.val (.int i0), .unset, .unset, .unset] [(.ref ar), (.ref ar)])
  refine Go.by (fun _ k => XT.bipushV X140.here hx rfl (6 : Int32) (hb hby at_42) (by decide) k) ?_
  show Go _ _ _ _ T140 (mkF m 44 #[.val (.int i0), .unset, .unset, .unset] [(.int (6 : Int32)), (.ref ar), (.ref ar)])
  obtain ⟨T141, X142, e143, st144⟩ := getS X140 hx hZ hown (host := "") (hw _ (List.mem_of_getElem? (i := 16) rfl)) Via.refl e140 (S6.ext O140.2) (g := (mkF m 44 #[.val (.int i0), .unset, .unset, .unset] [(.int (6 : Int32)), (.ref ar), (.ref ar)])) rfl (hb hby at_44)
  refine Go.by st144 ?_
  show Go _ _ _ _ T141 (mkF m 47 #[.val (.int i0), .unset, .unset, .unset] [(.ref ad6), (.int (6 : Int32)), (.ref ar), (.ref ar)])
  obtain ⟨T145, h145, X145, e145, W145, V145, st145⟩ := own_stR X142 hx hZ e143 V140 rfl Ov1 (Ins.of_exa (E6.ext O140.2) (hw _ (List.mem_of_getElem? (i := 5) rfl))) (j := (6 : Int32)) (by decide) 6 (by decide) (by show 6 < 14; decide) (g := (mkF m 47 #[.val (.int i0), .unset, .unset, .unset] [(.ref ad6), (.int (6 : Int32)), (.ref ar), (.ref ar)])) rfl rfl (hb hby at_47)
  replace V145 : Arv Z h145 ar kA _ _ [.ref ad0, .ref ad1, .ref ad2, .ref ad3, .ref ad4, .ref ad5, .ref ad6, .null, .null, .null, .null, .null, .null, .null] _ := V145
  have O145 := O140.wr W145 nar0
  have N145 := Fr.snoc X145 N140 nar0
  refine Go.by st145 ?_
  show Go _ _ _ _ T145 (mkF m 48 #[.val (.int i0), .unset, .unset, .unset] [(.ref ar)])
  refine Go.by (fun _ k => XS.dup X145.here hx rfl (hb hby at_48) rfl rfl k) ?_
  show Go _ _ _ _ T145 (mkF m 49 #[.val (.int i0), .unset, .unset, .unset] [(.ref ar), (.ref ar)])
  refine Go.by (fun _ k => XT.bipushV X145.here hx rfl (7 : Int32) (hb hby at_49) (by decide) k) ?_
  show Go _ _ _ _ T145 (mkF m 51 #[.val (.int i0), .unset, .unset, .unset] [(.int (7 : Int32)), (.ref ar), (.ref ar)])
  obtain ⟨T146, X147, e148, st149⟩ := getS X145 hx hZ hown (host := "") (hw _ (List.mem_of_getElem? (i := 18) rfl)) Via.refl e145 (S7.ext O145.2) (g := (mkF m 51 #[.val (.int i0), .unset, .unset, .unset] [(.int (7 : Int32)), (.ref ar), (.ref ar)])) rfl (hb hby at_51)
  refine Go.by st149 ?_
  show Go _ _ _ _ T146 (mkF m 54 #[.val (.int i0), .unset, .unset, .unset] [(.ref ad7), (.int (7 : Int32)), (.ref ar), (.ref ar)])
  obtain ⟨T150, h150, X150, e150, W150, V150, st150⟩ := own_stR X147 hx hZ e148 V145 rfl Ov1 (Ins.of_exa (E7.ext O145.2) (hw _ (List.mem_of_getElem? (i := 5) rfl))) (j := (7 : Int32)) (by decide) 7 (by decide) (by show 7 < 14; decide) (g := (mkF m 54 #[.val (.int i0), .unset, .unset, .unset] [(.ref ad7), (.int (7 : Int32)), (.ref ar), (.ref ar)])) rfl rfl (hb hby at_54)
  replace V150 : Arv Z h150 ar kA _ _ [.ref ad0, .ref ad1, .ref ad2, .ref ad3, .ref ad4, .ref ad5, .ref ad6, .ref ad7, .null, .null, .null, .null, .null, .null] _ := V150
  have O150 := O145.wr W150 nar0
  have N150 := Fr.snoc X150 N145 nar0
  refine Go.by st150 ?_
  show Go _ _ _ _ T150 (mkF m 55 #[.val (.int i0), .unset, .unset, .unset] [(.ref ar)])
  refine Go.by (fun _ k => XS.dup X150.here hx rfl (hb hby at_55) rfl rfl k) ?_
  show Go _ _ _ _ T150 (mkF m 56 #[.val (.int i0), .unset, .unset, .unset] [(.ref ar), (.ref ar)])
  refine Go.by (fun _ k => XT.bipushV X150.here hx rfl (8 : Int32) (hb hby at_56) (by decide) k) ?_
  show Go _ _ _ _ T150 (mkF m 58 #[.val (.int i0), .unset, .unset, .unset] [(.int (8 : Int32)), (.ref ar), (.ref ar)])
  obtain ⟨T151, X152, e153, st154⟩ := getS X150 hx hZ hown (host := "") (hw _ (List.mem_of_getElem? (i := 20) rfl)) Via.refl e150 (S8.ext O150.2) (g := (mkF m 58 #[.val (.int i0), .unset, .unset, .unset] [(.int (8 : Int32)), (.ref ar), (.ref ar)])) rfl (hb hby at_58)
  refine Go.by st154 ?_
  show Go _ _ _ _ T151 (mkF m 61 #[.val (.int i0), .unset, .unset, .unset] [(.ref ad8), (.int (8 : Int32)), (.ref ar), (.ref ar)])
  obtain ⟨T155, h155, X155, e155, W155, V155, st155⟩ := own_stR X152 hx hZ e153 V150 rfl Ov1 (Ins.of_exa (E8.ext O150.2) (hw _ (List.mem_of_getElem? (i := 5) rfl))) (j := (8 : Int32)) (by decide) 8 (by decide) (by show 8 < 14; decide) (g := (mkF m 61 #[.val (.int i0), .unset, .unset, .unset] [(.ref ad8), (.int (8 : Int32)), (.ref ar), (.ref ar)])) rfl rfl (hb hby at_61)
  replace V155 : Arv Z h155 ar kA _ _ [.ref ad0, .ref ad1, .ref ad2, .ref ad3, .ref ad4, .ref ad5, .ref ad6, .ref ad7, .ref ad8, .null, .null, .null, .null, .null] _ := V155
  have O155 := O150.wr W155 nar0
  have N155 := Fr.snoc X155 N150 nar0
  refine Go.by st155 ?_
  show Go _ _ _ _ T155 (mkF m 62 #[.val (.int i0), .unset, .unset, .unset] [(.ref ar)])
  refine Go.by (fun _ k => XS.dup X155.here hx rfl (hb hby at_62) rfl rfl k) ?_
  show Go _ _ _ _ T155 (mkF m 63 #[.val (.int i0), .unset, .unset, .unset] [(.ref ar), (.ref ar)])
  refine Go.by (fun _ k => XT.bipushV X155.here hx rfl (9 : Int32) (hb hby at_63) (by decide) k) ?_
  show Go _ _ _ _ T155 (mkF m 65 #[.val (.int i0), .unset, .unset, .unset] [(.int (9 : Int32)), (.ref ar), (.ref ar)])
  obtain ⟨T156, X157, e158, st159⟩ := getS X155 hx hZ hown (host := "") (hw _ (List.mem_of_getElem? (i := 22) rfl)) Via.refl e155 (S9.ext O155.2) (g := (mkF m 65 #[.val (.int i0), .unset, .unset, .unset] [(.int (9 : Int32)), (.ref ar), (.ref ar)])) rfl (hb hby at_65)
  refine Go.by st159 ?_
  show Go _ _ _ _ T156 (mkF m 68 #[.val (.int i0), .unset, .unset, .unset] [(.ref ad9), (.int (9 : Int32)), (.ref ar), (.ref ar)])
  obtain ⟨T160, h160, X160, e160, W160, V160, st160⟩ := own_stR X157 hx hZ e158 V155 rfl Ov1 (Ins.of_exa (E9.ext O155.2) (hw _ (List.mem_of_getElem? (i := 5) rfl))) (j := (9 : Int32)) (by decide) 9 (by decide) (by show 9 < 14; decide) (g := (mkF m 68 #[.val (.int i0), .unset, .unset, .unset] [(.ref ad9), (.int (9 : Int32)), (.ref ar), (.ref ar)])) rfl rfl (hb hby at_68)
  replace V160 : Arv Z h160 ar kA _ _ [.ref ad0, .ref ad1, .ref ad2, .ref ad3, .ref ad4, .ref ad5, .ref ad6, .ref ad7, .ref ad8, .ref ad9, .null, .null, .null, .null] _ := V160
  have O160 := O155.wr W160 nar0
  have N160 := Fr.snoc X160 N155 nar0
  refine Go.by st160 ?_
  show Go _ _ _ _ T160 (mkF m 69 #[.val (.int i0), .unset, .unset, .unset] [(.ref ar)])
  refine Go.by (fun _ k => XS.dup X160.here hx rfl (hb hby at_69) rfl rfl k) ?_
  show Go _ _ _ _ T160 (mkF m 70 #[.val (.int i0), .unset, .unset, .unset] [(.ref ar), (.ref ar)])
  refine Go.by (fun _ k => XT.bipushV X160.here hx rfl (10 : Int32) (hb hby at_70) (by decide) k) ?_
  show Go _ _ _ _ T160 (mkF m 72 #[.val (.int i0), .unset, .unset, .unset] [(.int (10 : Int32)), (.ref ar), (.ref ar)])
  obtain ⟨T161, X162, e163, st164⟩ := getS X160 hx hZ hown (host := "") (hw _ (List.mem_of_getElem? (i := 24) rfl)) Via.refl e160 (S10.ext O160.2) (g := (mkF m 72 #[.val (.int i0), .unset, .unset, .unset] [(.int (10 : Int32)), (.ref ar), (.ref ar)])) rfl (hb hby at_72)
  refine Go.by st164 ?_
  show Go _ _ _ _ T161 (mkF m 75 #[.val (.int i0), .unset, .unset, .unset] [(.ref ad10), (.int (10 : Int32)), (.ref ar), (.ref ar)])
  obtain ⟨T165, h165, X165, e165, W165, V165, st165⟩ := own_stR X162 hx hZ e163 V160 rfl Ov1 (Ins.of_exa (E10.ext O160.2) (hw _ (List.mem_of_getElem? (i := 5) rfl))) (j := (10 : Int32)) (by decide) 10 (by decide) (by show 10 < 14; decide) (g := (mkF m 75 #[.val (.int i0), .unset, .unset, .unset] [(.ref ad10), (.int (10 : Int32)), (.ref ar), (.ref ar)])) rfl rfl (hb hby at_75)
  replace V165 : Arv Z h165 ar kA _ _ [.ref ad0, .ref ad1, .ref ad2, .ref ad3, .ref ad4, .ref ad5, .ref ad6, .ref ad7, .ref ad8, .ref ad9, .ref ad10, .null, .null, .null] _ := V165
  have O165 := O160.wr W165 nar0
  have N165 := Fr.snoc X165 N160 nar0
  refine Go.by st165 ?_
  show Go _ _ _ _ T165 (mkF m 76 #[.val (.int i0), .unset, .unset, .unset] [(.ref ar)])
  refine Go.by (fun _ k => XS.dup X165.here hx rfl (hb hby at_76) rfl rfl k) ?_
  show Go _ _ _ _ T165 (mkF m 77 #[.val (.int i0), .unset, .unset, .unset] [(.ref ar), (.ref ar)])
  refine Go.by (fun _ k => XT.bipushV X165.here hx rfl (11 : Int32) (hb hby at_77) (by decide) k) ?_
  show Go _ _ _ _ T165 (mkF m 79 #[.val (.int i0), .unset, .unset, .unset] [(.int (11 : Int32)), (.ref ar), (.ref ar)])
  obtain ⟨T166, X167, e168, st169⟩ := getS X165 hx hZ hown (host := "") (hw _ (List.mem_of_getElem? (i := 26) rfl)) Via.refl e165 (S11.ext O165.2) (g := (mkF m 79 #[.val (.int i0), .unset, .unset, .unset] [(.int (11 : Int32)), (.ref ar), (.ref ar)])) rfl (hb hby at_79)
  refine Go.by st169 ?_
  show Go _ _ _ _ T166 (mkF m 82 #[.val (.int i0), .unset, .unset, .unset] [(.ref ad11), (.int (11 : Int32)), (.ref ar), (.ref ar)])
  obtain ⟨T170, h170, X170, e170, W170, V170, st170⟩ := own_stR X167 hx hZ e168 V165 rfl Ov1 (Ins.of_exa (E11.ext O165.2) (hw _ (List.mem_of_getElem? (i := 5) rfl))) (j := (11 : Int32)) (by decide) 11 (by decide) (by show 11 < 14; decide) (g := (mkF m 82 #[.val (.int i0), .unset, .unset, .unset] [(.ref ad11), (.int (11 : Int32)), (.ref ar), (.ref ar)])) rfl rfl (hb hby at_82)
  replace V170 : Arv Z h170 ar kA _ _ [.ref ad0, .ref ad1, .ref ad2, .ref ad3, .ref ad4, .ref ad5, .ref ad6, .ref ad7, .ref ad8, .ref ad9, .ref ad10, .ref ad11, .null, .null] _ := V170
  have O170 := O165.wr W170 nar0
  have N170 := Fr.snoc X170 N165 nar0
  refine Go.by st170 ?_
  show Go _ _ _ _ T170 (mkF m 83 #[.val (.int i0), .unset, .unset, .unset] [(.ref ar)])
  refine Go.by (fun _ k => XS.dup X170.here hx rfl (hb hby at_83) rfl rfl k) ?_
  show Go _ _ _ _ T170 (mkF m 84 #[.val (.int i0), .unset, .unset, .unset] [(.ref ar), (.ref ar)])
  refine Go.by (fun _ k => XT.bipushV X170.here hx rfl (12 : Int32) (hb hby at_84) (by decide) k) ?_
  show Go _ _ _ _ T170 (mkF m 86 #[.val (.int i0), .unset, .unset, .unset] [(.int (12 : Int32)), (.ref ar), (.ref ar)])
  obtain ⟨T171, X172, e173, st174⟩ := getS X170 hx hZ hown (host := "") (hw _ (List.mem_of_getElem? (i := 28) rfl)) Via.refl e170 (S12.ext O170.2) (g := (mkF m 86 #[.val (.int i0), .unset, .unset, .unset] [(.int (12 : Int32)), (.ref ar), (.ref ar)])) rfl (hb hby at_86)
  refine Go.by st174 ?_
  show Go _ _ _ _ T171 (mkF m 89 #[.val (.int i0), .unset, .unset, .unset] [(.ref ad12), (.int (12 : Int32)), (.ref ar), (.ref ar)])
  obtain ⟨T175, h175, X175, e175, W175, V175, st175⟩ := own_stR X172 hx hZ e173 V170 rfl Ov1 (Ins.of_exa (E12.ext O170.2) (hw _ (List.mem_of_getElem? (i := 5) rfl))) (j := (12 : Int32)) (by decide) 12 (by decide) (by show 12 < 14; decide) (g := (mkF m 89 #[.val (.int i0), .unset, .unset, .unset] [(.ref ad12), (.int (12 : Int32)), (.ref ar), (.ref ar)])) rfl rfl (hb hby at_89)
  replace V175 : Arv Z h175 ar kA _ _ [.ref ad0, .ref ad1, .ref ad2, .ref ad3, .ref ad4, .ref ad5, .ref ad6, .ref ad7, .ref ad8, .ref ad9, .ref ad10, .ref ad11, .ref ad12, .null] _ := V175
  have O175 := O170.wr W175 nar0
  have N175 := Fr.snoc X175 N170 nar0
  refine Go.by st175 ?_
  show Go _ _ _ _ T175 (mkF m 90 #[.val (.int i0), .unset, .unset, .unset] [(.ref ar)])
  refine Go.by (fun _ k => XS.dup X175.here hx rfl (hb hby at_90) rfl rfl k) ?_
  show Go _ _ _ _ T175 (mkF m 91 #[.val (.int i0), .unset, .unset, .unset] [(.ref ar), (.ref ar)])
  refine Go.by (fun _ k => XT.bipushV X175.here hx rfl (13 : Int32) (hb hby at_91) (by decide) k) ?_
  show Go _ _ _ _ T175 (mkF m 93 #[.val (.int i0), .unset, .unset, .unset] [(.int (13 : Int32)), (.ref ar), (.ref ar)])
  obtain ⟨T176, X177, e178, st179⟩ := getS X175 hx hZ hown (host := "") (hw _ (List.mem_of_getElem? (i := 30) rfl)) Via.refl e175 (S13.ext O175.2) (g := (mkF m 93 #[.val (.int i0), .unset, .unset, .unset] [(.int (13 : Int32)), (.ref ar), (.ref ar)])) rfl (hb hby at_93)
  refine Go.by st179 ?_
  show Go _ _ _ _ T176 (mkF m 96 #[.val (.int i0), .unset, .unset, .unset] [(.ref ad13), (.int (13 : Int32)), (.ref ar), (.ref ar)])
  obtain ⟨T180, h180, X180, e180, W180, V180, st180⟩ := own_stR X177 hx hZ e178 V175 rfl Ov1 (Ins.of_exa (E13.ext O175.2) (hw _ (List.mem_of_getElem? (i := 5) rfl))) (j := (13 : Int32)) (by decide) 13 (by decide) (by show 13 < 14; decide) (g := (mkF m 96 #[.val (.int i0), .unset, .unset, .unset] [(.ref ad13), (.int (13 : Int32)), (.ref ar), (.ref ar)])) rfl rfl (hb hby at_96)
  replace V180 : Arv Z h180 ar kA _ _ [.ref ad0, .ref ad1, .ref ad2, .ref ad3, .ref ad4, .ref ad5, .ref ad6, .ref ad7, .ref ad8, .ref ad9, .ref ad10, .ref ad11, .ref ad12, .ref ad13] _ := V180
  have O180 := O175.wr W180 nar0
  have N180 := Fr.snoc X180 N175 nar0
  refine Go.by st180 ?_
  show Go _ _ _ _ T180 (mkF m 97 #[.val (.int i0), .unset, .unset, .unset] [(.ref ar)])
  refine Go.by (fun _ k => XS.astoreN X180.here hx rfl (hb hby at_97) rfl rfl (l' := #[.val (.int i0), .val (.ref ar), .unset, .unset]) rfl k) ?_
  show Go _ _ _ _ T180 (mkF m 98 #[.val (.int i0), .val (.ref ar), .unset, .unset] [])
  refine Go.by (fun _ k => XS.iloadN X180.here hx rfl (hb hby at_98) rfl k) ?_
  show Go _ _ _ _ T180 (mkF m 99 #[.val (.int i0), .val (.ref ar), .unset, .unset] [(.int i0)])
  refine Go.by (fun _ k => X180.ldcI hx hown (mvT hZ (hw _ (List.mem_of_getElem? (i := 32) rfl))) rfl (hb hby at_99) k) ?_
  show Go _ _ _ _ T180 (mkF m 101 #[.val (.int i0), .val (.ref ar), .unset, .unset] [(.int (2147483647 : Int32)), (.int i0)])
  refine Go.by (fun _ k => XS.iand X180.here hx rfl (hb hby at_101) rfl k) ?_
  show Go _ _ _ _ T180 (mkF m 102 #[.val (.int i0), .val (.ref ar), .unset, .unset] [(.int (i0 &&& (2147483647 : Int32)))])
  refine Go.by (fun _ k => XT.bipushV X180.here hx rfl (14 : Int32) (hb hby at_102) (by decide) k) ?_
  show Go _ _ _ _ T180 (mkF m 104 #[.val (.int i0), .val (.ref ar), .unset, .unset] [(.int (14 : Int32)), (.int (i0 &&& (2147483647 : Int32)))])
  refine Go.by (fun _ k => iremM X180 hx rfl (hb hby at_104) rfl (by decide) k) ?_
  show Go _ _ _ _ T180 (mkF m 105 #[.val (.int i0), .val (.ref ar), .unset, .unset] [(.int ((i0 &&& (2147483647 : Int32)) % (14 : Int32)))])
  refine Go.by (fun _ k => XS.istoreN X180.here hx rfl (hb hby at_105) rfl (l' := #[.val (.int i0), .val (.ref ar), .val (.int ((i0 &&& (2147483647 : Int32)) % (14 : Int32))), .unset]) rfl k) ?_
  show Go _ _ _ _ T180 (mkF m 106 #[.val (.int i0), .val (.ref ar), .val (.int ((i0 &&& (2147483647 : Int32)) % (14 : Int32))), .unset] [])
  obtain ⟨kk, hkk⟩ := own_mod14 i0
  rw [hkk]
  clear hkk
  have q2_0 : ad2 ≠ ad0 := F2.ne F0 (by decide)
  have q2_1 : ad2 ≠ ad1 := F2.ne F1 (by decide)
  have q3_0 : ad3 ≠ ad0 := F3.ne F0 (by decide)
  have q3_1 : ad3 ≠ ad1 := F3.ne F1 (by decide)
  have q4_0 : ad4 ≠ ad0 := F4.ne F0 (by decide)
  have q4_1 : ad4 ≠ ad1 := F4.ne F1 (by decide)
  have q5_0 : ad5 ≠ ad0 := F5.ne F0 (by decide)
  have q5_1 : ad5 ≠ ad1 := F5.ne F1 (by decide)
  have q6_0 : ad6 ≠ ad0 := F6.ne F0 (by decide)
  have q6_1 : ad6 ≠ ad1 := F6.ne F1 (by decide)
  have q7_0 : ad7 ≠ ad0 := F7.ne F0 (by decide)
  have q7_1 : ad7 ≠ ad1 := F7.ne F1 (by decide)
  have q8_0 : ad8 ≠ ad0 := F8.ne F0 (by decide)
  have q8_1 : ad8 ≠ ad1 := F8.ne F1 (by decide)
  have q9_0 : ad9 ≠ ad0 := F9.ne F0 (by decide)
  have q9_1 : ad9 ≠ ad1 := F9.ne F1 (by decide)
  have q10_0 : ad10 ≠ ad0 := F10.ne F0 (by decide)
  have q10_1 : ad10 ≠ ad1 := F10.ne F1 (by decide)
  have q11_0 : ad11 ≠ ad0 := F11.ne F0 (by decide)
  have q11_1 : ad11 ≠ ad1 := F11.ne F1 (by decide)
  have q12_0 : ad12 ≠ ad0 := F12.ne F0 (by decide)
  have q12_1 : ad12 ≠ ad1 := F12.ne F1 (by decide)
  have q13_0 : ad13 ≠ ad0 := F13.ne F0 (by decide)
  have q13_1 : ad13 ≠ ad1 := F13.ne F1 (by decide)
  have q1_0 : ad1 ≠ ad0 := F1.ne F0 (by decide)
  match kk with
  | ⟨0, _⟩ =>
    show Go _ _ _ _ T180 (mkF m 106 #[.val (.int i0), .val (.ref ar), .val (.int (0 : Int32)), .unset] [])
    refine Go.by (fun _ k => XS.iloadN X180.here hx rfl (hb hby at_106) rfl k) ?_
    show Go _ _ _ _ T180 (mkF m 107 #[.val (.int i0), .val (.ref ar), .val (.int (0 : Int32)), .unset] [(.int (0 : Int32))])
    refine Go.by (fun _ k => XS.ifYes X180.here hx rfl (pc0 := 107) (pc' := 115) rfl (hb hby at_107) rfl (XT.i0_eq_t (by decide)) (by decide) (by decide) k) ?_
    show Go _ _ _ _ T180 (mkF m 115 #[.val (.int i0), .val (.ref ar), .val (.int (0 : Int32)), .unset] [])
    refine Go.by (fun _ k => XT.iconstV X180.here hx rfl (1 : Int32) (hb hby at_115) (by decide) k) ?_
    show Go _ _ _ _ T180 (mkF m 116 #[.val (.int i0), .val (.ref ar), .val (.int (0 : Int32)), .unset] [(.int (1 : Int32))])
    refine Go.by (fun _ k => XS.goto X180.here hx rfl (pc0 := 116) (pc' := 120) rfl (hb hby at_116) (by decide) (by decide) k) ?_
    show Go _ _ _ _ T180 (mkF m 120 #[.val (.int i0), .val (.ref ar), .val (.int (0 : Int32)), .unset] [(.int (1 : Int32))])
    refine Go.by (fun _ k => XS.istoreN X180.here hx rfl (hb hby at_120) rfl (l' := #[.val (.int i0), .val (.ref ar), .val (.int (0 : Int32)), .val (.int (1 : Int32))]) rfl k) ?_
    show Go _ _ _ _ T180 (mkF m 121 #[.val (.int i0), .val (.ref ar), .val (.int (0 : Int32)), .val (.int (1 : Int32))] [])
    refine Go.by (fun _ k => XS.aloadN X180.here hx rfl (hb hby at_121) rfl rfl k) ?_
    show Go _ _ _ _ T180 (mkF m 122 #[.val (.int i0), .val (.ref ar), .val (.int (0 : Int32)), .val (.int (1 : Int32))] [(.ref ar)])
    refine Go.by (fun _ k => XS.iloadN X180.here hx rfl (hb hby at_122) rfl k) ?_
    show Go _ _ _ _ T180 (mkF m 123 #[.val (.int i0), .val (.ref ar), .val (.int (0 : Int32)), .val (.int (1 : Int32))] [(.int (0 : Int32)), (.ref ar)])
    refine Go.by (own_aaload X180 hx hZ e180 V180 rfl (j := (0 : Int32)) (by decide) (v := .ref ad0) rfl (g := (mkF m 123 #[.val (.int i0), .val (.ref ar), .val (.int (0 : Int32)), .val (.int (1 : Int32))] [(.int (0 : Int32)), (.ref ar)])) rfl rfl (hb hby at_123)) ?_
    show Go _ _ _ _ T180 (mkF m 124 #[.val (.int i0), .val (.ref ar), .val (.int (0 : Int32)), .val (.int (1 : Int32))] [(.ref ad0)])
    have Z9 : n0 ≤ h180.size := O180.1 ▸ O180.2.1
    obtain ⟨cq182, kq182, q182a, q182b, q182c⟩ := isOf hZ e180 (E0.ext O180.2)
    obtain ⟨_, _, ⟨T181, L181, k181, n181⟩, -, X181, ⟨Lc181, hQ181, l181, y181, z181⟩, st181⟩ := X180.virtualBack hx (y := (⟨"com/example/nonet/nonet/logic/Technique", "places", "()Z"⟩ : MethodName)) (z := (⟨"com/example/nonet/nonet/logic/Technique", "places", "()Z"⟩ : MethodName)) hown (mvT hZ (hw _ (List.mem_of_getElem? (i := 33) rfl))) (mvT hZ (hw _ (List.mem_of_getElem? (i := 34) rfl))) (notFace_of_selects (args := #[]) (mvT hZ (hw _ (List.mem_of_getElem? (i := 36) rfl)))) (mvT hZ (hw _ (List.mem_of_getElem? (i := 36) rfl))) (mvT hZ (hw _ (List.mem_of_getElem? (i := 35) rfl))) (by decide) (backOf (W := 0) (rm1 l Z a0 hw [] ad0 ad0 ad1 h180 n0 Z9 (S0.ext O180.2) (S1.ext O180.2)) hZ (hw _ (List.mem_of_getElem? (i := 37) rfl)) (hw _ (List.mem_of_getElem? (i := 3) rfl)) (by decide) (by decide)) q182a q182c (g := (mkF m 124 #[.val (.int i0), .val (.ref ar), .val (.int (0 : Int32)), .val (.int (1 : Int32))] [(.ref ad0)])) rfl (by rw [hml]; rfl) (Steps.refl _) (argsL := []) (rest := []) (lenOf pd___Z rfl) rfl (by show 2 * 0 + _ ≤ _; exact Nat.le_of_eq rfl) (hb hby at_124) (fun _ _ => ⟨rfl, e180, (by decide : 0 + 1 + 0 ≤ _), (by decide : 0 + 14 + 0 ≤ _)⟩)
    dsimp only [Pt.U, Pt.locs, Pt.cells, Pt.slots] at X181 l181 y181 z181 st181 hQ181
    subst l181 y181 z181
    obtain ⟨rfl, N181, e181⟩ := hQ181
    have NN181 := Fr.app N180 N181
    refine Go.call st181 ?_
    show Go _ _ _ _ T181 (mkF m 127 #[.val (.int i0), .val (.ref ar), .val (.int (0 : Int32)), .val (.int (1 : Int32))] [(.int (plV ad0 ad0 ad1))])
    refine Go.by (fun _ k => XS.iloadN X181.here hx rfl (hb hby at_127) rfl k) ?_
    show Go _ _ _ _ T181 (mkF m 128 #[.val (.int i0), .val (.ref ar), .val (.int (0 : Int32)), .val (.int (1 : Int32))] [(.int (1 : Int32)), (.int (plV ad0 ad0 ad1))])
    refine Go.by (fun _ k => XS.icmpNo X181.here hx rfl (hb hby at_128) rfl (XT.ii_ne_f (by simp [plV])) k) ?_
    show Go _ _ _ _ T181 (mkF m 131 #[.val (.int i0), .val (.ref ar), .val (.int (0 : Int32)), .val (.int (1 : Int32))] [])
    refine Go.by (fun _ k => XT.iconstV X181.here hx rfl (1 : Int32) (hb hby at_131) (by decide) k) ?_
    show Go _ _ _ _ T181 (mkF m 132 #[.val (.int i0), .val (.ref ar), .val (.int (0 : Int32)), .val (.int (1 : Int32))] [(.int (1 : Int32))])
    refine Go.by (fun _ k => XS.goto X181.here hx rfl (pc0 := 132) (pc' := 136) rfl (hb hby at_132) (by decide) (by decide) k) ?_
    show Go _ _ _ _ T181 (mkF m 136 #[.val (.int i0), .val (.ref ar), .val (.int (0 : Int32)), .val (.int (1 : Int32))] [(.int (1 : Int32))])
    exact Go.retZ X181 hx Bd.notSynchronized (t := .boolean) Bd.returns (by simp) (hb hby at_136) ⟨rfl, NN181⟩ (by decide) (by decide)
  | ⟨1, _⟩ =>
    show Go _ _ _ _ T180 (mkF m 106 #[.val (.int i0), .val (.ref ar), .val (.int (1 : Int32)), .unset] [])
    refine Go.by (fun _ k => XS.iloadN X180.here hx rfl (hb hby at_106) rfl k) ?_
    show Go _ _ _ _ T180 (mkF m 107 #[.val (.int i0), .val (.ref ar), .val (.int (1 : Int32)), .unset] [(.int (1 : Int32))])
    refine Go.by (fun _ k => XS.ifNo X180.here hx rfl (hb hby at_107) rfl (XT.i0_eq_f (by decide)) k) ?_
    show Go _ _ _ _ T180 (mkF m 110 #[.val (.int i0), .val (.ref ar), .val (.int (1 : Int32)), .unset] [])
    refine Go.by (fun _ k => XS.iloadN X180.here hx rfl (hb hby at_110) rfl k) ?_
    show Go _ _ _ _ T180 (mkF m 111 #[.val (.int i0), .val (.ref ar), .val (.int (1 : Int32)), .unset] [(.int (1 : Int32))])
    refine Go.by (fun _ k => XT.iconstV X180.here hx rfl (1 : Int32) (hb hby at_111) (by decide) k) ?_
    show Go _ _ _ _ T180 (mkF m 112 #[.val (.int i0), .val (.ref ar), .val (.int (1 : Int32)), .unset] [(.int (1 : Int32)), (.int (1 : Int32))])
    refine Go.by (fun _ k => XS.icmpNo X180.here hx rfl (hb hby at_112) rfl (XT.ii_ne_f (by decide)) k) ?_
    show Go _ _ _ _ T180 (mkF m 115 #[.val (.int i0), .val (.ref ar), .val (.int (1 : Int32)), .unset] [])
    refine Go.by (fun _ k => XT.iconstV X180.here hx rfl (1 : Int32) (hb hby at_115) (by decide) k) ?_
    show Go _ _ _ _ T180 (mkF m 116 #[.val (.int i0), .val (.ref ar), .val (.int (1 : Int32)), .unset] [(.int (1 : Int32))])
    refine Go.by (fun _ k => XS.goto X180.here hx rfl (pc0 := 116) (pc' := 120) rfl (hb hby at_116) (by decide) (by decide) k) ?_
    show Go _ _ _ _ T180 (mkF m 120 #[.val (.int i0), .val (.ref ar), .val (.int (1 : Int32)), .unset] [(.int (1 : Int32))])
    refine Go.by (fun _ k => XS.istoreN X180.here hx rfl (hb hby at_120) rfl (l' := #[.val (.int i0), .val (.ref ar), .val (.int (1 : Int32)), .val (.int (1 : Int32))]) rfl k) ?_
    show Go _ _ _ _ T180 (mkF m 121 #[.val (.int i0), .val (.ref ar), .val (.int (1 : Int32)), .val (.int (1 : Int32))] [])
    refine Go.by (fun _ k => XS.aloadN X180.here hx rfl (hb hby at_121) rfl rfl k) ?_
    show Go _ _ _ _ T180 (mkF m 122 #[.val (.int i0), .val (.ref ar), .val (.int (1 : Int32)), .val (.int (1 : Int32))] [(.ref ar)])
    refine Go.by (fun _ k => XS.iloadN X180.here hx rfl (hb hby at_122) rfl k) ?_
    show Go _ _ _ _ T180 (mkF m 123 #[.val (.int i0), .val (.ref ar), .val (.int (1 : Int32)), .val (.int (1 : Int32))] [(.int (1 : Int32)), (.ref ar)])
    refine Go.by (own_aaload X180 hx hZ e180 V180 rfl (j := (1 : Int32)) (by decide) (v := .ref ad1) rfl (g := (mkF m 123 #[.val (.int i0), .val (.ref ar), .val (.int (1 : Int32)), .val (.int (1 : Int32))] [(.int (1 : Int32)), (.ref ar)])) rfl rfl (hb hby at_123)) ?_
    show Go _ _ _ _ T180 (mkF m 124 #[.val (.int i0), .val (.ref ar), .val (.int (1 : Int32)), .val (.int (1 : Int32))] [(.ref ad1)])
    have Z9 : n0 ≤ h180.size := O180.1 ▸ O180.2.1
    obtain ⟨cq184, kq184, q184a, q184b, q184c⟩ := isOf hZ e180 (E1.ext O180.2)
    obtain ⟨_, _, ⟨T183, L183, k183, n183⟩, -, X183, ⟨Lc183, hQ183, l183, y183, z183⟩, st183⟩ := X180.virtualBack hx (y := (⟨"com/example/nonet/nonet/logic/Technique", "places", "()Z"⟩ : MethodName)) (z := (⟨"com/example/nonet/nonet/logic/Technique", "places", "()Z"⟩ : MethodName)) hown (mvT hZ (hw _ (List.mem_of_getElem? (i := 33) rfl))) (mvT hZ (hw _ (List.mem_of_getElem? (i := 34) rfl))) (notFace_of_selects (args := #[]) (mvT hZ (hw _ (List.mem_of_getElem? (i := 36) rfl)))) (mvT hZ (hw _ (List.mem_of_getElem? (i := 36) rfl))) (mvT hZ (hw _ (List.mem_of_getElem? (i := 35) rfl))) (by decide) (backOf (W := 0) (rm1 l Z a0 hw [] ad1 ad0 ad1 h180 n0 Z9 (S0.ext O180.2) (S1.ext O180.2)) hZ (hw _ (List.mem_of_getElem? (i := 37) rfl)) (hw _ (List.mem_of_getElem? (i := 3) rfl)) (by decide) (by decide)) q184a q184c (g := (mkF m 124 #[.val (.int i0), .val (.ref ar), .val (.int (1 : Int32)), .val (.int (1 : Int32))] [(.ref ad1)])) rfl (by rw [hml]; rfl) (Steps.refl _) (argsL := []) (rest := []) (lenOf pd___Z rfl) rfl (by show 2 * 0 + _ ≤ _; exact Nat.le_of_eq rfl) (hb hby at_124) (fun _ _ => ⟨rfl, e180, (by decide : 0 + 1 + 0 ≤ _), (by decide : 0 + 14 + 0 ≤ _)⟩)
    dsimp only [Pt.U, Pt.locs, Pt.cells, Pt.slots] at X183 l183 y183 z183 st183 hQ183
    subst l183 y183 z183
    obtain ⟨rfl, N183, e183⟩ := hQ183
    have NN183 := Fr.app N180 N183
    refine Go.call st183 ?_
    show Go _ _ _ _ T183 (mkF m 127 #[.val (.int i0), .val (.ref ar), .val (.int (1 : Int32)), .val (.int (1 : Int32))] [(.int (plV ad1 ad0 ad1))])
    refine Go.by (fun _ k => XS.iloadN X183.here hx rfl (hb hby at_127) rfl k) ?_
    show Go _ _ _ _ T183 (mkF m 128 #[.val (.int i0), .val (.ref ar), .val (.int (1 : Int32)), .val (.int (1 : Int32))] [(.int (1 : Int32)), (.int (plV ad1 ad0 ad1))])
    refine Go.by (fun _ k => XS.icmpNo X183.here hx rfl (hb hby at_128) rfl (XT.ii_ne_f (by simp [plV, q1_0])) k) ?_
    show Go _ _ _ _ T183 (mkF m 131 #[.val (.int i0), .val (.ref ar), .val (.int (1 : Int32)), .val (.int (1 : Int32))] [])
    refine Go.by (fun _ k => XT.iconstV X183.here hx rfl (1 : Int32) (hb hby at_131) (by decide) k) ?_
    show Go _ _ _ _ T183 (mkF m 132 #[.val (.int i0), .val (.ref ar), .val (.int (1 : Int32)), .val (.int (1 : Int32))] [(.int (1 : Int32))])
    refine Go.by (fun _ k => XS.goto X183.here hx rfl (pc0 := 132) (pc' := 136) rfl (hb hby at_132) (by decide) (by decide) k) ?_
    show Go _ _ _ _ T183 (mkF m 136 #[.val (.int i0), .val (.ref ar), .val (.int (1 : Int32)), .val (.int (1 : Int32))] [(.int (1 : Int32))])
    exact Go.retZ X183 hx Bd.notSynchronized (t := .boolean) Bd.returns (by simp) (hb hby at_136) ⟨rfl, NN183⟩ (by decide) (by decide)
  | ⟨2, _⟩ =>
    show Go _ _ _ _ T180 (mkF m 106 #[.val (.int i0), .val (.ref ar), .val (.int (2 : Int32)), .unset] [])
    refine Go.by (fun _ k => XS.iloadN X180.here hx rfl (hb hby at_106) rfl k) ?_
    show Go _ _ _ _ T180 (mkF m 107 #[.val (.int i0), .val (.ref ar), .val (.int (2 : Int32)), .unset] [(.int (2 : Int32))])
    refine Go.by (fun _ k => XS.ifNo X180.here hx rfl (hb hby at_107) rfl (XT.i0_eq_f (by decide)) k) ?_
    show Go _ _ _ _ T180 (mkF m 110 #[.val (.int i0), .val (.ref ar), .val (.int (2 : Int32)), .unset] [])
    refine Go.by (fun _ k => XS.iloadN X180.here hx rfl (hb hby at_110) rfl k) ?_
    show Go _ _ _ _ T180 (mkF m 111 #[.val (.int i0), .val (.ref ar), .val (.int (2 : Int32)), .unset] [(.int (2 : Int32))])
    refine Go.by (fun _ k => XT.iconstV X180.here hx rfl (1 : Int32) (hb hby at_111) (by decide) k) ?_
    show Go _ _ _ _ T180 (mkF m 112 #[.val (.int i0), .val (.ref ar), .val (.int (2 : Int32)), .unset] [(.int (1 : Int32)), (.int (2 : Int32))])
    refine Go.by (fun _ k => XS.icmpYes X180.here hx rfl (pc0 := 112) (pc' := 119) rfl (hb hby at_112) rfl (XT.ii_ne_t (by decide)) (by decide) (by decide) k) ?_
    show Go _ _ _ _ T180 (mkF m 119 #[.val (.int i0), .val (.ref ar), .val (.int (2 : Int32)), .unset] [])
    refine Go.by (fun _ k => XT.iconstV X180.here hx rfl (0 : Int32) (hb hby at_119) (by decide) k) ?_
    show Go _ _ _ _ T180 (mkF m 120 #[.val (.int i0), .val (.ref ar), .val (.int (2 : Int32)), .unset] [(.int (0 : Int32))])
    refine Go.by (fun _ k => XS.istoreN X180.here hx rfl (hb hby at_120) rfl (l' := #[.val (.int i0), .val (.ref ar), .val (.int (2 : Int32)), .val (.int (0 : Int32))]) rfl k) ?_
    show Go _ _ _ _ T180 (mkF m 121 #[.val (.int i0), .val (.ref ar), .val (.int (2 : Int32)), .val (.int (0 : Int32))] [])
    refine Go.by (fun _ k => XS.aloadN X180.here hx rfl (hb hby at_121) rfl rfl k) ?_
    show Go _ _ _ _ T180 (mkF m 122 #[.val (.int i0), .val (.ref ar), .val (.int (2 : Int32)), .val (.int (0 : Int32))] [(.ref ar)])
    refine Go.by (fun _ k => XS.iloadN X180.here hx rfl (hb hby at_122) rfl k) ?_
    show Go _ _ _ _ T180 (mkF m 123 #[.val (.int i0), .val (.ref ar), .val (.int (2 : Int32)), .val (.int (0 : Int32))] [(.int (2 : Int32)), (.ref ar)])
    refine Go.by (own_aaload X180 hx hZ e180 V180 rfl (j := (2 : Int32)) (by decide) (v := .ref ad2) rfl (g := (mkF m 123 #[.val (.int i0), .val (.ref ar), .val (.int (2 : Int32)), .val (.int (0 : Int32))] [(.int (2 : Int32)), (.ref ar)])) rfl rfl (hb hby at_123)) ?_
    show Go _ _ _ _ T180 (mkF m 124 #[.val (.int i0), .val (.ref ar), .val (.int (2 : Int32)), .val (.int (0 : Int32))] [(.ref ad2)])
    have Z9 : n0 ≤ h180.size := O180.1 ▸ O180.2.1
    obtain ⟨cq186, kq186, q186a, q186b, q186c⟩ := isOf hZ e180 (E2.ext O180.2)
    obtain ⟨_, _, ⟨T185, L185, k185, n185⟩, -, X185, ⟨Lc185, hQ185, l185, y185, z185⟩, st185⟩ := X180.virtualBack hx (y := (⟨"com/example/nonet/nonet/logic/Technique", "places", "()Z"⟩ : MethodName)) (z := (⟨"com/example/nonet/nonet/logic/Technique", "places", "()Z"⟩ : MethodName)) hown (mvT hZ (hw _ (List.mem_of_getElem? (i := 33) rfl))) (mvT hZ (hw _ (List.mem_of_getElem? (i := 34) rfl))) (notFace_of_selects (args := #[]) (mvT hZ (hw _ (List.mem_of_getElem? (i := 36) rfl)))) (mvT hZ (hw _ (List.mem_of_getElem? (i := 36) rfl))) (mvT hZ (hw _ (List.mem_of_getElem? (i := 35) rfl))) (by decide) (backOf (W := 0) (rm1 l Z a0 hw [] ad2 ad0 ad1 h180 n0 Z9 (S0.ext O180.2) (S1.ext O180.2)) hZ (hw _ (List.mem_of_getElem? (i := 37) rfl)) (hw _ (List.mem_of_getElem? (i := 3) rfl)) (by decide) (by decide)) q186a q186c (g := (mkF m 124 #[.val (.int i0), .val (.ref ar), .val (.int (2 : Int32)), .val (.int (0 : Int32))] [(.ref ad2)])) rfl (by rw [hml]; rfl) (Steps.refl _) (argsL := []) (rest := []) (lenOf pd___Z rfl) rfl (by show 2 * 0 + _ ≤ _; exact Nat.le_of_eq rfl) (hb hby at_124) (fun _ _ => ⟨rfl, e180, (by decide : 0 + 1 + 0 ≤ _), (by decide : 0 + 14 + 0 ≤ _)⟩)
    dsimp only [Pt.U, Pt.locs, Pt.cells, Pt.slots] at X185 l185 y185 z185 st185 hQ185
    subst l185 y185 z185
    obtain ⟨rfl, N185, e185⟩ := hQ185
    have NN185 := Fr.app N180 N185
    refine Go.call st185 ?_
    show Go _ _ _ _ T185 (mkF m 127 #[.val (.int i0), .val (.ref ar), .val (.int (2 : Int32)), .val (.int (0 : Int32))] [(.int (plV ad2 ad0 ad1))])
    refine Go.by (fun _ k => XS.iloadN X185.here hx rfl (hb hby at_127) rfl k) ?_
    show Go _ _ _ _ T185 (mkF m 128 #[.val (.int i0), .val (.ref ar), .val (.int (2 : Int32)), .val (.int (0 : Int32))] [(.int (0 : Int32)), (.int (plV ad2 ad0 ad1))])
    refine Go.by (fun _ k => XS.icmpNo X185.here hx rfl (hb hby at_128) rfl (XT.ii_ne_f (by simp [plV, q2_0, q2_1])) k) ?_
    show Go _ _ _ _ T185 (mkF m 131 #[.val (.int i0), .val (.ref ar), .val (.int (2 : Int32)), .val (.int (0 : Int32))] [])
    refine Go.by (fun _ k => XT.iconstV X185.here hx rfl (1 : Int32) (hb hby at_131) (by decide) k) ?_
    show Go _ _ _ _ T185 (mkF m 132 #[.val (.int i0), .val (.ref ar), .val (.int (2 : Int32)), .val (.int (0 : Int32))] [(.int (1 : Int32))])
    refine Go.by (fun _ k => XS.goto X185.here hx rfl (pc0 := 132) (pc' := 136) rfl (hb hby at_132) (by decide) (by decide) k) ?_
    show Go _ _ _ _ T185 (mkF m 136 #[.val (.int i0), .val (.ref ar), .val (.int (2 : Int32)), .val (.int (0 : Int32))] [(.int (1 : Int32))])
    exact Go.retZ X185 hx Bd.notSynchronized (t := .boolean) Bd.returns (by simp) (hb hby at_136) ⟨rfl, NN185⟩ (by decide) (by decide)
  | ⟨3, _⟩ =>
    show Go _ _ _ _ T180 (mkF m 106 #[.val (.int i0), .val (.ref ar), .val (.int (3 : Int32)), .unset] [])
    refine Go.by (fun _ k => XS.iloadN X180.here hx rfl (hb hby at_106) rfl k) ?_
    show Go _ _ _ _ T180 (mkF m 107 #[.val (.int i0), .val (.ref ar), .val (.int (3 : Int32)), .unset] [(.int (3 : Int32))])
    refine Go.by (fun _ k => XS.ifNo X180.here hx rfl (hb hby at_107) rfl (XT.i0_eq_f (by decide)) k) ?_
    show Go _ _ _ _ T180 (mkF m 110 #[.val (.int i0), .val (.ref ar), .val (.int (3 : Int32)), .unset] [])
    refine Go.by (fun _ k => XS.iloadN X180.here hx rfl (hb hby at_110) rfl k) ?_
    show Go _ _ _ _ T180 (mkF m 111 #[.val (.int i0), .val (.ref ar), .val (.int (3 : Int32)), .unset] [(.int (3 : Int32))])
    refine Go.by (fun _ k => XT.iconstV X180.here hx rfl (1 : Int32) (hb hby at_111) (by decide) k) ?_
    show Go _ _ _ _ T180 (mkF m 112 #[.val (.int i0), .val (.ref ar), .val (.int (3 : Int32)), .unset] [(.int (1 : Int32)), (.int (3 : Int32))])
    refine Go.by (fun _ k => XS.icmpYes X180.here hx rfl (pc0 := 112) (pc' := 119) rfl (hb hby at_112) rfl (XT.ii_ne_t (by decide)) (by decide) (by decide) k) ?_
    show Go _ _ _ _ T180 (mkF m 119 #[.val (.int i0), .val (.ref ar), .val (.int (3 : Int32)), .unset] [])
    refine Go.by (fun _ k => XT.iconstV X180.here hx rfl (0 : Int32) (hb hby at_119) (by decide) k) ?_
    show Go _ _ _ _ T180 (mkF m 120 #[.val (.int i0), .val (.ref ar), .val (.int (3 : Int32)), .unset] [(.int (0 : Int32))])
    refine Go.by (fun _ k => XS.istoreN X180.here hx rfl (hb hby at_120) rfl (l' := #[.val (.int i0), .val (.ref ar), .val (.int (3 : Int32)), .val (.int (0 : Int32))]) rfl k) ?_
    show Go _ _ _ _ T180 (mkF m 121 #[.val (.int i0), .val (.ref ar), .val (.int (3 : Int32)), .val (.int (0 : Int32))] [])
    refine Go.by (fun _ k => XS.aloadN X180.here hx rfl (hb hby at_121) rfl rfl k) ?_
    show Go _ _ _ _ T180 (mkF m 122 #[.val (.int i0), .val (.ref ar), .val (.int (3 : Int32)), .val (.int (0 : Int32))] [(.ref ar)])
    refine Go.by (fun _ k => XS.iloadN X180.here hx rfl (hb hby at_122) rfl k) ?_
    show Go _ _ _ _ T180 (mkF m 123 #[.val (.int i0), .val (.ref ar), .val (.int (3 : Int32)), .val (.int (0 : Int32))] [(.int (3 : Int32)), (.ref ar)])
    refine Go.by (own_aaload X180 hx hZ e180 V180 rfl (j := (3 : Int32)) (by decide) (v := .ref ad3) rfl (g := (mkF m 123 #[.val (.int i0), .val (.ref ar), .val (.int (3 : Int32)), .val (.int (0 : Int32))] [(.int (3 : Int32)), (.ref ar)])) rfl rfl (hb hby at_123)) ?_
    show Go _ _ _ _ T180 (mkF m 124 #[.val (.int i0), .val (.ref ar), .val (.int (3 : Int32)), .val (.int (0 : Int32))] [(.ref ad3)])
    have Z9 : n0 ≤ h180.size := O180.1 ▸ O180.2.1
    obtain ⟨cq188, kq188, q188a, q188b, q188c⟩ := isOf hZ e180 (E3.ext O180.2)
    obtain ⟨_, _, ⟨T187, L187, k187, n187⟩, -, X187, ⟨Lc187, hQ187, l187, y187, z187⟩, st187⟩ := X180.virtualBack hx (y := (⟨"com/example/nonet/nonet/logic/Technique", "places", "()Z"⟩ : MethodName)) (z := (⟨"com/example/nonet/nonet/logic/Technique", "places", "()Z"⟩ : MethodName)) hown (mvT hZ (hw _ (List.mem_of_getElem? (i := 33) rfl))) (mvT hZ (hw _ (List.mem_of_getElem? (i := 34) rfl))) (notFace_of_selects (args := #[]) (mvT hZ (hw _ (List.mem_of_getElem? (i := 36) rfl)))) (mvT hZ (hw _ (List.mem_of_getElem? (i := 36) rfl))) (mvT hZ (hw _ (List.mem_of_getElem? (i := 35) rfl))) (by decide) (backOf (W := 0) (rm1 l Z a0 hw [] ad3 ad0 ad1 h180 n0 Z9 (S0.ext O180.2) (S1.ext O180.2)) hZ (hw _ (List.mem_of_getElem? (i := 37) rfl)) (hw _ (List.mem_of_getElem? (i := 3) rfl)) (by decide) (by decide)) q188a q188c (g := (mkF m 124 #[.val (.int i0), .val (.ref ar), .val (.int (3 : Int32)), .val (.int (0 : Int32))] [(.ref ad3)])) rfl (by rw [hml]; rfl) (Steps.refl _) (argsL := []) (rest := []) (lenOf pd___Z rfl) rfl (by show 2 * 0 + _ ≤ _; exact Nat.le_of_eq rfl) (hb hby at_124) (fun _ _ => ⟨rfl, e180, (by decide : 0 + 1 + 0 ≤ _), (by decide : 0 + 14 + 0 ≤ _)⟩)
    dsimp only [Pt.U, Pt.locs, Pt.cells, Pt.slots] at X187 l187 y187 z187 st187 hQ187
    subst l187 y187 z187
    obtain ⟨rfl, N187, e187⟩ := hQ187
    have NN187 := Fr.app N180 N187
    refine Go.call st187 ?_
    show Go _ _ _ _ T187 (mkF m 127 #[.val (.int i0), .val (.ref ar), .val (.int (3 : Int32)), .val (.int (0 : Int32))] [(.int (plV ad3 ad0 ad1))])
    refine Go.by (fun _ k => XS.iloadN X187.here hx rfl (hb hby at_127) rfl k) ?_
    show Go _ _ _ _ T187 (mkF m 128 #[.val (.int i0), .val (.ref ar), .val (.int (3 : Int32)), .val (.int (0 : Int32))] [(.int (0 : Int32)), (.int (plV ad3 ad0 ad1))])
    refine Go.by (fun _ k => XS.icmpNo X187.here hx rfl (hb hby at_128) rfl (XT.ii_ne_f (by simp [plV, q3_0, q3_1])) k) ?_
    show Go _ _ _ _ T187 (mkF m 131 #[.val (.int i0), .val (.ref ar), .val (.int (3 : Int32)), .val (.int (0 : Int32))] [])
    refine Go.by (fun _ k => XT.iconstV X187.here hx rfl (1 : Int32) (hb hby at_131) (by decide) k) ?_
    show Go _ _ _ _ T187 (mkF m 132 #[.val (.int i0), .val (.ref ar), .val (.int (3 : Int32)), .val (.int (0 : Int32))] [(.int (1 : Int32))])
    refine Go.by (fun _ k => XS.goto X187.here hx rfl (pc0 := 132) (pc' := 136) rfl (hb hby at_132) (by decide) (by decide) k) ?_
    show Go _ _ _ _ T187 (mkF m 136 #[.val (.int i0), .val (.ref ar), .val (.int (3 : Int32)), .val (.int (0 : Int32))] [(.int (1 : Int32))])
    exact Go.retZ X187 hx Bd.notSynchronized (t := .boolean) Bd.returns (by simp) (hb hby at_136) ⟨rfl, NN187⟩ (by decide) (by decide)
  | ⟨4, _⟩ =>
    show Go _ _ _ _ T180 (mkF m 106 #[.val (.int i0), .val (.ref ar), .val (.int (4 : Int32)), .unset] [])
    refine Go.by (fun _ k => XS.iloadN X180.here hx rfl (hb hby at_106) rfl k) ?_
    show Go _ _ _ _ T180 (mkF m 107 #[.val (.int i0), .val (.ref ar), .val (.int (4 : Int32)), .unset] [(.int (4 : Int32))])
    refine Go.by (fun _ k => XS.ifNo X180.here hx rfl (hb hby at_107) rfl (XT.i0_eq_f (by decide)) k) ?_
    show Go _ _ _ _ T180 (mkF m 110 #[.val (.int i0), .val (.ref ar), .val (.int (4 : Int32)), .unset] [])
    refine Go.by (fun _ k => XS.iloadN X180.here hx rfl (hb hby at_110) rfl k) ?_
    show Go _ _ _ _ T180 (mkF m 111 #[.val (.int i0), .val (.ref ar), .val (.int (4 : Int32)), .unset] [(.int (4 : Int32))])
    refine Go.by (fun _ k => XT.iconstV X180.here hx rfl (1 : Int32) (hb hby at_111) (by decide) k) ?_
    show Go _ _ _ _ T180 (mkF m 112 #[.val (.int i0), .val (.ref ar), .val (.int (4 : Int32)), .unset] [(.int (1 : Int32)), (.int (4 : Int32))])
    refine Go.by (fun _ k => XS.icmpYes X180.here hx rfl (pc0 := 112) (pc' := 119) rfl (hb hby at_112) rfl (XT.ii_ne_t (by decide)) (by decide) (by decide) k) ?_
    show Go _ _ _ _ T180 (mkF m 119 #[.val (.int i0), .val (.ref ar), .val (.int (4 : Int32)), .unset] [])
    refine Go.by (fun _ k => XT.iconstV X180.here hx rfl (0 : Int32) (hb hby at_119) (by decide) k) ?_
    show Go _ _ _ _ T180 (mkF m 120 #[.val (.int i0), .val (.ref ar), .val (.int (4 : Int32)), .unset] [(.int (0 : Int32))])
    refine Go.by (fun _ k => XS.istoreN X180.here hx rfl (hb hby at_120) rfl (l' := #[.val (.int i0), .val (.ref ar), .val (.int (4 : Int32)), .val (.int (0 : Int32))]) rfl k) ?_
    show Go _ _ _ _ T180 (mkF m 121 #[.val (.int i0), .val (.ref ar), .val (.int (4 : Int32)), .val (.int (0 : Int32))] [])
    refine Go.by (fun _ k => XS.aloadN X180.here hx rfl (hb hby at_121) rfl rfl k) ?_
    show Go _ _ _ _ T180 (mkF m 122 #[.val (.int i0), .val (.ref ar), .val (.int (4 : Int32)), .val (.int (0 : Int32))] [(.ref ar)])
    refine Go.by (fun _ k => XS.iloadN X180.here hx rfl (hb hby at_122) rfl k) ?_
    show Go _ _ _ _ T180 (mkF m 123 #[.val (.int i0), .val (.ref ar), .val (.int (4 : Int32)), .val (.int (0 : Int32))] [(.int (4 : Int32)), (.ref ar)])
    refine Go.by (own_aaload X180 hx hZ e180 V180 rfl (j := (4 : Int32)) (by decide) (v := .ref ad4) rfl (g := (mkF m 123 #[.val (.int i0), .val (.ref ar), .val (.int (4 : Int32)), .val (.int (0 : Int32))] [(.int (4 : Int32)), (.ref ar)])) rfl rfl (hb hby at_123)) ?_
    show Go _ _ _ _ T180 (mkF m 124 #[.val (.int i0), .val (.ref ar), .val (.int (4 : Int32)), .val (.int (0 : Int32))] [(.ref ad4)])
    have Z9 : n0 ≤ h180.size := O180.1 ▸ O180.2.1
    obtain ⟨cq190, kq190, q190a, q190b, q190c⟩ := isOf hZ e180 (E4.ext O180.2)
    obtain ⟨_, _, ⟨T189, L189, k189, n189⟩, -, X189, ⟨Lc189, hQ189, l189, y189, z189⟩, st189⟩ := X180.virtualBack hx (y := (⟨"com/example/nonet/nonet/logic/Technique", "places", "()Z"⟩ : MethodName)) (z := (⟨"com/example/nonet/nonet/logic/Technique", "places", "()Z"⟩ : MethodName)) hown (mvT hZ (hw _ (List.mem_of_getElem? (i := 33) rfl))) (mvT hZ (hw _ (List.mem_of_getElem? (i := 34) rfl))) (notFace_of_selects (args := #[]) (mvT hZ (hw _ (List.mem_of_getElem? (i := 36) rfl)))) (mvT hZ (hw _ (List.mem_of_getElem? (i := 36) rfl))) (mvT hZ (hw _ (List.mem_of_getElem? (i := 35) rfl))) (by decide) (backOf (W := 0) (rm1 l Z a0 hw [] ad4 ad0 ad1 h180 n0 Z9 (S0.ext O180.2) (S1.ext O180.2)) hZ (hw _ (List.mem_of_getElem? (i := 37) rfl)) (hw _ (List.mem_of_getElem? (i := 3) rfl)) (by decide) (by decide)) q190a q190c (g := (mkF m 124 #[.val (.int i0), .val (.ref ar), .val (.int (4 : Int32)), .val (.int (0 : Int32))] [(.ref ad4)])) rfl (by rw [hml]; rfl) (Steps.refl _) (argsL := []) (rest := []) (lenOf pd___Z rfl) rfl (by show 2 * 0 + _ ≤ _; exact Nat.le_of_eq rfl) (hb hby at_124) (fun _ _ => ⟨rfl, e180, (by decide : 0 + 1 + 0 ≤ _), (by decide : 0 + 14 + 0 ≤ _)⟩)
    dsimp only [Pt.U, Pt.locs, Pt.cells, Pt.slots] at X189 l189 y189 z189 st189 hQ189
    subst l189 y189 z189
    obtain ⟨rfl, N189, e189⟩ := hQ189
    have NN189 := Fr.app N180 N189
    refine Go.call st189 ?_
    show Go _ _ _ _ T189 (mkF m 127 #[.val (.int i0), .val (.ref ar), .val (.int (4 : Int32)), .val (.int (0 : Int32))] [(.int (plV ad4 ad0 ad1))])
    refine Go.by (fun _ k => XS.iloadN X189.here hx rfl (hb hby at_127) rfl k) ?_
    show Go _ _ _ _ T189 (mkF m 128 #[.val (.int i0), .val (.ref ar), .val (.int (4 : Int32)), .val (.int (0 : Int32))] [(.int (0 : Int32)), (.int (plV ad4 ad0 ad1))])
    refine Go.by (fun _ k => XS.icmpNo X189.here hx rfl (hb hby at_128) rfl (XT.ii_ne_f (by simp [plV, q4_0, q4_1])) k) ?_
    show Go _ _ _ _ T189 (mkF m 131 #[.val (.int i0), .val (.ref ar), .val (.int (4 : Int32)), .val (.int (0 : Int32))] [])
    refine Go.by (fun _ k => XT.iconstV X189.here hx rfl (1 : Int32) (hb hby at_131) (by decide) k) ?_
    show Go _ _ _ _ T189 (mkF m 132 #[.val (.int i0), .val (.ref ar), .val (.int (4 : Int32)), .val (.int (0 : Int32))] [(.int (1 : Int32))])
    refine Go.by (fun _ k => XS.goto X189.here hx rfl (pc0 := 132) (pc' := 136) rfl (hb hby at_132) (by decide) (by decide) k) ?_
    show Go _ _ _ _ T189 (mkF m 136 #[.val (.int i0), .val (.ref ar), .val (.int (4 : Int32)), .val (.int (0 : Int32))] [(.int (1 : Int32))])
    exact Go.retZ X189 hx Bd.notSynchronized (t := .boolean) Bd.returns (by simp) (hb hby at_136) ⟨rfl, NN189⟩ (by decide) (by decide)
  | ⟨5, _⟩ =>
    show Go _ _ _ _ T180 (mkF m 106 #[.val (.int i0), .val (.ref ar), .val (.int (5 : Int32)), .unset] [])
    refine Go.by (fun _ k => XS.iloadN X180.here hx rfl (hb hby at_106) rfl k) ?_
    show Go _ _ _ _ T180 (mkF m 107 #[.val (.int i0), .val (.ref ar), .val (.int (5 : Int32)), .unset] [(.int (5 : Int32))])
    refine Go.by (fun _ k => XS.ifNo X180.here hx rfl (hb hby at_107) rfl (XT.i0_eq_f (by decide)) k) ?_
    show Go _ _ _ _ T180 (mkF m 110 #[.val (.int i0), .val (.ref ar), .val (.int (5 : Int32)), .unset] [])
    refine Go.by (fun _ k => XS.iloadN X180.here hx rfl (hb hby at_110) rfl k) ?_
    show Go _ _ _ _ T180 (mkF m 111 #[.val (.int i0), .val (.ref ar), .val (.int (5 : Int32)), .unset] [(.int (5 : Int32))])
    refine Go.by (fun _ k => XT.iconstV X180.here hx rfl (1 : Int32) (hb hby at_111) (by decide) k) ?_
    show Go _ _ _ _ T180 (mkF m 112 #[.val (.int i0), .val (.ref ar), .val (.int (5 : Int32)), .unset] [(.int (1 : Int32)), (.int (5 : Int32))])
    refine Go.by (fun _ k => XS.icmpYes X180.here hx rfl (pc0 := 112) (pc' := 119) rfl (hb hby at_112) rfl (XT.ii_ne_t (by decide)) (by decide) (by decide) k) ?_
    show Go _ _ _ _ T180 (mkF m 119 #[.val (.int i0), .val (.ref ar), .val (.int (5 : Int32)), .unset] [])
    refine Go.by (fun _ k => XT.iconstV X180.here hx rfl (0 : Int32) (hb hby at_119) (by decide) k) ?_
    show Go _ _ _ _ T180 (mkF m 120 #[.val (.int i0), .val (.ref ar), .val (.int (5 : Int32)), .unset] [(.int (0 : Int32))])
    refine Go.by (fun _ k => XS.istoreN X180.here hx rfl (hb hby at_120) rfl (l' := #[.val (.int i0), .val (.ref ar), .val (.int (5 : Int32)), .val (.int (0 : Int32))]) rfl k) ?_
    show Go _ _ _ _ T180 (mkF m 121 #[.val (.int i0), .val (.ref ar), .val (.int (5 : Int32)), .val (.int (0 : Int32))] [])
    refine Go.by (fun _ k => XS.aloadN X180.here hx rfl (hb hby at_121) rfl rfl k) ?_
    show Go _ _ _ _ T180 (mkF m 122 #[.val (.int i0), .val (.ref ar), .val (.int (5 : Int32)), .val (.int (0 : Int32))] [(.ref ar)])
    refine Go.by (fun _ k => XS.iloadN X180.here hx rfl (hb hby at_122) rfl k) ?_
    show Go _ _ _ _ T180 (mkF m 123 #[.val (.int i0), .val (.ref ar), .val (.int (5 : Int32)), .val (.int (0 : Int32))] [(.int (5 : Int32)), (.ref ar)])
    refine Go.by (own_aaload X180 hx hZ e180 V180 rfl (j := (5 : Int32)) (by decide) (v := .ref ad5) rfl (g := (mkF m 123 #[.val (.int i0), .val (.ref ar), .val (.int (5 : Int32)), .val (.int (0 : Int32))] [(.int (5 : Int32)), (.ref ar)])) rfl rfl (hb hby at_123)) ?_
    show Go _ _ _ _ T180 (mkF m 124 #[.val (.int i0), .val (.ref ar), .val (.int (5 : Int32)), .val (.int (0 : Int32))] [(.ref ad5)])
    have Z9 : n0 ≤ h180.size := O180.1 ▸ O180.2.1
    obtain ⟨cq192, kq192, q192a, q192b, q192c⟩ := isOf hZ e180 (E5.ext O180.2)
    obtain ⟨_, _, ⟨T191, L191, k191, n191⟩, -, X191, ⟨Lc191, hQ191, l191, y191, z191⟩, st191⟩ := X180.virtualBack hx (y := (⟨"com/example/nonet/nonet/logic/Technique", "places", "()Z"⟩ : MethodName)) (z := (⟨"com/example/nonet/nonet/logic/Technique", "places", "()Z"⟩ : MethodName)) hown (mvT hZ (hw _ (List.mem_of_getElem? (i := 33) rfl))) (mvT hZ (hw _ (List.mem_of_getElem? (i := 34) rfl))) (notFace_of_selects (args := #[]) (mvT hZ (hw _ (List.mem_of_getElem? (i := 36) rfl)))) (mvT hZ (hw _ (List.mem_of_getElem? (i := 36) rfl))) (mvT hZ (hw _ (List.mem_of_getElem? (i := 35) rfl))) (by decide) (backOf (W := 0) (rm1 l Z a0 hw [] ad5 ad0 ad1 h180 n0 Z9 (S0.ext O180.2) (S1.ext O180.2)) hZ (hw _ (List.mem_of_getElem? (i := 37) rfl)) (hw _ (List.mem_of_getElem? (i := 3) rfl)) (by decide) (by decide)) q192a q192c (g := (mkF m 124 #[.val (.int i0), .val (.ref ar), .val (.int (5 : Int32)), .val (.int (0 : Int32))] [(.ref ad5)])) rfl (by rw [hml]; rfl) (Steps.refl _) (argsL := []) (rest := []) (lenOf pd___Z rfl) rfl (by show 2 * 0 + _ ≤ _; exact Nat.le_of_eq rfl) (hb hby at_124) (fun _ _ => ⟨rfl, e180, (by decide : 0 + 1 + 0 ≤ _), (by decide : 0 + 14 + 0 ≤ _)⟩)
    dsimp only [Pt.U, Pt.locs, Pt.cells, Pt.slots] at X191 l191 y191 z191 st191 hQ191
    subst l191 y191 z191
    obtain ⟨rfl, N191, e191⟩ := hQ191
    have NN191 := Fr.app N180 N191
    refine Go.call st191 ?_
    show Go _ _ _ _ T191 (mkF m 127 #[.val (.int i0), .val (.ref ar), .val (.int (5 : Int32)), .val (.int (0 : Int32))] [(.int (plV ad5 ad0 ad1))])
    refine Go.by (fun _ k => XS.iloadN X191.here hx rfl (hb hby at_127) rfl k) ?_
    show Go _ _ _ _ T191 (mkF m 128 #[.val (.int i0), .val (.ref ar), .val (.int (5 : Int32)), .val (.int (0 : Int32))] [(.int (0 : Int32)), (.int (plV ad5 ad0 ad1))])
    refine Go.by (fun _ k => XS.icmpNo X191.here hx rfl (hb hby at_128) rfl (XT.ii_ne_f (by simp [plV, q5_0, q5_1])) k) ?_
    show Go _ _ _ _ T191 (mkF m 131 #[.val (.int i0), .val (.ref ar), .val (.int (5 : Int32)), .val (.int (0 : Int32))] [])
    refine Go.by (fun _ k => XT.iconstV X191.here hx rfl (1 : Int32) (hb hby at_131) (by decide) k) ?_
    show Go _ _ _ _ T191 (mkF m 132 #[.val (.int i0), .val (.ref ar), .val (.int (5 : Int32)), .val (.int (0 : Int32))] [(.int (1 : Int32))])
    refine Go.by (fun _ k => XS.goto X191.here hx rfl (pc0 := 132) (pc' := 136) rfl (hb hby at_132) (by decide) (by decide) k) ?_
    show Go _ _ _ _ T191 (mkF m 136 #[.val (.int i0), .val (.ref ar), .val (.int (5 : Int32)), .val (.int (0 : Int32))] [(.int (1 : Int32))])
    exact Go.retZ X191 hx Bd.notSynchronized (t := .boolean) Bd.returns (by simp) (hb hby at_136) ⟨rfl, NN191⟩ (by decide) (by decide)
  | ⟨6, _⟩ =>
    show Go _ _ _ _ T180 (mkF m 106 #[.val (.int i0), .val (.ref ar), .val (.int (6 : Int32)), .unset] [])
    refine Go.by (fun _ k => XS.iloadN X180.here hx rfl (hb hby at_106) rfl k) ?_
    show Go _ _ _ _ T180 (mkF m 107 #[.val (.int i0), .val (.ref ar), .val (.int (6 : Int32)), .unset] [(.int (6 : Int32))])
    refine Go.by (fun _ k => XS.ifNo X180.here hx rfl (hb hby at_107) rfl (XT.i0_eq_f (by decide)) k) ?_
    show Go _ _ _ _ T180 (mkF m 110 #[.val (.int i0), .val (.ref ar), .val (.int (6 : Int32)), .unset] [])
    refine Go.by (fun _ k => XS.iloadN X180.here hx rfl (hb hby at_110) rfl k) ?_
    show Go _ _ _ _ T180 (mkF m 111 #[.val (.int i0), .val (.ref ar), .val (.int (6 : Int32)), .unset] [(.int (6 : Int32))])
    refine Go.by (fun _ k => XT.iconstV X180.here hx rfl (1 : Int32) (hb hby at_111) (by decide) k) ?_
    show Go _ _ _ _ T180 (mkF m 112 #[.val (.int i0), .val (.ref ar), .val (.int (6 : Int32)), .unset] [(.int (1 : Int32)), (.int (6 : Int32))])
    refine Go.by (fun _ k => XS.icmpYes X180.here hx rfl (pc0 := 112) (pc' := 119) rfl (hb hby at_112) rfl (XT.ii_ne_t (by decide)) (by decide) (by decide) k) ?_
    show Go _ _ _ _ T180 (mkF m 119 #[.val (.int i0), .val (.ref ar), .val (.int (6 : Int32)), .unset] [])
    refine Go.by (fun _ k => XT.iconstV X180.here hx rfl (0 : Int32) (hb hby at_119) (by decide) k) ?_
    show Go _ _ _ _ T180 (mkF m 120 #[.val (.int i0), .val (.ref ar), .val (.int (6 : Int32)), .unset] [(.int (0 : Int32))])
    refine Go.by (fun _ k => XS.istoreN X180.here hx rfl (hb hby at_120) rfl (l' := #[.val (.int i0), .val (.ref ar), .val (.int (6 : Int32)), .val (.int (0 : Int32))]) rfl k) ?_
    show Go _ _ _ _ T180 (mkF m 121 #[.val (.int i0), .val (.ref ar), .val (.int (6 : Int32)), .val (.int (0 : Int32))] [])
    refine Go.by (fun _ k => XS.aloadN X180.here hx rfl (hb hby at_121) rfl rfl k) ?_
    show Go _ _ _ _ T180 (mkF m 122 #[.val (.int i0), .val (.ref ar), .val (.int (6 : Int32)), .val (.int (0 : Int32))] [(.ref ar)])
    refine Go.by (fun _ k => XS.iloadN X180.here hx rfl (hb hby at_122) rfl k) ?_
    show Go _ _ _ _ T180 (mkF m 123 #[.val (.int i0), .val (.ref ar), .val (.int (6 : Int32)), .val (.int (0 : Int32))] [(.int (6 : Int32)), (.ref ar)])
    refine Go.by (own_aaload X180 hx hZ e180 V180 rfl (j := (6 : Int32)) (by decide) (v := .ref ad6) rfl (g := (mkF m 123 #[.val (.int i0), .val (.ref ar), .val (.int (6 : Int32)), .val (.int (0 : Int32))] [(.int (6 : Int32)), (.ref ar)])) rfl rfl (hb hby at_123)) ?_
    show Go _ _ _ _ T180 (mkF m 124 #[.val (.int i0), .val (.ref ar), .val (.int (6 : Int32)), .val (.int (0 : Int32))] [(.ref ad6)])
    have Z9 : n0 ≤ h180.size := O180.1 ▸ O180.2.1
    obtain ⟨cq194, kq194, q194a, q194b, q194c⟩ := isOf hZ e180 (E6.ext O180.2)
    obtain ⟨_, _, ⟨T193, L193, k193, n193⟩, -, X193, ⟨Lc193, hQ193, l193, y193, z193⟩, st193⟩ := X180.virtualBack hx (y := (⟨"com/example/nonet/nonet/logic/Technique", "places", "()Z"⟩ : MethodName)) (z := (⟨"com/example/nonet/nonet/logic/Technique", "places", "()Z"⟩ : MethodName)) hown (mvT hZ (hw _ (List.mem_of_getElem? (i := 33) rfl))) (mvT hZ (hw _ (List.mem_of_getElem? (i := 34) rfl))) (notFace_of_selects (args := #[]) (mvT hZ (hw _ (List.mem_of_getElem? (i := 36) rfl)))) (mvT hZ (hw _ (List.mem_of_getElem? (i := 36) rfl))) (mvT hZ (hw _ (List.mem_of_getElem? (i := 35) rfl))) (by decide) (backOf (W := 0) (rm1 l Z a0 hw [] ad6 ad0 ad1 h180 n0 Z9 (S0.ext O180.2) (S1.ext O180.2)) hZ (hw _ (List.mem_of_getElem? (i := 37) rfl)) (hw _ (List.mem_of_getElem? (i := 3) rfl)) (by decide) (by decide)) q194a q194c (g := (mkF m 124 #[.val (.int i0), .val (.ref ar), .val (.int (6 : Int32)), .val (.int (0 : Int32))] [(.ref ad6)])) rfl (by rw [hml]; rfl) (Steps.refl _) (argsL := []) (rest := []) (lenOf pd___Z rfl) rfl (by show 2 * 0 + _ ≤ _; exact Nat.le_of_eq rfl) (hb hby at_124) (fun _ _ => ⟨rfl, e180, (by decide : 0 + 1 + 0 ≤ _), (by decide : 0 + 14 + 0 ≤ _)⟩)
    dsimp only [Pt.U, Pt.locs, Pt.cells, Pt.slots] at X193 l193 y193 z193 st193 hQ193
    subst l193 y193 z193
    obtain ⟨rfl, N193, e193⟩ := hQ193
    have NN193 := Fr.app N180 N193
    refine Go.call st193 ?_
    show Go _ _ _ _ T193 (mkF m 127 #[.val (.int i0), .val (.ref ar), .val (.int (6 : Int32)), .val (.int (0 : Int32))] [(.int (plV ad6 ad0 ad1))])
    refine Go.by (fun _ k => XS.iloadN X193.here hx rfl (hb hby at_127) rfl k) ?_
    show Go _ _ _ _ T193 (mkF m 128 #[.val (.int i0), .val (.ref ar), .val (.int (6 : Int32)), .val (.int (0 : Int32))] [(.int (0 : Int32)), (.int (plV ad6 ad0 ad1))])
    refine Go.by (fun _ k => XS.icmpNo X193.here hx rfl (hb hby at_128) rfl (XT.ii_ne_f (by simp [plV, q6_0, q6_1])) k) ?_
    show Go _ _ _ _ T193 (mkF m 131 #[.val (.int i0), .val (.ref ar), .val (.int (6 : Int32)), .val (.int (0 : Int32))] [])
    refine Go.by (fun _ k => XT.iconstV X193.here hx rfl (1 : Int32) (hb hby at_131) (by decide) k) ?_
    show Go _ _ _ _ T193 (mkF m 132 #[.val (.int i0), .val (.ref ar), .val (.int (6 : Int32)), .val (.int (0 : Int32))] [(.int (1 : Int32))])
    refine Go.by (fun _ k => XS.goto X193.here hx rfl (pc0 := 132) (pc' := 136) rfl (hb hby at_132) (by decide) (by decide) k) ?_
    show Go _ _ _ _ T193 (mkF m 136 #[.val (.int i0), .val (.ref ar), .val (.int (6 : Int32)), .val (.int (0 : Int32))] [(.int (1 : Int32))])
    exact Go.retZ X193 hx Bd.notSynchronized (t := .boolean) Bd.returns (by simp) (hb hby at_136) ⟨rfl, NN193⟩ (by decide) (by decide)
  | ⟨7, _⟩ =>
    show Go _ _ _ _ T180 (mkF m 106 #[.val (.int i0), .val (.ref ar), .val (.int (7 : Int32)), .unset] [])
    refine Go.by (fun _ k => XS.iloadN X180.here hx rfl (hb hby at_106) rfl k) ?_
    show Go _ _ _ _ T180 (mkF m 107 #[.val (.int i0), .val (.ref ar), .val (.int (7 : Int32)), .unset] [(.int (7 : Int32))])
    refine Go.by (fun _ k => XS.ifNo X180.here hx rfl (hb hby at_107) rfl (XT.i0_eq_f (by decide)) k) ?_
    show Go _ _ _ _ T180 (mkF m 110 #[.val (.int i0), .val (.ref ar), .val (.int (7 : Int32)), .unset] [])
    refine Go.by (fun _ k => XS.iloadN X180.here hx rfl (hb hby at_110) rfl k) ?_
    show Go _ _ _ _ T180 (mkF m 111 #[.val (.int i0), .val (.ref ar), .val (.int (7 : Int32)), .unset] [(.int (7 : Int32))])
    refine Go.by (fun _ k => XT.iconstV X180.here hx rfl (1 : Int32) (hb hby at_111) (by decide) k) ?_
    show Go _ _ _ _ T180 (mkF m 112 #[.val (.int i0), .val (.ref ar), .val (.int (7 : Int32)), .unset] [(.int (1 : Int32)), (.int (7 : Int32))])
    refine Go.by (fun _ k => XS.icmpYes X180.here hx rfl (pc0 := 112) (pc' := 119) rfl (hb hby at_112) rfl (XT.ii_ne_t (by decide)) (by decide) (by decide) k) ?_
    show Go _ _ _ _ T180 (mkF m 119 #[.val (.int i0), .val (.ref ar), .val (.int (7 : Int32)), .unset] [])
    refine Go.by (fun _ k => XT.iconstV X180.here hx rfl (0 : Int32) (hb hby at_119) (by decide) k) ?_
    show Go _ _ _ _ T180 (mkF m 120 #[.val (.int i0), .val (.ref ar), .val (.int (7 : Int32)), .unset] [(.int (0 : Int32))])
    refine Go.by (fun _ k => XS.istoreN X180.here hx rfl (hb hby at_120) rfl (l' := #[.val (.int i0), .val (.ref ar), .val (.int (7 : Int32)), .val (.int (0 : Int32))]) rfl k) ?_
    show Go _ _ _ _ T180 (mkF m 121 #[.val (.int i0), .val (.ref ar), .val (.int (7 : Int32)), .val (.int (0 : Int32))] [])
    refine Go.by (fun _ k => XS.aloadN X180.here hx rfl (hb hby at_121) rfl rfl k) ?_
    show Go _ _ _ _ T180 (mkF m 122 #[.val (.int i0), .val (.ref ar), .val (.int (7 : Int32)), .val (.int (0 : Int32))] [(.ref ar)])
    refine Go.by (fun _ k => XS.iloadN X180.here hx rfl (hb hby at_122) rfl k) ?_
    show Go _ _ _ _ T180 (mkF m 123 #[.val (.int i0), .val (.ref ar), .val (.int (7 : Int32)), .val (.int (0 : Int32))] [(.int (7 : Int32)), (.ref ar)])
    refine Go.by (own_aaload X180 hx hZ e180 V180 rfl (j := (7 : Int32)) (by decide) (v := .ref ad7) rfl (g := (mkF m 123 #[.val (.int i0), .val (.ref ar), .val (.int (7 : Int32)), .val (.int (0 : Int32))] [(.int (7 : Int32)), (.ref ar)])) rfl rfl (hb hby at_123)) ?_
    show Go _ _ _ _ T180 (mkF m 124 #[.val (.int i0), .val (.ref ar), .val (.int (7 : Int32)), .val (.int (0 : Int32))] [(.ref ad7)])
    have Z9 : n0 ≤ h180.size := O180.1 ▸ O180.2.1
    obtain ⟨cq196, kq196, q196a, q196b, q196c⟩ := isOf hZ e180 (E7.ext O180.2)
    obtain ⟨_, _, ⟨T195, L195, k195, n195⟩, -, X195, ⟨Lc195, hQ195, l195, y195, z195⟩, st195⟩ := X180.virtualBack hx (y := (⟨"com/example/nonet/nonet/logic/Technique", "places", "()Z"⟩ : MethodName)) (z := (⟨"com/example/nonet/nonet/logic/Technique", "places", "()Z"⟩ : MethodName)) hown (mvT hZ (hw _ (List.mem_of_getElem? (i := 33) rfl))) (mvT hZ (hw _ (List.mem_of_getElem? (i := 34) rfl))) (notFace_of_selects (args := #[]) (mvT hZ (hw _ (List.mem_of_getElem? (i := 36) rfl)))) (mvT hZ (hw _ (List.mem_of_getElem? (i := 36) rfl))) (mvT hZ (hw _ (List.mem_of_getElem? (i := 35) rfl))) (by decide) (backOf (W := 0) (rm1 l Z a0 hw [] ad7 ad0 ad1 h180 n0 Z9 (S0.ext O180.2) (S1.ext O180.2)) hZ (hw _ (List.mem_of_getElem? (i := 37) rfl)) (hw _ (List.mem_of_getElem? (i := 3) rfl)) (by decide) (by decide)) q196a q196c (g := (mkF m 124 #[.val (.int i0), .val (.ref ar), .val (.int (7 : Int32)), .val (.int (0 : Int32))] [(.ref ad7)])) rfl (by rw [hml]; rfl) (Steps.refl _) (argsL := []) (rest := []) (lenOf pd___Z rfl) rfl (by show 2 * 0 + _ ≤ _; exact Nat.le_of_eq rfl) (hb hby at_124) (fun _ _ => ⟨rfl, e180, (by decide : 0 + 1 + 0 ≤ _), (by decide : 0 + 14 + 0 ≤ _)⟩)
    dsimp only [Pt.U, Pt.locs, Pt.cells, Pt.slots] at X195 l195 y195 z195 st195 hQ195
    subst l195 y195 z195
    obtain ⟨rfl, N195, e195⟩ := hQ195
    have NN195 := Fr.app N180 N195
    refine Go.call st195 ?_
    show Go _ _ _ _ T195 (mkF m 127 #[.val (.int i0), .val (.ref ar), .val (.int (7 : Int32)), .val (.int (0 : Int32))] [(.int (plV ad7 ad0 ad1))])
    refine Go.by (fun _ k => XS.iloadN X195.here hx rfl (hb hby at_127) rfl k) ?_
    show Go _ _ _ _ T195 (mkF m 128 #[.val (.int i0), .val (.ref ar), .val (.int (7 : Int32)), .val (.int (0 : Int32))] [(.int (0 : Int32)), (.int (plV ad7 ad0 ad1))])
    refine Go.by (fun _ k => XS.icmpNo X195.here hx rfl (hb hby at_128) rfl (XT.ii_ne_f (by simp [plV, q7_0, q7_1])) k) ?_
    show Go _ _ _ _ T195 (mkF m 131 #[.val (.int i0), .val (.ref ar), .val (.int (7 : Int32)), .val (.int (0 : Int32))] [])
    refine Go.by (fun _ k => XT.iconstV X195.here hx rfl (1 : Int32) (hb hby at_131) (by decide) k) ?_
    show Go _ _ _ _ T195 (mkF m 132 #[.val (.int i0), .val (.ref ar), .val (.int (7 : Int32)), .val (.int (0 : Int32))] [(.int (1 : Int32))])
    refine Go.by (fun _ k => XS.goto X195.here hx rfl (pc0 := 132) (pc' := 136) rfl (hb hby at_132) (by decide) (by decide) k) ?_
    show Go _ _ _ _ T195 (mkF m 136 #[.val (.int i0), .val (.ref ar), .val (.int (7 : Int32)), .val (.int (0 : Int32))] [(.int (1 : Int32))])
    exact Go.retZ X195 hx Bd.notSynchronized (t := .boolean) Bd.returns (by simp) (hb hby at_136) ⟨rfl, NN195⟩ (by decide) (by decide)
  | ⟨8, _⟩ =>
    show Go _ _ _ _ T180 (mkF m 106 #[.val (.int i0), .val (.ref ar), .val (.int (8 : Int32)), .unset] [])
    refine Go.by (fun _ k => XS.iloadN X180.here hx rfl (hb hby at_106) rfl k) ?_
    show Go _ _ _ _ T180 (mkF m 107 #[.val (.int i0), .val (.ref ar), .val (.int (8 : Int32)), .unset] [(.int (8 : Int32))])
    refine Go.by (fun _ k => XS.ifNo X180.here hx rfl (hb hby at_107) rfl (XT.i0_eq_f (by decide)) k) ?_
    show Go _ _ _ _ T180 (mkF m 110 #[.val (.int i0), .val (.ref ar), .val (.int (8 : Int32)), .unset] [])
    refine Go.by (fun _ k => XS.iloadN X180.here hx rfl (hb hby at_110) rfl k) ?_
    show Go _ _ _ _ T180 (mkF m 111 #[.val (.int i0), .val (.ref ar), .val (.int (8 : Int32)), .unset] [(.int (8 : Int32))])
    refine Go.by (fun _ k => XT.iconstV X180.here hx rfl (1 : Int32) (hb hby at_111) (by decide) k) ?_
    show Go _ _ _ _ T180 (mkF m 112 #[.val (.int i0), .val (.ref ar), .val (.int (8 : Int32)), .unset] [(.int (1 : Int32)), (.int (8 : Int32))])
    refine Go.by (fun _ k => XS.icmpYes X180.here hx rfl (pc0 := 112) (pc' := 119) rfl (hb hby at_112) rfl (XT.ii_ne_t (by decide)) (by decide) (by decide) k) ?_
    show Go _ _ _ _ T180 (mkF m 119 #[.val (.int i0), .val (.ref ar), .val (.int (8 : Int32)), .unset] [])
    refine Go.by (fun _ k => XT.iconstV X180.here hx rfl (0 : Int32) (hb hby at_119) (by decide) k) ?_
    show Go _ _ _ _ T180 (mkF m 120 #[.val (.int i0), .val (.ref ar), .val (.int (8 : Int32)), .unset] [(.int (0 : Int32))])
    refine Go.by (fun _ k => XS.istoreN X180.here hx rfl (hb hby at_120) rfl (l' := #[.val (.int i0), .val (.ref ar), .val (.int (8 : Int32)), .val (.int (0 : Int32))]) rfl k) ?_
    show Go _ _ _ _ T180 (mkF m 121 #[.val (.int i0), .val (.ref ar), .val (.int (8 : Int32)), .val (.int (0 : Int32))] [])
    refine Go.by (fun _ k => XS.aloadN X180.here hx rfl (hb hby at_121) rfl rfl k) ?_
    show Go _ _ _ _ T180 (mkF m 122 #[.val (.int i0), .val (.ref ar), .val (.int (8 : Int32)), .val (.int (0 : Int32))] [(.ref ar)])
    refine Go.by (fun _ k => XS.iloadN X180.here hx rfl (hb hby at_122) rfl k) ?_
    show Go _ _ _ _ T180 (mkF m 123 #[.val (.int i0), .val (.ref ar), .val (.int (8 : Int32)), .val (.int (0 : Int32))] [(.int (8 : Int32)), (.ref ar)])
    refine Go.by (own_aaload X180 hx hZ e180 V180 rfl (j := (8 : Int32)) (by decide) (v := .ref ad8) rfl (g := (mkF m 123 #[.val (.int i0), .val (.ref ar), .val (.int (8 : Int32)), .val (.int (0 : Int32))] [(.int (8 : Int32)), (.ref ar)])) rfl rfl (hb hby at_123)) ?_
    show Go _ _ _ _ T180 (mkF m 124 #[.val (.int i0), .val (.ref ar), .val (.int (8 : Int32)), .val (.int (0 : Int32))] [(.ref ad8)])
    have Z9 : n0 ≤ h180.size := O180.1 ▸ O180.2.1
    obtain ⟨cq198, kq198, q198a, q198b, q198c⟩ := isOf hZ e180 (E8.ext O180.2)
    obtain ⟨_, _, ⟨T197, L197, k197, n197⟩, -, X197, ⟨Lc197, hQ197, l197, y197, z197⟩, st197⟩ := X180.virtualBack hx (y := (⟨"com/example/nonet/nonet/logic/Technique", "places", "()Z"⟩ : MethodName)) (z := (⟨"com/example/nonet/nonet/logic/Technique", "places", "()Z"⟩ : MethodName)) hown (mvT hZ (hw _ (List.mem_of_getElem? (i := 33) rfl))) (mvT hZ (hw _ (List.mem_of_getElem? (i := 34) rfl))) (notFace_of_selects (args := #[]) (mvT hZ (hw _ (List.mem_of_getElem? (i := 36) rfl)))) (mvT hZ (hw _ (List.mem_of_getElem? (i := 36) rfl))) (mvT hZ (hw _ (List.mem_of_getElem? (i := 35) rfl))) (by decide) (backOf (W := 0) (rm1 l Z a0 hw [] ad8 ad0 ad1 h180 n0 Z9 (S0.ext O180.2) (S1.ext O180.2)) hZ (hw _ (List.mem_of_getElem? (i := 37) rfl)) (hw _ (List.mem_of_getElem? (i := 3) rfl)) (by decide) (by decide)) q198a q198c (g := (mkF m 124 #[.val (.int i0), .val (.ref ar), .val (.int (8 : Int32)), .val (.int (0 : Int32))] [(.ref ad8)])) rfl (by rw [hml]; rfl) (Steps.refl _) (argsL := []) (rest := []) (lenOf pd___Z rfl) rfl (by show 2 * 0 + _ ≤ _; exact Nat.le_of_eq rfl) (hb hby at_124) (fun _ _ => ⟨rfl, e180, (by decide : 0 + 1 + 0 ≤ _), (by decide : 0 + 14 + 0 ≤ _)⟩)
    dsimp only [Pt.U, Pt.locs, Pt.cells, Pt.slots] at X197 l197 y197 z197 st197 hQ197
    subst l197 y197 z197
    obtain ⟨rfl, N197, e197⟩ := hQ197
    have NN197 := Fr.app N180 N197
    refine Go.call st197 ?_
    show Go _ _ _ _ T197 (mkF m 127 #[.val (.int i0), .val (.ref ar), .val (.int (8 : Int32)), .val (.int (0 : Int32))] [(.int (plV ad8 ad0 ad1))])
    refine Go.by (fun _ k => XS.iloadN X197.here hx rfl (hb hby at_127) rfl k) ?_
    show Go _ _ _ _ T197 (mkF m 128 #[.val (.int i0), .val (.ref ar), .val (.int (8 : Int32)), .val (.int (0 : Int32))] [(.int (0 : Int32)), (.int (plV ad8 ad0 ad1))])
    refine Go.by (fun _ k => XS.icmpNo X197.here hx rfl (hb hby at_128) rfl (XT.ii_ne_f (by simp [plV, q8_0, q8_1])) k) ?_
    show Go _ _ _ _ T197 (mkF m 131 #[.val (.int i0), .val (.ref ar), .val (.int (8 : Int32)), .val (.int (0 : Int32))] [])
    refine Go.by (fun _ k => XT.iconstV X197.here hx rfl (1 : Int32) (hb hby at_131) (by decide) k) ?_
    show Go _ _ _ _ T197 (mkF m 132 #[.val (.int i0), .val (.ref ar), .val (.int (8 : Int32)), .val (.int (0 : Int32))] [(.int (1 : Int32))])
    refine Go.by (fun _ k => XS.goto X197.here hx rfl (pc0 := 132) (pc' := 136) rfl (hb hby at_132) (by decide) (by decide) k) ?_
    show Go _ _ _ _ T197 (mkF m 136 #[.val (.int i0), .val (.ref ar), .val (.int (8 : Int32)), .val (.int (0 : Int32))] [(.int (1 : Int32))])
    exact Go.retZ X197 hx Bd.notSynchronized (t := .boolean) Bd.returns (by simp) (hb hby at_136) ⟨rfl, NN197⟩ (by decide) (by decide)
  | ⟨9, _⟩ =>
    show Go _ _ _ _ T180 (mkF m 106 #[.val (.int i0), .val (.ref ar), .val (.int (9 : Int32)), .unset] [])
    refine Go.by (fun _ k => XS.iloadN X180.here hx rfl (hb hby at_106) rfl k) ?_
    show Go _ _ _ _ T180 (mkF m 107 #[.val (.int i0), .val (.ref ar), .val (.int (9 : Int32)), .unset] [(.int (9 : Int32))])
    refine Go.by (fun _ k => XS.ifNo X180.here hx rfl (hb hby at_107) rfl (XT.i0_eq_f (by decide)) k) ?_
    show Go _ _ _ _ T180 (mkF m 110 #[.val (.int i0), .val (.ref ar), .val (.int (9 : Int32)), .unset] [])
    refine Go.by (fun _ k => XS.iloadN X180.here hx rfl (hb hby at_110) rfl k) ?_
    show Go _ _ _ _ T180 (mkF m 111 #[.val (.int i0), .val (.ref ar), .val (.int (9 : Int32)), .unset] [(.int (9 : Int32))])
    refine Go.by (fun _ k => XT.iconstV X180.here hx rfl (1 : Int32) (hb hby at_111) (by decide) k) ?_
    show Go _ _ _ _ T180 (mkF m 112 #[.val (.int i0), .val (.ref ar), .val (.int (9 : Int32)), .unset] [(.int (1 : Int32)), (.int (9 : Int32))])
    refine Go.by (fun _ k => XS.icmpYes X180.here hx rfl (pc0 := 112) (pc' := 119) rfl (hb hby at_112) rfl (XT.ii_ne_t (by decide)) (by decide) (by decide) k) ?_
    show Go _ _ _ _ T180 (mkF m 119 #[.val (.int i0), .val (.ref ar), .val (.int (9 : Int32)), .unset] [])
    refine Go.by (fun _ k => XT.iconstV X180.here hx rfl (0 : Int32) (hb hby at_119) (by decide) k) ?_
    show Go _ _ _ _ T180 (mkF m 120 #[.val (.int i0), .val (.ref ar), .val (.int (9 : Int32)), .unset] [(.int (0 : Int32))])
    refine Go.by (fun _ k => XS.istoreN X180.here hx rfl (hb hby at_120) rfl (l' := #[.val (.int i0), .val (.ref ar), .val (.int (9 : Int32)), .val (.int (0 : Int32))]) rfl k) ?_
    show Go _ _ _ _ T180 (mkF m 121 #[.val (.int i0), .val (.ref ar), .val (.int (9 : Int32)), .val (.int (0 : Int32))] [])
    refine Go.by (fun _ k => XS.aloadN X180.here hx rfl (hb hby at_121) rfl rfl k) ?_
    show Go _ _ _ _ T180 (mkF m 122 #[.val (.int i0), .val (.ref ar), .val (.int (9 : Int32)), .val (.int (0 : Int32))] [(.ref ar)])
    refine Go.by (fun _ k => XS.iloadN X180.here hx rfl (hb hby at_122) rfl k) ?_
    show Go _ _ _ _ T180 (mkF m 123 #[.val (.int i0), .val (.ref ar), .val (.int (9 : Int32)), .val (.int (0 : Int32))] [(.int (9 : Int32)), (.ref ar)])
    refine Go.by (own_aaload X180 hx hZ e180 V180 rfl (j := (9 : Int32)) (by decide) (v := .ref ad9) rfl (g := (mkF m 123 #[.val (.int i0), .val (.ref ar), .val (.int (9 : Int32)), .val (.int (0 : Int32))] [(.int (9 : Int32)), (.ref ar)])) rfl rfl (hb hby at_123)) ?_
    show Go _ _ _ _ T180 (mkF m 124 #[.val (.int i0), .val (.ref ar), .val (.int (9 : Int32)), .val (.int (0 : Int32))] [(.ref ad9)])
    have Z9 : n0 ≤ h180.size := O180.1 ▸ O180.2.1
    obtain ⟨cq200, kq200, q200a, q200b, q200c⟩ := isOf hZ e180 (E9.ext O180.2)
    obtain ⟨_, _, ⟨T199, L199, k199, n199⟩, -, X199, ⟨Lc199, hQ199, l199, y199, z199⟩, st199⟩ := X180.virtualBack hx (y := (⟨"com/example/nonet/nonet/logic/Technique", "places", "()Z"⟩ : MethodName)) (z := (⟨"com/example/nonet/nonet/logic/Technique", "places", "()Z"⟩ : MethodName)) hown (mvT hZ (hw _ (List.mem_of_getElem? (i := 33) rfl))) (mvT hZ (hw _ (List.mem_of_getElem? (i := 34) rfl))) (notFace_of_selects (args := #[]) (mvT hZ (hw _ (List.mem_of_getElem? (i := 36) rfl)))) (mvT hZ (hw _ (List.mem_of_getElem? (i := 36) rfl))) (mvT hZ (hw _ (List.mem_of_getElem? (i := 35) rfl))) (by decide) (backOf (W := 0) (rm1 l Z a0 hw [] ad9 ad0 ad1 h180 n0 Z9 (S0.ext O180.2) (S1.ext O180.2)) hZ (hw _ (List.mem_of_getElem? (i := 37) rfl)) (hw _ (List.mem_of_getElem? (i := 3) rfl)) (by decide) (by decide)) q200a q200c (g := (mkF m 124 #[.val (.int i0), .val (.ref ar), .val (.int (9 : Int32)), .val (.int (0 : Int32))] [(.ref ad9)])) rfl (by rw [hml]; rfl) (Steps.refl _) (argsL := []) (rest := []) (lenOf pd___Z rfl) rfl (by show 2 * 0 + _ ≤ _; exact Nat.le_of_eq rfl) (hb hby at_124) (fun _ _ => ⟨rfl, e180, (by decide : 0 + 1 + 0 ≤ _), (by decide : 0 + 14 + 0 ≤ _)⟩)
    dsimp only [Pt.U, Pt.locs, Pt.cells, Pt.slots] at X199 l199 y199 z199 st199 hQ199
    subst l199 y199 z199
    obtain ⟨rfl, N199, e199⟩ := hQ199
    have NN199 := Fr.app N180 N199
    refine Go.call st199 ?_
    show Go _ _ _ _ T199 (mkF m 127 #[.val (.int i0), .val (.ref ar), .val (.int (9 : Int32)), .val (.int (0 : Int32))] [(.int (plV ad9 ad0 ad1))])
    refine Go.by (fun _ k => XS.iloadN X199.here hx rfl (hb hby at_127) rfl k) ?_
    show Go _ _ _ _ T199 (mkF m 128 #[.val (.int i0), .val (.ref ar), .val (.int (9 : Int32)), .val (.int (0 : Int32))] [(.int (0 : Int32)), (.int (plV ad9 ad0 ad1))])
    refine Go.by (fun _ k => XS.icmpNo X199.here hx rfl (hb hby at_128) rfl (XT.ii_ne_f (by simp [plV, q9_0, q9_1])) k) ?_
    show Go _ _ _ _ T199 (mkF m 131 #[.val (.int i0), .val (.ref ar), .val (.int (9 : Int32)), .val (.int (0 : Int32))] [])
    refine Go.by (fun _ k => XT.iconstV X199.here hx rfl (1 : Int32) (hb hby at_131) (by decide) k) ?_
    show Go _ _ _ _ T199 (mkF m 132 #[.val (.int i0), .val (.ref ar), .val (.int (9 : Int32)), .val (.int (0 : Int32))] [(.int (1 : Int32))])
    refine Go.by (fun _ k => XS.goto X199.here hx rfl (pc0 := 132) (pc' := 136) rfl (hb hby at_132) (by decide) (by decide) k) ?_
    show Go _ _ _ _ T199 (mkF m 136 #[.val (.int i0), .val (.ref ar), .val (.int (9 : Int32)), .val (.int (0 : Int32))] [(.int (1 : Int32))])
    exact Go.retZ X199 hx Bd.notSynchronized (t := .boolean) Bd.returns (by simp) (hb hby at_136) ⟨rfl, NN199⟩ (by decide) (by decide)
  | ⟨10, _⟩ =>
    show Go _ _ _ _ T180 (mkF m 106 #[.val (.int i0), .val (.ref ar), .val (.int (10 : Int32)), .unset] [])
    refine Go.by (fun _ k => XS.iloadN X180.here hx rfl (hb hby at_106) rfl k) ?_
    show Go _ _ _ _ T180 (mkF m 107 #[.val (.int i0), .val (.ref ar), .val (.int (10 : Int32)), .unset] [(.int (10 : Int32))])
    refine Go.by (fun _ k => XS.ifNo X180.here hx rfl (hb hby at_107) rfl (XT.i0_eq_f (by decide)) k) ?_
    show Go _ _ _ _ T180 (mkF m 110 #[.val (.int i0), .val (.ref ar), .val (.int (10 : Int32)), .unset] [])
    refine Go.by (fun _ k => XS.iloadN X180.here hx rfl (hb hby at_110) rfl k) ?_
    show Go _ _ _ _ T180 (mkF m 111 #[.val (.int i0), .val (.ref ar), .val (.int (10 : Int32)), .unset] [(.int (10 : Int32))])
    refine Go.by (fun _ k => XT.iconstV X180.here hx rfl (1 : Int32) (hb hby at_111) (by decide) k) ?_
    show Go _ _ _ _ T180 (mkF m 112 #[.val (.int i0), .val (.ref ar), .val (.int (10 : Int32)), .unset] [(.int (1 : Int32)), (.int (10 : Int32))])
    refine Go.by (fun _ k => XS.icmpYes X180.here hx rfl (pc0 := 112) (pc' := 119) rfl (hb hby at_112) rfl (XT.ii_ne_t (by decide)) (by decide) (by decide) k) ?_
    show Go _ _ _ _ T180 (mkF m 119 #[.val (.int i0), .val (.ref ar), .val (.int (10 : Int32)), .unset] [])
    refine Go.by (fun _ k => XT.iconstV X180.here hx rfl (0 : Int32) (hb hby at_119) (by decide) k) ?_
    show Go _ _ _ _ T180 (mkF m 120 #[.val (.int i0), .val (.ref ar), .val (.int (10 : Int32)), .unset] [(.int (0 : Int32))])
    refine Go.by (fun _ k => XS.istoreN X180.here hx rfl (hb hby at_120) rfl (l' := #[.val (.int i0), .val (.ref ar), .val (.int (10 : Int32)), .val (.int (0 : Int32))]) rfl k) ?_
    show Go _ _ _ _ T180 (mkF m 121 #[.val (.int i0), .val (.ref ar), .val (.int (10 : Int32)), .val (.int (0 : Int32))] [])
    refine Go.by (fun _ k => XS.aloadN X180.here hx rfl (hb hby at_121) rfl rfl k) ?_
    show Go _ _ _ _ T180 (mkF m 122 #[.val (.int i0), .val (.ref ar), .val (.int (10 : Int32)), .val (.int (0 : Int32))] [(.ref ar)])
    refine Go.by (fun _ k => XS.iloadN X180.here hx rfl (hb hby at_122) rfl k) ?_
    show Go _ _ _ _ T180 (mkF m 123 #[.val (.int i0), .val (.ref ar), .val (.int (10 : Int32)), .val (.int (0 : Int32))] [(.int (10 : Int32)), (.ref ar)])
    refine Go.by (own_aaload X180 hx hZ e180 V180 rfl (j := (10 : Int32)) (by decide) (v := .ref ad10) rfl (g := (mkF m 123 #[.val (.int i0), .val (.ref ar), .val (.int (10 : Int32)), .val (.int (0 : Int32))] [(.int (10 : Int32)), (.ref ar)])) rfl rfl (hb hby at_123)) ?_
    show Go _ _ _ _ T180 (mkF m 124 #[.val (.int i0), .val (.ref ar), .val (.int (10 : Int32)), .val (.int (0 : Int32))] [(.ref ad10)])
    have Z9 : n0 ≤ h180.size := O180.1 ▸ O180.2.1
    obtain ⟨cq202, kq202, q202a, q202b, q202c⟩ := isOf hZ e180 (E10.ext O180.2)
    obtain ⟨_, _, ⟨T201, L201, k201, n201⟩, -, X201, ⟨Lc201, hQ201, l201, y201, z201⟩, st201⟩ := X180.virtualBack hx (y := (⟨"com/example/nonet/nonet/logic/Technique", "places", "()Z"⟩ : MethodName)) (z := (⟨"com/example/nonet/nonet/logic/Technique", "places", "()Z"⟩ : MethodName)) hown (mvT hZ (hw _ (List.mem_of_getElem? (i := 33) rfl))) (mvT hZ (hw _ (List.mem_of_getElem? (i := 34) rfl))) (notFace_of_selects (args := #[]) (mvT hZ (hw _ (List.mem_of_getElem? (i := 36) rfl)))) (mvT hZ (hw _ (List.mem_of_getElem? (i := 36) rfl))) (mvT hZ (hw _ (List.mem_of_getElem? (i := 35) rfl))) (by decide) (backOf (W := 0) (rm1 l Z a0 hw [] ad10 ad0 ad1 h180 n0 Z9 (S0.ext O180.2) (S1.ext O180.2)) hZ (hw _ (List.mem_of_getElem? (i := 37) rfl)) (hw _ (List.mem_of_getElem? (i := 3) rfl)) (by decide) (by decide)) q202a q202c (g := (mkF m 124 #[.val (.int i0), .val (.ref ar), .val (.int (10 : Int32)), .val (.int (0 : Int32))] [(.ref ad10)])) rfl (by rw [hml]; rfl) (Steps.refl _) (argsL := []) (rest := []) (lenOf pd___Z rfl) rfl (by show 2 * 0 + _ ≤ _; exact Nat.le_of_eq rfl) (hb hby at_124) (fun _ _ => ⟨rfl, e180, (by decide : 0 + 1 + 0 ≤ _), (by decide : 0 + 14 + 0 ≤ _)⟩)
    dsimp only [Pt.U, Pt.locs, Pt.cells, Pt.slots] at X201 l201 y201 z201 st201 hQ201
    subst l201 y201 z201
    obtain ⟨rfl, N201, e201⟩ := hQ201
    have NN201 := Fr.app N180 N201
    refine Go.call st201 ?_
    show Go _ _ _ _ T201 (mkF m 127 #[.val (.int i0), .val (.ref ar), .val (.int (10 : Int32)), .val (.int (0 : Int32))] [(.int (plV ad10 ad0 ad1))])
    refine Go.by (fun _ k => XS.iloadN X201.here hx rfl (hb hby at_127) rfl k) ?_
    show Go _ _ _ _ T201 (mkF m 128 #[.val (.int i0), .val (.ref ar), .val (.int (10 : Int32)), .val (.int (0 : Int32))] [(.int (0 : Int32)), (.int (plV ad10 ad0 ad1))])
    refine Go.by (fun _ k => XS.icmpNo X201.here hx rfl (hb hby at_128) rfl (XT.ii_ne_f (by simp [plV, q10_0, q10_1])) k) ?_
    show Go _ _ _ _ T201 (mkF m 131 #[.val (.int i0), .val (.ref ar), .val (.int (10 : Int32)), .val (.int (0 : Int32))] [])
    refine Go.by (fun _ k => XT.iconstV X201.here hx rfl (1 : Int32) (hb hby at_131) (by decide) k) ?_
    show Go _ _ _ _ T201 (mkF m 132 #[.val (.int i0), .val (.ref ar), .val (.int (10 : Int32)), .val (.int (0 : Int32))] [(.int (1 : Int32))])
    refine Go.by (fun _ k => XS.goto X201.here hx rfl (pc0 := 132) (pc' := 136) rfl (hb hby at_132) (by decide) (by decide) k) ?_
    show Go _ _ _ _ T201 (mkF m 136 #[.val (.int i0), .val (.ref ar), .val (.int (10 : Int32)), .val (.int (0 : Int32))] [(.int (1 : Int32))])
    exact Go.retZ X201 hx Bd.notSynchronized (t := .boolean) Bd.returns (by simp) (hb hby at_136) ⟨rfl, NN201⟩ (by decide) (by decide)
  | ⟨11, _⟩ =>
    show Go _ _ _ _ T180 (mkF m 106 #[.val (.int i0), .val (.ref ar), .val (.int (11 : Int32)), .unset] [])
    refine Go.by (fun _ k => XS.iloadN X180.here hx rfl (hb hby at_106) rfl k) ?_
    show Go _ _ _ _ T180 (mkF m 107 #[.val (.int i0), .val (.ref ar), .val (.int (11 : Int32)), .unset] [(.int (11 : Int32))])
    refine Go.by (fun _ k => XS.ifNo X180.here hx rfl (hb hby at_107) rfl (XT.i0_eq_f (by decide)) k) ?_
    show Go _ _ _ _ T180 (mkF m 110 #[.val (.int i0), .val (.ref ar), .val (.int (11 : Int32)), .unset] [])
    refine Go.by (fun _ k => XS.iloadN X180.here hx rfl (hb hby at_110) rfl k) ?_
    show Go _ _ _ _ T180 (mkF m 111 #[.val (.int i0), .val (.ref ar), .val (.int (11 : Int32)), .unset] [(.int (11 : Int32))])
    refine Go.by (fun _ k => XT.iconstV X180.here hx rfl (1 : Int32) (hb hby at_111) (by decide) k) ?_
    show Go _ _ _ _ T180 (mkF m 112 #[.val (.int i0), .val (.ref ar), .val (.int (11 : Int32)), .unset] [(.int (1 : Int32)), (.int (11 : Int32))])
    refine Go.by (fun _ k => XS.icmpYes X180.here hx rfl (pc0 := 112) (pc' := 119) rfl (hb hby at_112) rfl (XT.ii_ne_t (by decide)) (by decide) (by decide) k) ?_
    show Go _ _ _ _ T180 (mkF m 119 #[.val (.int i0), .val (.ref ar), .val (.int (11 : Int32)), .unset] [])
    refine Go.by (fun _ k => XT.iconstV X180.here hx rfl (0 : Int32) (hb hby at_119) (by decide) k) ?_
    show Go _ _ _ _ T180 (mkF m 120 #[.val (.int i0), .val (.ref ar), .val (.int (11 : Int32)), .unset] [(.int (0 : Int32))])
    refine Go.by (fun _ k => XS.istoreN X180.here hx rfl (hb hby at_120) rfl (l' := #[.val (.int i0), .val (.ref ar), .val (.int (11 : Int32)), .val (.int (0 : Int32))]) rfl k) ?_
    show Go _ _ _ _ T180 (mkF m 121 #[.val (.int i0), .val (.ref ar), .val (.int (11 : Int32)), .val (.int (0 : Int32))] [])
    refine Go.by (fun _ k => XS.aloadN X180.here hx rfl (hb hby at_121) rfl rfl k) ?_
    show Go _ _ _ _ T180 (mkF m 122 #[.val (.int i0), .val (.ref ar), .val (.int (11 : Int32)), .val (.int (0 : Int32))] [(.ref ar)])
    refine Go.by (fun _ k => XS.iloadN X180.here hx rfl (hb hby at_122) rfl k) ?_
    show Go _ _ _ _ T180 (mkF m 123 #[.val (.int i0), .val (.ref ar), .val (.int (11 : Int32)), .val (.int (0 : Int32))] [(.int (11 : Int32)), (.ref ar)])
    refine Go.by (own_aaload X180 hx hZ e180 V180 rfl (j := (11 : Int32)) (by decide) (v := .ref ad11) rfl (g := (mkF m 123 #[.val (.int i0), .val (.ref ar), .val (.int (11 : Int32)), .val (.int (0 : Int32))] [(.int (11 : Int32)), (.ref ar)])) rfl rfl (hb hby at_123)) ?_
    show Go _ _ _ _ T180 (mkF m 124 #[.val (.int i0), .val (.ref ar), .val (.int (11 : Int32)), .val (.int (0 : Int32))] [(.ref ad11)])
    have Z9 : n0 ≤ h180.size := O180.1 ▸ O180.2.1
    obtain ⟨cq204, kq204, q204a, q204b, q204c⟩ := isOf hZ e180 (E11.ext O180.2)
    obtain ⟨_, _, ⟨T203, L203, k203, n203⟩, -, X203, ⟨Lc203, hQ203, l203, y203, z203⟩, st203⟩ := X180.virtualBack hx (y := (⟨"com/example/nonet/nonet/logic/Technique", "places", "()Z"⟩ : MethodName)) (z := (⟨"com/example/nonet/nonet/logic/Technique", "places", "()Z"⟩ : MethodName)) hown (mvT hZ (hw _ (List.mem_of_getElem? (i := 33) rfl))) (mvT hZ (hw _ (List.mem_of_getElem? (i := 34) rfl))) (notFace_of_selects (args := #[]) (mvT hZ (hw _ (List.mem_of_getElem? (i := 36) rfl)))) (mvT hZ (hw _ (List.mem_of_getElem? (i := 36) rfl))) (mvT hZ (hw _ (List.mem_of_getElem? (i := 35) rfl))) (by decide) (backOf (W := 0) (rm1 l Z a0 hw [] ad11 ad0 ad1 h180 n0 Z9 (S0.ext O180.2) (S1.ext O180.2)) hZ (hw _ (List.mem_of_getElem? (i := 37) rfl)) (hw _ (List.mem_of_getElem? (i := 3) rfl)) (by decide) (by decide)) q204a q204c (g := (mkF m 124 #[.val (.int i0), .val (.ref ar), .val (.int (11 : Int32)), .val (.int (0 : Int32))] [(.ref ad11)])) rfl (by rw [hml]; rfl) (Steps.refl _) (argsL := []) (rest := []) (lenOf pd___Z rfl) rfl (by show 2 * 0 + _ ≤ _; exact Nat.le_of_eq rfl) (hb hby at_124) (fun _ _ => ⟨rfl, e180, (by decide : 0 + 1 + 0 ≤ _), (by decide : 0 + 14 + 0 ≤ _)⟩)
    dsimp only [Pt.U, Pt.locs, Pt.cells, Pt.slots] at X203 l203 y203 z203 st203 hQ203
    subst l203 y203 z203
    obtain ⟨rfl, N203, e203⟩ := hQ203
    have NN203 := Fr.app N180 N203
    refine Go.call st203 ?_
    show Go _ _ _ _ T203 (mkF m 127 #[.val (.int i0), .val (.ref ar), .val (.int (11 : Int32)), .val (.int (0 : Int32))] [(.int (plV ad11 ad0 ad1))])
    refine Go.by (fun _ k => XS.iloadN X203.here hx rfl (hb hby at_127) rfl k) ?_
    show Go _ _ _ _ T203 (mkF m 128 #[.val (.int i0), .val (.ref ar), .val (.int (11 : Int32)), .val (.int (0 : Int32))] [(.int (0 : Int32)), (.int (plV ad11 ad0 ad1))])
    refine Go.by (fun _ k => XS.icmpNo X203.here hx rfl (hb hby at_128) rfl (XT.ii_ne_f (by simp [plV, q11_0, q11_1])) k) ?_
    show Go _ _ _ _ T203 (mkF m 131 #[.val (.int i0), .val (.ref ar), .val (.int (11 : Int32)), .val (.int (0 : Int32))] [])
    refine Go.by (fun _ k => XT.iconstV X203.here hx rfl (1 : Int32) (hb hby at_131) (by decide) k) ?_
    show Go _ _ _ _ T203 (mkF m 132 #[.val (.int i0), .val (.ref ar), .val (.int (11 : Int32)), .val (.int (0 : Int32))] [(.int (1 : Int32))])
    refine Go.by (fun _ k => XS.goto X203.here hx rfl (pc0 := 132) (pc' := 136) rfl (hb hby at_132) (by decide) (by decide) k) ?_
    show Go _ _ _ _ T203 (mkF m 136 #[.val (.int i0), .val (.ref ar), .val (.int (11 : Int32)), .val (.int (0 : Int32))] [(.int (1 : Int32))])
    exact Go.retZ X203 hx Bd.notSynchronized (t := .boolean) Bd.returns (by simp) (hb hby at_136) ⟨rfl, NN203⟩ (by decide) (by decide)
  | ⟨12, _⟩ =>
    show Go _ _ _ _ T180 (mkF m 106 #[.val (.int i0), .val (.ref ar), .val (.int (12 : Int32)), .unset] [])
    refine Go.by (fun _ k => XS.iloadN X180.here hx rfl (hb hby at_106) rfl k) ?_
    show Go _ _ _ _ T180 (mkF m 107 #[.val (.int i0), .val (.ref ar), .val (.int (12 : Int32)), .unset] [(.int (12 : Int32))])
    refine Go.by (fun _ k => XS.ifNo X180.here hx rfl (hb hby at_107) rfl (XT.i0_eq_f (by decide)) k) ?_
    show Go _ _ _ _ T180 (mkF m 110 #[.val (.int i0), .val (.ref ar), .val (.int (12 : Int32)), .unset] [])
    refine Go.by (fun _ k => XS.iloadN X180.here hx rfl (hb hby at_110) rfl k) ?_
    show Go _ _ _ _ T180 (mkF m 111 #[.val (.int i0), .val (.ref ar), .val (.int (12 : Int32)), .unset] [(.int (12 : Int32))])
    refine Go.by (fun _ k => XT.iconstV X180.here hx rfl (1 : Int32) (hb hby at_111) (by decide) k) ?_
    show Go _ _ _ _ T180 (mkF m 112 #[.val (.int i0), .val (.ref ar), .val (.int (12 : Int32)), .unset] [(.int (1 : Int32)), (.int (12 : Int32))])
    refine Go.by (fun _ k => XS.icmpYes X180.here hx rfl (pc0 := 112) (pc' := 119) rfl (hb hby at_112) rfl (XT.ii_ne_t (by decide)) (by decide) (by decide) k) ?_
    show Go _ _ _ _ T180 (mkF m 119 #[.val (.int i0), .val (.ref ar), .val (.int (12 : Int32)), .unset] [])
    refine Go.by (fun _ k => XT.iconstV X180.here hx rfl (0 : Int32) (hb hby at_119) (by decide) k) ?_
    show Go _ _ _ _ T180 (mkF m 120 #[.val (.int i0), .val (.ref ar), .val (.int (12 : Int32)), .unset] [(.int (0 : Int32))])
    refine Go.by (fun _ k => XS.istoreN X180.here hx rfl (hb hby at_120) rfl (l' := #[.val (.int i0), .val (.ref ar), .val (.int (12 : Int32)), .val (.int (0 : Int32))]) rfl k) ?_
    show Go _ _ _ _ T180 (mkF m 121 #[.val (.int i0), .val (.ref ar), .val (.int (12 : Int32)), .val (.int (0 : Int32))] [])
    refine Go.by (fun _ k => XS.aloadN X180.here hx rfl (hb hby at_121) rfl rfl k) ?_
    show Go _ _ _ _ T180 (mkF m 122 #[.val (.int i0), .val (.ref ar), .val (.int (12 : Int32)), .val (.int (0 : Int32))] [(.ref ar)])
    refine Go.by (fun _ k => XS.iloadN X180.here hx rfl (hb hby at_122) rfl k) ?_
    show Go _ _ _ _ T180 (mkF m 123 #[.val (.int i0), .val (.ref ar), .val (.int (12 : Int32)), .val (.int (0 : Int32))] [(.int (12 : Int32)), (.ref ar)])
    refine Go.by (own_aaload X180 hx hZ e180 V180 rfl (j := (12 : Int32)) (by decide) (v := .ref ad12) rfl (g := (mkF m 123 #[.val (.int i0), .val (.ref ar), .val (.int (12 : Int32)), .val (.int (0 : Int32))] [(.int (12 : Int32)), (.ref ar)])) rfl rfl (hb hby at_123)) ?_
    show Go _ _ _ _ T180 (mkF m 124 #[.val (.int i0), .val (.ref ar), .val (.int (12 : Int32)), .val (.int (0 : Int32))] [(.ref ad12)])
    have Z9 : n0 ≤ h180.size := O180.1 ▸ O180.2.1
    obtain ⟨cq206, kq206, q206a, q206b, q206c⟩ := isOf hZ e180 (E12.ext O180.2)
    obtain ⟨_, _, ⟨T205, L205, k205, n205⟩, -, X205, ⟨Lc205, hQ205, l205, y205, z205⟩, st205⟩ := X180.virtualBack hx (y := (⟨"com/example/nonet/nonet/logic/Technique", "places", "()Z"⟩ : MethodName)) (z := (⟨"com/example/nonet/nonet/logic/Technique", "places", "()Z"⟩ : MethodName)) hown (mvT hZ (hw _ (List.mem_of_getElem? (i := 33) rfl))) (mvT hZ (hw _ (List.mem_of_getElem? (i := 34) rfl))) (notFace_of_selects (args := #[]) (mvT hZ (hw _ (List.mem_of_getElem? (i := 36) rfl)))) (mvT hZ (hw _ (List.mem_of_getElem? (i := 36) rfl))) (mvT hZ (hw _ (List.mem_of_getElem? (i := 35) rfl))) (by decide) (backOf (W := 0) (rm1 l Z a0 hw [] ad12 ad0 ad1 h180 n0 Z9 (S0.ext O180.2) (S1.ext O180.2)) hZ (hw _ (List.mem_of_getElem? (i := 37) rfl)) (hw _ (List.mem_of_getElem? (i := 3) rfl)) (by decide) (by decide)) q206a q206c (g := (mkF m 124 #[.val (.int i0), .val (.ref ar), .val (.int (12 : Int32)), .val (.int (0 : Int32))] [(.ref ad12)])) rfl (by rw [hml]; rfl) (Steps.refl _) (argsL := []) (rest := []) (lenOf pd___Z rfl) rfl (by show 2 * 0 + _ ≤ _; exact Nat.le_of_eq rfl) (hb hby at_124) (fun _ _ => ⟨rfl, e180, (by decide : 0 + 1 + 0 ≤ _), (by decide : 0 + 14 + 0 ≤ _)⟩)
    dsimp only [Pt.U, Pt.locs, Pt.cells, Pt.slots] at X205 l205 y205 z205 st205 hQ205
    subst l205 y205 z205
    obtain ⟨rfl, N205, e205⟩ := hQ205
    have NN205 := Fr.app N180 N205
    refine Go.call st205 ?_
    show Go _ _ _ _ T205 (mkF m 127 #[.val (.int i0), .val (.ref ar), .val (.int (12 : Int32)), .val (.int (0 : Int32))] [(.int (plV ad12 ad0 ad1))])
    refine Go.by (fun _ k => XS.iloadN X205.here hx rfl (hb hby at_127) rfl k) ?_
    show Go _ _ _ _ T205 (mkF m 128 #[.val (.int i0), .val (.ref ar), .val (.int (12 : Int32)), .val (.int (0 : Int32))] [(.int (0 : Int32)), (.int (plV ad12 ad0 ad1))])
    refine Go.by (fun _ k => XS.icmpNo X205.here hx rfl (hb hby at_128) rfl (XT.ii_ne_f (by simp [plV, q12_0, q12_1])) k) ?_
    show Go _ _ _ _ T205 (mkF m 131 #[.val (.int i0), .val (.ref ar), .val (.int (12 : Int32)), .val (.int (0 : Int32))] [])
    refine Go.by (fun _ k => XT.iconstV X205.here hx rfl (1 : Int32) (hb hby at_131) (by decide) k) ?_
    show Go _ _ _ _ T205 (mkF m 132 #[.val (.int i0), .val (.ref ar), .val (.int (12 : Int32)), .val (.int (0 : Int32))] [(.int (1 : Int32))])
    refine Go.by (fun _ k => XS.goto X205.here hx rfl (pc0 := 132) (pc' := 136) rfl (hb hby at_132) (by decide) (by decide) k) ?_
    show Go _ _ _ _ T205 (mkF m 136 #[.val (.int i0), .val (.ref ar), .val (.int (12 : Int32)), .val (.int (0 : Int32))] [(.int (1 : Int32))])
    exact Go.retZ X205 hx Bd.notSynchronized (t := .boolean) Bd.returns (by simp) (hb hby at_136) ⟨rfl, NN205⟩ (by decide) (by decide)
  | ⟨13, _⟩ =>
    show Go _ _ _ _ T180 (mkF m 106 #[.val (.int i0), .val (.ref ar), .val (.int (13 : Int32)), .unset] [])
    refine Go.by (fun _ k => XS.iloadN X180.here hx rfl (hb hby at_106) rfl k) ?_
    show Go _ _ _ _ T180 (mkF m 107 #[.val (.int i0), .val (.ref ar), .val (.int (13 : Int32)), .unset] [(.int (13 : Int32))])
    refine Go.by (fun _ k => XS.ifNo X180.here hx rfl (hb hby at_107) rfl (XT.i0_eq_f (by decide)) k) ?_
    show Go _ _ _ _ T180 (mkF m 110 #[.val (.int i0), .val (.ref ar), .val (.int (13 : Int32)), .unset] [])
    refine Go.by (fun _ k => XS.iloadN X180.here hx rfl (hb hby at_110) rfl k) ?_
    show Go _ _ _ _ T180 (mkF m 111 #[.val (.int i0), .val (.ref ar), .val (.int (13 : Int32)), .unset] [(.int (13 : Int32))])
    refine Go.by (fun _ k => XT.iconstV X180.here hx rfl (1 : Int32) (hb hby at_111) (by decide) k) ?_
    show Go _ _ _ _ T180 (mkF m 112 #[.val (.int i0), .val (.ref ar), .val (.int (13 : Int32)), .unset] [(.int (1 : Int32)), (.int (13 : Int32))])
    refine Go.by (fun _ k => XS.icmpYes X180.here hx rfl (pc0 := 112) (pc' := 119) rfl (hb hby at_112) rfl (XT.ii_ne_t (by decide)) (by decide) (by decide) k) ?_
    show Go _ _ _ _ T180 (mkF m 119 #[.val (.int i0), .val (.ref ar), .val (.int (13 : Int32)), .unset] [])
    refine Go.by (fun _ k => XT.iconstV X180.here hx rfl (0 : Int32) (hb hby at_119) (by decide) k) ?_
    show Go _ _ _ _ T180 (mkF m 120 #[.val (.int i0), .val (.ref ar), .val (.int (13 : Int32)), .unset] [(.int (0 : Int32))])
    refine Go.by (fun _ k => XS.istoreN X180.here hx rfl (hb hby at_120) rfl (l' := #[.val (.int i0), .val (.ref ar), .val (.int (13 : Int32)), .val (.int (0 : Int32))]) rfl k) ?_
    show Go _ _ _ _ T180 (mkF m 121 #[.val (.int i0), .val (.ref ar), .val (.int (13 : Int32)), .val (.int (0 : Int32))] [])
    refine Go.by (fun _ k => XS.aloadN X180.here hx rfl (hb hby at_121) rfl rfl k) ?_
    show Go _ _ _ _ T180 (mkF m 122 #[.val (.int i0), .val (.ref ar), .val (.int (13 : Int32)), .val (.int (0 : Int32))] [(.ref ar)])
    refine Go.by (fun _ k => XS.iloadN X180.here hx rfl (hb hby at_122) rfl k) ?_
    show Go _ _ _ _ T180 (mkF m 123 #[.val (.int i0), .val (.ref ar), .val (.int (13 : Int32)), .val (.int (0 : Int32))] [(.int (13 : Int32)), (.ref ar)])
    refine Go.by (own_aaload X180 hx hZ e180 V180 rfl (j := (13 : Int32)) (by decide) (v := .ref ad13) rfl (g := (mkF m 123 #[.val (.int i0), .val (.ref ar), .val (.int (13 : Int32)), .val (.int (0 : Int32))] [(.int (13 : Int32)), (.ref ar)])) rfl rfl (hb hby at_123)) ?_
    show Go _ _ _ _ T180 (mkF m 124 #[.val (.int i0), .val (.ref ar), .val (.int (13 : Int32)), .val (.int (0 : Int32))] [(.ref ad13)])
    have Z9 : n0 ≤ h180.size := O180.1 ▸ O180.2.1
    obtain ⟨cq208, kq208, q208a, q208b, q208c⟩ := isOf hZ e180 (E13.ext O180.2)
    obtain ⟨_, _, ⟨T207, L207, k207, n207⟩, -, X207, ⟨Lc207, hQ207, l207, y207, z207⟩, st207⟩ := X180.virtualBack hx (y := (⟨"com/example/nonet/nonet/logic/Technique", "places", "()Z"⟩ : MethodName)) (z := (⟨"com/example/nonet/nonet/logic/Technique", "places", "()Z"⟩ : MethodName)) hown (mvT hZ (hw _ (List.mem_of_getElem? (i := 33) rfl))) (mvT hZ (hw _ (List.mem_of_getElem? (i := 34) rfl))) (notFace_of_selects (args := #[]) (mvT hZ (hw _ (List.mem_of_getElem? (i := 36) rfl)))) (mvT hZ (hw _ (List.mem_of_getElem? (i := 36) rfl))) (mvT hZ (hw _ (List.mem_of_getElem? (i := 35) rfl))) (by decide) (backOf (W := 0) (rm1 l Z a0 hw [] ad13 ad0 ad1 h180 n0 Z9 (S0.ext O180.2) (S1.ext O180.2)) hZ (hw _ (List.mem_of_getElem? (i := 37) rfl)) (hw _ (List.mem_of_getElem? (i := 3) rfl)) (by decide) (by decide)) q208a q208c (g := (mkF m 124 #[.val (.int i0), .val (.ref ar), .val (.int (13 : Int32)), .val (.int (0 : Int32))] [(.ref ad13)])) rfl (by rw [hml]; rfl) (Steps.refl _) (argsL := []) (rest := []) (lenOf pd___Z rfl) rfl (by show 2 * 0 + _ ≤ _; exact Nat.le_of_eq rfl) (hb hby at_124) (fun _ _ => ⟨rfl, e180, (by decide : 0 + 1 + 0 ≤ _), (by decide : 0 + 14 + 0 ≤ _)⟩)
    dsimp only [Pt.U, Pt.locs, Pt.cells, Pt.slots] at X207 l207 y207 z207 st207 hQ207
    subst l207 y207 z207
    obtain ⟨rfl, N207, e207⟩ := hQ207
    have NN207 := Fr.app N180 N207
    refine Go.call st207 ?_
    show Go _ _ _ _ T207 (mkF m 127 #[.val (.int i0), .val (.ref ar), .val (.int (13 : Int32)), .val (.int (0 : Int32))] [(.int (plV ad13 ad0 ad1))])
    refine Go.by (fun _ k => XS.iloadN X207.here hx rfl (hb hby at_127) rfl k) ?_
    show Go _ _ _ _ T207 (mkF m 128 #[.val (.int i0), .val (.ref ar), .val (.int (13 : Int32)), .val (.int (0 : Int32))] [(.int (0 : Int32)), (.int (plV ad13 ad0 ad1))])
    refine Go.by (fun _ k => XS.icmpNo X207.here hx rfl (hb hby at_128) rfl (XT.ii_ne_f (by simp [plV, q13_0, q13_1])) k) ?_
    show Go _ _ _ _ T207 (mkF m 131 #[.val (.int i0), .val (.ref ar), .val (.int (13 : Int32)), .val (.int (0 : Int32))] [])
    refine Go.by (fun _ k => XT.iconstV X207.here hx rfl (1 : Int32) (hb hby at_131) (by decide) k) ?_
    show Go _ _ _ _ T207 (mkF m 132 #[.val (.int i0), .val (.ref ar), .val (.int (13 : Int32)), .val (.int (0 : Int32))] [(.int (1 : Int32))])
    refine Go.by (fun _ k => XS.goto X207.here hx rfl (pc0 := 132) (pc' := 136) rfl (hb hby at_132) (by decide) (by decide) k) ?_
    show Go _ _ _ _ T207 (mkF m 136 #[.val (.int i0), .val (.ref ar), .val (.int (13 : Int32)), .val (.int (0 : Int32))] [(.int (1 : Int32))])
    exact Go.retZ X207 hx Bd.notSynchronized (t := .boolean) Bd.returns (by simp) (hb hby at_136) ⟨rfl, NN207⟩ (by decide) (by decide)
set_option maxRecDepth 65536 in
set_option maxHeartbeats 40000000 in
theorem comes_1 {Post : Tables → Env → Array Value → State → Outcome → State → Prop} (hpost : ∀ tb e args s v u, (limb_1_1.after args s (.returned v) u = true ∧ limb_1_2.after args s (.returned v) u = true ∧ True) → FrameEnd s (.returned v) u (Jvm.fieldLocs frame_1_writes args s ++ Jvm.arrayLocs frame_1_arrays args s ++ Jvm.staticLocs frame_1_statics s) 16 128 → Post tb e args s (.returned v) u) :
    ArmFor flags0 classFile x code maxLocals ret World_1 tables_1 room_1 Calls_1 rest_1 Pre_1 Post := by
  intro l hfl _ _ p e ha hc hk s m args below hf hA hF happ hP
  obtain ⟨hcalls, hrest, hpre⟩ := hP
  obtain ⟨-, -, -, hnamed, -, -, -, hat⟩ := (Spec.applies_iff hf).mp happ
  obtain ⟨hg, hn⟩ := and_e (Cond.before_iff.mp (show (Jvm.Cond.and given_1 narrow_1).before args s = true from hpre))
  obtain ⟨h1, hg⟩ := and_e hg
  obtain ⟨w0, rfl⟩ : ∃ w0 : Value, args = #[w0] := by
    have hs : args.size = 1 := by simpa [Cond.value, given_1] using h1
    obtain ⟨L⟩ := args
    match L, hs with
    | [w0], _ => exact ⟨w0, rfl⟩
  have hg0 := hg
  obtain ⟨i0, ei0⟩ := is_v hg0
  obtain rfl : w0 = (.int i0) := Option.some.inj ei0
  have hw := fun d (hd : d ∈ tables_1) => atoms_spec (ws := Jvm.Cond.code x code maxLocals ret :: tables_1) hat d (List.mem_cons_of_mem _ hd)
  have hfit : Fit s := fun {y c} hc i hi => by
    obtain ⟨ha, rfl⟩ := Array.getElem?_eq_some_iff.mp hc
    have q := List.all_eq_true.mp ((Array.all_eq_true_iff_forall_mem.mp hF) _ (Array.getElem_mem ha)) i (List.mem_range.mpr hi)
    simpa [Array.getElem?_eq_getElem hi] using q
  obtain ⟨m0, hn⟩ := and_e hn
  obtain ⟨m1, hn⟩ := and_e hn
  obtain ⟨m2, hn⟩ := and_e hn
  obtain ⟨m3, hn⟩ := and_e hn
  obtain ⟨m4, hn⟩ := and_e hn
  obtain ⟨m5, hn⟩ := and_e hn
  obtain ⟨m6, hn⟩ := and_e hn
  obtain ⟨m7, hn⟩ := and_e hn
  obtain ⟨m8, hn⟩ := and_e hn
  obtain ⟨m9, hn⟩ := and_e hn
  obtain ⟨m10, hn⟩ := and_e hn
  obtain ⟨m11, hn⟩ := and_e hn
  obtain ⟨m12, hn⟩ := and_e hn
  obtain ⟨m13, hn⟩ := and_e hn
  obtain ⟨m14, hn⟩ := and_e hn
  obtain ⟨m15, hn⟩ := and_e hn
  obtain ⟨m16, hn⟩ := and_e hn
  obtain ⟨m17, hn⟩ := and_e hn
  obtain ⟨m18, hn⟩ := and_e hn
  obtain ⟨m19, hn⟩ := and_e hn
  obtain ⟨m20, hn⟩ := and_e hn
  obtain ⟨m21, hn⟩ := and_e hn
  obtain ⟨m22, hn⟩ := and_e hn
  obtain ⟨m23, hn⟩ := and_e hn
  obtain ⟨m24, hn⟩ := and_e hn
  obtain ⟨m25, hn⟩ := and_e hn
  obtain ⟨m26, hn⟩ := and_e hn
  have m27 := hn
  obtain ⟨ad0, v0⟩ := exa_v m0
  have E0 := Exa.start v0 m0
  have S0 := Sta.start v0 (Or.inr ⟨(hw _ (List.mem_of_getElem? (i := 3) rfl)), (hw _ (List.mem_of_getElem? (i := 4) rfl))⟩)
  obtain ⟨ad1, v1⟩ := exa_v m1
  have E1 := Exa.start v1 m1
  have S1 := Sta.start v1 (Or.inr ⟨(hw _ (List.mem_of_getElem? (i := 3) rfl)), (hw _ (List.mem_of_getElem? (i := 7) rfl))⟩)
  obtain ⟨ad2, v2⟩ := exa_v m2
  have E2 := Exa.start v2 m2
  have S2 := Sta.start v2 (Or.inr ⟨(hw _ (List.mem_of_getElem? (i := 3) rfl)), (hw _ (List.mem_of_getElem? (i := 9) rfl))⟩)
  obtain ⟨ad3, v3⟩ := exa_v m3
  have E3 := Exa.start v3 m3
  have S3 := Sta.start v3 (Or.inr ⟨(hw _ (List.mem_of_getElem? (i := 3) rfl)), (hw _ (List.mem_of_getElem? (i := 11) rfl))⟩)
  obtain ⟨ad4, v4⟩ := exa_v m4
  have E4 := Exa.start v4 m4
  have S4 := Sta.start v4 (Or.inr ⟨(hw _ (List.mem_of_getElem? (i := 3) rfl)), (hw _ (List.mem_of_getElem? (i := 13) rfl))⟩)
  obtain ⟨ad5, v5⟩ := exa_v m5
  have E5 := Exa.start v5 m5
  have S5 := Sta.start v5 (Or.inr ⟨(hw _ (List.mem_of_getElem? (i := 3) rfl)), (hw _ (List.mem_of_getElem? (i := 15) rfl))⟩)
  obtain ⟨ad6, v6⟩ := exa_v m6
  have E6 := Exa.start v6 m6
  have S6 := Sta.start v6 (Or.inr ⟨(hw _ (List.mem_of_getElem? (i := 3) rfl)), (hw _ (List.mem_of_getElem? (i := 17) rfl))⟩)
  obtain ⟨ad7, v7⟩ := exa_v m7
  have E7 := Exa.start v7 m7
  have S7 := Sta.start v7 (Or.inr ⟨(hw _ (List.mem_of_getElem? (i := 3) rfl)), (hw _ (List.mem_of_getElem? (i := 19) rfl))⟩)
  obtain ⟨ad8, v8⟩ := exa_v m8
  have E8 := Exa.start v8 m8
  have S8 := Sta.start v8 (Or.inr ⟨(hw _ (List.mem_of_getElem? (i := 3) rfl)), (hw _ (List.mem_of_getElem? (i := 21) rfl))⟩)
  obtain ⟨ad9, v9⟩ := exa_v m9
  have E9 := Exa.start v9 m9
  have S9 := Sta.start v9 (Or.inr ⟨(hw _ (List.mem_of_getElem? (i := 3) rfl)), (hw _ (List.mem_of_getElem? (i := 23) rfl))⟩)
  obtain ⟨ad10, v10⟩ := exa_v m10
  have E10 := Exa.start v10 m10
  have S10 := Sta.start v10 (Or.inr ⟨(hw _ (List.mem_of_getElem? (i := 3) rfl)), (hw _ (List.mem_of_getElem? (i := 25) rfl))⟩)
  obtain ⟨ad11, v11⟩ := exa_v m11
  have E11 := Exa.start v11 m11
  have S11 := Sta.start v11 (Or.inr ⟨(hw _ (List.mem_of_getElem? (i := 3) rfl)), (hw _ (List.mem_of_getElem? (i := 27) rfl))⟩)
  obtain ⟨ad12, v12⟩ := exa_v m12
  have E12 := Exa.start v12 m12
  have S12 := Sta.start v12 (Or.inr ⟨(hw _ (List.mem_of_getElem? (i := 3) rfl)), (hw _ (List.mem_of_getElem? (i := 29) rfl))⟩)
  obtain ⟨ad13, v13⟩ := exa_v m13
  have E13 := Exa.start v13 m13
  have S13 := Sta.start v13 (Or.inr ⟨(hw _ (List.mem_of_getElem? (i := 3) rfl)), (hw _ (List.mem_of_getElem? (i := 31) rfl))⟩)
  have F3 := own_fldv v3 m14
  have F0 := own_fldv v0 m15
  have F1 := own_fldv v1 m16
  have F12 := own_fldv v12 m17
  have F13 := own_fldv v13 m18
  have F4 := own_fldv v4 m19
  have F7 := own_fldv v7 m20
  have F2 := own_fldv v2 m21
  have F11 := own_fldv v11 m22
  have F10 := own_fldv v10 m23
  have F8 := own_fldv v8 m24
  have F9 := own_fldv v9 m25
  have F5 := own_fldv v5 m26
  have F6 := own_fldv v6 m27
  obtain ⟨n, o, h1, h2, h3, _, L, rfl, ⟨rfl, N⟩, hq⟩ := rm0 l s _ hw tables_1 i0 ad0 ad1 ad2 ad3 ad4 ad5 ad6 ad7 ad8 ad9 ad10 ad11 ad12 ad13 s.heap s.heap.size (Nat.le_refl _) (Old.start s) S0 S1 S2 S3 S4 S5 S6 S7 S8 S9 S10 S11 S12 S13 E0 E1 E2 E3 E4 E5 E6 E7 E8 E9 E10 E11 E12 E13 F0 F1 F2 F3 F4 F5 F6 F7 F8 F9 F10 F11 F12 F13 p e ha hc hk s m _ below hf ((Spec.applies_iff_loose hf).mp happ).1 ⟨rfl, State.Warmed39.refl s, rfl⟩ trivial
  refine ⟨n, _, h1, h2, h3, hpost _ _ _ _ _ _ ⟨Cond.after_iff.mpr rfl, Cond.after_iff.mpr (eq_i res_at (Term.int_eval (1)) rfl), trivial⟩ ⟨hq.1, hq.2.1, (hq.2.2.sift fun y hy => Or.inr (N y hy)).mono (by decide) (by decide)⟩⟩
theorem main_1_1 : Claimed_1_1 := comes_1 fun _ _ _ _ _ _ h hF => ⟨h.1, hF⟩
theorem main_1_2 : Claimed_1_2 := comes_1 fun _ _ _ _ _ _ h hF => ⟨h.2.1, hF⟩
end Jvm.Pilot.@@N@@
namespace Jvm.Pilot.@@N@@
open Jvm Jvm.ClassFile Sem Op Lib Jvm.Free Jvm.Stand Jvm.Pilot.@@N@@.Jvm.D
/-! MADE BY PROGRAM (witnessworld.py) out of the Statement's table words and the real class files: 13 classes; the members and pool entries that the words name. The judged class is class 1, her method 1. -/
namespace start1
open Jvm.ClassFile
def u (s : String) : CpInfo := .utf8 (stringToUtf16 s)
/-- a pool by its gaps: so many unusable entries, then the entry; so many at the end -/
def gap : Nat → List CpInfo → List CpInfo
  | 0, r => r
  | n + 1, r => .unusable :: gap n r
def poolList (es : List (Nat × CpInfo)) (last : Nat) : List CpInfo := es.foldr (fun e r => gap e.1 (e.2 :: r)) (gap last [])
def pool (es : List (Nat × CpInfo)) (last : Nat) : Array CpInfo := ⟨poolList es last⟩
def fileOf (pool : Array CpInfo) (this : Nat) (attrs : Array Attribute := #[]) (ms : Array MethodInfo := #[]) (fl : Nat := 33) (sup : Nat := 0) (ifs : Array Nat := #[]) (fds : Array FieldInfo := #[]) : ClassFile where
  minorVersion := 0
  majorVersion := 65
  constantPool := pool
  accessFlags := fl
  thisClass := this
  superClass := sup
  interfaces := ifs
  fields := fds
  methods := ms
  attributes := attrs
def plain (name : String) (sup : Option ClassId) : Class where
  name := name
  kind := .ordinary
  loader := none
  accessFlags := 33
  super := sup
  interfaces := #[]
  cf := none
  fields := #[]
  methods := #[]
  instanceTypes := #[]
  staticTypes := #[]
  resolved := #[]
  callSites := []
  init := .initialized
  statics := none
  mirror := none

def pool0 : Array CpInfo := pool [(5, u "<init>"), (0, u "()V"), (1, .class_ 10), (1, u "java/lang/Object")] 113

def k0m0 : Method := { name := "<init>", desc := "()V", sig := { parameters := [], returnType := none }, accessFlags := 1, code := none }
/-- java/lang/Object -/
def k0 : Class := { plain "java/lang/Object" none with
  accessFlags := 33
  interfaces := #[]
  cf := some (fileOf pool0 8 #[] #[{ accessFlags := 1, nameIndex := 5, descriptorIndex := 6, attributes := #[] }] 33 0 #[] #[])
  fields := #[]
  methods := #[k0m0]
  instanceTypes := #[]
  staticTypes := #[]
  resolved := Array.replicate 124 none
  statics := none }

def pool1 : Array CpInfo := pool [(2, .class_ 4), (1, u "java/lang/Object"), (0, u "<init>"), (0, u "()V"), (0, .class_ 8), (0, u "com/example/nonet/nonet/logic/Technique"), (0, .fieldref 7 10), (0, .nameAndType 11 12), (0, u "HIDDEN_SINGLE"), (0, u "Lcom/example/nonet/nonet/logic/Technique;"), (0, .fieldref 7 14), (0, .nameAndType 15 12), (0, u "NAKED_SINGLE"), (0, .fieldref 7 17), (0, .nameAndType 18 12), (0, u "POINTING"), (0, .fieldref 7 20), (0, .nameAndType 21 12), (0, u "CLAIMING"), (0, .fieldref 7 23), (0, .nameAndType 24 12), (0, u "NAKED_PAIR"), (0, .fieldref 7 26), (0, .nameAndType 27 12), (0, u "X_WING"), (0, .fieldref 7 29), (0, .nameAndType 30 12), (0, u "HIDDEN_PAIR"), (0, .fieldref 7 32), (0, .nameAndType 33 12), (0, u "NAKED_TRIPLE"), (0, .fieldref 7 35), (0, .nameAndType 36 12), (0, u "SWORDFISH"), (0, .fieldref 7 38), (0, .nameAndType 39 12), (0, u "HIDDEN_TRIPLE"), (0, .fieldref 7 41), (0, .nameAndType 42 12), (0, u "SKYSCRAPER"), (0, .fieldref 7 44), (0, .nameAndType 45 12), (0, u "NAKED_QUAD"), (0, .fieldref 7 47), (0, .nameAndType 48 12), (0, u "JELLYFISH"), (0, .fieldref 7 50), (0, .nameAndType 51 12), (0, u "HIDDEN_QUAD"), (0, .integer 2147483647), (0, .methodref 7 54), (0, .nameAndType 55 56), (0, u "places"), (0, u "()Z"), (0, .class_ 58), (0, u "com/example/nonet/nonet/logic/TechniquePlacesPinLaw"), (2, u "law"), (0, u "(I)Z")] 5

def k1m0 : Method := { name := "<init>", desc := "()V", sig := { parameters := [], returnType := none }, accessFlags := 1, code := none }
def k1c1 : Code := { maxStack := 4, maxLocals := 4, code := code, exceptionTable := #[], attributes := #[] }
def k1m1 : Method := { name := "law", desc := "(I)Z", sig := { parameters := [.int], returnType := some .boolean }, accessFlags := 9, code := some k1c1 }
/-- com/example/nonet/nonet/logic/TechniquePlacesPinLaw -/
def k1 : Class := { plain "com/example/nonet/nonet/logic/TechniquePlacesPinLaw" (some 0) with
  accessFlags := 49
  interfaces := #[]
  cf := some (fileOf pool1 57 #[] #[{ accessFlags := 1, nameIndex := 5, descriptorIndex := 6, attributes := #[] }, { accessFlags := 9, nameIndex := 61, descriptorIndex := 62, attributes := #[] }] 49 2 #[] #[])
  fields := #[]
  methods := #[k1m0, k1m1]
  instanceTypes := #[]
  staticTypes := #[]
  resolved := Array.replicate 68 none
  statics := none }

def pool2 : Array CpInfo := pool [(1, .class_ 2), (0, u "java/lang/constant/Constable"), (0, .class_ 4), (0, u "java/lang/Object")] 6

/-- java/lang/constant/Constable -/
def k2 : Class := { plain "java/lang/constant/Constable" (some 0) with
  accessFlags := 1537
  interfaces := #[]
  cf := some (fileOf pool2 1 #[] #[] 1537 3 #[] #[])
  fields := #[]
  methods := #[]
  instanceTypes := #[]
  staticTypes := #[]
  resolved := Array.replicate 11 none
  statics := none }

def pool3 : Array CpInfo := pool [(1, .class_ 2), (0, u "java/lang/Comparable"), (0, .class_ 4), (0, u "java/lang/Object")] 7

/-- java/lang/Comparable -/
def k3 : Class := { plain "java/lang/Comparable" (some 0) with
  accessFlags := 1537
  interfaces := #[]
  cf := some (fileOf pool3 1 #[] #[] 1537 3 #[] #[])
  fields := #[]
  methods := #[]
  instanceTypes := #[]
  staticTypes := #[]
  resolved := Array.replicate 12 none
  statics := none }

def pool4 : Array CpInfo := pool [(1, .class_ 2), (0, u "java/io/Serializable"), (0, .class_ 4), (0, u "java/lang/Object")] 2

/-- java/io/Serializable -/
def k4 : Class := { plain "java/io/Serializable" (some 0) with
  accessFlags := 1537
  interfaces := #[]
  cf := some (fileOf pool4 1 #[] #[] 1537 3 #[] #[])
  fields := #[]
  methods := #[]
  instanceTypes := #[]
  staticTypes := #[]
  resolved := Array.replicate 7 none
  statics := none }

def pool5 : Array CpInfo := pool [(2, .class_ 4), (1, u "java/lang/Enum"), (0, u "name"), (0, u "Ljava/lang/String;"), (2, u "ordinal"), (0, u "I"), (1, .class_ 14), (1, u "java/lang/Object"), (4, u "hash"), (86, .class_ 108), (1, u "java/lang/Enum$EnumDesc"), (2, .class_ 112), (0, u "java/lang/constant/Constable"), (0, .class_ 114), (0, u "java/lang/Comparable"), (0, .class_ 116), (0, u "java/io/Serializable")] 87

/-- java/lang/Enum -/
def k5 : Class := { plain "java/lang/Enum" (some 0) with
  accessFlags := 1057
  interfaces := #[2, 3, 4]
  cf := some (fileOf pool5 2 #[.nestMembers #[106]] #[] 1057 12 #[111, 113, 115] #[{ accessFlags := 18, nameIndex := 5, descriptorIndex := 6, attributes := #[] }, { accessFlags := 18, nameIndex := 9, descriptorIndex := 10, attributes := #[] }, { accessFlags := 2, nameIndex := 19, descriptorIndex := 10, attributes := #[] }])
  fields := #[{ name := "name", type := (.object "java/lang/String"), accessFlags := 18, slot := 0, constantValue := 0 }, { name := "ordinal", type := .int, accessFlags := 18, slot := 1, constantValue := 0 }, { name := "hash", type := .int, accessFlags := 2, slot := 2, constantValue := 0 }]
  methods := #[]
  instanceTypes := #[(.object "java/lang/String"), .int, .int]
  staticTypes := #[]
  resolved := Array.replicate 204 none
  statics := none }

def pool6 : Array CpInfo := pool [(1, .class_ 2), (0, u "com/example/nonet/nonet/logic/Technique"), (0, .fieldref 1 4), (0, .nameAndType 5 6), (0, u "HIDDEN_SINGLE"), (0, u "Lcom/example/nonet/nonet/logic/Technique;"), (0, .fieldref 1 8), (0, .nameAndType 9 6), (0, u "NAKED_SINGLE"), (2, u "POINTING"), (2, u "CLAIMING"), (2, u "NAKED_PAIR"), (2, u "X_WING"), (2, u "HIDDEN_PAIR"), (2, u "NAKED_TRIPLE"), (2, u "SWORDFISH"), (2, u "HIDDEN_TRIPLE"), (2, u "SKYSCRAPER"), (2, u "NAKED_QUAD"), (2, u "JELLYFISH"), (2, u "HIDDEN_QUAD"), (2, u "$VALUES"), (0, u "[Lcom/example/nonet/nonet/logic/Technique;"), (6, .class_ 58), (1, u "java/lang/Enum"), (8, u "label"), (0, u "Ljava/lang/String;"), (57, u "places"), (0, u "()Z")] 6

def k6c0 : Code := { maxStack := 2, maxLocals := 1, code := prog_47_method_5_code, exceptionTable := #[], attributes := #[] }
def k6m0 : Method := { name := "places", desc := "()Z", sig := { parameters := [], returnType := some .boolean }, accessFlags := 1, code := some k6c0 }
/-- com/example/nonet/nonet/logic/Technique -/
def k6 : Class := { plain "com/example/nonet/nonet/logic/Technique" (some 5) with
  accessFlags := 16433
  interfaces := #[]
  cf := some (fileOf pool6 1 #[] #[{ accessFlags := 1, nameIndex := 126, descriptorIndex := 127, attributes := #[] }] 16433 56 #[] #[{ accessFlags := 16409, nameIndex := 5, descriptorIndex := 6, attributes := #[] }, { accessFlags := 16409, nameIndex := 9, descriptorIndex := 6, attributes := #[] }, { accessFlags := 16409, nameIndex := 12, descriptorIndex := 6, attributes := #[] }, { accessFlags := 16409, nameIndex := 15, descriptorIndex := 6, attributes := #[] }, { accessFlags := 16409, nameIndex := 18, descriptorIndex := 6, attributes := #[] }, { accessFlags := 16409, nameIndex := 21, descriptorIndex := 6, attributes := #[] }, { accessFlags := 16409, nameIndex := 24, descriptorIndex := 6, attributes := #[] }, { accessFlags := 16409, nameIndex := 27, descriptorIndex := 6, attributes := #[] }, { accessFlags := 16409, nameIndex := 30, descriptorIndex := 6, attributes := #[] }, { accessFlags := 16409, nameIndex := 33, descriptorIndex := 6, attributes := #[] }, { accessFlags := 16409, nameIndex := 36, descriptorIndex := 6, attributes := #[] }, { accessFlags := 16409, nameIndex := 39, descriptorIndex := 6, attributes := #[] }, { accessFlags := 16409, nameIndex := 42, descriptorIndex := 6, attributes := #[] }, { accessFlags := 16409, nameIndex := 45, descriptorIndex := 6, attributes := #[] }, { accessFlags := 18, nameIndex := 67, descriptorIndex := 68, attributes := #[] }, { accessFlags := 4122, nameIndex := 48, descriptorIndex := 49, attributes := #[] }])
  fields := #[{ name := "HIDDEN_SINGLE", type := (.object "com/example/nonet/nonet/logic/Technique"), accessFlags := 16409, slot := 0, constantValue := 0 }, { name := "NAKED_SINGLE", type := (.object "com/example/nonet/nonet/logic/Technique"), accessFlags := 16409, slot := 1, constantValue := 0 }, { name := "POINTING", type := (.object "com/example/nonet/nonet/logic/Technique"), accessFlags := 16409, slot := 2, constantValue := 0 }, { name := "CLAIMING", type := (.object "com/example/nonet/nonet/logic/Technique"), accessFlags := 16409, slot := 3, constantValue := 0 }, { name := "NAKED_PAIR", type := (.object "com/example/nonet/nonet/logic/Technique"), accessFlags := 16409, slot := 4, constantValue := 0 }, { name := "X_WING", type := (.object "com/example/nonet/nonet/logic/Technique"), accessFlags := 16409, slot := 5, constantValue := 0 }, { name := "HIDDEN_PAIR", type := (.object "com/example/nonet/nonet/logic/Technique"), accessFlags := 16409, slot := 6, constantValue := 0 }, { name := "NAKED_TRIPLE", type := (.object "com/example/nonet/nonet/logic/Technique"), accessFlags := 16409, slot := 7, constantValue := 0 }, { name := "SWORDFISH", type := (.object "com/example/nonet/nonet/logic/Technique"), accessFlags := 16409, slot := 8, constantValue := 0 }, { name := "HIDDEN_TRIPLE", type := (.object "com/example/nonet/nonet/logic/Technique"), accessFlags := 16409, slot := 9, constantValue := 0 }, { name := "SKYSCRAPER", type := (.object "com/example/nonet/nonet/logic/Technique"), accessFlags := 16409, slot := 10, constantValue := 0 }, { name := "NAKED_QUAD", type := (.object "com/example/nonet/nonet/logic/Technique"), accessFlags := 16409, slot := 11, constantValue := 0 }, { name := "JELLYFISH", type := (.object "com/example/nonet/nonet/logic/Technique"), accessFlags := 16409, slot := 12, constantValue := 0 }, { name := "HIDDEN_QUAD", type := (.object "com/example/nonet/nonet/logic/Technique"), accessFlags := 16409, slot := 13, constantValue := 0 }, { name := "label", type := (.object "java/lang/String"), accessFlags := 18, slot := 3, constantValue := 0 }, { name := "$VALUES", type := (.array (.object "com/example/nonet/nonet/logic/Technique")), accessFlags := 4122, slot := 14, constantValue := 0 }]
  methods := #[k6m0]
  instanceTypes := #[(.object "java/lang/String"), .int, .int, (.object "java/lang/String")]
  staticTypes := #[(.object "com/example/nonet/nonet/logic/Technique"), (.object "com/example/nonet/nonet/logic/Technique"), (.object "com/example/nonet/nonet/logic/Technique"), (.object "com/example/nonet/nonet/logic/Technique"), (.object "com/example/nonet/nonet/logic/Technique"), (.object "com/example/nonet/nonet/logic/Technique"), (.object "com/example/nonet/nonet/logic/Technique"), (.object "com/example/nonet/nonet/logic/Technique"), (.object "com/example/nonet/nonet/logic/Technique"), (.object "com/example/nonet/nonet/logic/Technique"), (.object "com/example/nonet/nonet/logic/Technique"), (.object "com/example/nonet/nonet/logic/Technique"), (.object "com/example/nonet/nonet/logic/Technique"), (.object "com/example/nonet/nonet/logic/Technique"), (.array (.object "com/example/nonet/nonet/logic/Technique"))]
  resolved := Array.replicate 134 none
  statics := some 0 }

def pool7 : Array CpInfo := pool [(1, u "java/lang/Cloneable"), (0, .class_ 1), (0, u "java/lang/Object"), (0, .class_ 3)] 3

/-- java/lang/Cloneable -/
def k7 : Class := { plain "java/lang/Cloneable" (some 0) with
  accessFlags := 1537
  interfaces := #[]
  cf := some (fileOf pool7 2 #[] #[] 1537 4 #[] #[])
  fields := #[]
  methods := #[]
  instanceTypes := #[]
  staticTypes := #[]
  resolved := Array.replicate 8 none
  statics := none }

/-- the primitive byte -/
def k8 : Class := { plain "byte" none with kind := .primitive 'B', accessFlags := 0x411 }
/-- [B -/
def k9 : Class := { plain "[B" (some 0) with kind := .array 8 .byte, interfaces := #[7, 4], accessFlags := 1041 }

/-- the primitive int -/
def k10 : Class := { plain "int" none with kind := .primitive 'I', accessFlags := 0x411 }
/-- [I -/
def k11 : Class := { plain "[I" (some 0) with kind := .array 10 .int, interfaces := #[7, 4], accessFlags := 1041 }

/-- [Lcom/example/nonet/nonet/logic/Technique; -/
def k12 : Class := { plain "[Lcom/example/nonet/nonet/logic/Technique;" (some 0) with kind := .array 6 (.object "com/example/nonet/nonet/logic/Technique"), interfaces := #[7, 4], accessFlags := 1041 }

def heap : Heap := #[{ cls := 6, slots := #[.ref 1, .ref 2, .ref 3, .ref 4, .ref 5, .ref 6, .ref 7, .ref 8, .ref 9, .ref 10, .ref 11, .ref 12, .ref 13, .ref 14, .null], vm := .statics 6 },
  { cls := 6, slots := #[.null, .int 0, .int 0, .null], vm := .none },
  { cls := 6, slots := #[.null, .int 1, .int 0, .null], vm := .none },
  { cls := 6, slots := #[.null, .int 2, .int 0, .null], vm := .none },
  { cls := 6, slots := #[.null, .int 3, .int 0, .null], vm := .none },
  { cls := 6, slots := #[.null, .int 4, .int 0, .null], vm := .none },
  { cls := 6, slots := #[.null, .int 5, .int 0, .null], vm := .none },
  { cls := 6, slots := #[.null, .int 6, .int 0, .null], vm := .none },
  { cls := 6, slots := #[.null, .int 7, .int 0, .null], vm := .none },
  { cls := 6, slots := #[.null, .int 8, .int 0, .null], vm := .none },
  { cls := 6, slots := #[.null, .int 9, .int 0, .null], vm := .none },
  { cls := 6, slots := #[.null, .int 10, .int 0, .null], vm := .none },
  { cls := 6, slots := #[.null, .int 11, .int 0, .null], vm := .none },
  { cls := 6, slots := #[.null, .int 12, .int 0, .null], vm := .none },
  { cls := 6, slots := #[.null, .int 13, .int 0, .null], vm := .none }]
def classes : Array Class := #[k0, k1, k2, k3, k4, k5, k6, k7, k8, k9, k10, k11, k12]
def interned : List (Array UInt16 × Addr) := []
def slotsUsed : Nat := 71
def theMethod : MethodId := ⟨1, 1⟩
def args0 : Array Value := #[.int 5]
def aboutOver (below : List Frame) : State where
  vm := { classes := classes, interned := interned.toArray }
  heap := heap
  slotsUsed := slotsUsed
  threads := #[{ frames := .invoking theMethod args0 :: below }]
def below0 : List Frame := [.native { method := ⟨0, 0⟩, args := #[] }]
def about1 : State := aboutOver below0
def p0 : Program := .bare "" "" ""
def e0 : Env := launch0.env 0 0 0
theorem w_frames : about1.frames = Frame.invoking theMethod args0 :: below0 := rfl
set_option maxRecDepth 65536 in
theorem w_args : argsFit about1.vm theMethod args0 = true := by decide +kernel
set_option maxRecDepth 65536 in
theorem w_heap : heapFits about1 = true := by decide +kernel
set_option maxRecDepth 65536 in
theorem w_runnable : about1.curStatus? = some .runnable := by decide +kernel
set_option maxRecDepth 65536 in
theorem w_alone : about1.alone = true := by decide +kernel
set_option maxRecDepth 65536 in
theorem w_named : about1.methodNamed? x = some theMethod := by decide +kernel
set_option maxRecDepth 65536 in
theorem w_hears : about1.hears theMethod below0 = true := by decide +kernel
set_option maxRecDepth 65536 in
theorem w_ripe : about1.ripe theMethod args0 below0 = true := by decide +kernel
theorem w_running : about1.status = .running := rfl
set_option maxRecDepth 65536 in
theorem w_room : about1.hasRoom e0.platform room_1 = true :=
  launch0.hasRoom_least _ room_1 (by decide +kernel) (by decide +kernel) (by decide +kernel) (by decide +kernel) (by decide +kernel) (by decide +kernel)
theorem allAtoms_all (ts : List Jvm.Cond) (a : Array Jvm.Value) (st : Jvm.State) : (allAtoms ts).before a st = ts.all (fun c => c.before a st) := by
  induction ts with
  | nil => rfl
  | cons c t ih =>
    show (Jvm.Cond.and c (allAtoms t)).before a st = _
    rw [Jvm.Cond.before_and, ih, List.all_cons]
def words1 : List Jvm.Cond := Jvm.Cond.code x code maxLocals ret :: tables_1
/-- a 'code' word, met by the world's own term for the bytes: nothing is compared byte by byte -/
theorem code_word {y : MethodName} {bytes : ByteArray} {mx : Nat} {rt : Option FieldType} {a : Array Value} {s : State} {m : MethodId} {meth : Method} {c : Code} (h1 : s.methodNamed? y = some m) (h2 : s.vm.method? m = some meth) (h3 : meth.code = some c) (h4 : c.code = bytes)
    (h5 : (c.maxLocals == mx && c.exceptionTable.isEmpty && decide (c.maxStack ≤ mostOperands) && decide (meth.sig.returnType = rt) && !meth.locks && decide (parseMethodDescriptor y.desc = some meth.sig)) = true) : (Jvm.Cond.code y bytes mx rt).before a s = true := by
  simp only [Bool.and_eq_true, beq_iff_eq, Bool.not_eq_true', decide_eq_true_eq] at h5
  obtain ⟨⟨⟨⟨⟨g1, g2⟩, g3⟩, g4⟩, g5⟩, g6⟩ := h5
  simp [Cond.before, Cond.holds, Cond.value, h1, h2, h3, h4, g1, g2, g3, g4, g5, g6]
def isCode : Jvm.Cond → Bool
  | .code _ _ _ _ => true
  | _ => false
theorem all_split {L : List Jvm.Cond} {P : Jvm.Cond → Bool} (h1 : L.all (fun c => isCode c || P c) = true) (h2 : ∀ c ∈ L.filter isCode, P c = true) : L.all P = true := by
  refine List.all_eq_true.mpr fun c hc => ?_
  have h := List.all_eq_true.mp h1 c hc
  rcases Bool.eq_false_or_eq_true (isCode c) with hi | hi
  · exact h2 c (List.mem_filter.mpr ⟨hc, hi⟩)
  · simpa [hi] using h
set_option maxRecDepth 65536 in
theorem w_c0 : (Jvm.Cond.code x code maxLocals ret).before args0 about1 = true := code_word (m := ⟨1, 1⟩) (meth := k1m1) (c := k1c1) (by decide +kernel) rfl rfl rfl (by decide +kernel)
set_option maxRecDepth 65536 in
theorem w_c1 : (Jvm.Cond.code ({ cls := "com/example/nonet/nonet/logic/Technique", name := "places", desc := "()Z" } : Jvm.MethodName) prog_47_method_5_code (1 : Nat) (Option.some Jvm.ClassFile.FieldType.boolean)).before args0 about1 = true := code_word (m := ⟨6, 0⟩) (meth := k6m0) (c := k6c0) (by decide +kernel) rfl rfl rfl (by decide +kernel)
def codes1 : List Jvm.Cond := [Jvm.Cond.code x code maxLocals ret, Jvm.Cond.code ({ cls := "com/example/nonet/nonet/logic/Technique", name := "places", desc := "()Z" } : Jvm.MethodName) prog_47_method_5_code (1 : Nat) (Option.some Jvm.ClassFile.FieldType.boolean)]
set_option maxRecDepth 65536 in
theorem codes_eq : words1.filter isCode = codes1 := rfl
theorem w_codes : ∀ c ∈ words1.filter isCode, c.before args0 about1 = true := by
  rw [codes_eq]
  intro c hc
  simp only [codes1, List.mem_cons, List.not_mem_nil, or_false] at hc
  rcases hc with rfl | rfl
  · exact w_c0
  · exact w_c1
set_option maxRecDepth 65536 in
theorem w_t1 : (words1.take 24).all (fun c => isCode c || c.before args0 about1) = true := by decide +kernel
set_option maxRecDepth 65536 in
theorem w_t2 : (words1.drop 24).all (fun c => isCode c || c.before args0 about1) = true := by decide +kernel
theorem w_tables : (allAtoms (Jvm.Cond.code x code maxLocals ret :: tables_1)).before args0 about1 = true := by
  rw [allAtoms_all]
  show words1.all (fun c => c.before args0 about1) = true
  refine all_split ?_ w_codes
  rw [← List.take_append_drop 24 words1, List.all_append, w_t1, w_t2]
  rfl
set_option maxRecDepth 65536 in
theorem w_case : (Jvm.Cond.and given_1 narrow_1).before args0 about1 = true := by decide +kernel
theorem w_applies : (headSpec (Jvm.Cond.code x code maxLocals ret :: tables_1) room_1).applies x e0.platform about1 = true :=
  (Spec.applies_iff w_frames).mpr ⟨w_running, w_runnable, w_alone, w_named, w_hears, w_ripe, w_room, w_tables⟩
theorem atStart : AtStart classFile x code maxLocals ret World_1 tables_1 room_1 Calls_1 rest_1 Pre_1 launch0 p0 e0 about1 theMethod args0 below0 :=
  ⟨lists_1, trivial, launch0.admits_env _ _ _, launch0.least_env, fairChoices_fair.cas, fairChoices_fair.clock, w_frames, w_args, w_heap, w_applies, trivial, trivial, w_case⟩
end start1
theorem witness_1 : WitnessClaimed_1 := ⟨start1.p0, start1.e0, start1.about1, start1.theMethod, start1.args0, start1.below0, start1.atStart⟩
end Jvm.Pilot.@@N@@
