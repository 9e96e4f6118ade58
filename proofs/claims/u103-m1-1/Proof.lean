import JvmDerived
import JvmDerived.Pilot.@@N@@Statement
import JvmDerived.Pilot.@@N@@Code
set_option linter.unusedVariables false
set_option linter.unusedSimpArgs false
namespace Jvm.Pilot.@@N@@
open Jvm Jvm.ClassFile Sem Op Lib Jvm.Free Jvm.Stand Jvm.LawKit Jvm.RoadKit Bundle Jvm.Pilot.@@N@@.Jvm.D
section OwnGo
variable {p : Program} {l : Launch} {e : Env} {R : Room} {s : State} {m : MethodId} {args : Array Value} {below : List Frame} {meth : Method} {c : Code} {T T' : State} {locs : List Loc} {cells slots : Nat} {g g' : JFrame} {F : State → Outcome → Prop} {Q : Option Value → Heap → List Loc → Prop} {ck sk : Nat}
/-- from this place the run ends, and F holds at the end -/
def Go (p : Program) (e : Env) (below : List Frame) (F : State → Outcome → Prop) (T : State) (g : JFrame) : Prop :=
  ∃ t o, Steps p.tables e below (T.setTop g) t ∧ t.status = .running ∧ Ended t below o ∧ F t o
def FinN (s : State) (Q : Option Value → Heap → List Loc → Prop) (ck sk : Nat) (t : State) (o : Outcome) : Prop :=
  ∃ v L, o = .returned v ∧ Q v t.heap L ∧ FrameEnd s o t L ck sk
theorem Go.by (h : ∀ target, Steps p.tables e below (T'.setTop g') target → Steps p.tables e below (T.setTop g) target) (k : Go p e below F T' g') : Go p e below F T g := by
  obtain ⟨t, o, h1, h2⟩ := k; exact ⟨t, o, h _ h1, h2⟩
theorem Go.call (h : Steps p.tables e below (T.setTop g) (T'.setTop g')) (k : Go p e below F T' g') : Go p e below F T g := by
  obtain ⟨t, o, h1, h2⟩ := k; exact ⟨t, o, h.trans h1, h2⟩
theorem Go.join (T' : State) (g' : JFrame) (h : Go p e below F T' g' → Go p e below F T g) (k : Go p e below F T' g') : Go p e below F T g := h k
theorem Go.done (X : Stand p l e R s m args below meth c T locs cells slots) {v : Option Value} (hv : meth.sig.returnType = none → v = none) (hlocks : meth.locks = false)
    (st : ∀ fs, (∀ (f : JFrame) (acts : List Action), f.method = m → f.locked = none → f.entered = [] → (doReturn e (T.setTop f) acts v).1 = T.setFrames fs) → Steps p.tables e below (T.setTop g) (T.setFrames fs))
    (hQ : Q v T.heap locs) (hc : cells ≤ ck) (hs : slots ≤ sk) : Go p e below (FinN s Q ck sk) T g := by
  obtain ⟨fs, hr, hrun, hended, hW, hsame⟩ := X.leave hv hlocks
  exact ⟨_, _, st fs hr, hrun, hended, v, locs, rfl, hQ, ⟨_, rfl⟩, hW, hsame.mono hc hs⟩
theorem Go.retZ (X : Stand p l e R s m args below meth c T locs cells slots) (hx : p.tables.exec = Jvm.exec) (hlocks : meth.locks = false) {pc : Nat} {Ls : Array Slot} {z : Int32} {t : FieldType} {rest : List Value} (hret : meth.sig.returnType = some t) (ht : t = .boolean ∨ t = .byte ∨ t = .char ∨ t = .short)
    (hd : decode c.code pc = .ok (.ireturn, 1)) (hQ : Q (some (.int (nar t z))) T.heap locs) (hc : cells ≤ ck) (hs : slots ≤ sk) : Go p e below (FinN s Q ck sk) T (mkF m pc Ls (.int z :: rest)) :=
  Go.done X (fun h => by rw [hret] at h; cases h) hlocks (fun fs hr => retN X hx hret ht hd hr) hQ hc hs
theorem Go.retO (X : Stand p l e R s m args below meth c T locs cells slots) (hx : p.tables.exec = Jvm.exec) (hlocks : meth.locks = false) {pc : Nat} {Ls : Array Slot} {w : Value} {t : FieldType} {i : Instr} {rest : List Value} (hret : meth.sig.returnType = some t) (hn : narrow t w = w)
    (hi : (i = .ireturn ∧ (t = .int ∨ t = .boolean ∨ t = .byte ∨ t = .char ∨ t = .short) ∧ ∃ z, w = .int z) ∨ (i = .lreturn ∧ t = .long ∧ ∃ z, w = .long z) ∨ (i = .dreturn ∧ t = .double ∧ ∃ z, w = .double z) ∨ (i = .freturn ∧ t = .float ∧ ∃ z, w = .float z) ∨ (i = .areturn ∧ t.isReference = true ∧ w.isRef = true))
    (hd : decode c.code pc = .ok (i, 1)) (hQ : Q (some w) T.heap locs) (hc : cells ≤ ck) (hs : slots ≤ sk) : Go p e below (FinN s Q ck sk) T (mkF m pc Ls (w :: rest)) :=
  Go.done X (fun h => by rw [hret] at h; cases h) hlocks (fun fs hr => retOut X hx hret hn hi hd hr) hQ hc hs
theorem Go.retI (X : Stand p l e R s m args below meth c T locs cells slots) (hx : p.tables.exec = Jvm.exec) (hlocks : meth.locks = false) {pc : Nat} {Ls : Array Slot} {z : Int32} {rest : List Value} (hret : meth.sig.returnType = some .int)
    (hd : decode c.code pc = .ok (.ireturn, 1)) (hQ : Q (some (.int z)) T.heap locs) (hc : cells ≤ ck) (hs : slots ≤ sk) : Go p e below (FinN s Q ck sk) T (mkF m pc Ls (.int z :: rest)) :=
  Go.retO X hx hlocks hret rfl (Or.inl ⟨rfl, Or.inl rfl, _, rfl⟩) hd hQ hc hs
theorem Go.retA (X : Stand p l e R s m args below meth c T locs cells slots) (hx : p.tables.exec = Jvm.exec) (hlocks : meth.locks = false) {pc : Nat} {Ls : Array Slot} {w : Value} {t : FieldType} {rest : List Value} (hret : meth.sig.returnType = some t) (ht : t.isReference = true) (hw : w.isRef = true)
    (hd : decode c.code pc = .ok (.areturn, 1)) (hQ : Q (some w) T.heap locs) (hc : cells ≤ ck) (hs : slots ≤ sk) : Go p e below (FinN s Q ck sk) T (mkF m pc Ls (w :: rest)) :=
  Go.retO X hx hlocks hret (by cases w <;> cases t <;> first | rfl | (cases hw; done) | (cases ht; done)) (Or.inr (Or.inr (Or.inr (Or.inr ⟨rfl, ht, hw⟩)))) hd hQ hc hs
theorem Go.retV (X : Stand p l e R s m args below meth c T locs cells slots) (hx : p.tables.exec = Jvm.exec) (hlocks : meth.locks = false) {pc : Nat} {Ls : Array Slot} (hret : meth.sig.returnType = none)
    (hd : decode c.code pc = .ok (.return_, 1)) (hQ : Q none T.heap locs) (hc : cells ≤ ck) (hs : slots ≤ sk) : Go p e below (FinN s Q ck sk) T (mkF m pc Ls []) :=
  Go.done X (fun _ => rfl) hlocks (fun fs hr => X.returnOut hx hret hd hr) hQ hc hs
end OwnGo
theorem own_modN (n : Nat) (N : Int32) (hN : N.toInt = (n : Int)) (hn : 0 < n) (hb : n < 2147483648) (i : Int32) : ∃ k : Fin n, (i &&& (2147483647 : Int32)) % N = Int32.ofInt k.1 := by
  have h1 := (c_and i (2147483647 : Int32) (by decide)).1
  have h2 := (c_irem (i &&& (2147483647 : Int32)) N n hN).1 h1
  have h3 := Int.emod_lt_of_pos (i &&& (2147483647 : Int32)).toInt (show (0 : Int) < (n : Int) by omega)
  have h4 := Int.emod_nonneg (i &&& (2147483647 : Int32)).toInt (show (n : Int) ≠ 0 by omega)
  refine ⟨⟨((i &&& (2147483647 : Int32)).toInt % (n : Int)).toNat, by omega⟩, ?_⟩
  rw [← Int32.toInt_inj, h2, Int32.toInt_ofInt]
  show _ = Int.bmod (((((i &&& (2147483647 : Int32)).toInt % (n : Int)).toNat : Nat) : Int)) _
  rw [Int.toNat_of_nonneg h4, show Int32.size = 4294967296 from rfl, Int.bmod_eq_of_le (by omega) (by omega)]
theorem own_safe0 {Z : State} {vm : Vm} {h : Heap} {x : Addr} : Safe Z [] vm h x := fun ⟨_, hp, _⟩ => nomatch hp
theorem own_rne {a b : Addr} (h : a ≠ b) : ¬ ((.ref a : Value) = (.ref b : Value)) := fun e => h (Value.ref.inj e)
theorem own_sto {Z : State} {h : Heap} {a y : Addr} {k : ClassId} {ty : FieldType} {z : Int32} {vs : List Value} {dv : Value} {C : String} (f : Arv Z h a k ty z vs dv) (O : Ovr Z k C) (I : Ins Z h y C true) : Sto Z h a (.ref y) := by
  obtain ⟨cl, A, q1, -⟩ := f
  exact Sto.ofV A q1 O I
def ownLay : List Value → List Slot
  | [] => []
  | v :: vs => if v.category = 2 then .val v :: .second :: ownLay vs else .val v :: ownLay vs
theorem own_lay (L : List Value) (acc : Array Slot) : L.foldl (fun acc v => if v.category = 2 then (acc.push (.val v)).push .second else acc.push (.val v)) acc = acc ++ (ownLay L).toArray := by
  induction L generalizing acc with
  | nil => simp [ownLay]
  | cons v vs ih =>
    rw [List.foldl_cons, ih]
    show _ = acc ++ (if v.category = 2 then Slot.val v :: Slot.second :: ownLay vs else Slot.val v :: ownLay vs).toArray
    split <;> simp
theorem own_entry (m : MethodId) (L : List Value) (n : Nat) : entryFrame m L.toArray n = mkF m 0 (ownLay L ++ List.replicate (n - (ownLay L).length) Slot.unset).toArray [] := by
  unfold entryFrame argsToLocals mkF
  simp [own_lay]
section OwnKit
variable {p : Program} {l : Launch} {e : Env} {R : Room} {s : State} {m : MethodId} {args : Array Value} {below : List Frame} {meth : Method} {c : Code} {T : State} {locs : List Loc} {cells slots : Nat} {F : State → Outcome → Prop} {bs : ByteArray} {own : String} {Z : State} {EL : List (String × Nat)} {n0 : Nat} {h0 h : Heap} {vm0 : Vm} {a0 : Array Value} {pc : Nat} {Ls : Array Slot} {st : List Value}
/-- where a walk stands: the tables may have grown by literals; the constants of EL are held -/
def Sit (p : Program) (l : Launch) (e : Env) (R : Room) (s : State) (m : MethodId) (args : Array Value) (below : List Frame) (meth : Method) (c : Code) (bs : ByteArray) (own : String) (Z : State) (EL : List (String × Nat)) (n0 : Nat) (h0 : Heap) (T : State) (h : Heap) (vm0 : Vm) (locs : List Loc) (cells slots : Nat) : Prop :=
  Stand p l e R (s.setVm vm0) m args below meth c T locs cells slots ∧ T.heap = h ∧ (∃ k0, s.Since vm0 k0 ∧ k0 ≤ h.size) ∧ Z.Warmed39 vm0 ∧ vm0.findClass own = some m.cls ∧ Fr n0 locs ∧ CHr Z EL s.vm s.heap vm0 h ∧ n0 ≤ h.size ∧ p.tables.exec = Jvm.exec ∧ c.code = bs ∧ meth.locks = false ∧ h0.size ≤ h.size
theorem Sit.hh (X : Sit p l e R s m args below meth c bs own Z EL n0 h0 T h vm0 locs cells slots) : T.heap = h := X.2.1
theorem Sit.hZ (X : Sit p l e R s m args below meth c bs own Z EL n0 h0 T h vm0 locs cells slots) : Z.Warmed39 vm0 := X.2.2.2.1
theorem Sit.hown (X : Sit p l e R s m args below meth c bs own Z EL n0 h0 T h vm0 locs cells slots) : vm0.findClass own = some m.cls := X.2.2.2.2.1
theorem Sit.N (X : Sit p l e R s m args below meth c bs own Z EL n0 h0 T h vm0 locs cells slots) : Fr n0 locs := X.2.2.2.2.2.1
theorem Sit.C (X : Sit p l e R s m args below meth c bs own Z EL n0 h0 T h vm0 locs cells slots) : CHr Z EL s.vm s.heap vm0 h := X.2.2.2.2.2.2.1
theorem Sit.n (X : Sit p l e R s m args below meth c bs own Z EL n0 h0 T h vm0 locs cells slots) : n0 ≤ h.size := X.2.2.2.2.2.2.2.1
theorem Sit.hx (X : Sit p l e R s m args below meth c bs own Z EL n0 h0 T h vm0 locs cells slots) : p.tables.exec = Jvm.exec := X.2.2.2.2.2.2.2.2.1
theorem Sit.hby (X : Sit p l e R s m args below meth c bs own Z EL n0 h0 T h vm0 locs cells slots) : c.code = bs := X.2.2.2.2.2.2.2.2.2.1
theorem Sit.hlk (X : Sit p l e R s m args below meth c bs own Z EL n0 h0 T h vm0 locs cells slots) : meth.locks = false := X.2.2.2.2.2.2.2.2.2.2.1
theorem Sit.g0 (X : Sit p l e R s m args below meth c bs own Z EL n0 h0 T h vm0 locs cells slots) : h0.size ≤ h.size := X.2.2.2.2.2.2.2.2.2.2.2
theorem Sit.mk2 (X : Sit p l e R s m args below meth c bs own Z EL n0 h0 T h vm0 locs cells slots) {T' : State} {h' : Heap} {vm1 : Vm} {locs' : List Loc} {cells' slots' k1 : Nat} (Y : Stand p l e R (s.setVm vm1) m args below meth c T' locs' cells' slots') (eh : T'.heap = h') (hS : s.Since vm1 k1) (hk : k1 ≤ h'.size) (hZ : Z.Warmed39 vm1) (ho : vm1.findClass own = some m.cls) (N : Fr n0 locs') (C : CHr Z EL vm0 h vm1 h') :
    Sit p l e R s m args below meth c bs own Z EL n0 h0 T' h' vm1 locs' cells' slots' :=
  ⟨Y, eh, ⟨k1, hS, hk⟩, hZ, ho, N, X.C.trans C, Nat.le_trans X.n C.2.1, X.hx, X.hby, X.hlk, Nat.le_trans X.g0 C.2.1⟩
theorem Sit.mk1 (X : Sit p l e R s m args below meth c bs own Z EL n0 h0 T h vm0 locs cells slots) {T' : State} {h' : Heap} {locs' : List Loc} {cells' slots' : Nat} (Y : Stand p l e R (s.setVm vm0) m args below meth c T' locs' cells' slots') (eh : T'.heap = h') (N : Fr n0 locs') (C : CHr Z EL vm0 h vm0 h') :
    Sit p l e R s m args below meth c bs own Z EL n0 h0 T' h' vm0 locs' cells' slots' := by
  obtain ⟨k0, hS, hk⟩ := X.2.2.1
  exact X.mk2 Y eh hS (Nat.le_trans hk C.2.1) X.hZ X.hown N C
theorem Sit.mk0 (X : Sit p l e R s m args below meth c bs own Z EL n0 h0 T h vm0 locs cells slots) {T' : State} {locs' : List Loc} {cells' slots' : Nat} (Y : Stand p l e R (s.setVm vm0) m args below meth c T' locs' cells' slots') (eh : T'.heap = h) (N : Fr n0 locs') : Sit p l e R s m args below meth c bs own Z EL n0 h0 T' h vm0 locs' cells' slots' :=
  X.mk1 Y eh N (CHr.refl X.C.1)
/-- the end -/
def FinH (Z : State) (EL : List (String × Nat)) (s : State) (Q : Vm → Option Value → Heap → List Loc → Vm → Prop) (ck sk : Nat) (t : State) (o : Outcome) : Prop :=
  ∃ v L, o = .returned v ∧ Q s.vm v t.heap L t.vm ∧ CHr Z EL s.vm s.heap t.vm t.heap ∧ ReturnedEndW s o t L ck sk
/-- a body's contract -/
def MetH (l : Launch) (Z : State) (EL : List (String × Nat)) (y : MethodName) (bytes : ByteArray) (maxL : Nat) (ret : Option FieldType) (ws : List Jvm.Cond) (rm : Room) (as' : Array Value) (h0 : Heap) (SL : List Addr) (Q : Vm → Option Value → Heap → List Loc → Vm → Prop) : Prop :=
  MetFree l y (head1 (Jvm.Cond.code y bytes maxL ret :: ws) rm) (fun a U => a = as' ∧ Z.Warmed39 U.vm ∧ U.heap = h0 ∧ CHv Z EL U.vm h0 ∧ ∀ x ∈ SL, Safe Z EL U.vm h0 x) (fun _ _ _ _ _ => True) (fun _ U o U' => ∃ v L, o = .returned v ∧ Q U.vm v U'.heap L U'.vm ∧ CHr Z EL U.vm U.heap U'.vm U'.heap ∧ ReturnedEndW U o U' L rm.cells rm.slots)
theorem MetH.of {l : Launch} {Z : State} {EL : List (String × Nat)} {y : MethodName} {bytes : ByteArray} {maxL : Nat} {ret : Option FieldType} {ws : List Jvm.Cond} {rm : Room} {L : List Value} {h0 : Heap} {SL : List Addr} {Q : Vm → Option Value → Heap → List Loc → Vm → Prop} {n0 : Nat} (Ms : Array Slot)
    (pn : plainName y.cls = true) (ef : Ms = (ownLay L ++ List.replicate (maxL - (ownLay L).length) Slot.unset).toArray) (Z0 : n0 ≤ h0.size)
    (body : ∀ p e s m below meth c T, meth.sig.returnType = ret → c.maxLocals = maxL → meth.name = y.name → (∀ x ∈ SL, Safe Z EL s.vm h0 x) → s.heap = h0 → Sit p l e rm s m L.toArray below meth c bytes y.cls Z EL n0 h0 T h0 s.vm [] 0 0 → Go p e below (FinH Z EL s Q rm.cells rm.slots) T (mkF m 0 Ms [])) :
    MetH l Z EL y bytes maxL ret ws rm L.toArray h0 SL Q := by
  refine MetFree.of_bodySF (plainFor_of_name pn) hisR ?_
  intro p e s m args below meth c s₁ Bd hml0 hP hK
  obtain ⟨rfl, hZ, hh, hC, hSL⟩ := hP
  have X0 := Stand.of_body Bd
  have e0 : s₁.heap = h0 := by rw [← hh, Bd.state]; rfl
  have G := body p e s m below meth c s₁ Bd.returns hml0 (name_of_methodNamed Bd.named Bd.method).1 hSL hh
    ⟨X0, e0, ⟨0, (State.WarmedH.refl s).since 0, Nat.zero_le _⟩, hZ, findClass_of_methodNamed Bd.named, Fr.nil n0, by subst hh; exact CHr.refl hC, Z0, Bd.exec, Bd.bytes, Bd.notSynchronized, Nat.le_refl _⟩
  rw [ef, ← own_entry m L maxL] at G
  exact G
/-- the contract pays a call -/
theorem backX {y : MethodName} {bytes : ByteArray} {maxL : Nat} {ret : Option FieldType} {rm : Room} {len W : Nat} {as' : Array Value} {SL : List Addr} {Q : Vm → Option Value → Heap → List Loc → Vm → Prop}
    (hM : MetH l Z EL y bytes maxL ret [] rm as' h SL Q) (hZ : Z.Warmed39 vm0) (wc : (Cond.code y bytes maxL ret).before a0 Z = true) (wz : (Cond.initialized y.cls).before a0 Z = true) (hf : rm.frames + 1 ≤ R.frames) (hl : W + (maxL + 11) + rm.locals ≤ R.locals) (hEL : EW Z a0 EL) (H : CHv Z EL vm0 h) (hS : ∀ x ∈ SL, x < h.size ∧ Safe Z EL vm0 h x) :
    BackS l R p e below (s.setVm vm0) args y len W (fun A a => a = as' ∧ A.U.heap = h ∧ A.cells + rm.cells ≤ R.cells ∧ A.slots + rm.slots ≤ R.slots)
      (fun A _ v B => ∃ L vs, Q vs v B.U.heap L B.U.vm ∧ CHr Z EL vm0 h vs h ∧ B.locs = A.locs ++ L ∧ B.cells = A.cells + rm.cells ∧ B.slots = A.slots + rm.slots ∧ CHr Z EL vm0 h B.U.vm B.U.heap) :=
  BackS.of_freeW (bytes := bytes) (maxL := maxL) (ret := ret) (E := fun _ first o t L k n => k = rm.cells ∧ n = rm.slots ∧ (∃ v, o = .returned v ∧ Q first.vm v t.heap L t.vm) ∧ CHr Z EL first.vm first.heap t.vm t.heap) hM hf hl
    (fun m meth c A a Y hp => have hU : Z.Warmed39 A.U.vm := wtrans (s := s.setVm vm0) hZ Y.warmed
      ⟨by show (Jvm.Cond.and _ .tt).before a A.U = true; rw [Cond.before_and, mv hU wc]; rfl, mv hU wc, mv hU wz, hp.2.2.1, hp.2.2.2⟩)
    (fun m meth c A a g mk Y hp => ⟨hp.1, wtrans (s := s.setVm vm0) hZ Y.warmed, hp.2.1, (CHv.at Y hZ hEL H).1, fun x hx => by have A' := CHv.at Y hZ hEL H; exact CHr.safe A' (hS x hx).1 (hS x hx).2⟩) (fun _ _ _ _ _ _ _ _ _ => trivial)
    (fun _ _ _ _ ⟨v, L, h1, h2, h3, h4⟩ => ⟨L, _, _, h4, rfl, rfl, ⟨v, h1, h2⟩, h3⟩)
    (fun m meth c A a g mk v t L k n Y hp _ _ ⟨e1, e2, ⟨v', e3, e4⟩, e5⟩ => by
      cases e3; subst e1 e2
      refine ⟨L, A.U.vm, e4, CHv.at Y hZ hEL H, rfl, rfl, rfl, (CHv.at Y hZ hEL H).trans ?_⟩
      rw [← hp.2.1]; exact e5)
theorem kDONE (X : Sit p l e R s m args below meth c bs own Z EL n0 h0 T h vm0 locs cells slots) (hEL : EW Z a0 EL) {Q : Vm → Option Value → Heap → List Loc → Vm → Prop} {ck sk : Nat} {g : JFrame} {v : Option Value} (hv : meth.sig.returnType = none → v = none)
    (st : ∀ fs, (∀ (f : JFrame) (acts : List Action), f.method = m → f.locked = none → f.entered = [] → (doReturn e (T.setTop f) acts v).1 = T.setFrames fs) → Steps p.tables e below (T.setTop g) (T.setFrames fs))
    (hQ : ∀ ve, CHr Z EL vm0 h ve h → Q s.vm v h locs ve) (hc : cells ≤ ck) (hs : slots ≤ sk) : Go p e below (FinH Z EL s Q ck sk) T g := by
  obtain ⟨k0, hS, hk⟩ := X.2.2.1
  obtain ⟨fs, hr, hrun, hended, hW, hsame⟩ := X.1.leave hv X.hlk
  obtain ⟨a, b, c'⟩ := hS.ended (U := T.setFrames fs) hW (by show k0 ≤ T.heap.size; rw [X.hh]; exact hk) hsame
  refine ⟨_, _, st fs hr, hrun, hended, v, locs, rfl, ?_, ?_, ⟨v, rfl⟩, a, b, c'.mono hc hs⟩
  · show Q s.vm v T.heap locs T.vm
    rw [X.hh]; exact hQ _ (CHv.at X.1 X.hZ hEL X.C.1)
  · show CHr Z EL s.vm s.heap T.vm T.heap
    rw [X.hh]
    exact X.C.trans (CHv.at X.1 X.hZ hEL X.C.1)
theorem kRETV (X : Sit p l e R s m args below meth c bs own Z EL n0 h0 T h vm0 locs cells slots) (hEL : EW Z a0 EL) {Q : Vm → Option Value → Heap → List Loc → Vm → Prop} {ck sk : Nat} (hret : meth.sig.returnType = none) (hd : decode bs pc = .ok (.return_, 1)) (hQ : ∀ ve, CHr Z EL vm0 h ve h → Q s.vm none h locs ve) (hc : cells ≤ ck) (hs : slots ≤ sk) : Go p e below (FinH Z EL s Q ck sk) T (mkF m pc Ls []) :=
  kDONE X hEL (fun _ => rfl) (fun fs hr => X.1.returnOut X.hx hret (hb X.hby hd) hr) hQ hc hs
theorem kRETZ (X : Sit p l e R s m args below meth c bs own Z EL n0 h0 T h vm0 locs cells slots) (hEL : EW Z a0 EL) {Q : Vm → Option Value → Heap → List Loc → Vm → Prop} {ck sk : Nat} {z : Int32} {t : FieldType} (hret : meth.sig.returnType = some t) (ht : t = .boolean ∨ t = .byte ∨ t = .char ∨ t = .short) (hd : decode bs pc = .ok (.ireturn, 1)) (hQ : ∀ ve, CHr Z EL vm0 h ve h → Q s.vm (some (.int (nar t z))) h locs ve) (hc : cells ≤ ck) (hs : slots ≤ sk) : Go p e below (FinH Z EL s Q ck sk) T (mkF m pc Ls (.int z :: st)) :=
  kDONE X hEL (fun h => by rw [hret] at h; cases h) (fun fs hr => retN X.1 X.hx hret ht (hb X.hby hd) hr) hQ hc hs
theorem kRETI (X : Sit p l e R s m args below meth c bs own Z EL n0 h0 T h vm0 locs cells slots) (hEL : EW Z a0 EL) {Q : Vm → Option Value → Heap → List Loc → Vm → Prop} {ck sk : Nat} {z : Int32} (hret : meth.sig.returnType = some .int) (hd : decode bs pc = .ok (.ireturn, 1)) (hQ : ∀ ve, CHr Z EL vm0 h ve h → Q s.vm (some (.int z)) h locs ve) (hc : cells ≤ ck) (hs : slots ≤ sk) : Go p e below (FinH Z EL s Q ck sk) T (mkF m pc Ls (.int z :: st)) :=
  kDONE X hEL (fun h => by rw [hret] at h; cases h) (fun fs hr => retOut X.1 X.hx hret rfl (Or.inl ⟨rfl, Or.inl rfl, _, rfl⟩) (hb X.hby hd) hr) hQ hc hs
theorem kRETA (X : Sit p l e R s m args below meth c bs own Z EL n0 h0 T h vm0 locs cells slots) (hEL : EW Z a0 EL) {Q : Vm → Option Value → Heap → List Loc → Vm → Prop} {ck sk : Nat} {w : Value} {t : FieldType} (hret : meth.sig.returnType = some t) (ht : t.isReference = true) (hw : w.isRef = true) (hd : decode bs pc = .ok (.areturn, 1)) (hQ : ∀ ve, CHr Z EL vm0 h ve h → Q s.vm (some w) h locs ve) (hc : cells ≤ ck) (hs : slots ≤ sk) : Go p e below (FinH Z EL s Q ck sk) T (mkF m pc Ls (w :: st)) :=
  kDONE X hEL (fun h => by rw [hret] at h; cases h) (fun fs hr => retOut X.1 X.hx hret (by cases w <;> cases t <;> first | rfl | (cases hw; done) | (cases ht; done)) (Or.inr (Or.inr (Or.inr (Or.inr ⟨rfl, ht, hw⟩)))) (hb X.hby hd) hr) hQ hc hs
theorem kILn (X : Sit p l e R s m args below meth c bs own Z EL n0 h0 T h vm0 locs cells slots) {k : Fin 4} {v : Int32} (hd : decode bs pc = .ok (.iload_n k, 1)) (hl : Ls[k.val]? = some (.val (.int v))) (q : Go p e below F T (mkF m (pc + 1) Ls (.int v :: st))) : Go p e below F T (mkF m pc Ls st) :=
  Go.by (fun _ r => XS.iloadN X.1.here X.hx rfl (hb X.hby hd) hl r) q
theorem kLLn (X : Sit p l e R s m args below meth c bs own Z EL n0 h0 T h vm0 locs cells slots) {k : Fin 4} {v : Int64} (hd : decode bs pc = .ok (.lload_n k, 1)) (hl : Ls[k.val]? = some (.val (.long v))) (q : Go p e below F T (mkF m (pc + 1) Ls (.long v :: st))) : Go p e below F T (mkF m pc Ls st) :=
  Go.by (fun _ r => XT.lloadN X.1.here X.hx rfl (hb X.hby hd) hl r) q
theorem kALn (X : Sit p l e R s m args below meth c bs own Z EL n0 h0 T h vm0 locs cells slots) {k : Fin 4} {v : Value} (hd : decode bs pc = .ok (.aload_n k, 1)) (hl : Ls[k.val]? = some (.val v)) (hv : v.isRef = true) (q : Go p e below F T (mkF m (pc + 1) Ls (v :: st))) : Go p e below F T (mkF m pc Ls st) :=
  Go.by (fun _ r => XS.aloadN X.1.here X.hx rfl (hb X.hby hd) hl hv r) q
theorem kISn (X : Sit p l e R s m args below meth c bs own Z EL n0 h0 T h vm0 locs cells slots) {k : Fin 4} {v : Int32} (Ms : Array Slot) (hd : decode bs pc = .ok (.istore_n k, 1)) (hl : storeLocals Ls k.val (.int v) = some Ms) (q : Go p e below F T (mkF m (pc + 1) Ms st)) : Go p e below F T (mkF m pc Ls (.int v :: st)) :=
  Go.by (fun _ r => XS.istoreN X.1.here X.hx rfl (hb X.hby hd) rfl hl r) q
theorem kLSn (X : Sit p l e R s m args below meth c bs own Z EL n0 h0 T h vm0 locs cells slots) {k : Fin 4} {v : Int64} (Ms : Array Slot) (hd : decode bs pc = .ok (.lstore_n k, 1)) (hl : storeLocals Ls k.val (.long v) = some Ms) (q : Go p e below F T (mkF m (pc + 1) Ms st)) : Go p e below F T (mkF m pc Ls (.long v :: st)) :=
  Go.by (fun _ r => XT.lstoreN X.1.here X.hx rfl (hb X.hby hd) rfl hl r) q
theorem kASn (X : Sit p l e R s m args below meth c bs own Z EL n0 h0 T h vm0 locs cells slots) {k : Fin 4} {v : Value} (Ms : Array Slot) (hd : decode bs pc = .ok (.astore_n k, 1)) (hv : v.isRef = true) (hl : storeLocals Ls k.val v = some Ms) (q : Go p e below F T (mkF m (pc + 1) Ms st)) : Go p e below F T (mkF m pc Ls (v :: st)) :=
  Go.by (fun _ r => XS.astoreN X.1.here X.hx rfl (hb X.hby hd) rfl hv hl r) q
theorem kIL (X : Sit p l e R s m args below meth c bs own Z EL n0 h0 T h vm0 locs cells slots) {k : Nat} {v : Int32} (hd : decode bs pc = .ok (.iload k, 2)) (hl : Ls[k]? = some (.val (.int v))) (q : Go p e below F T (mkF m (pc + 2) Ls (.int v :: st))) : Go p e below F T (mkF m pc Ls st) :=
  Go.by (fun _ r => XS.iload X.1.here X.hx rfl (hb X.hby hd) hl r) q
theorem kLL (X : Sit p l e R s m args below meth c bs own Z EL n0 h0 T h vm0 locs cells slots) {k : Nat} {v : Int64} (hd : decode bs pc = .ok (.lload k, 2)) (hl : Ls[k]? = some (.val (.long v))) (q : Go p e below F T (mkF m (pc + 2) Ls (.long v :: st))) : Go p e below F T (mkF m pc Ls st) :=
  Go.by (fun _ r => XT.lload X.1.here X.hx rfl (hb X.hby hd) hl r) q
theorem kAL (X : Sit p l e R s m args below meth c bs own Z EL n0 h0 T h vm0 locs cells slots) {k : Nat} {v : Value} (hd : decode bs pc = .ok (.aload k, 2)) (hl : Ls[k]? = some (.val v)) (hv : v.isRef = true) (q : Go p e below F T (mkF m (pc + 2) Ls (v :: st))) : Go p e below F T (mkF m pc Ls st) :=
  Go.by (fun _ r => XS.aload X.1.here X.hx rfl (hb X.hby hd) hl hv r) q
theorem kIS (X : Sit p l e R s m args below meth c bs own Z EL n0 h0 T h vm0 locs cells slots) {k : Nat} {v : Int32} (Ms : Array Slot) (hd : decode bs pc = .ok (.istore k, 2)) (hl : storeLocals Ls k (.int v) = some Ms) (q : Go p e below F T (mkF m (pc + 2) Ms st)) : Go p e below F T (mkF m pc Ls (.int v :: st)) :=
  Go.by (fun _ r => XS.istore X.1.here X.hx rfl (hb X.hby hd) rfl hl r) q
theorem kLS (X : Sit p l e R s m args below meth c bs own Z EL n0 h0 T h vm0 locs cells slots) {k : Nat} {v : Int64} (Ms : Array Slot) (hd : decode bs pc = .ok (.lstore k, 2)) (hl : storeLocals Ls k (.long v) = some Ms) (q : Go p e below F T (mkF m (pc + 2) Ms st)) : Go p e below F T (mkF m pc Ls (.long v :: st)) :=
  Go.by (fun _ r => XT.lstore X.1.here X.hx rfl (hb X.hby hd) rfl hl r) q
theorem kAS (X : Sit p l e R s m args below meth c bs own Z EL n0 h0 T h vm0 locs cells slots) {k : Nat} {v : Value} (Ms : Array Slot) (hd : decode bs pc = .ok (.astore k, 2)) (hv : v.isRef = true) (hl : storeLocals Ls k v = some Ms) (q : Go p e below F T (mkF m (pc + 2) Ms st)) : Go p e below F T (mkF m pc Ls (v :: st)) :=
  Go.by (fun _ r => XS.astore X.1.here X.hx rfl (hb X.hby hd) rfl hv hl r) q
theorem kIC (X : Sit p l e R s m args below meth c bs own Z EL n0 h0 T h vm0 locs cells slots) {i : Int} (v : Int32) (hd : decode bs pc = .ok (.iconst i, 1)) (hv : Int32.ofInt i = v) (q : Go p e below F T (mkF m (pc + 1) Ls (.int v :: st))) : Go p e below F T (mkF m pc Ls st) :=
  Go.by (fun _ r => XT.iconstV X.1.here X.hx rfl v (hb X.hby hd) hv r) q
theorem kBI (X : Sit p l e R s m args below meth c bs own Z EL n0 h0 T h vm0 locs cells slots) {i : Int} (v : Int32) (hd : decode bs pc = .ok (.bipush i, 2)) (hv : (Int8.ofInt i).toInt32 = v) (q : Go p e below F T (mkF m (pc + 2) Ls (.int v :: st))) : Go p e below F T (mkF m pc Ls st) :=
  Go.by (fun _ r => XT.bipushV X.1.here X.hx rfl v (hb X.hby hd) hv r) q
theorem kSI (X : Sit p l e R s m args below meth c bs own Z EL n0 h0 T h vm0 locs cells slots) {i : Int} (v : Int32) (hd : decode bs pc = .ok (.sipush i, 3)) (hv : (Int16.ofInt i).toInt32 = v) (q : Go p e below F T (mkF m (pc + 3) Ls (.int v :: st))) : Go p e below F T (mkF m pc Ls st) :=
  Go.by (fun _ r => XT.sipushV X.1.here X.hx rfl v (hb X.hby hd) hv r) q
theorem kLC (X : Sit p l e R s m args below meth c bs own Z EL n0 h0 T h vm0 locs cells slots) {k : Fin 2} (v : Int64) (hd : decode bs pc = .ok (.lconst k, 1)) (hv : Int64.ofNat k = v) (q : Go p e below F T (mkF m (pc + 1) Ls (.long v :: st))) : Go p e below F T (mkF m pc Ls st) :=
  Go.by (fun _ r => XT.lconstV X.1.here X.hx rfl v (hb X.hby hd) hv r) q
theorem kNULL (X : Sit p l e R s m args below meth c bs own Z EL n0 h0 T h vm0 locs cells slots)  (hd : decode bs pc = .ok (.aconst_null, 1)) (q : Go p e below F T (mkF m (pc + 1) Ls (.null :: st))) : Go p e below F T (mkF m pc Ls st) :=
  Go.by (fun _ r => XS.aconstNull X.1.here X.hx rfl (hb X.hby hd) r) q
theorem kIADD (X : Sit p l e R s m args below meth c bs own Z EL n0 h0 T h vm0 locs cells slots) {x y : Int32} (z : Int32) (hd : decode bs pc = .ok (.iadd, 1)) (hz : x + y = z) (q : Go p e below F T (mkF m (pc + 1) Ls (.int z :: st))) : Go p e below F T (mkF m pc Ls (.int y :: .int x :: st)) :=
  Go.by (fun _ r => XS.iadd X.1.here X.hx rfl (hb X.hby hd) rfl (hz ▸ r)) q
theorem kISUB (X : Sit p l e R s m args below meth c bs own Z EL n0 h0 T h vm0 locs cells slots) {x y : Int32} (z : Int32) (hd : decode bs pc = .ok (.isub, 1)) (hz : x - y = z) (q : Go p e below F T (mkF m (pc + 1) Ls (.int z :: st))) : Go p e below F T (mkF m pc Ls (.int y :: .int x :: st)) :=
  Go.by (fun _ r => XS.isub X.1.here X.hx rfl (hb X.hby hd) rfl (hz ▸ r)) q
theorem kIMUL (X : Sit p l e R s m args below meth c bs own Z EL n0 h0 T h vm0 locs cells slots) {x y : Int32} (z : Int32) (hd : decode bs pc = .ok (.imul, 1)) (hz : x * y = z) (q : Go p e below F T (mkF m (pc + 1) Ls (.int z :: st))) : Go p e below F T (mkF m pc Ls (.int y :: .int x :: st)) :=
  Go.by (fun _ r => XS.imul X.1.here X.hx rfl (hb X.hby hd) rfl (hz ▸ r)) q
theorem kIAND (X : Sit p l e R s m args below meth c bs own Z EL n0 h0 T h vm0 locs cells slots) {x y : Int32} (z : Int32) (hd : decode bs pc = .ok (.iand, 1)) (hz : x &&& y = z) (q : Go p e below F T (mkF m (pc + 1) Ls (.int z :: st))) : Go p e below F T (mkF m pc Ls (.int y :: .int x :: st)) :=
  Go.by (fun _ r => XS.iand X.1.here X.hx rfl (hb X.hby hd) rfl (hz ▸ r)) q
theorem kIOR (X : Sit p l e R s m args below meth c bs own Z EL n0 h0 T h vm0 locs cells slots) {x y : Int32} (z : Int32) (hd : decode bs pc = .ok (.ior, 1)) (hz : x ||| y = z) (q : Go p e below F T (mkF m (pc + 1) Ls (.int z :: st))) : Go p e below F T (mkF m pc Ls (.int y :: .int x :: st)) :=
  Go.by (fun _ r => XT.ior X.1.here X.hx rfl (hb X.hby hd) rfl (hz ▸ r)) q
theorem kIXOR (X : Sit p l e R s m args below meth c bs own Z EL n0 h0 T h vm0 locs cells slots) {x y : Int32} (z : Int32) (hd : decode bs pc = .ok (.ixor, 1)) (hz : x ^^^ y = z) (q : Go p e below F T (mkF m (pc + 1) Ls (.int z :: st))) : Go p e below F T (mkF m pc Ls (.int y :: .int x :: st)) :=
  Go.by (fun _ r => XT.ixor X.1.here X.hx rfl (hb X.hby hd) rfl (hz ▸ r)) q
theorem kISHL (X : Sit p l e R s m args below meth c bs own Z EL n0 h0 T h vm0 locs cells slots) {x y : Int32} (z : Int32) (hd : decode bs pc = .ok (.ishl, 1)) (hz : x <<< (y &&& 31) = z) (q : Go p e below F T (mkF m (pc + 1) Ls (.int z :: st))) : Go p e below F T (mkF m pc Ls (.int y :: .int x :: st)) :=
  Go.by (fun _ r => XT.ishl X.1.here X.hx rfl (hb X.hby hd) rfl (hz ▸ r)) q
theorem kISHR (X : Sit p l e R s m args below meth c bs own Z EL n0 h0 T h vm0 locs cells slots) {x y : Int32} (z : Int32) (hd : decode bs pc = .ok (.ishr, 1)) (hz : x >>> (y &&& 31) = z) (q : Go p e below F T (mkF m (pc + 1) Ls (.int z :: st))) : Go p e below F T (mkF m pc Ls (.int y :: .int x :: st)) :=
  Go.by (fun _ r => XT.ishr X.1.here X.hx rfl (hb X.hby hd) rfl (hz ▸ r)) q
theorem kIUSHR (X : Sit p l e R s m args below meth c bs own Z EL n0 h0 T h vm0 locs cells slots) {x y : Int32} (z : Int32) (hd : decode bs pc = .ok (.iushr, 1)) (hz : XT.ushr x y = z) (q : Go p e below F T (mkF m (pc + 1) Ls (.int z :: st))) : Go p e below F T (mkF m pc Ls (.int y :: .int x :: st)) :=
  Go.by (fun _ r => XT.iushr X.1.here X.hx rfl (hb X.hby hd) rfl (hz ▸ r)) q
theorem kIREM (X : Sit p l e R s m args below meth c bs own Z EL n0 h0 T h vm0 locs cells slots) {x y : Int32} (z : Int32) (hd : decode bs pc = .ok (.irem, 1)) (hy : y ≠ 0) (hz : x % y = z) (q : Go p e below F T (mkF m (pc + 1) Ls (.int z :: st))) : Go p e below F T (mkF m pc Ls (.int y :: .int x :: st)) :=
  Go.by (fun _ r => iremM X.1 X.hx rfl (hb X.hby hd) rfl hy (hz ▸ r)) q
theorem kI2C (X : Sit p l e R s m args below meth c bs own Z EL n0 h0 T h vm0 locs cells slots) {x : Int32} (z : Int32) (hd : decode bs pc = .ok (.i2c, 1)) (hz : x.toUInt32.toUInt16.toUInt32.toInt32 = z) (q : Go p e below F T (mkF m (pc + 1) Ls (.int z :: st))) : Go p e below F T (mkF m pc Ls (.int x :: st)) :=
  Go.by (fun _ r => XT.i2c X.1.here X.hx rfl (hb X.hby hd) rfl (hz ▸ r)) q
theorem kI2B (X : Sit p l e R s m args below meth c bs own Z EL n0 h0 T h vm0 locs cells slots) {x : Int32} (z : Int32) (hd : decode bs pc = .ok (.i2b, 1)) (hz : x.toInt8.toInt32 = z) (q : Go p e below F T (mkF m (pc + 1) Ls (.int z :: st))) : Go p e below F T (mkF m pc Ls (.int x :: st)) :=
  Go.by (fun _ r => XT.i2b X.1.here X.hx rfl (hb X.hby hd) rfl (hz ▸ r)) q
theorem kI2L (X : Sit p l e R s m args below meth c bs own Z EL n0 h0 T h vm0 locs cells slots) {x : Int32} (hd : decode bs pc = .ok (.i2l, 1)) (q : Go p e below F T (mkF m (pc + 1) Ls (.long x.toInt64 :: st))) : Go p e below F T (mkF m pc Ls (.int x :: st)) :=
  Go.by (fun _ r => XT.i2l X.1.here X.hx rfl (hb X.hby hd) rfl r) q
theorem kDUP (X : Sit p l e R s m args below meth c bs own Z EL n0 h0 T h vm0 locs cells slots) {x : Value} (hd : decode bs pc = .ok (.dup, 1)) (hc : x.category = 1) (q : Go p e below F T (mkF m (pc + 1) Ls (x :: x :: st))) : Go p e below F T (mkF m pc Ls (x :: st)) :=
  Go.by (fun _ r => XS.dup X.1.here X.hx rfl (hb X.hby hd) rfl hc r) q
theorem kDUPX (X : Sit p l e R s m args below meth c bs own Z EL n0 h0 T h vm0 locs cells slots) {x y : Value} (hd : decode bs pc = .ok (.dup_x1, 1)) (hc : x.category = 1) (hc2 : y.category = 1) (q : Go p e below F T (mkF m (pc + 1) Ls (x :: y :: x :: st))) : Go p e below F T (mkF m pc Ls (x :: y :: st)) :=
  Go.by (fun _ r => XT.dupX1 X.1.here X.hx rfl (hb X.hby hd) rfl hc hc2 r) q
theorem kPOP (X : Sit p l e R s m args below meth c bs own Z EL n0 h0 T h vm0 locs cells slots) {x : Value} (hd : decode bs pc = .ok (.pop, 1)) (hc : x.category = 1) (q : Go p e below F T (mkF m (pc + 1) Ls st)) : Go p e below F T (mkF m pc Ls (x :: st)) :=
  Go.by (fun _ r => XT.pop X.1.here X.hx rfl (hb X.hby hd) rfl hc r) q
theorem kIINC (X : Sit p l e R s m args below meth c bs own Z EL n0 h0 T h vm0 locs cells slots) {k : Nat} {i : Int} {x : Int32} (v z : Int32) (Ms : Array Slot) (hd : decode bs pc = .ok (.iinc k i, 3)) (hv : Int32.ofInt i = v) (hl : Ls[k]? = some (.val (.int x))) (hz : x + v = z) (hl2 : storeLocals Ls k (.int z) = some Ms) (q : Go p e below F T (mkF m (pc + 3) Ms st)) : Go p e below F T (mkF m pc Ls st) :=
  Go.by (fun _ r => XT.iincV X.1.here X.hx rfl v (hb X.hby hd) hv hl (hz ▸ hl2) r) q
theorem kGOTO (X : Sit p l e R s m args below meth c bs own Z EL n0 h0 T h vm0 locs cells slots)  {o : Int} (pc2 : Nat) (hd : decode bs pc = .ok (.goto o, 3))  (ho : 0 ≤ (pc : Int) + o ∧ ((pc : Int) + o).toNat = pc2) (q : Go p e below F T (mkF m pc2 Ls st)) : Go p e below F T (mkF m pc Ls st) :=
  Go.by (fun _ r => XS.goto X.1.here X.hx rfl (pc0 := pc) (pc' := pc2) rfl (hb X.hby hd)  ho.1 ho.2 r) q
theorem kIFt (X : Sit p l e R s m args below meth c bs own Z EL n0 h0 T h vm0 locs cells slots) {cd : ClassFile.Cond} {x : Int32} {o : Int} (pc2 : Nat) (hd : decode bs pc = .ok (.ifCond cd o, 3)) (hc : ifCond.holds cd x = true) (ho : 0 ≤ (pc : Int) + o ∧ ((pc : Int) + o).toNat = pc2) (q : Go p e below F T (mkF m pc2 Ls st)) : Go p e below F T (mkF m pc Ls (.int x :: st)) :=
  Go.by (fun _ r => XS.ifYes X.1.here X.hx rfl (pc0 := pc) (pc' := pc2) rfl (hb X.hby hd) rfl hc ho.1 ho.2 r) q
theorem kICt (X : Sit p l e R s m args below meth c bs own Z EL n0 h0 T h vm0 locs cells slots) {cd : ClassFile.Cond} {x y : Int32} {o : Int} (pc2 : Nat) (hd : decode bs pc = .ok (.if_icmp cd o, 3)) (hc : if_icmp.holds cd x y = true) (ho : 0 ≤ (pc : Int) + o ∧ ((pc : Int) + o).toNat = pc2) (q : Go p e below F T (mkF m pc2 Ls st)) : Go p e below F T (mkF m pc Ls (.int y :: .int x :: st)) :=
  Go.by (fun _ r => XS.icmpYes X.1.here X.hx rfl (pc0 := pc) (pc' := pc2) rfl (hb X.hby hd) rfl hc ho.1 ho.2 r) q
theorem kACt (X : Sit p l e R s m args below meth c bs own Z EL n0 h0 T h vm0 locs cells slots) {cd : ClassFile.ACond} {x y : Value} {o : Int} (pc2 : Nat) (hd : decode bs pc = .ok (.if_acmp cd o, 3)) (hx1 : x.isRef = true) (hy1 : y.isRef = true) (hc : XT.acmp cd x y = true) (ho : 0 ≤ (pc : Int) + o ∧ ((pc : Int) + o).toNat = pc2) (q : Go p e below F T (mkF m pc2 Ls st)) : Go p e below F T (mkF m pc Ls (y :: x :: st)) :=
  Go.by (fun _ r => XT.acmpYes X.1.here X.hx rfl (pc0 := pc) (pc' := pc2) rfl (hb X.hby hd) rfl hx1 hy1 hc ho.1 ho.2 r) q
theorem kNUt (X : Sit p l e R s m args below meth c bs own Z EL n0 h0 T h vm0 locs cells slots)  {o : Int} (pc2 : Nat) (hd : decode bs pc = .ok (.ifnull o, 3))  (ho : 0 ≤ (pc : Int) + o ∧ ((pc : Int) + o).toNat = pc2) (q : Go p e below F T (mkF m pc2 Ls st)) : Go p e below F T (mkF m pc Ls (.null :: st)) :=
  Go.by (fun _ r => XS.ifnullYes X.1.here X.hx rfl (pc0 := pc) (pc' := pc2) rfl (hb X.hby hd) rfl ho.1 ho.2 r) q
theorem kNNt (X : Sit p l e R s m args below meth c bs own Z EL n0 h0 T h vm0 locs cells slots) {b : Addr} {o : Int} (pc2 : Nat) (hd : decode bs pc = .ok (.ifnonnull o, 3))  (ho : 0 ≤ (pc : Int) + o ∧ ((pc : Int) + o).toNat = pc2) (q : Go p e below F T (mkF m pc2 Ls st)) : Go p e below F T (mkF m pc Ls (.ref b :: st)) :=
  Go.by (fun _ r => XT.ifnonnullYes X.1.here X.hx rfl (pc0 := pc) (pc' := pc2) rfl (hb X.hby hd) rfl ho.1 ho.2 r) q
theorem kIFf (X : Sit p l e R s m args below meth c bs own Z EL n0 h0 T h vm0 locs cells slots) {cd : ClassFile.Cond} {x : Int32} {o : Int} (hd : decode bs pc = .ok (.ifCond cd o, 3)) (hc : ifCond.holds cd x = false) (q : Go p e below F T (mkF m (pc + 3) Ls st)) : Go p e below F T (mkF m pc Ls (.int x :: st)) :=
  Go.by (fun _ r => XS.ifNo X.1.here X.hx rfl (hb X.hby hd) rfl hc r) q
theorem kICf (X : Sit p l e R s m args below meth c bs own Z EL n0 h0 T h vm0 locs cells slots) {cd : ClassFile.Cond} {x y : Int32} {o : Int} (hd : decode bs pc = .ok (.if_icmp cd o, 3)) (hc : if_icmp.holds cd x y = false) (q : Go p e below F T (mkF m (pc + 3) Ls st)) : Go p e below F T (mkF m pc Ls (.int y :: .int x :: st)) :=
  Go.by (fun _ r => XS.icmpNo X.1.here X.hx rfl (hb X.hby hd) rfl hc r) q
theorem kACf (X : Sit p l e R s m args below meth c bs own Z EL n0 h0 T h vm0 locs cells slots) {cd : ClassFile.ACond} {x y : Value} {o : Int} (hd : decode bs pc = .ok (.if_acmp cd o, 3)) (hx1 : x.isRef = true) (hy1 : y.isRef = true) (hc : XT.acmp cd x y = false) (q : Go p e below F T (mkF m (pc + 3) Ls st)) : Go p e below F T (mkF m pc Ls (y :: x :: st)) :=
  Go.by (fun _ r => XT.acmpNo X.1.here X.hx rfl (hb X.hby hd) rfl hx1 hy1 hc r) q
theorem kNUf (X : Sit p l e R s m args below meth c bs own Z EL n0 h0 T h vm0 locs cells slots) {b : Addr} {o : Int} (hd : decode bs pc = .ok (.ifnull o, 3)) (q : Go p e below F T (mkF m (pc + 3) Ls st)) : Go p e below F T (mkF m pc Ls (.ref b :: st)) :=
  Go.by (fun _ r => XS.ifnullNo X.1.here X.hx rfl (hb X.hby hd) rfl r) q
theorem kNNf (X : Sit p l e R s m args below meth c bs own Z EL n0 h0 T h vm0 locs cells slots) {o : Int} (hd : decode bs pc = .ok (.ifnonnull o, 3)) (q : Go p e below F T (mkF m (pc + 3) Ls st)) : Go p e below F T (mkF m pc Ls (.null :: st)) :=
  Go.by (fun _ r => XT.ifnonnullNo X.1.here X.hx rfl (hb X.hby hd) rfl r) q
theorem kLDCI (X : Sit p l e R s m args below meth c bs own Z EL n0 h0 T h vm0 locs cells slots) {i : Nat} {v : Int32} (w : (Cond.constant own i v).before a0 Z = true) (hd : decode bs pc = .ok (.ldc i, 2)) (q : Go p e below F T (mkF m (pc + 2) Ls (.int v :: st))) : Go p e below F T (mkF m pc Ls st) :=
  Go.by (fun _ r => X.1.ldcI X.hx X.hown (mvT (s := s.setVm vm0) X.hZ w) rfl (hb X.hby hd) r) q
theorem kGETS (X : Sit p l e R s m args below meth c bs own Z EL n0 h0 T h vm0 locs cells slots) {R0 O n d : String} {i : Nat} {v : Value} (w : (Cond.fieldLink own i R0 n d).before a0 Z = true) (via : Via Z R0 O n d) (f : Sta Z h O n d v) (hd : decode bs pc = .ok (.getstatic i, 3))
    (q : ∀ T', Sit p l e R s m args below meth c bs own Z EL n0 h0 T' h vm0 locs cells slots → Go p e below F T' (mkF m (pc + 3) Ls (v :: st))) : Go p e below F T (mkF m pc Ls st) := by
  obtain ⟨T', Y, e', stp⟩ := getS X.1 X.hx X.hZ X.hown (host := "") w via X.hh f (g := mkF m pc Ls st) rfl (hb X.hby hd)
  exact Go.by stp (q T' (X.mk0 Y e' X.N))
theorem kGETF (X : Sit p l e R s m args below meth c bs own Z EL n0 h0 T h vm0 locs cells slots) {R0 O n d : String} {i : Nat} {a : Addr} {v : Value} (w : (Cond.fieldLink own i R0 n d).before a0 Z = true) (via : Via Z R0 O n d) (f : Fld Z h a O n d v) (hd : decode bs pc = .ok (.getfield i, 3))
    (q : ∀ T', Sit p l e R s m args below meth c bs own Z EL n0 h0 T' h vm0 locs cells slots → Go p e below F T' (mkF m (pc + 3) Ls (v :: st))) : Go p e below F T (mkF m pc Ls (.ref a :: st)) := by
  obtain ⟨T', Y, e', stp⟩ := getF X.1 X.hx X.hZ X.hown (host := "") (Or.inl w) via X.hh f (g := mkF m pc Ls (.ref a :: st)) rfl rfl (hb X.hby hd)
  exact Go.by stp (q T' (X.mk0 Y e' X.N))
theorem kPUTF (X : Sit p l e R s m args below meth c bs own Z EL n0 h0 T h vm0 locs cells slots) {R0 O n d C : String} {i kk : Nat} {ty : FieldType} {a : Addr} {v old : Value} (w : (Cond.fieldLink own i R0 n d).before a0 Z = true) (via : Via Z R0 O n d) (f : Fld Z h a O n d old) (E : Exa Z h a C) (L : (Cond.lays C O n d).before a0 Z = true ∨ ((Cond.laysFinal C O n d).before a0 Z = true ∧ own = O ∧ meth.name = "<init>")) (wi : (Cond.instantiable C kk).before a0 Z = true)
    (hty : parseFieldDescriptor d = some ty) (hn : narrow ty v = v) (hf : fits ty v = true) (ga : n0 ≤ a) (S : Safe Z EL vm0 h a) (hd : decode bs pc = .ok (.putfield i, 3))
    (q : ∀ T' h' locs', Wr h h' a (Jvm.RoadKit.slotOf Z O n d) v → Sit p l e R s m args below meth c bs own Z EL n0 h0 T' h' vm0 locs' cells slots → Go p e below F T' (mkF m (pc + 3) Ls st)) : Go p e below F T (mkF m pc Ls (v :: .ref a :: st)) := by
  obtain ⟨T', h', Y, e', W, stp⟩ := putF X.1 X.hx X.hZ X.hown (host := "") (Or.inl w) via X.hh f E L wi hty hn hf (g := mkF m pc Ls (v :: .ref a :: st)) rfl rfl (hb X.hby hd)
  exact Go.by stp (q T' h' _ W (X.mk1 Y e' (Fr.snoc Y X.N ga) (CHr.wr W S X.C.1)))
theorem kNEW (X : Sit p l e R s m args below meth c bs own Z EL n0 h0 T h vm0 locs cells slots) {C : String} {i n : Nat} (w : (Cond.classLink own i C).before a0 Z = true) (wi : (Cond.instantiable C n).before a0 Z = true) (wz : (Cond.initialized C).before a0 Z = true) (hd : decode bs pc = .ok (.new i, 3)) (hc : cells + 1 ≤ R.cells) (hl : slots + n ≤ R.slots)
    (q : ∀ T' h' a, Ext h h' → a = h.size → n0 ≤ a → Exa Z h' a C → (∀ {O nm d : String} {ty : FieldType}, Laid Z a0 C O nm d → parseFieldDescriptor d = some ty → Fld Z h' a O nm d (defaultValue ty)) → Safe Z EL vm0 h' a → Sit p l e R s m args below meth c bs own Z EL n0 h0 T' h' vm0 locs (cells + 1) (slots + n) → Go p e below F T' (mkF m (pc + 3) Ls (.ref a :: st))) : Go p e below F T (mkF m pc Ls st) := by
  obtain ⟨T', h', Y, e', E, A, D, -, stp⟩ := newO X.1 X.hx X.hZ X.hown w wi wz X.hh (g := mkF m pc Ls st) rfl (hb X.hby hd) hc hl
  exact Go.by stp (q T' h' h.size E rfl X.n A D (Safe.ext E X.C.1 (Safe.new (Nat.le_refl _))) (X.mk1 Y e' X.N (CHr.ext E X.C.1)))
theorem kNEWP (X : Sit p l e R s m args below meth c bs own Z EL n0 h0 T h vm0 locs cells slots) {aty : ArrayType} (w : (Cond.arrayClass (newarray.typeOf aty)).before a0 Z = true) {n : Int32} {cap : Nat} (hd : decode bs pc = .ok (.newarray aty, 2)) (hn : ¬ n < 0) (hcap : n.toNatClampNeg ≤ cap) (hb8 : cap * 8 ≤ 536870912) (hc : cells + 1 ≤ R.cells) (hl : slots + cap ≤ R.slots)
    (q : ∀ T' h' a k, Ext h h' → a = h.size → n0 ≤ a → Arv Z h' a k (newarray.typeOf aty) n [] (defaultValue (newarray.typeOf aty)) → Safe Z EL vm0 h' a → Sit p l e R s m args below meth c bs own Z EL n0 h0 T' h' vm0 locs (cells + 1) (slots + cap) → Go p e below F T' (mkF m (pc + 2) Ls (.ref a :: st))) : Go p e below F T (mkF m pc Ls (.int n :: st)) := by
  obtain ⟨T', h', k, Y, e', E, A, stp⟩ := newP X.1 X.hx X.hZ w X.hh (g := mkF m pc Ls (.int n :: st)) rfl (hb X.hby hd) rfl hn hcap hb8 hc hl
  exact Go.by stp (q T' h' h.size k E rfl X.n (Arv.new A hn) (Safe.ext E X.C.1 (Safe.new (Nat.le_refl _))) (X.mk1 Y e' X.N (CHr.ext E X.C.1)))
theorem kNEWR (X : Sit p l e R s m args below meth c bs own Z EL n0 h0 T h vm0 locs cells slots) {C : String} {i : Nat} (w1 : (Cond.classLink own i C).before a0 Z = true) (w2 : (Cond.arrayOver (.object C)).before a0 Z = true) {n : Int32} {cap : Nat} (hd : decode bs pc = .ok (.anewarray i, 3)) (hn : ¬ n < 0) (hcap : n.toNatClampNeg ≤ cap) (hb8 : cap * 8 ≤ 536870912) (hc : cells + 1 ≤ R.cells) (hl : slots + cap ≤ R.slots)
    (q : ∀ T' h' a k, Ext h h' → a = h.size → n0 ≤ a → Arv Z h' a k (.object C) n [] .null → Ovr Z k C → Safe Z EL vm0 h' a → Sit p l e R s m args below meth c bs own Z EL n0 h0 T' h' vm0 locs (cells + 1) (slots + cap) → Go p e below F T' (mkF m (pc + 3) Ls (.ref a :: st))) : Go p e below F T (mkF m pc Ls (.int n :: st)) := by
  obtain ⟨T', h', k, Y, e', E, A, O, stp⟩ := newR X.1 X.hx X.hZ X.hown w1 w2 X.hh (g := mkF m pc Ls (.int n :: st)) rfl (hb X.hby hd) rfl hn hcap hb8 hc hl
  exact Go.by stp (q T' h' h.size k E rfl X.n (Arv.new A hn) O (Safe.ext E X.C.1 (Safe.new (Nat.le_refl _))) (X.mk1 Y e' X.N (CHr.ext E X.C.1)))
theorem kAASTO (X : Sit p l e R s m args below meth c bs own Z EL n0 h0 T h vm0 locs cells slots) {a : Addr} {v : Value} {k : ClassId} {ty : FieldType} {z j : Int32} {vs : List Value} {dv : Value} (f : Arv Z h a k ty z vs dv) (hty : ty.isReference = true) (I : Sto Z h a v) (hvr : v.isRef = true) (hj : ¬ j < 0 ∧ j < z) (i : Nat) (hi : j.toNatClampNeg = i) (hl : i < vs.length) (ga : n0 ≤ a) (S : Safe Z EL vm0 h a) (hd : decode bs pc = .ok (.aastore, 1))
    (q : ∀ T' h' locs', Wr h h' a j.toNatClampNeg v → Arv Z h' a k ty z (vs.set i v) dv → Sit p l e R s m args below meth c bs own Z EL n0 h0 T' h' vm0 locs' cells slots → Go p e below F T' (mkF m (pc + 1) Ls st)) : Go p e below F T (mkF m pc Ls (v :: .int j :: .ref a :: st)) := by
  obtain ⟨cl, A, q1, S', q3, H, G⟩ := f
  obtain ⟨T', h', Y, e', W, stp⟩ := stR X.1 X.hx X.hZ X.hh A (inb_of S' hj) hty I (g := mkF m pc Ls (v :: .int j :: .ref a :: st)) rfl rfl (hb X.hby hd)
  exact Go.by stp (q T' h' _ W (Arv.set A q1 S' q3 H G (by cases v <;> first | (cases hvr; done) | (cases ty <;> first | rfl | (cases hty; done))) W i hi hl) (X.mk1 Y e' (Fr.snoc Y X.N ga) (CHr.wr W S X.C.1)))
theorem kCASTO (X : Sit p l e R s m args below meth c bs own Z EL n0 h0 T h vm0 locs cells slots) {a : Addr} {x : Int32} {k : ClassId} {z j : Int32} {vs : List Value} {dv : Value} (f : Arv Z h a k .char z vs dv) (hj : ¬ j < 0 ∧ j < z) (i : Nat) (y : Int32) (hy : nar .char x = y) (hi : j.toNatClampNeg = i) (hl : i < vs.length) (ga : n0 ≤ a) (S : Safe Z EL vm0 h a) (hd : decode bs pc = .ok (.castore, 1))
    (q : ∀ T' h' locs', Wr h h' a j.toNatClampNeg (.int y) → Arv Z h' a k .char z (vs.set i (.int y)) dv → Sit p l e R s m args below meth c bs own Z EL n0 h0 T' h' vm0 locs' cells slots → Go p e below F T' (mkF m (pc + 1) Ls st)) : Go p e below F T (mkF m pc Ls (.int x :: .int j :: .ref a :: st)) := by
  subst hy
  obtain ⟨cl, A, q1, S', q3, H, G⟩ := f
  obtain ⟨T', h', Y, e', W, stp⟩ := stC X.1 X.hx X.hZ X.hh A (inb_of S' hj) (g := mkF m pc Ls (.int x :: .int j :: .ref a :: st)) rfl rfl (hb X.hby hd)
  exact Go.by stp (q T' h' _ W (Arv.set A q1 S' q3 H G (fits_nar_char x) W i hi hl) (X.mk1 Y e' (Fr.snoc Y X.N ga) (CHr.wr W S X.C.1)))
theorem kBASTO (X : Sit p l e R s m args below meth c bs own Z EL n0 h0 T h vm0 locs cells slots) {a : Addr} {x : Int32} {k : ClassId} {z j : Int32} {vs : List Value} {dv : Value} (f : Arv Z h a k .byte z vs dv) (hj : ¬ j < 0 ∧ j < z) (i : Nat) (y : Int32) (hy : nar .byte x = y) (hi : j.toNatClampNeg = i) (hl : i < vs.length) (ga : n0 ≤ a) (S : Safe Z EL vm0 h a) (hd : decode bs pc = .ok (.bastore, 1))
    (q : ∀ T' h' locs', Wr h h' a j.toNatClampNeg (.int y) → Arv Z h' a k .byte z (vs.set i (.int y)) dv → Sit p l e R s m args below meth c bs own Z EL n0 h0 T' h' vm0 locs' cells slots → Go p e below F T' (mkF m (pc + 1) Ls st)) : Go p e below F T (mkF m pc Ls (.int x :: .int j :: .ref a :: st)) := by
  subst hy
  obtain ⟨cl, A, q1, S', q3, H, G⟩ := f
  obtain ⟨T', h', Y, e', W, stp⟩ := stB X.1 X.hx X.hZ X.hh A (inb_of S' hj) (g := mkF m pc Ls (.int x :: .int j :: .ref a :: st)) rfl rfl (hb X.hby hd)
  exact Go.by stp (q T' h' _ W (Arv.set A q1 S' q3 H G (fits_nar_byte x) W i hi hl) (X.mk1 Y e' (Fr.snoc Y X.N ga) (CHr.wr W S X.C.1)))
theorem kLEN (X : Sit p l e R s m args below meth c bs own Z EL n0 h0 T h vm0 locs cells slots) {a : Addr} {k : ClassId} {ty : FieldType} {z : Int32} {vs : List Value} {dv : Value} (f : Arv Z h a k ty z vs dv) (hd : decode bs pc = .ok (.arraylength, 1)) (q : Go p e below F T (mkF m (pc + 1) Ls (.int z :: st))) : Go p e below F T (mkF m pc Ls (.ref a :: st)) := by
  obtain ⟨cl, A, q1, S', q3, H, G⟩ := f
  refine Go.by (fun _ r => X.1.arraylength X.hx (by rw [X.hh]; exact A.1) (State.isArrayOf_alike X.hZ.alike A.2.1) (g := mkF m pc Ls (.ref a :: st)) rfl rfl (hb X.hby hd) _ ?_) q
  rw [len_of S' q3]; exact r
theorem kAALD (X : Sit p l e R s m args below meth c bs own Z EL n0 h0 T h vm0 locs cells slots) {a : Addr} {k : ClassId} {ty : FieldType} {z j : Int32} {vs : List Value} {dv : Value} (v : Value) (f : Arv Z h a k ty z vs dv) (hty : ty.isReference = true) (hj : ¬ j < 0 ∧ j < z) (hv : vs.getD j.toNatClampNeg dv = v) (hd : decode bs pc = .ok (.aaload, 1)) (q : Go p e below F T (mkF m (pc + 1) Ls (v :: st))) : Go p e below F T (mkF m pc Ls (.int j :: .ref a :: st)) := by
  obtain ⟨cl, A, q1, S', q3, H, G⟩ := f
  exact Go.by (X.1.aaload X.hx (by rw [X.hh]; exact A.1) (State.isArrayOf_alike X.hZ.alike A.2.1) hty A.2.2 (inb_of S' hj) (H.at (inb_of S' hj) hv) (g := mkF m pc Ls (.int j :: .ref a :: st)) rfl rfl (hb X.hby hd)) q
theorem kCALD (X : Sit p l e R s m args below meth c bs own Z EL n0 h0 T h vm0 locs cells slots) {a : Addr} {k : ClassId} {z j : Int32} {vs : List Value} {dv : Value} (v : Value) (f : Arv Z h a k .char z vs dv) (hj : ¬ j < 0 ∧ j < z) (hv : vs.getD j.toNatClampNeg dv = v) (hd : decode bs pc = .ok (.caload, 1)) (q : Go p e below F T (mkF m (pc + 1) Ls (v :: st))) : Go p e below F T (mkF m pc Ls (.int j :: .ref a :: st)) := by
  obtain ⟨cl, A, q1, S', q3, H, G⟩ := f
  exact Go.by (X.1.caload X.hx (by rw [X.hh]; exact A.1) (State.isArrayOf_alike X.hZ.alike A.2.1) A.2.2 (inb_of S' hj) (H.at (inb_of S' hj) hv) (g := mkF m pc Ls (.int j :: .ref a :: st)) rfl rfl (hb X.hby hd)) q
theorem kBALD (X : Sit p l e R s m args below meth c bs own Z EL n0 h0 T h vm0 locs cells slots) {a : Addr} {k : ClassId} {z j : Int32} {vs : List Value} {dv : Value} (v : Value) (f : Arv Z h a k .byte z vs dv) (hj : ¬ j < 0 ∧ j < z) (hv : vs.getD j.toNatClampNeg dv = v) (hd : decode bs pc = .ok (.baload, 1)) (q : Go p e below F T (mkF m (pc + 1) Ls (v :: st))) : Go p e below F T (mkF m pc Ls (.int j :: .ref a :: st)) := by
  obtain ⟨cl, A, q1, S', q3, H, G⟩ := f
  exact Go.by (X.1.baloadBytes X.hx (by rw [X.hh]; exact A.1) (State.isArrayOf_alike X.hZ.alike A.2.1) A.2.2 (inb_of S' hj) (H.at (inb_of S' hj) hv) (g := mkF m pc Ls (.int j :: .ref a :: st)) rfl rfl (hb X.hby hd)) q
theorem kIALD (X : Sit p l e R s m args below meth c bs own Z EL n0 h0 T h vm0 locs cells slots) {a : Addr} {k : ClassId} {z j : Int32} {vs : List Value} {dv : Value} (v : Value) (f : Arv Z h a k .int z vs dv) (hj : ¬ j < 0 ∧ j < z) (hv : vs.getD j.toNatClampNeg dv = v) (hd : decode bs pc = .ok (.iaload, 1)) (q : Go p e below F T (mkF m (pc + 1) Ls (v :: st))) : Go p e below F T (mkF m pc Ls (.int j :: .ref a :: st)) := by
  obtain ⟨cl, A, q1, S', q3, H, G⟩ := f
  exact Go.by (X.1.iaload X.hx (by rw [X.hh]; exact A.1) (State.isArrayOf_alike X.hZ.alike A.2.1) A.2.2 (inb_of S' hj) (H.at (inb_of S' hj) hv) (g := mkF m pc Ls (.int j :: .ref a :: st)) rfl rfl (hb X.hby hd)) q
theorem kLALD (X : Sit p l e R s m args below meth c bs own Z EL n0 h0 T h vm0 locs cells slots) {a : Addr} {k : ClassId} {z j : Int32} {vs : List Value} {dv : Value} (v : Value) (f : Arv Z h a k .long z vs dv) (hj : ¬ j < 0 ∧ j < z) (hv : vs.getD j.toNatClampNeg dv = v) (hd : decode bs pc = .ok (.laload, 1)) (q : Go p e below F T (mkF m (pc + 1) Ls (v :: st))) : Go p e below F T (mkF m pc Ls (.int j :: .ref a :: st)) := by
  obtain ⟨cl, A, q1, S', q3, H, G⟩ := f
  exact Go.by (X.1.laload X.hx (by rw [X.hh]; exact A.1) (State.isArrayOf_alike X.hZ.alike A.2.1) A.2.2 (inb_of S' hj) (H.at (inb_of S' hj) hv) (g := mkF m pc Ls (.int j :: .ref a :: st)) rfl rfl (hb X.hby hd)) q
theorem kINIT (X : Sit p l e R s m args below meth c bs own Z EL n0 h0 T h vm0 locs cells slots) {i : Nat} {a : Addr} (w1 : (Cond.methodLink own i ⟨"java/lang/Object", "<init>", "()V"⟩).before a0 Z = true) (w2 : (Cond.instanceMethod ⟨"java/lang/Object", "<init>", "()V"⟩).before a0 Z = true) (w3 : (Cond.code ⟨"java/lang/Object", "<init>", "()V"⟩ object_method_1_code 1 none).before a0 Z = true)
    (hsz : Ls.size = c.maxLocals) (hd : decode bs pc = .ok (.invokespecial i, 3)) (hf : 1 ≤ R.frames) (W : Nat) (hW : (st.map fun v => v.category).sum ≤ W) (hl : W + 12 ≤ R.locals) (q : ∀ T', Sit p l e R s m args below meth c bs own Z EL n0 h0 T' h vm0 locs cells slots → Go p e below F T' (mkF m (pc + 3) Ls st)) : Go p e below F T (mkF m pc Ls (.ref a :: st)) := by
  obtain ⟨T', Y, e', stp⟩ := initO X.1 X.hx X.hZ X.hown w1 w2 w3 X.hh (g := mkF m pc Ls (.ref a :: st)) rfl hsz rfl (hb X.hby hd) hf (W := W) (by show 2 * 0 + _ ≤ _; simpa using hW) (by omega)
  exact Go.by stp (q T' (X.mk0 Y e' X.N))
theorem kCAST (X : Sit p l e R s m args below meth c bs own Z EL n0 h0 T h vm0 locs cells slots) {K : String} {i : Nat} {a : Addr} (w : (Cond.classLink own i K).before a0 Z = true) (f : Ins Z h a K true) (hd : decode bs pc = .ok (.checkcast i, 3)) (q : ∀ T', Sit p l e R s m args below meth c bs own Z EL n0 h0 T' h vm0 locs cells slots → Go p e below F T' (mkF m (pc + 3) Ls (.ref a :: st))) : Go p e below F T (mkF m pc Ls (.ref a :: st)) := by
  obtain ⟨T', Y, e', stp⟩ := castY X.1 X.hx X.hZ X.hown w X.hh f (g := mkF m pc Ls (.ref a :: st)) rfl rfl (hb X.hby hd)
  exact Go.by stp (q T' (X.mk0 Y e' X.N))
theorem kINSY (X : Sit p l e R s m args below meth c bs own Z EL n0 h0 T h vm0 locs cells slots) {K : String} {i : Nat} {a : Addr} (w : (Cond.classLink own i K).before a0 Z = true) (f : Ins Z h a K true) (hd : decode bs pc = .ok (.instanceof i, 3)) (q : ∀ T', Sit p l e R s m args below meth c bs own Z EL n0 h0 T' h vm0 locs cells slots → Go p e below F T' (mkF m (pc + 3) Ls (.int 1 :: st))) : Go p e below F T (mkF m pc Ls (.ref a :: st)) := by
  obtain ⟨T', Y, e', stp⟩ := instY X.1 X.hx X.hZ X.hown w X.hh f (g := mkF m pc Ls (.ref a :: st)) rfl rfl (hb X.hby hd)
  exact Go.by stp (q T' (X.mk0 Y e' X.N))
theorem kLDCS (X : Sit p l e R s m args below meth c bs own Z EL n0 h0 T h vm0 locs cells slots) {text : String} {i : Nat} (hEL : EW Z a0 EL) (w : (Cond.stringLink own i text).before a0 Z = true) (wS : ∀ a ∈ Bundle.stringAtoms, a.before a0 Z = true) (hd : decode bs pc = .ok (.ldc i, 2)) {n : Nat} (hn : 4 * text.toList.length ≤ n) (hbig : n ≤ 536870912) (hc : cells + 2 ≤ R.cells) (hl : slots + (n + 4) ≤ R.slots)
    (q : ∀ T' h' vm1 a, Ext h h' → CHr Z EL vm0 h vm1 h' → Sit p l e R s m args below meth c bs own Z EL n0 h0 T' h' vm1 locs (cells + 2) (slots + (n + 4)) → Go p e below F T' (mkF m (pc + 2) Ls (.ref a :: st))) : Go p e below F T (mkF m pc Ls st) := by
  obtain ⟨k0, hS, hk⟩ := X.2.2.1
  obtain ⟨a, T', h', k1, Y, e', E, hS', hk', hZ', ho', hC, -, stp⟩ := ldcOH X.1 X.hx X.hZ X.hown w wS X.hh hS hk hEL X.C.1 (g := mkF m pc Ls st) rfl (hb X.hby hd) hn hbig hc hl
  exact Go.by stp (q T' h' _ a E hC (X.mk2 Y e' hS' hk' hZ' ho' X.N hC))
theorem kLDCT (X : Sit p l e R s m args below meth c bs own Z EL n0 h0 T h vm0 locs cells slots) {text : String} {i : Nat} (hEL : EW Z a0 EL) (w : (Cond.stringLink own i text).before a0 Z = true) (wS : ∀ a ∈ Bundle.stringAtoms, a.before a0 Z = true) (hmem : (own, i) ∈ EL) {vs : List Value} {z : Int32} (ht : (∀ c ∈ text.toList, c.toNat < 256) ∧ text.toList.map (fun c => Value.int (Jvm.Lit.byteI c.toNat.toUInt16)) = vs) (hz : ¬ z < 0) (hlz : z.toNatClampNeg = vs.length)
    (hd : decode bs pc = .ok (.ldc i, 2)) {n : Nat} (hn : 4 * text.toList.length ≤ n) (hbig : n ≤ 536870912) (hc : cells + 2 ≤ R.cells) (hl : slots + (n + 4) ≤ R.slots)
    (q : ∀ T' h' vm1 a b k, Ext h h' → CHr Z EL vm0 h vm1 h' → Exa Z h' a "java/lang/String" → Fld Z h' a "java/lang/String" "coder" "B" (.int 0) → Fld Z h' a "java/lang/String" "value" "[B" (.ref b) → Arv Z h' b k .byte z vs (.int 0) → (∀ x, Safe Z EL vm1 h' x → x ≠ a ∧ x ≠ b) → Sit p l e R s m args below meth c bs own Z EL n0 h0 T' h' vm1 locs (cells + 2) (slots + (n + 4)) → Go p e below F T' (mkF m (pc + 2) Ls (.ref a :: st))) : Go p e below F T (mkF m pc Ls st) := by
  obtain ⟨k0, hS, hk⟩ := X.2.2.1
  obtain ⟨a, T', h', k1, b, k, Y, e', E, hS', hk', hZ', ho', x1, x2, x3, x4, -, -, hC, -, hne, stp⟩ := ldcCH X.1 X.hx X.hZ X.hown w wS X.hh hS hk hEL hmem X.C.1 ht hz hlz (g := mkF m pc Ls st) rfl (hb X.hby hd) hn hbig hc hl
  exact Go.by stp (q T' h' _ a b k E hC x1 x2 x3 x4 hne (X.mk2 Y e' hS' hk' hZ' ho' X.N hC))
theorem kINSN (X : Sit p l e R s m args below meth c bs own Z EL n0 h0 T h vm0 locs cells slots) {K C : String} {i : Nat} {a : Addr} (w : (Cond.classLink own i K).before a0 Z = true) (E : Exa Z h a C) (f : ∃ c t, Z.vm.findClass C = some c ∧ Z.vm.findClass K = some t ∧ Z.vm.assignable c t = false) (hd : decode bs pc = .ok (.instanceof i, 3)) (q : ∀ T', Sit p l e R s m args below meth c bs own Z EL n0 h0 T' h vm0 locs cells slots → Go p e below F T' (mkF m (pc + 3) Ls (.int 0 :: st))) : Go p e below F T (mkF m pc Ls (.ref a :: st)) := by
  obtain ⟨T', Y, e', stp⟩ := instNo X.1 X.hx X.hZ X.hown w X.hh E f (g := mkF m pc Ls (.ref a :: st)) rfl rfl (hb X.hby hd)
  exact Go.by stp (q T' (X.mk0 Y e' X.N))
theorem kINSN0 (X : Sit p l e R s m args below meth c bs own Z EL n0 h0 T h vm0 locs cells slots) {i : Nat} (hd : decode bs pc = .ok (.instanceof i, 3)) (q : Go p e below F T (mkF m (pc + 3) Ls (.int 0 :: st))) : Go p e below F T (mkF m pc Ls (.null :: st)) :=
  Go.by (X.1.instanceofNull X.hx (g := mkF m pc Ls (.null :: st)) rfl rfl (hb X.hby hd)) q
theorem own_fitC {Z : State} {h : Heap} {a : Addr} {cl : Cell} {ty : FieldType} {vs : List Value} {dv : Value} (A : Arr Z h a cl ty) (H : Has cl vs dv) (G : ∀ i, i < cl.slots.size → fits ty (vs.getD i dv) = true) : FitC Z cl := fun i v hv => by
  obtain ⟨hi, -⟩ := Array.getElem?_eq_some_iff.mp hv
  have e := H i hi
  rw [hv] at e
  cases e
  obtain ⟨hs, k, hk, comp, hkind⟩ := A.2.1
  have g := G i hi
  simp [State.fitsSlot, State.slotType?, hk, hkind]
  simpa using g
theorem kCLONE (X : Sit p l e R s m args below meth c bs own Z EL n0 h0 T h vm0 locs cells slots) {ad : String} {i : Nat} {a : Addr} {k : ClassId} {ty : FieldType} {z : Int32} {vs : List Value} {dv : Value} (w1 : (Cond.methodLink own i ⟨ad, "clone", "()Ljava/lang/Object;"⟩).before a0 Z = true) (w2 : (Cond.sameMethod ad "java/lang/Object" "clone" "()Ljava/lang/Object;").before a0 Z = true) (w3 : (Cond.native ⟨"java/lang/Object", "clone", "()Ljava/lang/Object;"⟩).before a0 Z = true)
    (w4 : (Cond.instanceMethod ⟨"java/lang/Object", "clone", "()Ljava/lang/Object;"⟩).before a0 Z = true) (w5 : (Cond.selects ad ⟨ad, "clone", "()Ljava/lang/Object;"⟩ ⟨"java/lang/Object", "clone", "()Ljava/lang/Object;"⟩).before a0 Z = true) (w6 : (Cond.castable ad "java/lang/Cloneable").before a0 Z = true)
    (f : Arv Z h a k ty z vs dv) (E : Exa Z h a ad) (hsz : Ls.size = c.maxLocals) (hd : decode bs pc = .ok (.invokevirtual i, 3)) (hf : 1 ≤ R.frames) (W cap : Nat) (hW : (st.map fun v => v.category).sum ≤ W) (hl : W + 14 ≤ R.locals) (hcap : z.toNatClampNeg ≤ cap) (hc : cells + 1 ≤ R.cells) (hsl : slots + cap ≤ R.slots)
    (q : ∀ T' h' b, Ext h h' → b = h.size → n0 ≤ b → Arv Z h' b k ty z vs dv → Exa Z h' b ad → Safe Z EL vm0 h' b → Sit p l e R s m args below meth c bs own Z EL n0 h0 T' h' vm0 locs (cells + 1) (slots + cap) → Go p e below F T' (mkF m (pc + 3) Ls (.ref b :: st))) : Go p e below F T (mkF m pc Ls (.ref a :: st)) := by
  obtain ⟨cl, A, q1, S', q3, H, G⟩ := f
  obtain ⟨T', h', Y, e', Ex, A', E', stp⟩ := cloneA X.1 X.hx X.hZ X.hown w1 w2 w3 w4 w5 w6 X.hh A E (own_fitC A H G) (g := mkF m pc Ls (.ref a :: st)) rfl hsz rfl (hb X.hby hd) hf (W := W) (cap := cap) (by show 2 * 0 + _ ≤ _; simpa using hW) hl (by rw [S']; exact hcap) hc hsl
  exact Go.by stp (q T' h' h.size Ex rfl X.n ⟨_, A', q1, S', q3, H, G⟩ E' (Safe.ext Ex X.C.1 (Safe.new (Nat.le_refl _))) (X.mk1 Y e' X.N (CHr.ext Ex X.C.1)))
theorem kSTAT (X : Sit p l e R s m args below meth c bs own Z EL n0 h0 T h vm0 locs cells slots) (hEL : EW Z a0 EL) {i : Nat} {y : MethodName} {rm : Room} {SL : List Addr} {Q : Vm → Option Value → Heap → List Loc → Vm → Prop} {bytes : ByteArray} {maxL : Nat} {ret : Option FieldType} {argsL rest stk : List Value} (w1 : (Cond.methodLink own i y).before a0 Z = true) (w2 : (Cond.static y).before a0 Z = true) (wz : (Cond.initialized y.cls).before a0 Z = true) (wc : (Cond.code y bytes maxL ret).before a0 Z = true) (hy : y.cls ≠ "java/lang/invoke/MethodHandle" ∧ y.cls ≠ "java/lang/invoke/VarHandle") (M : MetH l Z EL y bytes maxL ret [] rm argsL.toArray h SL Q) (hSL : ∀ x ∈ SL, x < h.size ∧ Safe Z EL vm0 h x) (hFr : ∀ vs v h' L ve, Q vs v h' L ve → Fr n0 L) (hlen : ∀ sig, parseMethodDescriptor y.desc = some sig → argsL.length = sig.parameters.length) (hst : stk = argsL.reverse ++ rest) (hf : rm.frames + 1 ≤ R.frames) (W : Nat) (hW : (rest.map fun v => v.category).sum ≤ W) (hl : W + (maxL + 11) + rm.locals ≤ R.locals) (hc : cells + rm.cells ≤ R.cells) (hs : slots + rm.slots ≤ R.slots) (hsz : Ls.size = c.maxLocals) (hd : decode bs pc = .ok (.invokestatic i, 3))
    (q : ∀ v L T' h' vm1 locs' vs, Q vs v h' L vm1 → CHr Z EL vm0 h vs h → CHr Z EL vm0 h vm1 h' → Sit p l e R s m args below meth c bs own Z EL n0 h0 T' h' vm1 locs' (cells + rm.cells) (slots + rm.slots) → Go p e below F T' (mkF m (pc + 3) Ls (v.toList ++ rest))) : Go p e below F T (mkF m pc Ls stk) := by
  obtain ⟨v, vm₁, ⟨U, L, k, n⟩, -, Y, hS1, hgr, ⟨Lc, vs, hQ, hCs, l1, y1, z1, hC⟩, stp⟩ := callSS X.1 X.hx (y := y) X.hown (mvT (s := s.setVm vm0) X.hZ w1) (mvT (s := s.setVm vm0) X.hZ w2) (mvT (s := s.setVm vm0) X.hZ wz) (mvT (s := s.setVm vm0) X.hZ wc) hy (backX (W := W) M X.hZ wc wz hf hl hEL X.C.1 hSL) (g := mkF m pc Ls stk) rfl hsz (argsL := argsL) (rest := rest) hlen hst (by show 2 * 0 + _ ≤ _; simpa using hW) (hb X.hby hd) (fun _ _ => ⟨rfl, X.hh, hc, hs⟩)
  dsimp only [Pt.U, Pt.locs, Pt.cells, Pt.slots] at Y hS1 hgr l1 y1 z1 stp hQ hC hCs
  subst l1 y1 z1
  obtain ⟨k0, hS, hk⟩ := X.2.2.1
  have hS2 := hS.trans hS1 (Nat.le_trans hk (by rw [← X.hh]; exact hgr))
  exact Go.call stp (q v Lc U U.heap _ _ vs hQ hCs hC (X.mk2 Y rfl hS2 (Nat.le_refl _) (State.Warmed39.trans (t := s.setVm vm0) X.hZ hS1.1) ((hS1.1.alike.findClass _ _).trans X.hown) (Fr.app X.N (hFr _ _ _ _ _ hQ)) hC))
theorem kSPEC (X : Sit p l e R s m args below meth c bs own Z EL n0 h0 T h vm0 locs cells slots) (hEL : EW Z a0 EL) {i : Nat} {y : MethodName} {a : Addr} {rm : Room} {SL : List Addr} {Q : Vm → Option Value → Heap → List Loc → Vm → Prop} {bytes : ByteArray} {maxL : Nat} {argsL rest stk : List Value} (w1 : (Cond.methodLink own i y).before a0 Z = true) (w2 : (Cond.instanceMethod y).before a0 Z = true) (wz : (Cond.initialized y.cls).before a0 Z = true) (wc : (Cond.code y bytes maxL none).before a0 Z = true) (hy1 : y.name = "<init>") (hy : y.cls ≠ "java/lang/invoke/MethodHandle" ∧ y.cls ≠ "java/lang/invoke/VarHandle") (M : MetH l Z EL y bytes maxL none [] rm (.ref a :: argsL).toArray h SL Q) (hSL : ∀ x ∈ SL, x < h.size ∧ Safe Z EL vm0 h x) (hFr : ∀ vs v h' L ve, Q vs v h' L ve → Fr n0 L) (hlen : ∀ sig, parseMethodDescriptor y.desc = some sig → argsL.length = sig.parameters.length) (hst : stk = argsL.reverse ++ .ref a :: rest) (hf : rm.frames + 1 ≤ R.frames) (W : Nat) (hW : (rest.map fun v => v.category).sum ≤ W) (hl : W + (maxL + 11) + rm.locals ≤ R.locals) (hc : cells + rm.cells ≤ R.cells) (hs : slots + rm.slots ≤ R.slots) (hsz : Ls.size = c.maxLocals) (hd : decode bs pc = .ok (.invokespecial i, 3))
    (q : ∀ v L T' h' vm1 locs' vs, Q vs v h' L vm1 → CHr Z EL vm0 h vs h → CHr Z EL vm0 h vm1 h' → Sit p l e R s m args below meth c bs own Z EL n0 h0 T' h' vm1 locs' (cells + rm.cells) (slots + rm.slots) → Go p e below F T' (mkF m (pc + 3) Ls (v.toList ++ rest))) : Go p e below F T (mkF m pc Ls stk) := by
  obtain ⟨v, vm₁, ⟨U, L, k, n⟩, -, Y, hS1, hgr, ⟨Lc, vs, hQ, hCs, l1, y1, z1, hC⟩, stp⟩ := X.1.specialBackS X.hx (y := y) hy1 X.hown (mvT (s := s.setVm vm0) X.hZ w1) (mvT (s := s.setVm vm0) X.hZ w2) (mvT (s := s.setVm vm0) X.hZ wc) hy (backX (W := W) M X.hZ wc wz hf hl hEL X.C.1 hSL) (g := mkF m pc Ls stk) rfl hsz (Steps.refl _) (a := a) (argsL := argsL) (rest := rest) hlen hst (by show 2 * 0 + _ ≤ _; simpa using hW) (hb X.hby hd) (fun _ _ => ⟨rfl, X.hh, hc, hs⟩)
  dsimp only [Pt.U, Pt.locs, Pt.cells, Pt.slots] at Y hS1 hgr l1 y1 z1 stp hQ hC hCs
  subst l1 y1 z1
  obtain ⟨k0, hS, hk⟩ := X.2.2.1
  have hS2 := hS.trans hS1 (Nat.le_trans hk (by rw [← X.hh]; exact hgr))
  exact Go.call stp (q v Lc U U.heap _ _ vs hQ hCs hC (X.mk2 Y rfl hS2 (Nat.le_refl _) (State.Warmed39.trans (t := s.setVm vm0) X.hZ hS1.1) ((hS1.1.alike.findClass _ _).trans X.hown) (Fr.app X.N (hFr _ _ _ _ _ hQ)) hC))
theorem kVIRT (X : Sit p l e R s m args below meth c bs own Z EL n0 h0 T h vm0 locs cells slots) (hEL : EW Z a0 EL) {i : Nat} {y z : MethodName} {a : Addr} {C : String} {rm : Room} {SL : List Addr} {Q : Vm → Option Value → Heap → List Loc → Vm → Prop} {bytes : ByteArray} {maxL : Nat} {ret : Option FieldType} {argsL rest stk : List Value} (w1 : (Cond.methodLink own i y).before a0 Z = true) (w2 : (Cond.declares y).before a0 Z = true) (nf : NotFace (s.setVm vm0) y) (w3 : (Cond.selects C y z).before a0 Z = true) (w4 : (Cond.instanceMethod z).before a0 Z = true) (wz : (Cond.initialized z.cls).before a0 Z = true) (wc : (Cond.code z bytes maxL ret).before a0 Z = true) (hy : y.cls ≠ "java/lang/invoke/MethodHandle" ∧ y.cls ≠ "java/lang/invoke/VarHandle") (E : Exa Z h a C) (M : MetH l Z EL z bytes maxL ret [] rm (.ref a :: argsL).toArray h SL Q) (hSL : ∀ x ∈ SL, x < h.size ∧ Safe Z EL vm0 h x) (hFr : ∀ vs v h' L ve, Q vs v h' L ve → Fr n0 L) (hlen : ∀ sig, parseMethodDescriptor y.desc = some sig → argsL.length = sig.parameters.length) (hst : stk = argsL.reverse ++ .ref a :: rest) (hf : rm.frames + 1 ≤ R.frames) (W : Nat) (hW : (rest.map fun v => v.category).sum ≤ W) (hl : W + (maxL + 11) + rm.locals ≤ R.locals) (hc : cells + rm.cells ≤ R.cells) (hs : slots + rm.slots ≤ R.slots) (hsz : Ls.size = c.maxLocals) (hd : decode bs pc = .ok (.invokevirtual i, 3))
    (q : ∀ v L T' h' vm1 locs' vs, Q vs v h' L vm1 → CHr Z EL vm0 h vs h → CHr Z EL vm0 h vm1 h' → Sit p l e R s m args below meth c bs own Z EL n0 h0 T' h' vm1 locs' (cells + rm.cells) (slots + rm.slots) → Go p e below F T' (mkF m (pc + 3) Ls (v.toList ++ rest))) : Go p e below F T (mkF m pc Ls stk) := by
  obtain ⟨cB, kB, qa, qb, qc⟩ := isOf (s := s.setVm vm0) X.hZ X.hh E
  obtain ⟨v, vm₁, ⟨U, L, k, n⟩, -, Y, hS1, hgr, ⟨Lc, vs, hQ, hCs, l1, y1, z1, hC⟩, stp⟩ := X.1.virtualBackS X.hx (y := y) (z := z) X.hown (mvT (s := s.setVm vm0) X.hZ w1) (mvT (s := s.setVm vm0) X.hZ w2) nf (mvT (s := s.setVm vm0) X.hZ w3) (mvT (s := s.setVm vm0) X.hZ w4) hy (backX (W := W) M X.hZ wc wz hf hl hEL X.C.1 hSL) qa qc (g := mkF m pc Ls stk) rfl hsz (Steps.refl _) (argsL := argsL) (rest := rest) hlen hst (by show 2 * 0 + _ ≤ _; simpa using hW) (hb X.hby hd) (fun _ _ => ⟨rfl, X.hh, hc, hs⟩)
  dsimp only [Pt.U, Pt.locs, Pt.cells, Pt.slots] at Y hS1 hgr l1 y1 z1 stp hQ hC hCs
  subst l1 y1 z1
  obtain ⟨k0, hS, hk⟩ := X.2.2.1
  have hS2 := hS.trans hS1 (Nat.le_trans hk (by rw [← X.hh]; exact hgr))
  exact Go.call stp (q v Lc U U.heap _ _ vs hQ hCs hC (X.mk2 Y rfl hS2 (Nat.le_refl _) (State.Warmed39.trans (t := s.setVm vm0) X.hZ hS1.1) ((hS1.1.alike.findClass _ _).trans X.hown) (Fr.app X.N (hFr _ _ _ _ _ hQ)) hC))
theorem kPRIV (X : Sit p l e R s m args below meth c bs own Z EL n0 h0 T h vm0 locs cells slots) (hEL : EW Z a0 EL) {i : Nat} {y : MethodName} {a : Addr} {C : String} {rm : Room} {SL : List Addr} {Q : Vm → Option Value → Heap → List Loc → Vm → Prop} {bytes : ByteArray} {maxL : Nat} {ret : Option FieldType} {argsL rest stk : List Value} (w1 : (Cond.methodLink own i y).before a0 Z = true) (w2 : (Cond.instanceMethod y).before a0 Z = true) (w3 : (Cond.selects y.cls y y).before a0 Z = true) (w4 : (Cond.privateMethod y).before a0 Z = true) (wz : (Cond.initialized y.cls).before a0 Z = true) (wc : (Cond.code y bytes maxL ret).before a0 Z = true) (hy : y.cls ≠ "java/lang/invoke/MethodHandle" ∧ y.cls ≠ "java/lang/invoke/VarHandle") (E : Exa Z h a C) (M : MetH l Z EL y bytes maxL ret [] rm (.ref a :: argsL).toArray h SL Q) (hSL : ∀ x ∈ SL, x < h.size ∧ Safe Z EL vm0 h x) (hFr : ∀ vs v h' L ve, Q vs v h' L ve → Fr n0 L) (hlen : ∀ sig, parseMethodDescriptor y.desc = some sig → argsL.length = sig.parameters.length) (hst : stk = argsL.reverse ++ .ref a :: rest) (hf : rm.frames + 1 ≤ R.frames) (W : Nat) (hW : (rest.map fun v => v.category).sum ≤ W) (hl : W + (maxL + 11) + rm.locals ≤ R.locals) (hc : cells + rm.cells ≤ R.cells) (hs : slots + rm.slots ≤ R.slots) (hsz : Ls.size = c.maxLocals) (hd : decode bs pc = .ok (.invokevirtual i, 3))
    (q : ∀ v L T' h' vm1 locs' vs, Q vs v h' L vm1 → CHr Z EL vm0 h vs h → CHr Z EL vm0 h vm1 h' → Sit p l e R s m args below meth c bs own Z EL n0 h0 T' h' vm1 locs' (cells + rm.cells) (slots + rm.slots) → Go p e below F T' (mkF m (pc + 3) Ls (v.toList ++ rest))) : Go p e below F T (mkF m pc Ls stk) := by
  obtain ⟨cE, hE1, hE2⟩ := Exa.cell E
  obtain ⟨v, vm₁, ⟨U, L, k, n⟩, -, Y, hS1, hgr, ⟨Lc, vs, hQ, hCs, l1, y1, z1, hC⟩, stp⟩ := X.1.privateBackS X.hx (y := y) X.hown (mvT (s := s.setVm vm0) X.hZ w1) (mvT (s := s.setVm vm0) X.hZ w2) (mvT (s := s.setVm vm0) X.hZ w3) (Cond.privateMethod_at (args := args) (mvP (s := s.setVm vm0) X.hZ w4)) (mvT (s := s.setVm vm0) X.hZ wc) hy (backX (W := W) M X.hZ wc wz hf hl hEL X.C.1 hSL) (g := mkF m pc Ls stk) rfl hsz (Steps.refl _) (a := a) (by rw [X.hh]; exact hE1) hE2 (argsL := argsL) (rest := rest) hlen hst (by show 2 * 0 + _ ≤ _; simpa using hW) (hb X.hby hd) (fun _ _ => ⟨rfl, X.hh, hc, hs⟩)
  dsimp only [Pt.U, Pt.locs, Pt.cells, Pt.slots] at Y hS1 hgr l1 y1 z1 stp hQ hC hCs
  subst l1 y1 z1
  obtain ⟨k0, hS, hk⟩ := X.2.2.1
  have hS2 := hS.trans hS1 (Nat.le_trans hk (by rw [← X.hh]; exact hgr))
  exact Go.call stp (q v Lc U U.heap _ _ vs hQ hCs hC (X.mk2 Y rfl hS2 (Nat.le_refl _) (State.Warmed39.trans (t := s.setVm vm0) X.hZ hS1.1) ((hS1.1.alike.findClass _ _).trans X.hown) (Fr.app X.N (hFr _ _ _ _ _ hQ)) hC))
theorem kFACE (X : Sit p l e R s m args below meth c bs own Z EL n0 h0 T h vm0 locs cells slots) (hEL : EW Z a0 EL) {i cnt : Nat} {y z : MethodName} {a : Addr} {C : String} {rm : Room} {SL : List Addr} {Q : Vm → Option Value → Heap → List Loc → Vm → Prop} {bytes : ByteArray} {maxL : Nat} {ret : Option FieldType} {argsL rest stk : List Value} (w1 : (Cond.methodLink own i y).before a0 Z = true) (w2 : (Cond.declares y).before a0 Z = true) (w3 : (Cond.interfaceMethod y.cls y.cls y.name y.desc).before a0 Z = true) (k3 : ((Cond.interfaceMethod y.cls y.cls y.name y.desc).onTables && (Cond.interfaceMethod y.cls y.cls y.name y.desc).keepsFace) = true) (w4 : (Cond.selects C y z).before a0 Z = true) (w5 : (Cond.instanceMethod z).before a0 Z = true) (w6 : (Cond.publicMethod z).before a0 Z = true) (w7 : (Cond.unhidden C y.name y.desc).before a0 Z = true) (w8 : (Cond.castable C y.cls).before a0 Z = true) (wz : (Cond.initialized z.cls).before a0 Z = true) (wc : (Cond.code z bytes maxL ret).before a0 Z = true) (hy : y.cls ≠ "java/lang/invoke/MethodHandle" ∧ y.cls ≠ "java/lang/invoke/VarHandle") (E : Exa Z h a C) (M : MetH l Z EL z bytes maxL ret [] rm (.ref a :: argsL).toArray h SL Q) (hSL : ∀ x ∈ SL, x < h.size ∧ Safe Z EL vm0 h x) (hFr : ∀ vs v h' L ve, Q vs v h' L ve → Fr n0 L) (hlen : ∀ sig, parseMethodDescriptor y.desc = some sig → argsL.length = sig.parameters.length) (hst : stk = argsL.reverse ++ .ref a :: rest) (hf : rm.frames + 1 ≤ R.frames) (W : Nat) (hW : (rest.map fun v => v.category).sum ≤ W) (hl : W + (maxL + 11) + rm.locals ≤ R.locals) (hc : cells + rm.cells ≤ R.cells) (hs : slots + rm.slots ≤ R.slots) (hsz : Ls.size = c.maxLocals) (hd : decode bs pc = .ok (.invokeinterface i cnt, 5))
    (q : ∀ v L T' h' vm1 locs' vs, Q vs v h' L vm1 → CHr Z EL vm0 h vs h → CHr Z EL vm0 h vm1 h' → Sit p l e R s m args below meth c bs own Z EL n0 h0 T' h' vm1 locs' (cells + rm.cells) (slots + rm.slots) → Go p e below F T' (mkF m (pc + 5) Ls (v.toList ++ rest))) : Go p e below F T (mkF m pc Ls stk) := by
  obtain ⟨cB, kB, qa, qb, qc⟩ := isOf (s := s.setVm vm0) X.hZ X.hh E
  obtain ⟨v, vm₁, ⟨U, L, k, n⟩, -, Y, hS1, hgr, ⟨Lc, vs, hQ, hCs, l1, y1, z1, hC⟩, stp⟩ := X.1.interfaceBackS X.hx (xi := y) (y := z) X.hown (mvT (s := s.setVm vm0) X.hZ w1) (mvT (s := s.setVm vm0) X.hZ w2) (mvT (s := s.setVm vm0) X.hZ w3 k3) (mvT (s := s.setVm vm0) X.hZ w4) (mvT (s := s.setVm vm0) X.hZ w5) (mvT (s := s.setVm vm0) X.hZ w6) (mvT (s := s.setVm vm0) X.hZ w7) (mvT (s := s.setVm vm0) X.hZ w8) hy (backX (W := W) M X.hZ wc wz hf hl hEL X.C.1 hSL) qa qb qc (g := mkF m pc Ls stk) rfl hsz (Steps.refl _) (argsL := argsL) (rest := rest) hlen hst (by show 2 * 0 + _ ≤ _; simpa using hW) (hb X.hby hd) (fun _ _ => ⟨rfl, X.hh, hc, hs⟩)
  dsimp only [Pt.U, Pt.locs, Pt.cells, Pt.slots] at Y hS1 hgr l1 y1 z1 stp hQ hC hCs
  subst l1 y1 z1
  obtain ⟨k0, hS, hk⟩ := X.2.2.1
  have hS2 := hS.trans hS1 (Nat.le_trans hk (by rw [← X.hh]; exact hgr))
  exact Go.call stp (q v Lc U U.heap _ _ vs hQ hCs hC (X.mk2 Y rfl hS2 (Nat.le_refl _) (State.Warmed39.trans (t := s.setVm vm0) X.hZ hS1.1) ((hS1.1.alike.findClass _ _).trans X.hown) (Fr.app X.N (hFr _ _ _ _ _ hQ)) hC))
end OwnKit
def ownB (c : Int32) : Int32 := c.toInt8.toInt32
theorem own_nb (c : Int32) : nar .byte (ownB c) = ownB c := by
  simp [nar, ownB]
theorem own_nc {c : Int32} (h1 : ¬ (255 : Int32) < c) (h2 : ¬ c < 0) : nar .char c = c := by
  have e1 : (255 : Int32).toInt = 255 := by decide
  have e2 : (0 : Int32).toInt = 0 := by decide
  rw [Int32.lt_iff_toInt_lt, e1] at h1
  rw [Int32.lt_iff_toInt_lt, e2] at h2
  have q := c_i2c c
  show c.toUInt32.toUInt16.toUInt32.toInt32 = c
  rw [← Int32.toInt_inj]
  omega
theorem own_mask (x : Int32) : ¬ (255 : Int32) < (x &&& (255 : Int32)) ∧ ¬ (x &&& (255 : Int32)) < 0 := by
  have e1 : (255 : Int32).toInt = 255 := by decide
  have e2 : (0 : Int32).toInt = 0 := by decide
  have q := c_and x (255 : Int32) (by decide)
  rw [Int32.lt_iff_toInt_lt, Int32.lt_iff_toInt_lt, e1, e2]
  omega
theorem own_b8 {c : Int32} (h1 : ¬ (255 : Int32) < c) (h2 : ¬ c < 0) : (ownB c).toInt = if c.toInt < 128 then c.toInt else c.toInt - 256 := by
  have e1 : (255 : Int32).toInt = 255 := by decide
  have e2 : (0 : Int32).toInt = 0 := by decide
  rw [Int32.lt_iff_toInt_lt, e1] at h1
  rw [Int32.lt_iff_toInt_lt, e2] at h2
  have q := c_i2b c
  unfold ownB
  split <;> omega
def drV (x t : Int32) : Int32 := if x &&& (256 : Int32) = 0 then x &&& (255 : Int32) else t
theorem own_drT {x t : Int32} (h : (x &&& (256 : Int32)) = 0) : some (Value.int (nar .char (x &&& (255 : Int32)))) = some (.int (drV x t)) := by
  unfold drV; rw [if_pos h, own_nc (own_mask x).1 (own_mask x).2]
theorem own_drF {x t : Int32} (h : ¬ (x &&& (256 : Int32)) = 0) (h1 : ¬ (255 : Int32) < t := by decide) (h2 : ¬ t < 0 := by decide) : some (Value.int (nar .char t)) = some (.int (drV x t)) := by
  unfold drV; rw [if_neg h, own_nc h1 h2]
theorem own_drR {t : Int32} (x : Int32) (h1 : ¬ (255 : Int32) < t) (h2 : ¬ t < 0) : ¬ (255 : Int32) < drV x t ∧ ¬ drV x t < 0 := by
  unfold drV; split
  · exact own_mask x
  · exact ⟨h1, h2⟩
theorem own_mod6 (i : Int32) : ∃ k : Fin 6, (i &&& (2147483647 : Int32)) % (6 : Int32) = Int32.ofInt k.1 := own_modN 6 6 (by decide) (by decide) (by decide) i
theorem own_b8e {c k : Int32} (h1 : ¬ (255 : Int32) < c) (h2 : ¬ c < 0) (k1 : ¬ k < 0) (k2 : k < 128) : k = ownB c ↔ c = k := by
  have q := own_b8 h1 h2
  have e1 : (255 : Int32).toInt = 255 := by decide
  have e2 : (0 : Int32).toInt = 0 := by decide
  have e3 : (128 : Int32).toInt = 128 := by decide
  rw [Int32.lt_iff_toInt_lt, e1] at h1
  rw [Int32.lt_iff_toInt_lt, e2] at h2 k1
  rw [Int32.lt_iff_toInt_lt, e3] at k2
  rw [← Int32.toInt_inj, ← Int32.toInt_inj, q]
  split <;> constructor <;> intro h <;> omega
theorem own_b8t {c k : Int32} (h1 : ¬ (255 : Int32) < c) (h2 : ¬ c < 0) (k1 : ¬ k < 0) (k2 : k < 128) (h : k = ownB c) : c = k := (own_b8e h1 h2 k1 k2).mp h
theorem own_b8f {c k : Int32} (h1 : ¬ (255 : Int32) < c) (h2 : ¬ c < 0) (k1 : ¬ k < 0) (k2 : k < 128) (h : ¬ k = ownB c) : ¬ c = k := fun q => h ((own_b8e h1 h2 k1 k2).mpr q)
def EL0 : List (String × Nat) := [("java/lang/String", 7)]
def Glob (Z : State) (a0 : Array Value) (iCS : Int32) (aV : Addr) (aG : Addr) (aN : Addr) (tG : Addr) (tN : Addr) (bG : Addr) (bN : Addr) (kV : ClassId) (kG : ClassId) (kN : ClassId) : Prop := (∀ d ∈ tables_1, d.before a0 Z = true) ∧ EW Z a0 EL0 ∧ (∀ a ∈ Bundle.stringAtoms, a.before a0 Z = true) ∧ (Sta Z Z.heap "java/lang/String" "COMPACT_STRINGS" "Z" (.int iCS)) ∧ (¬ iCS = 0) ∧ (Sta Z Z.heap "com/example/tight_calculus/tightcalculus/Model$Kind" "$VALUES" "[Lcom/example/tight_calculus/tightcalculus/Model$Kind;" (.ref aV)) ∧ (Sta Z Z.heap "com/example/tight_calculus/tightcalculus/Model$Kind" "GPC" "Lcom/example/tight_calculus/tightcalculus/Model$Kind;" (.ref aG)) ∧ (Sta Z Z.heap "com/example/tight_calculus/tightcalculus/Model$Kind" "AND" "Lcom/example/tight_calculus/tightcalculus/Model$Kind;" (.ref aN)) ∧ (Exa Z Z.heap aV "[Lcom/example/tight_calculus/tightcalculus/Model$Kind;") ∧ (Arv Z Z.heap aV kV (.object "com/example/tight_calculus/tightcalculus/Model$Kind") 2 [.ref aG, .ref aN] .null) ∧ (Exa Z Z.heap aG "com/example/tight_calculus/tightcalculus/Model$Kind") ∧ (Fld Z Z.heap aG "com/example/tight_calculus/tightcalculus/Model$Kind" "type" "Ljava/lang/String;" (.ref tG)) ∧ (Exa Z Z.heap tG "java/lang/String") ∧ (Fld Z Z.heap tG "java/lang/String" "coder" "B" (.int 0)) ∧ (Fld Z Z.heap tG "java/lang/String" "value" "[B" (.ref bG)) ∧ (Arv Z Z.heap bG kG .byte 3 [.int 103, .int 112, .int 99] (.int 0)) ∧ (Exa Z Z.heap aN "com/example/tight_calculus/tightcalculus/Model$Kind") ∧ (Fld Z Z.heap aN "com/example/tight_calculus/tightcalculus/Model$Kind" "type" "Ljava/lang/String;" (.ref tN)) ∧ (Exa Z Z.heap tN "java/lang/String") ∧ (Fld Z Z.heap tN "java/lang/String" "coder" "B" (.int 0)) ∧ (Fld Z Z.heap tN "java/lang/String" "value" "[B" (.ref bN)) ∧ (Arv Z Z.heap bN kN .byte 3 [.int 97, .int 110, .int 100] (.int 0))
section OwnGlob
variable {Z : State} {a0 : Array Value} {iCS : Int32} {aV : Addr} {aG : Addr} {aN : Addr} {tG : Addr} {tN : Addr} {bG : Addr} {bN : Addr} {kV : ClassId} {kG : ClassId} {kN : ClassId}
theorem wd (G : Glob Z a0 iCS aV aG aN tG tN bG bN kV kG kN) (k : Nat) {d : Jvm.Cond} (h : tables_1[k]? = some d) : d.before a0 Z = true := G.1 d (List.mem_of_getElem? h)
theorem gEL (G : Glob Z a0 iCS aV aG aN tG tN bG bN kV kG kN) : EW Z a0 EL0 := G.2.1
theorem gSA (G : Glob Z a0 iCS aV aG aN tG tN bG bN kV kG kN) : ∀ a ∈ Bundle.stringAtoms, a.before a0 Z = true := G.2.2.1
theorem S_CS (G : Glob Z a0 iCS aV aG aN tG tN bG bN kV kG kN) : Sta Z Z.heap "java/lang/String" "COMPACT_STRINGS" "Z" (.int iCS) := G.2.2.2.1
theorem n_CS (G : Glob Z a0 iCS aV aG aN tG tN bG bN kV kG kN) : ¬ iCS = 0 := G.2.2.2.2.1
theorem S_V (G : Glob Z a0 iCS aV aG aN tG tN bG bN kV kG kN) : Sta Z Z.heap "com/example/tight_calculus/tightcalculus/Model$Kind" "$VALUES" "[Lcom/example/tight_calculus/tightcalculus/Model$Kind;" (.ref aV) := G.2.2.2.2.2.1
theorem S_G (G : Glob Z a0 iCS aV aG aN tG tN bG bN kV kG kN) : Sta Z Z.heap "com/example/tight_calculus/tightcalculus/Model$Kind" "GPC" "Lcom/example/tight_calculus/tightcalculus/Model$Kind;" (.ref aG) := G.2.2.2.2.2.2.1
theorem S_N (G : Glob Z a0 iCS aV aG aN tG tN bG bN kV kG kN) : Sta Z Z.heap "com/example/tight_calculus/tightcalculus/Model$Kind" "AND" "Lcom/example/tight_calculus/tightcalculus/Model$Kind;" (.ref aN) := G.2.2.2.2.2.2.2.1
theorem E_V (G : Glob Z a0 iCS aV aG aN tG tN bG bN kV kG kN) : Exa Z Z.heap aV "[Lcom/example/tight_calculus/tightcalculus/Model$Kind;" := G.2.2.2.2.2.2.2.2.1
theorem A_V (G : Glob Z a0 iCS aV aG aN tG tN bG bN kV kG kN) : Arv Z Z.heap aV kV (.object "com/example/tight_calculus/tightcalculus/Model$Kind") 2 [.ref aG, .ref aN] .null := G.2.2.2.2.2.2.2.2.2.1
theorem E_G (G : Glob Z a0 iCS aV aG aN tG tN bG bN kV kG kN) : Exa Z Z.heap aG "com/example/tight_calculus/tightcalculus/Model$Kind" := G.2.2.2.2.2.2.2.2.2.2.1
theorem F_G (G : Glob Z a0 iCS aV aG aN tG tN bG bN kV kG kN) : Fld Z Z.heap aG "com/example/tight_calculus/tightcalculus/Model$Kind" "type" "Ljava/lang/String;" (.ref tG) := G.2.2.2.2.2.2.2.2.2.2.2.1
theorem ES_G (G : Glob Z a0 iCS aV aG aN tG tN bG bN kV kG kN) : Exa Z Z.heap tG "java/lang/String" := G.2.2.2.2.2.2.2.2.2.2.2.2.1
theorem FC_G (G : Glob Z a0 iCS aV aG aN tG tN bG bN kV kG kN) : Fld Z Z.heap tG "java/lang/String" "coder" "B" (.int 0) := G.2.2.2.2.2.2.2.2.2.2.2.2.2.1
theorem FV_G (G : Glob Z a0 iCS aV aG aN tG tN bG bN kV kG kN) : Fld Z Z.heap tG "java/lang/String" "value" "[B" (.ref bG) := G.2.2.2.2.2.2.2.2.2.2.2.2.2.2.1
theorem AB_G (G : Glob Z a0 iCS aV aG aN tG tN bG bN kV kG kN) : Arv Z Z.heap bG kG .byte 3 [.int 103, .int 112, .int 99] (.int 0) := G.2.2.2.2.2.2.2.2.2.2.2.2.2.2.2.1
theorem E_N (G : Glob Z a0 iCS aV aG aN tG tN bG bN kV kG kN) : Exa Z Z.heap aN "com/example/tight_calculus/tightcalculus/Model$Kind" := G.2.2.2.2.2.2.2.2.2.2.2.2.2.2.2.2.1
theorem F_N (G : Glob Z a0 iCS aV aG aN tG tN bG bN kV kG kN) : Fld Z Z.heap aN "com/example/tight_calculus/tightcalculus/Model$Kind" "type" "Ljava/lang/String;" (.ref tN) := G.2.2.2.2.2.2.2.2.2.2.2.2.2.2.2.2.2.1
theorem ES_N (G : Glob Z a0 iCS aV aG aN tG tN bG bN kV kG kN) : Exa Z Z.heap tN "java/lang/String" := G.2.2.2.2.2.2.2.2.2.2.2.2.2.2.2.2.2.2.1
theorem FC_N (G : Glob Z a0 iCS aV aG aN tG tN bG bN kV kG kN) : Fld Z Z.heap tN "java/lang/String" "coder" "B" (.int 0) := G.2.2.2.2.2.2.2.2.2.2.2.2.2.2.2.2.2.2.2.1
theorem FV_N (G : Glob Z a0 iCS aV aG aN tG tN bG bN kV kG kN) : Fld Z Z.heap tN "java/lang/String" "value" "[B" (.ref bN) := G.2.2.2.2.2.2.2.2.2.2.2.2.2.2.2.2.2.2.2.2.1
theorem AB_N (G : Glob Z a0 iCS aV aG aN tG tN bG bN kV kG kN) : Arv Z Z.heap bN kN .byte 3 [.int 97, .int 110, .int 100] (.int 0) := G.2.2.2.2.2.2.2.2.2.2.2.2.2.2.2.2.2.2.2.2.2
end OwnGlob
theorem pn_com_example_tight_calculus_tightcalculus_KindNamedPinLaw : plainName "com/example/tight_calculus/tightcalculus/KindNamedPinLaw" = true := by first | (simp [plainName, overriddenIn]; done) | decide +kernel
theorem d0_0 : decode method_2_code 0 = .ok (.iload_n 0, 1) := by decide +kernel
theorem d0_1 : decode method_2_code 1 = .ok (.sipush 256, 3) := by decide +kernel
theorem d0_4 : decode method_2_code 4 = .ok (.iand, 1) := by decide +kernel
theorem d0_5 : decode method_2_code 5 = .ok (.ifCond .eq 7, 3) := by decide +kernel
theorem d0_12 : decode method_2_code 12 = .ok (.iload_n 0, 1) := by decide +kernel
theorem d0_13 : decode method_2_code 13 = .ok (.sipush 255, 3) := by decide +kernel
theorem d0_16 : decode method_2_code 16 = .ok (.iand, 1) := by decide +kernel
theorem d0_17 : decode method_2_code 17 = .ok (.i2c, 1) := by decide +kernel
theorem d0_18 : decode method_2_code 18 = .ok (.ireturn, 1) := by decide +kernel
theorem d0_8 : decode method_2_code 8 = .ok (.iload_n 1, 1) := by decide +kernel
theorem d0_9 : decode method_2_code 9 = .ok (.goto 9, 3) := by decide +kernel
def Q_rm1 (Z : State) (iCS : Int32) (aV : Addr) (aG : Addr) (aN : Addr) (tG : Addr) (tN : Addr) (bG : Addr) (bN : Addr) (kV : ClassId) (kG : ClassId) (kN : ClassId) (i0 : Int32) (h0 : Heap) (n0 : Nat) (vs : Vm) (v : Option Value) (h : Heap) (L : List Loc) (ve : Vm) : Prop := Fr n0 L ∧ ((v = some (.int (drV i0 (103 : Int32))) ∧ (h0 = h)))
def R_rm1 : Room := { frames := 0, cells := 0, slots := 0, locals := 0 }
set_option maxRecDepth 65536 in
set_option maxHeartbeats 4000000 in
theorem rm1 (l : Launch) {Z : State} {a0 : Array Value} {iCS : Int32} {aV : Addr} {aG : Addr} {aN : Addr} {tG : Addr} {tN : Addr} {bG : Addr} {bN : Addr} {kV : ClassId} {kG : ClassId} {kN : ClassId} (G : Glob Z a0 iCS aV aG aN tG tN bG bN kV kG kN) (i0 : Int32) (h0 : Heap) {n0 : Nat} (Z0 : n0 ≤ h0.size) (O0 : Old Z n0 h0)  :
    MetH l Z EL0 (⟨"com/example/tight_calculus/tightcalculus/KindNamedPinLaw", "drawn", "(IC)C"⟩ : MethodName) method_2_code 2 (some .char) [] R_rm1 #[.int i0, .int (103 : Int32)] h0 [] (Q_rm1 Z iCS aV aG aN tG tN bG bN kV kG kN i0 h0 n0) := by
  refine MetH.of (n0 := n0) #[.val (.int i0), .val (.int (103 : Int32))] pn_com_example_tight_calculus_tightcalculus_KindNamedPinLaw rfl Z0 (fun p e s m below meth c T0 hret hml hnm hSL hs0 X0 => ?_)
  refine kILn X0 d0_0 rfl ?_
  refine kSI X0 (256 : Int32) d0_1 (by decide) ?_
  refine kIAND X0 (i0 &&& (256 : Int32)) d0_4 rfl ?_
  by_cases c1 : (i0 &&& (256 : Int32)) = 0
  · refine kIFt X0 12 d0_5 (XT.i0_eq_t c1) (by decide) ?_
    refine kILn X0 d0_12 rfl ?_
    refine kSI X0 (255 : Int32) d0_13 (by decide) ?_
    refine kIAND X0 (i0 &&& (255 : Int32)) d0_16 rfl ?_
    refine kI2C X0 (i0 &&& (255 : Int32)) d0_17 (i2c_mask _) ?_
    exact kRETZ X0 (gEL G) (t := .char) hret (by simp) d0_18 (fun ve hve => ⟨X0.N, (own_drT c1), rfl⟩) (by decide) (by decide)
  · refine kIFf X0 d0_5 (XT.i0_eq_f c1) ?_
    refine kILn X0 d0_8 rfl ?_
    refine kGOTO X0 18 d0_9 (by decide) ?_
    exact kRETZ X0 (gEL G) (t := .char) hret (by simp) d0_18 (fun ve hve => ⟨X0.N, (own_drF c1), rfl⟩) (by decide) (by decide)
theorem pd__IC_C : parseMethodDescriptor "(IC)C" = some ⟨[.int, .char], some .char⟩ := by decide +kernel
def Q_rm2 (Z : State) (iCS : Int32) (aV : Addr) (aG : Addr) (aN : Addr) (tG : Addr) (tN : Addr) (bG : Addr) (bN : Addr) (kV : ClassId) (kG : ClassId) (kN : ClassId) (i0 : Int32) (h0 : Heap) (n0 : Nat) (vs : Vm) (v : Option Value) (h : Heap) (L : List Loc) (ve : Vm) : Prop := Fr n0 L ∧ ((v = some (.int (drV i0 (112 : Int32))) ∧ (h0 = h)))
def R_rm2 : Room := { frames := 0, cells := 0, slots := 0, locals := 0 }
set_option maxRecDepth 65536 in
set_option maxHeartbeats 4000000 in
theorem rm2 (l : Launch) {Z : State} {a0 : Array Value} {iCS : Int32} {aV : Addr} {aG : Addr} {aN : Addr} {tG : Addr} {tN : Addr} {bG : Addr} {bN : Addr} {kV : ClassId} {kG : ClassId} {kN : ClassId} (G : Glob Z a0 iCS aV aG aN tG tN bG bN kV kG kN) (i0 : Int32) (h0 : Heap) {n0 : Nat} (Z0 : n0 ≤ h0.size) (O0 : Old Z n0 h0)  :
    MetH l Z EL0 (⟨"com/example/tight_calculus/tightcalculus/KindNamedPinLaw", "drawn", "(IC)C"⟩ : MethodName) method_2_code 2 (some .char) [] R_rm2 #[.int i0, .int (112 : Int32)] h0 [] (Q_rm2 Z iCS aV aG aN tG tN bG bN kV kG kN i0 h0 n0) := by
  refine MetH.of (n0 := n0) #[.val (.int i0), .val (.int (112 : Int32))] pn_com_example_tight_calculus_tightcalculus_KindNamedPinLaw rfl Z0 (fun p e s m below meth c T0 hret hml hnm hSL hs0 X0 => ?_)
  refine kILn X0 d0_0 rfl ?_
  refine kSI X0 (256 : Int32) d0_1 (by decide) ?_
  refine kIAND X0 (i0 &&& (256 : Int32)) d0_4 rfl ?_
  by_cases c1 : (i0 &&& (256 : Int32)) = 0
  · refine kIFt X0 12 d0_5 (XT.i0_eq_t c1) (by decide) ?_
    refine kILn X0 d0_12 rfl ?_
    refine kSI X0 (255 : Int32) d0_13 (by decide) ?_
    refine kIAND X0 (i0 &&& (255 : Int32)) d0_16 rfl ?_
    refine kI2C X0 (i0 &&& (255 : Int32)) d0_17 (i2c_mask _) ?_
    exact kRETZ X0 (gEL G) (t := .char) hret (by simp) d0_18 (fun ve hve => ⟨X0.N, (own_drT c1), rfl⟩) (by decide) (by decide)
  · refine kIFf X0 d0_5 (XT.i0_eq_f c1) ?_
    refine kILn X0 d0_8 rfl ?_
    refine kGOTO X0 18 d0_9 (by decide) ?_
    exact kRETZ X0 (gEL G) (t := .char) hret (by simp) d0_18 (fun ve hve => ⟨X0.N, (own_drF c1), rfl⟩) (by decide) (by decide)
def Q_rm3 (Z : State) (iCS : Int32) (aV : Addr) (aG : Addr) (aN : Addr) (tG : Addr) (tN : Addr) (bG : Addr) (bN : Addr) (kV : ClassId) (kG : ClassId) (kN : ClassId) (i0 : Int32) (h0 : Heap) (n0 : Nat) (vs : Vm) (v : Option Value) (h : Heap) (L : List Loc) (ve : Vm) : Prop := Fr n0 L ∧ ((v = some (.int (drV i0 (99 : Int32))) ∧ (h0 = h)))
def R_rm3 : Room := { frames := 0, cells := 0, slots := 0, locals := 0 }
set_option maxRecDepth 65536 in
set_option maxHeartbeats 4000000 in
theorem rm3 (l : Launch) {Z : State} {a0 : Array Value} {iCS : Int32} {aV : Addr} {aG : Addr} {aN : Addr} {tG : Addr} {tN : Addr} {bG : Addr} {bN : Addr} {kV : ClassId} {kG : ClassId} {kN : ClassId} (G : Glob Z a0 iCS aV aG aN tG tN bG bN kV kG kN) (i0 : Int32) (h0 : Heap) {n0 : Nat} (Z0 : n0 ≤ h0.size) (O0 : Old Z n0 h0)  :
    MetH l Z EL0 (⟨"com/example/tight_calculus/tightcalculus/KindNamedPinLaw", "drawn", "(IC)C"⟩ : MethodName) method_2_code 2 (some .char) [] R_rm3 #[.int i0, .int (99 : Int32)] h0 [] (Q_rm3 Z iCS aV aG aN tG tN bG bN kV kG kN i0 h0 n0) := by
  refine MetH.of (n0 := n0) #[.val (.int i0), .val (.int (99 : Int32))] pn_com_example_tight_calculus_tightcalculus_KindNamedPinLaw rfl Z0 (fun p e s m below meth c T0 hret hml hnm hSL hs0 X0 => ?_)
  refine kILn X0 d0_0 rfl ?_
  refine kSI X0 (256 : Int32) d0_1 (by decide) ?_
  refine kIAND X0 (i0 &&& (256 : Int32)) d0_4 rfl ?_
  by_cases c1 : (i0 &&& (256 : Int32)) = 0
  · refine kIFt X0 12 d0_5 (XT.i0_eq_t c1) (by decide) ?_
    refine kILn X0 d0_12 rfl ?_
    refine kSI X0 (255 : Int32) d0_13 (by decide) ?_
    refine kIAND X0 (i0 &&& (255 : Int32)) d0_16 rfl ?_
    refine kI2C X0 (i0 &&& (255 : Int32)) d0_17 (i2c_mask _) ?_
    exact kRETZ X0 (gEL G) (t := .char) hret (by simp) d0_18 (fun ve hve => ⟨X0.N, (own_drT c1), rfl⟩) (by decide) (by decide)
  · refine kIFf X0 d0_5 (XT.i0_eq_f c1) ?_
    refine kILn X0 d0_8 rfl ?_
    refine kGOTO X0 18 d0_9 (by decide) ?_
    exact kRETZ X0 (gEL G) (t := .char) hret (by simp) d0_18 (fun ve hve => ⟨X0.N, (own_drF c1), rfl⟩) (by decide) (by decide)
theorem pn_java_lang_String : plainName "java/lang/String" = true := by first | (simp [plainName, overriddenIn]; done) | decide +kernel
theorem d1_0 : decode jdk_42_method_3_code 0 = .ok (.aload_n 0, 1) := by decide +kernel
theorem d1_1 : decode jdk_42_method_3_code 1 = .ok (.aload_n 1, 1) := by decide +kernel
theorem d1_2 : decode jdk_42_method_3_code 2 = .ok (.iconst 0, 1) := by decide +kernel
theorem d1_3 : decode jdk_42_method_3_code 3 = .ok (.aload_n 1, 1) := by decide +kernel
theorem d1_4 : decode jdk_42_method_3_code 4 = .ok (.arraylength, 1) := by decide +kernel
theorem d1_5 : decode jdk_42_method_3_code 5 = .ok (.aconst_null, 1) := by decide +kernel
theorem d1_6 : decode jdk_42_method_3_code 6 = .ok (.invokespecial 27, 3) := by decide +kernel
theorem d2_0 : decode jdk_42_method_149_code 0 = .ok (.aload_n 0, 1) := by decide +kernel
theorem d2_1 : decode jdk_42_method_149_code 1 = .ok (.invokespecial 1, 3) := by decide +kernel
theorem d2_4 : decode jdk_42_method_149_code 4 = .ok (.iload_n 3, 1) := by decide +kernel
theorem d2_5 : decode jdk_42_method_149_code 5 = .ok (.ifCond .ne 22, 3) := by decide +kernel
theorem d2_8 : decode jdk_42_method_149_code 8 = .ok (.aload_n 0, 1) := by decide +kernel
theorem d2_9 : decode jdk_42_method_149_code 9 = .ok (.ldc 7, 2) := by decide +kernel
theorem d2_11 : decode jdk_42_method_149_code 11 = .ok (.getfield 9, 3) := by decide +kernel
theorem d2_14 : decode jdk_42_method_149_code 14 = .ok (.putfield 9, 3) := by decide +kernel
theorem d2_17 : decode jdk_42_method_149_code 17 = .ok (.aload_n 0, 1) := by decide +kernel
theorem d2_18 : decode jdk_42_method_149_code 18 = .ok (.ldc 7, 2) := by decide +kernel
theorem d2_20 : decode jdk_42_method_149_code 20 = .ok (.getfield 15, 3) := by decide +kernel
theorem d2_23 : decode jdk_42_method_149_code 23 = .ok (.putfield 15, 3) := by decide +kernel
theorem d2_26 : decode jdk_42_method_149_code 26 = .ok (.return_, 1) := by decide +kernel
def Q_rm5 (Z : State) (iCS : Int32) (aV : Addr) (aG : Addr) (aN : Addr) (tG : Addr) (tN : Addr) (bG : Addr) (bN : Addr) (kV : ClassId) (kG : ClassId) (kN : ClassId) (q0 : Addr) (q1 : Addr) (kp0 : ClassId) (h0 : Heap) (n0 : Nat) (vs : Vm) (v : Option Value) (h : Heap) (L : List Loc) (ve : Vm) : Prop := Fr n0 L ∧ ((∃ (x0 : Addr), ∃ (z0 : ClassId), v = none ∧ (Keep h0 h [q0]) ∧ (∀ x, x < h0.size → Safe Z EL0 vs h0 x → x ≠ x0) ∧ (Arv Z h x0 z0 .byte 0 [] (.int 0)) ∧ (Fld Z h q0 "java/lang/String" "coder" "B" (.int (0 : Int32))) ∧ (Fld Z h q0 "java/lang/String" "value" "[B" (.ref x0))))
def R_rm5 : Room := { frames := 1, cells := 4, slots := 8, locals := 12 }
set_option maxRecDepth 65536 in
set_option maxHeartbeats 4000000 in
theorem rm5 (l : Launch) {Z : State} {a0 : Array Value} {iCS : Int32} {aV : Addr} {aG : Addr} {aN : Addr} {tG : Addr} {tN : Addr} {bG : Addr} {bN : Addr} {kV : ClassId} {kG : ClassId} {kN : ClassId} (G : Glob Z a0 iCS aV aG aN tG tN bG bN kV kG kN) (q0 : Addr) (q1 : Addr) (kp0 : ClassId) (h0 : Heap) {n0 : Nat} (Z0 : n0 ≤ h0.size) (O0 : Old Z n0 h0) (E_q0 : Exa Z h0 q0 "java/lang/String") (A_q1 : Arv Z h0 q1 kp0 .char 0 [] (.int (0 : Int32))) (F_q0_value : Fld Z h0 q0 "java/lang/String" "value" "[B" (.null)) (d_q1_q0 : q1 ≠ q0) (F_q0_coder : Fld Z h0 q0 "java/lang/String" "coder" "B" (.int (0 : Int32))) (g_q0 : n0 ≤ q0) :
    MetH l Z EL0 (⟨"java/lang/String", "<init>", "([CIILjava/lang/Void;)V"⟩ : MethodName) jdk_42_method_149_code 6 none [] R_rm5 #[.ref q0, .ref q1, .int (0 : Int32), .int (0 : Int32), .null] h0 [q0] (Q_rm5 Z iCS aV aG aN tG tN bG bN kV kG kN q0 q1 kp0 h0 n0) := by
  refine MetH.of (n0 := n0) #[.val (.ref q0), .val (.ref q1), .val (.int (0 : Int32)), .val (.int (0 : Int32)), .val .null, .unset] pn_java_lang_String rfl Z0 (fun p e s m below meth c T0 hret hml hnm hSL hs0 X0 => ?_)
  have S_q0 := hSL q0 (List.mem_of_getElem? (i := 0) rfl)
  refine kALn X0 d2_0 rfl rfl ?_
  refine kINIT X0 (wd G 16 rfl) (wd G 17 rfl) (wd G 18 rfl) (by rw [hml]; rfl) d2_1 (by decide) 0 (Nat.le_of_eq rfl) (by decide) (fun T1 X2 => ?_)
  refine kILn X2 d2_4 rfl ?_
  refine kIFf X2 d2_5 (XT.i0_ne_f (by decide)) ?_
  refine kALn X2 d2_8 rfl rfl ?_
  refine kLDCT X2 (gEL G) (wd G 19 rfl) (gSA G) (by decide) (text := "") (vs := []) (z := 0) (by decide) (by decide) (by decide) d2_9 (n := 0) (by decide) (by decide) (by decide) (by decide) (fun T3 h4 vm6 a7 b8 k9 E10 C11 f12 f13 f14 f15 n16 X5 => ?_)
  have f17 := (CHr.safe C11 (E_q0.lt) S_q0)
  have n18 := (n16 q0 f17).1
  have n19 := (n16 q0 f17).2
  have f20 := (Arv.ext A_q1 E10)
  have n21 := (n16 q1 (Safe.arv X5.hZ.alike f20 (by decide))).1
  have n22 := (n16 q1 (Safe.arv X5.hZ.alike f20 (by decide))).2
  have n23 : ∀ x, x < h0.size → Safe Z EL0 s.vm h0 x → x ≠ b8 := fun x hx S => (n16 x (CHr.safe (hs0 ▸ X5.C) hx S)).2
  refine kGETF X5 (wd G 25 rfl) Via.refl f14 d2_11 (fun T24 X25 => ?_)
  have f26 := (Fld.ext E10 F_q0_value)
  have f27 := (Exa.ext E10 E_q0)
  refine kPUTF X25 (wd G 25 rfl) Via.refl f26 f27 (Or.inr ⟨(wd G 21 rfl), rfl, hnm⟩) (wd G 6 rfl) (ty := (.array (.byte))) (by decide) rfl rfl g_q0 f17 d2_14 (fun T28 h29 L32 W31 X30 => ?_)
  have f33 := Fld.same W31 f26
  refine kALn X30 d2_17 rfl rfl ?_
  refine kLDCT X30 (gEL G) (wd G 19 rfl) (gSA G) (by decide) (text := "") (vs := []) (z := 0) (by decide) (by decide) (by decide) d2_18 (n := 0) (by decide) (by decide) (by decide) (by decide) (fun T34 h35 vm37 a38 b39 k40 E41 C42 f43 f44 f45 f46 n47 X36 => ?_)
  have f48 := (CHr.safe C42 (f33.lt) (Safe.wr W31 f17 X25.C.1 f17))
  have n49 := (n47 q0 f48).1
  have n50 := (n47 q0 f48).2
  have f51 := (Arv.ext (Arv.other f20 W31 d_q1_q0) E41)
  have n52 := (n47 q1 (Safe.arv X36.hZ.alike f51 (by decide))).1
  have n53 := (n47 q1 (Safe.arv X36.hZ.alike f51 (by decide))).2
  have n54 : ∀ x, x < h0.size → Safe Z EL0 s.vm h0 x → x ≠ b39 := fun x hx S => (n47 x (CHr.safe (hs0 ▸ X36.C) hx S)).2
  refine kGETF X36 (wd G 26 rfl) Via.refl f44 d2_20 (fun T55 X56 => ?_)
  have f57 := (Fld.ext E41 (Fld.other W31 (Fld.ext E10 F_q0_coder) (Or.inr (slot_ne (Or.inr (wd G 22 rfl)) (Or.inr (wd G 21 rfl)) (by decide) (by decide : parseFieldDescriptor "B" = some .byte) (by decide : parseFieldDescriptor "[B" = some (.array (.byte)))))))
  have f58 := (Exa.ext E41 (Exa.wr W31 f27))
  refine kPUTF X56 (wd G 26 rfl) Via.refl f57 f58 (Or.inr ⟨(wd G 22 rfl), rfl, hnm⟩) (wd G 6 rfl) (ty := .byte) (by decide) (by decide) (by decide) g_q0 f48 d2_23 (fun T59 h60 L63 W62 X61 => ?_)
  have f64 := Fld.same W62 f57
  have K65 : Keep h0 h60 [q0] := (Keep.wr (Keep.ext (Keep.wr (Keep.ext (Keep.refl h0 [q0]) E10) W31 (Or.inl (List.mem_of_getElem? (i := 0) rfl))) E41) W62 (Or.inl (List.mem_of_getElem? (i := 0) rfl)))
  have f66 := (Arv.other (Arv.ext (Arv.other f15 W31 (Ne.symm n19)) E41) W62 (Ne.symm n19))
  have f67 := (Fld.other W62 (Fld.ext E41 f33) (Or.inr (slot_ne (Or.inr (wd G 21 rfl)) (Or.inr (wd G 22 rfl)) (by decide) (by decide : parseFieldDescriptor "[B" = some (.array (.byte))) (by decide : parseFieldDescriptor "B" = some .byte))))
  exact kRETV X61 (gEL G) hret d2_26 (fun ve hve => ⟨X61.N, ⟨b8, k9, rfl, K65, n23, f66, f64, f67⟩⟩) (by decide) (by decide)
theorem pd___CIILjava_lang_Void__V : parseMethodDescriptor "([CIILjava/lang/Void;)V" = some ⟨[.array (.char), .int, .int, .object "java/lang/Void"], none⟩ := by decide +kernel
theorem d1_9 : decode jdk_42_method_3_code 9 = .ok (.return_, 1) := by decide +kernel
def Q_rm4 (Z : State) (iCS : Int32) (aV : Addr) (aG : Addr) (aN : Addr) (tG : Addr) (tN : Addr) (bG : Addr) (bN : Addr) (kV : ClassId) (kG : ClassId) (kN : ClassId) (q0 : Addr) (q1 : Addr) (kp0 : ClassId) (h0 : Heap) (n0 : Nat) (vs : Vm) (v : Option Value) (h : Heap) (L : List Loc) (ve : Vm) : Prop := Fr n0 L ∧ ((∃ (x0 : Addr), ∃ (z0 : ClassId), v = none ∧ (Keep h0 h [q0]) ∧ (∀ x, x < h0.size → Safe Z EL0 vs h0 x → x ≠ x0) ∧ (Arv Z h x0 z0 .byte 0 [] (.int 0)) ∧ (Fld Z h q0 "java/lang/String" "coder" "B" (.int (0 : Int32))) ∧ (Fld Z h q0 "java/lang/String" "value" "[B" (.ref x0))))
def R_rm4 : Room := { frames := 2, cells := 4, slots := 8, locals := 29 }
set_option maxRecDepth 65536 in
set_option maxHeartbeats 4000000 in
theorem rm4 (l : Launch) {Z : State} {a0 : Array Value} {iCS : Int32} {aV : Addr} {aG : Addr} {aN : Addr} {tG : Addr} {tN : Addr} {bG : Addr} {bN : Addr} {kV : ClassId} {kG : ClassId} {kN : ClassId} (G : Glob Z a0 iCS aV aG aN tG tN bG bN kV kG kN) (q0 : Addr) (q1 : Addr) (kp0 : ClassId) (h0 : Heap) {n0 : Nat} (Z0 : n0 ≤ h0.size) (O0 : Old Z n0 h0) (A_q1 : Arv Z h0 q1 kp0 .char 0 [] (.int (0 : Int32))) (E_q0 : Exa Z h0 q0 "java/lang/String") (F_q0_value : Fld Z h0 q0 "java/lang/String" "value" "[B" (.null)) (d_q1_q0 : q1 ≠ q0) (F_q0_coder : Fld Z h0 q0 "java/lang/String" "coder" "B" (.int (0 : Int32))) (g_q0 : n0 ≤ q0) :
    MetH l Z EL0 (⟨"java/lang/String", "<init>", "([C)V"⟩ : MethodName) jdk_42_method_3_code 2 none [] R_rm4 #[.ref q0, .ref q1] h0 [q0] (Q_rm4 Z iCS aV aG aN tG tN bG bN kV kG kN q0 q1 kp0 h0 n0) := by
  refine MetH.of (n0 := n0) #[.val (.ref q0), .val (.ref q1)] pn_java_lang_String rfl Z0 (fun p e s m below meth c T0 hret hml hnm hSL hs0 X0 => ?_)
  have S_q0 := hSL q0 (List.mem_of_getElem? (i := 0) rfl)
  refine kALn X0 d1_0 rfl rfl ?_
  refine kALn X0 d1_1 rfl rfl ?_
  refine kIC X0 (0 : Int32) d1_2 (by decide) ?_
  refine kALn X0 d1_3 rfl rfl ?_
  refine kLEN X0 A_q1 d1_4 ?_
  refine kNULL X0 d1_5 ?_
  refine kSPEC X0 (gEL G) (argsL := [.ref q1, .int (0 : Int32), .int (0 : Int32), .null]) (rest := []) (wd G 12 rfl) (wd G 13 rfl) (wd G 7 rfl) (wd G 15 rfl) rfl (by decide) (rm5 l G q0 q1 kp0 h0 X0.n O0 E_q0 A_q1 F_q0_value d_q1_q0 F_q0_coder g_q0) (allS ⟨(E_q0.lt), S_q0⟩ all0) (fun _ _ _ _ _ q => q.1) (lenOf pd___CIILjava_lang_Void__V rfl) rfl (by decide) 0 (Nat.le_of_eq rfl) (by decide) (by decide) (by decide) (by rw [hml]; rfl) d1_6 (fun v1 L2 T3 h4 vm5 K6 w7 q8 C9 C10 X11 => ?_)
  obtain ⟨n12, ⟨a13, k14, e15, f16, f17, f18, f19, f20⟩⟩ := q8
  subst e15
  have n21 : q0 ≠ a13 := f17 q0 (E_q0.lt) (CHr.safe C9 (E_q0.lt) S_q0)
  have n22 : q1 ≠ a13 := f17 q1 (A_q1.lt) (CHr.safe C9 (A_q1.lt) (Safe.arv X0.hZ.alike A_q1 (by decide)))
  have n23 : ∀ x, x < h0.size → Safe Z EL0 s.vm h0 x → x ≠ a13 := fun x hx S => f17 x (Nat.lt_of_lt_of_le hx X0.g0) (CHr.safe C9 (Nat.lt_of_lt_of_le hx X0.g0) (CHr.safe (hs0 ▸ X0.C) hx S))
  show Go _ _ _ _ T3 (mkF m 9 #[.val (.ref q0), .val (.ref q1)] [])
  have K24 : Keep h0 h4 [q0] := (Keep.trans (Keep.refl h0 [q0]) f16 (allS (Or.inl (List.mem_of_getElem? (i := 0) rfl)) all0))
  exact kRETV X11 (gEL G) hret d1_9 (fun ve hve => ⟨X11.N, ⟨a13, k14, rfl, K24, n23, f18, f19, f20⟩⟩) (by decide) (by decide)
theorem pn_com_example_tight_calculus_tightcalculus_Model_Kind : plainName "com/example/tight_calculus/tightcalculus/Model$Kind" = true := by first | (simp [plainName, overriddenIn]; done) | decide +kernel
theorem pd___C_V : parseMethodDescriptor "([C)V" = some ⟨[.array (.char)], none⟩ := by decide +kernel
theorem d4_0 : decode prog_20_method_6_code 0 = .ok (.aconst_null, 1) := by decide +kernel
theorem d4_1 : decode prog_20_method_6_code 1 = .ok (.astore_n 1, 1) := by decide +kernel
theorem d4_2 : decode prog_20_method_6_code 2 = .ok (.invokestatic 41, 3) := by decide +kernel
theorem d5_0 : decode prog_20_method_1_code 0 = .ok (.getstatic 10, 3) := by decide +kernel
theorem d5_3 : decode prog_20_method_1_code 3 = .ok (.invokevirtual 14, 3) := by decide +kernel
theorem d5_6 : decode prog_20_method_1_code 6 = .ok (.checkcast 15, 3) := by decide +kernel
theorem d5_9 : decode prog_20_method_1_code 9 = .ok (.areturn, 1) := by decide +kernel
def Q_rm7 (Z : State) (iCS : Int32) (aV : Addr) (aG : Addr) (aN : Addr) (tG : Addr) (tN : Addr) (bG : Addr) (bN : Addr) (kV : ClassId) (kG : ClassId) (kN : ClassId)  (h0 : Heap) (n0 : Nat) (vs : Vm) (v : Option Value) (h : Heap) (L : List Loc) (ve : Vm) : Prop := Fr n0 L ∧ ((∃ (x0 : Addr), v = some (.ref x0) ∧ (Keep h0 h []) ∧ (h0.size ≤ x0) ∧ (Exa Z h x0 "[Lcom/example/tight_calculus/tightcalculus/Model$Kind;") ∧ (Arv Z h x0 kV (.object "com/example/tight_calculus/tightcalculus/Model$Kind") 2 [.ref aG, .ref aN] (.null))))
def R_rm7 : Room := { frames := 1, cells := 1, slots := 2, locals := 14 }
set_option maxRecDepth 65536 in
set_option maxHeartbeats 4000000 in
theorem rm7 (l : Launch) {Z : State} {a0 : Array Value} {iCS : Int32} {aV : Addr} {aG : Addr} {aN : Addr} {tG : Addr} {tN : Addr} {bG : Addr} {bN : Addr} {kV : ClassId} {kG : ClassId} {kN : ClassId} (G : Glob Z a0 iCS aV aG aN tG tN bG bN kV kG kN)  (h0 : Heap) {n0 : Nat} (Z0 : n0 ≤ h0.size) (O0 : Old Z n0 h0)  :
    MetH l Z EL0 (⟨"com/example/tight_calculus/tightcalculus/Model$Kind", "values", "()[Lcom/example/tight_calculus/tightcalculus/Model$Kind;"⟩ : MethodName) prog_20_method_1_code 0 (some (.array (.object "com/example/tight_calculus/tightcalculus/Model$Kind"))) [] R_rm7 #[] h0 [] (Q_rm7 Z iCS aV aG aN tG tN bG bN kV kG kN  h0 n0) := by
  refine MetH.of (n0 := n0) #[] pn_com_example_tight_calculus_tightcalculus_Model_Kind rfl Z0 (fun p e s m below meth c T0 hret hml hnm hSL hs0 X0 => ?_)
  refine kGETS X0 (wd G 34 rfl) Via.refl (Sta.ext O0.2 (S_V G)) d5_0 (fun T1 X2 => ?_)
  refine kCLONE X2 (wd G 36 rfl) (wd G 37 rfl) (wd G 41 rfl) (wd G 39 rfl) (wd G 40 rfl) (wd G 42 rfl) (Arv.ext (A_V G) O0.2) (Exa.ext O0.2 (E_V G)) (by rw [hml]; rfl) d5_3 (by decide) 0 2 (Nat.le_of_eq rfl) (by decide) (by decide) (by decide) (by decide) (fun T3 h4 a6 E7 q8 g9 A10 A11 s12 X5 => ?_)
  have g13 : h0.size ≤ a6 := q8 ▸ X2.g0
  refine kCAST X5 (wd G 46 rfl) (Ins.of_exa A11 (wd G 47 rfl)) d5_6 (fun T14 X15 => ?_)
  have K16 : Keep h0 h4 [] := (Keep.ext (Keep.refl h0 []) E7)
  exact kRETA X15 (gEL G) hret rfl rfl d5_9 (fun ve hve => ⟨X15.N, ⟨a6, rfl, K16, g13, A11, A10⟩⟩) (by decide) (by decide)
theorem pn_java_lang_StringLatin1 : plainName "java/lang/StringLatin1" = true := by first | (simp [plainName, overriddenIn]; done) | decide +kernel
theorem pd____Lcom_example_tight_calculus_tightcalculus_Model_Kind_ : parseMethodDescriptor "()[Lcom/example/tight_calculus/tightcalculus/Model$Kind;" = some ⟨[], some (.array (.object "com/example/tight_calculus/tightcalculus/Model$Kind"))⟩ := by decide +kernel
theorem d4_5 : decode prog_20_method_6_code 5 = .ok (.astore_n 2, 1) := by decide +kernel
theorem d4_6 : decode prog_20_method_6_code 6 = .ok (.aload_n 2, 1) := by decide +kernel
theorem d4_7 : decode prog_20_method_6_code 7 = .ok (.arraylength, 1) := by decide +kernel
theorem d4_8 : decode prog_20_method_6_code 8 = .ok (.istore_n 3, 1) := by decide +kernel
theorem d4_9 : decode prog_20_method_6_code 9 = .ok (.iconst 0, 1) := by decide +kernel
theorem d4_10 : decode prog_20_method_6_code 10 = .ok (.istore 4, 2) := by decide +kernel
theorem d4_12 : decode prog_20_method_6_code 12 = .ok (.iload 4, 2) := by decide +kernel
theorem d4_14 : decode prog_20_method_6_code 14 = .ok (.iload_n 3, 1) := by decide +kernel
theorem d4_15 : decode prog_20_method_6_code 15 = .ok (.if_icmp .ge 30, 3) := by decide +kernel
theorem d4_18 : decode prog_20_method_6_code 18 = .ok (.aload_n 2, 1) := by decide +kernel
theorem d4_19 : decode prog_20_method_6_code 19 = .ok (.iload 4, 2) := by decide +kernel
theorem d4_21 : decode prog_20_method_6_code 21 = .ok (.aaload, 1) := by decide +kernel
theorem d4_22 : decode prog_20_method_6_code 22 = .ok (.astore 5, 2) := by decide +kernel
theorem d4_24 : decode prog_20_method_6_code 24 = .ok (.aload 5, 2) := by decide +kernel
theorem d4_26 : decode prog_20_method_6_code 26 = .ok (.getfield 29, 3) := by decide +kernel
theorem d4_29 : decode prog_20_method_6_code 29 = .ok (.aload_n 0, 1) := by decide +kernel
theorem d4_30 : decode prog_20_method_6_code 30 = .ok (.invokevirtual 45, 3) := by decide +kernel
theorem d6_0 : decode jdk_42_method_66_code 0 = .ok (.aload_n 0, 1) := by decide +kernel
theorem d6_1 : decode jdk_42_method_66_code 1 = .ok (.aload_n 1, 1) := by decide +kernel
theorem d6_2 : decode jdk_42_method_66_code 2 = .ok (.if_acmp .ne 5, 3) := by decide +kernel
theorem d6_7 : decode jdk_42_method_66_code 7 = .ok (.aload_n 1, 1) := by decide +kernel
theorem d6_8 : decode jdk_42_method_66_code 8 = .ok (.instanceof 10, 3) := by decide +kernel
theorem d6_11 : decode jdk_42_method_66_code 11 = .ok (.ifCond .eq 43, 3) := by decide +kernel
theorem d6_14 : decode jdk_42_method_66_code 14 = .ok (.aload_n 1, 1) := by decide +kernel
theorem d6_15 : decode jdk_42_method_66_code 15 = .ok (.checkcast 10, 3) := by decide +kernel
theorem d6_18 : decode jdk_42_method_66_code 18 = .ok (.astore_n 2, 1) := by decide +kernel
theorem d6_19 : decode jdk_42_method_66_code 19 = .ok (.getstatic 38, 3) := by decide +kernel
theorem d6_22 : decode jdk_42_method_66_code 22 = .ok (.ifCond .eq 14, 3) := by decide +kernel
theorem d6_25 : decode jdk_42_method_66_code 25 = .ok (.aload_n 0, 1) := by decide +kernel
theorem d6_26 : decode jdk_42_method_66_code 26 = .ok (.getfield 15, 3) := by decide +kernel
theorem d6_29 : decode jdk_42_method_66_code 29 = .ok (.aload_n 2, 1) := by decide +kernel
theorem d6_30 : decode jdk_42_method_66_code 30 = .ok (.getfield 15, 3) := by decide +kernel
theorem d6_33 : decode jdk_42_method_66_code 33 = .ok (.if_icmp .ne 21, 3) := by decide +kernel
theorem d6_36 : decode jdk_42_method_66_code 36 = .ok (.aload_n 0, 1) := by decide +kernel
theorem d6_37 : decode jdk_42_method_66_code 37 = .ok (.getfield 9, 3) := by decide +kernel
theorem d6_40 : decode jdk_42_method_66_code 40 = .ok (.aload_n 2, 1) := by decide +kernel
theorem d6_41 : decode jdk_42_method_66_code 41 = .ok (.getfield 9, 3) := by decide +kernel
theorem d6_44 : decode jdk_42_method_66_code 44 = .ok (.invokestatic 541, 3) := by decide +kernel
theorem d7_0 : decode jdk_43_method_13_code 0 = .ok (.aload_n 0, 1) := by decide +kernel
theorem d7_1 : decode jdk_43_method_13_code 1 = .ok (.arraylength, 1) := by decide +kernel
theorem d7_2 : decode jdk_43_method_13_code 2 = .ok (.aload_n 1, 1) := by decide +kernel
theorem d7_3 : decode jdk_43_method_13_code 3 = .ok (.arraylength, 1) := by decide +kernel
theorem d7_4 : decode jdk_43_method_13_code 4 = .ok (.if_icmp .ne 30, 3) := by decide +kernel
theorem d7_34 : decode jdk_43_method_13_code 34 = .ok (.iconst 0, 1) := by decide +kernel
theorem d7_35 : decode jdk_43_method_13_code 35 = .ok (.ireturn, 1) := by decide +kernel
def Q_rm9 (Z : State) (iCS : Int32) (aV : Addr) (aG : Addr) (aN : Addr) (tG : Addr) (tN : Addr) (bG : Addr) (bN : Addr) (kV : ClassId) (kG : ClassId) (kN : ClassId) (q0 : Addr) (kp0 : ClassId) (h0 : Heap) (n0 : Nat) (vs : Vm) (v : Option Value) (h : Heap) (L : List Loc) (ve : Vm) : Prop := Fr n0 L ∧ ((v = some (.int (0 : Int32)) ∧ (h0 = h)))
def R_rm9 : Room := { frames := 0, cells := 0, slots := 0, locals := 0 }
set_option maxRecDepth 65536 in
set_option maxHeartbeats 4000000 in
theorem rm9 (l : Launch) {Z : State} {a0 : Array Value} {iCS : Int32} {aV : Addr} {aG : Addr} {aN : Addr} {tG : Addr} {tN : Addr} {bG : Addr} {bN : Addr} {kV : ClassId} {kG : ClassId} {kN : ClassId} (G : Glob Z a0 iCS aV aG aN tG tN bG bN kV kG kN) (q0 : Addr) (kp0 : ClassId) (h0 : Heap) {n0 : Nat} (Z0 : n0 ≤ h0.size) (O0 : Old Z n0 h0) (A_q0 : Arv Z h0 q0 kp0 .byte 0 [] (.int 0)) :
    MetH l Z EL0 (⟨"java/lang/StringLatin1", "equals", "([B[B)Z"⟩ : MethodName) jdk_43_method_13_code 3 (some .boolean) [] R_rm9 #[.ref bG, .ref q0] h0 [] (Q_rm9 Z iCS aV aG aN tG tN bG bN kV kG kN q0 kp0 h0 n0) := by
  refine MetH.of (n0 := n0) #[.val (.ref bG), .val (.ref q0), .unset] pn_java_lang_StringLatin1 rfl Z0 (fun p e s m below meth c T0 hret hml hnm hSL hs0 X0 => ?_)
  refine kALn X0 d7_0 rfl rfl ?_
  refine kLEN X0 (Arv.ext (AB_G G) O0.2) d7_1 ?_
  refine kALn X0 d7_2 rfl rfl ?_
  refine kLEN X0 A_q0 d7_3 ?_
  refine kICt X0 34 d7_4 (XT.ii_ne_t (by decide)) (by decide) ?_
  refine kIC X0 (0 : Int32) d7_34 (by decide) ?_
  exact kRETZ X0 (gEL G) (t := .boolean) hret (by simp) d7_35 (fun ve hve => ⟨X0.N, ⟨rfl, rfl⟩⟩) (by decide) (by decide)
theorem pd___B_B_Z : parseMethodDescriptor "([B[B)Z" = some ⟨[.array (.byte), .array (.byte)], some .boolean⟩ := by decide +kernel
theorem d6_47 : decode jdk_42_method_66_code 47 = .ok (.ifCond .eq 7, 3) := by decide +kernel
theorem d6_54 : decode jdk_42_method_66_code 54 = .ok (.iconst 0, 1) := by decide +kernel
theorem d6_55 : decode jdk_42_method_66_code 55 = .ok (.ireturn, 1) := by decide +kernel
def Q_rm8 (Z : State) (iCS : Int32) (aV : Addr) (aG : Addr) (aN : Addr) (tG : Addr) (tN : Addr) (bG : Addr) (bN : Addr) (kV : ClassId) (kG : ClassId) (kN : ClassId) (q0 : Addr) (q1 : Addr) (kp0 : ClassId) (h0 : Heap) (n0 : Nat) (vs : Vm) (v : Option Value) (h : Heap) (L : List Loc) (ve : Vm) : Prop := Fr n0 L ∧ ((v = some (.int (0 : Int32)) ∧ (h0 = h)))
def R_rm8 : Room := { frames := 1, cells := 0, slots := 0, locals := 14 }
set_option maxRecDepth 65536 in
set_option maxHeartbeats 4000000 in
theorem rm8 (l : Launch) {Z : State} {a0 : Array Value} {iCS : Int32} {aV : Addr} {aG : Addr} {aN : Addr} {tG : Addr} {tN : Addr} {bG : Addr} {bN : Addr} {kV : ClassId} {kG : ClassId} {kN : ClassId} (G : Glob Z a0 iCS aV aG aN tG tN bG bN kV kG kN) (q0 : Addr) (q1 : Addr) (kp0 : ClassId) (h0 : Heap) {n0 : Nat} (Z0 : n0 ≤ h0.size) (O0 : Old Z n0 h0) (E_q0 : Exa Z h0 q0 "java/lang/String") (F_q0_coder : Fld Z h0 q0 "java/lang/String" "coder" "B" (.int (0 : Int32))) (F_q0_value : Fld Z h0 q0 "java/lang/String" "value" "[B" (.ref q1)) (A_q1 : Arv Z h0 q1 kp0 .byte 0 [] (.int 0)) (g_q0 : n0 ≤ q0) :
    MetH l Z EL0 (⟨"java/lang/String", "equals", "(Ljava/lang/Object;)Z"⟩ : MethodName) jdk_42_method_66_code 3 (some .boolean) [] R_rm8 #[.ref tG, .ref q0] h0 [] (Q_rm8 Z iCS aV aG aN tG tN bG bN kV kG kN q0 q1 kp0 h0 n0) := by
  refine MetH.of (n0 := n0) #[.val (.ref tG), .val (.ref q0), .unset] pn_java_lang_String rfl Z0 (fun p e s m below meth c T0 hret hml hnm hSL hs0 X0 => ?_)
  refine kALn X0 d6_0 rfl rfl ?_
  refine kALn X0 d6_1 rfl rfl ?_
  refine kACt X0 7 d6_2 rfl rfl (XT.aa_ne_t (own_rne (Old.ne O0 ((ES_G G).lt) g_q0))) (by decide) ?_
  refine kALn X0 d6_7 rfl rfl ?_
  refine kINSY X0 (wd G 55 rfl) (Ins.of_exa E_q0 (wd G 14 rfl)) d6_8 (fun T1 X2 => ?_)
  refine kIFf X2 d6_11 (XT.i0_eq_f (by decide)) ?_
  refine kALn X2 d6_14 rfl rfl ?_
  refine kCAST X2 (wd G 55 rfl) (Ins.of_exa E_q0 (wd G 14 rfl)) d6_15 (fun T3 X4 => ?_)
  refine kASn X4 #[.val (.ref tG), .val (.ref q0), .val (.ref q0)] d6_18 rfl rfl ?_
  refine kGETS X4 (wd G 56 rfl) Via.refl (Sta.ext O0.2 (S_CS G)) d6_19 (fun T5 X6 => ?_)
  refine kIFf X6 d6_22 (XT.i0_eq_f (n_CS G)) ?_
  refine kALn X6 d6_25 rfl rfl ?_
  refine kGETF X6 (wd G 26 rfl) Via.refl (Fld.ext O0.2 (FC_G G)) d6_26 (fun T7 X8 => ?_)
  refine kALn X8 d6_29 rfl rfl ?_
  refine kGETF X8 (wd G 26 rfl) Via.refl F_q0_coder d6_30 (fun T9 X10 => ?_)
  refine kICf X10 d6_33 (XT.ii_ne_f (by decide)) ?_
  refine kALn X10 d6_36 rfl rfl ?_
  refine kGETF X10 (wd G 25 rfl) Via.refl (Fld.ext O0.2 (FV_G G)) d6_37 (fun T11 X12 => ?_)
  refine kALn X12 d6_40 rfl rfl ?_
  refine kGETF X12 (wd G 25 rfl) Via.refl F_q0_value d6_41 (fun T13 X14 => ?_)
  refine kSTAT X14 (gEL G) (argsL := [.ref bG, .ref q1]) (rest := []) (wd G 57 rfl) (wd G 58 rfl) (wd G 59 rfl) (wd G 60 rfl) (by decide) (rm9 l G q1 kp0 h0 X14.n O0 A_q1) all0 (fun _ _ _ _ _ q => q.1) (lenOf pd___B_B_Z rfl) rfl (by decide) 0 (Nat.le_of_eq rfl) (by decide) (by decide) (by decide) (by rw [hml]; rfl) d6_44 (fun v15 L16 T17 h18 vm19 K20 w21 q22 C23 C24 X25 => ?_)
  obtain ⟨n26, ⟨e27, f28⟩⟩ := q22
  subst e27
  subst f28
  show Go _ _ _ _ T17 (mkF m 47 #[.val (.ref tG), .val (.ref q0), .val (.ref q0)] [.int (0 : Int32)])
  refine kIFt X25 54 d6_47 (XT.i0_eq_t (by decide)) (by decide) ?_
  refine kIC X25 (0 : Int32) d6_54 (by decide) ?_
  exact kRETZ X25 (gEL G) (t := .boolean) hret (by simp) d6_55 (fun ve hve => ⟨X25.N, ⟨rfl, rfl⟩⟩) (by decide) (by decide)
theorem pd__Ljava_lang_Object__Z : parseMethodDescriptor "(Ljava/lang/Object;)Z" = some ⟨[.object "java/lang/Object"], some .boolean⟩ := by decide +kernel
theorem d4_33 : decode prog_20_method_6_code 33 = .ok (.ifCond .eq 6, 3) := by decide +kernel
theorem d4_39 : decode prog_20_method_6_code 39 = .ok (.iinc 4 1, 3) := by decide +kernel
theorem d4_42 : decode prog_20_method_6_code 42 = .ok (.goto (-30), 3) := by decide +kernel
def Q_rm11 (Z : State) (iCS : Int32) (aV : Addr) (aG : Addr) (aN : Addr) (tG : Addr) (tN : Addr) (bG : Addr) (bN : Addr) (kV : ClassId) (kG : ClassId) (kN : ClassId) (q0 : Addr) (kp0 : ClassId) (h0 : Heap) (n0 : Nat) (vs : Vm) (v : Option Value) (h : Heap) (L : List Loc) (ve : Vm) : Prop := Fr n0 L ∧ ((v = some (.int (0 : Int32)) ∧ (h0 = h)))
def R_rm11 : Room := { frames := 0, cells := 0, slots := 0, locals := 0 }
set_option maxRecDepth 65536 in
set_option maxHeartbeats 4000000 in
theorem rm11 (l : Launch) {Z : State} {a0 : Array Value} {iCS : Int32} {aV : Addr} {aG : Addr} {aN : Addr} {tG : Addr} {tN : Addr} {bG : Addr} {bN : Addr} {kV : ClassId} {kG : ClassId} {kN : ClassId} (G : Glob Z a0 iCS aV aG aN tG tN bG bN kV kG kN) (q0 : Addr) (kp0 : ClassId) (h0 : Heap) {n0 : Nat} (Z0 : n0 ≤ h0.size) (O0 : Old Z n0 h0) (A_q0 : Arv Z h0 q0 kp0 .byte 0 [] (.int 0)) :
    MetH l Z EL0 (⟨"java/lang/StringLatin1", "equals", "([B[B)Z"⟩ : MethodName) jdk_43_method_13_code 3 (some .boolean) [] R_rm11 #[.ref bN, .ref q0] h0 [] (Q_rm11 Z iCS aV aG aN tG tN bG bN kV kG kN q0 kp0 h0 n0) := by
  refine MetH.of (n0 := n0) #[.val (.ref bN), .val (.ref q0), .unset] pn_java_lang_StringLatin1 rfl Z0 (fun p e s m below meth c T0 hret hml hnm hSL hs0 X0 => ?_)
  refine kALn X0 d7_0 rfl rfl ?_
  refine kLEN X0 (Arv.ext (AB_N G) O0.2) d7_1 ?_
  refine kALn X0 d7_2 rfl rfl ?_
  refine kLEN X0 A_q0 d7_3 ?_
  refine kICt X0 34 d7_4 (XT.ii_ne_t (by decide)) (by decide) ?_
  refine kIC X0 (0 : Int32) d7_34 (by decide) ?_
  exact kRETZ X0 (gEL G) (t := .boolean) hret (by simp) d7_35 (fun ve hve => ⟨X0.N, ⟨rfl, rfl⟩⟩) (by decide) (by decide)
def Q_rm10 (Z : State) (iCS : Int32) (aV : Addr) (aG : Addr) (aN : Addr) (tG : Addr) (tN : Addr) (bG : Addr) (bN : Addr) (kV : ClassId) (kG : ClassId) (kN : ClassId) (q0 : Addr) (q1 : Addr) (kp0 : ClassId) (h0 : Heap) (n0 : Nat) (vs : Vm) (v : Option Value) (h : Heap) (L : List Loc) (ve : Vm) : Prop := Fr n0 L ∧ ((v = some (.int (0 : Int32)) ∧ (h0 = h)))
def R_rm10 : Room := { frames := 1, cells := 0, slots := 0, locals := 14 }
set_option maxRecDepth 65536 in
set_option maxHeartbeats 4000000 in
theorem rm10 (l : Launch) {Z : State} {a0 : Array Value} {iCS : Int32} {aV : Addr} {aG : Addr} {aN : Addr} {tG : Addr} {tN : Addr} {bG : Addr} {bN : Addr} {kV : ClassId} {kG : ClassId} {kN : ClassId} (G : Glob Z a0 iCS aV aG aN tG tN bG bN kV kG kN) (q0 : Addr) (q1 : Addr) (kp0 : ClassId) (h0 : Heap) {n0 : Nat} (Z0 : n0 ≤ h0.size) (O0 : Old Z n0 h0) (E_q0 : Exa Z h0 q0 "java/lang/String") (F_q0_coder : Fld Z h0 q0 "java/lang/String" "coder" "B" (.int (0 : Int32))) (F_q0_value : Fld Z h0 q0 "java/lang/String" "value" "[B" (.ref q1)) (A_q1 : Arv Z h0 q1 kp0 .byte 0 [] (.int 0)) (g_q0 : n0 ≤ q0) :
    MetH l Z EL0 (⟨"java/lang/String", "equals", "(Ljava/lang/Object;)Z"⟩ : MethodName) jdk_42_method_66_code 3 (some .boolean) [] R_rm10 #[.ref tN, .ref q0] h0 [] (Q_rm10 Z iCS aV aG aN tG tN bG bN kV kG kN q0 q1 kp0 h0 n0) := by
  refine MetH.of (n0 := n0) #[.val (.ref tN), .val (.ref q0), .unset] pn_java_lang_String rfl Z0 (fun p e s m below meth c T0 hret hml hnm hSL hs0 X0 => ?_)
  refine kALn X0 d6_0 rfl rfl ?_
  refine kALn X0 d6_1 rfl rfl ?_
  refine kACt X0 7 d6_2 rfl rfl (XT.aa_ne_t (own_rne (Old.ne O0 ((ES_N G).lt) g_q0))) (by decide) ?_
  refine kALn X0 d6_7 rfl rfl ?_
  refine kINSY X0 (wd G 55 rfl) (Ins.of_exa E_q0 (wd G 14 rfl)) d6_8 (fun T1 X2 => ?_)
  refine kIFf X2 d6_11 (XT.i0_eq_f (by decide)) ?_
  refine kALn X2 d6_14 rfl rfl ?_
  refine kCAST X2 (wd G 55 rfl) (Ins.of_exa E_q0 (wd G 14 rfl)) d6_15 (fun T3 X4 => ?_)
  refine kASn X4 #[.val (.ref tN), .val (.ref q0), .val (.ref q0)] d6_18 rfl rfl ?_
  refine kGETS X4 (wd G 56 rfl) Via.refl (Sta.ext O0.2 (S_CS G)) d6_19 (fun T5 X6 => ?_)
  refine kIFf X6 d6_22 (XT.i0_eq_f (n_CS G)) ?_
  refine kALn X6 d6_25 rfl rfl ?_
  refine kGETF X6 (wd G 26 rfl) Via.refl (Fld.ext O0.2 (FC_N G)) d6_26 (fun T7 X8 => ?_)
  refine kALn X8 d6_29 rfl rfl ?_
  refine kGETF X8 (wd G 26 rfl) Via.refl F_q0_coder d6_30 (fun T9 X10 => ?_)
  refine kICf X10 d6_33 (XT.ii_ne_f (by decide)) ?_
  refine kALn X10 d6_36 rfl rfl ?_
  refine kGETF X10 (wd G 25 rfl) Via.refl (Fld.ext O0.2 (FV_N G)) d6_37 (fun T11 X12 => ?_)
  refine kALn X12 d6_40 rfl rfl ?_
  refine kGETF X12 (wd G 25 rfl) Via.refl F_q0_value d6_41 (fun T13 X14 => ?_)
  refine kSTAT X14 (gEL G) (argsL := [.ref bN, .ref q1]) (rest := []) (wd G 57 rfl) (wd G 58 rfl) (wd G 59 rfl) (wd G 60 rfl) (by decide) (rm11 l G q1 kp0 h0 X14.n O0 A_q1) all0 (fun _ _ _ _ _ q => q.1) (lenOf pd___B_B_Z rfl) rfl (by decide) 0 (Nat.le_of_eq rfl) (by decide) (by decide) (by decide) (by rw [hml]; rfl) d6_44 (fun v15 L16 T17 h18 vm19 K20 w21 q22 C23 C24 X25 => ?_)
  obtain ⟨n26, ⟨e27, f28⟩⟩ := q22
  subst e27
  subst f28
  show Go _ _ _ _ T17 (mkF m 47 #[.val (.ref tN), .val (.ref q0), .val (.ref q0)] [.int (0 : Int32)])
  refine kIFt X25 54 d6_47 (XT.i0_eq_t (by decide)) (by decide) ?_
  refine kIC X25 (0 : Int32) d6_54 (by decide) ?_
  exact kRETZ X25 (gEL G) (t := .boolean) hret (by simp) d6_55 (fun ve hve => ⟨X25.N, ⟨rfl, rfl⟩⟩) (by decide) (by decide)
theorem d4_45 : decode prog_20_method_6_code 45 = .ok (.aload_n 1, 1) := by decide +kernel
theorem d4_46 : decode prog_20_method_6_code 46 = .ok (.areturn, 1) := by decide +kernel
def Q_rm6 (Z : State) (iCS : Int32) (aV : Addr) (aG : Addr) (aN : Addr) (tG : Addr) (tN : Addr) (bG : Addr) (bN : Addr) (kV : ClassId) (kG : ClassId) (kN : ClassId) (q0 : Addr) (q1 : Addr) (kp0 : ClassId) (h0 : Heap) (n0 : Nat) (vs : Vm) (v : Option Value) (h : Heap) (L : List Loc) (ve : Vm) : Prop := Fr n0 L ∧ ((v = some (.null) ∧ (Keep h0 h [])))
def R_rm6 : Room := { frames := 2, cells := 1, slots := 2, locals := 28 }
set_option maxRecDepth 65536 in
set_option maxHeartbeats 4000000 in
theorem rm6 (l : Launch) {Z : State} {a0 : Array Value} {iCS : Int32} {aV : Addr} {aG : Addr} {aN : Addr} {tG : Addr} {tN : Addr} {bG : Addr} {bN : Addr} {kV : ClassId} {kG : ClassId} {kN : ClassId} (G : Glob Z a0 iCS aV aG aN tG tN bG bN kV kG kN) (q0 : Addr) (q1 : Addr) (kp0 : ClassId) (h0 : Heap) {n0 : Nat} (Z0 : n0 ≤ h0.size) (O0 : Old Z n0 h0) (E_q0 : Exa Z h0 q0 "java/lang/String") (A_q1 : Arv Z h0 q1 kp0 .byte 0 [] (.int 0)) (F_q0_coder : Fld Z h0 q0 "java/lang/String" "coder" "B" (.int (0 : Int32))) (F_q0_value : Fld Z h0 q0 "java/lang/String" "value" "[B" (.ref q1)) (g_q0 : n0 ≤ q0) :
    MetH l Z EL0 (⟨"com/example/tight_calculus/tightcalculus/Model$Kind", "named", "(Ljava/lang/String;)Lcom/example/tight_calculus/tightcalculus/Model$Kind;"⟩ : MethodName) prog_20_method_6_code 6 (some (.object "com/example/tight_calculus/tightcalculus/Model$Kind")) [] R_rm6 #[.ref q0] h0 [] (Q_rm6 Z iCS aV aG aN tG tN bG bN kV kG kN q0 q1 kp0 h0 n0) := by
  refine MetH.of (n0 := n0) #[.val (.ref q0), .unset, .unset, .unset, .unset, .unset] pn_com_example_tight_calculus_tightcalculus_Model_Kind rfl Z0 (fun p e s m below meth c T0 hret hml hnm hSL hs0 X0 => ?_)
  refine kNULL X0 d4_0 ?_
  refine kASn X0 #[.val (.ref q0), .val .null, .unset, .unset, .unset, .unset] d4_1 rfl rfl ?_
  refine kSTAT X0 (gEL G) (argsL := []) (rest := []) (wd G 31 rfl) (wd G 32 rfl) (wd G 29 rfl) (wd G 33 rfl) (by decide) (rm7 l G  h0 X0.n O0 ) all0 (fun _ _ _ _ _ q => q.1) (lenOf pd____Lcom_example_tight_calculus_tightcalculus_Model_Kind_ rfl) rfl (by decide) 0 (Nat.le_of_eq rfl) (by decide) (by decide) (by decide) (by rw [hml]; rfl) d4_2 (fun v1 L2 T3 h4 vm5 K6 w7 q8 C9 C10 X11 => ?_)
  obtain ⟨n12, ⟨a13, e14, f15, f16, f17, f18⟩⟩ := q8
  subst e14
  have n19 : q0 ≠ a13 := Nat.ne_of_lt (Nat.lt_of_lt_of_le (E_q0.lt) f16)
  have n20 : q1 ≠ a13 := Nat.ne_of_lt (Nat.lt_of_lt_of_le (A_q1.lt) f16)
  have g21 : n0 ≤ a13 := Nat.le_trans X0.n f16
  have g22 : h0.size ≤ a13 := Nat.le_trans X0.g0 f16
  show Go _ _ _ _ T3 (mkF m 5 #[.val (.ref q0), .val .null, .unset, .unset, .unset, .unset] [.ref a13])
  refine kASn X11 #[.val (.ref q0), .val .null, .val (.ref a13), .unset, .unset, .unset] d4_5 rfl rfl ?_
  refine kALn X11 d4_6 rfl rfl ?_
  refine kLEN X11 f18 d4_7 ?_
  refine kISn X11 #[.val (.ref q0), .val .null, .val (.ref a13), .val (.int (2 : Int32)), .unset, .unset] d4_8 rfl ?_
  refine kIC X11 (0 : Int32) d4_9 (by decide) ?_
  refine kIS X11 #[.val (.ref q0), .val .null, .val (.ref a13), .val (.int (2 : Int32)), .val (.int (0 : Int32)), .unset] d4_10 rfl ?_
  refine kIL X11 d4_12 rfl ?_
  refine kILn X11 d4_14 rfl ?_
  refine kICf X11 d4_15 (XT.ii_ge_f (by decide)) ?_
  refine kALn X11 d4_18 rfl rfl ?_
  refine kIL X11 d4_19 rfl ?_
  refine kAALD X11 (.ref aG) f18 rfl (by decide) rfl d4_21 ?_
  refine kAS X11 #[.val (.ref q0), .val .null, .val (.ref a13), .val (.int (2 : Int32)), .val (.int (0 : Int32)), .val (.ref aG)] d4_22 rfl rfl ?_
  refine kAL X11 d4_24 rfl rfl ?_
  have f23 := (Old.keep O0 f15 all0)
  refine kGETF X11 (wd G 48 rfl) Via.refl (Fld.ext f23.2 (F_G G)) d4_26 (fun T24 X25 => ?_)
  refine kALn X25 d4_29 rfl rfl ?_
  have f26 := (Exa.keep E_q0 f15)
  have f27 := (Fld.keep F_q0_coder f15 nin0)
  have f28 := (Fld.keep F_q0_value f15 nin0)
  have f29 := (Arv.keep A_q1 f15 nin0)
  refine kVIRT X25 (gEL G) (argsL := [.ref q0]) (rest := []) (wd G 50 rfl) (wd G 51 rfl) (notFace_of_selects (args := #[]) (mvT (s := s.setVm _) X25.hZ (wd G 53 rfl))) (wd G 53 rfl) (wd G 52 rfl) (wd G 7 rfl) (wd G 54 rfl) (by decide) (Exa.ext f23.2 (ES_G G)) (rm8 l G q0 q1 kp0 h4 X25.n f23 f26 f27 f28 f29 g_q0) all0 (fun _ _ _ _ _ q => q.1) (lenOf pd__Ljava_lang_Object__Z rfl) rfl (by decide) 0 (Nat.le_of_eq rfl) (by decide) (by decide) (by decide) (by rw [hml]; rfl) d4_30 (fun v30 L31 T32 h33 vm34 K35 w36 q37 C38 C39 X40 => ?_)
  obtain ⟨n41, ⟨e42, f43⟩⟩ := q37
  subst e42
  subst f43
  show Go _ _ _ _ T32 (mkF m 33 #[.val (.ref q0), .val .null, .val (.ref a13), .val (.int (2 : Int32)), .val (.int (0 : Int32)), .val (.ref aG)] [.int (0 : Int32)])
  refine kIFt X40 39 d4_33 (XT.i0_eq_t (by decide)) (by decide) ?_
  refine kIINC X40 (1 : Int32) (1 : Int32) #[.val (.ref q0), .val .null, .val (.ref a13), .val (.int (2 : Int32)), .val (.int (1 : Int32)), .val (.ref aG)] d4_39 (by decide) rfl (by decide) rfl ?_
  refine kGOTO X40 12 d4_42 (by decide) ?_
  refine kIL X40 d4_12 rfl ?_
  refine kILn X40 d4_14 rfl ?_
  refine kICf X40 d4_15 (XT.ii_ge_f (by decide)) ?_
  refine kALn X40 d4_18 rfl rfl ?_
  refine kIL X40 d4_19 rfl ?_
  have f44 := f18
  refine kAALD X40 (.ref aN) f44 rfl (by decide) rfl d4_21 ?_
  refine kAS X40 #[.val (.ref q0), .val .null, .val (.ref a13), .val (.int (2 : Int32)), .val (.int (1 : Int32)), .val (.ref aN)] d4_22 rfl rfl ?_
  refine kAL X40 d4_24 rfl rfl ?_
  have f45 := f23
  refine kGETF X40 (wd G 48 rfl) Via.refl (Fld.ext f45.2 (F_N G)) d4_26 (fun T46 X47 => ?_)
  refine kALn X47 d4_29 rfl rfl ?_
  have f48 := f26
  have f49 := f27
  have f50 := f28
  have f51 := f29
  refine kVIRT X47 (gEL G) (argsL := [.ref q0]) (rest := []) (wd G 50 rfl) (wd G 51 rfl) (notFace_of_selects (args := #[]) (mvT (s := s.setVm _) X47.hZ (wd G 53 rfl))) (wd G 53 rfl) (wd G 52 rfl) (wd G 7 rfl) (wd G 54 rfl) (by decide) (Exa.ext f45.2 (ES_N G)) (rm10 l G q0 q1 kp0 h4 X47.n f45 f48 f49 f50 f51 g_q0) all0 (fun _ _ _ _ _ q => q.1) (lenOf pd__Ljava_lang_Object__Z rfl) rfl (by decide) 0 (Nat.le_of_eq rfl) (by decide) (by decide) (by decide) (by rw [hml]; rfl) d4_30 (fun v52 L53 T54 h55 vm56 K57 w58 q59 C60 C61 X62 => ?_)
  obtain ⟨n63, ⟨e64, f65⟩⟩ := q59
  subst e64
  subst f65
  show Go _ _ _ _ T54 (mkF m 33 #[.val (.ref q0), .val .null, .val (.ref a13), .val (.int (2 : Int32)), .val (.int (1 : Int32)), .val (.ref aN)] [.int (0 : Int32)])
  refine kIFt X62 39 d4_33 (XT.i0_eq_t (by decide)) (by decide) ?_
  refine kIINC X62 (1 : Int32) (2 : Int32) #[.val (.ref q0), .val .null, .val (.ref a13), .val (.int (2 : Int32)), .val (.int (2 : Int32)), .val (.ref aN)] d4_39 (by decide) rfl (by decide) rfl ?_
  refine kGOTO X62 12 d4_42 (by decide) ?_
  refine kIL X62 d4_12 rfl ?_
  refine kILn X62 d4_14 rfl ?_
  refine kICt X62 45 d4_15 (XT.ii_ge_t (by decide)) (by decide) ?_
  refine kALn X62 d4_45 rfl rfl ?_
  have K66 : Keep h0 h4 [] := (Keep.trans (Keep.refl h0 []) f15 all0)
  exact kRETA X62 (gEL G) hret rfl rfl d4_46 (fun ve hve => ⟨X62.N, ⟨rfl, K66⟩⟩) (by decide) (by decide)
theorem pd__Ljava_lang_String__Lcom_example_tight_calculus_tightcalculus_Model_Kind_ : parseMethodDescriptor "(Ljava/lang/String;)Lcom/example/tight_calculus/tightcalculus/Model$Kind;" = some ⟨[.object "java/lang/String"], some (.object "com/example/tight_calculus/tightcalculus/Model$Kind")⟩ := by decide +kernel
def Q_rm12 (Z : State) (iCS : Int32) (aV : Addr) (aG : Addr) (aN : Addr) (tG : Addr) (tN : Addr) (bG : Addr) (bN : Addr) (kV : ClassId) (kG : ClassId) (kN : ClassId) (i0 : Int32) (h0 : Heap) (n0 : Nat) (vs : Vm) (v : Option Value) (h : Heap) (L : List Loc) (ve : Vm) : Prop := Fr n0 L ∧ ((v = some (.int (drV i0 (97 : Int32))) ∧ (h0 = h)))
def R_rm12 : Room := { frames := 0, cells := 0, slots := 0, locals := 0 }
set_option maxRecDepth 65536 in
set_option maxHeartbeats 4000000 in
theorem rm12 (l : Launch) {Z : State} {a0 : Array Value} {iCS : Int32} {aV : Addr} {aG : Addr} {aN : Addr} {tG : Addr} {tN : Addr} {bG : Addr} {bN : Addr} {kV : ClassId} {kG : ClassId} {kN : ClassId} (G : Glob Z a0 iCS aV aG aN tG tN bG bN kV kG kN) (i0 : Int32) (h0 : Heap) {n0 : Nat} (Z0 : n0 ≤ h0.size) (O0 : Old Z n0 h0)  :
    MetH l Z EL0 (⟨"com/example/tight_calculus/tightcalculus/KindNamedPinLaw", "drawn", "(IC)C"⟩ : MethodName) method_2_code 2 (some .char) [] R_rm12 #[.int i0, .int (97 : Int32)] h0 [] (Q_rm12 Z iCS aV aG aN tG tN bG bN kV kG kN i0 h0 n0) := by
  refine MetH.of (n0 := n0) #[.val (.int i0), .val (.int (97 : Int32))] pn_com_example_tight_calculus_tightcalculus_KindNamedPinLaw rfl Z0 (fun p e s m below meth c T0 hret hml hnm hSL hs0 X0 => ?_)
  refine kILn X0 d0_0 rfl ?_
  refine kSI X0 (256 : Int32) d0_1 (by decide) ?_
  refine kIAND X0 (i0 &&& (256 : Int32)) d0_4 rfl ?_
  by_cases c1 : (i0 &&& (256 : Int32)) = 0
  · refine kIFt X0 12 d0_5 (XT.i0_eq_t c1) (by decide) ?_
    refine kILn X0 d0_12 rfl ?_
    refine kSI X0 (255 : Int32) d0_13 (by decide) ?_
    refine kIAND X0 (i0 &&& (255 : Int32)) d0_16 rfl ?_
    refine kI2C X0 (i0 &&& (255 : Int32)) d0_17 (i2c_mask _) ?_
    exact kRETZ X0 (gEL G) (t := .char) hret (by simp) d0_18 (fun ve hve => ⟨X0.N, (own_drT c1), rfl⟩) (by decide) (by decide)
  · refine kIFf X0 d0_5 (XT.i0_eq_f c1) ?_
    refine kILn X0 d0_8 rfl ?_
    refine kGOTO X0 18 d0_9 (by decide) ?_
    exact kRETZ X0 (gEL G) (t := .char) hret (by simp) d0_18 (fun ve hve => ⟨X0.N, (own_drF c1), rfl⟩) (by decide) (by decide)
def Q_rm13 (Z : State) (iCS : Int32) (aV : Addr) (aG : Addr) (aN : Addr) (tG : Addr) (tN : Addr) (bG : Addr) (bN : Addr) (kV : ClassId) (kG : ClassId) (kN : ClassId) (i0 : Int32) (h0 : Heap) (n0 : Nat) (vs : Vm) (v : Option Value) (h : Heap) (L : List Loc) (ve : Vm) : Prop := Fr n0 L ∧ ((v = some (.int (drV i0 (110 : Int32))) ∧ (h0 = h)))
def R_rm13 : Room := { frames := 0, cells := 0, slots := 0, locals := 0 }
set_option maxRecDepth 65536 in
set_option maxHeartbeats 4000000 in
theorem rm13 (l : Launch) {Z : State} {a0 : Array Value} {iCS : Int32} {aV : Addr} {aG : Addr} {aN : Addr} {tG : Addr} {tN : Addr} {bG : Addr} {bN : Addr} {kV : ClassId} {kG : ClassId} {kN : ClassId} (G : Glob Z a0 iCS aV aG aN tG tN bG bN kV kG kN) (i0 : Int32) (h0 : Heap) {n0 : Nat} (Z0 : n0 ≤ h0.size) (O0 : Old Z n0 h0)  :
    MetH l Z EL0 (⟨"com/example/tight_calculus/tightcalculus/KindNamedPinLaw", "drawn", "(IC)C"⟩ : MethodName) method_2_code 2 (some .char) [] R_rm13 #[.int i0, .int (110 : Int32)] h0 [] (Q_rm13 Z iCS aV aG aN tG tN bG bN kV kG kN i0 h0 n0) := by
  refine MetH.of (n0 := n0) #[.val (.int i0), .val (.int (110 : Int32))] pn_com_example_tight_calculus_tightcalculus_KindNamedPinLaw rfl Z0 (fun p e s m below meth c T0 hret hml hnm hSL hs0 X0 => ?_)
  refine kILn X0 d0_0 rfl ?_
  refine kSI X0 (256 : Int32) d0_1 (by decide) ?_
  refine kIAND X0 (i0 &&& (256 : Int32)) d0_4 rfl ?_
  by_cases c1 : (i0 &&& (256 : Int32)) = 0
  · refine kIFt X0 12 d0_5 (XT.i0_eq_t c1) (by decide) ?_
    refine kILn X0 d0_12 rfl ?_
    refine kSI X0 (255 : Int32) d0_13 (by decide) ?_
    refine kIAND X0 (i0 &&& (255 : Int32)) d0_16 rfl ?_
    refine kI2C X0 (i0 &&& (255 : Int32)) d0_17 (i2c_mask _) ?_
    exact kRETZ X0 (gEL G) (t := .char) hret (by simp) d0_18 (fun ve hve => ⟨X0.N, (own_drT c1), rfl⟩) (by decide) (by decide)
  · refine kIFf X0 d0_5 (XT.i0_eq_f c1) ?_
    refine kILn X0 d0_8 rfl ?_
    refine kGOTO X0 18 d0_9 (by decide) ?_
    exact kRETZ X0 (gEL G) (t := .char) hret (by simp) d0_18 (fun ve hve => ⟨X0.N, (own_drF c1), rfl⟩) (by decide) (by decide)
def Q_rm14 (Z : State) (iCS : Int32) (aV : Addr) (aG : Addr) (aN : Addr) (tG : Addr) (tN : Addr) (bG : Addr) (bN : Addr) (kV : ClassId) (kG : ClassId) (kN : ClassId) (i0 : Int32) (h0 : Heap) (n0 : Nat) (vs : Vm) (v : Option Value) (h : Heap) (L : List Loc) (ve : Vm) : Prop := Fr n0 L ∧ ((v = some (.int (drV i0 (100 : Int32))) ∧ (h0 = h)))
def R_rm14 : Room := { frames := 0, cells := 0, slots := 0, locals := 0 }
set_option maxRecDepth 65536 in
set_option maxHeartbeats 4000000 in
theorem rm14 (l : Launch) {Z : State} {a0 : Array Value} {iCS : Int32} {aV : Addr} {aG : Addr} {aN : Addr} {tG : Addr} {tN : Addr} {bG : Addr} {bN : Addr} {kV : ClassId} {kG : ClassId} {kN : ClassId} (G : Glob Z a0 iCS aV aG aN tG tN bG bN kV kG kN) (i0 : Int32) (h0 : Heap) {n0 : Nat} (Z0 : n0 ≤ h0.size) (O0 : Old Z n0 h0)  :
    MetH l Z EL0 (⟨"com/example/tight_calculus/tightcalculus/KindNamedPinLaw", "drawn", "(IC)C"⟩ : MethodName) method_2_code 2 (some .char) [] R_rm14 #[.int i0, .int (100 : Int32)] h0 [] (Q_rm14 Z iCS aV aG aN tG tN bG bN kV kG kN i0 h0 n0) := by
  refine MetH.of (n0 := n0) #[.val (.int i0), .val (.int (100 : Int32))] pn_com_example_tight_calculus_tightcalculus_KindNamedPinLaw rfl Z0 (fun p e s m below meth c T0 hret hml hnm hSL hs0 X0 => ?_)
  refine kILn X0 d0_0 rfl ?_
  refine kSI X0 (256 : Int32) d0_1 (by decide) ?_
  refine kIAND X0 (i0 &&& (256 : Int32)) d0_4 rfl ?_
  by_cases c1 : (i0 &&& (256 : Int32)) = 0
  · refine kIFt X0 12 d0_5 (XT.i0_eq_t c1) (by decide) ?_
    refine kILn X0 d0_12 rfl ?_
    refine kSI X0 (255 : Int32) d0_13 (by decide) ?_
    refine kIAND X0 (i0 &&& (255 : Int32)) d0_16 rfl ?_
    refine kI2C X0 (i0 &&& (255 : Int32)) d0_17 (i2c_mask _) ?_
    exact kRETZ X0 (gEL G) (t := .char) hret (by simp) d0_18 (fun ve hve => ⟨X0.N, (own_drT c1), rfl⟩) (by decide) (by decide)
  · refine kIFf X0 d0_5 (XT.i0_eq_f c1) ?_
    refine kILn X0 d0_8 rfl ?_
    refine kGOTO X0 18 d0_9 (by decide) ?_
    exact kRETZ X0 (gEL G) (t := .char) hret (by simp) d0_18 (fun ve hve => ⟨X0.N, (own_drF c1), rfl⟩) (by decide) (by decide)
theorem pn_java_lang_StringUTF16 : plainName "java/lang/StringUTF16" = true := by first | (simp [plainName, overriddenIn]; done) | decide +kernel
theorem d2_27 : decode jdk_42_method_149_code 27 = .ok (.getstatic 38, 3) := by decide +kernel
theorem d2_30 : decode jdk_42_method_149_code 30 = .ok (.ifCond .eq 28, 3) := by decide +kernel
theorem d2_33 : decode jdk_42_method_149_code 33 = .ok (.aload_n 1, 1) := by decide +kernel
theorem d2_34 : decode jdk_42_method_149_code 34 = .ok (.iload_n 2, 1) := by decide +kernel
theorem d2_35 : decode jdk_42_method_149_code 35 = .ok (.iload_n 3, 1) := by decide +kernel
theorem d2_36 : decode jdk_42_method_149_code 36 = .ok (.invokestatic 177, 3) := by decide +kernel
theorem d8_0 : decode jdk_52_method_16_code 0 = .ok (.iload_n 2, 1) := by decide +kernel
theorem d8_1 : decode jdk_52_method_16_code 1 = .ok (.newarray .byte, 2) := by decide +kernel
theorem d8_3 : decode jdk_52_method_16_code 3 = .ok (.astore_n 3, 1) := by decide +kernel
theorem d8_4 : decode jdk_52_method_16_code 4 = .ok (.aload_n 0, 1) := by decide +kernel
theorem d8_5 : decode jdk_52_method_16_code 5 = .ok (.iload_n 1, 1) := by decide +kernel
theorem d8_6 : decode jdk_52_method_16_code 6 = .ok (.aload_n 3, 1) := by decide +kernel
theorem d8_7 : decode jdk_52_method_16_code 7 = .ok (.iconst 0, 1) := by decide +kernel
theorem d8_8 : decode jdk_52_method_16_code 8 = .ok (.iload_n 2, 1) := by decide +kernel
theorem d8_9 : decode jdk_52_method_16_code 9 = .ok (.invokestatic 115, 3) := by decide +kernel
theorem d9_0 : decode jdk_52_method_21_code 0 = .ok (.iconst 0, 1) := by decide +kernel
theorem d9_1 : decode jdk_52_method_21_code 1 = .ok (.istore 5, 2) := by decide +kernel
theorem d9_3 : decode jdk_52_method_21_code 3 = .ok (.iload 5, 2) := by decide +kernel
theorem d9_5 : decode jdk_52_method_21_code 5 = .ok (.iload 4, 2) := by decide +kernel
theorem d9_7 : decode jdk_52_method_21_code 7 = .ok (.if_icmp .ge 37, 3) := by decide +kernel
theorem d9_10 : decode jdk_52_method_21_code 10 = .ok (.aload_n 0, 1) := by decide +kernel
theorem d9_11 : decode jdk_52_method_21_code 11 = .ok (.iload_n 1, 1) := by decide +kernel
theorem d9_12 : decode jdk_52_method_21_code 12 = .ok (.caload, 1) := by decide +kernel
theorem d9_13 : decode jdk_52_method_21_code 13 = .ok (.istore 6, 2) := by decide +kernel
theorem d9_15 : decode jdk_52_method_21_code 15 = .ok (.iload 6, 2) := by decide +kernel
theorem d9_17 : decode jdk_52_method_21_code 17 = .ok (.sipush 255, 3) := by decide +kernel
theorem d9_20 : decode jdk_52_method_21_code 20 = .ok (.if_icmp .le 6, 3) := by decide +kernel
theorem d9_26 : decode jdk_52_method_21_code 26 = .ok (.aload_n 2, 1) := by decide +kernel
theorem d9_27 : decode jdk_52_method_21_code 27 = .ok (.iload_n 3, 1) := by decide +kernel
theorem d9_28 : decode jdk_52_method_21_code 28 = .ok (.iload 6, 2) := by decide +kernel
theorem d9_30 : decode jdk_52_method_21_code 30 = .ok (.i2b, 1) := by decide +kernel
theorem d9_31 : decode jdk_52_method_21_code 31 = .ok (.bastore, 1) := by decide +kernel
theorem d9_32 : decode jdk_52_method_21_code 32 = .ok (.iinc 1 1, 3) := by decide +kernel
theorem d9_35 : decode jdk_52_method_21_code 35 = .ok (.iinc 3 1, 3) := by decide +kernel
theorem d9_38 : decode jdk_52_method_21_code 38 = .ok (.iinc 5 1, 3) := by decide +kernel
theorem d9_41 : decode jdk_52_method_21_code 41 = .ok (.goto (-38), 3) := by decide +kernel
theorem d9_44 : decode jdk_52_method_21_code 44 = .ok (.iload 4, 2) := by decide +kernel
theorem d9_46 : decode jdk_52_method_21_code 46 = .ok (.ireturn, 1) := by decide +kernel
def Q_rm18 (Z : State) (iCS : Int32) (aV : Addr) (aG : Addr) (aN : Addr) (tG : Addr) (tN : Addr) (bG : Addr) (bN : Addr) (kV : ClassId) (kG : ClassId) (kN : ClassId) (i0 : Int32) (q0 : Addr) (q1 : Addr) (kp0 : ClassId) (kp1 : ClassId) (h0 : Heap) (n0 : Nat) (vs : Vm) (v : Option Value) (h : Heap) (L : List Loc) (ve : Vm) : Prop := Fr n0 L ∧ ((v = some (.int (1 : Int32)) ∧ (Keep h0 h [q1]) ∧ (Arv Z h q1 kp1 .byte 1 [.int (ownB i0)] (.int (0 : Int32)))))
def R_rm18 : Room := { frames := 0, cells := 0, slots := 0, locals := 0 }
set_option maxRecDepth 65536 in
set_option maxHeartbeats 4000000 in
theorem rm18 (l : Launch) {Z : State} {a0 : Array Value} {iCS : Int32} {aV : Addr} {aG : Addr} {aN : Addr} {tG : Addr} {tN : Addr} {bG : Addr} {bN : Addr} {kV : ClassId} {kG : ClassId} {kN : ClassId} (G : Glob Z a0 iCS aV aG aN tG tN bG bN kV kG kN) (i0 : Int32) (q0 : Addr) (q1 : Addr) (kp0 : ClassId) (kp1 : ClassId) (h0 : Heap) {n0 : Nat} (Z0 : n0 ≤ h0.size) (O0 : Old Z n0 h0) (A_q0 : Arv Z h0 q0 kp0 .char 1 [.int i0] (.int (0 : Int32))) (c_0 : ¬ (255 : Int32) < i0) (A_q1 : Arv Z h0 q1 kp1 .byte 1 [.int (0 : Int32)] (.int (0 : Int32))) (g_q1 : n0 ≤ q1) :
    MetH l Z EL0 (⟨"java/lang/StringUTF16", "compress", "([CI[BII)I"⟩ : MethodName) jdk_52_method_21_code 7 (some .int) [] R_rm18 #[.ref q0, .int (0 : Int32), .ref q1, .int (0 : Int32), .int (1 : Int32)] h0 [q1] (Q_rm18 Z iCS aV aG aN tG tN bG bN kV kG kN i0 q0 q1 kp0 kp1 h0 n0) := by
  refine MetH.of (n0 := n0) #[.val (.ref q0), .val (.int (0 : Int32)), .val (.ref q1), .val (.int (0 : Int32)), .val (.int (1 : Int32)), .unset, .unset] pn_java_lang_StringUTF16 rfl Z0 (fun p e s m below meth c T0 hret hml hnm hSL hs0 X0 => ?_)
  have S_q1 := hSL q1 (List.mem_of_getElem? (i := 0) rfl)
  refine kIC X0 (0 : Int32) d9_0 (by decide) ?_
  refine kIS X0 #[.val (.ref q0), .val (.int (0 : Int32)), .val (.ref q1), .val (.int (0 : Int32)), .val (.int (1 : Int32)), .val (.int (0 : Int32)), .unset] d9_1 rfl ?_
  refine kIL X0 d9_3 rfl ?_
  refine kIL X0 d9_5 rfl ?_
  refine kICf X0 d9_7 (XT.ii_ge_f (by decide)) ?_
  refine kALn X0 d9_10 rfl rfl ?_
  refine kILn X0 d9_11 rfl ?_
  refine kCALD X0 (.int i0) A_q0 (by decide) rfl d9_12 ?_
  refine kIS X0 #[.val (.ref q0), .val (.int (0 : Int32)), .val (.ref q1), .val (.int (0 : Int32)), .val (.int (1 : Int32)), .val (.int (0 : Int32)), .val (.int i0)] d9_13 rfl ?_
  refine kIL X0 d9_15 rfl ?_
  refine kSI X0 (255 : Int32) d9_17 (by decide) ?_
  refine kICt X0 26 d9_20 (XT.ii_le_t c_0) (by decide) ?_
  refine kALn X0 d9_26 rfl rfl ?_
  refine kILn X0 d9_27 rfl ?_
  refine kIL X0 d9_28 rfl ?_
  refine kI2B X0 (ownB i0) d9_30 rfl ?_
  refine kBASTO X0 A_q1 (by decide) 0 (ownB i0) (own_nb _) (by decide) (by show 0 < 1; decide) g_q1 S_q1 d9_31 (fun T1 h2 L4 W5 f6 X3 => ?_)
  have f7 : Arv Z h2 q1 kp1 .byte 1 [.int (ownB i0)] (.int (0 : Int32)) := f6
  refine kIINC X3 (1 : Int32) (1 : Int32) #[.val (.ref q0), .val (.int (1 : Int32)), .val (.ref q1), .val (.int (0 : Int32)), .val (.int (1 : Int32)), .val (.int (0 : Int32)), .val (.int i0)] d9_32 (by decide) rfl (by decide) rfl ?_
  refine kIINC X3 (1 : Int32) (1 : Int32) #[.val (.ref q0), .val (.int (1 : Int32)), .val (.ref q1), .val (.int (1 : Int32)), .val (.int (1 : Int32)), .val (.int (0 : Int32)), .val (.int i0)] d9_35 (by decide) rfl (by decide) rfl ?_
  refine kIINC X3 (1 : Int32) (1 : Int32) #[.val (.ref q0), .val (.int (1 : Int32)), .val (.ref q1), .val (.int (1 : Int32)), .val (.int (1 : Int32)), .val (.int (1 : Int32)), .val (.int i0)] d9_38 (by decide) rfl (by decide) rfl ?_
  refine kGOTO X3 3 d9_41 (by decide) ?_
  refine kIL X3 d9_3 rfl ?_
  refine kIL X3 d9_5 rfl ?_
  refine kICt X3 44 d9_7 (XT.ii_ge_t (by decide)) (by decide) ?_
  refine kIL X3 d9_44 rfl ?_
  have K8 : Keep h0 h2 [q1] := (Keep.wr (Keep.refl h0 [q1]) W5 (Or.inl (List.mem_of_getElem? (i := 0) rfl)))
  exact kRETI X3 (gEL G) hret d9_46 (fun ve hve => ⟨X3.N, ⟨rfl, K8, f7⟩⟩) (by decide) (by decide)
theorem pd___CI_BII_I : parseMethodDescriptor "([CI[BII)I" = some ⟨[.array (.char), .int, .array (.byte), .int, .int], some .int⟩ := by decide +kernel
theorem d8_12 : decode jdk_52_method_16_code 12 = .ok (.istore 4, 2) := by decide +kernel
theorem d8_14 : decode jdk_52_method_16_code 14 = .ok (.iload 4, 2) := by decide +kernel
theorem d8_16 : decode jdk_52_method_16_code 16 = .ok (.iload_n 2, 1) := by decide +kernel
theorem d8_17 : decode jdk_52_method_16_code 17 = .ok (.if_icmp .eq 40, 3) := by decide +kernel
theorem d8_57 : decode jdk_52_method_16_code 57 = .ok (.aload_n 3, 1) := by decide +kernel
theorem d8_58 : decode jdk_52_method_16_code 58 = .ok (.areturn, 1) := by decide +kernel
def Q_rm17 (Z : State) (iCS : Int32) (aV : Addr) (aG : Addr) (aN : Addr) (tG : Addr) (tN : Addr) (bG : Addr) (bN : Addr) (kV : ClassId) (kG : ClassId) (kN : ClassId) (i0 : Int32) (q0 : Addr) (kp0 : ClassId) (h0 : Heap) (n0 : Nat) (vs : Vm) (v : Option Value) (h : Heap) (L : List Loc) (ve : Vm) : Prop := Fr n0 L ∧ ((∃ (x0 : Addr), ∃ (z0 : ClassId), v = some (.ref x0) ∧ (Keep h0 h []) ∧ (h0.size ≤ x0) ∧ (Arv Z h x0 z0 .byte 1 [.int (ownB i0)] (.int (0 : Int32))) ∧ (Safe Z EL0 ve h x0)))
def R_rm17 : Room := { frames := 1, cells := 1, slots := 1, locals := 18 }
set_option maxRecDepth 65536 in
set_option maxHeartbeats 4000000 in
theorem rm17 (l : Launch) {Z : State} {a0 : Array Value} {iCS : Int32} {aV : Addr} {aG : Addr} {aN : Addr} {tG : Addr} {tN : Addr} {bG : Addr} {bN : Addr} {kV : ClassId} {kG : ClassId} {kN : ClassId} (G : Glob Z a0 iCS aV aG aN tG tN bG bN kV kG kN) (i0 : Int32) (q0 : Addr) (kp0 : ClassId) (h0 : Heap) {n0 : Nat} (Z0 : n0 ≤ h0.size) (O0 : Old Z n0 h0) (A_q0 : Arv Z h0 q0 kp0 .char 1 [.int i0] (.int (0 : Int32))) (c_0 : ¬ (255 : Int32) < i0) :
    MetH l Z EL0 (⟨"java/lang/StringUTF16", "compress", "([CII)[B"⟩ : MethodName) jdk_52_method_16_code 6 (some (.array (.byte))) [] R_rm17 #[.ref q0, .int (0 : Int32), .int (1 : Int32)] h0 [] (Q_rm17 Z iCS aV aG aN tG tN bG bN kV kG kN i0 q0 kp0 h0 n0) := by
  refine MetH.of (n0 := n0) #[.val (.ref q0), .val (.int (0 : Int32)), .val (.int (1 : Int32)), .unset, .unset, .unset] pn_java_lang_StringUTF16 rfl Z0 (fun p e s m below meth c T0 hret hml hnm hSL hs0 X0 => ?_)
  refine kILn X0 d8_0 rfl ?_
  refine kNEWP X0 (wd G 20 rfl) (cap := 1) d8_1 (by decide) (by decide) (by decide) (by decide) (by decide) (fun T1 h2 a4 k5 E6 q7 g8 A9 s10 X3 => ?_)
  have n11 : q0 ≠ a4 := Nat.ne_of_lt (Nat.lt_of_lt_of_le (A_q0.lt) (Nat.le_of_eq q7.symm))
  have g12 : h0.size ≤ a4 := q7 ▸ X0.g0
  have f13 : Arv Z h2 a4 k5 .byte 1 [.int (0 : Int32)] (.int (0 : Int32)) := A9.pad (pad_rep [] _ 1)
  refine kASn X3 #[.val (.ref q0), .val (.int (0 : Int32)), .val (.int (1 : Int32)), .val (.ref a4), .unset, .unset] d8_3 rfl rfl ?_
  refine kALn X3 d8_4 rfl rfl ?_
  refine kILn X3 d8_5 rfl ?_
  refine kALn X3 d8_6 rfl rfl ?_
  refine kIC X3 (0 : Int32) d8_7 (by decide) ?_
  refine kILn X3 d8_8 rfl ?_
  have f14 := (Arv.ext A_q0 E6)
  have f15 := (Old.ext O0 E6)
  refine kSTAT X3 (gEL G) (argsL := [.ref q0, .int (0 : Int32), .ref a4, .int (0 : Int32), .int (1 : Int32)]) (rest := []) (wd G 65 rfl) (wd G 66 rfl) (wd G 63 rfl) (wd G 67 rfl) (by decide) (rm18 l G i0 q0 a4 kp0 k5 h2 X3.n f15 f14 c_0 f13 g8) (allS ⟨(f13.lt), s10⟩ all0) (fun _ _ _ _ _ q => q.1) (lenOf pd___CI_BII_I rfl) rfl (by decide) 0 (Nat.le_of_eq rfl) (by decide) (by decide) (by decide) (by rw [hml]; rfl) d8_9 (fun v16 L17 T18 h19 vm20 K21 w22 q23 C24 C25 X26 => ?_)
  obtain ⟨n27, ⟨e28, f29, f30⟩⟩ := q23
  subst e28
  show Go _ _ _ _ T18 (mkF m 12 #[.val (.ref q0), .val (.int (0 : Int32)), .val (.int (1 : Int32)), .val (.ref a4), .unset, .unset] [.int (1 : Int32)])
  refine kIS X26 #[.val (.ref q0), .val (.int (0 : Int32)), .val (.int (1 : Int32)), .val (.ref a4), .val (.int (1 : Int32)), .unset] d8_12 rfl ?_
  refine kIL X26 d8_14 rfl ?_
  refine kILn X26 d8_16 rfl ?_
  refine kICt X26 57 d8_17 (XT.ii_eq_t (by decide)) (by decide) ?_
  refine kALn X26 d8_57 rfl rfl ?_
  have K31 : Keep h0 h19 [] := (Keep.trans (Keep.ext (Keep.refl h0 []) E6) f29 (allS (Or.inr g12) all0))
  have f32 := (CHr.safe C25 (f13.lt) s10)
  exact kRETA X26 (gEL G) hret rfl rfl d8_58 (fun ve hve => ⟨X26.N, ⟨a4, k5, rfl, K31, g12, f30, (CHr.safe hve (f30.lt) f32)⟩⟩) (by decide) (by decide)
theorem pd___CII__B : parseMethodDescriptor "([CII)[B" = some ⟨[.array (.char), .int, .int], some (.array (.byte))⟩ := by decide +kernel
theorem d2_39 : decode jdk_42_method_149_code 39 = .ok (.astore 5, 2) := by decide +kernel
theorem d2_41 : decode jdk_42_method_149_code 41 = .ok (.aload_n 0, 1) := by decide +kernel
theorem d2_42 : decode jdk_42_method_149_code 42 = .ok (.aload 5, 2) := by decide +kernel
theorem d2_44 : decode jdk_42_method_149_code 44 = .ok (.iload_n 3, 1) := by decide +kernel
theorem d2_45 : decode jdk_42_method_149_code 45 = .ok (.invokestatic 47, 3) := by decide +kernel
theorem d10_0 : decode jdk_52_method_15_code 0 = .ok (.iload_n 1, 1) := by decide +kernel
theorem d10_1 : decode jdk_52_method_15_code 1 = .ok (.aload_n 0, 1) := by decide +kernel
theorem d10_2 : decode jdk_52_method_15_code 2 = .ok (.arraylength, 1) := by decide +kernel
theorem d10_3 : decode jdk_52_method_15_code 3 = .ok (.isub, 1) := by decide +kernel
theorem d10_4 : decode jdk_52_method_15_code 4 = .ok (.bipush 31, 2) := by decide +kernel
theorem d10_6 : decode jdk_52_method_15_code 6 = .ok (.iushr, 1) := by decide +kernel
theorem d10_7 : decode jdk_52_method_15_code 7 = .ok (.i2b, 1) := by decide +kernel
theorem d10_8 : decode jdk_52_method_15_code 8 = .ok (.ireturn, 1) := by decide +kernel
def Q_rm19 (Z : State) (iCS : Int32) (aV : Addr) (aG : Addr) (aN : Addr) (tG : Addr) (tN : Addr) (bG : Addr) (bN : Addr) (kV : ClassId) (kG : ClassId) (kN : ClassId) (i0 : Int32) (q0 : Addr) (kp0 : ClassId) (h0 : Heap) (n0 : Nat) (vs : Vm) (v : Option Value) (h : Heap) (L : List Loc) (ve : Vm) : Prop := Fr n0 L ∧ ((v = some (.int (0 : Int32)) ∧ (h0 = h)))
def R_rm19 : Room := { frames := 0, cells := 0, slots := 0, locals := 0 }
set_option maxRecDepth 65536 in
set_option maxHeartbeats 4000000 in
theorem rm19 (l : Launch) {Z : State} {a0 : Array Value} {iCS : Int32} {aV : Addr} {aG : Addr} {aN : Addr} {tG : Addr} {tN : Addr} {bG : Addr} {bN : Addr} {kV : ClassId} {kG : ClassId} {kN : ClassId} (G : Glob Z a0 iCS aV aG aN tG tN bG bN kV kG kN) (i0 : Int32) (q0 : Addr) (kp0 : ClassId) (h0 : Heap) {n0 : Nat} (Z0 : n0 ≤ h0.size) (O0 : Old Z n0 h0) (A_q0 : Arv Z h0 q0 kp0 .byte 1 [.int i0] (.int (0 : Int32))) :
    MetH l Z EL0 (⟨"java/lang/StringUTF16", "coderFromArrayLen", "([BI)B"⟩ : MethodName) jdk_52_method_15_code 2 (some .byte) [] R_rm19 #[.ref q0, .int (1 : Int32)] h0 [] (Q_rm19 Z iCS aV aG aN tG tN bG bN kV kG kN i0 q0 kp0 h0 n0) := by
  refine MetH.of (n0 := n0) #[.val (.ref q0), .val (.int (1 : Int32))] pn_java_lang_StringUTF16 rfl Z0 (fun p e s m below meth c T0 hret hml hnm hSL hs0 X0 => ?_)
  refine kILn X0 d10_0 rfl ?_
  refine kALn X0 d10_1 rfl rfl ?_
  refine kLEN X0 A_q0 d10_2 ?_
  refine kISUB X0 (0 : Int32) d10_3 (by decide) ?_
  refine kBI X0 (31 : Int32) d10_4 (by decide) ?_
  refine kIUSHR X0 (0 : Int32) d10_6 (by decide) ?_
  refine kI2B X0 (0 : Int32) d10_7 (by decide) ?_
  exact kRETZ X0 (gEL G) (t := .byte) hret (by simp) d10_8 (fun ve hve => ⟨X0.N, ⟨rfl, rfl⟩⟩) (by decide) (by decide)
theorem pd___BI_B : parseMethodDescriptor "([BI)B" = some ⟨[.array (.byte), .int], some .byte⟩ := by decide +kernel
theorem d2_48 : decode jdk_42_method_149_code 48 = .ok (.putfield 15, 3) := by decide +kernel
theorem d2_51 : decode jdk_42_method_149_code 51 = .ok (.aload_n 0, 1) := by decide +kernel
theorem d2_52 : decode jdk_42_method_149_code 52 = .ok (.aload 5, 2) := by decide +kernel
theorem d2_54 : decode jdk_42_method_149_code 54 = .ok (.putfield 9, 3) := by decide +kernel
theorem d2_57 : decode jdk_42_method_149_code 57 = .ok (.return_, 1) := by decide +kernel
def Q_rm16 (Z : State) (iCS : Int32) (aV : Addr) (aG : Addr) (aN : Addr) (tG : Addr) (tN : Addr) (bG : Addr) (bN : Addr) (kV : ClassId) (kG : ClassId) (kN : ClassId) (i0 : Int32) (q0 : Addr) (q1 : Addr) (kp0 : ClassId) (h0 : Heap) (n0 : Nat) (vs : Vm) (v : Option Value) (h : Heap) (L : List Loc) (ve : Vm) : Prop := Fr n0 L ∧ ((∃ (x0 : Addr), ∃ (z0 : ClassId), v = none ∧ (Keep h0 h [q0]) ∧ (h0.size ≤ x0) ∧ (Arv Z h x0 z0 .byte 1 [.int (ownB i0)] (.int (0 : Int32))) ∧ (Safe Z EL0 ve h x0) ∧ (Fld Z h q0 "java/lang/String" "coder" "B" (.int (0 : Int32))) ∧ (Fld Z h q0 "java/lang/String" "value" "[B" (.ref x0))))
def R_rm16 : Room := { frames := 2, cells := 1, slots := 1, locals := 35 }
set_option maxRecDepth 65536 in
set_option maxHeartbeats 4000000 in
theorem rm16 (l : Launch) {Z : State} {a0 : Array Value} {iCS : Int32} {aV : Addr} {aG : Addr} {aN : Addr} {tG : Addr} {tN : Addr} {bG : Addr} {bN : Addr} {kV : ClassId} {kG : ClassId} {kN : ClassId} (G : Glob Z a0 iCS aV aG aN tG tN bG bN kV kG kN) (i0 : Int32) (q0 : Addr) (q1 : Addr) (kp0 : ClassId) (h0 : Heap) {n0 : Nat} (Z0 : n0 ≤ h0.size) (O0 : Old Z n0 h0) (A_q1 : Arv Z h0 q1 kp0 .char 1 [.int i0] (.int (0 : Int32))) (c_0 : ¬ (255 : Int32) < i0) (E_q0 : Exa Z h0 q0 "java/lang/String") (F_q0_coder : Fld Z h0 q0 "java/lang/String" "coder" "B" (.int (0 : Int32))) (F_q0_value : Fld Z h0 q0 "java/lang/String" "value" "[B" (.null)) (g_q0 : n0 ≤ q0) :
    MetH l Z EL0 (⟨"java/lang/String", "<init>", "([CIILjava/lang/Void;)V"⟩ : MethodName) jdk_42_method_149_code 6 none [] R_rm16 #[.ref q0, .ref q1, .int (0 : Int32), .int (1 : Int32), .null] h0 [q0] (Q_rm16 Z iCS aV aG aN tG tN bG bN kV kG kN i0 q0 q1 kp0 h0 n0) := by
  refine MetH.of (n0 := n0) #[.val (.ref q0), .val (.ref q1), .val (.int (0 : Int32)), .val (.int (1 : Int32)), .val .null, .unset] pn_java_lang_String rfl Z0 (fun p e s m below meth c T0 hret hml hnm hSL hs0 X0 => ?_)
  have S_q0 := hSL q0 (List.mem_of_getElem? (i := 0) rfl)
  refine kALn X0 d2_0 rfl rfl ?_
  refine kINIT X0 (wd G 16 rfl) (wd G 17 rfl) (wd G 18 rfl) (by rw [hml]; rfl) d2_1 (by decide) 0 (Nat.le_of_eq rfl) (by decide) (fun T1 X2 => ?_)
  refine kILn X2 d2_4 rfl ?_
  refine kIFt X2 27 d2_5 (XT.i0_ne_t (by decide)) (by decide) ?_
  refine kGETS X2 (wd G 56 rfl) Via.refl (Sta.ext O0.2 (S_CS G)) d2_27 (fun T3 X4 => ?_)
  refine kIFf X4 d2_30 (XT.i0_eq_f (n_CS G)) ?_
  refine kALn X4 d2_33 rfl rfl ?_
  refine kILn X4 d2_34 rfl ?_
  refine kILn X4 d2_35 rfl ?_
  refine kSTAT X4 (gEL G) (argsL := [.ref q1, .int (0 : Int32), .int (1 : Int32)]) (rest := []) (wd G 61 rfl) (wd G 62 rfl) (wd G 63 rfl) (wd G 64 rfl) (by decide) (rm17 l G i0 q1 kp0 h0 X4.n O0 A_q1 c_0) all0 (fun _ _ _ _ _ q => q.1) (lenOf pd___CII__B rfl) rfl (by decide) 0 (Nat.le_of_eq rfl) (by decide) (by decide) (by decide) (by rw [hml]; rfl) d2_36 (fun v5 L6 T7 h8 vm9 K10 w11 q12 C13 C14 X15 => ?_)
  obtain ⟨n16, ⟨a17, k18, e19, f20, f21, f22, f23⟩⟩ := q12
  subst e19
  have n24 : q0 ≠ a17 := Nat.ne_of_lt (Nat.lt_of_lt_of_le (E_q0.lt) f21)
  have n25 : q1 ≠ a17 := Nat.ne_of_lt (Nat.lt_of_lt_of_le (A_q1.lt) f21)
  have g26 : n0 ≤ a17 := Nat.le_trans X4.n f21
  have g27 : h0.size ≤ a17 := Nat.le_trans X4.g0 f21
  show Go _ _ _ _ T7 (mkF m 39 #[.val (.ref q0), .val (.ref q1), .val (.int (0 : Int32)), .val (.int (1 : Int32)), .val .null, .unset] [.ref a17])
  refine kAS X15 #[.val (.ref q0), .val (.ref q1), .val (.int (0 : Int32)), .val (.int (1 : Int32)), .val .null, .val (.ref a17)] d2_39 rfl rfl ?_
  refine kALn X15 d2_41 rfl rfl ?_
  refine kAL X15 d2_42 rfl rfl ?_
  refine kILn X15 d2_44 rfl ?_
  have f28 := (Old.keep O0 f20 all0)
  refine kSTAT X15 (gEL G) (argsL := [.ref a17, .int (1 : Int32)]) (rest := [.ref q0]) (wd G 68 rfl) (wd G 69 rfl) (wd G 63 rfl) (wd G 70 rfl) (by decide) (rm19 l G (ownB i0) a17 k18 h8 X15.n f28 f22) all0 (fun _ _ _ _ _ q => q.1) (lenOf pd___BI_B rfl) rfl (by decide) 1 (Nat.le_of_eq rfl) (by decide) (by decide) (by decide) (by rw [hml]; rfl) d2_45 (fun v29 L30 T31 h32 vm33 K34 w35 q36 C37 C38 X39 => ?_)
  obtain ⟨n40, ⟨e41, f42⟩⟩ := q36
  subst e41
  subst f42
  show Go _ _ _ _ T31 (mkF m 48 #[.val (.ref q0), .val (.ref q1), .val (.int (0 : Int32)), .val (.int (1 : Int32)), .val .null, .val (.ref a17)] [.int (0 : Int32), .ref q0])
  have f43 := (Fld.keep F_q0_coder f20 nin0)
  have f44 := (Exa.keep E_q0 f20)
  have f45 := (CHr.safe C38 ((Fld.keep F_q0_value f20 nin0)).lt (CHr.safe C14 (F_q0_value.lt) S_q0))
  refine kPUTF X39 (wd G 26 rfl) Via.refl f43 f44 (Or.inr ⟨(wd G 22 rfl), rfl, hnm⟩) (wd G 6 rfl) (ty := .byte) (by decide) (by decide) (by decide) g_q0 f45 d2_48 (fun T46 h47 L50 W49 X48 => ?_)
  have f51 := Fld.same W49 f43
  refine kALn X48 d2_51 rfl rfl ?_
  refine kAL X48 d2_52 rfl rfl ?_
  have f52 := (Fld.other W49 (Fld.keep F_q0_value f20 nin0) (Or.inr (slot_ne (Or.inr (wd G 21 rfl)) (Or.inr (wd G 22 rfl)) (by decide) (by decide : parseFieldDescriptor "[B" = some (.array (.byte))) (by decide : parseFieldDescriptor "B" = some .byte))))
  have f53 := (Exa.wr W49 f44)
  have f54 := (Safe.wr W49 f45 X39.C.1 f45)
  refine kPUTF X48 (wd G 25 rfl) Via.refl f52 f53 (Or.inr ⟨(wd G 21 rfl), rfl, hnm⟩) (wd G 6 rfl) (ty := (.array (.byte))) (by decide) rfl rfl g_q0 f54 d2_54 (fun T55 h56 L59 W58 X57 => ?_)
  have f60 := Fld.same W58 f52
  have K61 : Keep h0 h56 [q0] := (Keep.wr (Keep.wr (Keep.trans (Keep.refl h0 [q0]) f20 all0) W49 (Or.inl (List.mem_of_getElem? (i := 0) rfl))) W58 (Or.inl (List.mem_of_getElem? (i := 0) rfl)))
  have f62 := (Arv.other (Arv.other f22 W49 (Ne.symm n24)) W58 (Ne.symm n24))
  have f63 := (Safe.wr W58 f54 X48.C.1 (Safe.wr W49 f45 X39.C.1 (CHr.safe C38 (f22.lt) f23)))
  have f64 := (Fld.other W58 f51 (Or.inr (slot_ne (Or.inr (wd G 22 rfl)) (Or.inr (wd G 21 rfl)) (by decide) (by decide : parseFieldDescriptor "B" = some .byte) (by decide : parseFieldDescriptor "[B" = some (.array (.byte))))))
  exact kRETV X57 (gEL G) hret d2_57 (fun ve hve => ⟨X57.N, ⟨a17, k18, rfl, K61, g27, f62, (CHr.safe hve (f62.lt) f63), f64, f60⟩⟩) (by decide) (by decide)
def Q_rm15 (Z : State) (iCS : Int32) (aV : Addr) (aG : Addr) (aN : Addr) (tG : Addr) (tN : Addr) (bG : Addr) (bN : Addr) (kV : ClassId) (kG : ClassId) (kN : ClassId) (i0 : Int32) (q0 : Addr) (q1 : Addr) (kp0 : ClassId) (h0 : Heap) (n0 : Nat) (vs : Vm) (v : Option Value) (h : Heap) (L : List Loc) (ve : Vm) : Prop := Fr n0 L ∧ ((∃ (x0 : Addr), ∃ (z0 : ClassId), v = none ∧ (Keep h0 h [q0]) ∧ (h0.size ≤ x0) ∧ (Arv Z h x0 z0 .byte 1 [.int (ownB i0)] (.int (0 : Int32))) ∧ (Safe Z EL0 ve h x0) ∧ (Fld Z h q0 "java/lang/String" "coder" "B" (.int (0 : Int32))) ∧ (Fld Z h q0 "java/lang/String" "value" "[B" (.ref x0))))
def R_rm15 : Room := { frames := 3, cells := 1, slots := 1, locals := 52 }
set_option maxRecDepth 65536 in
set_option maxHeartbeats 4000000 in
theorem rm15 (l : Launch) {Z : State} {a0 : Array Value} {iCS : Int32} {aV : Addr} {aG : Addr} {aN : Addr} {tG : Addr} {tN : Addr} {bG : Addr} {bN : Addr} {kV : ClassId} {kG : ClassId} {kN : ClassId} (G : Glob Z a0 iCS aV aG aN tG tN bG bN kV kG kN) (i0 : Int32) (q0 : Addr) (q1 : Addr) (kp0 : ClassId) (h0 : Heap) {n0 : Nat} (Z0 : n0 ≤ h0.size) (O0 : Old Z n0 h0) (A_q1 : Arv Z h0 q1 kp0 .char 1 [.int i0] (.int (0 : Int32))) (c_0 : ¬ (255 : Int32) < i0) (E_q0 : Exa Z h0 q0 "java/lang/String") (F_q0_coder : Fld Z h0 q0 "java/lang/String" "coder" "B" (.int (0 : Int32))) (F_q0_value : Fld Z h0 q0 "java/lang/String" "value" "[B" (.null)) (g_q0 : n0 ≤ q0) :
    MetH l Z EL0 (⟨"java/lang/String", "<init>", "([C)V"⟩ : MethodName) jdk_42_method_3_code 2 none [] R_rm15 #[.ref q0, .ref q1] h0 [q0] (Q_rm15 Z iCS aV aG aN tG tN bG bN kV kG kN i0 q0 q1 kp0 h0 n0) := by
  refine MetH.of (n0 := n0) #[.val (.ref q0), .val (.ref q1)] pn_java_lang_String rfl Z0 (fun p e s m below meth c T0 hret hml hnm hSL hs0 X0 => ?_)
  have S_q0 := hSL q0 (List.mem_of_getElem? (i := 0) rfl)
  refine kALn X0 d1_0 rfl rfl ?_
  refine kALn X0 d1_1 rfl rfl ?_
  refine kIC X0 (0 : Int32) d1_2 (by decide) ?_
  refine kALn X0 d1_3 rfl rfl ?_
  refine kLEN X0 A_q1 d1_4 ?_
  refine kNULL X0 d1_5 ?_
  refine kSPEC X0 (gEL G) (argsL := [.ref q1, .int (0 : Int32), .int (1 : Int32), .null]) (rest := []) (wd G 12 rfl) (wd G 13 rfl) (wd G 7 rfl) (wd G 15 rfl) rfl (by decide) (rm16 l G i0 q0 q1 kp0 h0 X0.n O0 A_q1 c_0 E_q0 F_q0_coder F_q0_value g_q0) (allS ⟨(E_q0.lt), S_q0⟩ all0) (fun _ _ _ _ _ q => q.1) (lenOf pd___CIILjava_lang_Void__V rfl) rfl (by decide) 0 (Nat.le_of_eq rfl) (by decide) (by decide) (by decide) (by rw [hml]; rfl) d1_6 (fun v1 L2 T3 h4 vm5 K6 w7 q8 C9 C10 X11 => ?_)
  obtain ⟨n12, ⟨a13, k14, e15, f16, f17, f18, f19, f20, f21⟩⟩ := q8
  subst e15
  have n22 : q0 ≠ a13 := Nat.ne_of_lt (Nat.lt_of_lt_of_le (E_q0.lt) f17)
  have n23 : q1 ≠ a13 := Nat.ne_of_lt (Nat.lt_of_lt_of_le (A_q1.lt) f17)
  have g24 : n0 ≤ a13 := Nat.le_trans X0.n f17
  have g25 : h0.size ≤ a13 := Nat.le_trans X0.g0 f17
  show Go _ _ _ _ T3 (mkF m 9 #[.val (.ref q0), .val (.ref q1)] [])
  have K26 : Keep h0 h4 [q0] := (Keep.trans (Keep.refl h0 [q0]) f16 (allS (Or.inl (List.mem_of_getElem? (i := 0) rfl)) all0))
  exact kRETV X11 (gEL G) hret d1_9 (fun ve hve => ⟨X11.N, ⟨a13, k14, rfl, K26, g25, f18, (CHr.safe hve (f18.lt) f19), f20, f21⟩⟩) (by decide) (by decide)
def Q_rm22 (Z : State) (iCS : Int32) (aV : Addr) (aG : Addr) (aN : Addr) (tG : Addr) (tN : Addr) (bG : Addr) (bN : Addr) (kV : ClassId) (kG : ClassId) (kN : ClassId) (i0 : Int32) (q0 : Addr) (kp0 : ClassId) (h0 : Heap) (n0 : Nat) (vs : Vm) (v : Option Value) (h : Heap) (L : List Loc) (ve : Vm) : Prop := Fr n0 L ∧ ((v = some (.int (0 : Int32)) ∧ (h0 = h)))
def R_rm22 : Room := { frames := 0, cells := 0, slots := 0, locals := 0 }
set_option maxRecDepth 65536 in
set_option maxHeartbeats 4000000 in
theorem rm22 (l : Launch) {Z : State} {a0 : Array Value} {iCS : Int32} {aV : Addr} {aG : Addr} {aN : Addr} {tG : Addr} {tN : Addr} {bG : Addr} {bN : Addr} {kV : ClassId} {kG : ClassId} {kN : ClassId} (G : Glob Z a0 iCS aV aG aN tG tN bG bN kV kG kN) (i0 : Int32) (q0 : Addr) (kp0 : ClassId) (h0 : Heap) {n0 : Nat} (Z0 : n0 ≤ h0.size) (O0 : Old Z n0 h0) (A_q0 : Arv Z h0 q0 kp0 .byte 1 [.int i0] (.int (0 : Int32))) :
    MetH l Z EL0 (⟨"java/lang/StringLatin1", "equals", "([B[B)Z"⟩ : MethodName) jdk_43_method_13_code 3 (some .boolean) [] R_rm22 #[.ref bG, .ref q0] h0 [] (Q_rm22 Z iCS aV aG aN tG tN bG bN kV kG kN i0 q0 kp0 h0 n0) := by
  refine MetH.of (n0 := n0) #[.val (.ref bG), .val (.ref q0), .unset] pn_java_lang_StringLatin1 rfl Z0 (fun p e s m below meth c T0 hret hml hnm hSL hs0 X0 => ?_)
  refine kALn X0 d7_0 rfl rfl ?_
  refine kLEN X0 (Arv.ext (AB_G G) O0.2) d7_1 ?_
  refine kALn X0 d7_2 rfl rfl ?_
  refine kLEN X0 A_q0 d7_3 ?_
  refine kICt X0 34 d7_4 (XT.ii_ne_t (by decide)) (by decide) ?_
  refine kIC X0 (0 : Int32) d7_34 (by decide) ?_
  exact kRETZ X0 (gEL G) (t := .boolean) hret (by simp) d7_35 (fun ve hve => ⟨X0.N, ⟨rfl, rfl⟩⟩) (by decide) (by decide)
def Q_rm21 (Z : State) (iCS : Int32) (aV : Addr) (aG : Addr) (aN : Addr) (tG : Addr) (tN : Addr) (bG : Addr) (bN : Addr) (kV : ClassId) (kG : ClassId) (kN : ClassId) (i0 : Int32) (q0 : Addr) (q1 : Addr) (kp0 : ClassId) (h0 : Heap) (n0 : Nat) (vs : Vm) (v : Option Value) (h : Heap) (L : List Loc) (ve : Vm) : Prop := Fr n0 L ∧ ((v = some (.int (0 : Int32)) ∧ (h0 = h)))
def R_rm21 : Room := { frames := 1, cells := 0, slots := 0, locals := 14 }
set_option maxRecDepth 65536 in
set_option maxHeartbeats 4000000 in
theorem rm21 (l : Launch) {Z : State} {a0 : Array Value} {iCS : Int32} {aV : Addr} {aG : Addr} {aN : Addr} {tG : Addr} {tN : Addr} {bG : Addr} {bN : Addr} {kV : ClassId} {kG : ClassId} {kN : ClassId} (G : Glob Z a0 iCS aV aG aN tG tN bG bN kV kG kN) (i0 : Int32) (q0 : Addr) (q1 : Addr) (kp0 : ClassId) (h0 : Heap) {n0 : Nat} (Z0 : n0 ≤ h0.size) (O0 : Old Z n0 h0) (E_q0 : Exa Z h0 q0 "java/lang/String") (F_q0_coder : Fld Z h0 q0 "java/lang/String" "coder" "B" (.int (0 : Int32))) (F_q0_value : Fld Z h0 q0 "java/lang/String" "value" "[B" (.ref q1)) (A_q1 : Arv Z h0 q1 kp0 .byte 1 [.int i0] (.int (0 : Int32))) (g_q0 : n0 ≤ q0) :
    MetH l Z EL0 (⟨"java/lang/String", "equals", "(Ljava/lang/Object;)Z"⟩ : MethodName) jdk_42_method_66_code 3 (some .boolean) [] R_rm21 #[.ref tG, .ref q0] h0 [] (Q_rm21 Z iCS aV aG aN tG tN bG bN kV kG kN i0 q0 q1 kp0 h0 n0) := by
  refine MetH.of (n0 := n0) #[.val (.ref tG), .val (.ref q0), .unset] pn_java_lang_String rfl Z0 (fun p e s m below meth c T0 hret hml hnm hSL hs0 X0 => ?_)
  refine kALn X0 d6_0 rfl rfl ?_
  refine kALn X0 d6_1 rfl rfl ?_
  refine kACt X0 7 d6_2 rfl rfl (XT.aa_ne_t (own_rne (Old.ne O0 ((ES_G G).lt) g_q0))) (by decide) ?_
  refine kALn X0 d6_7 rfl rfl ?_
  refine kINSY X0 (wd G 55 rfl) (Ins.of_exa E_q0 (wd G 14 rfl)) d6_8 (fun T1 X2 => ?_)
  refine kIFf X2 d6_11 (XT.i0_eq_f (by decide)) ?_
  refine kALn X2 d6_14 rfl rfl ?_
  refine kCAST X2 (wd G 55 rfl) (Ins.of_exa E_q0 (wd G 14 rfl)) d6_15 (fun T3 X4 => ?_)
  refine kASn X4 #[.val (.ref tG), .val (.ref q0), .val (.ref q0)] d6_18 rfl rfl ?_
  refine kGETS X4 (wd G 56 rfl) Via.refl (Sta.ext O0.2 (S_CS G)) d6_19 (fun T5 X6 => ?_)
  refine kIFf X6 d6_22 (XT.i0_eq_f (n_CS G)) ?_
  refine kALn X6 d6_25 rfl rfl ?_
  refine kGETF X6 (wd G 26 rfl) Via.refl (Fld.ext O0.2 (FC_G G)) d6_26 (fun T7 X8 => ?_)
  refine kALn X8 d6_29 rfl rfl ?_
  refine kGETF X8 (wd G 26 rfl) Via.refl F_q0_coder d6_30 (fun T9 X10 => ?_)
  refine kICf X10 d6_33 (XT.ii_ne_f (by decide)) ?_
  refine kALn X10 d6_36 rfl rfl ?_
  refine kGETF X10 (wd G 25 rfl) Via.refl (Fld.ext O0.2 (FV_G G)) d6_37 (fun T11 X12 => ?_)
  refine kALn X12 d6_40 rfl rfl ?_
  refine kGETF X12 (wd G 25 rfl) Via.refl F_q0_value d6_41 (fun T13 X14 => ?_)
  refine kSTAT X14 (gEL G) (argsL := [.ref bG, .ref q1]) (rest := []) (wd G 57 rfl) (wd G 58 rfl) (wd G 59 rfl) (wd G 60 rfl) (by decide) (rm22 l G i0 q1 kp0 h0 X14.n O0 A_q1) all0 (fun _ _ _ _ _ q => q.1) (lenOf pd___B_B_Z rfl) rfl (by decide) 0 (Nat.le_of_eq rfl) (by decide) (by decide) (by decide) (by rw [hml]; rfl) d6_44 (fun v15 L16 T17 h18 vm19 K20 w21 q22 C23 C24 X25 => ?_)
  obtain ⟨n26, ⟨e27, f28⟩⟩ := q22
  subst e27
  subst f28
  show Go _ _ _ _ T17 (mkF m 47 #[.val (.ref tG), .val (.ref q0), .val (.ref q0)] [.int (0 : Int32)])
  refine kIFt X25 54 d6_47 (XT.i0_eq_t (by decide)) (by decide) ?_
  refine kIC X25 (0 : Int32) d6_54 (by decide) ?_
  exact kRETZ X25 (gEL G) (t := .boolean) hret (by simp) d6_55 (fun ve hve => ⟨X25.N, ⟨rfl, rfl⟩⟩) (by decide) (by decide)
def Q_rm24 (Z : State) (iCS : Int32) (aV : Addr) (aG : Addr) (aN : Addr) (tG : Addr) (tN : Addr) (bG : Addr) (bN : Addr) (kV : ClassId) (kG : ClassId) (kN : ClassId) (i0 : Int32) (q0 : Addr) (kp0 : ClassId) (h0 : Heap) (n0 : Nat) (vs : Vm) (v : Option Value) (h : Heap) (L : List Loc) (ve : Vm) : Prop := Fr n0 L ∧ ((v = some (.int (0 : Int32)) ∧ (h0 = h)))
def R_rm24 : Room := { frames := 0, cells := 0, slots := 0, locals := 0 }
set_option maxRecDepth 65536 in
set_option maxHeartbeats 4000000 in
theorem rm24 (l : Launch) {Z : State} {a0 : Array Value} {iCS : Int32} {aV : Addr} {aG : Addr} {aN : Addr} {tG : Addr} {tN : Addr} {bG : Addr} {bN : Addr} {kV : ClassId} {kG : ClassId} {kN : ClassId} (G : Glob Z a0 iCS aV aG aN tG tN bG bN kV kG kN) (i0 : Int32) (q0 : Addr) (kp0 : ClassId) (h0 : Heap) {n0 : Nat} (Z0 : n0 ≤ h0.size) (O0 : Old Z n0 h0) (A_q0 : Arv Z h0 q0 kp0 .byte 1 [.int i0] (.int (0 : Int32))) :
    MetH l Z EL0 (⟨"java/lang/StringLatin1", "equals", "([B[B)Z"⟩ : MethodName) jdk_43_method_13_code 3 (some .boolean) [] R_rm24 #[.ref bN, .ref q0] h0 [] (Q_rm24 Z iCS aV aG aN tG tN bG bN kV kG kN i0 q0 kp0 h0 n0) := by
  refine MetH.of (n0 := n0) #[.val (.ref bN), .val (.ref q0), .unset] pn_java_lang_StringLatin1 rfl Z0 (fun p e s m below meth c T0 hret hml hnm hSL hs0 X0 => ?_)
  refine kALn X0 d7_0 rfl rfl ?_
  refine kLEN X0 (Arv.ext (AB_N G) O0.2) d7_1 ?_
  refine kALn X0 d7_2 rfl rfl ?_
  refine kLEN X0 A_q0 d7_3 ?_
  refine kICt X0 34 d7_4 (XT.ii_ne_t (by decide)) (by decide) ?_
  refine kIC X0 (0 : Int32) d7_34 (by decide) ?_
  exact kRETZ X0 (gEL G) (t := .boolean) hret (by simp) d7_35 (fun ve hve => ⟨X0.N, ⟨rfl, rfl⟩⟩) (by decide) (by decide)
def Q_rm23 (Z : State) (iCS : Int32) (aV : Addr) (aG : Addr) (aN : Addr) (tG : Addr) (tN : Addr) (bG : Addr) (bN : Addr) (kV : ClassId) (kG : ClassId) (kN : ClassId) (i0 : Int32) (q0 : Addr) (q1 : Addr) (kp0 : ClassId) (h0 : Heap) (n0 : Nat) (vs : Vm) (v : Option Value) (h : Heap) (L : List Loc) (ve : Vm) : Prop := Fr n0 L ∧ ((v = some (.int (0 : Int32)) ∧ (h0 = h)))
def R_rm23 : Room := { frames := 1, cells := 0, slots := 0, locals := 14 }
set_option maxRecDepth 65536 in
set_option maxHeartbeats 4000000 in
theorem rm23 (l : Launch) {Z : State} {a0 : Array Value} {iCS : Int32} {aV : Addr} {aG : Addr} {aN : Addr} {tG : Addr} {tN : Addr} {bG : Addr} {bN : Addr} {kV : ClassId} {kG : ClassId} {kN : ClassId} (G : Glob Z a0 iCS aV aG aN tG tN bG bN kV kG kN) (i0 : Int32) (q0 : Addr) (q1 : Addr) (kp0 : ClassId) (h0 : Heap) {n0 : Nat} (Z0 : n0 ≤ h0.size) (O0 : Old Z n0 h0) (E_q0 : Exa Z h0 q0 "java/lang/String") (F_q0_coder : Fld Z h0 q0 "java/lang/String" "coder" "B" (.int (0 : Int32))) (F_q0_value : Fld Z h0 q0 "java/lang/String" "value" "[B" (.ref q1)) (A_q1 : Arv Z h0 q1 kp0 .byte 1 [.int i0] (.int (0 : Int32))) (g_q0 : n0 ≤ q0) :
    MetH l Z EL0 (⟨"java/lang/String", "equals", "(Ljava/lang/Object;)Z"⟩ : MethodName) jdk_42_method_66_code 3 (some .boolean) [] R_rm23 #[.ref tN, .ref q0] h0 [] (Q_rm23 Z iCS aV aG aN tG tN bG bN kV kG kN i0 q0 q1 kp0 h0 n0) := by
  refine MetH.of (n0 := n0) #[.val (.ref tN), .val (.ref q0), .unset] pn_java_lang_String rfl Z0 (fun p e s m below meth c T0 hret hml hnm hSL hs0 X0 => ?_)
  refine kALn X0 d6_0 rfl rfl ?_
  refine kALn X0 d6_1 rfl rfl ?_
  refine kACt X0 7 d6_2 rfl rfl (XT.aa_ne_t (own_rne (Old.ne O0 ((ES_N G).lt) g_q0))) (by decide) ?_
  refine kALn X0 d6_7 rfl rfl ?_
  refine kINSY X0 (wd G 55 rfl) (Ins.of_exa E_q0 (wd G 14 rfl)) d6_8 (fun T1 X2 => ?_)
  refine kIFf X2 d6_11 (XT.i0_eq_f (by decide)) ?_
  refine kALn X2 d6_14 rfl rfl ?_
  refine kCAST X2 (wd G 55 rfl) (Ins.of_exa E_q0 (wd G 14 rfl)) d6_15 (fun T3 X4 => ?_)
  refine kASn X4 #[.val (.ref tN), .val (.ref q0), .val (.ref q0)] d6_18 rfl rfl ?_
  refine kGETS X4 (wd G 56 rfl) Via.refl (Sta.ext O0.2 (S_CS G)) d6_19 (fun T5 X6 => ?_)
  refine kIFf X6 d6_22 (XT.i0_eq_f (n_CS G)) ?_
  refine kALn X6 d6_25 rfl rfl ?_
  refine kGETF X6 (wd G 26 rfl) Via.refl (Fld.ext O0.2 (FC_N G)) d6_26 (fun T7 X8 => ?_)
  refine kALn X8 d6_29 rfl rfl ?_
  refine kGETF X8 (wd G 26 rfl) Via.refl F_q0_coder d6_30 (fun T9 X10 => ?_)
  refine kICf X10 d6_33 (XT.ii_ne_f (by decide)) ?_
  refine kALn X10 d6_36 rfl rfl ?_
  refine kGETF X10 (wd G 25 rfl) Via.refl (Fld.ext O0.2 (FV_N G)) d6_37 (fun T11 X12 => ?_)
  refine kALn X12 d6_40 rfl rfl ?_
  refine kGETF X12 (wd G 25 rfl) Via.refl F_q0_value d6_41 (fun T13 X14 => ?_)
  refine kSTAT X14 (gEL G) (argsL := [.ref bN, .ref q1]) (rest := []) (wd G 57 rfl) (wd G 58 rfl) (wd G 59 rfl) (wd G 60 rfl) (by decide) (rm24 l G i0 q1 kp0 h0 X14.n O0 A_q1) all0 (fun _ _ _ _ _ q => q.1) (lenOf pd___B_B_Z rfl) rfl (by decide) 0 (Nat.le_of_eq rfl) (by decide) (by decide) (by decide) (by rw [hml]; rfl) d6_44 (fun v15 L16 T17 h18 vm19 K20 w21 q22 C23 C24 X25 => ?_)
  obtain ⟨n26, ⟨e27, f28⟩⟩ := q22
  subst e27
  subst f28
  show Go _ _ _ _ T17 (mkF m 47 #[.val (.ref tN), .val (.ref q0), .val (.ref q0)] [.int (0 : Int32)])
  refine kIFt X25 54 d6_47 (XT.i0_eq_t (by decide)) (by decide) ?_
  refine kIC X25 (0 : Int32) d6_54 (by decide) ?_
  exact kRETZ X25 (gEL G) (t := .boolean) hret (by simp) d6_55 (fun ve hve => ⟨X25.N, ⟨rfl, rfl⟩⟩) (by decide) (by decide)
def Q_rm20 (Z : State) (iCS : Int32) (aV : Addr) (aG : Addr) (aN : Addr) (tG : Addr) (tN : Addr) (bG : Addr) (bN : Addr) (kV : ClassId) (kG : ClassId) (kN : ClassId) (i0 : Int32) (q0 : Addr) (q1 : Addr) (kp0 : ClassId) (h0 : Heap) (n0 : Nat) (vs : Vm) (v : Option Value) (h : Heap) (L : List Loc) (ve : Vm) : Prop := Fr n0 L ∧ ((v = some (.null) ∧ (Keep h0 h [])))
def R_rm20 : Room := { frames := 2, cells := 1, slots := 2, locals := 28 }
set_option maxRecDepth 65536 in
set_option maxHeartbeats 4000000 in
theorem rm20 (l : Launch) {Z : State} {a0 : Array Value} {iCS : Int32} {aV : Addr} {aG : Addr} {aN : Addr} {tG : Addr} {tN : Addr} {bG : Addr} {bN : Addr} {kV : ClassId} {kG : ClassId} {kN : ClassId} (G : Glob Z a0 iCS aV aG aN tG tN bG bN kV kG kN) (i0 : Int32) (q0 : Addr) (q1 : Addr) (kp0 : ClassId) (h0 : Heap) {n0 : Nat} (Z0 : n0 ≤ h0.size) (O0 : Old Z n0 h0) (E_q0 : Exa Z h0 q0 "java/lang/String") (A_q1 : Arv Z h0 q1 kp0 .byte 1 [.int i0] (.int (0 : Int32))) (F_q0_coder : Fld Z h0 q0 "java/lang/String" "coder" "B" (.int (0 : Int32))) (F_q0_value : Fld Z h0 q0 "java/lang/String" "value" "[B" (.ref q1)) (g_q0 : n0 ≤ q0) :
    MetH l Z EL0 (⟨"com/example/tight_calculus/tightcalculus/Model$Kind", "named", "(Ljava/lang/String;)Lcom/example/tight_calculus/tightcalculus/Model$Kind;"⟩ : MethodName) prog_20_method_6_code 6 (some (.object "com/example/tight_calculus/tightcalculus/Model$Kind")) [] R_rm20 #[.ref q0] h0 [] (Q_rm20 Z iCS aV aG aN tG tN bG bN kV kG kN i0 q0 q1 kp0 h0 n0) := by
  refine MetH.of (n0 := n0) #[.val (.ref q0), .unset, .unset, .unset, .unset, .unset] pn_com_example_tight_calculus_tightcalculus_Model_Kind rfl Z0 (fun p e s m below meth c T0 hret hml hnm hSL hs0 X0 => ?_)
  refine kNULL X0 d4_0 ?_
  refine kASn X0 #[.val (.ref q0), .val .null, .unset, .unset, .unset, .unset] d4_1 rfl rfl ?_
  refine kSTAT X0 (gEL G) (argsL := []) (rest := []) (wd G 31 rfl) (wd G 32 rfl) (wd G 29 rfl) (wd G 33 rfl) (by decide) (rm7 l G  h0 X0.n O0 ) all0 (fun _ _ _ _ _ q => q.1) (lenOf pd____Lcom_example_tight_calculus_tightcalculus_Model_Kind_ rfl) rfl (by decide) 0 (Nat.le_of_eq rfl) (by decide) (by decide) (by decide) (by rw [hml]; rfl) d4_2 (fun v1 L2 T3 h4 vm5 K6 w7 q8 C9 C10 X11 => ?_)
  obtain ⟨n12, ⟨a13, e14, f15, f16, f17, f18⟩⟩ := q8
  subst e14
  have n19 : q0 ≠ a13 := Nat.ne_of_lt (Nat.lt_of_lt_of_le (E_q0.lt) f16)
  have n20 : q1 ≠ a13 := Nat.ne_of_lt (Nat.lt_of_lt_of_le (A_q1.lt) f16)
  have g21 : n0 ≤ a13 := Nat.le_trans X0.n f16
  have g22 : h0.size ≤ a13 := Nat.le_trans X0.g0 f16
  show Go _ _ _ _ T3 (mkF m 5 #[.val (.ref q0), .val .null, .unset, .unset, .unset, .unset] [.ref a13])
  refine kASn X11 #[.val (.ref q0), .val .null, .val (.ref a13), .unset, .unset, .unset] d4_5 rfl rfl ?_
  refine kALn X11 d4_6 rfl rfl ?_
  refine kLEN X11 f18 d4_7 ?_
  refine kISn X11 #[.val (.ref q0), .val .null, .val (.ref a13), .val (.int (2 : Int32)), .unset, .unset] d4_8 rfl ?_
  refine kIC X11 (0 : Int32) d4_9 (by decide) ?_
  refine kIS X11 #[.val (.ref q0), .val .null, .val (.ref a13), .val (.int (2 : Int32)), .val (.int (0 : Int32)), .unset] d4_10 rfl ?_
  refine kIL X11 d4_12 rfl ?_
  refine kILn X11 d4_14 rfl ?_
  refine kICf X11 d4_15 (XT.ii_ge_f (by decide)) ?_
  refine kALn X11 d4_18 rfl rfl ?_
  refine kIL X11 d4_19 rfl ?_
  refine kAALD X11 (.ref aG) f18 rfl (by decide) rfl d4_21 ?_
  refine kAS X11 #[.val (.ref q0), .val .null, .val (.ref a13), .val (.int (2 : Int32)), .val (.int (0 : Int32)), .val (.ref aG)] d4_22 rfl rfl ?_
  refine kAL X11 d4_24 rfl rfl ?_
  have f23 := (Old.keep O0 f15 all0)
  refine kGETF X11 (wd G 48 rfl) Via.refl (Fld.ext f23.2 (F_G G)) d4_26 (fun T24 X25 => ?_)
  refine kALn X25 d4_29 rfl rfl ?_
  have f26 := (Exa.keep E_q0 f15)
  have f27 := (Fld.keep F_q0_coder f15 nin0)
  have f28 := (Fld.keep F_q0_value f15 nin0)
  have f29 := (Arv.keep A_q1 f15 nin0)
  refine kVIRT X25 (gEL G) (argsL := [.ref q0]) (rest := []) (wd G 50 rfl) (wd G 51 rfl) (notFace_of_selects (args := #[]) (mvT (s := s.setVm _) X25.hZ (wd G 53 rfl))) (wd G 53 rfl) (wd G 52 rfl) (wd G 7 rfl) (wd G 54 rfl) (by decide) (Exa.ext f23.2 (ES_G G)) (rm21 l G i0 q0 q1 kp0 h4 X25.n f23 f26 f27 f28 f29 g_q0) all0 (fun _ _ _ _ _ q => q.1) (lenOf pd__Ljava_lang_Object__Z rfl) rfl (by decide) 0 (Nat.le_of_eq rfl) (by decide) (by decide) (by decide) (by rw [hml]; rfl) d4_30 (fun v30 L31 T32 h33 vm34 K35 w36 q37 C38 C39 X40 => ?_)
  obtain ⟨n41, ⟨e42, f43⟩⟩ := q37
  subst e42
  subst f43
  show Go _ _ _ _ T32 (mkF m 33 #[.val (.ref q0), .val .null, .val (.ref a13), .val (.int (2 : Int32)), .val (.int (0 : Int32)), .val (.ref aG)] [.int (0 : Int32)])
  refine kIFt X40 39 d4_33 (XT.i0_eq_t (by decide)) (by decide) ?_
  refine kIINC X40 (1 : Int32) (1 : Int32) #[.val (.ref q0), .val .null, .val (.ref a13), .val (.int (2 : Int32)), .val (.int (1 : Int32)), .val (.ref aG)] d4_39 (by decide) rfl (by decide) rfl ?_
  refine kGOTO X40 12 d4_42 (by decide) ?_
  refine kIL X40 d4_12 rfl ?_
  refine kILn X40 d4_14 rfl ?_
  refine kICf X40 d4_15 (XT.ii_ge_f (by decide)) ?_
  refine kALn X40 d4_18 rfl rfl ?_
  refine kIL X40 d4_19 rfl ?_
  have f44 := f18
  refine kAALD X40 (.ref aN) f44 rfl (by decide) rfl d4_21 ?_
  refine kAS X40 #[.val (.ref q0), .val .null, .val (.ref a13), .val (.int (2 : Int32)), .val (.int (1 : Int32)), .val (.ref aN)] d4_22 rfl rfl ?_
  refine kAL X40 d4_24 rfl rfl ?_
  have f45 := f23
  refine kGETF X40 (wd G 48 rfl) Via.refl (Fld.ext f45.2 (F_N G)) d4_26 (fun T46 X47 => ?_)
  refine kALn X47 d4_29 rfl rfl ?_
  have f48 := f26
  have f49 := f27
  have f50 := f28
  have f51 := f29
  refine kVIRT X47 (gEL G) (argsL := [.ref q0]) (rest := []) (wd G 50 rfl) (wd G 51 rfl) (notFace_of_selects (args := #[]) (mvT (s := s.setVm _) X47.hZ (wd G 53 rfl))) (wd G 53 rfl) (wd G 52 rfl) (wd G 7 rfl) (wd G 54 rfl) (by decide) (Exa.ext f45.2 (ES_N G)) (rm23 l G i0 q0 q1 kp0 h4 X47.n f45 f48 f49 f50 f51 g_q0) all0 (fun _ _ _ _ _ q => q.1) (lenOf pd__Ljava_lang_Object__Z rfl) rfl (by decide) 0 (Nat.le_of_eq rfl) (by decide) (by decide) (by decide) (by rw [hml]; rfl) d4_30 (fun v52 L53 T54 h55 vm56 K57 w58 q59 C60 C61 X62 => ?_)
  obtain ⟨n63, ⟨e64, f65⟩⟩ := q59
  subst e64
  subst f65
  show Go _ _ _ _ T54 (mkF m 33 #[.val (.ref q0), .val .null, .val (.ref a13), .val (.int (2 : Int32)), .val (.int (1 : Int32)), .val (.ref aN)] [.int (0 : Int32)])
  refine kIFt X62 39 d4_33 (XT.i0_eq_t (by decide)) (by decide) ?_
  refine kIINC X62 (1 : Int32) (2 : Int32) #[.val (.ref q0), .val .null, .val (.ref a13), .val (.int (2 : Int32)), .val (.int (2 : Int32)), .val (.ref aN)] d4_39 (by decide) rfl (by decide) rfl ?_
  refine kGOTO X62 12 d4_42 (by decide) ?_
  refine kIL X62 d4_12 rfl ?_
  refine kILn X62 d4_14 rfl ?_
  refine kICt X62 45 d4_15 (XT.ii_ge_t (by decide)) (by decide) ?_
  refine kALn X62 d4_45 rfl rfl ?_
  have K66 : Keep h0 h4 [] := (Keep.trans (Keep.refl h0 []) f15 all0)
  exact kRETA X62 (gEL G) hret rfl rfl d4_46 (fun ve hve => ⟨X62.N, ⟨rfl, K66⟩⟩) (by decide) (by decide)
def Q_rm28 (Z : State) (iCS : Int32) (aV : Addr) (aG : Addr) (aN : Addr) (tG : Addr) (tN : Addr) (bG : Addr) (bN : Addr) (kV : ClassId) (kG : ClassId) (kN : ClassId) (i0 : Int32) (i1 : Int32) (q0 : Addr) (q1 : Addr) (kp0 : ClassId) (kp1 : ClassId) (h0 : Heap) (n0 : Nat) (vs : Vm) (v : Option Value) (h : Heap) (L : List Loc) (ve : Vm) : Prop := Fr n0 L ∧ ((v = some (.int (2 : Int32)) ∧ (Keep h0 h [q1]) ∧ (Arv Z h q1 kp1 .byte 2 [.int (ownB i0), .int (ownB i1)] (.int (0 : Int32)))))
def R_rm28 : Room := { frames := 0, cells := 0, slots := 0, locals := 0 }
set_option maxRecDepth 65536 in
set_option maxHeartbeats 4000000 in
theorem rm28 (l : Launch) {Z : State} {a0 : Array Value} {iCS : Int32} {aV : Addr} {aG : Addr} {aN : Addr} {tG : Addr} {tN : Addr} {bG : Addr} {bN : Addr} {kV : ClassId} {kG : ClassId} {kN : ClassId} (G : Glob Z a0 iCS aV aG aN tG tN bG bN kV kG kN) (i0 : Int32) (i1 : Int32) (q0 : Addr) (q1 : Addr) (kp0 : ClassId) (kp1 : ClassId) (h0 : Heap) {n0 : Nat} (Z0 : n0 ≤ h0.size) (O0 : Old Z n0 h0) (A_q0 : Arv Z h0 q0 kp0 .char 2 [.int i0, .int i1] (.int (0 : Int32))) (c_0 : ¬ (255 : Int32) < i0) (A_q1 : Arv Z h0 q1 kp1 .byte 2 [.int (0 : Int32), .int (0 : Int32)] (.int (0 : Int32))) (d_q0_q1 : q0 ≠ q1) (c_1 : ¬ (255 : Int32) < i1) (g_q1 : n0 ≤ q1) :
    MetH l Z EL0 (⟨"java/lang/StringUTF16", "compress", "([CI[BII)I"⟩ : MethodName) jdk_52_method_21_code 7 (some .int) [] R_rm28 #[.ref q0, .int (0 : Int32), .ref q1, .int (0 : Int32), .int (2 : Int32)] h0 [q1] (Q_rm28 Z iCS aV aG aN tG tN bG bN kV kG kN i0 i1 q0 q1 kp0 kp1 h0 n0) := by
  refine MetH.of (n0 := n0) #[.val (.ref q0), .val (.int (0 : Int32)), .val (.ref q1), .val (.int (0 : Int32)), .val (.int (2 : Int32)), .unset, .unset] pn_java_lang_StringUTF16 rfl Z0 (fun p e s m below meth c T0 hret hml hnm hSL hs0 X0 => ?_)
  have S_q1 := hSL q1 (List.mem_of_getElem? (i := 0) rfl)
  refine kIC X0 (0 : Int32) d9_0 (by decide) ?_
  refine kIS X0 #[.val (.ref q0), .val (.int (0 : Int32)), .val (.ref q1), .val (.int (0 : Int32)), .val (.int (2 : Int32)), .val (.int (0 : Int32)), .unset] d9_1 rfl ?_
  refine kIL X0 d9_3 rfl ?_
  refine kIL X0 d9_5 rfl ?_
  refine kICf X0 d9_7 (XT.ii_ge_f (by decide)) ?_
  refine kALn X0 d9_10 rfl rfl ?_
  refine kILn X0 d9_11 rfl ?_
  refine kCALD X0 (.int i0) A_q0 (by decide) rfl d9_12 ?_
  refine kIS X0 #[.val (.ref q0), .val (.int (0 : Int32)), .val (.ref q1), .val (.int (0 : Int32)), .val (.int (2 : Int32)), .val (.int (0 : Int32)), .val (.int i0)] d9_13 rfl ?_
  refine kIL X0 d9_15 rfl ?_
  refine kSI X0 (255 : Int32) d9_17 (by decide) ?_
  refine kICt X0 26 d9_20 (XT.ii_le_t c_0) (by decide) ?_
  refine kALn X0 d9_26 rfl rfl ?_
  refine kILn X0 d9_27 rfl ?_
  refine kIL X0 d9_28 rfl ?_
  refine kI2B X0 (ownB i0) d9_30 rfl ?_
  refine kBASTO X0 A_q1 (by decide) 0 (ownB i0) (own_nb _) (by decide) (by show 0 < 2; decide) g_q1 S_q1 d9_31 (fun T1 h2 L4 W5 f6 X3 => ?_)
  have f7 : Arv Z h2 q1 kp1 .byte 2 [.int (ownB i0), .int (0 : Int32)] (.int (0 : Int32)) := f6
  refine kIINC X3 (1 : Int32) (1 : Int32) #[.val (.ref q0), .val (.int (1 : Int32)), .val (.ref q1), .val (.int (0 : Int32)), .val (.int (2 : Int32)), .val (.int (0 : Int32)), .val (.int i0)] d9_32 (by decide) rfl (by decide) rfl ?_
  refine kIINC X3 (1 : Int32) (1 : Int32) #[.val (.ref q0), .val (.int (1 : Int32)), .val (.ref q1), .val (.int (1 : Int32)), .val (.int (2 : Int32)), .val (.int (0 : Int32)), .val (.int i0)] d9_35 (by decide) rfl (by decide) rfl ?_
  refine kIINC X3 (1 : Int32) (1 : Int32) #[.val (.ref q0), .val (.int (1 : Int32)), .val (.ref q1), .val (.int (1 : Int32)), .val (.int (2 : Int32)), .val (.int (1 : Int32)), .val (.int i0)] d9_38 (by decide) rfl (by decide) rfl ?_
  refine kGOTO X3 3 d9_41 (by decide) ?_
  refine kIL X3 d9_3 rfl ?_
  refine kIL X3 d9_5 rfl ?_
  refine kICf X3 d9_7 (XT.ii_ge_f (by decide)) ?_
  refine kALn X3 d9_10 rfl rfl ?_
  refine kILn X3 d9_11 rfl ?_
  have f8 := (Arv.other A_q0 W5 d_q0_q1)
  refine kCALD X3 (.int i1) f8 (by decide) rfl d9_12 ?_
  refine kIS X3 #[.val (.ref q0), .val (.int (1 : Int32)), .val (.ref q1), .val (.int (1 : Int32)), .val (.int (2 : Int32)), .val (.int (1 : Int32)), .val (.int i1)] d9_13 rfl ?_
  refine kIL X3 d9_15 rfl ?_
  refine kSI X3 (255 : Int32) d9_17 (by decide) ?_
  refine kICt X3 26 d9_20 (XT.ii_le_t c_1) (by decide) ?_
  refine kALn X3 d9_26 rfl rfl ?_
  refine kILn X3 d9_27 rfl ?_
  refine kIL X3 d9_28 rfl ?_
  refine kI2B X3 (ownB i1) d9_30 rfl ?_
  have f9 := (Safe.wr W5 S_q1 X0.C.1 S_q1)
  refine kBASTO X3 f7 (by decide) 1 (ownB i1) (own_nb _) (by decide) (by show 1 < 2; decide) g_q1 f9 d9_31 (fun T10 h11 L13 W14 f15 X12 => ?_)
  have f16 : Arv Z h11 q1 kp1 .byte 2 [.int (ownB i0), .int (ownB i1)] (.int (0 : Int32)) := f15
  refine kIINC X12 (1 : Int32) (2 : Int32) #[.val (.ref q0), .val (.int (2 : Int32)), .val (.ref q1), .val (.int (1 : Int32)), .val (.int (2 : Int32)), .val (.int (1 : Int32)), .val (.int i1)] d9_32 (by decide) rfl (by decide) rfl ?_
  refine kIINC X12 (1 : Int32) (2 : Int32) #[.val (.ref q0), .val (.int (2 : Int32)), .val (.ref q1), .val (.int (2 : Int32)), .val (.int (2 : Int32)), .val (.int (1 : Int32)), .val (.int i1)] d9_35 (by decide) rfl (by decide) rfl ?_
  refine kIINC X12 (1 : Int32) (2 : Int32) #[.val (.ref q0), .val (.int (2 : Int32)), .val (.ref q1), .val (.int (2 : Int32)), .val (.int (2 : Int32)), .val (.int (2 : Int32)), .val (.int i1)] d9_38 (by decide) rfl (by decide) rfl ?_
  refine kGOTO X12 3 d9_41 (by decide) ?_
  refine kIL X12 d9_3 rfl ?_
  refine kIL X12 d9_5 rfl ?_
  refine kICt X12 44 d9_7 (XT.ii_ge_t (by decide)) (by decide) ?_
  refine kIL X12 d9_44 rfl ?_
  have K17 : Keep h0 h11 [q1] := (Keep.wr (Keep.wr (Keep.refl h0 [q1]) W5 (Or.inl (List.mem_of_getElem? (i := 0) rfl))) W14 (Or.inl (List.mem_of_getElem? (i := 0) rfl)))
  exact kRETI X12 (gEL G) hret d9_46 (fun ve hve => ⟨X12.N, ⟨rfl, K17, f16⟩⟩) (by decide) (by decide)
def Q_rm27 (Z : State) (iCS : Int32) (aV : Addr) (aG : Addr) (aN : Addr) (tG : Addr) (tN : Addr) (bG : Addr) (bN : Addr) (kV : ClassId) (kG : ClassId) (kN : ClassId) (i0 : Int32) (i1 : Int32) (q0 : Addr) (kp0 : ClassId) (h0 : Heap) (n0 : Nat) (vs : Vm) (v : Option Value) (h : Heap) (L : List Loc) (ve : Vm) : Prop := Fr n0 L ∧ ((∃ (x0 : Addr), ∃ (z0 : ClassId), v = some (.ref x0) ∧ (Keep h0 h []) ∧ (h0.size ≤ x0) ∧ (Arv Z h x0 z0 .byte 2 [.int (ownB i0), .int (ownB i1)] (.int (0 : Int32))) ∧ (Safe Z EL0 ve h x0)))
def R_rm27 : Room := { frames := 1, cells := 1, slots := 2, locals := 18 }
set_option maxRecDepth 65536 in
set_option maxHeartbeats 4000000 in
theorem rm27 (l : Launch) {Z : State} {a0 : Array Value} {iCS : Int32} {aV : Addr} {aG : Addr} {aN : Addr} {tG : Addr} {tN : Addr} {bG : Addr} {bN : Addr} {kV : ClassId} {kG : ClassId} {kN : ClassId} (G : Glob Z a0 iCS aV aG aN tG tN bG bN kV kG kN) (i0 : Int32) (i1 : Int32) (q0 : Addr) (kp0 : ClassId) (h0 : Heap) {n0 : Nat} (Z0 : n0 ≤ h0.size) (O0 : Old Z n0 h0) (A_q0 : Arv Z h0 q0 kp0 .char 2 [.int i0, .int i1] (.int (0 : Int32))) (c_0 : ¬ (255 : Int32) < i0) (c_1 : ¬ (255 : Int32) < i1) :
    MetH l Z EL0 (⟨"java/lang/StringUTF16", "compress", "([CII)[B"⟩ : MethodName) jdk_52_method_16_code 6 (some (.array (.byte))) [] R_rm27 #[.ref q0, .int (0 : Int32), .int (2 : Int32)] h0 [] (Q_rm27 Z iCS aV aG aN tG tN bG bN kV kG kN i0 i1 q0 kp0 h0 n0) := by
  refine MetH.of (n0 := n0) #[.val (.ref q0), .val (.int (0 : Int32)), .val (.int (2 : Int32)), .unset, .unset, .unset] pn_java_lang_StringUTF16 rfl Z0 (fun p e s m below meth c T0 hret hml hnm hSL hs0 X0 => ?_)
  refine kILn X0 d8_0 rfl ?_
  refine kNEWP X0 (wd G 20 rfl) (cap := 2) d8_1 (by decide) (by decide) (by decide) (by decide) (by decide) (fun T1 h2 a4 k5 E6 q7 g8 A9 s10 X3 => ?_)
  have n11 : q0 ≠ a4 := Nat.ne_of_lt (Nat.lt_of_lt_of_le (A_q0.lt) (Nat.le_of_eq q7.symm))
  have g12 : h0.size ≤ a4 := q7 ▸ X0.g0
  have f13 : Arv Z h2 a4 k5 .byte 2 [.int (0 : Int32), .int (0 : Int32)] (.int (0 : Int32)) := A9.pad (pad_rep [] _ 2)
  refine kASn X3 #[.val (.ref q0), .val (.int (0 : Int32)), .val (.int (2 : Int32)), .val (.ref a4), .unset, .unset] d8_3 rfl rfl ?_
  refine kALn X3 d8_4 rfl rfl ?_
  refine kILn X3 d8_5 rfl ?_
  refine kALn X3 d8_6 rfl rfl ?_
  refine kIC X3 (0 : Int32) d8_7 (by decide) ?_
  refine kILn X3 d8_8 rfl ?_
  have f14 := (Arv.ext A_q0 E6)
  have f15 := (Old.ext O0 E6)
  refine kSTAT X3 (gEL G) (argsL := [.ref q0, .int (0 : Int32), .ref a4, .int (0 : Int32), .int (2 : Int32)]) (rest := []) (wd G 65 rfl) (wd G 66 rfl) (wd G 63 rfl) (wd G 67 rfl) (by decide) (rm28 l G i0 i1 q0 a4 kp0 k5 h2 X3.n f15 f14 c_0 f13 n11 c_1 g8) (allS ⟨(f13.lt), s10⟩ all0) (fun _ _ _ _ _ q => q.1) (lenOf pd___CI_BII_I rfl) rfl (by decide) 0 (Nat.le_of_eq rfl) (by decide) (by decide) (by decide) (by rw [hml]; rfl) d8_9 (fun v16 L17 T18 h19 vm20 K21 w22 q23 C24 C25 X26 => ?_)
  obtain ⟨n27, ⟨e28, f29, f30⟩⟩ := q23
  subst e28
  show Go _ _ _ _ T18 (mkF m 12 #[.val (.ref q0), .val (.int (0 : Int32)), .val (.int (2 : Int32)), .val (.ref a4), .unset, .unset] [.int (2 : Int32)])
  refine kIS X26 #[.val (.ref q0), .val (.int (0 : Int32)), .val (.int (2 : Int32)), .val (.ref a4), .val (.int (2 : Int32)), .unset] d8_12 rfl ?_
  refine kIL X26 d8_14 rfl ?_
  refine kILn X26 d8_16 rfl ?_
  refine kICt X26 57 d8_17 (XT.ii_eq_t (by decide)) (by decide) ?_
  refine kALn X26 d8_57 rfl rfl ?_
  have K31 : Keep h0 h19 [] := (Keep.trans (Keep.ext (Keep.refl h0 []) E6) f29 (allS (Or.inr g12) all0))
  have f32 := (CHr.safe C25 (f13.lt) s10)
  exact kRETA X26 (gEL G) hret rfl rfl d8_58 (fun ve hve => ⟨X26.N, ⟨a4, k5, rfl, K31, g12, f30, (CHr.safe hve (f30.lt) f32)⟩⟩) (by decide) (by decide)
def Q_rm29 (Z : State) (iCS : Int32) (aV : Addr) (aG : Addr) (aN : Addr) (tG : Addr) (tN : Addr) (bG : Addr) (bN : Addr) (kV : ClassId) (kG : ClassId) (kN : ClassId) (i0 : Int32) (i1 : Int32) (q0 : Addr) (kp0 : ClassId) (h0 : Heap) (n0 : Nat) (vs : Vm) (v : Option Value) (h : Heap) (L : List Loc) (ve : Vm) : Prop := Fr n0 L ∧ ((v = some (.int (0 : Int32)) ∧ (h0 = h)))
def R_rm29 : Room := { frames := 0, cells := 0, slots := 0, locals := 0 }
set_option maxRecDepth 65536 in
set_option maxHeartbeats 4000000 in
theorem rm29 (l : Launch) {Z : State} {a0 : Array Value} {iCS : Int32} {aV : Addr} {aG : Addr} {aN : Addr} {tG : Addr} {tN : Addr} {bG : Addr} {bN : Addr} {kV : ClassId} {kG : ClassId} {kN : ClassId} (G : Glob Z a0 iCS aV aG aN tG tN bG bN kV kG kN) (i0 : Int32) (i1 : Int32) (q0 : Addr) (kp0 : ClassId) (h0 : Heap) {n0 : Nat} (Z0 : n0 ≤ h0.size) (O0 : Old Z n0 h0) (A_q0 : Arv Z h0 q0 kp0 .byte 2 [.int i0, .int i1] (.int (0 : Int32))) :
    MetH l Z EL0 (⟨"java/lang/StringUTF16", "coderFromArrayLen", "([BI)B"⟩ : MethodName) jdk_52_method_15_code 2 (some .byte) [] R_rm29 #[.ref q0, .int (2 : Int32)] h0 [] (Q_rm29 Z iCS aV aG aN tG tN bG bN kV kG kN i0 i1 q0 kp0 h0 n0) := by
  refine MetH.of (n0 := n0) #[.val (.ref q0), .val (.int (2 : Int32))] pn_java_lang_StringUTF16 rfl Z0 (fun p e s m below meth c T0 hret hml hnm hSL hs0 X0 => ?_)
  refine kILn X0 d10_0 rfl ?_
  refine kALn X0 d10_1 rfl rfl ?_
  refine kLEN X0 A_q0 d10_2 ?_
  refine kISUB X0 (0 : Int32) d10_3 (by decide) ?_
  refine kBI X0 (31 : Int32) d10_4 (by decide) ?_
  refine kIUSHR X0 (0 : Int32) d10_6 (by decide) ?_
  refine kI2B X0 (0 : Int32) d10_7 (by decide) ?_
  exact kRETZ X0 (gEL G) (t := .byte) hret (by simp) d10_8 (fun ve hve => ⟨X0.N, ⟨rfl, rfl⟩⟩) (by decide) (by decide)
def Q_rm26 (Z : State) (iCS : Int32) (aV : Addr) (aG : Addr) (aN : Addr) (tG : Addr) (tN : Addr) (bG : Addr) (bN : Addr) (kV : ClassId) (kG : ClassId) (kN : ClassId) (i0 : Int32) (i1 : Int32) (q0 : Addr) (q1 : Addr) (kp0 : ClassId) (h0 : Heap) (n0 : Nat) (vs : Vm) (v : Option Value) (h : Heap) (L : List Loc) (ve : Vm) : Prop := Fr n0 L ∧ ((∃ (x0 : Addr), ∃ (z0 : ClassId), v = none ∧ (Keep h0 h [q0]) ∧ (h0.size ≤ x0) ∧ (Arv Z h x0 z0 .byte 2 [.int (ownB i0), .int (ownB i1)] (.int (0 : Int32))) ∧ (Safe Z EL0 ve h x0) ∧ (Fld Z h q0 "java/lang/String" "coder" "B" (.int (0 : Int32))) ∧ (Fld Z h q0 "java/lang/String" "value" "[B" (.ref x0))))
def R_rm26 : Room := { frames := 2, cells := 1, slots := 2, locals := 35 }
set_option maxRecDepth 65536 in
set_option maxHeartbeats 4000000 in
theorem rm26 (l : Launch) {Z : State} {a0 : Array Value} {iCS : Int32} {aV : Addr} {aG : Addr} {aN : Addr} {tG : Addr} {tN : Addr} {bG : Addr} {bN : Addr} {kV : ClassId} {kG : ClassId} {kN : ClassId} (G : Glob Z a0 iCS aV aG aN tG tN bG bN kV kG kN) (i0 : Int32) (i1 : Int32) (q0 : Addr) (q1 : Addr) (kp0 : ClassId) (h0 : Heap) {n0 : Nat} (Z0 : n0 ≤ h0.size) (O0 : Old Z n0 h0) (A_q1 : Arv Z h0 q1 kp0 .char 2 [.int i0, .int i1] (.int (0 : Int32))) (c_0 : ¬ (255 : Int32) < i0) (c_1 : ¬ (255 : Int32) < i1) (E_q0 : Exa Z h0 q0 "java/lang/String") (F_q0_coder : Fld Z h0 q0 "java/lang/String" "coder" "B" (.int (0 : Int32))) (F_q0_value : Fld Z h0 q0 "java/lang/String" "value" "[B" (.null)) (g_q0 : n0 ≤ q0) :
    MetH l Z EL0 (⟨"java/lang/String", "<init>", "([CIILjava/lang/Void;)V"⟩ : MethodName) jdk_42_method_149_code 6 none [] R_rm26 #[.ref q0, .ref q1, .int (0 : Int32), .int (2 : Int32), .null] h0 [q0] (Q_rm26 Z iCS aV aG aN tG tN bG bN kV kG kN i0 i1 q0 q1 kp0 h0 n0) := by
  refine MetH.of (n0 := n0) #[.val (.ref q0), .val (.ref q1), .val (.int (0 : Int32)), .val (.int (2 : Int32)), .val .null, .unset] pn_java_lang_String rfl Z0 (fun p e s m below meth c T0 hret hml hnm hSL hs0 X0 => ?_)
  have S_q0 := hSL q0 (List.mem_of_getElem? (i := 0) rfl)
  refine kALn X0 d2_0 rfl rfl ?_
  refine kINIT X0 (wd G 16 rfl) (wd G 17 rfl) (wd G 18 rfl) (by rw [hml]; rfl) d2_1 (by decide) 0 (Nat.le_of_eq rfl) (by decide) (fun T1 X2 => ?_)
  refine kILn X2 d2_4 rfl ?_
  refine kIFt X2 27 d2_5 (XT.i0_ne_t (by decide)) (by decide) ?_
  refine kGETS X2 (wd G 56 rfl) Via.refl (Sta.ext O0.2 (S_CS G)) d2_27 (fun T3 X4 => ?_)
  refine kIFf X4 d2_30 (XT.i0_eq_f (n_CS G)) ?_
  refine kALn X4 d2_33 rfl rfl ?_
  refine kILn X4 d2_34 rfl ?_
  refine kILn X4 d2_35 rfl ?_
  refine kSTAT X4 (gEL G) (argsL := [.ref q1, .int (0 : Int32), .int (2 : Int32)]) (rest := []) (wd G 61 rfl) (wd G 62 rfl) (wd G 63 rfl) (wd G 64 rfl) (by decide) (rm27 l G i0 i1 q1 kp0 h0 X4.n O0 A_q1 c_0 c_1) all0 (fun _ _ _ _ _ q => q.1) (lenOf pd___CII__B rfl) rfl (by decide) 0 (Nat.le_of_eq rfl) (by decide) (by decide) (by decide) (by rw [hml]; rfl) d2_36 (fun v5 L6 T7 h8 vm9 K10 w11 q12 C13 C14 X15 => ?_)
  obtain ⟨n16, ⟨a17, k18, e19, f20, f21, f22, f23⟩⟩ := q12
  subst e19
  have n24 : q0 ≠ a17 := Nat.ne_of_lt (Nat.lt_of_lt_of_le (E_q0.lt) f21)
  have n25 : q1 ≠ a17 := Nat.ne_of_lt (Nat.lt_of_lt_of_le (A_q1.lt) f21)
  have g26 : n0 ≤ a17 := Nat.le_trans X4.n f21
  have g27 : h0.size ≤ a17 := Nat.le_trans X4.g0 f21
  show Go _ _ _ _ T7 (mkF m 39 #[.val (.ref q0), .val (.ref q1), .val (.int (0 : Int32)), .val (.int (2 : Int32)), .val .null, .unset] [.ref a17])
  refine kAS X15 #[.val (.ref q0), .val (.ref q1), .val (.int (0 : Int32)), .val (.int (2 : Int32)), .val .null, .val (.ref a17)] d2_39 rfl rfl ?_
  refine kALn X15 d2_41 rfl rfl ?_
  refine kAL X15 d2_42 rfl rfl ?_
  refine kILn X15 d2_44 rfl ?_
  have f28 := (Old.keep O0 f20 all0)
  refine kSTAT X15 (gEL G) (argsL := [.ref a17, .int (2 : Int32)]) (rest := [.ref q0]) (wd G 68 rfl) (wd G 69 rfl) (wd G 63 rfl) (wd G 70 rfl) (by decide) (rm29 l G (ownB i0) (ownB i1) a17 k18 h8 X15.n f28 f22) all0 (fun _ _ _ _ _ q => q.1) (lenOf pd___BI_B rfl) rfl (by decide) 1 (Nat.le_of_eq rfl) (by decide) (by decide) (by decide) (by rw [hml]; rfl) d2_45 (fun v29 L30 T31 h32 vm33 K34 w35 q36 C37 C38 X39 => ?_)
  obtain ⟨n40, ⟨e41, f42⟩⟩ := q36
  subst e41
  subst f42
  show Go _ _ _ _ T31 (mkF m 48 #[.val (.ref q0), .val (.ref q1), .val (.int (0 : Int32)), .val (.int (2 : Int32)), .val .null, .val (.ref a17)] [.int (0 : Int32), .ref q0])
  have f43 := (Fld.keep F_q0_coder f20 nin0)
  have f44 := (Exa.keep E_q0 f20)
  have f45 := (CHr.safe C38 ((Fld.keep F_q0_value f20 nin0)).lt (CHr.safe C14 (F_q0_value.lt) S_q0))
  refine kPUTF X39 (wd G 26 rfl) Via.refl f43 f44 (Or.inr ⟨(wd G 22 rfl), rfl, hnm⟩) (wd G 6 rfl) (ty := .byte) (by decide) (by decide) (by decide) g_q0 f45 d2_48 (fun T46 h47 L50 W49 X48 => ?_)
  have f51 := Fld.same W49 f43
  refine kALn X48 d2_51 rfl rfl ?_
  refine kAL X48 d2_52 rfl rfl ?_
  have f52 := (Fld.other W49 (Fld.keep F_q0_value f20 nin0) (Or.inr (slot_ne (Or.inr (wd G 21 rfl)) (Or.inr (wd G 22 rfl)) (by decide) (by decide : parseFieldDescriptor "[B" = some (.array (.byte))) (by decide : parseFieldDescriptor "B" = some .byte))))
  have f53 := (Exa.wr W49 f44)
  have f54 := (Safe.wr W49 f45 X39.C.1 f45)
  refine kPUTF X48 (wd G 25 rfl) Via.refl f52 f53 (Or.inr ⟨(wd G 21 rfl), rfl, hnm⟩) (wd G 6 rfl) (ty := (.array (.byte))) (by decide) rfl rfl g_q0 f54 d2_54 (fun T55 h56 L59 W58 X57 => ?_)
  have f60 := Fld.same W58 f52
  have K61 : Keep h0 h56 [q0] := (Keep.wr (Keep.wr (Keep.trans (Keep.refl h0 [q0]) f20 all0) W49 (Or.inl (List.mem_of_getElem? (i := 0) rfl))) W58 (Or.inl (List.mem_of_getElem? (i := 0) rfl)))
  have f62 := (Arv.other (Arv.other f22 W49 (Ne.symm n24)) W58 (Ne.symm n24))
  have f63 := (Safe.wr W58 f54 X48.C.1 (Safe.wr W49 f45 X39.C.1 (CHr.safe C38 (f22.lt) f23)))
  have f64 := (Fld.other W58 f51 (Or.inr (slot_ne (Or.inr (wd G 22 rfl)) (Or.inr (wd G 21 rfl)) (by decide) (by decide : parseFieldDescriptor "B" = some .byte) (by decide : parseFieldDescriptor "[B" = some (.array (.byte))))))
  exact kRETV X57 (gEL G) hret d2_57 (fun ve hve => ⟨X57.N, ⟨a17, k18, rfl, K61, g27, f62, (CHr.safe hve (f62.lt) f63), f64, f60⟩⟩) (by decide) (by decide)
def Q_rm25 (Z : State) (iCS : Int32) (aV : Addr) (aG : Addr) (aN : Addr) (tG : Addr) (tN : Addr) (bG : Addr) (bN : Addr) (kV : ClassId) (kG : ClassId) (kN : ClassId) (i0 : Int32) (i1 : Int32) (q0 : Addr) (q1 : Addr) (kp0 : ClassId) (h0 : Heap) (n0 : Nat) (vs : Vm) (v : Option Value) (h : Heap) (L : List Loc) (ve : Vm) : Prop := Fr n0 L ∧ ((∃ (x0 : Addr), ∃ (z0 : ClassId), v = none ∧ (Keep h0 h [q0]) ∧ (h0.size ≤ x0) ∧ (Arv Z h x0 z0 .byte 2 [.int (ownB i0), .int (ownB i1)] (.int (0 : Int32))) ∧ (Safe Z EL0 ve h x0) ∧ (Fld Z h q0 "java/lang/String" "coder" "B" (.int (0 : Int32))) ∧ (Fld Z h q0 "java/lang/String" "value" "[B" (.ref x0))))
def R_rm25 : Room := { frames := 3, cells := 1, slots := 2, locals := 52 }
set_option maxRecDepth 65536 in
set_option maxHeartbeats 4000000 in
theorem rm25 (l : Launch) {Z : State} {a0 : Array Value} {iCS : Int32} {aV : Addr} {aG : Addr} {aN : Addr} {tG : Addr} {tN : Addr} {bG : Addr} {bN : Addr} {kV : ClassId} {kG : ClassId} {kN : ClassId} (G : Glob Z a0 iCS aV aG aN tG tN bG bN kV kG kN) (i0 : Int32) (i1 : Int32) (q0 : Addr) (q1 : Addr) (kp0 : ClassId) (h0 : Heap) {n0 : Nat} (Z0 : n0 ≤ h0.size) (O0 : Old Z n0 h0) (A_q1 : Arv Z h0 q1 kp0 .char 2 [.int i0, .int i1] (.int (0 : Int32))) (c_0 : ¬ (255 : Int32) < i0) (c_1 : ¬ (255 : Int32) < i1) (E_q0 : Exa Z h0 q0 "java/lang/String") (F_q0_coder : Fld Z h0 q0 "java/lang/String" "coder" "B" (.int (0 : Int32))) (F_q0_value : Fld Z h0 q0 "java/lang/String" "value" "[B" (.null)) (g_q0 : n0 ≤ q0) :
    MetH l Z EL0 (⟨"java/lang/String", "<init>", "([C)V"⟩ : MethodName) jdk_42_method_3_code 2 none [] R_rm25 #[.ref q0, .ref q1] h0 [q0] (Q_rm25 Z iCS aV aG aN tG tN bG bN kV kG kN i0 i1 q0 q1 kp0 h0 n0) := by
  refine MetH.of (n0 := n0) #[.val (.ref q0), .val (.ref q1)] pn_java_lang_String rfl Z0 (fun p e s m below meth c T0 hret hml hnm hSL hs0 X0 => ?_)
  have S_q0 := hSL q0 (List.mem_of_getElem? (i := 0) rfl)
  refine kALn X0 d1_0 rfl rfl ?_
  refine kALn X0 d1_1 rfl rfl ?_
  refine kIC X0 (0 : Int32) d1_2 (by decide) ?_
  refine kALn X0 d1_3 rfl rfl ?_
  refine kLEN X0 A_q1 d1_4 ?_
  refine kNULL X0 d1_5 ?_
  refine kSPEC X0 (gEL G) (argsL := [.ref q1, .int (0 : Int32), .int (2 : Int32), .null]) (rest := []) (wd G 12 rfl) (wd G 13 rfl) (wd G 7 rfl) (wd G 15 rfl) rfl (by decide) (rm26 l G i0 i1 q0 q1 kp0 h0 X0.n O0 A_q1 c_0 c_1 E_q0 F_q0_coder F_q0_value g_q0) (allS ⟨(E_q0.lt), S_q0⟩ all0) (fun _ _ _ _ _ q => q.1) (lenOf pd___CIILjava_lang_Void__V rfl) rfl (by decide) 0 (Nat.le_of_eq rfl) (by decide) (by decide) (by decide) (by rw [hml]; rfl) d1_6 (fun v1 L2 T3 h4 vm5 K6 w7 q8 C9 C10 X11 => ?_)
  obtain ⟨n12, ⟨a13, k14, e15, f16, f17, f18, f19, f20, f21⟩⟩ := q8
  subst e15
  have n22 : q0 ≠ a13 := Nat.ne_of_lt (Nat.lt_of_lt_of_le (E_q0.lt) f17)
  have n23 : q1 ≠ a13 := Nat.ne_of_lt (Nat.lt_of_lt_of_le (A_q1.lt) f17)
  have g24 : n0 ≤ a13 := Nat.le_trans X0.n f17
  have g25 : h0.size ≤ a13 := Nat.le_trans X0.g0 f17
  show Go _ _ _ _ T3 (mkF m 9 #[.val (.ref q0), .val (.ref q1)] [])
  have K26 : Keep h0 h4 [q0] := (Keep.trans (Keep.refl h0 [q0]) f16 (allS (Or.inl (List.mem_of_getElem? (i := 0) rfl)) all0))
  exact kRETV X11 (gEL G) hret d1_9 (fun ve hve => ⟨X11.N, ⟨a13, k14, rfl, K26, g25, f18, (CHr.safe hve (f18.lt) f19), f20, f21⟩⟩) (by decide) (by decide)
def Q_rm32 (Z : State) (iCS : Int32) (aV : Addr) (aG : Addr) (aN : Addr) (tG : Addr) (tN : Addr) (bG : Addr) (bN : Addr) (kV : ClassId) (kG : ClassId) (kN : ClassId) (i0 : Int32) (i1 : Int32) (q0 : Addr) (kp0 : ClassId) (h0 : Heap) (n0 : Nat) (vs : Vm) (v : Option Value) (h : Heap) (L : List Loc) (ve : Vm) : Prop := Fr n0 L ∧ ((v = some (.int (0 : Int32)) ∧ (h0 = h)))
def R_rm32 : Room := { frames := 0, cells := 0, slots := 0, locals := 0 }
set_option maxRecDepth 65536 in
set_option maxHeartbeats 4000000 in
theorem rm32 (l : Launch) {Z : State} {a0 : Array Value} {iCS : Int32} {aV : Addr} {aG : Addr} {aN : Addr} {tG : Addr} {tN : Addr} {bG : Addr} {bN : Addr} {kV : ClassId} {kG : ClassId} {kN : ClassId} (G : Glob Z a0 iCS aV aG aN tG tN bG bN kV kG kN) (i0 : Int32) (i1 : Int32) (q0 : Addr) (kp0 : ClassId) (h0 : Heap) {n0 : Nat} (Z0 : n0 ≤ h0.size) (O0 : Old Z n0 h0) (A_q0 : Arv Z h0 q0 kp0 .byte 2 [.int i0, .int i1] (.int (0 : Int32))) :
    MetH l Z EL0 (⟨"java/lang/StringLatin1", "equals", "([B[B)Z"⟩ : MethodName) jdk_43_method_13_code 3 (some .boolean) [] R_rm32 #[.ref bG, .ref q0] h0 [] (Q_rm32 Z iCS aV aG aN tG tN bG bN kV kG kN i0 i1 q0 kp0 h0 n0) := by
  refine MetH.of (n0 := n0) #[.val (.ref bG), .val (.ref q0), .unset] pn_java_lang_StringLatin1 rfl Z0 (fun p e s m below meth c T0 hret hml hnm hSL hs0 X0 => ?_)
  refine kALn X0 d7_0 rfl rfl ?_
  refine kLEN X0 (Arv.ext (AB_G G) O0.2) d7_1 ?_
  refine kALn X0 d7_2 rfl rfl ?_
  refine kLEN X0 A_q0 d7_3 ?_
  refine kICt X0 34 d7_4 (XT.ii_ne_t (by decide)) (by decide) ?_
  refine kIC X0 (0 : Int32) d7_34 (by decide) ?_
  exact kRETZ X0 (gEL G) (t := .boolean) hret (by simp) d7_35 (fun ve hve => ⟨X0.N, ⟨rfl, rfl⟩⟩) (by decide) (by decide)
def Q_rm31 (Z : State) (iCS : Int32) (aV : Addr) (aG : Addr) (aN : Addr) (tG : Addr) (tN : Addr) (bG : Addr) (bN : Addr) (kV : ClassId) (kG : ClassId) (kN : ClassId) (i0 : Int32) (i1 : Int32) (q0 : Addr) (q1 : Addr) (kp0 : ClassId) (h0 : Heap) (n0 : Nat) (vs : Vm) (v : Option Value) (h : Heap) (L : List Loc) (ve : Vm) : Prop := Fr n0 L ∧ ((v = some (.int (0 : Int32)) ∧ (h0 = h)))
def R_rm31 : Room := { frames := 1, cells := 0, slots := 0, locals := 14 }
set_option maxRecDepth 65536 in
set_option maxHeartbeats 4000000 in
theorem rm31 (l : Launch) {Z : State} {a0 : Array Value} {iCS : Int32} {aV : Addr} {aG : Addr} {aN : Addr} {tG : Addr} {tN : Addr} {bG : Addr} {bN : Addr} {kV : ClassId} {kG : ClassId} {kN : ClassId} (G : Glob Z a0 iCS aV aG aN tG tN bG bN kV kG kN) (i0 : Int32) (i1 : Int32) (q0 : Addr) (q1 : Addr) (kp0 : ClassId) (h0 : Heap) {n0 : Nat} (Z0 : n0 ≤ h0.size) (O0 : Old Z n0 h0) (E_q0 : Exa Z h0 q0 "java/lang/String") (F_q0_coder : Fld Z h0 q0 "java/lang/String" "coder" "B" (.int (0 : Int32))) (F_q0_value : Fld Z h0 q0 "java/lang/String" "value" "[B" (.ref q1)) (A_q1 : Arv Z h0 q1 kp0 .byte 2 [.int i0, .int i1] (.int (0 : Int32))) (g_q0 : n0 ≤ q0) :
    MetH l Z EL0 (⟨"java/lang/String", "equals", "(Ljava/lang/Object;)Z"⟩ : MethodName) jdk_42_method_66_code 3 (some .boolean) [] R_rm31 #[.ref tG, .ref q0] h0 [] (Q_rm31 Z iCS aV aG aN tG tN bG bN kV kG kN i0 i1 q0 q1 kp0 h0 n0) := by
  refine MetH.of (n0 := n0) #[.val (.ref tG), .val (.ref q0), .unset] pn_java_lang_String rfl Z0 (fun p e s m below meth c T0 hret hml hnm hSL hs0 X0 => ?_)
  refine kALn X0 d6_0 rfl rfl ?_
  refine kALn X0 d6_1 rfl rfl ?_
  refine kACt X0 7 d6_2 rfl rfl (XT.aa_ne_t (own_rne (Old.ne O0 ((ES_G G).lt) g_q0))) (by decide) ?_
  refine kALn X0 d6_7 rfl rfl ?_
  refine kINSY X0 (wd G 55 rfl) (Ins.of_exa E_q0 (wd G 14 rfl)) d6_8 (fun T1 X2 => ?_)
  refine kIFf X2 d6_11 (XT.i0_eq_f (by decide)) ?_
  refine kALn X2 d6_14 rfl rfl ?_
  refine kCAST X2 (wd G 55 rfl) (Ins.of_exa E_q0 (wd G 14 rfl)) d6_15 (fun T3 X4 => ?_)
  refine kASn X4 #[.val (.ref tG), .val (.ref q0), .val (.ref q0)] d6_18 rfl rfl ?_
  refine kGETS X4 (wd G 56 rfl) Via.refl (Sta.ext O0.2 (S_CS G)) d6_19 (fun T5 X6 => ?_)
  refine kIFf X6 d6_22 (XT.i0_eq_f (n_CS G)) ?_
  refine kALn X6 d6_25 rfl rfl ?_
  refine kGETF X6 (wd G 26 rfl) Via.refl (Fld.ext O0.2 (FC_G G)) d6_26 (fun T7 X8 => ?_)
  refine kALn X8 d6_29 rfl rfl ?_
  refine kGETF X8 (wd G 26 rfl) Via.refl F_q0_coder d6_30 (fun T9 X10 => ?_)
  refine kICf X10 d6_33 (XT.ii_ne_f (by decide)) ?_
  refine kALn X10 d6_36 rfl rfl ?_
  refine kGETF X10 (wd G 25 rfl) Via.refl (Fld.ext O0.2 (FV_G G)) d6_37 (fun T11 X12 => ?_)
  refine kALn X12 d6_40 rfl rfl ?_
  refine kGETF X12 (wd G 25 rfl) Via.refl F_q0_value d6_41 (fun T13 X14 => ?_)
  refine kSTAT X14 (gEL G) (argsL := [.ref bG, .ref q1]) (rest := []) (wd G 57 rfl) (wd G 58 rfl) (wd G 59 rfl) (wd G 60 rfl) (by decide) (rm32 l G i0 i1 q1 kp0 h0 X14.n O0 A_q1) all0 (fun _ _ _ _ _ q => q.1) (lenOf pd___B_B_Z rfl) rfl (by decide) 0 (Nat.le_of_eq rfl) (by decide) (by decide) (by decide) (by rw [hml]; rfl) d6_44 (fun v15 L16 T17 h18 vm19 K20 w21 q22 C23 C24 X25 => ?_)
  obtain ⟨n26, ⟨e27, f28⟩⟩ := q22
  subst e27
  subst f28
  show Go _ _ _ _ T17 (mkF m 47 #[.val (.ref tG), .val (.ref q0), .val (.ref q0)] [.int (0 : Int32)])
  refine kIFt X25 54 d6_47 (XT.i0_eq_t (by decide)) (by decide) ?_
  refine kIC X25 (0 : Int32) d6_54 (by decide) ?_
  exact kRETZ X25 (gEL G) (t := .boolean) hret (by simp) d6_55 (fun ve hve => ⟨X25.N, ⟨rfl, rfl⟩⟩) (by decide) (by decide)
def Q_rm34 (Z : State) (iCS : Int32) (aV : Addr) (aG : Addr) (aN : Addr) (tG : Addr) (tN : Addr) (bG : Addr) (bN : Addr) (kV : ClassId) (kG : ClassId) (kN : ClassId) (i0 : Int32) (i1 : Int32) (q0 : Addr) (kp0 : ClassId) (h0 : Heap) (n0 : Nat) (vs : Vm) (v : Option Value) (h : Heap) (L : List Loc) (ve : Vm) : Prop := Fr n0 L ∧ ((v = some (.int (0 : Int32)) ∧ (h0 = h)))
def R_rm34 : Room := { frames := 0, cells := 0, slots := 0, locals := 0 }
set_option maxRecDepth 65536 in
set_option maxHeartbeats 4000000 in
theorem rm34 (l : Launch) {Z : State} {a0 : Array Value} {iCS : Int32} {aV : Addr} {aG : Addr} {aN : Addr} {tG : Addr} {tN : Addr} {bG : Addr} {bN : Addr} {kV : ClassId} {kG : ClassId} {kN : ClassId} (G : Glob Z a0 iCS aV aG aN tG tN bG bN kV kG kN) (i0 : Int32) (i1 : Int32) (q0 : Addr) (kp0 : ClassId) (h0 : Heap) {n0 : Nat} (Z0 : n0 ≤ h0.size) (O0 : Old Z n0 h0) (A_q0 : Arv Z h0 q0 kp0 .byte 2 [.int i0, .int i1] (.int (0 : Int32))) :
    MetH l Z EL0 (⟨"java/lang/StringLatin1", "equals", "([B[B)Z"⟩ : MethodName) jdk_43_method_13_code 3 (some .boolean) [] R_rm34 #[.ref bN, .ref q0] h0 [] (Q_rm34 Z iCS aV aG aN tG tN bG bN kV kG kN i0 i1 q0 kp0 h0 n0) := by
  refine MetH.of (n0 := n0) #[.val (.ref bN), .val (.ref q0), .unset] pn_java_lang_StringLatin1 rfl Z0 (fun p e s m below meth c T0 hret hml hnm hSL hs0 X0 => ?_)
  refine kALn X0 d7_0 rfl rfl ?_
  refine kLEN X0 (Arv.ext (AB_N G) O0.2) d7_1 ?_
  refine kALn X0 d7_2 rfl rfl ?_
  refine kLEN X0 A_q0 d7_3 ?_
  refine kICt X0 34 d7_4 (XT.ii_ne_t (by decide)) (by decide) ?_
  refine kIC X0 (0 : Int32) d7_34 (by decide) ?_
  exact kRETZ X0 (gEL G) (t := .boolean) hret (by simp) d7_35 (fun ve hve => ⟨X0.N, ⟨rfl, rfl⟩⟩) (by decide) (by decide)
def Q_rm33 (Z : State) (iCS : Int32) (aV : Addr) (aG : Addr) (aN : Addr) (tG : Addr) (tN : Addr) (bG : Addr) (bN : Addr) (kV : ClassId) (kG : ClassId) (kN : ClassId) (i0 : Int32) (i1 : Int32) (q0 : Addr) (q1 : Addr) (kp0 : ClassId) (h0 : Heap) (n0 : Nat) (vs : Vm) (v : Option Value) (h : Heap) (L : List Loc) (ve : Vm) : Prop := Fr n0 L ∧ ((v = some (.int (0 : Int32)) ∧ (h0 = h)))
def R_rm33 : Room := { frames := 1, cells := 0, slots := 0, locals := 14 }
set_option maxRecDepth 65536 in
set_option maxHeartbeats 4000000 in
theorem rm33 (l : Launch) {Z : State} {a0 : Array Value} {iCS : Int32} {aV : Addr} {aG : Addr} {aN : Addr} {tG : Addr} {tN : Addr} {bG : Addr} {bN : Addr} {kV : ClassId} {kG : ClassId} {kN : ClassId} (G : Glob Z a0 iCS aV aG aN tG tN bG bN kV kG kN) (i0 : Int32) (i1 : Int32) (q0 : Addr) (q1 : Addr) (kp0 : ClassId) (h0 : Heap) {n0 : Nat} (Z0 : n0 ≤ h0.size) (O0 : Old Z n0 h0) (E_q0 : Exa Z h0 q0 "java/lang/String") (F_q0_coder : Fld Z h0 q0 "java/lang/String" "coder" "B" (.int (0 : Int32))) (F_q0_value : Fld Z h0 q0 "java/lang/String" "value" "[B" (.ref q1)) (A_q1 : Arv Z h0 q1 kp0 .byte 2 [.int i0, .int i1] (.int (0 : Int32))) (g_q0 : n0 ≤ q0) :
    MetH l Z EL0 (⟨"java/lang/String", "equals", "(Ljava/lang/Object;)Z"⟩ : MethodName) jdk_42_method_66_code 3 (some .boolean) [] R_rm33 #[.ref tN, .ref q0] h0 [] (Q_rm33 Z iCS aV aG aN tG tN bG bN kV kG kN i0 i1 q0 q1 kp0 h0 n0) := by
  refine MetH.of (n0 := n0) #[.val (.ref tN), .val (.ref q0), .unset] pn_java_lang_String rfl Z0 (fun p e s m below meth c T0 hret hml hnm hSL hs0 X0 => ?_)
  refine kALn X0 d6_0 rfl rfl ?_
  refine kALn X0 d6_1 rfl rfl ?_
  refine kACt X0 7 d6_2 rfl rfl (XT.aa_ne_t (own_rne (Old.ne O0 ((ES_N G).lt) g_q0))) (by decide) ?_
  refine kALn X0 d6_7 rfl rfl ?_
  refine kINSY X0 (wd G 55 rfl) (Ins.of_exa E_q0 (wd G 14 rfl)) d6_8 (fun T1 X2 => ?_)
  refine kIFf X2 d6_11 (XT.i0_eq_f (by decide)) ?_
  refine kALn X2 d6_14 rfl rfl ?_
  refine kCAST X2 (wd G 55 rfl) (Ins.of_exa E_q0 (wd G 14 rfl)) d6_15 (fun T3 X4 => ?_)
  refine kASn X4 #[.val (.ref tN), .val (.ref q0), .val (.ref q0)] d6_18 rfl rfl ?_
  refine kGETS X4 (wd G 56 rfl) Via.refl (Sta.ext O0.2 (S_CS G)) d6_19 (fun T5 X6 => ?_)
  refine kIFf X6 d6_22 (XT.i0_eq_f (n_CS G)) ?_
  refine kALn X6 d6_25 rfl rfl ?_
  refine kGETF X6 (wd G 26 rfl) Via.refl (Fld.ext O0.2 (FC_N G)) d6_26 (fun T7 X8 => ?_)
  refine kALn X8 d6_29 rfl rfl ?_
  refine kGETF X8 (wd G 26 rfl) Via.refl F_q0_coder d6_30 (fun T9 X10 => ?_)
  refine kICf X10 d6_33 (XT.ii_ne_f (by decide)) ?_
  refine kALn X10 d6_36 rfl rfl ?_
  refine kGETF X10 (wd G 25 rfl) Via.refl (Fld.ext O0.2 (FV_N G)) d6_37 (fun T11 X12 => ?_)
  refine kALn X12 d6_40 rfl rfl ?_
  refine kGETF X12 (wd G 25 rfl) Via.refl F_q0_value d6_41 (fun T13 X14 => ?_)
  refine kSTAT X14 (gEL G) (argsL := [.ref bN, .ref q1]) (rest := []) (wd G 57 rfl) (wd G 58 rfl) (wd G 59 rfl) (wd G 60 rfl) (by decide) (rm34 l G i0 i1 q1 kp0 h0 X14.n O0 A_q1) all0 (fun _ _ _ _ _ q => q.1) (lenOf pd___B_B_Z rfl) rfl (by decide) 0 (Nat.le_of_eq rfl) (by decide) (by decide) (by decide) (by rw [hml]; rfl) d6_44 (fun v15 L16 T17 h18 vm19 K20 w21 q22 C23 C24 X25 => ?_)
  obtain ⟨n26, ⟨e27, f28⟩⟩ := q22
  subst e27
  subst f28
  show Go _ _ _ _ T17 (mkF m 47 #[.val (.ref tN), .val (.ref q0), .val (.ref q0)] [.int (0 : Int32)])
  refine kIFt X25 54 d6_47 (XT.i0_eq_t (by decide)) (by decide) ?_
  refine kIC X25 (0 : Int32) d6_54 (by decide) ?_
  exact kRETZ X25 (gEL G) (t := .boolean) hret (by simp) d6_55 (fun ve hve => ⟨X25.N, ⟨rfl, rfl⟩⟩) (by decide) (by decide)
def Q_rm30 (Z : State) (iCS : Int32) (aV : Addr) (aG : Addr) (aN : Addr) (tG : Addr) (tN : Addr) (bG : Addr) (bN : Addr) (kV : ClassId) (kG : ClassId) (kN : ClassId) (i0 : Int32) (i1 : Int32) (q0 : Addr) (q1 : Addr) (kp0 : ClassId) (h0 : Heap) (n0 : Nat) (vs : Vm) (v : Option Value) (h : Heap) (L : List Loc) (ve : Vm) : Prop := Fr n0 L ∧ ((v = some (.null) ∧ (Keep h0 h [])))
def R_rm30 : Room := { frames := 2, cells := 1, slots := 2, locals := 28 }
set_option maxRecDepth 65536 in
set_option maxHeartbeats 4000000 in
theorem rm30 (l : Launch) {Z : State} {a0 : Array Value} {iCS : Int32} {aV : Addr} {aG : Addr} {aN : Addr} {tG : Addr} {tN : Addr} {bG : Addr} {bN : Addr} {kV : ClassId} {kG : ClassId} {kN : ClassId} (G : Glob Z a0 iCS aV aG aN tG tN bG bN kV kG kN) (i0 : Int32) (i1 : Int32) (q0 : Addr) (q1 : Addr) (kp0 : ClassId) (h0 : Heap) {n0 : Nat} (Z0 : n0 ≤ h0.size) (O0 : Old Z n0 h0) (E_q0 : Exa Z h0 q0 "java/lang/String") (A_q1 : Arv Z h0 q1 kp0 .byte 2 [.int i0, .int i1] (.int (0 : Int32))) (F_q0_coder : Fld Z h0 q0 "java/lang/String" "coder" "B" (.int (0 : Int32))) (F_q0_value : Fld Z h0 q0 "java/lang/String" "value" "[B" (.ref q1)) (g_q0 : n0 ≤ q0) :
    MetH l Z EL0 (⟨"com/example/tight_calculus/tightcalculus/Model$Kind", "named", "(Ljava/lang/String;)Lcom/example/tight_calculus/tightcalculus/Model$Kind;"⟩ : MethodName) prog_20_method_6_code 6 (some (.object "com/example/tight_calculus/tightcalculus/Model$Kind")) [] R_rm30 #[.ref q0] h0 [] (Q_rm30 Z iCS aV aG aN tG tN bG bN kV kG kN i0 i1 q0 q1 kp0 h0 n0) := by
  refine MetH.of (n0 := n0) #[.val (.ref q0), .unset, .unset, .unset, .unset, .unset] pn_com_example_tight_calculus_tightcalculus_Model_Kind rfl Z0 (fun p e s m below meth c T0 hret hml hnm hSL hs0 X0 => ?_)
  refine kNULL X0 d4_0 ?_
  refine kASn X0 #[.val (.ref q0), .val .null, .unset, .unset, .unset, .unset] d4_1 rfl rfl ?_
  refine kSTAT X0 (gEL G) (argsL := []) (rest := []) (wd G 31 rfl) (wd G 32 rfl) (wd G 29 rfl) (wd G 33 rfl) (by decide) (rm7 l G  h0 X0.n O0 ) all0 (fun _ _ _ _ _ q => q.1) (lenOf pd____Lcom_example_tight_calculus_tightcalculus_Model_Kind_ rfl) rfl (by decide) 0 (Nat.le_of_eq rfl) (by decide) (by decide) (by decide) (by rw [hml]; rfl) d4_2 (fun v1 L2 T3 h4 vm5 K6 w7 q8 C9 C10 X11 => ?_)
  obtain ⟨n12, ⟨a13, e14, f15, f16, f17, f18⟩⟩ := q8
  subst e14
  have n19 : q0 ≠ a13 := Nat.ne_of_lt (Nat.lt_of_lt_of_le (E_q0.lt) f16)
  have n20 : q1 ≠ a13 := Nat.ne_of_lt (Nat.lt_of_lt_of_le (A_q1.lt) f16)
  have g21 : n0 ≤ a13 := Nat.le_trans X0.n f16
  have g22 : h0.size ≤ a13 := Nat.le_trans X0.g0 f16
  show Go _ _ _ _ T3 (mkF m 5 #[.val (.ref q0), .val .null, .unset, .unset, .unset, .unset] [.ref a13])
  refine kASn X11 #[.val (.ref q0), .val .null, .val (.ref a13), .unset, .unset, .unset] d4_5 rfl rfl ?_
  refine kALn X11 d4_6 rfl rfl ?_
  refine kLEN X11 f18 d4_7 ?_
  refine kISn X11 #[.val (.ref q0), .val .null, .val (.ref a13), .val (.int (2 : Int32)), .unset, .unset] d4_8 rfl ?_
  refine kIC X11 (0 : Int32) d4_9 (by decide) ?_
  refine kIS X11 #[.val (.ref q0), .val .null, .val (.ref a13), .val (.int (2 : Int32)), .val (.int (0 : Int32)), .unset] d4_10 rfl ?_
  refine kIL X11 d4_12 rfl ?_
  refine kILn X11 d4_14 rfl ?_
  refine kICf X11 d4_15 (XT.ii_ge_f (by decide)) ?_
  refine kALn X11 d4_18 rfl rfl ?_
  refine kIL X11 d4_19 rfl ?_
  refine kAALD X11 (.ref aG) f18 rfl (by decide) rfl d4_21 ?_
  refine kAS X11 #[.val (.ref q0), .val .null, .val (.ref a13), .val (.int (2 : Int32)), .val (.int (0 : Int32)), .val (.ref aG)] d4_22 rfl rfl ?_
  refine kAL X11 d4_24 rfl rfl ?_
  have f23 := (Old.keep O0 f15 all0)
  refine kGETF X11 (wd G 48 rfl) Via.refl (Fld.ext f23.2 (F_G G)) d4_26 (fun T24 X25 => ?_)
  refine kALn X25 d4_29 rfl rfl ?_
  have f26 := (Exa.keep E_q0 f15)
  have f27 := (Fld.keep F_q0_coder f15 nin0)
  have f28 := (Fld.keep F_q0_value f15 nin0)
  have f29 := (Arv.keep A_q1 f15 nin0)
  refine kVIRT X25 (gEL G) (argsL := [.ref q0]) (rest := []) (wd G 50 rfl) (wd G 51 rfl) (notFace_of_selects (args := #[]) (mvT (s := s.setVm _) X25.hZ (wd G 53 rfl))) (wd G 53 rfl) (wd G 52 rfl) (wd G 7 rfl) (wd G 54 rfl) (by decide) (Exa.ext f23.2 (ES_G G)) (rm31 l G i0 i1 q0 q1 kp0 h4 X25.n f23 f26 f27 f28 f29 g_q0) all0 (fun _ _ _ _ _ q => q.1) (lenOf pd__Ljava_lang_Object__Z rfl) rfl (by decide) 0 (Nat.le_of_eq rfl) (by decide) (by decide) (by decide) (by rw [hml]; rfl) d4_30 (fun v30 L31 T32 h33 vm34 K35 w36 q37 C38 C39 X40 => ?_)
  obtain ⟨n41, ⟨e42, f43⟩⟩ := q37
  subst e42
  subst f43
  show Go _ _ _ _ T32 (mkF m 33 #[.val (.ref q0), .val .null, .val (.ref a13), .val (.int (2 : Int32)), .val (.int (0 : Int32)), .val (.ref aG)] [.int (0 : Int32)])
  refine kIFt X40 39 d4_33 (XT.i0_eq_t (by decide)) (by decide) ?_
  refine kIINC X40 (1 : Int32) (1 : Int32) #[.val (.ref q0), .val .null, .val (.ref a13), .val (.int (2 : Int32)), .val (.int (1 : Int32)), .val (.ref aG)] d4_39 (by decide) rfl (by decide) rfl ?_
  refine kGOTO X40 12 d4_42 (by decide) ?_
  refine kIL X40 d4_12 rfl ?_
  refine kILn X40 d4_14 rfl ?_
  refine kICf X40 d4_15 (XT.ii_ge_f (by decide)) ?_
  refine kALn X40 d4_18 rfl rfl ?_
  refine kIL X40 d4_19 rfl ?_
  have f44 := f18
  refine kAALD X40 (.ref aN) f44 rfl (by decide) rfl d4_21 ?_
  refine kAS X40 #[.val (.ref q0), .val .null, .val (.ref a13), .val (.int (2 : Int32)), .val (.int (1 : Int32)), .val (.ref aN)] d4_22 rfl rfl ?_
  refine kAL X40 d4_24 rfl rfl ?_
  have f45 := f23
  refine kGETF X40 (wd G 48 rfl) Via.refl (Fld.ext f45.2 (F_N G)) d4_26 (fun T46 X47 => ?_)
  refine kALn X47 d4_29 rfl rfl ?_
  have f48 := f26
  have f49 := f27
  have f50 := f28
  have f51 := f29
  refine kVIRT X47 (gEL G) (argsL := [.ref q0]) (rest := []) (wd G 50 rfl) (wd G 51 rfl) (notFace_of_selects (args := #[]) (mvT (s := s.setVm _) X47.hZ (wd G 53 rfl))) (wd G 53 rfl) (wd G 52 rfl) (wd G 7 rfl) (wd G 54 rfl) (by decide) (Exa.ext f45.2 (ES_N G)) (rm33 l G i0 i1 q0 q1 kp0 h4 X47.n f45 f48 f49 f50 f51 g_q0) all0 (fun _ _ _ _ _ q => q.1) (lenOf pd__Ljava_lang_Object__Z rfl) rfl (by decide) 0 (Nat.le_of_eq rfl) (by decide) (by decide) (by decide) (by rw [hml]; rfl) d4_30 (fun v52 L53 T54 h55 vm56 K57 w58 q59 C60 C61 X62 => ?_)
  obtain ⟨n63, ⟨e64, f65⟩⟩ := q59
  subst e64
  subst f65
  show Go _ _ _ _ T54 (mkF m 33 #[.val (.ref q0), .val .null, .val (.ref a13), .val (.int (2 : Int32)), .val (.int (1 : Int32)), .val (.ref aN)] [.int (0 : Int32)])
  refine kIFt X62 39 d4_33 (XT.i0_eq_t (by decide)) (by decide) ?_
  refine kIINC X62 (1 : Int32) (2 : Int32) #[.val (.ref q0), .val .null, .val (.ref a13), .val (.int (2 : Int32)), .val (.int (2 : Int32)), .val (.ref aN)] d4_39 (by decide) rfl (by decide) rfl ?_
  refine kGOTO X62 12 d4_42 (by decide) ?_
  refine kIL X62 d4_12 rfl ?_
  refine kILn X62 d4_14 rfl ?_
  refine kICt X62 45 d4_15 (XT.ii_ge_t (by decide)) (by decide) ?_
  refine kALn X62 d4_45 rfl rfl ?_
  have K66 : Keep h0 h4 [] := (Keep.trans (Keep.refl h0 []) f15 all0)
  exact kRETA X62 (gEL G) hret rfl rfl d4_46 (fun ve hve => ⟨X62.N, ⟨rfl, K66⟩⟩) (by decide) (by decide)
def Q_rm38 (Z : State) (iCS : Int32) (aV : Addr) (aG : Addr) (aN : Addr) (tG : Addr) (tN : Addr) (bG : Addr) (bN : Addr) (kV : ClassId) (kG : ClassId) (kN : ClassId) (i0 : Int32) (i1 : Int32) (i2 : Int32) (q0 : Addr) (q1 : Addr) (kp0 : ClassId) (kp1 : ClassId) (h0 : Heap) (n0 : Nat) (vs : Vm) (v : Option Value) (h : Heap) (L : List Loc) (ve : Vm) : Prop := Fr n0 L ∧ ((v = some (.int (3 : Int32)) ∧ (Keep h0 h [q1]) ∧ (Arv Z h q1 kp1 .byte 3 [.int (ownB i0), .int (ownB i1), .int (ownB i2)] (.int (0 : Int32)))))
def R_rm38 : Room := { frames := 0, cells := 0, slots := 0, locals := 0 }
set_option maxRecDepth 65536 in
set_option maxHeartbeats 4000000 in
theorem rm38 (l : Launch) {Z : State} {a0 : Array Value} {iCS : Int32} {aV : Addr} {aG : Addr} {aN : Addr} {tG : Addr} {tN : Addr} {bG : Addr} {bN : Addr} {kV : ClassId} {kG : ClassId} {kN : ClassId} (G : Glob Z a0 iCS aV aG aN tG tN bG bN kV kG kN) (i0 : Int32) (i1 : Int32) (i2 : Int32) (q0 : Addr) (q1 : Addr) (kp0 : ClassId) (kp1 : ClassId) (h0 : Heap) {n0 : Nat} (Z0 : n0 ≤ h0.size) (O0 : Old Z n0 h0) (A_q0 : Arv Z h0 q0 kp0 .char 3 [.int i0, .int i1, .int i2] (.int (0 : Int32))) (c_0 : ¬ (255 : Int32) < i0) (A_q1 : Arv Z h0 q1 kp1 .byte 3 [.int (0 : Int32), .int (0 : Int32), .int (0 : Int32)] (.int (0 : Int32))) (d_q0_q1 : q0 ≠ q1) (c_1 : ¬ (255 : Int32) < i1) (c_2 : ¬ (255 : Int32) < i2) (g_q1 : n0 ≤ q1) :
    MetH l Z EL0 (⟨"java/lang/StringUTF16", "compress", "([CI[BII)I"⟩ : MethodName) jdk_52_method_21_code 7 (some .int) [] R_rm38 #[.ref q0, .int (0 : Int32), .ref q1, .int (0 : Int32), .int (3 : Int32)] h0 [q1] (Q_rm38 Z iCS aV aG aN tG tN bG bN kV kG kN i0 i1 i2 q0 q1 kp0 kp1 h0 n0) := by
  refine MetH.of (n0 := n0) #[.val (.ref q0), .val (.int (0 : Int32)), .val (.ref q1), .val (.int (0 : Int32)), .val (.int (3 : Int32)), .unset, .unset] pn_java_lang_StringUTF16 rfl Z0 (fun p e s m below meth c T0 hret hml hnm hSL hs0 X0 => ?_)
  have S_q1 := hSL q1 (List.mem_of_getElem? (i := 0) rfl)
  refine kIC X0 (0 : Int32) d9_0 (by decide) ?_
  refine kIS X0 #[.val (.ref q0), .val (.int (0 : Int32)), .val (.ref q1), .val (.int (0 : Int32)), .val (.int (3 : Int32)), .val (.int (0 : Int32)), .unset] d9_1 rfl ?_
  refine kIL X0 d9_3 rfl ?_
  refine kIL X0 d9_5 rfl ?_
  refine kICf X0 d9_7 (XT.ii_ge_f (by decide)) ?_
  refine kALn X0 d9_10 rfl rfl ?_
  refine kILn X0 d9_11 rfl ?_
  refine kCALD X0 (.int i0) A_q0 (by decide) rfl d9_12 ?_
  refine kIS X0 #[.val (.ref q0), .val (.int (0 : Int32)), .val (.ref q1), .val (.int (0 : Int32)), .val (.int (3 : Int32)), .val (.int (0 : Int32)), .val (.int i0)] d9_13 rfl ?_
  refine kIL X0 d9_15 rfl ?_
  refine kSI X0 (255 : Int32) d9_17 (by decide) ?_
  refine kICt X0 26 d9_20 (XT.ii_le_t c_0) (by decide) ?_
  refine kALn X0 d9_26 rfl rfl ?_
  refine kILn X0 d9_27 rfl ?_
  refine kIL X0 d9_28 rfl ?_
  refine kI2B X0 (ownB i0) d9_30 rfl ?_
  refine kBASTO X0 A_q1 (by decide) 0 (ownB i0) (own_nb _) (by decide) (by show 0 < 3; decide) g_q1 S_q1 d9_31 (fun T1 h2 L4 W5 f6 X3 => ?_)
  have f7 : Arv Z h2 q1 kp1 .byte 3 [.int (ownB i0), .int (0 : Int32), .int (0 : Int32)] (.int (0 : Int32)) := f6
  refine kIINC X3 (1 : Int32) (1 : Int32) #[.val (.ref q0), .val (.int (1 : Int32)), .val (.ref q1), .val (.int (0 : Int32)), .val (.int (3 : Int32)), .val (.int (0 : Int32)), .val (.int i0)] d9_32 (by decide) rfl (by decide) rfl ?_
  refine kIINC X3 (1 : Int32) (1 : Int32) #[.val (.ref q0), .val (.int (1 : Int32)), .val (.ref q1), .val (.int (1 : Int32)), .val (.int (3 : Int32)), .val (.int (0 : Int32)), .val (.int i0)] d9_35 (by decide) rfl (by decide) rfl ?_
  refine kIINC X3 (1 : Int32) (1 : Int32) #[.val (.ref q0), .val (.int (1 : Int32)), .val (.ref q1), .val (.int (1 : Int32)), .val (.int (3 : Int32)), .val (.int (1 : Int32)), .val (.int i0)] d9_38 (by decide) rfl (by decide) rfl ?_
  refine kGOTO X3 3 d9_41 (by decide) ?_
  refine kIL X3 d9_3 rfl ?_
  refine kIL X3 d9_5 rfl ?_
  refine kICf X3 d9_7 (XT.ii_ge_f (by decide)) ?_
  refine kALn X3 d9_10 rfl rfl ?_
  refine kILn X3 d9_11 rfl ?_
  have f8 := (Arv.other A_q0 W5 d_q0_q1)
  refine kCALD X3 (.int i1) f8 (by decide) rfl d9_12 ?_
  refine kIS X3 #[.val (.ref q0), .val (.int (1 : Int32)), .val (.ref q1), .val (.int (1 : Int32)), .val (.int (3 : Int32)), .val (.int (1 : Int32)), .val (.int i1)] d9_13 rfl ?_
  refine kIL X3 d9_15 rfl ?_
  refine kSI X3 (255 : Int32) d9_17 (by decide) ?_
  refine kICt X3 26 d9_20 (XT.ii_le_t c_1) (by decide) ?_
  refine kALn X3 d9_26 rfl rfl ?_
  refine kILn X3 d9_27 rfl ?_
  refine kIL X3 d9_28 rfl ?_
  refine kI2B X3 (ownB i1) d9_30 rfl ?_
  have f9 := (Safe.wr W5 S_q1 X0.C.1 S_q1)
  refine kBASTO X3 f7 (by decide) 1 (ownB i1) (own_nb _) (by decide) (by show 1 < 3; decide) g_q1 f9 d9_31 (fun T10 h11 L13 W14 f15 X12 => ?_)
  have f16 : Arv Z h11 q1 kp1 .byte 3 [.int (ownB i0), .int (ownB i1), .int (0 : Int32)] (.int (0 : Int32)) := f15
  refine kIINC X12 (1 : Int32) (2 : Int32) #[.val (.ref q0), .val (.int (2 : Int32)), .val (.ref q1), .val (.int (1 : Int32)), .val (.int (3 : Int32)), .val (.int (1 : Int32)), .val (.int i1)] d9_32 (by decide) rfl (by decide) rfl ?_
  refine kIINC X12 (1 : Int32) (2 : Int32) #[.val (.ref q0), .val (.int (2 : Int32)), .val (.ref q1), .val (.int (2 : Int32)), .val (.int (3 : Int32)), .val (.int (1 : Int32)), .val (.int i1)] d9_35 (by decide) rfl (by decide) rfl ?_
  refine kIINC X12 (1 : Int32) (2 : Int32) #[.val (.ref q0), .val (.int (2 : Int32)), .val (.ref q1), .val (.int (2 : Int32)), .val (.int (3 : Int32)), .val (.int (2 : Int32)), .val (.int i1)] d9_38 (by decide) rfl (by decide) rfl ?_
  refine kGOTO X12 3 d9_41 (by decide) ?_
  refine kIL X12 d9_3 rfl ?_
  refine kIL X12 d9_5 rfl ?_
  refine kICf X12 d9_7 (XT.ii_ge_f (by decide)) ?_
  refine kALn X12 d9_10 rfl rfl ?_
  refine kILn X12 d9_11 rfl ?_
  have f17 := (Arv.other f8 W14 d_q0_q1)
  refine kCALD X12 (.int i2) f17 (by decide) rfl d9_12 ?_
  refine kIS X12 #[.val (.ref q0), .val (.int (2 : Int32)), .val (.ref q1), .val (.int (2 : Int32)), .val (.int (3 : Int32)), .val (.int (2 : Int32)), .val (.int i2)] d9_13 rfl ?_
  refine kIL X12 d9_15 rfl ?_
  refine kSI X12 (255 : Int32) d9_17 (by decide) ?_
  refine kICt X12 26 d9_20 (XT.ii_le_t c_2) (by decide) ?_
  refine kALn X12 d9_26 rfl rfl ?_
  refine kILn X12 d9_27 rfl ?_
  refine kIL X12 d9_28 rfl ?_
  refine kI2B X12 (ownB i2) d9_30 rfl ?_
  have f18 := (Safe.wr W14 f9 X3.C.1 f9)
  refine kBASTO X12 f16 (by decide) 2 (ownB i2) (own_nb _) (by decide) (by show 2 < 3; decide) g_q1 f18 d9_31 (fun T19 h20 L22 W23 f24 X21 => ?_)
  have f25 : Arv Z h20 q1 kp1 .byte 3 [.int (ownB i0), .int (ownB i1), .int (ownB i2)] (.int (0 : Int32)) := f24
  refine kIINC X21 (1 : Int32) (3 : Int32) #[.val (.ref q0), .val (.int (3 : Int32)), .val (.ref q1), .val (.int (2 : Int32)), .val (.int (3 : Int32)), .val (.int (2 : Int32)), .val (.int i2)] d9_32 (by decide) rfl (by decide) rfl ?_
  refine kIINC X21 (1 : Int32) (3 : Int32) #[.val (.ref q0), .val (.int (3 : Int32)), .val (.ref q1), .val (.int (3 : Int32)), .val (.int (3 : Int32)), .val (.int (2 : Int32)), .val (.int i2)] d9_35 (by decide) rfl (by decide) rfl ?_
  refine kIINC X21 (1 : Int32) (3 : Int32) #[.val (.ref q0), .val (.int (3 : Int32)), .val (.ref q1), .val (.int (3 : Int32)), .val (.int (3 : Int32)), .val (.int (3 : Int32)), .val (.int i2)] d9_38 (by decide) rfl (by decide) rfl ?_
  refine kGOTO X21 3 d9_41 (by decide) ?_
  refine kIL X21 d9_3 rfl ?_
  refine kIL X21 d9_5 rfl ?_
  refine kICt X21 44 d9_7 (XT.ii_ge_t (by decide)) (by decide) ?_
  refine kIL X21 d9_44 rfl ?_
  have K26 : Keep h0 h20 [q1] := (Keep.wr (Keep.wr (Keep.wr (Keep.refl h0 [q1]) W5 (Or.inl (List.mem_of_getElem? (i := 0) rfl))) W14 (Or.inl (List.mem_of_getElem? (i := 0) rfl))) W23 (Or.inl (List.mem_of_getElem? (i := 0) rfl)))
  exact kRETI X21 (gEL G) hret d9_46 (fun ve hve => ⟨X21.N, ⟨rfl, K26, f25⟩⟩) (by decide) (by decide)
def Q_rm37 (Z : State) (iCS : Int32) (aV : Addr) (aG : Addr) (aN : Addr) (tG : Addr) (tN : Addr) (bG : Addr) (bN : Addr) (kV : ClassId) (kG : ClassId) (kN : ClassId) (i0 : Int32) (i1 : Int32) (i2 : Int32) (q0 : Addr) (kp0 : ClassId) (h0 : Heap) (n0 : Nat) (vs : Vm) (v : Option Value) (h : Heap) (L : List Loc) (ve : Vm) : Prop := Fr n0 L ∧ ((∃ (x0 : Addr), ∃ (z0 : ClassId), v = some (.ref x0) ∧ (Keep h0 h []) ∧ (h0.size ≤ x0) ∧ (Arv Z h x0 z0 .byte 3 [.int (ownB i0), .int (ownB i1), .int (ownB i2)] (.int (0 : Int32))) ∧ (Safe Z EL0 ve h x0)))
def R_rm37 : Room := { frames := 1, cells := 1, slots := 3, locals := 18 }
set_option maxRecDepth 65536 in
set_option maxHeartbeats 4000000 in
theorem rm37 (l : Launch) {Z : State} {a0 : Array Value} {iCS : Int32} {aV : Addr} {aG : Addr} {aN : Addr} {tG : Addr} {tN : Addr} {bG : Addr} {bN : Addr} {kV : ClassId} {kG : ClassId} {kN : ClassId} (G : Glob Z a0 iCS aV aG aN tG tN bG bN kV kG kN) (i0 : Int32) (i1 : Int32) (i2 : Int32) (q0 : Addr) (kp0 : ClassId) (h0 : Heap) {n0 : Nat} (Z0 : n0 ≤ h0.size) (O0 : Old Z n0 h0) (A_q0 : Arv Z h0 q0 kp0 .char 3 [.int i0, .int i1, .int i2] (.int (0 : Int32))) (c_0 : ¬ (255 : Int32) < i0) (c_1 : ¬ (255 : Int32) < i1) (c_2 : ¬ (255 : Int32) < i2) :
    MetH l Z EL0 (⟨"java/lang/StringUTF16", "compress", "([CII)[B"⟩ : MethodName) jdk_52_method_16_code 6 (some (.array (.byte))) [] R_rm37 #[.ref q0, .int (0 : Int32), .int (3 : Int32)] h0 [] (Q_rm37 Z iCS aV aG aN tG tN bG bN kV kG kN i0 i1 i2 q0 kp0 h0 n0) := by
  refine MetH.of (n0 := n0) #[.val (.ref q0), .val (.int (0 : Int32)), .val (.int (3 : Int32)), .unset, .unset, .unset] pn_java_lang_StringUTF16 rfl Z0 (fun p e s m below meth c T0 hret hml hnm hSL hs0 X0 => ?_)
  refine kILn X0 d8_0 rfl ?_
  refine kNEWP X0 (wd G 20 rfl) (cap := 3) d8_1 (by decide) (by decide) (by decide) (by decide) (by decide) (fun T1 h2 a4 k5 E6 q7 g8 A9 s10 X3 => ?_)
  have n11 : q0 ≠ a4 := Nat.ne_of_lt (Nat.lt_of_lt_of_le (A_q0.lt) (Nat.le_of_eq q7.symm))
  have g12 : h0.size ≤ a4 := q7 ▸ X0.g0
  have f13 : Arv Z h2 a4 k5 .byte 3 [.int (0 : Int32), .int (0 : Int32), .int (0 : Int32)] (.int (0 : Int32)) := A9.pad (pad_rep [] _ 3)
  refine kASn X3 #[.val (.ref q0), .val (.int (0 : Int32)), .val (.int (3 : Int32)), .val (.ref a4), .unset, .unset] d8_3 rfl rfl ?_
  refine kALn X3 d8_4 rfl rfl ?_
  refine kILn X3 d8_5 rfl ?_
  refine kALn X3 d8_6 rfl rfl ?_
  refine kIC X3 (0 : Int32) d8_7 (by decide) ?_
  refine kILn X3 d8_8 rfl ?_
  have f14 := (Arv.ext A_q0 E6)
  have f15 := (Old.ext O0 E6)
  refine kSTAT X3 (gEL G) (argsL := [.ref q0, .int (0 : Int32), .ref a4, .int (0 : Int32), .int (3 : Int32)]) (rest := []) (wd G 65 rfl) (wd G 66 rfl) (wd G 63 rfl) (wd G 67 rfl) (by decide) (rm38 l G i0 i1 i2 q0 a4 kp0 k5 h2 X3.n f15 f14 c_0 f13 n11 c_1 c_2 g8) (allS ⟨(f13.lt), s10⟩ all0) (fun _ _ _ _ _ q => q.1) (lenOf pd___CI_BII_I rfl) rfl (by decide) 0 (Nat.le_of_eq rfl) (by decide) (by decide) (by decide) (by rw [hml]; rfl) d8_9 (fun v16 L17 T18 h19 vm20 K21 w22 q23 C24 C25 X26 => ?_)
  obtain ⟨n27, ⟨e28, f29, f30⟩⟩ := q23
  subst e28
  show Go _ _ _ _ T18 (mkF m 12 #[.val (.ref q0), .val (.int (0 : Int32)), .val (.int (3 : Int32)), .val (.ref a4), .unset, .unset] [.int (3 : Int32)])
  refine kIS X26 #[.val (.ref q0), .val (.int (0 : Int32)), .val (.int (3 : Int32)), .val (.ref a4), .val (.int (3 : Int32)), .unset] d8_12 rfl ?_
  refine kIL X26 d8_14 rfl ?_
  refine kILn X26 d8_16 rfl ?_
  refine kICt X26 57 d8_17 (XT.ii_eq_t (by decide)) (by decide) ?_
  refine kALn X26 d8_57 rfl rfl ?_
  have K31 : Keep h0 h19 [] := (Keep.trans (Keep.ext (Keep.refl h0 []) E6) f29 (allS (Or.inr g12) all0))
  have f32 := (CHr.safe C25 (f13.lt) s10)
  exact kRETA X26 (gEL G) hret rfl rfl d8_58 (fun ve hve => ⟨X26.N, ⟨a4, k5, rfl, K31, g12, f30, (CHr.safe hve (f30.lt) f32)⟩⟩) (by decide) (by decide)
def Q_rm39 (Z : State) (iCS : Int32) (aV : Addr) (aG : Addr) (aN : Addr) (tG : Addr) (tN : Addr) (bG : Addr) (bN : Addr) (kV : ClassId) (kG : ClassId) (kN : ClassId) (i0 : Int32) (i1 : Int32) (i2 : Int32) (q0 : Addr) (kp0 : ClassId) (h0 : Heap) (n0 : Nat) (vs : Vm) (v : Option Value) (h : Heap) (L : List Loc) (ve : Vm) : Prop := Fr n0 L ∧ ((v = some (.int (0 : Int32)) ∧ (h0 = h)))
def R_rm39 : Room := { frames := 0, cells := 0, slots := 0, locals := 0 }
set_option maxRecDepth 65536 in
set_option maxHeartbeats 4000000 in
theorem rm39 (l : Launch) {Z : State} {a0 : Array Value} {iCS : Int32} {aV : Addr} {aG : Addr} {aN : Addr} {tG : Addr} {tN : Addr} {bG : Addr} {bN : Addr} {kV : ClassId} {kG : ClassId} {kN : ClassId} (G : Glob Z a0 iCS aV aG aN tG tN bG bN kV kG kN) (i0 : Int32) (i1 : Int32) (i2 : Int32) (q0 : Addr) (kp0 : ClassId) (h0 : Heap) {n0 : Nat} (Z0 : n0 ≤ h0.size) (O0 : Old Z n0 h0) (A_q0 : Arv Z h0 q0 kp0 .byte 3 [.int i0, .int i1, .int i2] (.int (0 : Int32))) :
    MetH l Z EL0 (⟨"java/lang/StringUTF16", "coderFromArrayLen", "([BI)B"⟩ : MethodName) jdk_52_method_15_code 2 (some .byte) [] R_rm39 #[.ref q0, .int (3 : Int32)] h0 [] (Q_rm39 Z iCS aV aG aN tG tN bG bN kV kG kN i0 i1 i2 q0 kp0 h0 n0) := by
  refine MetH.of (n0 := n0) #[.val (.ref q0), .val (.int (3 : Int32))] pn_java_lang_StringUTF16 rfl Z0 (fun p e s m below meth c T0 hret hml hnm hSL hs0 X0 => ?_)
  refine kILn X0 d10_0 rfl ?_
  refine kALn X0 d10_1 rfl rfl ?_
  refine kLEN X0 A_q0 d10_2 ?_
  refine kISUB X0 (0 : Int32) d10_3 (by decide) ?_
  refine kBI X0 (31 : Int32) d10_4 (by decide) ?_
  refine kIUSHR X0 (0 : Int32) d10_6 (by decide) ?_
  refine kI2B X0 (0 : Int32) d10_7 (by decide) ?_
  exact kRETZ X0 (gEL G) (t := .byte) hret (by simp) d10_8 (fun ve hve => ⟨X0.N, ⟨rfl, rfl⟩⟩) (by decide) (by decide)
def Q_rm36 (Z : State) (iCS : Int32) (aV : Addr) (aG : Addr) (aN : Addr) (tG : Addr) (tN : Addr) (bG : Addr) (bN : Addr) (kV : ClassId) (kG : ClassId) (kN : ClassId) (i0 : Int32) (i1 : Int32) (i2 : Int32) (q0 : Addr) (q1 : Addr) (kp0 : ClassId) (h0 : Heap) (n0 : Nat) (vs : Vm) (v : Option Value) (h : Heap) (L : List Loc) (ve : Vm) : Prop := Fr n0 L ∧ ((∃ (x0 : Addr), ∃ (z0 : ClassId), v = none ∧ (Keep h0 h [q0]) ∧ (h0.size ≤ x0) ∧ (Arv Z h x0 z0 .byte 3 [.int (ownB i0), .int (ownB i1), .int (ownB i2)] (.int (0 : Int32))) ∧ (Safe Z EL0 ve h x0) ∧ (Fld Z h q0 "java/lang/String" "coder" "B" (.int (0 : Int32))) ∧ (Fld Z h q0 "java/lang/String" "value" "[B" (.ref x0))))
def R_rm36 : Room := { frames := 2, cells := 1, slots := 3, locals := 35 }
set_option maxRecDepth 65536 in
set_option maxHeartbeats 4000000 in
theorem rm36 (l : Launch) {Z : State} {a0 : Array Value} {iCS : Int32} {aV : Addr} {aG : Addr} {aN : Addr} {tG : Addr} {tN : Addr} {bG : Addr} {bN : Addr} {kV : ClassId} {kG : ClassId} {kN : ClassId} (G : Glob Z a0 iCS aV aG aN tG tN bG bN kV kG kN) (i0 : Int32) (i1 : Int32) (i2 : Int32) (q0 : Addr) (q1 : Addr) (kp0 : ClassId) (h0 : Heap) {n0 : Nat} (Z0 : n0 ≤ h0.size) (O0 : Old Z n0 h0) (A_q1 : Arv Z h0 q1 kp0 .char 3 [.int i0, .int i1, .int i2] (.int (0 : Int32))) (c_0 : ¬ (255 : Int32) < i0) (c_1 : ¬ (255 : Int32) < i1) (c_2 : ¬ (255 : Int32) < i2) (E_q0 : Exa Z h0 q0 "java/lang/String") (F_q0_coder : Fld Z h0 q0 "java/lang/String" "coder" "B" (.int (0 : Int32))) (F_q0_value : Fld Z h0 q0 "java/lang/String" "value" "[B" (.null)) (g_q0 : n0 ≤ q0) :
    MetH l Z EL0 (⟨"java/lang/String", "<init>", "([CIILjava/lang/Void;)V"⟩ : MethodName) jdk_42_method_149_code 6 none [] R_rm36 #[.ref q0, .ref q1, .int (0 : Int32), .int (3 : Int32), .null] h0 [q0] (Q_rm36 Z iCS aV aG aN tG tN bG bN kV kG kN i0 i1 i2 q0 q1 kp0 h0 n0) := by
  refine MetH.of (n0 := n0) #[.val (.ref q0), .val (.ref q1), .val (.int (0 : Int32)), .val (.int (3 : Int32)), .val .null, .unset] pn_java_lang_String rfl Z0 (fun p e s m below meth c T0 hret hml hnm hSL hs0 X0 => ?_)
  have S_q0 := hSL q0 (List.mem_of_getElem? (i := 0) rfl)
  refine kALn X0 d2_0 rfl rfl ?_
  refine kINIT X0 (wd G 16 rfl) (wd G 17 rfl) (wd G 18 rfl) (by rw [hml]; rfl) d2_1 (by decide) 0 (Nat.le_of_eq rfl) (by decide) (fun T1 X2 => ?_)
  refine kILn X2 d2_4 rfl ?_
  refine kIFt X2 27 d2_5 (XT.i0_ne_t (by decide)) (by decide) ?_
  refine kGETS X2 (wd G 56 rfl) Via.refl (Sta.ext O0.2 (S_CS G)) d2_27 (fun T3 X4 => ?_)
  refine kIFf X4 d2_30 (XT.i0_eq_f (n_CS G)) ?_
  refine kALn X4 d2_33 rfl rfl ?_
  refine kILn X4 d2_34 rfl ?_
  refine kILn X4 d2_35 rfl ?_
  refine kSTAT X4 (gEL G) (argsL := [.ref q1, .int (0 : Int32), .int (3 : Int32)]) (rest := []) (wd G 61 rfl) (wd G 62 rfl) (wd G 63 rfl) (wd G 64 rfl) (by decide) (rm37 l G i0 i1 i2 q1 kp0 h0 X4.n O0 A_q1 c_0 c_1 c_2) all0 (fun _ _ _ _ _ q => q.1) (lenOf pd___CII__B rfl) rfl (by decide) 0 (Nat.le_of_eq rfl) (by decide) (by decide) (by decide) (by rw [hml]; rfl) d2_36 (fun v5 L6 T7 h8 vm9 K10 w11 q12 C13 C14 X15 => ?_)
  obtain ⟨n16, ⟨a17, k18, e19, f20, f21, f22, f23⟩⟩ := q12
  subst e19
  have n24 : q0 ≠ a17 := Nat.ne_of_lt (Nat.lt_of_lt_of_le (E_q0.lt) f21)
  have n25 : q1 ≠ a17 := Nat.ne_of_lt (Nat.lt_of_lt_of_le (A_q1.lt) f21)
  have g26 : n0 ≤ a17 := Nat.le_trans X4.n f21
  have g27 : h0.size ≤ a17 := Nat.le_trans X4.g0 f21
  show Go _ _ _ _ T7 (mkF m 39 #[.val (.ref q0), .val (.ref q1), .val (.int (0 : Int32)), .val (.int (3 : Int32)), .val .null, .unset] [.ref a17])
  refine kAS X15 #[.val (.ref q0), .val (.ref q1), .val (.int (0 : Int32)), .val (.int (3 : Int32)), .val .null, .val (.ref a17)] d2_39 rfl rfl ?_
  refine kALn X15 d2_41 rfl rfl ?_
  refine kAL X15 d2_42 rfl rfl ?_
  refine kILn X15 d2_44 rfl ?_
  have f28 := (Old.keep O0 f20 all0)
  refine kSTAT X15 (gEL G) (argsL := [.ref a17, .int (3 : Int32)]) (rest := [.ref q0]) (wd G 68 rfl) (wd G 69 rfl) (wd G 63 rfl) (wd G 70 rfl) (by decide) (rm39 l G (ownB i0) (ownB i1) (ownB i2) a17 k18 h8 X15.n f28 f22) all0 (fun _ _ _ _ _ q => q.1) (lenOf pd___BI_B rfl) rfl (by decide) 1 (Nat.le_of_eq rfl) (by decide) (by decide) (by decide) (by rw [hml]; rfl) d2_45 (fun v29 L30 T31 h32 vm33 K34 w35 q36 C37 C38 X39 => ?_)
  obtain ⟨n40, ⟨e41, f42⟩⟩ := q36
  subst e41
  subst f42
  show Go _ _ _ _ T31 (mkF m 48 #[.val (.ref q0), .val (.ref q1), .val (.int (0 : Int32)), .val (.int (3 : Int32)), .val .null, .val (.ref a17)] [.int (0 : Int32), .ref q0])
  have f43 := (Fld.keep F_q0_coder f20 nin0)
  have f44 := (Exa.keep E_q0 f20)
  have f45 := (CHr.safe C38 ((Fld.keep F_q0_value f20 nin0)).lt (CHr.safe C14 (F_q0_value.lt) S_q0))
  refine kPUTF X39 (wd G 26 rfl) Via.refl f43 f44 (Or.inr ⟨(wd G 22 rfl), rfl, hnm⟩) (wd G 6 rfl) (ty := .byte) (by decide) (by decide) (by decide) g_q0 f45 d2_48 (fun T46 h47 L50 W49 X48 => ?_)
  have f51 := Fld.same W49 f43
  refine kALn X48 d2_51 rfl rfl ?_
  refine kAL X48 d2_52 rfl rfl ?_
  have f52 := (Fld.other W49 (Fld.keep F_q0_value f20 nin0) (Or.inr (slot_ne (Or.inr (wd G 21 rfl)) (Or.inr (wd G 22 rfl)) (by decide) (by decide : parseFieldDescriptor "[B" = some (.array (.byte))) (by decide : parseFieldDescriptor "B" = some .byte))))
  have f53 := (Exa.wr W49 f44)
  have f54 := (Safe.wr W49 f45 X39.C.1 f45)
  refine kPUTF X48 (wd G 25 rfl) Via.refl f52 f53 (Or.inr ⟨(wd G 21 rfl), rfl, hnm⟩) (wd G 6 rfl) (ty := (.array (.byte))) (by decide) rfl rfl g_q0 f54 d2_54 (fun T55 h56 L59 W58 X57 => ?_)
  have f60 := Fld.same W58 f52
  have K61 : Keep h0 h56 [q0] := (Keep.wr (Keep.wr (Keep.trans (Keep.refl h0 [q0]) f20 all0) W49 (Or.inl (List.mem_of_getElem? (i := 0) rfl))) W58 (Or.inl (List.mem_of_getElem? (i := 0) rfl)))
  have f62 := (Arv.other (Arv.other f22 W49 (Ne.symm n24)) W58 (Ne.symm n24))
  have f63 := (Safe.wr W58 f54 X48.C.1 (Safe.wr W49 f45 X39.C.1 (CHr.safe C38 (f22.lt) f23)))
  have f64 := (Fld.other W58 f51 (Or.inr (slot_ne (Or.inr (wd G 22 rfl)) (Or.inr (wd G 21 rfl)) (by decide) (by decide : parseFieldDescriptor "B" = some .byte) (by decide : parseFieldDescriptor "[B" = some (.array (.byte))))))
  exact kRETV X57 (gEL G) hret d2_57 (fun ve hve => ⟨X57.N, ⟨a17, k18, rfl, K61, g27, f62, (CHr.safe hve (f62.lt) f63), f64, f60⟩⟩) (by decide) (by decide)
def Q_rm35 (Z : State) (iCS : Int32) (aV : Addr) (aG : Addr) (aN : Addr) (tG : Addr) (tN : Addr) (bG : Addr) (bN : Addr) (kV : ClassId) (kG : ClassId) (kN : ClassId) (i0 : Int32) (i1 : Int32) (i2 : Int32) (q0 : Addr) (q1 : Addr) (kp0 : ClassId) (h0 : Heap) (n0 : Nat) (vs : Vm) (v : Option Value) (h : Heap) (L : List Loc) (ve : Vm) : Prop := Fr n0 L ∧ ((∃ (x0 : Addr), ∃ (z0 : ClassId), v = none ∧ (Keep h0 h [q0]) ∧ (h0.size ≤ x0) ∧ (Arv Z h x0 z0 .byte 3 [.int (ownB i0), .int (ownB i1), .int (ownB i2)] (.int (0 : Int32))) ∧ (Safe Z EL0 ve h x0) ∧ (Fld Z h q0 "java/lang/String" "coder" "B" (.int (0 : Int32))) ∧ (Fld Z h q0 "java/lang/String" "value" "[B" (.ref x0))))
def R_rm35 : Room := { frames := 3, cells := 1, slots := 3, locals := 52 }
set_option maxRecDepth 65536 in
set_option maxHeartbeats 4000000 in
theorem rm35 (l : Launch) {Z : State} {a0 : Array Value} {iCS : Int32} {aV : Addr} {aG : Addr} {aN : Addr} {tG : Addr} {tN : Addr} {bG : Addr} {bN : Addr} {kV : ClassId} {kG : ClassId} {kN : ClassId} (G : Glob Z a0 iCS aV aG aN tG tN bG bN kV kG kN) (i0 : Int32) (i1 : Int32) (i2 : Int32) (q0 : Addr) (q1 : Addr) (kp0 : ClassId) (h0 : Heap) {n0 : Nat} (Z0 : n0 ≤ h0.size) (O0 : Old Z n0 h0) (A_q1 : Arv Z h0 q1 kp0 .char 3 [.int i0, .int i1, .int i2] (.int (0 : Int32))) (c_0 : ¬ (255 : Int32) < i0) (c_1 : ¬ (255 : Int32) < i1) (c_2 : ¬ (255 : Int32) < i2) (E_q0 : Exa Z h0 q0 "java/lang/String") (F_q0_coder : Fld Z h0 q0 "java/lang/String" "coder" "B" (.int (0 : Int32))) (F_q0_value : Fld Z h0 q0 "java/lang/String" "value" "[B" (.null)) (g_q0 : n0 ≤ q0) :
    MetH l Z EL0 (⟨"java/lang/String", "<init>", "([C)V"⟩ : MethodName) jdk_42_method_3_code 2 none [] R_rm35 #[.ref q0, .ref q1] h0 [q0] (Q_rm35 Z iCS aV aG aN tG tN bG bN kV kG kN i0 i1 i2 q0 q1 kp0 h0 n0) := by
  refine MetH.of (n0 := n0) #[.val (.ref q0), .val (.ref q1)] pn_java_lang_String rfl Z0 (fun p e s m below meth c T0 hret hml hnm hSL hs0 X0 => ?_)
  have S_q0 := hSL q0 (List.mem_of_getElem? (i := 0) rfl)
  refine kALn X0 d1_0 rfl rfl ?_
  refine kALn X0 d1_1 rfl rfl ?_
  refine kIC X0 (0 : Int32) d1_2 (by decide) ?_
  refine kALn X0 d1_3 rfl rfl ?_
  refine kLEN X0 A_q1 d1_4 ?_
  refine kNULL X0 d1_5 ?_
  refine kSPEC X0 (gEL G) (argsL := [.ref q1, .int (0 : Int32), .int (3 : Int32), .null]) (rest := []) (wd G 12 rfl) (wd G 13 rfl) (wd G 7 rfl) (wd G 15 rfl) rfl (by decide) (rm36 l G i0 i1 i2 q0 q1 kp0 h0 X0.n O0 A_q1 c_0 c_1 c_2 E_q0 F_q0_coder F_q0_value g_q0) (allS ⟨(E_q0.lt), S_q0⟩ all0) (fun _ _ _ _ _ q => q.1) (lenOf pd___CIILjava_lang_Void__V rfl) rfl (by decide) 0 (Nat.le_of_eq rfl) (by decide) (by decide) (by decide) (by rw [hml]; rfl) d1_6 (fun v1 L2 T3 h4 vm5 K6 w7 q8 C9 C10 X11 => ?_)
  obtain ⟨n12, ⟨a13, k14, e15, f16, f17, f18, f19, f20, f21⟩⟩ := q8
  subst e15
  have n22 : q0 ≠ a13 := Nat.ne_of_lt (Nat.lt_of_lt_of_le (E_q0.lt) f17)
  have n23 : q1 ≠ a13 := Nat.ne_of_lt (Nat.lt_of_lt_of_le (A_q1.lt) f17)
  have g24 : n0 ≤ a13 := Nat.le_trans X0.n f17
  have g25 : h0.size ≤ a13 := Nat.le_trans X0.g0 f17
  show Go _ _ _ _ T3 (mkF m 9 #[.val (.ref q0), .val (.ref q1)] [])
  have K26 : Keep h0 h4 [q0] := (Keep.trans (Keep.refl h0 [q0]) f16 (allS (Or.inl (List.mem_of_getElem? (i := 0) rfl)) all0))
  exact kRETV X11 (gEL G) hret d1_9 (fun ve hve => ⟨X11.N, ⟨a13, k14, rfl, K26, g25, f18, (CHr.safe hve (f18.lt) f19), f20, f21⟩⟩) (by decide) (by decide)
theorem d7_7 : decode jdk_43_method_13_code 7 = .ok (.iconst 0, 1) := by decide +kernel
theorem d7_8 : decode jdk_43_method_13_code 8 = .ok (.istore_n 2, 1) := by decide +kernel
theorem d7_9 : decode jdk_43_method_13_code 9 = .ok (.iload_n 2, 1) := by decide +kernel
theorem d7_10 : decode jdk_43_method_13_code 10 = .ok (.aload_n 0, 1) := by decide +kernel
theorem d7_11 : decode jdk_43_method_13_code 11 = .ok (.arraylength, 1) := by decide +kernel
theorem d7_12 : decode jdk_43_method_13_code 12 = .ok (.if_icmp .ge 20, 3) := by decide +kernel
theorem d7_15 : decode jdk_43_method_13_code 15 = .ok (.aload_n 0, 1) := by decide +kernel
theorem d7_16 : decode jdk_43_method_13_code 16 = .ok (.iload_n 2, 1) := by decide +kernel
theorem d7_17 : decode jdk_43_method_13_code 17 = .ok (.baload, 1) := by decide +kernel
theorem d7_18 : decode jdk_43_method_13_code 18 = .ok (.aload_n 1, 1) := by decide +kernel
theorem d7_19 : decode jdk_43_method_13_code 19 = .ok (.iload_n 2, 1) := by decide +kernel
theorem d7_20 : decode jdk_43_method_13_code 20 = .ok (.baload, 1) := by decide +kernel
theorem d7_21 : decode jdk_43_method_13_code 21 = .ok (.if_icmp .eq 5, 3) := by decide +kernel
theorem d7_26 : decode jdk_43_method_13_code 26 = .ok (.iinc 2 1, 3) := by decide +kernel
theorem d7_29 : decode jdk_43_method_13_code 29 = .ok (.goto (-20), 3) := by decide +kernel
theorem d7_32 : decode jdk_43_method_13_code 32 = .ok (.iconst 1, 1) := by decide +kernel
theorem d7_33 : decode jdk_43_method_13_code 33 = .ok (.ireturn, 1) := by decide +kernel
theorem d7_24 : decode jdk_43_method_13_code 24 = .ok (.iconst 0, 1) := by decide +kernel
theorem d7_25 : decode jdk_43_method_13_code 25 = .ok (.ireturn, 1) := by decide +kernel
def Q_rm42 (Z : State) (iCS : Int32) (aV : Addr) (aG : Addr) (aN : Addr) (tG : Addr) (tN : Addr) (bG : Addr) (bN : Addr) (kV : ClassId) (kG : ClassId) (kN : ClassId) (i0 : Int32) (i1 : Int32) (i2 : Int32) (q0 : Addr) (kp0 : ClassId) (h0 : Heap) (n0 : Nat) (vs : Vm) (v : Option Value) (h : Heap) (L : List Loc) (ve : Vm) : Prop := Fr n0 L ∧ ((v = some (.int (1 : Int32)) ∧ ((103 : Int32) = i0) ∧ ((112 : Int32) = i1) ∧ ((99 : Int32) = i2) ∧ (h0 = h)) ∨ (v = some (.int (0 : Int32)) ∧ ((103 : Int32) = i0) ∧ ((112 : Int32) = i1) ∧ (¬ (99 : Int32) = i2) ∧ (h0 = h)) ∨ (v = some (.int (0 : Int32)) ∧ ((103 : Int32) = i0) ∧ (¬ (112 : Int32) = i1) ∧ (h0 = h)) ∨ (v = some (.int (0 : Int32)) ∧ (¬ (103 : Int32) = i0) ∧ (h0 = h)))
def R_rm42 : Room := { frames := 0, cells := 0, slots := 0, locals := 0 }
set_option maxRecDepth 65536 in
set_option maxHeartbeats 4000000 in
theorem rm42 (l : Launch) {Z : State} {a0 : Array Value} {iCS : Int32} {aV : Addr} {aG : Addr} {aN : Addr} {tG : Addr} {tN : Addr} {bG : Addr} {bN : Addr} {kV : ClassId} {kG : ClassId} {kN : ClassId} (G : Glob Z a0 iCS aV aG aN tG tN bG bN kV kG kN) (i0 : Int32) (i1 : Int32) (i2 : Int32) (q0 : Addr) (kp0 : ClassId) (h0 : Heap) {n0 : Nat} (Z0 : n0 ≤ h0.size) (O0 : Old Z n0 h0) (A_q0 : Arv Z h0 q0 kp0 .byte 3 [.int i0, .int i1, .int i2] (.int (0 : Int32))) :
    MetH l Z EL0 (⟨"java/lang/StringLatin1", "equals", "([B[B)Z"⟩ : MethodName) jdk_43_method_13_code 3 (some .boolean) [] R_rm42 #[.ref bG, .ref q0] h0 [] (Q_rm42 Z iCS aV aG aN tG tN bG bN kV kG kN i0 i1 i2 q0 kp0 h0 n0) := by
  refine MetH.of (n0 := n0) #[.val (.ref bG), .val (.ref q0), .unset] pn_java_lang_StringLatin1 rfl Z0 (fun p e s m below meth c T0 hret hml hnm hSL hs0 X0 => ?_)
  refine kALn X0 d7_0 rfl rfl ?_
  refine kLEN X0 (Arv.ext (AB_G G) O0.2) d7_1 ?_
  refine kALn X0 d7_2 rfl rfl ?_
  refine kLEN X0 A_q0 d7_3 ?_
  refine kICf X0 d7_4 (XT.ii_ne_f (by decide)) ?_
  refine kIC X0 (0 : Int32) d7_7 (by decide) ?_
  refine kISn X0 #[.val (.ref bG), .val (.ref q0), .val (.int (0 : Int32))] d7_8 rfl ?_
  refine kILn X0 d7_9 rfl ?_
  refine kALn X0 d7_10 rfl rfl ?_
  refine kLEN X0 (Arv.ext (AB_G G) O0.2) d7_11 ?_
  refine kICf X0 d7_12 (XT.ii_ge_f (by decide)) ?_
  refine kALn X0 d7_15 rfl rfl ?_
  refine kILn X0 d7_16 rfl ?_
  refine kBALD X0 (.int (103 : Int32)) (Arv.ext (AB_G G) O0.2) (by decide) rfl d7_17 ?_
  refine kALn X0 d7_18 rfl rfl ?_
  refine kILn X0 d7_19 rfl ?_
  refine kBALD X0 (.int i0) A_q0 (by decide) rfl d7_20 ?_
  by_cases c1 : (103 : Int32) = i0
  · refine kICt X0 26 d7_21 (XT.ii_eq_t c1) (by decide) ?_
    refine kIINC X0 (1 : Int32) (1 : Int32) #[.val (.ref bG), .val (.ref q0), .val (.int (1 : Int32))] d7_26 (by decide) rfl (by decide) rfl ?_
    refine kGOTO X0 9 d7_29 (by decide) ?_
    refine kILn X0 d7_9 rfl ?_
    refine kALn X0 d7_10 rfl rfl ?_
    refine kLEN X0 (Arv.ext (AB_G G) O0.2) d7_11 ?_
    refine kICf X0 d7_12 (XT.ii_ge_f (by decide)) ?_
    refine kALn X0 d7_15 rfl rfl ?_
    refine kILn X0 d7_16 rfl ?_
    refine kBALD X0 (.int (112 : Int32)) (Arv.ext (AB_G G) O0.2) (by decide) rfl d7_17 ?_
    refine kALn X0 d7_18 rfl rfl ?_
    refine kILn X0 d7_19 rfl ?_
    refine kBALD X0 (.int i1) A_q0 (by decide) rfl d7_20 ?_
    by_cases c2 : (112 : Int32) = i1
    · refine kICt X0 26 d7_21 (XT.ii_eq_t c2) (by decide) ?_
      refine kIINC X0 (1 : Int32) (2 : Int32) #[.val (.ref bG), .val (.ref q0), .val (.int (2 : Int32))] d7_26 (by decide) rfl (by decide) rfl ?_
      refine kGOTO X0 9 d7_29 (by decide) ?_
      refine kILn X0 d7_9 rfl ?_
      refine kALn X0 d7_10 rfl rfl ?_
      refine kLEN X0 (Arv.ext (AB_G G) O0.2) d7_11 ?_
      refine kICf X0 d7_12 (XT.ii_ge_f (by decide)) ?_
      refine kALn X0 d7_15 rfl rfl ?_
      refine kILn X0 d7_16 rfl ?_
      refine kBALD X0 (.int (99 : Int32)) (Arv.ext (AB_G G) O0.2) (by decide) rfl d7_17 ?_
      refine kALn X0 d7_18 rfl rfl ?_
      refine kILn X0 d7_19 rfl ?_
      refine kBALD X0 (.int i2) A_q0 (by decide) rfl d7_20 ?_
      by_cases c3 : (99 : Int32) = i2
      · refine kICt X0 26 d7_21 (XT.ii_eq_t c3) (by decide) ?_
        refine kIINC X0 (1 : Int32) (3 : Int32) #[.val (.ref bG), .val (.ref q0), .val (.int (3 : Int32))] d7_26 (by decide) rfl (by decide) rfl ?_
        refine kGOTO X0 9 d7_29 (by decide) ?_
        refine kILn X0 d7_9 rfl ?_
        refine kALn X0 d7_10 rfl rfl ?_
        refine kLEN X0 (Arv.ext (AB_G G) O0.2) d7_11 ?_
        refine kICt X0 32 d7_12 (XT.ii_ge_t (by decide)) (by decide) ?_
        refine kIC X0 (1 : Int32) d7_32 (by decide) ?_
        exact kRETZ X0 (gEL G) (t := .boolean) hret (by simp) d7_33 (fun ve hve => ⟨X0.N, Or.inl (⟨rfl, c1, c2, c3, rfl⟩)⟩) (by decide) (by decide)
      · refine kICf X0 d7_21 (XT.ii_eq_f c3) ?_
        refine kIC X0 (0 : Int32) d7_24 (by decide) ?_
        exact kRETZ X0 (gEL G) (t := .boolean) hret (by simp) d7_25 (fun ve hve => ⟨X0.N, Or.inr (Or.inl (⟨rfl, c1, c2, c3, rfl⟩))⟩) (by decide) (by decide)
    · refine kICf X0 d7_21 (XT.ii_eq_f c2) ?_
      refine kIC X0 (0 : Int32) d7_24 (by decide) ?_
      exact kRETZ X0 (gEL G) (t := .boolean) hret (by simp) d7_25 (fun ve hve => ⟨X0.N, Or.inr (Or.inr (Or.inl (⟨rfl, c1, c2, rfl⟩)))⟩) (by decide) (by decide)
  · refine kICf X0 d7_21 (XT.ii_eq_f c1) ?_
    refine kIC X0 (0 : Int32) d7_24 (by decide) ?_
    exact kRETZ X0 (gEL G) (t := .boolean) hret (by simp) d7_25 (fun ve hve => ⟨X0.N, Or.inr (Or.inr (Or.inr (⟨rfl, c1, rfl⟩)))⟩) (by decide) (by decide)
theorem d6_50 : decode jdk_42_method_66_code 50 = .ok (.iconst 1, 1) := by decide +kernel
theorem d6_51 : decode jdk_42_method_66_code 51 = .ok (.goto 4, 3) := by decide +kernel
def Q_rm41 (Z : State) (iCS : Int32) (aV : Addr) (aG : Addr) (aN : Addr) (tG : Addr) (tN : Addr) (bG : Addr) (bN : Addr) (kV : ClassId) (kG : ClassId) (kN : ClassId) (i0 : Int32) (i1 : Int32) (i2 : Int32) (q0 : Addr) (q1 : Addr) (kp0 : ClassId) (h0 : Heap) (n0 : Nat) (vs : Vm) (v : Option Value) (h : Heap) (L : List Loc) (ve : Vm) : Prop := Fr n0 L ∧ ((v = some (.int (1 : Int32)) ∧ ((103 : Int32) = i0) ∧ ((112 : Int32) = i1) ∧ ((99 : Int32) = i2) ∧ (h0 = h)) ∨ (v = some (.int (0 : Int32)) ∧ ((103 : Int32) = i0) ∧ ((112 : Int32) = i1) ∧ (¬ (99 : Int32) = i2) ∧ (h0 = h)) ∨ (v = some (.int (0 : Int32)) ∧ ((103 : Int32) = i0) ∧ (¬ (112 : Int32) = i1) ∧ (h0 = h)) ∨ (v = some (.int (0 : Int32)) ∧ (¬ (103 : Int32) = i0) ∧ (h0 = h)))
def R_rm41 : Room := { frames := 1, cells := 0, slots := 0, locals := 14 }
set_option maxRecDepth 65536 in
set_option maxHeartbeats 4000000 in
theorem rm41 (l : Launch) {Z : State} {a0 : Array Value} {iCS : Int32} {aV : Addr} {aG : Addr} {aN : Addr} {tG : Addr} {tN : Addr} {bG : Addr} {bN : Addr} {kV : ClassId} {kG : ClassId} {kN : ClassId} (G : Glob Z a0 iCS aV aG aN tG tN bG bN kV kG kN) (i0 : Int32) (i1 : Int32) (i2 : Int32) (q0 : Addr) (q1 : Addr) (kp0 : ClassId) (h0 : Heap) {n0 : Nat} (Z0 : n0 ≤ h0.size) (O0 : Old Z n0 h0) (E_q0 : Exa Z h0 q0 "java/lang/String") (F_q0_coder : Fld Z h0 q0 "java/lang/String" "coder" "B" (.int (0 : Int32))) (F_q0_value : Fld Z h0 q0 "java/lang/String" "value" "[B" (.ref q1)) (A_q1 : Arv Z h0 q1 kp0 .byte 3 [.int i0, .int i1, .int i2] (.int (0 : Int32))) (g_q0 : n0 ≤ q0) :
    MetH l Z EL0 (⟨"java/lang/String", "equals", "(Ljava/lang/Object;)Z"⟩ : MethodName) jdk_42_method_66_code 3 (some .boolean) [] R_rm41 #[.ref tG, .ref q0] h0 [] (Q_rm41 Z iCS aV aG aN tG tN bG bN kV kG kN i0 i1 i2 q0 q1 kp0 h0 n0) := by
  refine MetH.of (n0 := n0) #[.val (.ref tG), .val (.ref q0), .unset] pn_java_lang_String rfl Z0 (fun p e s m below meth c T0 hret hml hnm hSL hs0 X0 => ?_)
  refine kALn X0 d6_0 rfl rfl ?_
  refine kALn X0 d6_1 rfl rfl ?_
  refine kACt X0 7 d6_2 rfl rfl (XT.aa_ne_t (own_rne (Old.ne O0 ((ES_G G).lt) g_q0))) (by decide) ?_
  refine kALn X0 d6_7 rfl rfl ?_
  refine kINSY X0 (wd G 55 rfl) (Ins.of_exa E_q0 (wd G 14 rfl)) d6_8 (fun T1 X2 => ?_)
  refine kIFf X2 d6_11 (XT.i0_eq_f (by decide)) ?_
  refine kALn X2 d6_14 rfl rfl ?_
  refine kCAST X2 (wd G 55 rfl) (Ins.of_exa E_q0 (wd G 14 rfl)) d6_15 (fun T3 X4 => ?_)
  refine kASn X4 #[.val (.ref tG), .val (.ref q0), .val (.ref q0)] d6_18 rfl rfl ?_
  refine kGETS X4 (wd G 56 rfl) Via.refl (Sta.ext O0.2 (S_CS G)) d6_19 (fun T5 X6 => ?_)
  refine kIFf X6 d6_22 (XT.i0_eq_f (n_CS G)) ?_
  refine kALn X6 d6_25 rfl rfl ?_
  refine kGETF X6 (wd G 26 rfl) Via.refl (Fld.ext O0.2 (FC_G G)) d6_26 (fun T7 X8 => ?_)
  refine kALn X8 d6_29 rfl rfl ?_
  refine kGETF X8 (wd G 26 rfl) Via.refl F_q0_coder d6_30 (fun T9 X10 => ?_)
  refine kICf X10 d6_33 (XT.ii_ne_f (by decide)) ?_
  refine kALn X10 d6_36 rfl rfl ?_
  refine kGETF X10 (wd G 25 rfl) Via.refl (Fld.ext O0.2 (FV_G G)) d6_37 (fun T11 X12 => ?_)
  refine kALn X12 d6_40 rfl rfl ?_
  refine kGETF X12 (wd G 25 rfl) Via.refl F_q0_value d6_41 (fun T13 X14 => ?_)
  refine kSTAT X14 (gEL G) (argsL := [.ref bG, .ref q1]) (rest := []) (wd G 57 rfl) (wd G 58 rfl) (wd G 59 rfl) (wd G 60 rfl) (by decide) (rm42 l G i0 i1 i2 q1 kp0 h0 X14.n O0 A_q1) all0 (fun _ _ _ _ _ q => q.1) (lenOf pd___B_B_Z rfl) rfl (by decide) 0 (Nat.le_of_eq rfl) (by decide) (by decide) (by decide) (by rw [hml]; rfl) d6_44 (fun v15 L16 T17 h18 vm19 K20 w21 q22 C23 C24 X25 => ?_)
  obtain ⟨n26, (o27 | o28 | o29 | o30)⟩ := q22
  · obtain ⟨e31, f32, f33, f34, f35⟩ := o27
    subst e31
    subst f35
    show Go _ _ _ _ T17 (mkF m 47 #[.val (.ref tG), .val (.ref q0), .val (.ref q0)] [.int (1 : Int32)])
    refine kIFf X25 d6_47 (XT.i0_eq_f (by decide)) ?_
    refine kIC X25 (1 : Int32) d6_50 (by decide) ?_
    refine kGOTO X25 55 d6_51 (by decide) ?_
    exact kRETZ X25 (gEL G) (t := .boolean) hret (by simp) d6_55 (fun ve hve => ⟨X25.N, Or.inl (⟨rfl, f32, f33, f34, rfl⟩)⟩) (by decide) (by decide)
  · obtain ⟨e36, f37, f38, f39, f40⟩ := o28
    subst e36
    subst f40
    show Go _ _ _ _ T17 (mkF m 47 #[.val (.ref tG), .val (.ref q0), .val (.ref q0)] [.int (0 : Int32)])
    refine kIFt X25 54 d6_47 (XT.i0_eq_t (by decide)) (by decide) ?_
    refine kIC X25 (0 : Int32) d6_54 (by decide) ?_
    exact kRETZ X25 (gEL G) (t := .boolean) hret (by simp) d6_55 (fun ve hve => ⟨X25.N, Or.inr (Or.inl (⟨rfl, f37, f38, f39, rfl⟩))⟩) (by decide) (by decide)
  · obtain ⟨e41, f42, f43, f44⟩ := o29
    subst e41
    subst f44
    show Go _ _ _ _ T17 (mkF m 47 #[.val (.ref tG), .val (.ref q0), .val (.ref q0)] [.int (0 : Int32)])
    refine kIFt X25 54 d6_47 (XT.i0_eq_t (by decide)) (by decide) ?_
    refine kIC X25 (0 : Int32) d6_54 (by decide) ?_
    exact kRETZ X25 (gEL G) (t := .boolean) hret (by simp) d6_55 (fun ve hve => ⟨X25.N, Or.inr (Or.inr (Or.inl (⟨rfl, f42, f43, rfl⟩)))⟩) (by decide) (by decide)
  · obtain ⟨e45, f46, f47⟩ := o30
    subst e45
    subst f47
    show Go _ _ _ _ T17 (mkF m 47 #[.val (.ref tG), .val (.ref q0), .val (.ref q0)] [.int (0 : Int32)])
    refine kIFt X25 54 d6_47 (XT.i0_eq_t (by decide)) (by decide) ?_
    refine kIC X25 (0 : Int32) d6_54 (by decide) ?_
    exact kRETZ X25 (gEL G) (t := .boolean) hret (by simp) d6_55 (fun ve hve => ⟨X25.N, Or.inr (Or.inr (Or.inr (⟨rfl, f46, rfl⟩)))⟩) (by decide) (by decide)
theorem d4_36 : decode prog_20_method_6_code 36 = .ok (.aload 5, 2) := by decide +kernel
theorem d4_38 : decode prog_20_method_6_code 38 = .ok (.astore_n 1, 1) := by decide +kernel
def Q_rm44 (Z : State) (iCS : Int32) (aV : Addr) (aG : Addr) (aN : Addr) (tG : Addr) (tN : Addr) (bG : Addr) (bN : Addr) (kV : ClassId) (kG : ClassId) (kN : ClassId) (i0 : Int32) (i1 : Int32) (i2 : Int32) (q0 : Addr) (kp0 : ClassId) (h0 : Heap) (n0 : Nat) (vs : Vm) (v : Option Value) (h : Heap) (L : List Loc) (ve : Vm) : Prop := Fr n0 L ∧ ((v = some (.int (1 : Int32)) ∧ ((97 : Int32) = i0) ∧ ((110 : Int32) = i1) ∧ ((100 : Int32) = i2) ∧ (h0 = h)) ∨ (v = some (.int (0 : Int32)) ∧ ((97 : Int32) = i0) ∧ ((110 : Int32) = i1) ∧ (¬ (100 : Int32) = i2) ∧ (h0 = h)) ∨ (v = some (.int (0 : Int32)) ∧ ((97 : Int32) = i0) ∧ (¬ (110 : Int32) = i1) ∧ (h0 = h)) ∨ (v = some (.int (0 : Int32)) ∧ (¬ (97 : Int32) = i0) ∧ (h0 = h)))
def R_rm44 : Room := { frames := 0, cells := 0, slots := 0, locals := 0 }
set_option maxRecDepth 65536 in
set_option maxHeartbeats 4000000 in
theorem rm44 (l : Launch) {Z : State} {a0 : Array Value} {iCS : Int32} {aV : Addr} {aG : Addr} {aN : Addr} {tG : Addr} {tN : Addr} {bG : Addr} {bN : Addr} {kV : ClassId} {kG : ClassId} {kN : ClassId} (G : Glob Z a0 iCS aV aG aN tG tN bG bN kV kG kN) (i0 : Int32) (i1 : Int32) (i2 : Int32) (q0 : Addr) (kp0 : ClassId) (h0 : Heap) {n0 : Nat} (Z0 : n0 ≤ h0.size) (O0 : Old Z n0 h0) (A_q0 : Arv Z h0 q0 kp0 .byte 3 [.int i0, .int i1, .int i2] (.int (0 : Int32))) :
    MetH l Z EL0 (⟨"java/lang/StringLatin1", "equals", "([B[B)Z"⟩ : MethodName) jdk_43_method_13_code 3 (some .boolean) [] R_rm44 #[.ref bN, .ref q0] h0 [] (Q_rm44 Z iCS aV aG aN tG tN bG bN kV kG kN i0 i1 i2 q0 kp0 h0 n0) := by
  refine MetH.of (n0 := n0) #[.val (.ref bN), .val (.ref q0), .unset] pn_java_lang_StringLatin1 rfl Z0 (fun p e s m below meth c T0 hret hml hnm hSL hs0 X0 => ?_)
  refine kALn X0 d7_0 rfl rfl ?_
  refine kLEN X0 (Arv.ext (AB_N G) O0.2) d7_1 ?_
  refine kALn X0 d7_2 rfl rfl ?_
  refine kLEN X0 A_q0 d7_3 ?_
  refine kICf X0 d7_4 (XT.ii_ne_f (by decide)) ?_
  refine kIC X0 (0 : Int32) d7_7 (by decide) ?_
  refine kISn X0 #[.val (.ref bN), .val (.ref q0), .val (.int (0 : Int32))] d7_8 rfl ?_
  refine kILn X0 d7_9 rfl ?_
  refine kALn X0 d7_10 rfl rfl ?_
  refine kLEN X0 (Arv.ext (AB_N G) O0.2) d7_11 ?_
  refine kICf X0 d7_12 (XT.ii_ge_f (by decide)) ?_
  refine kALn X0 d7_15 rfl rfl ?_
  refine kILn X0 d7_16 rfl ?_
  refine kBALD X0 (.int (97 : Int32)) (Arv.ext (AB_N G) O0.2) (by decide) rfl d7_17 ?_
  refine kALn X0 d7_18 rfl rfl ?_
  refine kILn X0 d7_19 rfl ?_
  refine kBALD X0 (.int i0) A_q0 (by decide) rfl d7_20 ?_
  by_cases c1 : (97 : Int32) = i0
  · refine kICt X0 26 d7_21 (XT.ii_eq_t c1) (by decide) ?_
    refine kIINC X0 (1 : Int32) (1 : Int32) #[.val (.ref bN), .val (.ref q0), .val (.int (1 : Int32))] d7_26 (by decide) rfl (by decide) rfl ?_
    refine kGOTO X0 9 d7_29 (by decide) ?_
    refine kILn X0 d7_9 rfl ?_
    refine kALn X0 d7_10 rfl rfl ?_
    refine kLEN X0 (Arv.ext (AB_N G) O0.2) d7_11 ?_
    refine kICf X0 d7_12 (XT.ii_ge_f (by decide)) ?_
    refine kALn X0 d7_15 rfl rfl ?_
    refine kILn X0 d7_16 rfl ?_
    refine kBALD X0 (.int (110 : Int32)) (Arv.ext (AB_N G) O0.2) (by decide) rfl d7_17 ?_
    refine kALn X0 d7_18 rfl rfl ?_
    refine kILn X0 d7_19 rfl ?_
    refine kBALD X0 (.int i1) A_q0 (by decide) rfl d7_20 ?_
    by_cases c2 : (110 : Int32) = i1
    · refine kICt X0 26 d7_21 (XT.ii_eq_t c2) (by decide) ?_
      refine kIINC X0 (1 : Int32) (2 : Int32) #[.val (.ref bN), .val (.ref q0), .val (.int (2 : Int32))] d7_26 (by decide) rfl (by decide) rfl ?_
      refine kGOTO X0 9 d7_29 (by decide) ?_
      refine kILn X0 d7_9 rfl ?_
      refine kALn X0 d7_10 rfl rfl ?_
      refine kLEN X0 (Arv.ext (AB_N G) O0.2) d7_11 ?_
      refine kICf X0 d7_12 (XT.ii_ge_f (by decide)) ?_
      refine kALn X0 d7_15 rfl rfl ?_
      refine kILn X0 d7_16 rfl ?_
      refine kBALD X0 (.int (100 : Int32)) (Arv.ext (AB_N G) O0.2) (by decide) rfl d7_17 ?_
      refine kALn X0 d7_18 rfl rfl ?_
      refine kILn X0 d7_19 rfl ?_
      refine kBALD X0 (.int i2) A_q0 (by decide) rfl d7_20 ?_
      by_cases c3 : (100 : Int32) = i2
      · refine kICt X0 26 d7_21 (XT.ii_eq_t c3) (by decide) ?_
        refine kIINC X0 (1 : Int32) (3 : Int32) #[.val (.ref bN), .val (.ref q0), .val (.int (3 : Int32))] d7_26 (by decide) rfl (by decide) rfl ?_
        refine kGOTO X0 9 d7_29 (by decide) ?_
        refine kILn X0 d7_9 rfl ?_
        refine kALn X0 d7_10 rfl rfl ?_
        refine kLEN X0 (Arv.ext (AB_N G) O0.2) d7_11 ?_
        refine kICt X0 32 d7_12 (XT.ii_ge_t (by decide)) (by decide) ?_
        refine kIC X0 (1 : Int32) d7_32 (by decide) ?_
        exact kRETZ X0 (gEL G) (t := .boolean) hret (by simp) d7_33 (fun ve hve => ⟨X0.N, Or.inl (⟨rfl, c1, c2, c3, rfl⟩)⟩) (by decide) (by decide)
      · refine kICf X0 d7_21 (XT.ii_eq_f c3) ?_
        refine kIC X0 (0 : Int32) d7_24 (by decide) ?_
        exact kRETZ X0 (gEL G) (t := .boolean) hret (by simp) d7_25 (fun ve hve => ⟨X0.N, Or.inr (Or.inl (⟨rfl, c1, c2, c3, rfl⟩))⟩) (by decide) (by decide)
    · refine kICf X0 d7_21 (XT.ii_eq_f c2) ?_
      refine kIC X0 (0 : Int32) d7_24 (by decide) ?_
      exact kRETZ X0 (gEL G) (t := .boolean) hret (by simp) d7_25 (fun ve hve => ⟨X0.N, Or.inr (Or.inr (Or.inl (⟨rfl, c1, c2, rfl⟩)))⟩) (by decide) (by decide)
  · refine kICf X0 d7_21 (XT.ii_eq_f c1) ?_
    refine kIC X0 (0 : Int32) d7_24 (by decide) ?_
    exact kRETZ X0 (gEL G) (t := .boolean) hret (by simp) d7_25 (fun ve hve => ⟨X0.N, Or.inr (Or.inr (Or.inr (⟨rfl, c1, rfl⟩)))⟩) (by decide) (by decide)
def Q_rm43 (Z : State) (iCS : Int32) (aV : Addr) (aG : Addr) (aN : Addr) (tG : Addr) (tN : Addr) (bG : Addr) (bN : Addr) (kV : ClassId) (kG : ClassId) (kN : ClassId) (i0 : Int32) (i1 : Int32) (i2 : Int32) (q0 : Addr) (q1 : Addr) (kp0 : ClassId) (h0 : Heap) (n0 : Nat) (vs : Vm) (v : Option Value) (h : Heap) (L : List Loc) (ve : Vm) : Prop := Fr n0 L ∧ ((v = some (.int (1 : Int32)) ∧ ((97 : Int32) = i0) ∧ ((110 : Int32) = i1) ∧ ((100 : Int32) = i2) ∧ (h0 = h)) ∨ (v = some (.int (0 : Int32)) ∧ ((97 : Int32) = i0) ∧ ((110 : Int32) = i1) ∧ (¬ (100 : Int32) = i2) ∧ (h0 = h)) ∨ (v = some (.int (0 : Int32)) ∧ ((97 : Int32) = i0) ∧ (¬ (110 : Int32) = i1) ∧ (h0 = h)) ∨ (v = some (.int (0 : Int32)) ∧ (¬ (97 : Int32) = i0) ∧ (h0 = h)))
def R_rm43 : Room := { frames := 1, cells := 0, slots := 0, locals := 14 }
set_option maxRecDepth 65536 in
set_option maxHeartbeats 4000000 in
theorem rm43 (l : Launch) {Z : State} {a0 : Array Value} {iCS : Int32} {aV : Addr} {aG : Addr} {aN : Addr} {tG : Addr} {tN : Addr} {bG : Addr} {bN : Addr} {kV : ClassId} {kG : ClassId} {kN : ClassId} (G : Glob Z a0 iCS aV aG aN tG tN bG bN kV kG kN) (i0 : Int32) (i1 : Int32) (i2 : Int32) (q0 : Addr) (q1 : Addr) (kp0 : ClassId) (h0 : Heap) {n0 : Nat} (Z0 : n0 ≤ h0.size) (O0 : Old Z n0 h0) (E_q0 : Exa Z h0 q0 "java/lang/String") (F_q0_coder : Fld Z h0 q0 "java/lang/String" "coder" "B" (.int (0 : Int32))) (F_q0_value : Fld Z h0 q0 "java/lang/String" "value" "[B" (.ref q1)) (A_q1 : Arv Z h0 q1 kp0 .byte 3 [.int i0, .int i1, .int i2] (.int (0 : Int32))) (g_q0 : n0 ≤ q0) :
    MetH l Z EL0 (⟨"java/lang/String", "equals", "(Ljava/lang/Object;)Z"⟩ : MethodName) jdk_42_method_66_code 3 (some .boolean) [] R_rm43 #[.ref tN, .ref q0] h0 [] (Q_rm43 Z iCS aV aG aN tG tN bG bN kV kG kN i0 i1 i2 q0 q1 kp0 h0 n0) := by
  refine MetH.of (n0 := n0) #[.val (.ref tN), .val (.ref q0), .unset] pn_java_lang_String rfl Z0 (fun p e s m below meth c T0 hret hml hnm hSL hs0 X0 => ?_)
  refine kALn X0 d6_0 rfl rfl ?_
  refine kALn X0 d6_1 rfl rfl ?_
  refine kACt X0 7 d6_2 rfl rfl (XT.aa_ne_t (own_rne (Old.ne O0 ((ES_N G).lt) g_q0))) (by decide) ?_
  refine kALn X0 d6_7 rfl rfl ?_
  refine kINSY X0 (wd G 55 rfl) (Ins.of_exa E_q0 (wd G 14 rfl)) d6_8 (fun T1 X2 => ?_)
  refine kIFf X2 d6_11 (XT.i0_eq_f (by decide)) ?_
  refine kALn X2 d6_14 rfl rfl ?_
  refine kCAST X2 (wd G 55 rfl) (Ins.of_exa E_q0 (wd G 14 rfl)) d6_15 (fun T3 X4 => ?_)
  refine kASn X4 #[.val (.ref tN), .val (.ref q0), .val (.ref q0)] d6_18 rfl rfl ?_
  refine kGETS X4 (wd G 56 rfl) Via.refl (Sta.ext O0.2 (S_CS G)) d6_19 (fun T5 X6 => ?_)
  refine kIFf X6 d6_22 (XT.i0_eq_f (n_CS G)) ?_
  refine kALn X6 d6_25 rfl rfl ?_
  refine kGETF X6 (wd G 26 rfl) Via.refl (Fld.ext O0.2 (FC_N G)) d6_26 (fun T7 X8 => ?_)
  refine kALn X8 d6_29 rfl rfl ?_
  refine kGETF X8 (wd G 26 rfl) Via.refl F_q0_coder d6_30 (fun T9 X10 => ?_)
  refine kICf X10 d6_33 (XT.ii_ne_f (by decide)) ?_
  refine kALn X10 d6_36 rfl rfl ?_
  refine kGETF X10 (wd G 25 rfl) Via.refl (Fld.ext O0.2 (FV_N G)) d6_37 (fun T11 X12 => ?_)
  refine kALn X12 d6_40 rfl rfl ?_
  refine kGETF X12 (wd G 25 rfl) Via.refl F_q0_value d6_41 (fun T13 X14 => ?_)
  refine kSTAT X14 (gEL G) (argsL := [.ref bN, .ref q1]) (rest := []) (wd G 57 rfl) (wd G 58 rfl) (wd G 59 rfl) (wd G 60 rfl) (by decide) (rm44 l G i0 i1 i2 q1 kp0 h0 X14.n O0 A_q1) all0 (fun _ _ _ _ _ q => q.1) (lenOf pd___B_B_Z rfl) rfl (by decide) 0 (Nat.le_of_eq rfl) (by decide) (by decide) (by decide) (by rw [hml]; rfl) d6_44 (fun v15 L16 T17 h18 vm19 K20 w21 q22 C23 C24 X25 => ?_)
  obtain ⟨n26, (o27 | o28 | o29 | o30)⟩ := q22
  · obtain ⟨e31, f32, f33, f34, f35⟩ := o27
    subst e31
    subst f35
    show Go _ _ _ _ T17 (mkF m 47 #[.val (.ref tN), .val (.ref q0), .val (.ref q0)] [.int (1 : Int32)])
    refine kIFf X25 d6_47 (XT.i0_eq_f (by decide)) ?_
    refine kIC X25 (1 : Int32) d6_50 (by decide) ?_
    refine kGOTO X25 55 d6_51 (by decide) ?_
    exact kRETZ X25 (gEL G) (t := .boolean) hret (by simp) d6_55 (fun ve hve => ⟨X25.N, Or.inl (⟨rfl, f32, f33, f34, rfl⟩)⟩) (by decide) (by decide)
  · obtain ⟨e36, f37, f38, f39, f40⟩ := o28
    subst e36
    subst f40
    show Go _ _ _ _ T17 (mkF m 47 #[.val (.ref tN), .val (.ref q0), .val (.ref q0)] [.int (0 : Int32)])
    refine kIFt X25 54 d6_47 (XT.i0_eq_t (by decide)) (by decide) ?_
    refine kIC X25 (0 : Int32) d6_54 (by decide) ?_
    exact kRETZ X25 (gEL G) (t := .boolean) hret (by simp) d6_55 (fun ve hve => ⟨X25.N, Or.inr (Or.inl (⟨rfl, f37, f38, f39, rfl⟩))⟩) (by decide) (by decide)
  · obtain ⟨e41, f42, f43, f44⟩ := o29
    subst e41
    subst f44
    show Go _ _ _ _ T17 (mkF m 47 #[.val (.ref tN), .val (.ref q0), .val (.ref q0)] [.int (0 : Int32)])
    refine kIFt X25 54 d6_47 (XT.i0_eq_t (by decide)) (by decide) ?_
    refine kIC X25 (0 : Int32) d6_54 (by decide) ?_
    exact kRETZ X25 (gEL G) (t := .boolean) hret (by simp) d6_55 (fun ve hve => ⟨X25.N, Or.inr (Or.inr (Or.inl (⟨rfl, f42, f43, rfl⟩)))⟩) (by decide) (by decide)
  · obtain ⟨e45, f46, f47⟩ := o30
    subst e45
    subst f47
    show Go _ _ _ _ T17 (mkF m 47 #[.val (.ref tN), .val (.ref q0), .val (.ref q0)] [.int (0 : Int32)])
    refine kIFt X25 54 d6_47 (XT.i0_eq_t (by decide)) (by decide) ?_
    refine kIC X25 (0 : Int32) d6_54 (by decide) ?_
    exact kRETZ X25 (gEL G) (t := .boolean) hret (by simp) d6_55 (fun ve hve => ⟨X25.N, Or.inr (Or.inr (Or.inr (⟨rfl, f46, rfl⟩)))⟩) (by decide) (by decide)
def Q_rm40 (Z : State) (iCS : Int32) (aV : Addr) (aG : Addr) (aN : Addr) (tG : Addr) (tN : Addr) (bG : Addr) (bN : Addr) (kV : ClassId) (kG : ClassId) (kN : ClassId) (i0 : Int32) (i1 : Int32) (i2 : Int32) (q0 : Addr) (q1 : Addr) (kp0 : ClassId) (h0 : Heap) (n0 : Nat) (vs : Vm) (v : Option Value) (h : Heap) (L : List Loc) (ve : Vm) : Prop := Fr n0 L ∧ ((v = some (.ref aN) ∧ ((103 : Int32) = i0) ∧ ((112 : Int32) = i1) ∧ ((99 : Int32) = i2) ∧ ((97 : Int32) = i0) ∧ ((110 : Int32) = i1) ∧ ((100 : Int32) = i2) ∧ (Keep h0 h [])) ∨ (v = some (.ref aG) ∧ ((103 : Int32) = i0) ∧ ((112 : Int32) = i1) ∧ ((99 : Int32) = i2) ∧ ((97 : Int32) = i0) ∧ ((110 : Int32) = i1) ∧ (¬ (100 : Int32) = i2) ∧ (Keep h0 h [])) ∨ (v = some (.ref aG) ∧ ((103 : Int32) = i0) ∧ ((112 : Int32) = i1) ∧ ((99 : Int32) = i2) ∧ ((97 : Int32) = i0) ∧ (¬ (110 : Int32) = i1) ∧ (Keep h0 h [])) ∨ (v = some (.ref aG) ∧ ((103 : Int32) = i0) ∧ ((112 : Int32) = i1) ∧ ((99 : Int32) = i2) ∧ (¬ (97 : Int32) = i0) ∧ (Keep h0 h [])) ∨ (v = some (.ref aN) ∧ ((103 : Int32) = i0) ∧ ((112 : Int32) = i1) ∧ (¬ (99 : Int32) = i2) ∧ ((97 : Int32) = i0) ∧ ((110 : Int32) = i1) ∧ ((100 : Int32) = i2) ∧ (Keep h0 h [])) ∨ (v = some (.null) ∧ ((103 : Int32) = i0) ∧ ((112 : Int32) = i1) ∧ (¬ (99 : Int32) = i2) ∧ ((97 : Int32) = i0) ∧ ((110 : Int32) = i1) ∧ (¬ (100 : Int32) = i2) ∧ (Keep h0 h [])) ∨ (v = some (.null) ∧ ((103 : Int32) = i0) ∧ ((112 : Int32) = i1) ∧ (¬ (99 : Int32) = i2) ∧ ((97 : Int32) = i0) ∧ (¬ (110 : Int32) = i1) ∧ (Keep h0 h [])) ∨ (v = some (.null) ∧ ((103 : Int32) = i0) ∧ ((112 : Int32) = i1) ∧ (¬ (99 : Int32) = i2) ∧ (¬ (97 : Int32) = i0) ∧ (Keep h0 h [])) ∨ (v = some (.ref aN) ∧ ((103 : Int32) = i0) ∧ (¬ (112 : Int32) = i1) ∧ ((97 : Int32) = i0) ∧ ((110 : Int32) = i1) ∧ ((100 : Int32) = i2) ∧ (Keep h0 h [])) ∨ (v = some (.null) ∧ ((103 : Int32) = i0) ∧ (¬ (112 : Int32) = i1) ∧ ((97 : Int32) = i0) ∧ ((110 : Int32) = i1) ∧ (¬ (100 : Int32) = i2) ∧ (Keep h0 h [])) ∨ (v = some (.null) ∧ ((103 : Int32) = i0) ∧ (¬ (112 : Int32) = i1) ∧ ((97 : Int32) = i0) ∧ (¬ (110 : Int32) = i1) ∧ (Keep h0 h [])) ∨ (v = some (.null) ∧ ((103 : Int32) = i0) ∧ (¬ (112 : Int32) = i1) ∧ (¬ (97 : Int32) = i0) ∧ (Keep h0 h [])) ∨ (v = some (.ref aN) ∧ (¬ (103 : Int32) = i0) ∧ ((97 : Int32) = i0) ∧ ((110 : Int32) = i1) ∧ ((100 : Int32) = i2) ∧ (Keep h0 h [])) ∨ (v = some (.null) ∧ (¬ (103 : Int32) = i0) ∧ ((97 : Int32) = i0) ∧ ((110 : Int32) = i1) ∧ (¬ (100 : Int32) = i2) ∧ (Keep h0 h [])) ∨ (v = some (.null) ∧ (¬ (103 : Int32) = i0) ∧ ((97 : Int32) = i0) ∧ (¬ (110 : Int32) = i1) ∧ (Keep h0 h [])) ∨ (v = some (.null) ∧ (¬ (103 : Int32) = i0) ∧ (¬ (97 : Int32) = i0) ∧ (Keep h0 h [])))
def R_rm40 : Room := { frames := 2, cells := 1, slots := 2, locals := 28 }
set_option maxRecDepth 65536 in
set_option maxHeartbeats 4000000 in
theorem rm40 (l : Launch) {Z : State} {a0 : Array Value} {iCS : Int32} {aV : Addr} {aG : Addr} {aN : Addr} {tG : Addr} {tN : Addr} {bG : Addr} {bN : Addr} {kV : ClassId} {kG : ClassId} {kN : ClassId} (G : Glob Z a0 iCS aV aG aN tG tN bG bN kV kG kN) (i0 : Int32) (i1 : Int32) (i2 : Int32) (q0 : Addr) (q1 : Addr) (kp0 : ClassId) (h0 : Heap) {n0 : Nat} (Z0 : n0 ≤ h0.size) (O0 : Old Z n0 h0) (E_q0 : Exa Z h0 q0 "java/lang/String") (A_q1 : Arv Z h0 q1 kp0 .byte 3 [.int i0, .int i1, .int i2] (.int (0 : Int32))) (F_q0_coder : Fld Z h0 q0 "java/lang/String" "coder" "B" (.int (0 : Int32))) (F_q0_value : Fld Z h0 q0 "java/lang/String" "value" "[B" (.ref q1)) (g_q0 : n0 ≤ q0) :
    MetH l Z EL0 (⟨"com/example/tight_calculus/tightcalculus/Model$Kind", "named", "(Ljava/lang/String;)Lcom/example/tight_calculus/tightcalculus/Model$Kind;"⟩ : MethodName) prog_20_method_6_code 6 (some (.object "com/example/tight_calculus/tightcalculus/Model$Kind")) [] R_rm40 #[.ref q0] h0 [] (Q_rm40 Z iCS aV aG aN tG tN bG bN kV kG kN i0 i1 i2 q0 q1 kp0 h0 n0) := by
  refine MetH.of (n0 := n0) #[.val (.ref q0), .unset, .unset, .unset, .unset, .unset] pn_com_example_tight_calculus_tightcalculus_Model_Kind rfl Z0 (fun p e s m below meth c T0 hret hml hnm hSL hs0 X0 => ?_)
  refine kNULL X0 d4_0 ?_
  refine kASn X0 #[.val (.ref q0), .val .null, .unset, .unset, .unset, .unset] d4_1 rfl rfl ?_
  refine kSTAT X0 (gEL G) (argsL := []) (rest := []) (wd G 31 rfl) (wd G 32 rfl) (wd G 29 rfl) (wd G 33 rfl) (by decide) (rm7 l G  h0 X0.n O0 ) all0 (fun _ _ _ _ _ q => q.1) (lenOf pd____Lcom_example_tight_calculus_tightcalculus_Model_Kind_ rfl) rfl (by decide) 0 (Nat.le_of_eq rfl) (by decide) (by decide) (by decide) (by rw [hml]; rfl) d4_2 (fun v1 L2 T3 h4 vm5 K6 w7 q8 C9 C10 X11 => ?_)
  obtain ⟨n12, ⟨a13, e14, f15, f16, f17, f18⟩⟩ := q8
  subst e14
  have n19 : q0 ≠ a13 := Nat.ne_of_lt (Nat.lt_of_lt_of_le (E_q0.lt) f16)
  have n20 : q1 ≠ a13 := Nat.ne_of_lt (Nat.lt_of_lt_of_le (A_q1.lt) f16)
  have g21 : n0 ≤ a13 := Nat.le_trans X0.n f16
  have g22 : h0.size ≤ a13 := Nat.le_trans X0.g0 f16
  show Go _ _ _ _ T3 (mkF m 5 #[.val (.ref q0), .val .null, .unset, .unset, .unset, .unset] [.ref a13])
  refine kASn X11 #[.val (.ref q0), .val .null, .val (.ref a13), .unset, .unset, .unset] d4_5 rfl rfl ?_
  refine kALn X11 d4_6 rfl rfl ?_
  refine kLEN X11 f18 d4_7 ?_
  refine kISn X11 #[.val (.ref q0), .val .null, .val (.ref a13), .val (.int (2 : Int32)), .unset, .unset] d4_8 rfl ?_
  refine kIC X11 (0 : Int32) d4_9 (by decide) ?_
  refine kIS X11 #[.val (.ref q0), .val .null, .val (.ref a13), .val (.int (2 : Int32)), .val (.int (0 : Int32)), .unset] d4_10 rfl ?_
  refine kIL X11 d4_12 rfl ?_
  refine kILn X11 d4_14 rfl ?_
  refine kICf X11 d4_15 (XT.ii_ge_f (by decide)) ?_
  refine kALn X11 d4_18 rfl rfl ?_
  refine kIL X11 d4_19 rfl ?_
  refine kAALD X11 (.ref aG) f18 rfl (by decide) rfl d4_21 ?_
  refine kAS X11 #[.val (.ref q0), .val .null, .val (.ref a13), .val (.int (2 : Int32)), .val (.int (0 : Int32)), .val (.ref aG)] d4_22 rfl rfl ?_
  refine kAL X11 d4_24 rfl rfl ?_
  have f23 := (Old.keep O0 f15 all0)
  refine kGETF X11 (wd G 48 rfl) Via.refl (Fld.ext f23.2 (F_G G)) d4_26 (fun T24 X25 => ?_)
  refine kALn X25 d4_29 rfl rfl ?_
  have f26 := (Exa.keep E_q0 f15)
  have f27 := (Fld.keep F_q0_coder f15 nin0)
  have f28 := (Fld.keep F_q0_value f15 nin0)
  have f29 := (Arv.keep A_q1 f15 nin0)
  refine kVIRT X25 (gEL G) (argsL := [.ref q0]) (rest := []) (wd G 50 rfl) (wd G 51 rfl) (notFace_of_selects (args := #[]) (mvT (s := s.setVm _) X25.hZ (wd G 53 rfl))) (wd G 53 rfl) (wd G 52 rfl) (wd G 7 rfl) (wd G 54 rfl) (by decide) (Exa.ext f23.2 (ES_G G)) (rm41 l G i0 i1 i2 q0 q1 kp0 h4 X25.n f23 f26 f27 f28 f29 g_q0) all0 (fun _ _ _ _ _ q => q.1) (lenOf pd__Ljava_lang_Object__Z rfl) rfl (by decide) 0 (Nat.le_of_eq rfl) (by decide) (by decide) (by decide) (by rw [hml]; rfl) d4_30 (fun v30 L31 T32 h33 vm34 K35 w36 q37 C38 C39 X40 => ?_)
  obtain ⟨n41, (o42 | o43 | o44 | o45)⟩ := q37
  · obtain ⟨e46, f47, f48, f49, f50⟩ := o42
    subst e46
    subst f50
    show Go _ _ _ _ T32 (mkF m 33 #[.val (.ref q0), .val .null, .val (.ref a13), .val (.int (2 : Int32)), .val (.int (0 : Int32)), .val (.ref aG)] [.int (1 : Int32)])
    refine kIFf X40 d4_33 (XT.i0_eq_f (by decide)) ?_
    refine kAL X40 d4_36 rfl rfl ?_
    refine kASn X40 #[.val (.ref q0), .val (.ref aG), .val (.ref a13), .val (.int (2 : Int32)), .val (.int (0 : Int32)), .val (.ref aG)] d4_38 rfl rfl ?_
    refine kIINC X40 (1 : Int32) (1 : Int32) #[.val (.ref q0), .val (.ref aG), .val (.ref a13), .val (.int (2 : Int32)), .val (.int (1 : Int32)), .val (.ref aG)] d4_39 (by decide) rfl (by decide) rfl ?_
    refine kGOTO X40 12 d4_42 (by decide) ?_
    refine kIL X40 d4_12 rfl ?_
    refine kILn X40 d4_14 rfl ?_
    refine kICf X40 d4_15 (XT.ii_ge_f (by decide)) ?_
    refine kALn X40 d4_18 rfl rfl ?_
    refine kIL X40 d4_19 rfl ?_
    have f51 := f18
    refine kAALD X40 (.ref aN) f51 rfl (by decide) rfl d4_21 ?_
    refine kAS X40 #[.val (.ref q0), .val (.ref aG), .val (.ref a13), .val (.int (2 : Int32)), .val (.int (1 : Int32)), .val (.ref aN)] d4_22 rfl rfl ?_
    refine kAL X40 d4_24 rfl rfl ?_
    have f52 := f23
    refine kGETF X40 (wd G 48 rfl) Via.refl (Fld.ext f52.2 (F_N G)) d4_26 (fun T53 X54 => ?_)
    refine kALn X54 d4_29 rfl rfl ?_
    have f55 := f26
    have f56 := f27
    have f57 := f28
    have f58 := f29
    refine kVIRT X54 (gEL G) (argsL := [.ref q0]) (rest := []) (wd G 50 rfl) (wd G 51 rfl) (notFace_of_selects (args := #[]) (mvT (s := s.setVm _) X54.hZ (wd G 53 rfl))) (wd G 53 rfl) (wd G 52 rfl) (wd G 7 rfl) (wd G 54 rfl) (by decide) (Exa.ext f52.2 (ES_N G)) (rm43 l G i0 i1 i2 q0 q1 kp0 h4 X54.n f52 f55 f56 f57 f58 g_q0) all0 (fun _ _ _ _ _ q => q.1) (lenOf pd__Ljava_lang_Object__Z rfl) rfl (by decide) 0 (Nat.le_of_eq rfl) (by decide) (by decide) (by decide) (by rw [hml]; rfl) d4_30 (fun v59 L60 T61 h62 vm63 K64 w65 q66 C67 C68 X69 => ?_)
    obtain ⟨n70, (o71 | o72 | o73 | o74)⟩ := q66
    · obtain ⟨e75, f76, f77, f78, f79⟩ := o71
      subst e75
      subst f79
      show Go _ _ _ _ T61 (mkF m 33 #[.val (.ref q0), .val (.ref aG), .val (.ref a13), .val (.int (2 : Int32)), .val (.int (1 : Int32)), .val (.ref aN)] [.int (1 : Int32)])
      refine kIFf X69 d4_33 (XT.i0_eq_f (by decide)) ?_
      refine kAL X69 d4_36 rfl rfl ?_
      refine kASn X69 #[.val (.ref q0), .val (.ref aN), .val (.ref a13), .val (.int (2 : Int32)), .val (.int (1 : Int32)), .val (.ref aN)] d4_38 rfl rfl ?_
      refine kIINC X69 (1 : Int32) (2 : Int32) #[.val (.ref q0), .val (.ref aN), .val (.ref a13), .val (.int (2 : Int32)), .val (.int (2 : Int32)), .val (.ref aN)] d4_39 (by decide) rfl (by decide) rfl ?_
      refine kGOTO X69 12 d4_42 (by decide) ?_
      refine kIL X69 d4_12 rfl ?_
      refine kILn X69 d4_14 rfl ?_
      refine kICt X69 45 d4_15 (XT.ii_ge_t (by decide)) (by decide) ?_
      refine kALn X69 d4_45 rfl rfl ?_
      have K80 : Keep h0 h4 [] := (Keep.trans (Keep.refl h0 []) f15 all0)
      exact kRETA X69 (gEL G) hret rfl rfl d4_46 (fun ve hve => ⟨X69.N, Or.inl (⟨rfl, f47, f48, f49, f76, f77, f78, K80⟩)⟩) (by decide) (by decide)
    · obtain ⟨e81, f82, f83, f84, f85⟩ := o72
      subst e81
      subst f85
      show Go _ _ _ _ T61 (mkF m 33 #[.val (.ref q0), .val (.ref aG), .val (.ref a13), .val (.int (2 : Int32)), .val (.int (1 : Int32)), .val (.ref aN)] [.int (0 : Int32)])
      refine kIFt X69 39 d4_33 (XT.i0_eq_t (by decide)) (by decide) ?_
      refine kIINC X69 (1 : Int32) (2 : Int32) #[.val (.ref q0), .val (.ref aG), .val (.ref a13), .val (.int (2 : Int32)), .val (.int (2 : Int32)), .val (.ref aN)] d4_39 (by decide) rfl (by decide) rfl ?_
      refine kGOTO X69 12 d4_42 (by decide) ?_
      refine kIL X69 d4_12 rfl ?_
      refine kILn X69 d4_14 rfl ?_
      refine kICt X69 45 d4_15 (XT.ii_ge_t (by decide)) (by decide) ?_
      refine kALn X69 d4_45 rfl rfl ?_
      have K86 : Keep h0 h4 [] := (Keep.trans (Keep.refl h0 []) f15 all0)
      exact kRETA X69 (gEL G) hret rfl rfl d4_46 (fun ve hve => ⟨X69.N, Or.inr (Or.inl (⟨rfl, f47, f48, f49, f82, f83, f84, K86⟩))⟩) (by decide) (by decide)
    · obtain ⟨e87, f88, f89, f90⟩ := o73
      subst e87
      subst f90
      show Go _ _ _ _ T61 (mkF m 33 #[.val (.ref q0), .val (.ref aG), .val (.ref a13), .val (.int (2 : Int32)), .val (.int (1 : Int32)), .val (.ref aN)] [.int (0 : Int32)])
      refine kIFt X69 39 d4_33 (XT.i0_eq_t (by decide)) (by decide) ?_
      refine kIINC X69 (1 : Int32) (2 : Int32) #[.val (.ref q0), .val (.ref aG), .val (.ref a13), .val (.int (2 : Int32)), .val (.int (2 : Int32)), .val (.ref aN)] d4_39 (by decide) rfl (by decide) rfl ?_
      refine kGOTO X69 12 d4_42 (by decide) ?_
      refine kIL X69 d4_12 rfl ?_
      refine kILn X69 d4_14 rfl ?_
      refine kICt X69 45 d4_15 (XT.ii_ge_t (by decide)) (by decide) ?_
      refine kALn X69 d4_45 rfl rfl ?_
      have K91 : Keep h0 h4 [] := (Keep.trans (Keep.refl h0 []) f15 all0)
      exact kRETA X69 (gEL G) hret rfl rfl d4_46 (fun ve hve => ⟨X69.N, Or.inr (Or.inr (Or.inl (⟨rfl, f47, f48, f49, f88, f89, K91⟩)))⟩) (by decide) (by decide)
    · obtain ⟨e92, f93, f94⟩ := o74
      subst e92
      subst f94
      show Go _ _ _ _ T61 (mkF m 33 #[.val (.ref q0), .val (.ref aG), .val (.ref a13), .val (.int (2 : Int32)), .val (.int (1 : Int32)), .val (.ref aN)] [.int (0 : Int32)])
      refine kIFt X69 39 d4_33 (XT.i0_eq_t (by decide)) (by decide) ?_
      refine kIINC X69 (1 : Int32) (2 : Int32) #[.val (.ref q0), .val (.ref aG), .val (.ref a13), .val (.int (2 : Int32)), .val (.int (2 : Int32)), .val (.ref aN)] d4_39 (by decide) rfl (by decide) rfl ?_
      refine kGOTO X69 12 d4_42 (by decide) ?_
      refine kIL X69 d4_12 rfl ?_
      refine kILn X69 d4_14 rfl ?_
      refine kICt X69 45 d4_15 (XT.ii_ge_t (by decide)) (by decide) ?_
      refine kALn X69 d4_45 rfl rfl ?_
      have K95 : Keep h0 h4 [] := (Keep.trans (Keep.refl h0 []) f15 all0)
      exact kRETA X69 (gEL G) hret rfl rfl d4_46 (fun ve hve => ⟨X69.N, Or.inr (Or.inr (Or.inr (Or.inl (⟨rfl, f47, f48, f49, f93, K95⟩))))⟩) (by decide) (by decide)
  · obtain ⟨e96, f97, f98, f99, f100⟩ := o43
    subst e96
    subst f100
    show Go _ _ _ _ T32 (mkF m 33 #[.val (.ref q0), .val .null, .val (.ref a13), .val (.int (2 : Int32)), .val (.int (0 : Int32)), .val (.ref aG)] [.int (0 : Int32)])
    refine kIFt X40 39 d4_33 (XT.i0_eq_t (by decide)) (by decide) ?_
    refine kIINC X40 (1 : Int32) (1 : Int32) #[.val (.ref q0), .val .null, .val (.ref a13), .val (.int (2 : Int32)), .val (.int (1 : Int32)), .val (.ref aG)] d4_39 (by decide) rfl (by decide) rfl ?_
    refine kGOTO X40 12 d4_42 (by decide) ?_
    refine kIL X40 d4_12 rfl ?_
    refine kILn X40 d4_14 rfl ?_
    refine kICf X40 d4_15 (XT.ii_ge_f (by decide)) ?_
    refine kALn X40 d4_18 rfl rfl ?_
    refine kIL X40 d4_19 rfl ?_
    have f101 := f18
    refine kAALD X40 (.ref aN) f101 rfl (by decide) rfl d4_21 ?_
    refine kAS X40 #[.val (.ref q0), .val .null, .val (.ref a13), .val (.int (2 : Int32)), .val (.int (1 : Int32)), .val (.ref aN)] d4_22 rfl rfl ?_
    refine kAL X40 d4_24 rfl rfl ?_
    have f102 := f23
    refine kGETF X40 (wd G 48 rfl) Via.refl (Fld.ext f102.2 (F_N G)) d4_26 (fun T103 X104 => ?_)
    refine kALn X104 d4_29 rfl rfl ?_
    have f105 := f26
    have f106 := f27
    have f107 := f28
    have f108 := f29
    refine kVIRT X104 (gEL G) (argsL := [.ref q0]) (rest := []) (wd G 50 rfl) (wd G 51 rfl) (notFace_of_selects (args := #[]) (mvT (s := s.setVm _) X104.hZ (wd G 53 rfl))) (wd G 53 rfl) (wd G 52 rfl) (wd G 7 rfl) (wd G 54 rfl) (by decide) (Exa.ext f102.2 (ES_N G)) (rm43 l G i0 i1 i2 q0 q1 kp0 h4 X104.n f102 f105 f106 f107 f108 g_q0) all0 (fun _ _ _ _ _ q => q.1) (lenOf pd__Ljava_lang_Object__Z rfl) rfl (by decide) 0 (Nat.le_of_eq rfl) (by decide) (by decide) (by decide) (by rw [hml]; rfl) d4_30 (fun v109 L110 T111 h112 vm113 K114 w115 q116 C117 C118 X119 => ?_)
    obtain ⟨n120, (o121 | o122 | o123 | o124)⟩ := q116
    · obtain ⟨e125, f126, f127, f128, f129⟩ := o121
      subst e125
      subst f129
      show Go _ _ _ _ T111 (mkF m 33 #[.val (.ref q0), .val .null, .val (.ref a13), .val (.int (2 : Int32)), .val (.int (1 : Int32)), .val (.ref aN)] [.int (1 : Int32)])
      refine kIFf X119 d4_33 (XT.i0_eq_f (by decide)) ?_
      refine kAL X119 d4_36 rfl rfl ?_
      refine kASn X119 #[.val (.ref q0), .val (.ref aN), .val (.ref a13), .val (.int (2 : Int32)), .val (.int (1 : Int32)), .val (.ref aN)] d4_38 rfl rfl ?_
      refine kIINC X119 (1 : Int32) (2 : Int32) #[.val (.ref q0), .val (.ref aN), .val (.ref a13), .val (.int (2 : Int32)), .val (.int (2 : Int32)), .val (.ref aN)] d4_39 (by decide) rfl (by decide) rfl ?_
      refine kGOTO X119 12 d4_42 (by decide) ?_
      refine kIL X119 d4_12 rfl ?_
      refine kILn X119 d4_14 rfl ?_
      refine kICt X119 45 d4_15 (XT.ii_ge_t (by decide)) (by decide) ?_
      refine kALn X119 d4_45 rfl rfl ?_
      have K130 : Keep h0 h4 [] := (Keep.trans (Keep.refl h0 []) f15 all0)
      exact kRETA X119 (gEL G) hret rfl rfl d4_46 (fun ve hve => ⟨X119.N, Or.inr (Or.inr (Or.inr (Or.inr (Or.inl (⟨rfl, f97, f98, f99, f126, f127, f128, K130⟩)))))⟩) (by decide) (by decide)
    · obtain ⟨e131, f132, f133, f134, f135⟩ := o122
      subst e131
      subst f135
      show Go _ _ _ _ T111 (mkF m 33 #[.val (.ref q0), .val .null, .val (.ref a13), .val (.int (2 : Int32)), .val (.int (1 : Int32)), .val (.ref aN)] [.int (0 : Int32)])
      refine kIFt X119 39 d4_33 (XT.i0_eq_t (by decide)) (by decide) ?_
      refine kIINC X119 (1 : Int32) (2 : Int32) #[.val (.ref q0), .val .null, .val (.ref a13), .val (.int (2 : Int32)), .val (.int (2 : Int32)), .val (.ref aN)] d4_39 (by decide) rfl (by decide) rfl ?_
      refine kGOTO X119 12 d4_42 (by decide) ?_
      refine kIL X119 d4_12 rfl ?_
      refine kILn X119 d4_14 rfl ?_
      refine kICt X119 45 d4_15 (XT.ii_ge_t (by decide)) (by decide) ?_
      refine kALn X119 d4_45 rfl rfl ?_
      have K136 : Keep h0 h4 [] := (Keep.trans (Keep.refl h0 []) f15 all0)
      exact kRETA X119 (gEL G) hret rfl rfl d4_46 (fun ve hve => ⟨X119.N, Or.inr (Or.inr (Or.inr (Or.inr (Or.inr (Or.inl (⟨rfl, f97, f98, f99, f132, f133, f134, K136⟩))))))⟩) (by decide) (by decide)
    · obtain ⟨e137, f138, f139, f140⟩ := o123
      subst e137
      subst f140
      show Go _ _ _ _ T111 (mkF m 33 #[.val (.ref q0), .val .null, .val (.ref a13), .val (.int (2 : Int32)), .val (.int (1 : Int32)), .val (.ref aN)] [.int (0 : Int32)])
      refine kIFt X119 39 d4_33 (XT.i0_eq_t (by decide)) (by decide) ?_
      refine kIINC X119 (1 : Int32) (2 : Int32) #[.val (.ref q0), .val .null, .val (.ref a13), .val (.int (2 : Int32)), .val (.int (2 : Int32)), .val (.ref aN)] d4_39 (by decide) rfl (by decide) rfl ?_
      refine kGOTO X119 12 d4_42 (by decide) ?_
      refine kIL X119 d4_12 rfl ?_
      refine kILn X119 d4_14 rfl ?_
      refine kICt X119 45 d4_15 (XT.ii_ge_t (by decide)) (by decide) ?_
      refine kALn X119 d4_45 rfl rfl ?_
      have K141 : Keep h0 h4 [] := (Keep.trans (Keep.refl h0 []) f15 all0)
      exact kRETA X119 (gEL G) hret rfl rfl d4_46 (fun ve hve => ⟨X119.N, Or.inr (Or.inr (Or.inr (Or.inr (Or.inr (Or.inr (Or.inl (⟨rfl, f97, f98, f99, f138, f139, K141⟩)))))))⟩) (by decide) (by decide)
    · obtain ⟨e142, f143, f144⟩ := o124
      subst e142
      subst f144
      show Go _ _ _ _ T111 (mkF m 33 #[.val (.ref q0), .val .null, .val (.ref a13), .val (.int (2 : Int32)), .val (.int (1 : Int32)), .val (.ref aN)] [.int (0 : Int32)])
      refine kIFt X119 39 d4_33 (XT.i0_eq_t (by decide)) (by decide) ?_
      refine kIINC X119 (1 : Int32) (2 : Int32) #[.val (.ref q0), .val .null, .val (.ref a13), .val (.int (2 : Int32)), .val (.int (2 : Int32)), .val (.ref aN)] d4_39 (by decide) rfl (by decide) rfl ?_
      refine kGOTO X119 12 d4_42 (by decide) ?_
      refine kIL X119 d4_12 rfl ?_
      refine kILn X119 d4_14 rfl ?_
      refine kICt X119 45 d4_15 (XT.ii_ge_t (by decide)) (by decide) ?_
      refine kALn X119 d4_45 rfl rfl ?_
      have K145 : Keep h0 h4 [] := (Keep.trans (Keep.refl h0 []) f15 all0)
      exact kRETA X119 (gEL G) hret rfl rfl d4_46 (fun ve hve => ⟨X119.N, Or.inr (Or.inr (Or.inr (Or.inr (Or.inr (Or.inr (Or.inr (Or.inl (⟨rfl, f97, f98, f99, f143, K145⟩))))))))⟩) (by decide) (by decide)
  · obtain ⟨e146, f147, f148, f149⟩ := o44
    subst e146
    subst f149
    show Go _ _ _ _ T32 (mkF m 33 #[.val (.ref q0), .val .null, .val (.ref a13), .val (.int (2 : Int32)), .val (.int (0 : Int32)), .val (.ref aG)] [.int (0 : Int32)])
    refine kIFt X40 39 d4_33 (XT.i0_eq_t (by decide)) (by decide) ?_
    refine kIINC X40 (1 : Int32) (1 : Int32) #[.val (.ref q0), .val .null, .val (.ref a13), .val (.int (2 : Int32)), .val (.int (1 : Int32)), .val (.ref aG)] d4_39 (by decide) rfl (by decide) rfl ?_
    refine kGOTO X40 12 d4_42 (by decide) ?_
    refine kIL X40 d4_12 rfl ?_
    refine kILn X40 d4_14 rfl ?_
    refine kICf X40 d4_15 (XT.ii_ge_f (by decide)) ?_
    refine kALn X40 d4_18 rfl rfl ?_
    refine kIL X40 d4_19 rfl ?_
    have f150 := f18
    refine kAALD X40 (.ref aN) f150 rfl (by decide) rfl d4_21 ?_
    refine kAS X40 #[.val (.ref q0), .val .null, .val (.ref a13), .val (.int (2 : Int32)), .val (.int (1 : Int32)), .val (.ref aN)] d4_22 rfl rfl ?_
    refine kAL X40 d4_24 rfl rfl ?_
    have f151 := f23
    refine kGETF X40 (wd G 48 rfl) Via.refl (Fld.ext f151.2 (F_N G)) d4_26 (fun T152 X153 => ?_)
    refine kALn X153 d4_29 rfl rfl ?_
    have f154 := f26
    have f155 := f27
    have f156 := f28
    have f157 := f29
    refine kVIRT X153 (gEL G) (argsL := [.ref q0]) (rest := []) (wd G 50 rfl) (wd G 51 rfl) (notFace_of_selects (args := #[]) (mvT (s := s.setVm _) X153.hZ (wd G 53 rfl))) (wd G 53 rfl) (wd G 52 rfl) (wd G 7 rfl) (wd G 54 rfl) (by decide) (Exa.ext f151.2 (ES_N G)) (rm43 l G i0 i1 i2 q0 q1 kp0 h4 X153.n f151 f154 f155 f156 f157 g_q0) all0 (fun _ _ _ _ _ q => q.1) (lenOf pd__Ljava_lang_Object__Z rfl) rfl (by decide) 0 (Nat.le_of_eq rfl) (by decide) (by decide) (by decide) (by rw [hml]; rfl) d4_30 (fun v158 L159 T160 h161 vm162 K163 w164 q165 C166 C167 X168 => ?_)
    obtain ⟨n169, (o170 | o171 | o172 | o173)⟩ := q165
    · obtain ⟨e174, f175, f176, f177, f178⟩ := o170
      subst e174
      subst f178
      show Go _ _ _ _ T160 (mkF m 33 #[.val (.ref q0), .val .null, .val (.ref a13), .val (.int (2 : Int32)), .val (.int (1 : Int32)), .val (.ref aN)] [.int (1 : Int32)])
      refine kIFf X168 d4_33 (XT.i0_eq_f (by decide)) ?_
      refine kAL X168 d4_36 rfl rfl ?_
      refine kASn X168 #[.val (.ref q0), .val (.ref aN), .val (.ref a13), .val (.int (2 : Int32)), .val (.int (1 : Int32)), .val (.ref aN)] d4_38 rfl rfl ?_
      refine kIINC X168 (1 : Int32) (2 : Int32) #[.val (.ref q0), .val (.ref aN), .val (.ref a13), .val (.int (2 : Int32)), .val (.int (2 : Int32)), .val (.ref aN)] d4_39 (by decide) rfl (by decide) rfl ?_
      refine kGOTO X168 12 d4_42 (by decide) ?_
      refine kIL X168 d4_12 rfl ?_
      refine kILn X168 d4_14 rfl ?_
      refine kICt X168 45 d4_15 (XT.ii_ge_t (by decide)) (by decide) ?_
      refine kALn X168 d4_45 rfl rfl ?_
      have K179 : Keep h0 h4 [] := (Keep.trans (Keep.refl h0 []) f15 all0)
      exact kRETA X168 (gEL G) hret rfl rfl d4_46 (fun ve hve => ⟨X168.N, Or.inr (Or.inr (Or.inr (Or.inr (Or.inr (Or.inr (Or.inr (Or.inr (Or.inl (⟨rfl, f147, f148, f175, f176, f177, K179⟩)))))))))⟩) (by decide) (by decide)
    · obtain ⟨e180, f181, f182, f183, f184⟩ := o171
      subst e180
      subst f184
      show Go _ _ _ _ T160 (mkF m 33 #[.val (.ref q0), .val .null, .val (.ref a13), .val (.int (2 : Int32)), .val (.int (1 : Int32)), .val (.ref aN)] [.int (0 : Int32)])
      refine kIFt X168 39 d4_33 (XT.i0_eq_t (by decide)) (by decide) ?_
      refine kIINC X168 (1 : Int32) (2 : Int32) #[.val (.ref q0), .val .null, .val (.ref a13), .val (.int (2 : Int32)), .val (.int (2 : Int32)), .val (.ref aN)] d4_39 (by decide) rfl (by decide) rfl ?_
      refine kGOTO X168 12 d4_42 (by decide) ?_
      refine kIL X168 d4_12 rfl ?_
      refine kILn X168 d4_14 rfl ?_
      refine kICt X168 45 d4_15 (XT.ii_ge_t (by decide)) (by decide) ?_
      refine kALn X168 d4_45 rfl rfl ?_
      have K185 : Keep h0 h4 [] := (Keep.trans (Keep.refl h0 []) f15 all0)
      exact kRETA X168 (gEL G) hret rfl rfl d4_46 (fun ve hve => ⟨X168.N, Or.inr (Or.inr (Or.inr (Or.inr (Or.inr (Or.inr (Or.inr (Or.inr (Or.inr (Or.inl (⟨rfl, f147, f148, f181, f182, f183, K185⟩))))))))))⟩) (by decide) (by decide)
    · obtain ⟨e186, f187, f188, f189⟩ := o172
      subst e186
      subst f189
      show Go _ _ _ _ T160 (mkF m 33 #[.val (.ref q0), .val .null, .val (.ref a13), .val (.int (2 : Int32)), .val (.int (1 : Int32)), .val (.ref aN)] [.int (0 : Int32)])
      refine kIFt X168 39 d4_33 (XT.i0_eq_t (by decide)) (by decide) ?_
      refine kIINC X168 (1 : Int32) (2 : Int32) #[.val (.ref q0), .val .null, .val (.ref a13), .val (.int (2 : Int32)), .val (.int (2 : Int32)), .val (.ref aN)] d4_39 (by decide) rfl (by decide) rfl ?_
      refine kGOTO X168 12 d4_42 (by decide) ?_
      refine kIL X168 d4_12 rfl ?_
      refine kILn X168 d4_14 rfl ?_
      refine kICt X168 45 d4_15 (XT.ii_ge_t (by decide)) (by decide) ?_
      refine kALn X168 d4_45 rfl rfl ?_
      have K190 : Keep h0 h4 [] := (Keep.trans (Keep.refl h0 []) f15 all0)
      exact kRETA X168 (gEL G) hret rfl rfl d4_46 (fun ve hve => ⟨X168.N, Or.inr (Or.inr (Or.inr (Or.inr (Or.inr (Or.inr (Or.inr (Or.inr (Or.inr (Or.inr (Or.inl (⟨rfl, f147, f148, f187, f188, K190⟩)))))))))))⟩) (by decide) (by decide)
    · obtain ⟨e191, f192, f193⟩ := o173
      subst e191
      subst f193
      show Go _ _ _ _ T160 (mkF m 33 #[.val (.ref q0), .val .null, .val (.ref a13), .val (.int (2 : Int32)), .val (.int (1 : Int32)), .val (.ref aN)] [.int (0 : Int32)])
      refine kIFt X168 39 d4_33 (XT.i0_eq_t (by decide)) (by decide) ?_
      refine kIINC X168 (1 : Int32) (2 : Int32) #[.val (.ref q0), .val .null, .val (.ref a13), .val (.int (2 : Int32)), .val (.int (2 : Int32)), .val (.ref aN)] d4_39 (by decide) rfl (by decide) rfl ?_
      refine kGOTO X168 12 d4_42 (by decide) ?_
      refine kIL X168 d4_12 rfl ?_
      refine kILn X168 d4_14 rfl ?_
      refine kICt X168 45 d4_15 (XT.ii_ge_t (by decide)) (by decide) ?_
      refine kALn X168 d4_45 rfl rfl ?_
      have K194 : Keep h0 h4 [] := (Keep.trans (Keep.refl h0 []) f15 all0)
      exact kRETA X168 (gEL G) hret rfl rfl d4_46 (fun ve hve => ⟨X168.N, Or.inr (Or.inr (Or.inr (Or.inr (Or.inr (Or.inr (Or.inr (Or.inr (Or.inr (Or.inr (Or.inr (Or.inl (⟨rfl, f147, f148, f192, K194⟩))))))))))))⟩) (by decide) (by decide)
  · obtain ⟨e195, f196, f197⟩ := o45
    subst e195
    subst f197
    show Go _ _ _ _ T32 (mkF m 33 #[.val (.ref q0), .val .null, .val (.ref a13), .val (.int (2 : Int32)), .val (.int (0 : Int32)), .val (.ref aG)] [.int (0 : Int32)])
    refine kIFt X40 39 d4_33 (XT.i0_eq_t (by decide)) (by decide) ?_
    refine kIINC X40 (1 : Int32) (1 : Int32) #[.val (.ref q0), .val .null, .val (.ref a13), .val (.int (2 : Int32)), .val (.int (1 : Int32)), .val (.ref aG)] d4_39 (by decide) rfl (by decide) rfl ?_
    refine kGOTO X40 12 d4_42 (by decide) ?_
    refine kIL X40 d4_12 rfl ?_
    refine kILn X40 d4_14 rfl ?_
    refine kICf X40 d4_15 (XT.ii_ge_f (by decide)) ?_
    refine kALn X40 d4_18 rfl rfl ?_
    refine kIL X40 d4_19 rfl ?_
    have f198 := f18
    refine kAALD X40 (.ref aN) f198 rfl (by decide) rfl d4_21 ?_
    refine kAS X40 #[.val (.ref q0), .val .null, .val (.ref a13), .val (.int (2 : Int32)), .val (.int (1 : Int32)), .val (.ref aN)] d4_22 rfl rfl ?_
    refine kAL X40 d4_24 rfl rfl ?_
    have f199 := f23
    refine kGETF X40 (wd G 48 rfl) Via.refl (Fld.ext f199.2 (F_N G)) d4_26 (fun T200 X201 => ?_)
    refine kALn X201 d4_29 rfl rfl ?_
    have f202 := f26
    have f203 := f27
    have f204 := f28
    have f205 := f29
    refine kVIRT X201 (gEL G) (argsL := [.ref q0]) (rest := []) (wd G 50 rfl) (wd G 51 rfl) (notFace_of_selects (args := #[]) (mvT (s := s.setVm _) X201.hZ (wd G 53 rfl))) (wd G 53 rfl) (wd G 52 rfl) (wd G 7 rfl) (wd G 54 rfl) (by decide) (Exa.ext f199.2 (ES_N G)) (rm43 l G i0 i1 i2 q0 q1 kp0 h4 X201.n f199 f202 f203 f204 f205 g_q0) all0 (fun _ _ _ _ _ q => q.1) (lenOf pd__Ljava_lang_Object__Z rfl) rfl (by decide) 0 (Nat.le_of_eq rfl) (by decide) (by decide) (by decide) (by rw [hml]; rfl) d4_30 (fun v206 L207 T208 h209 vm210 K211 w212 q213 C214 C215 X216 => ?_)
    obtain ⟨n217, (o218 | o219 | o220 | o221)⟩ := q213
    · obtain ⟨e222, f223, f224, f225, f226⟩ := o218
      subst e222
      subst f226
      show Go _ _ _ _ T208 (mkF m 33 #[.val (.ref q0), .val .null, .val (.ref a13), .val (.int (2 : Int32)), .val (.int (1 : Int32)), .val (.ref aN)] [.int (1 : Int32)])
      refine kIFf X216 d4_33 (XT.i0_eq_f (by decide)) ?_
      refine kAL X216 d4_36 rfl rfl ?_
      refine kASn X216 #[.val (.ref q0), .val (.ref aN), .val (.ref a13), .val (.int (2 : Int32)), .val (.int (1 : Int32)), .val (.ref aN)] d4_38 rfl rfl ?_
      refine kIINC X216 (1 : Int32) (2 : Int32) #[.val (.ref q0), .val (.ref aN), .val (.ref a13), .val (.int (2 : Int32)), .val (.int (2 : Int32)), .val (.ref aN)] d4_39 (by decide) rfl (by decide) rfl ?_
      refine kGOTO X216 12 d4_42 (by decide) ?_
      refine kIL X216 d4_12 rfl ?_
      refine kILn X216 d4_14 rfl ?_
      refine kICt X216 45 d4_15 (XT.ii_ge_t (by decide)) (by decide) ?_
      refine kALn X216 d4_45 rfl rfl ?_
      have K227 : Keep h0 h4 [] := (Keep.trans (Keep.refl h0 []) f15 all0)
      exact kRETA X216 (gEL G) hret rfl rfl d4_46 (fun ve hve => ⟨X216.N, Or.inr (Or.inr (Or.inr (Or.inr (Or.inr (Or.inr (Or.inr (Or.inr (Or.inr (Or.inr (Or.inr (Or.inr (Or.inl (⟨rfl, f196, f223, f224, f225, K227⟩)))))))))))))⟩) (by decide) (by decide)
    · obtain ⟨e228, f229, f230, f231, f232⟩ := o219
      subst e228
      subst f232
      show Go _ _ _ _ T208 (mkF m 33 #[.val (.ref q0), .val .null, .val (.ref a13), .val (.int (2 : Int32)), .val (.int (1 : Int32)), .val (.ref aN)] [.int (0 : Int32)])
      refine kIFt X216 39 d4_33 (XT.i0_eq_t (by decide)) (by decide) ?_
      refine kIINC X216 (1 : Int32) (2 : Int32) #[.val (.ref q0), .val .null, .val (.ref a13), .val (.int (2 : Int32)), .val (.int (2 : Int32)), .val (.ref aN)] d4_39 (by decide) rfl (by decide) rfl ?_
      refine kGOTO X216 12 d4_42 (by decide) ?_
      refine kIL X216 d4_12 rfl ?_
      refine kILn X216 d4_14 rfl ?_
      refine kICt X216 45 d4_15 (XT.ii_ge_t (by decide)) (by decide) ?_
      refine kALn X216 d4_45 rfl rfl ?_
      have K233 : Keep h0 h4 [] := (Keep.trans (Keep.refl h0 []) f15 all0)
      exact kRETA X216 (gEL G) hret rfl rfl d4_46 (fun ve hve => ⟨X216.N, Or.inr (Or.inr (Or.inr (Or.inr (Or.inr (Or.inr (Or.inr (Or.inr (Or.inr (Or.inr (Or.inr (Or.inr (Or.inr (Or.inl (⟨rfl, f196, f229, f230, f231, K233⟩))))))))))))))⟩) (by decide) (by decide)
    · obtain ⟨e234, f235, f236, f237⟩ := o220
      subst e234
      subst f237
      show Go _ _ _ _ T208 (mkF m 33 #[.val (.ref q0), .val .null, .val (.ref a13), .val (.int (2 : Int32)), .val (.int (1 : Int32)), .val (.ref aN)] [.int (0 : Int32)])
      refine kIFt X216 39 d4_33 (XT.i0_eq_t (by decide)) (by decide) ?_
      refine kIINC X216 (1 : Int32) (2 : Int32) #[.val (.ref q0), .val .null, .val (.ref a13), .val (.int (2 : Int32)), .val (.int (2 : Int32)), .val (.ref aN)] d4_39 (by decide) rfl (by decide) rfl ?_
      refine kGOTO X216 12 d4_42 (by decide) ?_
      refine kIL X216 d4_12 rfl ?_
      refine kILn X216 d4_14 rfl ?_
      refine kICt X216 45 d4_15 (XT.ii_ge_t (by decide)) (by decide) ?_
      refine kALn X216 d4_45 rfl rfl ?_
      have K238 : Keep h0 h4 [] := (Keep.trans (Keep.refl h0 []) f15 all0)
      exact kRETA X216 (gEL G) hret rfl rfl d4_46 (fun ve hve => ⟨X216.N, Or.inr (Or.inr (Or.inr (Or.inr (Or.inr (Or.inr (Or.inr (Or.inr (Or.inr (Or.inr (Or.inr (Or.inr (Or.inr (Or.inr (Or.inl (⟨rfl, f196, f235, f236, K238⟩)))))))))))))))⟩) (by decide) (by decide)
    · obtain ⟨e239, f240, f241⟩ := o221
      subst e239
      subst f241
      show Go _ _ _ _ T208 (mkF m 33 #[.val (.ref q0), .val .null, .val (.ref a13), .val (.int (2 : Int32)), .val (.int (1 : Int32)), .val (.ref aN)] [.int (0 : Int32)])
      refine kIFt X216 39 d4_33 (XT.i0_eq_t (by decide)) (by decide) ?_
      refine kIINC X216 (1 : Int32) (2 : Int32) #[.val (.ref q0), .val .null, .val (.ref a13), .val (.int (2 : Int32)), .val (.int (2 : Int32)), .val (.ref aN)] d4_39 (by decide) rfl (by decide) rfl ?_
      refine kGOTO X216 12 d4_42 (by decide) ?_
      refine kIL X216 d4_12 rfl ?_
      refine kILn X216 d4_14 rfl ?_
      refine kICt X216 45 d4_15 (XT.ii_ge_t (by decide)) (by decide) ?_
      refine kALn X216 d4_45 rfl rfl ?_
      have K242 : Keep h0 h4 [] := (Keep.trans (Keep.refl h0 []) f15 all0)
      exact kRETA X216 (gEL G) hret rfl rfl d4_46 (fun ve hve => ⟨X216.N, Or.inr (Or.inr (Or.inr (Or.inr (Or.inr (Or.inr (Or.inr (Or.inr (Or.inr (Or.inr (Or.inr (Or.inr (Or.inr (Or.inr (Or.inr (⟨rfl, f196, f240, K242⟩)))))))))))))))⟩) (by decide) (by decide)
def Q_rm48 (Z : State) (iCS : Int32) (aV : Addr) (aG : Addr) (aN : Addr) (tG : Addr) (tN : Addr) (bG : Addr) (bN : Addr) (kV : ClassId) (kG : ClassId) (kN : ClassId) (i0 : Int32) (i1 : Int32) (i2 : Int32) (i3 : Int32) (q0 : Addr) (q1 : Addr) (kp0 : ClassId) (kp1 : ClassId) (h0 : Heap) (n0 : Nat) (vs : Vm) (v : Option Value) (h : Heap) (L : List Loc) (ve : Vm) : Prop := Fr n0 L ∧ ((v = some (.int (4 : Int32)) ∧ (Keep h0 h [q1]) ∧ (Arv Z h q1 kp1 .byte 4 [.int (ownB i0), .int (ownB i1), .int (ownB i2), .int (ownB i3)] (.int (0 : Int32)))))
def R_rm48 : Room := { frames := 0, cells := 0, slots := 0, locals := 0 }
set_option maxRecDepth 65536 in
set_option maxHeartbeats 4000000 in
theorem rm48 (l : Launch) {Z : State} {a0 : Array Value} {iCS : Int32} {aV : Addr} {aG : Addr} {aN : Addr} {tG : Addr} {tN : Addr} {bG : Addr} {bN : Addr} {kV : ClassId} {kG : ClassId} {kN : ClassId} (G : Glob Z a0 iCS aV aG aN tG tN bG bN kV kG kN) (i0 : Int32) (i1 : Int32) (i2 : Int32) (i3 : Int32) (q0 : Addr) (q1 : Addr) (kp0 : ClassId) (kp1 : ClassId) (h0 : Heap) {n0 : Nat} (Z0 : n0 ≤ h0.size) (O0 : Old Z n0 h0) (A_q0 : Arv Z h0 q0 kp0 .char 4 [.int i0, .int i1, .int i2, .int i3] (.int (0 : Int32))) (c_0 : ¬ (255 : Int32) < i0) (A_q1 : Arv Z h0 q1 kp1 .byte 4 [.int (0 : Int32), .int (0 : Int32), .int (0 : Int32), .int (0 : Int32)] (.int (0 : Int32))) (d_q0_q1 : q0 ≠ q1) (c_1 : ¬ (255 : Int32) < i1) (c_2 : ¬ (255 : Int32) < i2) (c_3 : ¬ (255 : Int32) < i3) (g_q1 : n0 ≤ q1) :
    MetH l Z EL0 (⟨"java/lang/StringUTF16", "compress", "([CI[BII)I"⟩ : MethodName) jdk_52_method_21_code 7 (some .int) [] R_rm48 #[.ref q0, .int (0 : Int32), .ref q1, .int (0 : Int32), .int (4 : Int32)] h0 [q1] (Q_rm48 Z iCS aV aG aN tG tN bG bN kV kG kN i0 i1 i2 i3 q0 q1 kp0 kp1 h0 n0) := by
  refine MetH.of (n0 := n0) #[.val (.ref q0), .val (.int (0 : Int32)), .val (.ref q1), .val (.int (0 : Int32)), .val (.int (4 : Int32)), .unset, .unset] pn_java_lang_StringUTF16 rfl Z0 (fun p e s m below meth c T0 hret hml hnm hSL hs0 X0 => ?_)
  have S_q1 := hSL q1 (List.mem_of_getElem? (i := 0) rfl)
  refine kIC X0 (0 : Int32) d9_0 (by decide) ?_
  refine kIS X0 #[.val (.ref q0), .val (.int (0 : Int32)), .val (.ref q1), .val (.int (0 : Int32)), .val (.int (4 : Int32)), .val (.int (0 : Int32)), .unset] d9_1 rfl ?_
  refine kIL X0 d9_3 rfl ?_
  refine kIL X0 d9_5 rfl ?_
  refine kICf X0 d9_7 (XT.ii_ge_f (by decide)) ?_
  refine kALn X0 d9_10 rfl rfl ?_
  refine kILn X0 d9_11 rfl ?_
  refine kCALD X0 (.int i0) A_q0 (by decide) rfl d9_12 ?_
  refine kIS X0 #[.val (.ref q0), .val (.int (0 : Int32)), .val (.ref q1), .val (.int (0 : Int32)), .val (.int (4 : Int32)), .val (.int (0 : Int32)), .val (.int i0)] d9_13 rfl ?_
  refine kIL X0 d9_15 rfl ?_
  refine kSI X0 (255 : Int32) d9_17 (by decide) ?_
  refine kICt X0 26 d9_20 (XT.ii_le_t c_0) (by decide) ?_
  refine kALn X0 d9_26 rfl rfl ?_
  refine kILn X0 d9_27 rfl ?_
  refine kIL X0 d9_28 rfl ?_
  refine kI2B X0 (ownB i0) d9_30 rfl ?_
  refine kBASTO X0 A_q1 (by decide) 0 (ownB i0) (own_nb _) (by decide) (by show 0 < 4; decide) g_q1 S_q1 d9_31 (fun T1 h2 L4 W5 f6 X3 => ?_)
  have f7 : Arv Z h2 q1 kp1 .byte 4 [.int (ownB i0), .int (0 : Int32), .int (0 : Int32), .int (0 : Int32)] (.int (0 : Int32)) := f6
  refine kIINC X3 (1 : Int32) (1 : Int32) #[.val (.ref q0), .val (.int (1 : Int32)), .val (.ref q1), .val (.int (0 : Int32)), .val (.int (4 : Int32)), .val (.int (0 : Int32)), .val (.int i0)] d9_32 (by decide) rfl (by decide) rfl ?_
  refine kIINC X3 (1 : Int32) (1 : Int32) #[.val (.ref q0), .val (.int (1 : Int32)), .val (.ref q1), .val (.int (1 : Int32)), .val (.int (4 : Int32)), .val (.int (0 : Int32)), .val (.int i0)] d9_35 (by decide) rfl (by decide) rfl ?_
  refine kIINC X3 (1 : Int32) (1 : Int32) #[.val (.ref q0), .val (.int (1 : Int32)), .val (.ref q1), .val (.int (1 : Int32)), .val (.int (4 : Int32)), .val (.int (1 : Int32)), .val (.int i0)] d9_38 (by decide) rfl (by decide) rfl ?_
  refine kGOTO X3 3 d9_41 (by decide) ?_
  refine kIL X3 d9_3 rfl ?_
  refine kIL X3 d9_5 rfl ?_
  refine kICf X3 d9_7 (XT.ii_ge_f (by decide)) ?_
  refine kALn X3 d9_10 rfl rfl ?_
  refine kILn X3 d9_11 rfl ?_
  have f8 := (Arv.other A_q0 W5 d_q0_q1)
  refine kCALD X3 (.int i1) f8 (by decide) rfl d9_12 ?_
  refine kIS X3 #[.val (.ref q0), .val (.int (1 : Int32)), .val (.ref q1), .val (.int (1 : Int32)), .val (.int (4 : Int32)), .val (.int (1 : Int32)), .val (.int i1)] d9_13 rfl ?_
  refine kIL X3 d9_15 rfl ?_
  refine kSI X3 (255 : Int32) d9_17 (by decide) ?_
  refine kICt X3 26 d9_20 (XT.ii_le_t c_1) (by decide) ?_
  refine kALn X3 d9_26 rfl rfl ?_
  refine kILn X3 d9_27 rfl ?_
  refine kIL X3 d9_28 rfl ?_
  refine kI2B X3 (ownB i1) d9_30 rfl ?_
  have f9 := (Safe.wr W5 S_q1 X0.C.1 S_q1)
  refine kBASTO X3 f7 (by decide) 1 (ownB i1) (own_nb _) (by decide) (by show 1 < 4; decide) g_q1 f9 d9_31 (fun T10 h11 L13 W14 f15 X12 => ?_)
  have f16 : Arv Z h11 q1 kp1 .byte 4 [.int (ownB i0), .int (ownB i1), .int (0 : Int32), .int (0 : Int32)] (.int (0 : Int32)) := f15
  refine kIINC X12 (1 : Int32) (2 : Int32) #[.val (.ref q0), .val (.int (2 : Int32)), .val (.ref q1), .val (.int (1 : Int32)), .val (.int (4 : Int32)), .val (.int (1 : Int32)), .val (.int i1)] d9_32 (by decide) rfl (by decide) rfl ?_
  refine kIINC X12 (1 : Int32) (2 : Int32) #[.val (.ref q0), .val (.int (2 : Int32)), .val (.ref q1), .val (.int (2 : Int32)), .val (.int (4 : Int32)), .val (.int (1 : Int32)), .val (.int i1)] d9_35 (by decide) rfl (by decide) rfl ?_
  refine kIINC X12 (1 : Int32) (2 : Int32) #[.val (.ref q0), .val (.int (2 : Int32)), .val (.ref q1), .val (.int (2 : Int32)), .val (.int (4 : Int32)), .val (.int (2 : Int32)), .val (.int i1)] d9_38 (by decide) rfl (by decide) rfl ?_
  refine kGOTO X12 3 d9_41 (by decide) ?_
  refine kIL X12 d9_3 rfl ?_
  refine kIL X12 d9_5 rfl ?_
  refine kICf X12 d9_7 (XT.ii_ge_f (by decide)) ?_
  refine kALn X12 d9_10 rfl rfl ?_
  refine kILn X12 d9_11 rfl ?_
  have f17 := (Arv.other f8 W14 d_q0_q1)
  refine kCALD X12 (.int i2) f17 (by decide) rfl d9_12 ?_
  refine kIS X12 #[.val (.ref q0), .val (.int (2 : Int32)), .val (.ref q1), .val (.int (2 : Int32)), .val (.int (4 : Int32)), .val (.int (2 : Int32)), .val (.int i2)] d9_13 rfl ?_
  refine kIL X12 d9_15 rfl ?_
  refine kSI X12 (255 : Int32) d9_17 (by decide) ?_
  refine kICt X12 26 d9_20 (XT.ii_le_t c_2) (by decide) ?_
  refine kALn X12 d9_26 rfl rfl ?_
  refine kILn X12 d9_27 rfl ?_
  refine kIL X12 d9_28 rfl ?_
  refine kI2B X12 (ownB i2) d9_30 rfl ?_
  have f18 := (Safe.wr W14 f9 X3.C.1 f9)
  refine kBASTO X12 f16 (by decide) 2 (ownB i2) (own_nb _) (by decide) (by show 2 < 4; decide) g_q1 f18 d9_31 (fun T19 h20 L22 W23 f24 X21 => ?_)
  have f25 : Arv Z h20 q1 kp1 .byte 4 [.int (ownB i0), .int (ownB i1), .int (ownB i2), .int (0 : Int32)] (.int (0 : Int32)) := f24
  refine kIINC X21 (1 : Int32) (3 : Int32) #[.val (.ref q0), .val (.int (3 : Int32)), .val (.ref q1), .val (.int (2 : Int32)), .val (.int (4 : Int32)), .val (.int (2 : Int32)), .val (.int i2)] d9_32 (by decide) rfl (by decide) rfl ?_
  refine kIINC X21 (1 : Int32) (3 : Int32) #[.val (.ref q0), .val (.int (3 : Int32)), .val (.ref q1), .val (.int (3 : Int32)), .val (.int (4 : Int32)), .val (.int (2 : Int32)), .val (.int i2)] d9_35 (by decide) rfl (by decide) rfl ?_
  refine kIINC X21 (1 : Int32) (3 : Int32) #[.val (.ref q0), .val (.int (3 : Int32)), .val (.ref q1), .val (.int (3 : Int32)), .val (.int (4 : Int32)), .val (.int (3 : Int32)), .val (.int i2)] d9_38 (by decide) rfl (by decide) rfl ?_
  refine kGOTO X21 3 d9_41 (by decide) ?_
  refine kIL X21 d9_3 rfl ?_
  refine kIL X21 d9_5 rfl ?_
  refine kICf X21 d9_7 (XT.ii_ge_f (by decide)) ?_
  refine kALn X21 d9_10 rfl rfl ?_
  refine kILn X21 d9_11 rfl ?_
  have f26 := (Arv.other f17 W23 d_q0_q1)
  refine kCALD X21 (.int i3) f26 (by decide) rfl d9_12 ?_
  refine kIS X21 #[.val (.ref q0), .val (.int (3 : Int32)), .val (.ref q1), .val (.int (3 : Int32)), .val (.int (4 : Int32)), .val (.int (3 : Int32)), .val (.int i3)] d9_13 rfl ?_
  refine kIL X21 d9_15 rfl ?_
  refine kSI X21 (255 : Int32) d9_17 (by decide) ?_
  refine kICt X21 26 d9_20 (XT.ii_le_t c_3) (by decide) ?_
  refine kALn X21 d9_26 rfl rfl ?_
  refine kILn X21 d9_27 rfl ?_
  refine kIL X21 d9_28 rfl ?_
  refine kI2B X21 (ownB i3) d9_30 rfl ?_
  have f27 := (Safe.wr W23 f18 X12.C.1 f18)
  refine kBASTO X21 f25 (by decide) 3 (ownB i3) (own_nb _) (by decide) (by show 3 < 4; decide) g_q1 f27 d9_31 (fun T28 h29 L31 W32 f33 X30 => ?_)
  have f34 : Arv Z h29 q1 kp1 .byte 4 [.int (ownB i0), .int (ownB i1), .int (ownB i2), .int (ownB i3)] (.int (0 : Int32)) := f33
  refine kIINC X30 (1 : Int32) (4 : Int32) #[.val (.ref q0), .val (.int (4 : Int32)), .val (.ref q1), .val (.int (3 : Int32)), .val (.int (4 : Int32)), .val (.int (3 : Int32)), .val (.int i3)] d9_32 (by decide) rfl (by decide) rfl ?_
  refine kIINC X30 (1 : Int32) (4 : Int32) #[.val (.ref q0), .val (.int (4 : Int32)), .val (.ref q1), .val (.int (4 : Int32)), .val (.int (4 : Int32)), .val (.int (3 : Int32)), .val (.int i3)] d9_35 (by decide) rfl (by decide) rfl ?_
  refine kIINC X30 (1 : Int32) (4 : Int32) #[.val (.ref q0), .val (.int (4 : Int32)), .val (.ref q1), .val (.int (4 : Int32)), .val (.int (4 : Int32)), .val (.int (4 : Int32)), .val (.int i3)] d9_38 (by decide) rfl (by decide) rfl ?_
  refine kGOTO X30 3 d9_41 (by decide) ?_
  refine kIL X30 d9_3 rfl ?_
  refine kIL X30 d9_5 rfl ?_
  refine kICt X30 44 d9_7 (XT.ii_ge_t (by decide)) (by decide) ?_
  refine kIL X30 d9_44 rfl ?_
  have K35 : Keep h0 h29 [q1] := (Keep.wr (Keep.wr (Keep.wr (Keep.wr (Keep.refl h0 [q1]) W5 (Or.inl (List.mem_of_getElem? (i := 0) rfl))) W14 (Or.inl (List.mem_of_getElem? (i := 0) rfl))) W23 (Or.inl (List.mem_of_getElem? (i := 0) rfl))) W32 (Or.inl (List.mem_of_getElem? (i := 0) rfl)))
  exact kRETI X30 (gEL G) hret d9_46 (fun ve hve => ⟨X30.N, ⟨rfl, K35, f34⟩⟩) (by decide) (by decide)
def Q_rm47 (Z : State) (iCS : Int32) (aV : Addr) (aG : Addr) (aN : Addr) (tG : Addr) (tN : Addr) (bG : Addr) (bN : Addr) (kV : ClassId) (kG : ClassId) (kN : ClassId) (i0 : Int32) (i1 : Int32) (i2 : Int32) (i3 : Int32) (q0 : Addr) (kp0 : ClassId) (h0 : Heap) (n0 : Nat) (vs : Vm) (v : Option Value) (h : Heap) (L : List Loc) (ve : Vm) : Prop := Fr n0 L ∧ ((∃ (x0 : Addr), ∃ (z0 : ClassId), v = some (.ref x0) ∧ (Keep h0 h []) ∧ (h0.size ≤ x0) ∧ (Arv Z h x0 z0 .byte 4 [.int (ownB i0), .int (ownB i1), .int (ownB i2), .int (ownB i3)] (.int (0 : Int32))) ∧ (Safe Z EL0 ve h x0)))
def R_rm47 : Room := { frames := 1, cells := 1, slots := 4, locals := 18 }
set_option maxRecDepth 65536 in
set_option maxHeartbeats 4000000 in
theorem rm47 (l : Launch) {Z : State} {a0 : Array Value} {iCS : Int32} {aV : Addr} {aG : Addr} {aN : Addr} {tG : Addr} {tN : Addr} {bG : Addr} {bN : Addr} {kV : ClassId} {kG : ClassId} {kN : ClassId} (G : Glob Z a0 iCS aV aG aN tG tN bG bN kV kG kN) (i0 : Int32) (i1 : Int32) (i2 : Int32) (i3 : Int32) (q0 : Addr) (kp0 : ClassId) (h0 : Heap) {n0 : Nat} (Z0 : n0 ≤ h0.size) (O0 : Old Z n0 h0) (A_q0 : Arv Z h0 q0 kp0 .char 4 [.int i0, .int i1, .int i2, .int i3] (.int (0 : Int32))) (c_0 : ¬ (255 : Int32) < i0) (c_1 : ¬ (255 : Int32) < i1) (c_2 : ¬ (255 : Int32) < i2) (c_3 : ¬ (255 : Int32) < i3) :
    MetH l Z EL0 (⟨"java/lang/StringUTF16", "compress", "([CII)[B"⟩ : MethodName) jdk_52_method_16_code 6 (some (.array (.byte))) [] R_rm47 #[.ref q0, .int (0 : Int32), .int (4 : Int32)] h0 [] (Q_rm47 Z iCS aV aG aN tG tN bG bN kV kG kN i0 i1 i2 i3 q0 kp0 h0 n0) := by
  refine MetH.of (n0 := n0) #[.val (.ref q0), .val (.int (0 : Int32)), .val (.int (4 : Int32)), .unset, .unset, .unset] pn_java_lang_StringUTF16 rfl Z0 (fun p e s m below meth c T0 hret hml hnm hSL hs0 X0 => ?_)
  refine kILn X0 d8_0 rfl ?_
  refine kNEWP X0 (wd G 20 rfl) (cap := 4) d8_1 (by decide) (by decide) (by decide) (by decide) (by decide) (fun T1 h2 a4 k5 E6 q7 g8 A9 s10 X3 => ?_)
  have n11 : q0 ≠ a4 := Nat.ne_of_lt (Nat.lt_of_lt_of_le (A_q0.lt) (Nat.le_of_eq q7.symm))
  have g12 : h0.size ≤ a4 := q7 ▸ X0.g0
  have f13 : Arv Z h2 a4 k5 .byte 4 [.int (0 : Int32), .int (0 : Int32), .int (0 : Int32), .int (0 : Int32)] (.int (0 : Int32)) := A9.pad (pad_rep [] _ 4)
  refine kASn X3 #[.val (.ref q0), .val (.int (0 : Int32)), .val (.int (4 : Int32)), .val (.ref a4), .unset, .unset] d8_3 rfl rfl ?_
  refine kALn X3 d8_4 rfl rfl ?_
  refine kILn X3 d8_5 rfl ?_
  refine kALn X3 d8_6 rfl rfl ?_
  refine kIC X3 (0 : Int32) d8_7 (by decide) ?_
  refine kILn X3 d8_8 rfl ?_
  have f14 := (Arv.ext A_q0 E6)
  have f15 := (Old.ext O0 E6)
  refine kSTAT X3 (gEL G) (argsL := [.ref q0, .int (0 : Int32), .ref a4, .int (0 : Int32), .int (4 : Int32)]) (rest := []) (wd G 65 rfl) (wd G 66 rfl) (wd G 63 rfl) (wd G 67 rfl) (by decide) (rm48 l G i0 i1 i2 i3 q0 a4 kp0 k5 h2 X3.n f15 f14 c_0 f13 n11 c_1 c_2 c_3 g8) (allS ⟨(f13.lt), s10⟩ all0) (fun _ _ _ _ _ q => q.1) (lenOf pd___CI_BII_I rfl) rfl (by decide) 0 (Nat.le_of_eq rfl) (by decide) (by decide) (by decide) (by rw [hml]; rfl) d8_9 (fun v16 L17 T18 h19 vm20 K21 w22 q23 C24 C25 X26 => ?_)
  obtain ⟨n27, ⟨e28, f29, f30⟩⟩ := q23
  subst e28
  show Go _ _ _ _ T18 (mkF m 12 #[.val (.ref q0), .val (.int (0 : Int32)), .val (.int (4 : Int32)), .val (.ref a4), .unset, .unset] [.int (4 : Int32)])
  refine kIS X26 #[.val (.ref q0), .val (.int (0 : Int32)), .val (.int (4 : Int32)), .val (.ref a4), .val (.int (4 : Int32)), .unset] d8_12 rfl ?_
  refine kIL X26 d8_14 rfl ?_
  refine kILn X26 d8_16 rfl ?_
  refine kICt X26 57 d8_17 (XT.ii_eq_t (by decide)) (by decide) ?_
  refine kALn X26 d8_57 rfl rfl ?_
  have K31 : Keep h0 h19 [] := (Keep.trans (Keep.ext (Keep.refl h0 []) E6) f29 (allS (Or.inr g12) all0))
  have f32 := (CHr.safe C25 (f13.lt) s10)
  exact kRETA X26 (gEL G) hret rfl rfl d8_58 (fun ve hve => ⟨X26.N, ⟨a4, k5, rfl, K31, g12, f30, (CHr.safe hve (f30.lt) f32)⟩⟩) (by decide) (by decide)
def Q_rm49 (Z : State) (iCS : Int32) (aV : Addr) (aG : Addr) (aN : Addr) (tG : Addr) (tN : Addr) (bG : Addr) (bN : Addr) (kV : ClassId) (kG : ClassId) (kN : ClassId) (i0 : Int32) (i1 : Int32) (i2 : Int32) (i3 : Int32) (q0 : Addr) (kp0 : ClassId) (h0 : Heap) (n0 : Nat) (vs : Vm) (v : Option Value) (h : Heap) (L : List Loc) (ve : Vm) : Prop := Fr n0 L ∧ ((v = some (.int (0 : Int32)) ∧ (h0 = h)))
def R_rm49 : Room := { frames := 0, cells := 0, slots := 0, locals := 0 }
set_option maxRecDepth 65536 in
set_option maxHeartbeats 4000000 in
theorem rm49 (l : Launch) {Z : State} {a0 : Array Value} {iCS : Int32} {aV : Addr} {aG : Addr} {aN : Addr} {tG : Addr} {tN : Addr} {bG : Addr} {bN : Addr} {kV : ClassId} {kG : ClassId} {kN : ClassId} (G : Glob Z a0 iCS aV aG aN tG tN bG bN kV kG kN) (i0 : Int32) (i1 : Int32) (i2 : Int32) (i3 : Int32) (q0 : Addr) (kp0 : ClassId) (h0 : Heap) {n0 : Nat} (Z0 : n0 ≤ h0.size) (O0 : Old Z n0 h0) (A_q0 : Arv Z h0 q0 kp0 .byte 4 [.int i0, .int i1, .int i2, .int i3] (.int (0 : Int32))) :
    MetH l Z EL0 (⟨"java/lang/StringUTF16", "coderFromArrayLen", "([BI)B"⟩ : MethodName) jdk_52_method_15_code 2 (some .byte) [] R_rm49 #[.ref q0, .int (4 : Int32)] h0 [] (Q_rm49 Z iCS aV aG aN tG tN bG bN kV kG kN i0 i1 i2 i3 q0 kp0 h0 n0) := by
  refine MetH.of (n0 := n0) #[.val (.ref q0), .val (.int (4 : Int32))] pn_java_lang_StringUTF16 rfl Z0 (fun p e s m below meth c T0 hret hml hnm hSL hs0 X0 => ?_)
  refine kILn X0 d10_0 rfl ?_
  refine kALn X0 d10_1 rfl rfl ?_
  refine kLEN X0 A_q0 d10_2 ?_
  refine kISUB X0 (0 : Int32) d10_3 (by decide) ?_
  refine kBI X0 (31 : Int32) d10_4 (by decide) ?_
  refine kIUSHR X0 (0 : Int32) d10_6 (by decide) ?_
  refine kI2B X0 (0 : Int32) d10_7 (by decide) ?_
  exact kRETZ X0 (gEL G) (t := .byte) hret (by simp) d10_8 (fun ve hve => ⟨X0.N, ⟨rfl, rfl⟩⟩) (by decide) (by decide)
def Q_rm46 (Z : State) (iCS : Int32) (aV : Addr) (aG : Addr) (aN : Addr) (tG : Addr) (tN : Addr) (bG : Addr) (bN : Addr) (kV : ClassId) (kG : ClassId) (kN : ClassId) (i0 : Int32) (i1 : Int32) (i2 : Int32) (i3 : Int32) (q0 : Addr) (q1 : Addr) (kp0 : ClassId) (h0 : Heap) (n0 : Nat) (vs : Vm) (v : Option Value) (h : Heap) (L : List Loc) (ve : Vm) : Prop := Fr n0 L ∧ ((∃ (x0 : Addr), ∃ (z0 : ClassId), v = none ∧ (Keep h0 h [q0]) ∧ (h0.size ≤ x0) ∧ (Arv Z h x0 z0 .byte 4 [.int (ownB i0), .int (ownB i1), .int (ownB i2), .int (ownB i3)] (.int (0 : Int32))) ∧ (Safe Z EL0 ve h x0) ∧ (Fld Z h q0 "java/lang/String" "coder" "B" (.int (0 : Int32))) ∧ (Fld Z h q0 "java/lang/String" "value" "[B" (.ref x0))))
def R_rm46 : Room := { frames := 2, cells := 1, slots := 4, locals := 35 }
set_option maxRecDepth 65536 in
set_option maxHeartbeats 4000000 in
theorem rm46 (l : Launch) {Z : State} {a0 : Array Value} {iCS : Int32} {aV : Addr} {aG : Addr} {aN : Addr} {tG : Addr} {tN : Addr} {bG : Addr} {bN : Addr} {kV : ClassId} {kG : ClassId} {kN : ClassId} (G : Glob Z a0 iCS aV aG aN tG tN bG bN kV kG kN) (i0 : Int32) (i1 : Int32) (i2 : Int32) (i3 : Int32) (q0 : Addr) (q1 : Addr) (kp0 : ClassId) (h0 : Heap) {n0 : Nat} (Z0 : n0 ≤ h0.size) (O0 : Old Z n0 h0) (A_q1 : Arv Z h0 q1 kp0 .char 4 [.int i0, .int i1, .int i2, .int i3] (.int (0 : Int32))) (c_0 : ¬ (255 : Int32) < i0) (c_1 : ¬ (255 : Int32) < i1) (c_2 : ¬ (255 : Int32) < i2) (c_3 : ¬ (255 : Int32) < i3) (E_q0 : Exa Z h0 q0 "java/lang/String") (F_q0_coder : Fld Z h0 q0 "java/lang/String" "coder" "B" (.int (0 : Int32))) (F_q0_value : Fld Z h0 q0 "java/lang/String" "value" "[B" (.null)) (g_q0 : n0 ≤ q0) :
    MetH l Z EL0 (⟨"java/lang/String", "<init>", "([CIILjava/lang/Void;)V"⟩ : MethodName) jdk_42_method_149_code 6 none [] R_rm46 #[.ref q0, .ref q1, .int (0 : Int32), .int (4 : Int32), .null] h0 [q0] (Q_rm46 Z iCS aV aG aN tG tN bG bN kV kG kN i0 i1 i2 i3 q0 q1 kp0 h0 n0) := by
  refine MetH.of (n0 := n0) #[.val (.ref q0), .val (.ref q1), .val (.int (0 : Int32)), .val (.int (4 : Int32)), .val .null, .unset] pn_java_lang_String rfl Z0 (fun p e s m below meth c T0 hret hml hnm hSL hs0 X0 => ?_)
  have S_q0 := hSL q0 (List.mem_of_getElem? (i := 0) rfl)
  refine kALn X0 d2_0 rfl rfl ?_
  refine kINIT X0 (wd G 16 rfl) (wd G 17 rfl) (wd G 18 rfl) (by rw [hml]; rfl) d2_1 (by decide) 0 (Nat.le_of_eq rfl) (by decide) (fun T1 X2 => ?_)
  refine kILn X2 d2_4 rfl ?_
  refine kIFt X2 27 d2_5 (XT.i0_ne_t (by decide)) (by decide) ?_
  refine kGETS X2 (wd G 56 rfl) Via.refl (Sta.ext O0.2 (S_CS G)) d2_27 (fun T3 X4 => ?_)
  refine kIFf X4 d2_30 (XT.i0_eq_f (n_CS G)) ?_
  refine kALn X4 d2_33 rfl rfl ?_
  refine kILn X4 d2_34 rfl ?_
  refine kILn X4 d2_35 rfl ?_
  refine kSTAT X4 (gEL G) (argsL := [.ref q1, .int (0 : Int32), .int (4 : Int32)]) (rest := []) (wd G 61 rfl) (wd G 62 rfl) (wd G 63 rfl) (wd G 64 rfl) (by decide) (rm47 l G i0 i1 i2 i3 q1 kp0 h0 X4.n O0 A_q1 c_0 c_1 c_2 c_3) all0 (fun _ _ _ _ _ q => q.1) (lenOf pd___CII__B rfl) rfl (by decide) 0 (Nat.le_of_eq rfl) (by decide) (by decide) (by decide) (by rw [hml]; rfl) d2_36 (fun v5 L6 T7 h8 vm9 K10 w11 q12 C13 C14 X15 => ?_)
  obtain ⟨n16, ⟨a17, k18, e19, f20, f21, f22, f23⟩⟩ := q12
  subst e19
  have n24 : q0 ≠ a17 := Nat.ne_of_lt (Nat.lt_of_lt_of_le (E_q0.lt) f21)
  have n25 : q1 ≠ a17 := Nat.ne_of_lt (Nat.lt_of_lt_of_le (A_q1.lt) f21)
  have g26 : n0 ≤ a17 := Nat.le_trans X4.n f21
  have g27 : h0.size ≤ a17 := Nat.le_trans X4.g0 f21
  show Go _ _ _ _ T7 (mkF m 39 #[.val (.ref q0), .val (.ref q1), .val (.int (0 : Int32)), .val (.int (4 : Int32)), .val .null, .unset] [.ref a17])
  refine kAS X15 #[.val (.ref q0), .val (.ref q1), .val (.int (0 : Int32)), .val (.int (4 : Int32)), .val .null, .val (.ref a17)] d2_39 rfl rfl ?_
  refine kALn X15 d2_41 rfl rfl ?_
  refine kAL X15 d2_42 rfl rfl ?_
  refine kILn X15 d2_44 rfl ?_
  have f28 := (Old.keep O0 f20 all0)
  refine kSTAT X15 (gEL G) (argsL := [.ref a17, .int (4 : Int32)]) (rest := [.ref q0]) (wd G 68 rfl) (wd G 69 rfl) (wd G 63 rfl) (wd G 70 rfl) (by decide) (rm49 l G (ownB i0) (ownB i1) (ownB i2) (ownB i3) a17 k18 h8 X15.n f28 f22) all0 (fun _ _ _ _ _ q => q.1) (lenOf pd___BI_B rfl) rfl (by decide) 1 (Nat.le_of_eq rfl) (by decide) (by decide) (by decide) (by rw [hml]; rfl) d2_45 (fun v29 L30 T31 h32 vm33 K34 w35 q36 C37 C38 X39 => ?_)
  obtain ⟨n40, ⟨e41, f42⟩⟩ := q36
  subst e41
  subst f42
  show Go _ _ _ _ T31 (mkF m 48 #[.val (.ref q0), .val (.ref q1), .val (.int (0 : Int32)), .val (.int (4 : Int32)), .val .null, .val (.ref a17)] [.int (0 : Int32), .ref q0])
  have f43 := (Fld.keep F_q0_coder f20 nin0)
  have f44 := (Exa.keep E_q0 f20)
  have f45 := (CHr.safe C38 ((Fld.keep F_q0_value f20 nin0)).lt (CHr.safe C14 (F_q0_value.lt) S_q0))
  refine kPUTF X39 (wd G 26 rfl) Via.refl f43 f44 (Or.inr ⟨(wd G 22 rfl), rfl, hnm⟩) (wd G 6 rfl) (ty := .byte) (by decide) (by decide) (by decide) g_q0 f45 d2_48 (fun T46 h47 L50 W49 X48 => ?_)
  have f51 := Fld.same W49 f43
  refine kALn X48 d2_51 rfl rfl ?_
  refine kAL X48 d2_52 rfl rfl ?_
  have f52 := (Fld.other W49 (Fld.keep F_q0_value f20 nin0) (Or.inr (slot_ne (Or.inr (wd G 21 rfl)) (Or.inr (wd G 22 rfl)) (by decide) (by decide : parseFieldDescriptor "[B" = some (.array (.byte))) (by decide : parseFieldDescriptor "B" = some .byte))))
  have f53 := (Exa.wr W49 f44)
  have f54 := (Safe.wr W49 f45 X39.C.1 f45)
  refine kPUTF X48 (wd G 25 rfl) Via.refl f52 f53 (Or.inr ⟨(wd G 21 rfl), rfl, hnm⟩) (wd G 6 rfl) (ty := (.array (.byte))) (by decide) rfl rfl g_q0 f54 d2_54 (fun T55 h56 L59 W58 X57 => ?_)
  have f60 := Fld.same W58 f52
  have K61 : Keep h0 h56 [q0] := (Keep.wr (Keep.wr (Keep.trans (Keep.refl h0 [q0]) f20 all0) W49 (Or.inl (List.mem_of_getElem? (i := 0) rfl))) W58 (Or.inl (List.mem_of_getElem? (i := 0) rfl)))
  have f62 := (Arv.other (Arv.other f22 W49 (Ne.symm n24)) W58 (Ne.symm n24))
  have f63 := (Safe.wr W58 f54 X48.C.1 (Safe.wr W49 f45 X39.C.1 (CHr.safe C38 (f22.lt) f23)))
  have f64 := (Fld.other W58 f51 (Or.inr (slot_ne (Or.inr (wd G 22 rfl)) (Or.inr (wd G 21 rfl)) (by decide) (by decide : parseFieldDescriptor "B" = some .byte) (by decide : parseFieldDescriptor "[B" = some (.array (.byte))))))
  exact kRETV X57 (gEL G) hret d2_57 (fun ve hve => ⟨X57.N, ⟨a17, k18, rfl, K61, g27, f62, (CHr.safe hve (f62.lt) f63), f64, f60⟩⟩) (by decide) (by decide)
def Q_rm45 (Z : State) (iCS : Int32) (aV : Addr) (aG : Addr) (aN : Addr) (tG : Addr) (tN : Addr) (bG : Addr) (bN : Addr) (kV : ClassId) (kG : ClassId) (kN : ClassId) (i0 : Int32) (i1 : Int32) (i2 : Int32) (i3 : Int32) (q0 : Addr) (q1 : Addr) (kp0 : ClassId) (h0 : Heap) (n0 : Nat) (vs : Vm) (v : Option Value) (h : Heap) (L : List Loc) (ve : Vm) : Prop := Fr n0 L ∧ ((∃ (x0 : Addr), ∃ (z0 : ClassId), v = none ∧ (Keep h0 h [q0]) ∧ (h0.size ≤ x0) ∧ (Arv Z h x0 z0 .byte 4 [.int (ownB i0), .int (ownB i1), .int (ownB i2), .int (ownB i3)] (.int (0 : Int32))) ∧ (Safe Z EL0 ve h x0) ∧ (Fld Z h q0 "java/lang/String" "coder" "B" (.int (0 : Int32))) ∧ (Fld Z h q0 "java/lang/String" "value" "[B" (.ref x0))))
def R_rm45 : Room := { frames := 3, cells := 1, slots := 4, locals := 52 }
set_option maxRecDepth 65536 in
set_option maxHeartbeats 4000000 in
theorem rm45 (l : Launch) {Z : State} {a0 : Array Value} {iCS : Int32} {aV : Addr} {aG : Addr} {aN : Addr} {tG : Addr} {tN : Addr} {bG : Addr} {bN : Addr} {kV : ClassId} {kG : ClassId} {kN : ClassId} (G : Glob Z a0 iCS aV aG aN tG tN bG bN kV kG kN) (i0 : Int32) (i1 : Int32) (i2 : Int32) (i3 : Int32) (q0 : Addr) (q1 : Addr) (kp0 : ClassId) (h0 : Heap) {n0 : Nat} (Z0 : n0 ≤ h0.size) (O0 : Old Z n0 h0) (A_q1 : Arv Z h0 q1 kp0 .char 4 [.int i0, .int i1, .int i2, .int i3] (.int (0 : Int32))) (c_0 : ¬ (255 : Int32) < i0) (c_1 : ¬ (255 : Int32) < i1) (c_2 : ¬ (255 : Int32) < i2) (c_3 : ¬ (255 : Int32) < i3) (E_q0 : Exa Z h0 q0 "java/lang/String") (F_q0_coder : Fld Z h0 q0 "java/lang/String" "coder" "B" (.int (0 : Int32))) (F_q0_value : Fld Z h0 q0 "java/lang/String" "value" "[B" (.null)) (g_q0 : n0 ≤ q0) :
    MetH l Z EL0 (⟨"java/lang/String", "<init>", "([C)V"⟩ : MethodName) jdk_42_method_3_code 2 none [] R_rm45 #[.ref q0, .ref q1] h0 [q0] (Q_rm45 Z iCS aV aG aN tG tN bG bN kV kG kN i0 i1 i2 i3 q0 q1 kp0 h0 n0) := by
  refine MetH.of (n0 := n0) #[.val (.ref q0), .val (.ref q1)] pn_java_lang_String rfl Z0 (fun p e s m below meth c T0 hret hml hnm hSL hs0 X0 => ?_)
  have S_q0 := hSL q0 (List.mem_of_getElem? (i := 0) rfl)
  refine kALn X0 d1_0 rfl rfl ?_
  refine kALn X0 d1_1 rfl rfl ?_
  refine kIC X0 (0 : Int32) d1_2 (by decide) ?_
  refine kALn X0 d1_3 rfl rfl ?_
  refine kLEN X0 A_q1 d1_4 ?_
  refine kNULL X0 d1_5 ?_
  refine kSPEC X0 (gEL G) (argsL := [.ref q1, .int (0 : Int32), .int (4 : Int32), .null]) (rest := []) (wd G 12 rfl) (wd G 13 rfl) (wd G 7 rfl) (wd G 15 rfl) rfl (by decide) (rm46 l G i0 i1 i2 i3 q0 q1 kp0 h0 X0.n O0 A_q1 c_0 c_1 c_2 c_3 E_q0 F_q0_coder F_q0_value g_q0) (allS ⟨(E_q0.lt), S_q0⟩ all0) (fun _ _ _ _ _ q => q.1) (lenOf pd___CIILjava_lang_Void__V rfl) rfl (by decide) 0 (Nat.le_of_eq rfl) (by decide) (by decide) (by decide) (by rw [hml]; rfl) d1_6 (fun v1 L2 T3 h4 vm5 K6 w7 q8 C9 C10 X11 => ?_)
  obtain ⟨n12, ⟨a13, k14, e15, f16, f17, f18, f19, f20, f21⟩⟩ := q8
  subst e15
  have n22 : q0 ≠ a13 := Nat.ne_of_lt (Nat.lt_of_lt_of_le (E_q0.lt) f17)
  have n23 : q1 ≠ a13 := Nat.ne_of_lt (Nat.lt_of_lt_of_le (A_q1.lt) f17)
  have g24 : n0 ≤ a13 := Nat.le_trans X0.n f17
  have g25 : h0.size ≤ a13 := Nat.le_trans X0.g0 f17
  show Go _ _ _ _ T3 (mkF m 9 #[.val (.ref q0), .val (.ref q1)] [])
  have K26 : Keep h0 h4 [q0] := (Keep.trans (Keep.refl h0 [q0]) f16 (allS (Or.inl (List.mem_of_getElem? (i := 0) rfl)) all0))
  exact kRETV X11 (gEL G) hret d1_9 (fun ve hve => ⟨X11.N, ⟨a13, k14, rfl, K26, g25, f18, (CHr.safe hve (f18.lt) f19), f20, f21⟩⟩) (by decide) (by decide)
def Q_rm52 (Z : State) (iCS : Int32) (aV : Addr) (aG : Addr) (aN : Addr) (tG : Addr) (tN : Addr) (bG : Addr) (bN : Addr) (kV : ClassId) (kG : ClassId) (kN : ClassId) (i0 : Int32) (i1 : Int32) (i2 : Int32) (i3 : Int32) (q0 : Addr) (kp0 : ClassId) (h0 : Heap) (n0 : Nat) (vs : Vm) (v : Option Value) (h : Heap) (L : List Loc) (ve : Vm) : Prop := Fr n0 L ∧ ((v = some (.int (0 : Int32)) ∧ (h0 = h)))
def R_rm52 : Room := { frames := 0, cells := 0, slots := 0, locals := 0 }
set_option maxRecDepth 65536 in
set_option maxHeartbeats 4000000 in
theorem rm52 (l : Launch) {Z : State} {a0 : Array Value} {iCS : Int32} {aV : Addr} {aG : Addr} {aN : Addr} {tG : Addr} {tN : Addr} {bG : Addr} {bN : Addr} {kV : ClassId} {kG : ClassId} {kN : ClassId} (G : Glob Z a0 iCS aV aG aN tG tN bG bN kV kG kN) (i0 : Int32) (i1 : Int32) (i2 : Int32) (i3 : Int32) (q0 : Addr) (kp0 : ClassId) (h0 : Heap) {n0 : Nat} (Z0 : n0 ≤ h0.size) (O0 : Old Z n0 h0) (A_q0 : Arv Z h0 q0 kp0 .byte 4 [.int i0, .int i1, .int i2, .int i3] (.int (0 : Int32))) :
    MetH l Z EL0 (⟨"java/lang/StringLatin1", "equals", "([B[B)Z"⟩ : MethodName) jdk_43_method_13_code 3 (some .boolean) [] R_rm52 #[.ref bG, .ref q0] h0 [] (Q_rm52 Z iCS aV aG aN tG tN bG bN kV kG kN i0 i1 i2 i3 q0 kp0 h0 n0) := by
  refine MetH.of (n0 := n0) #[.val (.ref bG), .val (.ref q0), .unset] pn_java_lang_StringLatin1 rfl Z0 (fun p e s m below meth c T0 hret hml hnm hSL hs0 X0 => ?_)
  refine kALn X0 d7_0 rfl rfl ?_
  refine kLEN X0 (Arv.ext (AB_G G) O0.2) d7_1 ?_
  refine kALn X0 d7_2 rfl rfl ?_
  refine kLEN X0 A_q0 d7_3 ?_
  refine kICt X0 34 d7_4 (XT.ii_ne_t (by decide)) (by decide) ?_
  refine kIC X0 (0 : Int32) d7_34 (by decide) ?_
  exact kRETZ X0 (gEL G) (t := .boolean) hret (by simp) d7_35 (fun ve hve => ⟨X0.N, ⟨rfl, rfl⟩⟩) (by decide) (by decide)
def Q_rm51 (Z : State) (iCS : Int32) (aV : Addr) (aG : Addr) (aN : Addr) (tG : Addr) (tN : Addr) (bG : Addr) (bN : Addr) (kV : ClassId) (kG : ClassId) (kN : ClassId) (i0 : Int32) (i1 : Int32) (i2 : Int32) (i3 : Int32) (q0 : Addr) (q1 : Addr) (kp0 : ClassId) (h0 : Heap) (n0 : Nat) (vs : Vm) (v : Option Value) (h : Heap) (L : List Loc) (ve : Vm) : Prop := Fr n0 L ∧ ((v = some (.int (0 : Int32)) ∧ (h0 = h)))
def R_rm51 : Room := { frames := 1, cells := 0, slots := 0, locals := 14 }
set_option maxRecDepth 65536 in
set_option maxHeartbeats 4000000 in
theorem rm51 (l : Launch) {Z : State} {a0 : Array Value} {iCS : Int32} {aV : Addr} {aG : Addr} {aN : Addr} {tG : Addr} {tN : Addr} {bG : Addr} {bN : Addr} {kV : ClassId} {kG : ClassId} {kN : ClassId} (G : Glob Z a0 iCS aV aG aN tG tN bG bN kV kG kN) (i0 : Int32) (i1 : Int32) (i2 : Int32) (i3 : Int32) (q0 : Addr) (q1 : Addr) (kp0 : ClassId) (h0 : Heap) {n0 : Nat} (Z0 : n0 ≤ h0.size) (O0 : Old Z n0 h0) (E_q0 : Exa Z h0 q0 "java/lang/String") (F_q0_coder : Fld Z h0 q0 "java/lang/String" "coder" "B" (.int (0 : Int32))) (F_q0_value : Fld Z h0 q0 "java/lang/String" "value" "[B" (.ref q1)) (A_q1 : Arv Z h0 q1 kp0 .byte 4 [.int i0, .int i1, .int i2, .int i3] (.int (0 : Int32))) (g_q0 : n0 ≤ q0) :
    MetH l Z EL0 (⟨"java/lang/String", "equals", "(Ljava/lang/Object;)Z"⟩ : MethodName) jdk_42_method_66_code 3 (some .boolean) [] R_rm51 #[.ref tG, .ref q0] h0 [] (Q_rm51 Z iCS aV aG aN tG tN bG bN kV kG kN i0 i1 i2 i3 q0 q1 kp0 h0 n0) := by
  refine MetH.of (n0 := n0) #[.val (.ref tG), .val (.ref q0), .unset] pn_java_lang_String rfl Z0 (fun p e s m below meth c T0 hret hml hnm hSL hs0 X0 => ?_)
  refine kALn X0 d6_0 rfl rfl ?_
  refine kALn X0 d6_1 rfl rfl ?_
  refine kACt X0 7 d6_2 rfl rfl (XT.aa_ne_t (own_rne (Old.ne O0 ((ES_G G).lt) g_q0))) (by decide) ?_
  refine kALn X0 d6_7 rfl rfl ?_
  refine kINSY X0 (wd G 55 rfl) (Ins.of_exa E_q0 (wd G 14 rfl)) d6_8 (fun T1 X2 => ?_)
  refine kIFf X2 d6_11 (XT.i0_eq_f (by decide)) ?_
  refine kALn X2 d6_14 rfl rfl ?_
  refine kCAST X2 (wd G 55 rfl) (Ins.of_exa E_q0 (wd G 14 rfl)) d6_15 (fun T3 X4 => ?_)
  refine kASn X4 #[.val (.ref tG), .val (.ref q0), .val (.ref q0)] d6_18 rfl rfl ?_
  refine kGETS X4 (wd G 56 rfl) Via.refl (Sta.ext O0.2 (S_CS G)) d6_19 (fun T5 X6 => ?_)
  refine kIFf X6 d6_22 (XT.i0_eq_f (n_CS G)) ?_
  refine kALn X6 d6_25 rfl rfl ?_
  refine kGETF X6 (wd G 26 rfl) Via.refl (Fld.ext O0.2 (FC_G G)) d6_26 (fun T7 X8 => ?_)
  refine kALn X8 d6_29 rfl rfl ?_
  refine kGETF X8 (wd G 26 rfl) Via.refl F_q0_coder d6_30 (fun T9 X10 => ?_)
  refine kICf X10 d6_33 (XT.ii_ne_f (by decide)) ?_
  refine kALn X10 d6_36 rfl rfl ?_
  refine kGETF X10 (wd G 25 rfl) Via.refl (Fld.ext O0.2 (FV_G G)) d6_37 (fun T11 X12 => ?_)
  refine kALn X12 d6_40 rfl rfl ?_
  refine kGETF X12 (wd G 25 rfl) Via.refl F_q0_value d6_41 (fun T13 X14 => ?_)
  refine kSTAT X14 (gEL G) (argsL := [.ref bG, .ref q1]) (rest := []) (wd G 57 rfl) (wd G 58 rfl) (wd G 59 rfl) (wd G 60 rfl) (by decide) (rm52 l G i0 i1 i2 i3 q1 kp0 h0 X14.n O0 A_q1) all0 (fun _ _ _ _ _ q => q.1) (lenOf pd___B_B_Z rfl) rfl (by decide) 0 (Nat.le_of_eq rfl) (by decide) (by decide) (by decide) (by rw [hml]; rfl) d6_44 (fun v15 L16 T17 h18 vm19 K20 w21 q22 C23 C24 X25 => ?_)
  obtain ⟨n26, ⟨e27, f28⟩⟩ := q22
  subst e27
  subst f28
  show Go _ _ _ _ T17 (mkF m 47 #[.val (.ref tG), .val (.ref q0), .val (.ref q0)] [.int (0 : Int32)])
  refine kIFt X25 54 d6_47 (XT.i0_eq_t (by decide)) (by decide) ?_
  refine kIC X25 (0 : Int32) d6_54 (by decide) ?_
  exact kRETZ X25 (gEL G) (t := .boolean) hret (by simp) d6_55 (fun ve hve => ⟨X25.N, ⟨rfl, rfl⟩⟩) (by decide) (by decide)
def Q_rm54 (Z : State) (iCS : Int32) (aV : Addr) (aG : Addr) (aN : Addr) (tG : Addr) (tN : Addr) (bG : Addr) (bN : Addr) (kV : ClassId) (kG : ClassId) (kN : ClassId) (i0 : Int32) (i1 : Int32) (i2 : Int32) (i3 : Int32) (q0 : Addr) (kp0 : ClassId) (h0 : Heap) (n0 : Nat) (vs : Vm) (v : Option Value) (h : Heap) (L : List Loc) (ve : Vm) : Prop := Fr n0 L ∧ ((v = some (.int (0 : Int32)) ∧ (h0 = h)))
def R_rm54 : Room := { frames := 0, cells := 0, slots := 0, locals := 0 }
set_option maxRecDepth 65536 in
set_option maxHeartbeats 4000000 in
theorem rm54 (l : Launch) {Z : State} {a0 : Array Value} {iCS : Int32} {aV : Addr} {aG : Addr} {aN : Addr} {tG : Addr} {tN : Addr} {bG : Addr} {bN : Addr} {kV : ClassId} {kG : ClassId} {kN : ClassId} (G : Glob Z a0 iCS aV aG aN tG tN bG bN kV kG kN) (i0 : Int32) (i1 : Int32) (i2 : Int32) (i3 : Int32) (q0 : Addr) (kp0 : ClassId) (h0 : Heap) {n0 : Nat} (Z0 : n0 ≤ h0.size) (O0 : Old Z n0 h0) (A_q0 : Arv Z h0 q0 kp0 .byte 4 [.int i0, .int i1, .int i2, .int i3] (.int (0 : Int32))) :
    MetH l Z EL0 (⟨"java/lang/StringLatin1", "equals", "([B[B)Z"⟩ : MethodName) jdk_43_method_13_code 3 (some .boolean) [] R_rm54 #[.ref bN, .ref q0] h0 [] (Q_rm54 Z iCS aV aG aN tG tN bG bN kV kG kN i0 i1 i2 i3 q0 kp0 h0 n0) := by
  refine MetH.of (n0 := n0) #[.val (.ref bN), .val (.ref q0), .unset] pn_java_lang_StringLatin1 rfl Z0 (fun p e s m below meth c T0 hret hml hnm hSL hs0 X0 => ?_)
  refine kALn X0 d7_0 rfl rfl ?_
  refine kLEN X0 (Arv.ext (AB_N G) O0.2) d7_1 ?_
  refine kALn X0 d7_2 rfl rfl ?_
  refine kLEN X0 A_q0 d7_3 ?_
  refine kICt X0 34 d7_4 (XT.ii_ne_t (by decide)) (by decide) ?_
  refine kIC X0 (0 : Int32) d7_34 (by decide) ?_
  exact kRETZ X0 (gEL G) (t := .boolean) hret (by simp) d7_35 (fun ve hve => ⟨X0.N, ⟨rfl, rfl⟩⟩) (by decide) (by decide)
def Q_rm53 (Z : State) (iCS : Int32) (aV : Addr) (aG : Addr) (aN : Addr) (tG : Addr) (tN : Addr) (bG : Addr) (bN : Addr) (kV : ClassId) (kG : ClassId) (kN : ClassId) (i0 : Int32) (i1 : Int32) (i2 : Int32) (i3 : Int32) (q0 : Addr) (q1 : Addr) (kp0 : ClassId) (h0 : Heap) (n0 : Nat) (vs : Vm) (v : Option Value) (h : Heap) (L : List Loc) (ve : Vm) : Prop := Fr n0 L ∧ ((v = some (.int (0 : Int32)) ∧ (h0 = h)))
def R_rm53 : Room := { frames := 1, cells := 0, slots := 0, locals := 14 }
set_option maxRecDepth 65536 in
set_option maxHeartbeats 4000000 in
theorem rm53 (l : Launch) {Z : State} {a0 : Array Value} {iCS : Int32} {aV : Addr} {aG : Addr} {aN : Addr} {tG : Addr} {tN : Addr} {bG : Addr} {bN : Addr} {kV : ClassId} {kG : ClassId} {kN : ClassId} (G : Glob Z a0 iCS aV aG aN tG tN bG bN kV kG kN) (i0 : Int32) (i1 : Int32) (i2 : Int32) (i3 : Int32) (q0 : Addr) (q1 : Addr) (kp0 : ClassId) (h0 : Heap) {n0 : Nat} (Z0 : n0 ≤ h0.size) (O0 : Old Z n0 h0) (E_q0 : Exa Z h0 q0 "java/lang/String") (F_q0_coder : Fld Z h0 q0 "java/lang/String" "coder" "B" (.int (0 : Int32))) (F_q0_value : Fld Z h0 q0 "java/lang/String" "value" "[B" (.ref q1)) (A_q1 : Arv Z h0 q1 kp0 .byte 4 [.int i0, .int i1, .int i2, .int i3] (.int (0 : Int32))) (g_q0 : n0 ≤ q0) :
    MetH l Z EL0 (⟨"java/lang/String", "equals", "(Ljava/lang/Object;)Z"⟩ : MethodName) jdk_42_method_66_code 3 (some .boolean) [] R_rm53 #[.ref tN, .ref q0] h0 [] (Q_rm53 Z iCS aV aG aN tG tN bG bN kV kG kN i0 i1 i2 i3 q0 q1 kp0 h0 n0) := by
  refine MetH.of (n0 := n0) #[.val (.ref tN), .val (.ref q0), .unset] pn_java_lang_String rfl Z0 (fun p e s m below meth c T0 hret hml hnm hSL hs0 X0 => ?_)
  refine kALn X0 d6_0 rfl rfl ?_
  refine kALn X0 d6_1 rfl rfl ?_
  refine kACt X0 7 d6_2 rfl rfl (XT.aa_ne_t (own_rne (Old.ne O0 ((ES_N G).lt) g_q0))) (by decide) ?_
  refine kALn X0 d6_7 rfl rfl ?_
  refine kINSY X0 (wd G 55 rfl) (Ins.of_exa E_q0 (wd G 14 rfl)) d6_8 (fun T1 X2 => ?_)
  refine kIFf X2 d6_11 (XT.i0_eq_f (by decide)) ?_
  refine kALn X2 d6_14 rfl rfl ?_
  refine kCAST X2 (wd G 55 rfl) (Ins.of_exa E_q0 (wd G 14 rfl)) d6_15 (fun T3 X4 => ?_)
  refine kASn X4 #[.val (.ref tN), .val (.ref q0), .val (.ref q0)] d6_18 rfl rfl ?_
  refine kGETS X4 (wd G 56 rfl) Via.refl (Sta.ext O0.2 (S_CS G)) d6_19 (fun T5 X6 => ?_)
  refine kIFf X6 d6_22 (XT.i0_eq_f (n_CS G)) ?_
  refine kALn X6 d6_25 rfl rfl ?_
  refine kGETF X6 (wd G 26 rfl) Via.refl (Fld.ext O0.2 (FC_N G)) d6_26 (fun T7 X8 => ?_)
  refine kALn X8 d6_29 rfl rfl ?_
  refine kGETF X8 (wd G 26 rfl) Via.refl F_q0_coder d6_30 (fun T9 X10 => ?_)
  refine kICf X10 d6_33 (XT.ii_ne_f (by decide)) ?_
  refine kALn X10 d6_36 rfl rfl ?_
  refine kGETF X10 (wd G 25 rfl) Via.refl (Fld.ext O0.2 (FV_N G)) d6_37 (fun T11 X12 => ?_)
  refine kALn X12 d6_40 rfl rfl ?_
  refine kGETF X12 (wd G 25 rfl) Via.refl F_q0_value d6_41 (fun T13 X14 => ?_)
  refine kSTAT X14 (gEL G) (argsL := [.ref bN, .ref q1]) (rest := []) (wd G 57 rfl) (wd G 58 rfl) (wd G 59 rfl) (wd G 60 rfl) (by decide) (rm54 l G i0 i1 i2 i3 q1 kp0 h0 X14.n O0 A_q1) all0 (fun _ _ _ _ _ q => q.1) (lenOf pd___B_B_Z rfl) rfl (by decide) 0 (Nat.le_of_eq rfl) (by decide) (by decide) (by decide) (by rw [hml]; rfl) d6_44 (fun v15 L16 T17 h18 vm19 K20 w21 q22 C23 C24 X25 => ?_)
  obtain ⟨n26, ⟨e27, f28⟩⟩ := q22
  subst e27
  subst f28
  show Go _ _ _ _ T17 (mkF m 47 #[.val (.ref tN), .val (.ref q0), .val (.ref q0)] [.int (0 : Int32)])
  refine kIFt X25 54 d6_47 (XT.i0_eq_t (by decide)) (by decide) ?_
  refine kIC X25 (0 : Int32) d6_54 (by decide) ?_
  exact kRETZ X25 (gEL G) (t := .boolean) hret (by simp) d6_55 (fun ve hve => ⟨X25.N, ⟨rfl, rfl⟩⟩) (by decide) (by decide)
def Q_rm50 (Z : State) (iCS : Int32) (aV : Addr) (aG : Addr) (aN : Addr) (tG : Addr) (tN : Addr) (bG : Addr) (bN : Addr) (kV : ClassId) (kG : ClassId) (kN : ClassId) (i0 : Int32) (i1 : Int32) (i2 : Int32) (i3 : Int32) (q0 : Addr) (q1 : Addr) (kp0 : ClassId) (h0 : Heap) (n0 : Nat) (vs : Vm) (v : Option Value) (h : Heap) (L : List Loc) (ve : Vm) : Prop := Fr n0 L ∧ ((v = some (.null) ∧ (Keep h0 h [])))
def R_rm50 : Room := { frames := 2, cells := 1, slots := 2, locals := 28 }
set_option maxRecDepth 65536 in
set_option maxHeartbeats 4000000 in
theorem rm50 (l : Launch) {Z : State} {a0 : Array Value} {iCS : Int32} {aV : Addr} {aG : Addr} {aN : Addr} {tG : Addr} {tN : Addr} {bG : Addr} {bN : Addr} {kV : ClassId} {kG : ClassId} {kN : ClassId} (G : Glob Z a0 iCS aV aG aN tG tN bG bN kV kG kN) (i0 : Int32) (i1 : Int32) (i2 : Int32) (i3 : Int32) (q0 : Addr) (q1 : Addr) (kp0 : ClassId) (h0 : Heap) {n0 : Nat} (Z0 : n0 ≤ h0.size) (O0 : Old Z n0 h0) (E_q0 : Exa Z h0 q0 "java/lang/String") (A_q1 : Arv Z h0 q1 kp0 .byte 4 [.int i0, .int i1, .int i2, .int i3] (.int (0 : Int32))) (F_q0_coder : Fld Z h0 q0 "java/lang/String" "coder" "B" (.int (0 : Int32))) (F_q0_value : Fld Z h0 q0 "java/lang/String" "value" "[B" (.ref q1)) (g_q0 : n0 ≤ q0) :
    MetH l Z EL0 (⟨"com/example/tight_calculus/tightcalculus/Model$Kind", "named", "(Ljava/lang/String;)Lcom/example/tight_calculus/tightcalculus/Model$Kind;"⟩ : MethodName) prog_20_method_6_code 6 (some (.object "com/example/tight_calculus/tightcalculus/Model$Kind")) [] R_rm50 #[.ref q0] h0 [] (Q_rm50 Z iCS aV aG aN tG tN bG bN kV kG kN i0 i1 i2 i3 q0 q1 kp0 h0 n0) := by
  refine MetH.of (n0 := n0) #[.val (.ref q0), .unset, .unset, .unset, .unset, .unset] pn_com_example_tight_calculus_tightcalculus_Model_Kind rfl Z0 (fun p e s m below meth c T0 hret hml hnm hSL hs0 X0 => ?_)
  refine kNULL X0 d4_0 ?_
  refine kASn X0 #[.val (.ref q0), .val .null, .unset, .unset, .unset, .unset] d4_1 rfl rfl ?_
  refine kSTAT X0 (gEL G) (argsL := []) (rest := []) (wd G 31 rfl) (wd G 32 rfl) (wd G 29 rfl) (wd G 33 rfl) (by decide) (rm7 l G  h0 X0.n O0 ) all0 (fun _ _ _ _ _ q => q.1) (lenOf pd____Lcom_example_tight_calculus_tightcalculus_Model_Kind_ rfl) rfl (by decide) 0 (Nat.le_of_eq rfl) (by decide) (by decide) (by decide) (by rw [hml]; rfl) d4_2 (fun v1 L2 T3 h4 vm5 K6 w7 q8 C9 C10 X11 => ?_)
  obtain ⟨n12, ⟨a13, e14, f15, f16, f17, f18⟩⟩ := q8
  subst e14
  have n19 : q0 ≠ a13 := Nat.ne_of_lt (Nat.lt_of_lt_of_le (E_q0.lt) f16)
  have n20 : q1 ≠ a13 := Nat.ne_of_lt (Nat.lt_of_lt_of_le (A_q1.lt) f16)
  have g21 : n0 ≤ a13 := Nat.le_trans X0.n f16
  have g22 : h0.size ≤ a13 := Nat.le_trans X0.g0 f16
  show Go _ _ _ _ T3 (mkF m 5 #[.val (.ref q0), .val .null, .unset, .unset, .unset, .unset] [.ref a13])
  refine kASn X11 #[.val (.ref q0), .val .null, .val (.ref a13), .unset, .unset, .unset] d4_5 rfl rfl ?_
  refine kALn X11 d4_6 rfl rfl ?_
  refine kLEN X11 f18 d4_7 ?_
  refine kISn X11 #[.val (.ref q0), .val .null, .val (.ref a13), .val (.int (2 : Int32)), .unset, .unset] d4_8 rfl ?_
  refine kIC X11 (0 : Int32) d4_9 (by decide) ?_
  refine kIS X11 #[.val (.ref q0), .val .null, .val (.ref a13), .val (.int (2 : Int32)), .val (.int (0 : Int32)), .unset] d4_10 rfl ?_
  refine kIL X11 d4_12 rfl ?_
  refine kILn X11 d4_14 rfl ?_
  refine kICf X11 d4_15 (XT.ii_ge_f (by decide)) ?_
  refine kALn X11 d4_18 rfl rfl ?_
  refine kIL X11 d4_19 rfl ?_
  refine kAALD X11 (.ref aG) f18 rfl (by decide) rfl d4_21 ?_
  refine kAS X11 #[.val (.ref q0), .val .null, .val (.ref a13), .val (.int (2 : Int32)), .val (.int (0 : Int32)), .val (.ref aG)] d4_22 rfl rfl ?_
  refine kAL X11 d4_24 rfl rfl ?_
  have f23 := (Old.keep O0 f15 all0)
  refine kGETF X11 (wd G 48 rfl) Via.refl (Fld.ext f23.2 (F_G G)) d4_26 (fun T24 X25 => ?_)
  refine kALn X25 d4_29 rfl rfl ?_
  have f26 := (Exa.keep E_q0 f15)
  have f27 := (Fld.keep F_q0_coder f15 nin0)
  have f28 := (Fld.keep F_q0_value f15 nin0)
  have f29 := (Arv.keep A_q1 f15 nin0)
  refine kVIRT X25 (gEL G) (argsL := [.ref q0]) (rest := []) (wd G 50 rfl) (wd G 51 rfl) (notFace_of_selects (args := #[]) (mvT (s := s.setVm _) X25.hZ (wd G 53 rfl))) (wd G 53 rfl) (wd G 52 rfl) (wd G 7 rfl) (wd G 54 rfl) (by decide) (Exa.ext f23.2 (ES_G G)) (rm51 l G i0 i1 i2 i3 q0 q1 kp0 h4 X25.n f23 f26 f27 f28 f29 g_q0) all0 (fun _ _ _ _ _ q => q.1) (lenOf pd__Ljava_lang_Object__Z rfl) rfl (by decide) 0 (Nat.le_of_eq rfl) (by decide) (by decide) (by decide) (by rw [hml]; rfl) d4_30 (fun v30 L31 T32 h33 vm34 K35 w36 q37 C38 C39 X40 => ?_)
  obtain ⟨n41, ⟨e42, f43⟩⟩ := q37
  subst e42
  subst f43
  show Go _ _ _ _ T32 (mkF m 33 #[.val (.ref q0), .val .null, .val (.ref a13), .val (.int (2 : Int32)), .val (.int (0 : Int32)), .val (.ref aG)] [.int (0 : Int32)])
  refine kIFt X40 39 d4_33 (XT.i0_eq_t (by decide)) (by decide) ?_
  refine kIINC X40 (1 : Int32) (1 : Int32) #[.val (.ref q0), .val .null, .val (.ref a13), .val (.int (2 : Int32)), .val (.int (1 : Int32)), .val (.ref aG)] d4_39 (by decide) rfl (by decide) rfl ?_
  refine kGOTO X40 12 d4_42 (by decide) ?_
  refine kIL X40 d4_12 rfl ?_
  refine kILn X40 d4_14 rfl ?_
  refine kICf X40 d4_15 (XT.ii_ge_f (by decide)) ?_
  refine kALn X40 d4_18 rfl rfl ?_
  refine kIL X40 d4_19 rfl ?_
  have f44 := f18
  refine kAALD X40 (.ref aN) f44 rfl (by decide) rfl d4_21 ?_
  refine kAS X40 #[.val (.ref q0), .val .null, .val (.ref a13), .val (.int (2 : Int32)), .val (.int (1 : Int32)), .val (.ref aN)] d4_22 rfl rfl ?_
  refine kAL X40 d4_24 rfl rfl ?_
  have f45 := f23
  refine kGETF X40 (wd G 48 rfl) Via.refl (Fld.ext f45.2 (F_N G)) d4_26 (fun T46 X47 => ?_)
  refine kALn X47 d4_29 rfl rfl ?_
  have f48 := f26
  have f49 := f27
  have f50 := f28
  have f51 := f29
  refine kVIRT X47 (gEL G) (argsL := [.ref q0]) (rest := []) (wd G 50 rfl) (wd G 51 rfl) (notFace_of_selects (args := #[]) (mvT (s := s.setVm _) X47.hZ (wd G 53 rfl))) (wd G 53 rfl) (wd G 52 rfl) (wd G 7 rfl) (wd G 54 rfl) (by decide) (Exa.ext f45.2 (ES_N G)) (rm53 l G i0 i1 i2 i3 q0 q1 kp0 h4 X47.n f45 f48 f49 f50 f51 g_q0) all0 (fun _ _ _ _ _ q => q.1) (lenOf pd__Ljava_lang_Object__Z rfl) rfl (by decide) 0 (Nat.le_of_eq rfl) (by decide) (by decide) (by decide) (by rw [hml]; rfl) d4_30 (fun v52 L53 T54 h55 vm56 K57 w58 q59 C60 C61 X62 => ?_)
  obtain ⟨n63, ⟨e64, f65⟩⟩ := q59
  subst e64
  subst f65
  show Go _ _ _ _ T54 (mkF m 33 #[.val (.ref q0), .val .null, .val (.ref a13), .val (.int (2 : Int32)), .val (.int (1 : Int32)), .val (.ref aN)] [.int (0 : Int32)])
  refine kIFt X62 39 d4_33 (XT.i0_eq_t (by decide)) (by decide) ?_
  refine kIINC X62 (1 : Int32) (2 : Int32) #[.val (.ref q0), .val .null, .val (.ref a13), .val (.int (2 : Int32)), .val (.int (2 : Int32)), .val (.ref aN)] d4_39 (by decide) rfl (by decide) rfl ?_
  refine kGOTO X62 12 d4_42 (by decide) ?_
  refine kIL X62 d4_12 rfl ?_
  refine kILn X62 d4_14 rfl ?_
  refine kICt X62 45 d4_15 (XT.ii_ge_t (by decide)) (by decide) ?_
  refine kALn X62 d4_45 rfl rfl ?_
  have K66 : Keep h0 h4 [] := (Keep.trans (Keep.refl h0 []) f15 all0)
  exact kRETA X62 (gEL G) hret rfl rfl d4_46 (fun ve hve => ⟨X62.N, ⟨rfl, K66⟩⟩) (by decide) (by decide)
def Q_rm56 (Z : State) (iCS : Int32) (aV : Addr) (aG : Addr) (aN : Addr) (tG : Addr) (tN : Addr) (bG : Addr) (bN : Addr) (kV : ClassId) (kG : ClassId) (kN : ClassId)  (h0 : Heap) (n0 : Nat) (vs : Vm) (v : Option Value) (h : Heap) (L : List Loc) (ve : Vm) : Prop := Fr n0 L ∧ ((v = some (.int (0 : Int32)) ∧ (h0 = h)))
def R_rm56 : Room := { frames := 0, cells := 0, slots := 0, locals := 0 }
set_option maxRecDepth 65536 in
set_option maxHeartbeats 4000000 in
theorem rm56 (l : Launch) {Z : State} {a0 : Array Value} {iCS : Int32} {aV : Addr} {aG : Addr} {aN : Addr} {tG : Addr} {tN : Addr} {bG : Addr} {bN : Addr} {kV : ClassId} {kG : ClassId} {kN : ClassId} (G : Glob Z a0 iCS aV aG aN tG tN bG bN kV kG kN)  (h0 : Heap) {n0 : Nat} (Z0 : n0 ≤ h0.size) (O0 : Old Z n0 h0)  :
    MetH l Z EL0 (⟨"java/lang/String", "equals", "(Ljava/lang/Object;)Z"⟩ : MethodName) jdk_42_method_66_code 3 (some .boolean) [] R_rm56 #[.ref tG, .null] h0 [] (Q_rm56 Z iCS aV aG aN tG tN bG bN kV kG kN  h0 n0) := by
  refine MetH.of (n0 := n0) #[.val (.ref tG), .val .null, .unset] pn_java_lang_String rfl Z0 (fun p e s m below meth c T0 hret hml hnm hSL hs0 X0 => ?_)
  refine kALn X0 d6_0 rfl rfl ?_
  refine kALn X0 d6_1 rfl rfl ?_
  refine kACt X0 7 d6_2 rfl rfl (XT.aa_ne_t (fun q => nomatch q)) (by decide) ?_
  refine kALn X0 d6_7 rfl rfl ?_
  refine kINSN0 X0 d6_8 ?_
  refine kIFt X0 54 d6_11 (XT.i0_eq_t (by decide)) (by decide) ?_
  refine kIC X0 (0 : Int32) d6_54 (by decide) ?_
  exact kRETZ X0 (gEL G) (t := .boolean) hret (by simp) d6_55 (fun ve hve => ⟨X0.N, ⟨rfl, rfl⟩⟩) (by decide) (by decide)
def Q_rm57 (Z : State) (iCS : Int32) (aV : Addr) (aG : Addr) (aN : Addr) (tG : Addr) (tN : Addr) (bG : Addr) (bN : Addr) (kV : ClassId) (kG : ClassId) (kN : ClassId)  (h0 : Heap) (n0 : Nat) (vs : Vm) (v : Option Value) (h : Heap) (L : List Loc) (ve : Vm) : Prop := Fr n0 L ∧ ((v = some (.int (0 : Int32)) ∧ (h0 = h)))
def R_rm57 : Room := { frames := 0, cells := 0, slots := 0, locals := 0 }
set_option maxRecDepth 65536 in
set_option maxHeartbeats 4000000 in
theorem rm57 (l : Launch) {Z : State} {a0 : Array Value} {iCS : Int32} {aV : Addr} {aG : Addr} {aN : Addr} {tG : Addr} {tN : Addr} {bG : Addr} {bN : Addr} {kV : ClassId} {kG : ClassId} {kN : ClassId} (G : Glob Z a0 iCS aV aG aN tG tN bG bN kV kG kN)  (h0 : Heap) {n0 : Nat} (Z0 : n0 ≤ h0.size) (O0 : Old Z n0 h0)  :
    MetH l Z EL0 (⟨"java/lang/String", "equals", "(Ljava/lang/Object;)Z"⟩ : MethodName) jdk_42_method_66_code 3 (some .boolean) [] R_rm57 #[.ref tN, .null] h0 [] (Q_rm57 Z iCS aV aG aN tG tN bG bN kV kG kN  h0 n0) := by
  refine MetH.of (n0 := n0) #[.val (.ref tN), .val .null, .unset] pn_java_lang_String rfl Z0 (fun p e s m below meth c T0 hret hml hnm hSL hs0 X0 => ?_)
  refine kALn X0 d6_0 rfl rfl ?_
  refine kALn X0 d6_1 rfl rfl ?_
  refine kACt X0 7 d6_2 rfl rfl (XT.aa_ne_t (fun q => nomatch q)) (by decide) ?_
  refine kALn X0 d6_7 rfl rfl ?_
  refine kINSN0 X0 d6_8 ?_
  refine kIFt X0 54 d6_11 (XT.i0_eq_t (by decide)) (by decide) ?_
  refine kIC X0 (0 : Int32) d6_54 (by decide) ?_
  exact kRETZ X0 (gEL G) (t := .boolean) hret (by simp) d6_55 (fun ve hve => ⟨X0.N, ⟨rfl, rfl⟩⟩) (by decide) (by decide)
def Q_rm55 (Z : State) (iCS : Int32) (aV : Addr) (aG : Addr) (aN : Addr) (tG : Addr) (tN : Addr) (bG : Addr) (bN : Addr) (kV : ClassId) (kG : ClassId) (kN : ClassId)  (h0 : Heap) (n0 : Nat) (vs : Vm) (v : Option Value) (h : Heap) (L : List Loc) (ve : Vm) : Prop := Fr n0 L ∧ ((v = some (.null) ∧ (Keep h0 h [])))
def R_rm55 : Room := { frames := 2, cells := 1, slots := 2, locals := 25 }
set_option maxRecDepth 65536 in
set_option maxHeartbeats 4000000 in
theorem rm55 (l : Launch) {Z : State} {a0 : Array Value} {iCS : Int32} {aV : Addr} {aG : Addr} {aN : Addr} {tG : Addr} {tN : Addr} {bG : Addr} {bN : Addr} {kV : ClassId} {kG : ClassId} {kN : ClassId} (G : Glob Z a0 iCS aV aG aN tG tN bG bN kV kG kN)  (h0 : Heap) {n0 : Nat} (Z0 : n0 ≤ h0.size) (O0 : Old Z n0 h0)  :
    MetH l Z EL0 (⟨"com/example/tight_calculus/tightcalculus/Model$Kind", "named", "(Ljava/lang/String;)Lcom/example/tight_calculus/tightcalculus/Model$Kind;"⟩ : MethodName) prog_20_method_6_code 6 (some (.object "com/example/tight_calculus/tightcalculus/Model$Kind")) [] R_rm55 #[.null] h0 [] (Q_rm55 Z iCS aV aG aN tG tN bG bN kV kG kN  h0 n0) := by
  refine MetH.of (n0 := n0) #[.val .null, .unset, .unset, .unset, .unset, .unset] pn_com_example_tight_calculus_tightcalculus_Model_Kind rfl Z0 (fun p e s m below meth c T0 hret hml hnm hSL hs0 X0 => ?_)
  refine kNULL X0 d4_0 ?_
  refine kASn X0 #[.val .null, .val .null, .unset, .unset, .unset, .unset] d4_1 rfl rfl ?_
  refine kSTAT X0 (gEL G) (argsL := []) (rest := []) (wd G 31 rfl) (wd G 32 rfl) (wd G 29 rfl) (wd G 33 rfl) (by decide) (rm7 l G  h0 X0.n O0 ) all0 (fun _ _ _ _ _ q => q.1) (lenOf pd____Lcom_example_tight_calculus_tightcalculus_Model_Kind_ rfl) rfl (by decide) 0 (Nat.le_of_eq rfl) (by decide) (by decide) (by decide) (by rw [hml]; rfl) d4_2 (fun v1 L2 T3 h4 vm5 K6 w7 q8 C9 C10 X11 => ?_)
  obtain ⟨n12, ⟨a13, e14, f15, f16, f17, f18⟩⟩ := q8
  subst e14
  have g19 : n0 ≤ a13 := Nat.le_trans X0.n f16
  have g20 : h0.size ≤ a13 := Nat.le_trans X0.g0 f16
  show Go _ _ _ _ T3 (mkF m 5 #[.val .null, .val .null, .unset, .unset, .unset, .unset] [.ref a13])
  refine kASn X11 #[.val .null, .val .null, .val (.ref a13), .unset, .unset, .unset] d4_5 rfl rfl ?_
  refine kALn X11 d4_6 rfl rfl ?_
  refine kLEN X11 f18 d4_7 ?_
  refine kISn X11 #[.val .null, .val .null, .val (.ref a13), .val (.int (2 : Int32)), .unset, .unset] d4_8 rfl ?_
  refine kIC X11 (0 : Int32) d4_9 (by decide) ?_
  refine kIS X11 #[.val .null, .val .null, .val (.ref a13), .val (.int (2 : Int32)), .val (.int (0 : Int32)), .unset] d4_10 rfl ?_
  refine kIL X11 d4_12 rfl ?_
  refine kILn X11 d4_14 rfl ?_
  refine kICf X11 d4_15 (XT.ii_ge_f (by decide)) ?_
  refine kALn X11 d4_18 rfl rfl ?_
  refine kIL X11 d4_19 rfl ?_
  refine kAALD X11 (.ref aG) f18 rfl (by decide) rfl d4_21 ?_
  refine kAS X11 #[.val .null, .val .null, .val (.ref a13), .val (.int (2 : Int32)), .val (.int (0 : Int32)), .val (.ref aG)] d4_22 rfl rfl ?_
  refine kAL X11 d4_24 rfl rfl ?_
  have f21 := (Old.keep O0 f15 all0)
  refine kGETF X11 (wd G 48 rfl) Via.refl (Fld.ext f21.2 (F_G G)) d4_26 (fun T22 X23 => ?_)
  refine kALn X23 d4_29 rfl rfl ?_
  refine kVIRT X23 (gEL G) (argsL := [.null]) (rest := []) (wd G 50 rfl) (wd G 51 rfl) (notFace_of_selects (args := #[]) (mvT (s := s.setVm _) X23.hZ (wd G 53 rfl))) (wd G 53 rfl) (wd G 52 rfl) (wd G 7 rfl) (wd G 54 rfl) (by decide) (Exa.ext f21.2 (ES_G G)) (rm56 l G  h4 X23.n f21 ) all0 (fun _ _ _ _ _ q => q.1) (lenOf pd__Ljava_lang_Object__Z rfl) rfl (by decide) 0 (Nat.le_of_eq rfl) (by decide) (by decide) (by decide) (by rw [hml]; rfl) d4_30 (fun v24 L25 T26 h27 vm28 K29 w30 q31 C32 C33 X34 => ?_)
  obtain ⟨n35, ⟨e36, f37⟩⟩ := q31
  subst e36
  subst f37
  show Go _ _ _ _ T26 (mkF m 33 #[.val .null, .val .null, .val (.ref a13), .val (.int (2 : Int32)), .val (.int (0 : Int32)), .val (.ref aG)] [.int (0 : Int32)])
  refine kIFt X34 39 d4_33 (XT.i0_eq_t (by decide)) (by decide) ?_
  refine kIINC X34 (1 : Int32) (1 : Int32) #[.val .null, .val .null, .val (.ref a13), .val (.int (2 : Int32)), .val (.int (1 : Int32)), .val (.ref aG)] d4_39 (by decide) rfl (by decide) rfl ?_
  refine kGOTO X34 12 d4_42 (by decide) ?_
  refine kIL X34 d4_12 rfl ?_
  refine kILn X34 d4_14 rfl ?_
  refine kICf X34 d4_15 (XT.ii_ge_f (by decide)) ?_
  refine kALn X34 d4_18 rfl rfl ?_
  refine kIL X34 d4_19 rfl ?_
  have f38 := f18
  refine kAALD X34 (.ref aN) f38 rfl (by decide) rfl d4_21 ?_
  refine kAS X34 #[.val .null, .val .null, .val (.ref a13), .val (.int (2 : Int32)), .val (.int (1 : Int32)), .val (.ref aN)] d4_22 rfl rfl ?_
  refine kAL X34 d4_24 rfl rfl ?_
  have f39 := f21
  refine kGETF X34 (wd G 48 rfl) Via.refl (Fld.ext f39.2 (F_N G)) d4_26 (fun T40 X41 => ?_)
  refine kALn X41 d4_29 rfl rfl ?_
  refine kVIRT X41 (gEL G) (argsL := [.null]) (rest := []) (wd G 50 rfl) (wd G 51 rfl) (notFace_of_selects (args := #[]) (mvT (s := s.setVm _) X41.hZ (wd G 53 rfl))) (wd G 53 rfl) (wd G 52 rfl) (wd G 7 rfl) (wd G 54 rfl) (by decide) (Exa.ext f39.2 (ES_N G)) (rm57 l G  h4 X41.n f39 ) all0 (fun _ _ _ _ _ q => q.1) (lenOf pd__Ljava_lang_Object__Z rfl) rfl (by decide) 0 (Nat.le_of_eq rfl) (by decide) (by decide) (by decide) (by rw [hml]; rfl) d4_30 (fun v42 L43 T44 h45 vm46 K47 w48 q49 C50 C51 X52 => ?_)
  obtain ⟨n53, ⟨e54, f55⟩⟩ := q49
  subst e54
  subst f55
  show Go _ _ _ _ T44 (mkF m 33 #[.val .null, .val .null, .val (.ref a13), .val (.int (2 : Int32)), .val (.int (1 : Int32)), .val (.ref aN)] [.int (0 : Int32)])
  refine kIFt X52 39 d4_33 (XT.i0_eq_t (by decide)) (by decide) ?_
  refine kIINC X52 (1 : Int32) (2 : Int32) #[.val .null, .val .null, .val (.ref a13), .val (.int (2 : Int32)), .val (.int (2 : Int32)), .val (.ref aN)] d4_39 (by decide) rfl (by decide) rfl ?_
  refine kGOTO X52 12 d4_42 (by decide) ?_
  refine kIL X52 d4_12 rfl ?_
  refine kILn X52 d4_14 rfl ?_
  refine kICt X52 45 d4_15 (XT.ii_ge_t (by decide)) (by decide) ?_
  refine kALn X52 d4_45 rfl rfl ?_
  have K56 : Keep h0 h4 [] := (Keep.trans (Keep.refl h0 []) f15 all0)
  exact kRETA X52 (gEL G) hret rfl rfl d4_46 (fun ve hve => ⟨X52.N, ⟨rfl, K56⟩⟩) (by decide) (by decide)
theorem pn_law : plainName x.cls = true := pn_com_example_tight_calculus_tightcalculus_KindNamedPinLaw
def Q_rm0 (n0 : Nat) (vs : Vm) (v : Option Value) (h : Heap) (L : List Loc) (ve : Vm) : Prop := Fr n0 L ∧ v = some (.int 1)
set_option maxRecDepth 65536 in
set_option maxHeartbeats 40000000 in
theorem rm0 (l : Launch) {Z : State} {a0 : Array Value} {iCS : Int32} {aV : Addr} {aG : Addr} {aN : Addr} {tG : Addr} {tN : Addr} {bG : Addr} {bN : Addr} {kV : ClassId} {kG : ClassId} {kN : ClassId} (G : Glob Z a0 iCS aV aG aN tG tN bG bN kV kG kN) (i0 : Int32) (i1 : Int32) (i2 : Int32) (i3 : Int32) (i4 : Int32) (i5 : Int32) (h0 : Heap) {n0 : Nat} (Z0 : n0 ≤ h0.size) (O0 : Old Z n0 h0) :
    MetH l Z EL0 x code maxLocals ret tables_1 room_1 #[.int i0, .int i1, .int i2, .int i3, .int i4, .int i5] h0 [] (Q_rm0 n0) := by
  refine MetH.of (n0 := n0) #[.val (.int i0), .val (.int i1), .val (.int i2), .val (.int i3), .val (.int i4), .val (.int i5), .unset, .unset, .unset, .unset, .unset, .unset, .unset, .unset] pn_law rfl Z0 (fun p e s m below meth c T0 hret hml hnm hSL hs0 X0 => ?_)
  refine kILn X0 at_0 rfl ?_
  refine kLDCI X0 (wd G 0 rfl) at_1 ?_
  refine kIAND X0 (i0 &&& (2147483647 : Int32)) at_3 rfl ?_
  refine kBI X0 (6 : Int32) at_4 (by decide) ?_
  refine kIREM X0 ((i0 &&& (2147483647 : Int32)) % (6 : Int32)) at_6 (by decide) rfl ?_
  refine kIS X0 #[.val (.int i0), .val (.int i1), .val (.int i2), .val (.int i3), .val (.int i4), .val (.int i5), .val (.int ((i0 &&& (2147483647 : Int32)) % (6 : Int32))), .unset, .unset, .unset, .unset, .unset, .unset, .unset] at_7 rfl ?_
  obtain ⟨kk1, hk2⟩ := own_mod6 i0
  rw [hk2]
  clear hk2
  match kk1 with
  | ⟨0, _⟩ =>
    refine kILn X0 at_9 rfl ?_
    refine kIC X0 (1 : Int32) at_10 (by decide) ?_
    refine kIAND X0 (i1 &&& (1 : Int32)) at_11 rfl ?_
    by_cases c3 : (i1 &&& (1 : Int32)) = 0
    · refine kIFf X0 at_12 (XT.i0_ne_f c3) ?_
      refine kIC X0 (1 : Int32) at_15 (by decide) ?_
      refine kGOTO X0 20 at_16 (by decide) ?_
      refine kIS X0 #[.val (.int i0), .val (.int i1), .val (.int i2), .val (.int i3), .val (.int i4), .val (.int i5), .val (.int (0 : Int32)), .val (.int (1 : Int32)), .unset, .unset, .unset, .unset, .unset, .unset] at_20 rfl ?_
      refine kILn X0 at_22 rfl ?_
      refine kIL X0 at_23 rfl ?_
      refine kIFf X0 at_25 (XT.i0_eq_f (by decide)) ?_
      refine kBI X0 (103 : Int32) at_28 (by decide) ?_
      refine kGOTO X0 35 at_30 (by decide) ?_
      refine kSTAT X0 (gEL G) (argsL := [.int i2, .int (103 : Int32)]) (rest := []) (wd G 1 rfl) (wd G 2 rfl) (wd G 3 rfl) (wd G 4 rfl) (by decide) (rm1 l G i2 h0 X0.n O0 ) all0 (fun _ _ _ _ _ q => q.1) (lenOf pd__IC_C rfl) rfl (by decide) 0 (Nat.le_of_eq rfl) (by decide) (by decide) (by decide) (by rw [hml]; rfl) at_35 (fun v4 L5 T6 h7 vm8 K9 w10 q11 C12 C13 X14 => ?_)
      obtain ⟨n15, ⟨e16, f17⟩⟩ := q11
      subst e16
      subst f17
      show Go _ _ _ _ T6 (mkF m 38 #[.val (.int i0), .val (.int i1), .val (.int i2), .val (.int i3), .val (.int i4), .val (.int i5), .val (.int (0 : Int32)), .val (.int (1 : Int32)), .unset, .unset, .unset, .unset, .unset, .unset] [.int (drV i2 (103 : Int32))])
      obtain ⟨c0, ec0, c18, c19⟩ : ∃ c, c = (drV i2 (103 : Int32)) ∧ ¬ (255 : Int32) < c ∧ ¬ c < 0 := ⟨_, rfl, own_drR _ (by decide) (by decide)⟩
      rw [← ec0]
      refine kIS X14 #[.val (.int i0), .val (.int i1), .val (.int i2), .val (.int i3), .val (.int i4), .val (.int i5), .val (.int (0 : Int32)), .val (.int (1 : Int32)), .val (.int c0), .unset, .unset, .unset, .unset, .unset] at_38 rfl ?_
      refine kILn X14 at_40 rfl ?_
      refine kIL X14 at_41 rfl ?_
      refine kIFf X14 at_43 (XT.i0_eq_f (by decide)) ?_
      refine kBI X14 (112 : Int32) at_46 (by decide) ?_
      refine kGOTO X14 53 at_48 (by decide) ?_
      have f20 := O0
      refine kSTAT X14 (gEL G) (argsL := [.int i3, .int (112 : Int32)]) (rest := []) (wd G 1 rfl) (wd G 2 rfl) (wd G 3 rfl) (wd G 4 rfl) (by decide) (rm2 l G i3 h0 X14.n f20 ) all0 (fun _ _ _ _ _ q => q.1) (lenOf pd__IC_C rfl) rfl (by decide) 0 (Nat.le_of_eq rfl) (by decide) (by decide) (by decide) (by rw [hml]; rfl) at_53 (fun v21 L22 T23 h24 vm25 K26 w27 q28 C29 C30 X31 => ?_)
      obtain ⟨n32, ⟨e33, f34⟩⟩ := q28
      subst e33
      subst f34
      show Go _ _ _ _ T23 (mkF m 56 #[.val (.int i0), .val (.int i1), .val (.int i2), .val (.int i3), .val (.int i4), .val (.int i5), .val (.int (0 : Int32)), .val (.int (1 : Int32)), .val (.int c0), .unset, .unset, .unset, .unset, .unset] [.int (drV i3 (112 : Int32))])
      obtain ⟨c1, ec1, c35, c36⟩ : ∃ c, c = (drV i3 (112 : Int32)) ∧ ¬ (255 : Int32) < c ∧ ¬ c < 0 := ⟨_, rfl, own_drR _ (by decide) (by decide)⟩
      rw [← ec1]
      refine kIS X31 #[.val (.int i0), .val (.int i1), .val (.int i2), .val (.int i3), .val (.int i4), .val (.int i5), .val (.int (0 : Int32)), .val (.int (1 : Int32)), .val (.int c0), .val (.int c1), .unset, .unset, .unset, .unset] at_56 rfl ?_
      refine kIL X31 at_58 rfl ?_
      refine kIL X31 at_60 rfl ?_
      refine kIFf X31 at_62 (XT.i0_eq_f (by decide)) ?_
      refine kBI X31 (99 : Int32) at_65 (by decide) ?_
      refine kGOTO X31 72 at_67 (by decide) ?_
      have f37 := f20
      refine kSTAT X31 (gEL G) (argsL := [.int i4, .int (99 : Int32)]) (rest := []) (wd G 1 rfl) (wd G 2 rfl) (wd G 3 rfl) (wd G 4 rfl) (by decide) (rm3 l G i4 h0 X31.n f37 ) all0 (fun _ _ _ _ _ q => q.1) (lenOf pd__IC_C rfl) rfl (by decide) 0 (Nat.le_of_eq rfl) (by decide) (by decide) (by decide) (by rw [hml]; rfl) at_72 (fun v38 L39 T40 h41 vm42 K43 w44 q45 C46 C47 X48 => ?_)
      obtain ⟨n49, ⟨e50, f51⟩⟩ := q45
      subst e50
      subst f51
      show Go _ _ _ _ T40 (mkF m 75 #[.val (.int i0), .val (.int i1), .val (.int i2), .val (.int i3), .val (.int i4), .val (.int i5), .val (.int (0 : Int32)), .val (.int (1 : Int32)), .val (.int c0), .val (.int c1), .unset, .unset, .unset, .unset] [.int (drV i4 (99 : Int32))])
      obtain ⟨c2, ec2, c52, c53⟩ : ∃ c, c = (drV i4 (99 : Int32)) ∧ ¬ (255 : Int32) < c ∧ ¬ c < 0 := ⟨_, rfl, own_drR _ (by decide) (by decide)⟩
      rw [← ec2]
      refine kIS X48 #[.val (.int i0), .val (.int i1), .val (.int i2), .val (.int i3), .val (.int i4), .val (.int i5), .val (.int (0 : Int32)), .val (.int (1 : Int32)), .val (.int c0), .val (.int c1), .val (.int c2), .unset, .unset, .unset] at_75 rfl ?_
      refine kIL X48 at_77 rfl ?_
      refine kSI X48 (255 : Int32) at_79 (by decide) ?_
      refine kIAND X48 (i5 &&& (255 : Int32)) at_82 rfl ?_
      refine kI2C X48 (i5 &&& (255 : Int32)) at_83 (i2c_mask _) ?_
      obtain ⟨c3, ec3, c54, c55⟩ : ∃ c, c = (i5 &&& (255 : Int32)) ∧ ¬ (255 : Int32) < c ∧ ¬ c < 0 := ⟨_, rfl, own_mask _⟩
      rw [← ec3]
      refine kIS X48 #[.val (.int i0), .val (.int i1), .val (.int i2), .val (.int i3), .val (.int i4), .val (.int i5), .val (.int (0 : Int32)), .val (.int (1 : Int32)), .val (.int c0), .val (.int c1), .val (.int c2), .val (.int c3), .unset, .unset] at_84 rfl ?_
      refine kIL X48 at_86 rfl ?_
      refine kIFf X48 at_88 (XT.i0_ne_f (by decide)) ?_
      refine kNEW X48 (wd G 5 rfl) (wd G 6 rfl) (wd G 7 rfl) at_91 (by decide) (by decide) (fun T56 h57 a59 E60 q61 g62 A63 D64 s65 X58 => ?_)
      have g66 : h0.size ≤ a59 := q61 ▸ X48.g0
      have f67 : Fld Z h57 a59 "java/lang/String" "value" "[B" (.null) := D64 (Or.inr (wd G 21 rfl)) (ty := (.array (.byte))) (by decide)
      have f68 : Fld Z h57 a59 "java/lang/String" "coder" "B" (.int (0 : Int32)) := D64 (Or.inr (wd G 22 rfl)) (ty := .byte) (by decide)
      refine kDUP X58 at_94 rfl ?_
      refine kIC X58 (0 : Int32) at_95 (by decide) ?_
      refine kNEWP X58 (wd G 8 rfl) (cap := 0) at_96 (by decide) (by decide) (by decide) (by decide) (by decide) (fun T69 h70 a72 k73 E74 q75 g76 A77 s78 X71 => ?_)
      have n79 : a59 ≠ a72 := Nat.ne_of_lt (Nat.lt_of_lt_of_le (A63.lt) (Nat.le_of_eq q75.symm))
      have g80 : h0.size ≤ a72 := q75 ▸ X58.g0
      have f81 : Arv Z h70 a72 k73 .char 0 [] (.int (0 : Int32)) := A77.pad (pad_rep [] _ 0)
      have f82 := (Exa.ext E74 A63)
      have f83 := (Fld.ext E74 f67)
      have f84 := (Fld.ext E74 f68)
      have f85 := (Old.ext (Old.ext f37 E60) E74)
      have f97 := (Safe.ext E74 X58.C.1 s65)
      refine kSPEC X71 (gEL G) (argsL := [.ref a72]) (rest := [.ref a59]) (wd G 9 rfl) (wd G 10 rfl) (wd G 7 rfl) (wd G 11 rfl) rfl (by decide) (rm4 l G a59 a72 k73 h70 X71.n f85 f81 f82 f83 (Ne.symm n79) f84 g62) (allS ⟨(f82.lt), f97⟩ all0) (fun _ _ _ _ _ q => q.1) (lenOf pd___C_V rfl) rfl (by decide) 1 (Nat.le_of_eq rfl) (by decide) (by decide) (by decide) (by rw [hml]; rfl) at_98 (fun v86 L87 T88 h89 vm90 K91 w92 q93 C94 C95 X96 => ?_)
      obtain ⟨n98, ⟨a99, k100, e101, f102, f103, f104, f105, f106⟩⟩ := q93
      subst e101
      have n107 : a59 ≠ a99 := f103 a59 (f82.lt) (CHr.safe C94 (f82.lt) f97)
      have n108 : a72 ≠ a99 := f103 a72 (f81.lt) (CHr.safe C94 (f81.lt) (Safe.arv X71.hZ.alike f81 (by decide)))
      have n109 : ∀ x, x < h0.size → Safe Z EL0 s.vm h0 x → x ≠ a99 := fun x hx S => f103 x (Nat.lt_of_lt_of_le hx X71.g0) (CHr.safe C94 (Nat.lt_of_lt_of_le hx X71.g0) (CHr.safe (hs0 ▸ X71.C) hx S))
      show Go _ _ _ _ T88 (mkF m 101 #[.val (.int i0), .val (.int i1), .val (.int i2), .val (.int i3), .val (.int i4), .val (.int i5), .val (.int (0 : Int32)), .val (.int (1 : Int32)), .val (.int c0), .val (.int c1), .val (.int c2), .val (.int c3), .unset, .unset] [.ref a59])
      refine kAS X96 #[.val (.int i0), .val (.int i1), .val (.int i2), .val (.int i3), .val (.int i4), .val (.int i5), .val (.int (0 : Int32)), .val (.int (1 : Int32)), .val (.int c0), .val (.int c1), .val (.int c2), .val (.int c3), .val (.ref a59), .unset] at_101 rfl rfl ?_
      refine kGOTO X96 243 at_103 (by decide) ?_
      refine kNULL X96 at_243 ?_
      refine kAS X96 #[.val (.int i0), .val (.int i1), .val (.int i2), .val (.int i3), .val (.int i4), .val (.int i5), .val (.int (0 : Int32)), .val (.int (1 : Int32)), .val (.int c0), .val (.int c1), .val (.int c2), .val (.int c3), .val (.ref a59), .val .null] at_244 rfl rfl ?_
      refine kIL X96 at_246 rfl ?_
      refine kIC X96 (3 : Int32) at_248 (by decide) ?_
      refine kICt X96 307 at_249 (XT.ii_ne_t (by decide)) (by decide) ?_
      refine kAL X96 at_307 rfl rfl ?_
      have f110 := (Exa.keep f82 f102)
      have f111 := (Old.keep f85 f102 (allS g62 all0))
      refine kSTAT X96 (gEL G) (argsL := [.ref a59]) (rest := []) (wd G 27 rfl) (wd G 28 rfl) (wd G 29 rfl) (wd G 30 rfl) (by decide) (rm6 l G a59 a99 k100 h89 X96.n f111 f110 f104 f105 f106 g62) all0 (fun _ _ _ _ _ q => q.1) (lenOf pd__Ljava_lang_String__Lcom_example_tight_calculus_tightcalculus_Model_Kind_ rfl) rfl (by decide) 0 (Nat.le_of_eq rfl) (by decide) (by decide) (by decide) (by rw [hml]; rfl) at_309 (fun v112 L113 T114 h115 vm116 K117 w118 q119 C120 C121 X122 => ?_)
      obtain ⟨n123, ⟨e124, f125⟩⟩ := q119
      subst e124
      show Go _ _ _ _ T114 (mkF m 312 #[.val (.int i0), .val (.int i1), .val (.int i2), .val (.int i3), .val (.int i4), .val (.int i5), .val (.int (0 : Int32)), .val (.int (1 : Int32)), .val (.int c0), .val (.int c1), .val (.int c2), .val (.int c3), .val (.ref a59), .val .null] [.null])
      refine kAL X122 at_312 rfl rfl ?_
      refine kACf X122 at_314 rfl rfl (XT.aa_ne_f rfl) ?_
      refine kIC X122 (1 : Int32) at_317 (by decide) ?_
      refine kGOTO X122 322 at_318 (by decide) ?_
      exact kRETZ X122 (gEL G) (t := .boolean) hret (by simp) at_322 (fun ve hve => ⟨X122.N, rfl⟩) (by decide) (by decide)
    · refine kIFt X0 19 at_12 (XT.i0_ne_t c3) (by decide) ?_
      refine kIC X0 (0 : Int32) at_19 (by decide) ?_
      refine kIS X0 #[.val (.int i0), .val (.int i1), .val (.int i2), .val (.int i3), .val (.int i4), .val (.int i5), .val (.int (0 : Int32)), .val (.int (0 : Int32)), .unset, .unset, .unset, .unset, .unset, .unset] at_20 rfl ?_
      refine kILn X0 at_22 rfl ?_
      refine kIL X0 at_23 rfl ?_
      refine kIFt X0 33 at_25 (XT.i0_eq_t (by decide)) (by decide) ?_
      refine kBI X0 (97 : Int32) at_33 (by decide) ?_
      refine kSTAT X0 (gEL G) (argsL := [.int i2, .int (97 : Int32)]) (rest := []) (wd G 1 rfl) (wd G 2 rfl) (wd G 3 rfl) (wd G 4 rfl) (by decide) (rm12 l G i2 h0 X0.n O0 ) all0 (fun _ _ _ _ _ q => q.1) (lenOf pd__IC_C rfl) rfl (by decide) 0 (Nat.le_of_eq rfl) (by decide) (by decide) (by decide) (by rw [hml]; rfl) at_35 (fun v126 L127 T128 h129 vm130 K131 w132 q133 C134 C135 X136 => ?_)
      obtain ⟨n137, ⟨e138, f139⟩⟩ := q133
      subst e138
      subst f139
      show Go _ _ _ _ T128 (mkF m 38 #[.val (.int i0), .val (.int i1), .val (.int i2), .val (.int i3), .val (.int i4), .val (.int i5), .val (.int (0 : Int32)), .val (.int (0 : Int32)), .unset, .unset, .unset, .unset, .unset, .unset] [.int (drV i2 (97 : Int32))])
      obtain ⟨c0, ec0, c140, c141⟩ : ∃ c, c = (drV i2 (97 : Int32)) ∧ ¬ (255 : Int32) < c ∧ ¬ c < 0 := ⟨_, rfl, own_drR _ (by decide) (by decide)⟩
      rw [← ec0]
      refine kIS X136 #[.val (.int i0), .val (.int i1), .val (.int i2), .val (.int i3), .val (.int i4), .val (.int i5), .val (.int (0 : Int32)), .val (.int (0 : Int32)), .val (.int c0), .unset, .unset, .unset, .unset, .unset] at_38 rfl ?_
      refine kILn X136 at_40 rfl ?_
      refine kIL X136 at_41 rfl ?_
      refine kIFt X136 51 at_43 (XT.i0_eq_t (by decide)) (by decide) ?_
      refine kBI X136 (110 : Int32) at_51 (by decide) ?_
      have f142 := O0
      refine kSTAT X136 (gEL G) (argsL := [.int i3, .int (110 : Int32)]) (rest := []) (wd G 1 rfl) (wd G 2 rfl) (wd G 3 rfl) (wd G 4 rfl) (by decide) (rm13 l G i3 h0 X136.n f142 ) all0 (fun _ _ _ _ _ q => q.1) (lenOf pd__IC_C rfl) rfl (by decide) 0 (Nat.le_of_eq rfl) (by decide) (by decide) (by decide) (by rw [hml]; rfl) at_53 (fun v143 L144 T145 h146 vm147 K148 w149 q150 C151 C152 X153 => ?_)
      obtain ⟨n154, ⟨e155, f156⟩⟩ := q150
      subst e155
      subst f156
      show Go _ _ _ _ T145 (mkF m 56 #[.val (.int i0), .val (.int i1), .val (.int i2), .val (.int i3), .val (.int i4), .val (.int i5), .val (.int (0 : Int32)), .val (.int (0 : Int32)), .val (.int c0), .unset, .unset, .unset, .unset, .unset] [.int (drV i3 (110 : Int32))])
      obtain ⟨c1, ec1, c157, c158⟩ : ∃ c, c = (drV i3 (110 : Int32)) ∧ ¬ (255 : Int32) < c ∧ ¬ c < 0 := ⟨_, rfl, own_drR _ (by decide) (by decide)⟩
      rw [← ec1]
      refine kIS X153 #[.val (.int i0), .val (.int i1), .val (.int i2), .val (.int i3), .val (.int i4), .val (.int i5), .val (.int (0 : Int32)), .val (.int (0 : Int32)), .val (.int c0), .val (.int c1), .unset, .unset, .unset, .unset] at_56 rfl ?_
      refine kIL X153 at_58 rfl ?_
      refine kIL X153 at_60 rfl ?_
      refine kIFt X153 70 at_62 (XT.i0_eq_t (by decide)) (by decide) ?_
      refine kBI X153 (100 : Int32) at_70 (by decide) ?_
      have f159 := f142
      refine kSTAT X153 (gEL G) (argsL := [.int i4, .int (100 : Int32)]) (rest := []) (wd G 1 rfl) (wd G 2 rfl) (wd G 3 rfl) (wd G 4 rfl) (by decide) (rm14 l G i4 h0 X153.n f159 ) all0 (fun _ _ _ _ _ q => q.1) (lenOf pd__IC_C rfl) rfl (by decide) 0 (Nat.le_of_eq rfl) (by decide) (by decide) (by decide) (by rw [hml]; rfl) at_72 (fun v160 L161 T162 h163 vm164 K165 w166 q167 C168 C169 X170 => ?_)
      obtain ⟨n171, ⟨e172, f173⟩⟩ := q167
      subst e172
      subst f173
      show Go _ _ _ _ T162 (mkF m 75 #[.val (.int i0), .val (.int i1), .val (.int i2), .val (.int i3), .val (.int i4), .val (.int i5), .val (.int (0 : Int32)), .val (.int (0 : Int32)), .val (.int c0), .val (.int c1), .unset, .unset, .unset, .unset] [.int (drV i4 (100 : Int32))])
      obtain ⟨c2, ec2, c174, c175⟩ : ∃ c, c = (drV i4 (100 : Int32)) ∧ ¬ (255 : Int32) < c ∧ ¬ c < 0 := ⟨_, rfl, own_drR _ (by decide) (by decide)⟩
      rw [← ec2]
      refine kIS X170 #[.val (.int i0), .val (.int i1), .val (.int i2), .val (.int i3), .val (.int i4), .val (.int i5), .val (.int (0 : Int32)), .val (.int (0 : Int32)), .val (.int c0), .val (.int c1), .val (.int c2), .unset, .unset, .unset] at_75 rfl ?_
      refine kIL X170 at_77 rfl ?_
      refine kSI X170 (255 : Int32) at_79 (by decide) ?_
      refine kIAND X170 (i5 &&& (255 : Int32)) at_82 rfl ?_
      refine kI2C X170 (i5 &&& (255 : Int32)) at_83 (i2c_mask _) ?_
      obtain ⟨c3, ec3, c176, c177⟩ : ∃ c, c = (i5 &&& (255 : Int32)) ∧ ¬ (255 : Int32) < c ∧ ¬ c < 0 := ⟨_, rfl, own_mask _⟩
      rw [← ec3]
      refine kIS X170 #[.val (.int i0), .val (.int i1), .val (.int i2), .val (.int i3), .val (.int i4), .val (.int i5), .val (.int (0 : Int32)), .val (.int (0 : Int32)), .val (.int c0), .val (.int c1), .val (.int c2), .val (.int c3), .unset, .unset] at_84 rfl ?_
      refine kIL X170 at_86 rfl ?_
      refine kIFf X170 at_88 (XT.i0_ne_f (by decide)) ?_
      refine kNEW X170 (wd G 5 rfl) (wd G 6 rfl) (wd G 7 rfl) at_91 (by decide) (by decide) (fun T178 h179 a181 E182 q183 g184 A185 D186 s187 X180 => ?_)
      have g188 : h0.size ≤ a181 := q183 ▸ X170.g0
      have f189 : Fld Z h179 a181 "java/lang/String" "value" "[B" (.null) := D186 (Or.inr (wd G 21 rfl)) (ty := (.array (.byte))) (by decide)
      have f190 : Fld Z h179 a181 "java/lang/String" "coder" "B" (.int (0 : Int32)) := D186 (Or.inr (wd G 22 rfl)) (ty := .byte) (by decide)
      refine kDUP X180 at_94 rfl ?_
      refine kIC X180 (0 : Int32) at_95 (by decide) ?_
      refine kNEWP X180 (wd G 8 rfl) (cap := 0) at_96 (by decide) (by decide) (by decide) (by decide) (by decide) (fun T191 h192 a194 k195 E196 q197 g198 A199 s200 X193 => ?_)
      have n201 : a181 ≠ a194 := Nat.ne_of_lt (Nat.lt_of_lt_of_le (A185.lt) (Nat.le_of_eq q197.symm))
      have g202 : h0.size ≤ a194 := q197 ▸ X180.g0
      have f203 : Arv Z h192 a194 k195 .char 0 [] (.int (0 : Int32)) := A199.pad (pad_rep [] _ 0)
      have f204 := (Exa.ext E196 A185)
      have f205 := (Fld.ext E196 f189)
      have f206 := (Fld.ext E196 f190)
      have f207 := (Old.ext (Old.ext f159 E182) E196)
      have f219 := (Safe.ext E196 X180.C.1 s187)
      refine kSPEC X193 (gEL G) (argsL := [.ref a194]) (rest := [.ref a181]) (wd G 9 rfl) (wd G 10 rfl) (wd G 7 rfl) (wd G 11 rfl) rfl (by decide) (rm4 l G a181 a194 k195 h192 X193.n f207 f203 f204 f205 (Ne.symm n201) f206 g184) (allS ⟨(f204.lt), f219⟩ all0) (fun _ _ _ _ _ q => q.1) (lenOf pd___C_V rfl) rfl (by decide) 1 (Nat.le_of_eq rfl) (by decide) (by decide) (by decide) (by rw [hml]; rfl) at_98 (fun v208 L209 T210 h211 vm212 K213 w214 q215 C216 C217 X218 => ?_)
      obtain ⟨n220, ⟨a221, k222, e223, f224, f225, f226, f227, f228⟩⟩ := q215
      subst e223
      have n229 : a181 ≠ a221 := f225 a181 (f204.lt) (CHr.safe C216 (f204.lt) f219)
      have n230 : a194 ≠ a221 := f225 a194 (f203.lt) (CHr.safe C216 (f203.lt) (Safe.arv X193.hZ.alike f203 (by decide)))
      have n231 : ∀ x, x < h0.size → Safe Z EL0 s.vm h0 x → x ≠ a221 := fun x hx S => f225 x (Nat.lt_of_lt_of_le hx X193.g0) (CHr.safe C216 (Nat.lt_of_lt_of_le hx X193.g0) (CHr.safe (hs0 ▸ X193.C) hx S))
      show Go _ _ _ _ T210 (mkF m 101 #[.val (.int i0), .val (.int i1), .val (.int i2), .val (.int i3), .val (.int i4), .val (.int i5), .val (.int (0 : Int32)), .val (.int (0 : Int32)), .val (.int c0), .val (.int c1), .val (.int c2), .val (.int c3), .unset, .unset] [.ref a181])
      refine kAS X218 #[.val (.int i0), .val (.int i1), .val (.int i2), .val (.int i3), .val (.int i4), .val (.int i5), .val (.int (0 : Int32)), .val (.int (0 : Int32)), .val (.int c0), .val (.int c1), .val (.int c2), .val (.int c3), .val (.ref a181), .unset] at_101 rfl rfl ?_
      refine kGOTO X218 243 at_103 (by decide) ?_
      refine kNULL X218 at_243 ?_
      refine kAS X218 #[.val (.int i0), .val (.int i1), .val (.int i2), .val (.int i3), .val (.int i4), .val (.int i5), .val (.int (0 : Int32)), .val (.int (0 : Int32)), .val (.int c0), .val (.int c1), .val (.int c2), .val (.int c3), .val (.ref a181), .val .null] at_244 rfl rfl ?_
      refine kIL X218 at_246 rfl ?_
      refine kIC X218 (3 : Int32) at_248 (by decide) ?_
      refine kICt X218 307 at_249 (XT.ii_ne_t (by decide)) (by decide) ?_
      refine kAL X218 at_307 rfl rfl ?_
      have f232 := (Exa.keep f204 f224)
      have f233 := (Old.keep f207 f224 (allS g184 all0))
      refine kSTAT X218 (gEL G) (argsL := [.ref a181]) (rest := []) (wd G 27 rfl) (wd G 28 rfl) (wd G 29 rfl) (wd G 30 rfl) (by decide) (rm6 l G a181 a221 k222 h211 X218.n f233 f232 f226 f227 f228 g184) all0 (fun _ _ _ _ _ q => q.1) (lenOf pd__Ljava_lang_String__Lcom_example_tight_calculus_tightcalculus_Model_Kind_ rfl) rfl (by decide) 0 (Nat.le_of_eq rfl) (by decide) (by decide) (by decide) (by rw [hml]; rfl) at_309 (fun v234 L235 T236 h237 vm238 K239 w240 q241 C242 C243 X244 => ?_)
      obtain ⟨n245, ⟨e246, f247⟩⟩ := q241
      subst e246
      show Go _ _ _ _ T236 (mkF m 312 #[.val (.int i0), .val (.int i1), .val (.int i2), .val (.int i3), .val (.int i4), .val (.int i5), .val (.int (0 : Int32)), .val (.int (0 : Int32)), .val (.int c0), .val (.int c1), .val (.int c2), .val (.int c3), .val (.ref a181), .val .null] [.null])
      refine kAL X244 at_312 rfl rfl ?_
      refine kACf X244 at_314 rfl rfl (XT.aa_ne_f rfl) ?_
      refine kIC X244 (1 : Int32) at_317 (by decide) ?_
      refine kGOTO X244 322 at_318 (by decide) ?_
      exact kRETZ X244 (gEL G) (t := .boolean) hret (by simp) at_322 (fun ve hve => ⟨X244.N, rfl⟩) (by decide) (by decide)
  | ⟨1, _⟩ =>
    refine kILn X0 at_9 rfl ?_
    refine kIC X0 (1 : Int32) at_10 (by decide) ?_
    refine kIAND X0 (i1 &&& (1 : Int32)) at_11 rfl ?_
    by_cases c248 : (i1 &&& (1 : Int32)) = 0
    · refine kIFf X0 at_12 (XT.i0_ne_f c248) ?_
      refine kIC X0 (1 : Int32) at_15 (by decide) ?_
      refine kGOTO X0 20 at_16 (by decide) ?_
      refine kIS X0 #[.val (.int i0), .val (.int i1), .val (.int i2), .val (.int i3), .val (.int i4), .val (.int i5), .val (.int (1 : Int32)), .val (.int (1 : Int32)), .unset, .unset, .unset, .unset, .unset, .unset] at_20 rfl ?_
      refine kILn X0 at_22 rfl ?_
      refine kIL X0 at_23 rfl ?_
      refine kIFf X0 at_25 (XT.i0_eq_f (by decide)) ?_
      refine kBI X0 (103 : Int32) at_28 (by decide) ?_
      refine kGOTO X0 35 at_30 (by decide) ?_
      refine kSTAT X0 (gEL G) (argsL := [.int i2, .int (103 : Int32)]) (rest := []) (wd G 1 rfl) (wd G 2 rfl) (wd G 3 rfl) (wd G 4 rfl) (by decide) (rm1 l G i2 h0 X0.n O0 ) all0 (fun _ _ _ _ _ q => q.1) (lenOf pd__IC_C rfl) rfl (by decide) 0 (Nat.le_of_eq rfl) (by decide) (by decide) (by decide) (by rw [hml]; rfl) at_35 (fun v249 L250 T251 h252 vm253 K254 w255 q256 C257 C258 X259 => ?_)
      obtain ⟨n260, ⟨e261, f262⟩⟩ := q256
      subst e261
      subst f262
      show Go _ _ _ _ T251 (mkF m 38 #[.val (.int i0), .val (.int i1), .val (.int i2), .val (.int i3), .val (.int i4), .val (.int i5), .val (.int (1 : Int32)), .val (.int (1 : Int32)), .unset, .unset, .unset, .unset, .unset, .unset] [.int (drV i2 (103 : Int32))])
      obtain ⟨c0, ec0, c263, c264⟩ : ∃ c, c = (drV i2 (103 : Int32)) ∧ ¬ (255 : Int32) < c ∧ ¬ c < 0 := ⟨_, rfl, own_drR _ (by decide) (by decide)⟩
      rw [← ec0]
      refine kIS X259 #[.val (.int i0), .val (.int i1), .val (.int i2), .val (.int i3), .val (.int i4), .val (.int i5), .val (.int (1 : Int32)), .val (.int (1 : Int32)), .val (.int c0), .unset, .unset, .unset, .unset, .unset] at_38 rfl ?_
      refine kILn X259 at_40 rfl ?_
      refine kIL X259 at_41 rfl ?_
      refine kIFf X259 at_43 (XT.i0_eq_f (by decide)) ?_
      refine kBI X259 (112 : Int32) at_46 (by decide) ?_
      refine kGOTO X259 53 at_48 (by decide) ?_
      have f265 := O0
      refine kSTAT X259 (gEL G) (argsL := [.int i3, .int (112 : Int32)]) (rest := []) (wd G 1 rfl) (wd G 2 rfl) (wd G 3 rfl) (wd G 4 rfl) (by decide) (rm2 l G i3 h0 X259.n f265 ) all0 (fun _ _ _ _ _ q => q.1) (lenOf pd__IC_C rfl) rfl (by decide) 0 (Nat.le_of_eq rfl) (by decide) (by decide) (by decide) (by rw [hml]; rfl) at_53 (fun v266 L267 T268 h269 vm270 K271 w272 q273 C274 C275 X276 => ?_)
      obtain ⟨n277, ⟨e278, f279⟩⟩ := q273
      subst e278
      subst f279
      show Go _ _ _ _ T268 (mkF m 56 #[.val (.int i0), .val (.int i1), .val (.int i2), .val (.int i3), .val (.int i4), .val (.int i5), .val (.int (1 : Int32)), .val (.int (1 : Int32)), .val (.int c0), .unset, .unset, .unset, .unset, .unset] [.int (drV i3 (112 : Int32))])
      obtain ⟨c1, ec1, c280, c281⟩ : ∃ c, c = (drV i3 (112 : Int32)) ∧ ¬ (255 : Int32) < c ∧ ¬ c < 0 := ⟨_, rfl, own_drR _ (by decide) (by decide)⟩
      rw [← ec1]
      refine kIS X276 #[.val (.int i0), .val (.int i1), .val (.int i2), .val (.int i3), .val (.int i4), .val (.int i5), .val (.int (1 : Int32)), .val (.int (1 : Int32)), .val (.int c0), .val (.int c1), .unset, .unset, .unset, .unset] at_56 rfl ?_
      refine kIL X276 at_58 rfl ?_
      refine kIL X276 at_60 rfl ?_
      refine kIFf X276 at_62 (XT.i0_eq_f (by decide)) ?_
      refine kBI X276 (99 : Int32) at_65 (by decide) ?_
      refine kGOTO X276 72 at_67 (by decide) ?_
      have f282 := f265
      refine kSTAT X276 (gEL G) (argsL := [.int i4, .int (99 : Int32)]) (rest := []) (wd G 1 rfl) (wd G 2 rfl) (wd G 3 rfl) (wd G 4 rfl) (by decide) (rm3 l G i4 h0 X276.n f282 ) all0 (fun _ _ _ _ _ q => q.1) (lenOf pd__IC_C rfl) rfl (by decide) 0 (Nat.le_of_eq rfl) (by decide) (by decide) (by decide) (by rw [hml]; rfl) at_72 (fun v283 L284 T285 h286 vm287 K288 w289 q290 C291 C292 X293 => ?_)
      obtain ⟨n294, ⟨e295, f296⟩⟩ := q290
      subst e295
      subst f296
      show Go _ _ _ _ T285 (mkF m 75 #[.val (.int i0), .val (.int i1), .val (.int i2), .val (.int i3), .val (.int i4), .val (.int i5), .val (.int (1 : Int32)), .val (.int (1 : Int32)), .val (.int c0), .val (.int c1), .unset, .unset, .unset, .unset] [.int (drV i4 (99 : Int32))])
      obtain ⟨c2, ec2, c297, c298⟩ : ∃ c, c = (drV i4 (99 : Int32)) ∧ ¬ (255 : Int32) < c ∧ ¬ c < 0 := ⟨_, rfl, own_drR _ (by decide) (by decide)⟩
      rw [← ec2]
      refine kIS X293 #[.val (.int i0), .val (.int i1), .val (.int i2), .val (.int i3), .val (.int i4), .val (.int i5), .val (.int (1 : Int32)), .val (.int (1 : Int32)), .val (.int c0), .val (.int c1), .val (.int c2), .unset, .unset, .unset] at_75 rfl ?_
      refine kIL X293 at_77 rfl ?_
      refine kSI X293 (255 : Int32) at_79 (by decide) ?_
      refine kIAND X293 (i5 &&& (255 : Int32)) at_82 rfl ?_
      refine kI2C X293 (i5 &&& (255 : Int32)) at_83 (i2c_mask _) ?_
      obtain ⟨c3, ec3, c299, c300⟩ : ∃ c, c = (i5 &&& (255 : Int32)) ∧ ¬ (255 : Int32) < c ∧ ¬ c < 0 := ⟨_, rfl, own_mask _⟩
      rw [← ec3]
      refine kIS X293 #[.val (.int i0), .val (.int i1), .val (.int i2), .val (.int i3), .val (.int i4), .val (.int i5), .val (.int (1 : Int32)), .val (.int (1 : Int32)), .val (.int c0), .val (.int c1), .val (.int c2), .val (.int c3), .unset, .unset] at_84 rfl ?_
      refine kIL X293 at_86 rfl ?_
      refine kIFt X293 106 at_88 (XT.i0_ne_t (by decide)) (by decide) ?_
      refine kIL X293 at_106 rfl ?_
      refine kIC X293 (1 : Int32) at_108 (by decide) ?_
      refine kICf X293 at_109 (XT.ii_ne_f (by decide)) ?_
      refine kNEW X293 (wd G 5 rfl) (wd G 6 rfl) (wd G 7 rfl) at_112 (by decide) (by decide) (fun T301 h302 a304 E305 q306 g307 A308 D309 s310 X303 => ?_)
      have g311 : h0.size ≤ a304 := q306 ▸ X293.g0
      have f312 : Fld Z h302 a304 "java/lang/String" "value" "[B" (.null) := D309 (Or.inr (wd G 21 rfl)) (ty := (.array (.byte))) (by decide)
      have f313 : Fld Z h302 a304 "java/lang/String" "coder" "B" (.int (0 : Int32)) := D309 (Or.inr (wd G 22 rfl)) (ty := .byte) (by decide)
      refine kDUP X303 at_115 rfl ?_
      refine kIC X303 (1 : Int32) at_116 (by decide) ?_
      refine kNEWP X303 (wd G 8 rfl) (cap := 1) at_117 (by decide) (by decide) (by decide) (by decide) (by decide) (fun T314 h315 a317 k318 E319 q320 g321 A322 s323 X316 => ?_)
      have n324 : a304 ≠ a317 := Nat.ne_of_lt (Nat.lt_of_lt_of_le (A308.lt) (Nat.le_of_eq q320.symm))
      have g325 : h0.size ≤ a317 := q320 ▸ X303.g0
      have f326 : Arv Z h315 a317 k318 .char 1 [.int (0 : Int32)] (.int (0 : Int32)) := A322.pad (pad_rep [] _ 1)
      refine kDUP X316 at_119 rfl ?_
      refine kIC X316 (0 : Int32) at_120 (by decide) ?_
      refine kIL X316 at_121 rfl ?_
      refine kCASTO X316 f326 (by decide) 0 c0 (own_nc c263 c264) (by decide) (by show 0 < 1; decide) g321 (Safe.arv X316.hZ.alike f326 (by decide)) at_123 (fun T327 h328 L330 W331 f332 X329 => ?_)
      have f333 : Arv Z h328 a317 k318 .char 1 [.int c0] (.int (0 : Int32)) := f332
      have f334 := (Exa.wr W331 (Exa.ext E319 A308))
      have f335 := (Fld.other W331 (Fld.ext E319 f313) (Or.inl n324))
      have f336 := (Fld.other W331 (Fld.ext E319 f312) (Or.inl n324))
      have f337 := (Old.wr (Old.ext (Old.ext f282 E305) E319) W331 g321)
      have f349 := (Safe.wr W331 (Safe.arv X316.hZ.alike f326 (by decide)) X316.C.1 (Safe.ext E319 X303.C.1 s310))
      refine kSPEC X329 (gEL G) (argsL := [.ref a317]) (rest := [.ref a304]) (wd G 9 rfl) (wd G 10 rfl) (wd G 7 rfl) (wd G 11 rfl) rfl (by decide) (rm15 l G c0 a304 a317 k318 h328 X329.n f337 f333 c263 f334 f335 f336 g307) (allS ⟨(f334.lt), f349⟩ all0) (fun _ _ _ _ _ q => q.1) (lenOf pd___C_V rfl) rfl (by decide) 1 (Nat.le_of_eq rfl) (by decide) (by decide) (by decide) (by rw [hml]; rfl) at_124 (fun v338 L339 T340 h341 vm342 K343 w344 q345 C346 C347 X348 => ?_)
      obtain ⟨n350, ⟨a351, k352, e353, f354, f355, f356, f357, f358, f359⟩⟩ := q345
      subst e353
      have n360 : a304 ≠ a351 := Nat.ne_of_lt (Nat.lt_of_lt_of_le (f334.lt) f355)
      have n361 : a317 ≠ a351 := Nat.ne_of_lt (Nat.lt_of_lt_of_le (f333.lt) f355)
      have g362 : n0 ≤ a351 := Nat.le_trans X329.n f355
      have g363 : h0.size ≤ a351 := Nat.le_trans X329.g0 f355
      show Go _ _ _ _ T340 (mkF m 127 #[.val (.int i0), .val (.int i1), .val (.int i2), .val (.int i3), .val (.int i4), .val (.int i5), .val (.int (1 : Int32)), .val (.int (1 : Int32)), .val (.int c0), .val (.int c1), .val (.int c2), .val (.int c3), .unset, .unset] [.ref a304])
      refine kAS X348 #[.val (.int i0), .val (.int i1), .val (.int i2), .val (.int i3), .val (.int i4), .val (.int i5), .val (.int (1 : Int32)), .val (.int (1 : Int32)), .val (.int c0), .val (.int c1), .val (.int c2), .val (.int c3), .val (.ref a304), .unset] at_127 rfl rfl ?_
      refine kGOTO X348 243 at_129 (by decide) ?_
      refine kNULL X348 at_243 ?_
      refine kAS X348 #[.val (.int i0), .val (.int i1), .val (.int i2), .val (.int i3), .val (.int i4), .val (.int i5), .val (.int (1 : Int32)), .val (.int (1 : Int32)), .val (.int c0), .val (.int c1), .val (.int c2), .val (.int c3), .val (.ref a304), .val .null] at_244 rfl rfl ?_
      refine kIL X348 at_246 rfl ?_
      refine kIC X348 (3 : Int32) at_248 (by decide) ?_
      refine kICt X348 307 at_249 (XT.ii_ne_t (by decide)) (by decide) ?_
      refine kAL X348 at_307 rfl rfl ?_
      have f364 := (Exa.keep f334 f354)
      have f365 := (Old.keep f337 f354 (allS g307 all0))
      refine kSTAT X348 (gEL G) (argsL := [.ref a304]) (rest := []) (wd G 27 rfl) (wd G 28 rfl) (wd G 29 rfl) (wd G 30 rfl) (by decide) (rm20 l G (ownB c0) a304 a351 k352 h341 X348.n f365 f364 f356 f358 f359 g307) all0 (fun _ _ _ _ _ q => q.1) (lenOf pd__Ljava_lang_String__Lcom_example_tight_calculus_tightcalculus_Model_Kind_ rfl) rfl (by decide) 0 (Nat.le_of_eq rfl) (by decide) (by decide) (by decide) (by rw [hml]; rfl) at_309 (fun v366 L367 T368 h369 vm370 K371 w372 q373 C374 C375 X376 => ?_)
      obtain ⟨n377, ⟨e378, f379⟩⟩ := q373
      subst e378
      show Go _ _ _ _ T368 (mkF m 312 #[.val (.int i0), .val (.int i1), .val (.int i2), .val (.int i3), .val (.int i4), .val (.int i5), .val (.int (1 : Int32)), .val (.int (1 : Int32)), .val (.int c0), .val (.int c1), .val (.int c2), .val (.int c3), .val (.ref a304), .val .null] [.null])
      refine kAL X376 at_312 rfl rfl ?_
      refine kACf X376 at_314 rfl rfl (XT.aa_ne_f rfl) ?_
      refine kIC X376 (1 : Int32) at_317 (by decide) ?_
      refine kGOTO X376 322 at_318 (by decide) ?_
      exact kRETZ X376 (gEL G) (t := .boolean) hret (by simp) at_322 (fun ve hve => ⟨X376.N, rfl⟩) (by decide) (by decide)
    · refine kIFt X0 19 at_12 (XT.i0_ne_t c248) (by decide) ?_
      refine kIC X0 (0 : Int32) at_19 (by decide) ?_
      refine kIS X0 #[.val (.int i0), .val (.int i1), .val (.int i2), .val (.int i3), .val (.int i4), .val (.int i5), .val (.int (1 : Int32)), .val (.int (0 : Int32)), .unset, .unset, .unset, .unset, .unset, .unset] at_20 rfl ?_
      refine kILn X0 at_22 rfl ?_
      refine kIL X0 at_23 rfl ?_
      refine kIFt X0 33 at_25 (XT.i0_eq_t (by decide)) (by decide) ?_
      refine kBI X0 (97 : Int32) at_33 (by decide) ?_
      refine kSTAT X0 (gEL G) (argsL := [.int i2, .int (97 : Int32)]) (rest := []) (wd G 1 rfl) (wd G 2 rfl) (wd G 3 rfl) (wd G 4 rfl) (by decide) (rm12 l G i2 h0 X0.n O0 ) all0 (fun _ _ _ _ _ q => q.1) (lenOf pd__IC_C rfl) rfl (by decide) 0 (Nat.le_of_eq rfl) (by decide) (by decide) (by decide) (by rw [hml]; rfl) at_35 (fun v380 L381 T382 h383 vm384 K385 w386 q387 C388 C389 X390 => ?_)
      obtain ⟨n391, ⟨e392, f393⟩⟩ := q387
      subst e392
      subst f393
      show Go _ _ _ _ T382 (mkF m 38 #[.val (.int i0), .val (.int i1), .val (.int i2), .val (.int i3), .val (.int i4), .val (.int i5), .val (.int (1 : Int32)), .val (.int (0 : Int32)), .unset, .unset, .unset, .unset, .unset, .unset] [.int (drV i2 (97 : Int32))])
      obtain ⟨c0, ec0, c394, c395⟩ : ∃ c, c = (drV i2 (97 : Int32)) ∧ ¬ (255 : Int32) < c ∧ ¬ c < 0 := ⟨_, rfl, own_drR _ (by decide) (by decide)⟩
      rw [← ec0]
      refine kIS X390 #[.val (.int i0), .val (.int i1), .val (.int i2), .val (.int i3), .val (.int i4), .val (.int i5), .val (.int (1 : Int32)), .val (.int (0 : Int32)), .val (.int c0), .unset, .unset, .unset, .unset, .unset] at_38 rfl ?_
      refine kILn X390 at_40 rfl ?_
      refine kIL X390 at_41 rfl ?_
      refine kIFt X390 51 at_43 (XT.i0_eq_t (by decide)) (by decide) ?_
      refine kBI X390 (110 : Int32) at_51 (by decide) ?_
      have f396 := O0
      refine kSTAT X390 (gEL G) (argsL := [.int i3, .int (110 : Int32)]) (rest := []) (wd G 1 rfl) (wd G 2 rfl) (wd G 3 rfl) (wd G 4 rfl) (by decide) (rm13 l G i3 h0 X390.n f396 ) all0 (fun _ _ _ _ _ q => q.1) (lenOf pd__IC_C rfl) rfl (by decide) 0 (Nat.le_of_eq rfl) (by decide) (by decide) (by decide) (by rw [hml]; rfl) at_53 (fun v397 L398 T399 h400 vm401 K402 w403 q404 C405 C406 X407 => ?_)
      obtain ⟨n408, ⟨e409, f410⟩⟩ := q404
      subst e409
      subst f410
      show Go _ _ _ _ T399 (mkF m 56 #[.val (.int i0), .val (.int i1), .val (.int i2), .val (.int i3), .val (.int i4), .val (.int i5), .val (.int (1 : Int32)), .val (.int (0 : Int32)), .val (.int c0), .unset, .unset, .unset, .unset, .unset] [.int (drV i3 (110 : Int32))])
      obtain ⟨c1, ec1, c411, c412⟩ : ∃ c, c = (drV i3 (110 : Int32)) ∧ ¬ (255 : Int32) < c ∧ ¬ c < 0 := ⟨_, rfl, own_drR _ (by decide) (by decide)⟩
      rw [← ec1]
      refine kIS X407 #[.val (.int i0), .val (.int i1), .val (.int i2), .val (.int i3), .val (.int i4), .val (.int i5), .val (.int (1 : Int32)), .val (.int (0 : Int32)), .val (.int c0), .val (.int c1), .unset, .unset, .unset, .unset] at_56 rfl ?_
      refine kIL X407 at_58 rfl ?_
      refine kIL X407 at_60 rfl ?_
      refine kIFt X407 70 at_62 (XT.i0_eq_t (by decide)) (by decide) ?_
      refine kBI X407 (100 : Int32) at_70 (by decide) ?_
      have f413 := f396
      refine kSTAT X407 (gEL G) (argsL := [.int i4, .int (100 : Int32)]) (rest := []) (wd G 1 rfl) (wd G 2 rfl) (wd G 3 rfl) (wd G 4 rfl) (by decide) (rm14 l G i4 h0 X407.n f413 ) all0 (fun _ _ _ _ _ q => q.1) (lenOf pd__IC_C rfl) rfl (by decide) 0 (Nat.le_of_eq rfl) (by decide) (by decide) (by decide) (by rw [hml]; rfl) at_72 (fun v414 L415 T416 h417 vm418 K419 w420 q421 C422 C423 X424 => ?_)
      obtain ⟨n425, ⟨e426, f427⟩⟩ := q421
      subst e426
      subst f427
      show Go _ _ _ _ T416 (mkF m 75 #[.val (.int i0), .val (.int i1), .val (.int i2), .val (.int i3), .val (.int i4), .val (.int i5), .val (.int (1 : Int32)), .val (.int (0 : Int32)), .val (.int c0), .val (.int c1), .unset, .unset, .unset, .unset] [.int (drV i4 (100 : Int32))])
      obtain ⟨c2, ec2, c428, c429⟩ : ∃ c, c = (drV i4 (100 : Int32)) ∧ ¬ (255 : Int32) < c ∧ ¬ c < 0 := ⟨_, rfl, own_drR _ (by decide) (by decide)⟩
      rw [← ec2]
      refine kIS X424 #[.val (.int i0), .val (.int i1), .val (.int i2), .val (.int i3), .val (.int i4), .val (.int i5), .val (.int (1 : Int32)), .val (.int (0 : Int32)), .val (.int c0), .val (.int c1), .val (.int c2), .unset, .unset, .unset] at_75 rfl ?_
      refine kIL X424 at_77 rfl ?_
      refine kSI X424 (255 : Int32) at_79 (by decide) ?_
      refine kIAND X424 (i5 &&& (255 : Int32)) at_82 rfl ?_
      refine kI2C X424 (i5 &&& (255 : Int32)) at_83 (i2c_mask _) ?_
      obtain ⟨c3, ec3, c430, c431⟩ : ∃ c, c = (i5 &&& (255 : Int32)) ∧ ¬ (255 : Int32) < c ∧ ¬ c < 0 := ⟨_, rfl, own_mask _⟩
      rw [← ec3]
      refine kIS X424 #[.val (.int i0), .val (.int i1), .val (.int i2), .val (.int i3), .val (.int i4), .val (.int i5), .val (.int (1 : Int32)), .val (.int (0 : Int32)), .val (.int c0), .val (.int c1), .val (.int c2), .val (.int c3), .unset, .unset] at_84 rfl ?_
      refine kIL X424 at_86 rfl ?_
      refine kIFt X424 106 at_88 (XT.i0_ne_t (by decide)) (by decide) ?_
      refine kIL X424 at_106 rfl ?_
      refine kIC X424 (1 : Int32) at_108 (by decide) ?_
      refine kICf X424 at_109 (XT.ii_ne_f (by decide)) ?_
      refine kNEW X424 (wd G 5 rfl) (wd G 6 rfl) (wd G 7 rfl) at_112 (by decide) (by decide) (fun T432 h433 a435 E436 q437 g438 A439 D440 s441 X434 => ?_)
      have g442 : h0.size ≤ a435 := q437 ▸ X424.g0
      have f443 : Fld Z h433 a435 "java/lang/String" "value" "[B" (.null) := D440 (Or.inr (wd G 21 rfl)) (ty := (.array (.byte))) (by decide)
      have f444 : Fld Z h433 a435 "java/lang/String" "coder" "B" (.int (0 : Int32)) := D440 (Or.inr (wd G 22 rfl)) (ty := .byte) (by decide)
      refine kDUP X434 at_115 rfl ?_
      refine kIC X434 (1 : Int32) at_116 (by decide) ?_
      refine kNEWP X434 (wd G 8 rfl) (cap := 1) at_117 (by decide) (by decide) (by decide) (by decide) (by decide) (fun T445 h446 a448 k449 E450 q451 g452 A453 s454 X447 => ?_)
      have n455 : a435 ≠ a448 := Nat.ne_of_lt (Nat.lt_of_lt_of_le (A439.lt) (Nat.le_of_eq q451.symm))
      have g456 : h0.size ≤ a448 := q451 ▸ X434.g0
      have f457 : Arv Z h446 a448 k449 .char 1 [.int (0 : Int32)] (.int (0 : Int32)) := A453.pad (pad_rep [] _ 1)
      refine kDUP X447 at_119 rfl ?_
      refine kIC X447 (0 : Int32) at_120 (by decide) ?_
      refine kIL X447 at_121 rfl ?_
      refine kCASTO X447 f457 (by decide) 0 c0 (own_nc c394 c395) (by decide) (by show 0 < 1; decide) g452 (Safe.arv X447.hZ.alike f457 (by decide)) at_123 (fun T458 h459 L461 W462 f463 X460 => ?_)
      have f464 : Arv Z h459 a448 k449 .char 1 [.int c0] (.int (0 : Int32)) := f463
      have f465 := (Exa.wr W462 (Exa.ext E450 A439))
      have f466 := (Fld.other W462 (Fld.ext E450 f444) (Or.inl n455))
      have f467 := (Fld.other W462 (Fld.ext E450 f443) (Or.inl n455))
      have f468 := (Old.wr (Old.ext (Old.ext f413 E436) E450) W462 g452)
      have f480 := (Safe.wr W462 (Safe.arv X447.hZ.alike f457 (by decide)) X447.C.1 (Safe.ext E450 X434.C.1 s441))
      refine kSPEC X460 (gEL G) (argsL := [.ref a448]) (rest := [.ref a435]) (wd G 9 rfl) (wd G 10 rfl) (wd G 7 rfl) (wd G 11 rfl) rfl (by decide) (rm15 l G c0 a435 a448 k449 h459 X460.n f468 f464 c394 f465 f466 f467 g438) (allS ⟨(f465.lt), f480⟩ all0) (fun _ _ _ _ _ q => q.1) (lenOf pd___C_V rfl) rfl (by decide) 1 (Nat.le_of_eq rfl) (by decide) (by decide) (by decide) (by rw [hml]; rfl) at_124 (fun v469 L470 T471 h472 vm473 K474 w475 q476 C477 C478 X479 => ?_)
      obtain ⟨n481, ⟨a482, k483, e484, f485, f486, f487, f488, f489, f490⟩⟩ := q476
      subst e484
      have n491 : a435 ≠ a482 := Nat.ne_of_lt (Nat.lt_of_lt_of_le (f465.lt) f486)
      have n492 : a448 ≠ a482 := Nat.ne_of_lt (Nat.lt_of_lt_of_le (f464.lt) f486)
      have g493 : n0 ≤ a482 := Nat.le_trans X460.n f486
      have g494 : h0.size ≤ a482 := Nat.le_trans X460.g0 f486
      show Go _ _ _ _ T471 (mkF m 127 #[.val (.int i0), .val (.int i1), .val (.int i2), .val (.int i3), .val (.int i4), .val (.int i5), .val (.int (1 : Int32)), .val (.int (0 : Int32)), .val (.int c0), .val (.int c1), .val (.int c2), .val (.int c3), .unset, .unset] [.ref a435])
      refine kAS X479 #[.val (.int i0), .val (.int i1), .val (.int i2), .val (.int i3), .val (.int i4), .val (.int i5), .val (.int (1 : Int32)), .val (.int (0 : Int32)), .val (.int c0), .val (.int c1), .val (.int c2), .val (.int c3), .val (.ref a435), .unset] at_127 rfl rfl ?_
      refine kGOTO X479 243 at_129 (by decide) ?_
      refine kNULL X479 at_243 ?_
      refine kAS X479 #[.val (.int i0), .val (.int i1), .val (.int i2), .val (.int i3), .val (.int i4), .val (.int i5), .val (.int (1 : Int32)), .val (.int (0 : Int32)), .val (.int c0), .val (.int c1), .val (.int c2), .val (.int c3), .val (.ref a435), .val .null] at_244 rfl rfl ?_
      refine kIL X479 at_246 rfl ?_
      refine kIC X479 (3 : Int32) at_248 (by decide) ?_
      refine kICt X479 307 at_249 (XT.ii_ne_t (by decide)) (by decide) ?_
      refine kAL X479 at_307 rfl rfl ?_
      have f495 := (Exa.keep f465 f485)
      have f496 := (Old.keep f468 f485 (allS g438 all0))
      refine kSTAT X479 (gEL G) (argsL := [.ref a435]) (rest := []) (wd G 27 rfl) (wd G 28 rfl) (wd G 29 rfl) (wd G 30 rfl) (by decide) (rm20 l G (ownB c0) a435 a482 k483 h472 X479.n f496 f495 f487 f489 f490 g438) all0 (fun _ _ _ _ _ q => q.1) (lenOf pd__Ljava_lang_String__Lcom_example_tight_calculus_tightcalculus_Model_Kind_ rfl) rfl (by decide) 0 (Nat.le_of_eq rfl) (by decide) (by decide) (by decide) (by rw [hml]; rfl) at_309 (fun v497 L498 T499 h500 vm501 K502 w503 q504 C505 C506 X507 => ?_)
      obtain ⟨n508, ⟨e509, f510⟩⟩ := q504
      subst e509
      show Go _ _ _ _ T499 (mkF m 312 #[.val (.int i0), .val (.int i1), .val (.int i2), .val (.int i3), .val (.int i4), .val (.int i5), .val (.int (1 : Int32)), .val (.int (0 : Int32)), .val (.int c0), .val (.int c1), .val (.int c2), .val (.int c3), .val (.ref a435), .val .null] [.null])
      refine kAL X507 at_312 rfl rfl ?_
      refine kACf X507 at_314 rfl rfl (XT.aa_ne_f rfl) ?_
      refine kIC X507 (1 : Int32) at_317 (by decide) ?_
      refine kGOTO X507 322 at_318 (by decide) ?_
      exact kRETZ X507 (gEL G) (t := .boolean) hret (by simp) at_322 (fun ve hve => ⟨X507.N, rfl⟩) (by decide) (by decide)
  | ⟨2, _⟩ =>
    refine kILn X0 at_9 rfl ?_
    refine kIC X0 (1 : Int32) at_10 (by decide) ?_
    refine kIAND X0 (i1 &&& (1 : Int32)) at_11 rfl ?_
    by_cases c511 : (i1 &&& (1 : Int32)) = 0
    · refine kIFf X0 at_12 (XT.i0_ne_f c511) ?_
      refine kIC X0 (1 : Int32) at_15 (by decide) ?_
      refine kGOTO X0 20 at_16 (by decide) ?_
      refine kIS X0 #[.val (.int i0), .val (.int i1), .val (.int i2), .val (.int i3), .val (.int i4), .val (.int i5), .val (.int (2 : Int32)), .val (.int (1 : Int32)), .unset, .unset, .unset, .unset, .unset, .unset] at_20 rfl ?_
      refine kILn X0 at_22 rfl ?_
      refine kIL X0 at_23 rfl ?_
      refine kIFf X0 at_25 (XT.i0_eq_f (by decide)) ?_
      refine kBI X0 (103 : Int32) at_28 (by decide) ?_
      refine kGOTO X0 35 at_30 (by decide) ?_
      refine kSTAT X0 (gEL G) (argsL := [.int i2, .int (103 : Int32)]) (rest := []) (wd G 1 rfl) (wd G 2 rfl) (wd G 3 rfl) (wd G 4 rfl) (by decide) (rm1 l G i2 h0 X0.n O0 ) all0 (fun _ _ _ _ _ q => q.1) (lenOf pd__IC_C rfl) rfl (by decide) 0 (Nat.le_of_eq rfl) (by decide) (by decide) (by decide) (by rw [hml]; rfl) at_35 (fun v512 L513 T514 h515 vm516 K517 w518 q519 C520 C521 X522 => ?_)
      obtain ⟨n523, ⟨e524, f525⟩⟩ := q519
      subst e524
      subst f525
      show Go _ _ _ _ T514 (mkF m 38 #[.val (.int i0), .val (.int i1), .val (.int i2), .val (.int i3), .val (.int i4), .val (.int i5), .val (.int (2 : Int32)), .val (.int (1 : Int32)), .unset, .unset, .unset, .unset, .unset, .unset] [.int (drV i2 (103 : Int32))])
      obtain ⟨c0, ec0, c526, c527⟩ : ∃ c, c = (drV i2 (103 : Int32)) ∧ ¬ (255 : Int32) < c ∧ ¬ c < 0 := ⟨_, rfl, own_drR _ (by decide) (by decide)⟩
      rw [← ec0]
      refine kIS X522 #[.val (.int i0), .val (.int i1), .val (.int i2), .val (.int i3), .val (.int i4), .val (.int i5), .val (.int (2 : Int32)), .val (.int (1 : Int32)), .val (.int c0), .unset, .unset, .unset, .unset, .unset] at_38 rfl ?_
      refine kILn X522 at_40 rfl ?_
      refine kIL X522 at_41 rfl ?_
      refine kIFf X522 at_43 (XT.i0_eq_f (by decide)) ?_
      refine kBI X522 (112 : Int32) at_46 (by decide) ?_
      refine kGOTO X522 53 at_48 (by decide) ?_
      have f528 := O0
      refine kSTAT X522 (gEL G) (argsL := [.int i3, .int (112 : Int32)]) (rest := []) (wd G 1 rfl) (wd G 2 rfl) (wd G 3 rfl) (wd G 4 rfl) (by decide) (rm2 l G i3 h0 X522.n f528 ) all0 (fun _ _ _ _ _ q => q.1) (lenOf pd__IC_C rfl) rfl (by decide) 0 (Nat.le_of_eq rfl) (by decide) (by decide) (by decide) (by rw [hml]; rfl) at_53 (fun v529 L530 T531 h532 vm533 K534 w535 q536 C537 C538 X539 => ?_)
      obtain ⟨n540, ⟨e541, f542⟩⟩ := q536
      subst e541
      subst f542
      show Go _ _ _ _ T531 (mkF m 56 #[.val (.int i0), .val (.int i1), .val (.int i2), .val (.int i3), .val (.int i4), .val (.int i5), .val (.int (2 : Int32)), .val (.int (1 : Int32)), .val (.int c0), .unset, .unset, .unset, .unset, .unset] [.int (drV i3 (112 : Int32))])
      obtain ⟨c1, ec1, c543, c544⟩ : ∃ c, c = (drV i3 (112 : Int32)) ∧ ¬ (255 : Int32) < c ∧ ¬ c < 0 := ⟨_, rfl, own_drR _ (by decide) (by decide)⟩
      rw [← ec1]
      refine kIS X539 #[.val (.int i0), .val (.int i1), .val (.int i2), .val (.int i3), .val (.int i4), .val (.int i5), .val (.int (2 : Int32)), .val (.int (1 : Int32)), .val (.int c0), .val (.int c1), .unset, .unset, .unset, .unset] at_56 rfl ?_
      refine kIL X539 at_58 rfl ?_
      refine kIL X539 at_60 rfl ?_
      refine kIFf X539 at_62 (XT.i0_eq_f (by decide)) ?_
      refine kBI X539 (99 : Int32) at_65 (by decide) ?_
      refine kGOTO X539 72 at_67 (by decide) ?_
      have f545 := f528
      refine kSTAT X539 (gEL G) (argsL := [.int i4, .int (99 : Int32)]) (rest := []) (wd G 1 rfl) (wd G 2 rfl) (wd G 3 rfl) (wd G 4 rfl) (by decide) (rm3 l G i4 h0 X539.n f545 ) all0 (fun _ _ _ _ _ q => q.1) (lenOf pd__IC_C rfl) rfl (by decide) 0 (Nat.le_of_eq rfl) (by decide) (by decide) (by decide) (by rw [hml]; rfl) at_72 (fun v546 L547 T548 h549 vm550 K551 w552 q553 C554 C555 X556 => ?_)
      obtain ⟨n557, ⟨e558, f559⟩⟩ := q553
      subst e558
      subst f559
      show Go _ _ _ _ T548 (mkF m 75 #[.val (.int i0), .val (.int i1), .val (.int i2), .val (.int i3), .val (.int i4), .val (.int i5), .val (.int (2 : Int32)), .val (.int (1 : Int32)), .val (.int c0), .val (.int c1), .unset, .unset, .unset, .unset] [.int (drV i4 (99 : Int32))])
      obtain ⟨c2, ec2, c560, c561⟩ : ∃ c, c = (drV i4 (99 : Int32)) ∧ ¬ (255 : Int32) < c ∧ ¬ c < 0 := ⟨_, rfl, own_drR _ (by decide) (by decide)⟩
      rw [← ec2]
      refine kIS X556 #[.val (.int i0), .val (.int i1), .val (.int i2), .val (.int i3), .val (.int i4), .val (.int i5), .val (.int (2 : Int32)), .val (.int (1 : Int32)), .val (.int c0), .val (.int c1), .val (.int c2), .unset, .unset, .unset] at_75 rfl ?_
      refine kIL X556 at_77 rfl ?_
      refine kSI X556 (255 : Int32) at_79 (by decide) ?_
      refine kIAND X556 (i5 &&& (255 : Int32)) at_82 rfl ?_
      refine kI2C X556 (i5 &&& (255 : Int32)) at_83 (i2c_mask _) ?_
      obtain ⟨c3, ec3, c562, c563⟩ : ∃ c, c = (i5 &&& (255 : Int32)) ∧ ¬ (255 : Int32) < c ∧ ¬ c < 0 := ⟨_, rfl, own_mask _⟩
      rw [← ec3]
      refine kIS X556 #[.val (.int i0), .val (.int i1), .val (.int i2), .val (.int i3), .val (.int i4), .val (.int i5), .val (.int (2 : Int32)), .val (.int (1 : Int32)), .val (.int c0), .val (.int c1), .val (.int c2), .val (.int c3), .unset, .unset] at_84 rfl ?_
      refine kIL X556 at_86 rfl ?_
      refine kIFt X556 106 at_88 (XT.i0_ne_t (by decide)) (by decide) ?_
      refine kIL X556 at_106 rfl ?_
      refine kIC X556 (1 : Int32) at_108 (by decide) ?_
      refine kICt X556 132 at_109 (XT.ii_ne_t (by decide)) (by decide) ?_
      refine kIL X556 at_132 rfl ?_
      refine kIC X556 (2 : Int32) at_134 (by decide) ?_
      refine kICf X556 at_135 (XT.ii_ne_f (by decide)) ?_
      refine kNEW X556 (wd G 5 rfl) (wd G 6 rfl) (wd G 7 rfl) at_138 (by decide) (by decide) (fun T564 h565 a567 E568 q569 g570 A571 D572 s573 X566 => ?_)
      have g574 : h0.size ≤ a567 := q569 ▸ X556.g0
      have f575 : Fld Z h565 a567 "java/lang/String" "value" "[B" (.null) := D572 (Or.inr (wd G 21 rfl)) (ty := (.array (.byte))) (by decide)
      have f576 : Fld Z h565 a567 "java/lang/String" "coder" "B" (.int (0 : Int32)) := D572 (Or.inr (wd G 22 rfl)) (ty := .byte) (by decide)
      refine kDUP X566 at_141 rfl ?_
      refine kIC X566 (2 : Int32) at_142 (by decide) ?_
      refine kNEWP X566 (wd G 8 rfl) (cap := 2) at_143 (by decide) (by decide) (by decide) (by decide) (by decide) (fun T577 h578 a580 k581 E582 q583 g584 A585 s586 X579 => ?_)
      have n587 : a567 ≠ a580 := Nat.ne_of_lt (Nat.lt_of_lt_of_le (A571.lt) (Nat.le_of_eq q583.symm))
      have g588 : h0.size ≤ a580 := q583 ▸ X566.g0
      have f589 : Arv Z h578 a580 k581 .char 2 [.int (0 : Int32), .int (0 : Int32)] (.int (0 : Int32)) := A585.pad (pad_rep [] _ 2)
      refine kDUP X579 at_145 rfl ?_
      refine kIC X579 (0 : Int32) at_146 (by decide) ?_
      refine kIL X579 at_147 rfl ?_
      refine kCASTO X579 f589 (by decide) 0 c0 (own_nc c526 c527) (by decide) (by show 0 < 2; decide) g584 (Safe.arv X579.hZ.alike f589 (by decide)) at_149 (fun T590 h591 L593 W594 f595 X592 => ?_)
      have f596 : Arv Z h591 a580 k581 .char 2 [.int c0, .int (0 : Int32)] (.int (0 : Int32)) := f595
      refine kDUP X592 at_150 rfl ?_
      refine kIC X592 (1 : Int32) at_151 (by decide) ?_
      refine kIL X592 at_152 rfl ?_
      refine kCASTO X592 f596 (by decide) 1 c1 (own_nc c543 c544) (by decide) (by show 1 < 2; decide) g584 (Safe.arv X592.hZ.alike f596 (by decide)) at_154 (fun T597 h598 L600 W601 f602 X599 => ?_)
      have f603 : Arv Z h598 a580 k581 .char 2 [.int c0, .int c1] (.int (0 : Int32)) := f602
      have f604 := (Exa.wr W601 (Exa.wr W594 (Exa.ext E582 A571)))
      have f605 := (Fld.other W601 (Fld.other W594 (Fld.ext E582 f576) (Or.inl n587)) (Or.inl n587))
      have f606 := (Fld.other W601 (Fld.other W594 (Fld.ext E582 f575) (Or.inl n587)) (Or.inl n587))
      have f607 := (Old.wr (Old.wr (Old.ext (Old.ext f545 E568) E582) W594 g584) W601 g584)
      have f619 := (Safe.wr W601 (Safe.arv X592.hZ.alike f596 (by decide)) X592.C.1 (Safe.wr W594 (Safe.arv X579.hZ.alike f589 (by decide)) X579.C.1 (Safe.ext E582 X566.C.1 s573)))
      refine kSPEC X599 (gEL G) (argsL := [.ref a580]) (rest := [.ref a567]) (wd G 9 rfl) (wd G 10 rfl) (wd G 7 rfl) (wd G 11 rfl) rfl (by decide) (rm25 l G c0 c1 a567 a580 k581 h598 X599.n f607 f603 c526 c543 f604 f605 f606 g570) (allS ⟨(f604.lt), f619⟩ all0) (fun _ _ _ _ _ q => q.1) (lenOf pd___C_V rfl) rfl (by decide) 1 (Nat.le_of_eq rfl) (by decide) (by decide) (by decide) (by rw [hml]; rfl) at_155 (fun v608 L609 T610 h611 vm612 K613 w614 q615 C616 C617 X618 => ?_)
      obtain ⟨n620, ⟨a621, k622, e623, f624, f625, f626, f627, f628, f629⟩⟩ := q615
      subst e623
      have n630 : a567 ≠ a621 := Nat.ne_of_lt (Nat.lt_of_lt_of_le (f604.lt) f625)
      have n631 : a580 ≠ a621 := Nat.ne_of_lt (Nat.lt_of_lt_of_le (f603.lt) f625)
      have g632 : n0 ≤ a621 := Nat.le_trans X599.n f625
      have g633 : h0.size ≤ a621 := Nat.le_trans X599.g0 f625
      show Go _ _ _ _ T610 (mkF m 158 #[.val (.int i0), .val (.int i1), .val (.int i2), .val (.int i3), .val (.int i4), .val (.int i5), .val (.int (2 : Int32)), .val (.int (1 : Int32)), .val (.int c0), .val (.int c1), .val (.int c2), .val (.int c3), .unset, .unset] [.ref a567])
      refine kAS X618 #[.val (.int i0), .val (.int i1), .val (.int i2), .val (.int i3), .val (.int i4), .val (.int i5), .val (.int (2 : Int32)), .val (.int (1 : Int32)), .val (.int c0), .val (.int c1), .val (.int c2), .val (.int c3), .val (.ref a567), .unset] at_158 rfl rfl ?_
      refine kGOTO X618 243 at_160 (by decide) ?_
      refine kNULL X618 at_243 ?_
      refine kAS X618 #[.val (.int i0), .val (.int i1), .val (.int i2), .val (.int i3), .val (.int i4), .val (.int i5), .val (.int (2 : Int32)), .val (.int (1 : Int32)), .val (.int c0), .val (.int c1), .val (.int c2), .val (.int c3), .val (.ref a567), .val .null] at_244 rfl rfl ?_
      refine kIL X618 at_246 rfl ?_
      refine kIC X618 (3 : Int32) at_248 (by decide) ?_
      refine kICt X618 307 at_249 (XT.ii_ne_t (by decide)) (by decide) ?_
      refine kAL X618 at_307 rfl rfl ?_
      have f634 := (Exa.keep f604 f624)
      have f635 := (Old.keep f607 f624 (allS g570 all0))
      refine kSTAT X618 (gEL G) (argsL := [.ref a567]) (rest := []) (wd G 27 rfl) (wd G 28 rfl) (wd G 29 rfl) (wd G 30 rfl) (by decide) (rm30 l G (ownB c0) (ownB c1) a567 a621 k622 h611 X618.n f635 f634 f626 f628 f629 g570) all0 (fun _ _ _ _ _ q => q.1) (lenOf pd__Ljava_lang_String__Lcom_example_tight_calculus_tightcalculus_Model_Kind_ rfl) rfl (by decide) 0 (Nat.le_of_eq rfl) (by decide) (by decide) (by decide) (by rw [hml]; rfl) at_309 (fun v636 L637 T638 h639 vm640 K641 w642 q643 C644 C645 X646 => ?_)
      obtain ⟨n647, ⟨e648, f649⟩⟩ := q643
      subst e648
      show Go _ _ _ _ T638 (mkF m 312 #[.val (.int i0), .val (.int i1), .val (.int i2), .val (.int i3), .val (.int i4), .val (.int i5), .val (.int (2 : Int32)), .val (.int (1 : Int32)), .val (.int c0), .val (.int c1), .val (.int c2), .val (.int c3), .val (.ref a567), .val .null] [.null])
      refine kAL X646 at_312 rfl rfl ?_
      refine kACf X646 at_314 rfl rfl (XT.aa_ne_f rfl) ?_
      refine kIC X646 (1 : Int32) at_317 (by decide) ?_
      refine kGOTO X646 322 at_318 (by decide) ?_
      exact kRETZ X646 (gEL G) (t := .boolean) hret (by simp) at_322 (fun ve hve => ⟨X646.N, rfl⟩) (by decide) (by decide)
    · refine kIFt X0 19 at_12 (XT.i0_ne_t c511) (by decide) ?_
      refine kIC X0 (0 : Int32) at_19 (by decide) ?_
      refine kIS X0 #[.val (.int i0), .val (.int i1), .val (.int i2), .val (.int i3), .val (.int i4), .val (.int i5), .val (.int (2 : Int32)), .val (.int (0 : Int32)), .unset, .unset, .unset, .unset, .unset, .unset] at_20 rfl ?_
      refine kILn X0 at_22 rfl ?_
      refine kIL X0 at_23 rfl ?_
      refine kIFt X0 33 at_25 (XT.i0_eq_t (by decide)) (by decide) ?_
      refine kBI X0 (97 : Int32) at_33 (by decide) ?_
      refine kSTAT X0 (gEL G) (argsL := [.int i2, .int (97 : Int32)]) (rest := []) (wd G 1 rfl) (wd G 2 rfl) (wd G 3 rfl) (wd G 4 rfl) (by decide) (rm12 l G i2 h0 X0.n O0 ) all0 (fun _ _ _ _ _ q => q.1) (lenOf pd__IC_C rfl) rfl (by decide) 0 (Nat.le_of_eq rfl) (by decide) (by decide) (by decide) (by rw [hml]; rfl) at_35 (fun v650 L651 T652 h653 vm654 K655 w656 q657 C658 C659 X660 => ?_)
      obtain ⟨n661, ⟨e662, f663⟩⟩ := q657
      subst e662
      subst f663
      show Go _ _ _ _ T652 (mkF m 38 #[.val (.int i0), .val (.int i1), .val (.int i2), .val (.int i3), .val (.int i4), .val (.int i5), .val (.int (2 : Int32)), .val (.int (0 : Int32)), .unset, .unset, .unset, .unset, .unset, .unset] [.int (drV i2 (97 : Int32))])
      obtain ⟨c0, ec0, c664, c665⟩ : ∃ c, c = (drV i2 (97 : Int32)) ∧ ¬ (255 : Int32) < c ∧ ¬ c < 0 := ⟨_, rfl, own_drR _ (by decide) (by decide)⟩
      rw [← ec0]
      refine kIS X660 #[.val (.int i0), .val (.int i1), .val (.int i2), .val (.int i3), .val (.int i4), .val (.int i5), .val (.int (2 : Int32)), .val (.int (0 : Int32)), .val (.int c0), .unset, .unset, .unset, .unset, .unset] at_38 rfl ?_
      refine kILn X660 at_40 rfl ?_
      refine kIL X660 at_41 rfl ?_
      refine kIFt X660 51 at_43 (XT.i0_eq_t (by decide)) (by decide) ?_
      refine kBI X660 (110 : Int32) at_51 (by decide) ?_
      have f666 := O0
      refine kSTAT X660 (gEL G) (argsL := [.int i3, .int (110 : Int32)]) (rest := []) (wd G 1 rfl) (wd G 2 rfl) (wd G 3 rfl) (wd G 4 rfl) (by decide) (rm13 l G i3 h0 X660.n f666 ) all0 (fun _ _ _ _ _ q => q.1) (lenOf pd__IC_C rfl) rfl (by decide) 0 (Nat.le_of_eq rfl) (by decide) (by decide) (by decide) (by rw [hml]; rfl) at_53 (fun v667 L668 T669 h670 vm671 K672 w673 q674 C675 C676 X677 => ?_)
      obtain ⟨n678, ⟨e679, f680⟩⟩ := q674
      subst e679
      subst f680
      show Go _ _ _ _ T669 (mkF m 56 #[.val (.int i0), .val (.int i1), .val (.int i2), .val (.int i3), .val (.int i4), .val (.int i5), .val (.int (2 : Int32)), .val (.int (0 : Int32)), .val (.int c0), .unset, .unset, .unset, .unset, .unset] [.int (drV i3 (110 : Int32))])
      obtain ⟨c1, ec1, c681, c682⟩ : ∃ c, c = (drV i3 (110 : Int32)) ∧ ¬ (255 : Int32) < c ∧ ¬ c < 0 := ⟨_, rfl, own_drR _ (by decide) (by decide)⟩
      rw [← ec1]
      refine kIS X677 #[.val (.int i0), .val (.int i1), .val (.int i2), .val (.int i3), .val (.int i4), .val (.int i5), .val (.int (2 : Int32)), .val (.int (0 : Int32)), .val (.int c0), .val (.int c1), .unset, .unset, .unset, .unset] at_56 rfl ?_
      refine kIL X677 at_58 rfl ?_
      refine kIL X677 at_60 rfl ?_
      refine kIFt X677 70 at_62 (XT.i0_eq_t (by decide)) (by decide) ?_
      refine kBI X677 (100 : Int32) at_70 (by decide) ?_
      have f683 := f666
      refine kSTAT X677 (gEL G) (argsL := [.int i4, .int (100 : Int32)]) (rest := []) (wd G 1 rfl) (wd G 2 rfl) (wd G 3 rfl) (wd G 4 rfl) (by decide) (rm14 l G i4 h0 X677.n f683 ) all0 (fun _ _ _ _ _ q => q.1) (lenOf pd__IC_C rfl) rfl (by decide) 0 (Nat.le_of_eq rfl) (by decide) (by decide) (by decide) (by rw [hml]; rfl) at_72 (fun v684 L685 T686 h687 vm688 K689 w690 q691 C692 C693 X694 => ?_)
      obtain ⟨n695, ⟨e696, f697⟩⟩ := q691
      subst e696
      subst f697
      show Go _ _ _ _ T686 (mkF m 75 #[.val (.int i0), .val (.int i1), .val (.int i2), .val (.int i3), .val (.int i4), .val (.int i5), .val (.int (2 : Int32)), .val (.int (0 : Int32)), .val (.int c0), .val (.int c1), .unset, .unset, .unset, .unset] [.int (drV i4 (100 : Int32))])
      obtain ⟨c2, ec2, c698, c699⟩ : ∃ c, c = (drV i4 (100 : Int32)) ∧ ¬ (255 : Int32) < c ∧ ¬ c < 0 := ⟨_, rfl, own_drR _ (by decide) (by decide)⟩
      rw [← ec2]
      refine kIS X694 #[.val (.int i0), .val (.int i1), .val (.int i2), .val (.int i3), .val (.int i4), .val (.int i5), .val (.int (2 : Int32)), .val (.int (0 : Int32)), .val (.int c0), .val (.int c1), .val (.int c2), .unset, .unset, .unset] at_75 rfl ?_
      refine kIL X694 at_77 rfl ?_
      refine kSI X694 (255 : Int32) at_79 (by decide) ?_
      refine kIAND X694 (i5 &&& (255 : Int32)) at_82 rfl ?_
      refine kI2C X694 (i5 &&& (255 : Int32)) at_83 (i2c_mask _) ?_
      obtain ⟨c3, ec3, c700, c701⟩ : ∃ c, c = (i5 &&& (255 : Int32)) ∧ ¬ (255 : Int32) < c ∧ ¬ c < 0 := ⟨_, rfl, own_mask _⟩
      rw [← ec3]
      refine kIS X694 #[.val (.int i0), .val (.int i1), .val (.int i2), .val (.int i3), .val (.int i4), .val (.int i5), .val (.int (2 : Int32)), .val (.int (0 : Int32)), .val (.int c0), .val (.int c1), .val (.int c2), .val (.int c3), .unset, .unset] at_84 rfl ?_
      refine kIL X694 at_86 rfl ?_
      refine kIFt X694 106 at_88 (XT.i0_ne_t (by decide)) (by decide) ?_
      refine kIL X694 at_106 rfl ?_
      refine kIC X694 (1 : Int32) at_108 (by decide) ?_
      refine kICt X694 132 at_109 (XT.ii_ne_t (by decide)) (by decide) ?_
      refine kIL X694 at_132 rfl ?_
      refine kIC X694 (2 : Int32) at_134 (by decide) ?_
      refine kICf X694 at_135 (XT.ii_ne_f (by decide)) ?_
      refine kNEW X694 (wd G 5 rfl) (wd G 6 rfl) (wd G 7 rfl) at_138 (by decide) (by decide) (fun T702 h703 a705 E706 q707 g708 A709 D710 s711 X704 => ?_)
      have g712 : h0.size ≤ a705 := q707 ▸ X694.g0
      have f713 : Fld Z h703 a705 "java/lang/String" "value" "[B" (.null) := D710 (Or.inr (wd G 21 rfl)) (ty := (.array (.byte))) (by decide)
      have f714 : Fld Z h703 a705 "java/lang/String" "coder" "B" (.int (0 : Int32)) := D710 (Or.inr (wd G 22 rfl)) (ty := .byte) (by decide)
      refine kDUP X704 at_141 rfl ?_
      refine kIC X704 (2 : Int32) at_142 (by decide) ?_
      refine kNEWP X704 (wd G 8 rfl) (cap := 2) at_143 (by decide) (by decide) (by decide) (by decide) (by decide) (fun T715 h716 a718 k719 E720 q721 g722 A723 s724 X717 => ?_)
      have n725 : a705 ≠ a718 := Nat.ne_of_lt (Nat.lt_of_lt_of_le (A709.lt) (Nat.le_of_eq q721.symm))
      have g726 : h0.size ≤ a718 := q721 ▸ X704.g0
      have f727 : Arv Z h716 a718 k719 .char 2 [.int (0 : Int32), .int (0 : Int32)] (.int (0 : Int32)) := A723.pad (pad_rep [] _ 2)
      refine kDUP X717 at_145 rfl ?_
      refine kIC X717 (0 : Int32) at_146 (by decide) ?_
      refine kIL X717 at_147 rfl ?_
      refine kCASTO X717 f727 (by decide) 0 c0 (own_nc c664 c665) (by decide) (by show 0 < 2; decide) g722 (Safe.arv X717.hZ.alike f727 (by decide)) at_149 (fun T728 h729 L731 W732 f733 X730 => ?_)
      have f734 : Arv Z h729 a718 k719 .char 2 [.int c0, .int (0 : Int32)] (.int (0 : Int32)) := f733
      refine kDUP X730 at_150 rfl ?_
      refine kIC X730 (1 : Int32) at_151 (by decide) ?_
      refine kIL X730 at_152 rfl ?_
      refine kCASTO X730 f734 (by decide) 1 c1 (own_nc c681 c682) (by decide) (by show 1 < 2; decide) g722 (Safe.arv X730.hZ.alike f734 (by decide)) at_154 (fun T735 h736 L738 W739 f740 X737 => ?_)
      have f741 : Arv Z h736 a718 k719 .char 2 [.int c0, .int c1] (.int (0 : Int32)) := f740
      have f742 := (Exa.wr W739 (Exa.wr W732 (Exa.ext E720 A709)))
      have f743 := (Fld.other W739 (Fld.other W732 (Fld.ext E720 f714) (Or.inl n725)) (Or.inl n725))
      have f744 := (Fld.other W739 (Fld.other W732 (Fld.ext E720 f713) (Or.inl n725)) (Or.inl n725))
      have f745 := (Old.wr (Old.wr (Old.ext (Old.ext f683 E706) E720) W732 g722) W739 g722)
      have f757 := (Safe.wr W739 (Safe.arv X730.hZ.alike f734 (by decide)) X730.C.1 (Safe.wr W732 (Safe.arv X717.hZ.alike f727 (by decide)) X717.C.1 (Safe.ext E720 X704.C.1 s711)))
      refine kSPEC X737 (gEL G) (argsL := [.ref a718]) (rest := [.ref a705]) (wd G 9 rfl) (wd G 10 rfl) (wd G 7 rfl) (wd G 11 rfl) rfl (by decide) (rm25 l G c0 c1 a705 a718 k719 h736 X737.n f745 f741 c664 c681 f742 f743 f744 g708) (allS ⟨(f742.lt), f757⟩ all0) (fun _ _ _ _ _ q => q.1) (lenOf pd___C_V rfl) rfl (by decide) 1 (Nat.le_of_eq rfl) (by decide) (by decide) (by decide) (by rw [hml]; rfl) at_155 (fun v746 L747 T748 h749 vm750 K751 w752 q753 C754 C755 X756 => ?_)
      obtain ⟨n758, ⟨a759, k760, e761, f762, f763, f764, f765, f766, f767⟩⟩ := q753
      subst e761
      have n768 : a705 ≠ a759 := Nat.ne_of_lt (Nat.lt_of_lt_of_le (f742.lt) f763)
      have n769 : a718 ≠ a759 := Nat.ne_of_lt (Nat.lt_of_lt_of_le (f741.lt) f763)
      have g770 : n0 ≤ a759 := Nat.le_trans X737.n f763
      have g771 : h0.size ≤ a759 := Nat.le_trans X737.g0 f763
      show Go _ _ _ _ T748 (mkF m 158 #[.val (.int i0), .val (.int i1), .val (.int i2), .val (.int i3), .val (.int i4), .val (.int i5), .val (.int (2 : Int32)), .val (.int (0 : Int32)), .val (.int c0), .val (.int c1), .val (.int c2), .val (.int c3), .unset, .unset] [.ref a705])
      refine kAS X756 #[.val (.int i0), .val (.int i1), .val (.int i2), .val (.int i3), .val (.int i4), .val (.int i5), .val (.int (2 : Int32)), .val (.int (0 : Int32)), .val (.int c0), .val (.int c1), .val (.int c2), .val (.int c3), .val (.ref a705), .unset] at_158 rfl rfl ?_
      refine kGOTO X756 243 at_160 (by decide) ?_
      refine kNULL X756 at_243 ?_
      refine kAS X756 #[.val (.int i0), .val (.int i1), .val (.int i2), .val (.int i3), .val (.int i4), .val (.int i5), .val (.int (2 : Int32)), .val (.int (0 : Int32)), .val (.int c0), .val (.int c1), .val (.int c2), .val (.int c3), .val (.ref a705), .val .null] at_244 rfl rfl ?_
      refine kIL X756 at_246 rfl ?_
      refine kIC X756 (3 : Int32) at_248 (by decide) ?_
      refine kICt X756 307 at_249 (XT.ii_ne_t (by decide)) (by decide) ?_
      refine kAL X756 at_307 rfl rfl ?_
      have f772 := (Exa.keep f742 f762)
      have f773 := (Old.keep f745 f762 (allS g708 all0))
      refine kSTAT X756 (gEL G) (argsL := [.ref a705]) (rest := []) (wd G 27 rfl) (wd G 28 rfl) (wd G 29 rfl) (wd G 30 rfl) (by decide) (rm30 l G (ownB c0) (ownB c1) a705 a759 k760 h749 X756.n f773 f772 f764 f766 f767 g708) all0 (fun _ _ _ _ _ q => q.1) (lenOf pd__Ljava_lang_String__Lcom_example_tight_calculus_tightcalculus_Model_Kind_ rfl) rfl (by decide) 0 (Nat.le_of_eq rfl) (by decide) (by decide) (by decide) (by rw [hml]; rfl) at_309 (fun v774 L775 T776 h777 vm778 K779 w780 q781 C782 C783 X784 => ?_)
      obtain ⟨n785, ⟨e786, f787⟩⟩ := q781
      subst e786
      show Go _ _ _ _ T776 (mkF m 312 #[.val (.int i0), .val (.int i1), .val (.int i2), .val (.int i3), .val (.int i4), .val (.int i5), .val (.int (2 : Int32)), .val (.int (0 : Int32)), .val (.int c0), .val (.int c1), .val (.int c2), .val (.int c3), .val (.ref a705), .val .null] [.null])
      refine kAL X784 at_312 rfl rfl ?_
      refine kACf X784 at_314 rfl rfl (XT.aa_ne_f rfl) ?_
      refine kIC X784 (1 : Int32) at_317 (by decide) ?_
      refine kGOTO X784 322 at_318 (by decide) ?_
      exact kRETZ X784 (gEL G) (t := .boolean) hret (by simp) at_322 (fun ve hve => ⟨X784.N, rfl⟩) (by decide) (by decide)
  | ⟨3, _⟩ =>
    refine kILn X0 at_9 rfl ?_
    refine kIC X0 (1 : Int32) at_10 (by decide) ?_
    refine kIAND X0 (i1 &&& (1 : Int32)) at_11 rfl ?_
    by_cases c788 : (i1 &&& (1 : Int32)) = 0
    · refine kIFf X0 at_12 (XT.i0_ne_f c788) ?_
      refine kIC X0 (1 : Int32) at_15 (by decide) ?_
      refine kGOTO X0 20 at_16 (by decide) ?_
      refine kIS X0 #[.val (.int i0), .val (.int i1), .val (.int i2), .val (.int i3), .val (.int i4), .val (.int i5), .val (.int (3 : Int32)), .val (.int (1 : Int32)), .unset, .unset, .unset, .unset, .unset, .unset] at_20 rfl ?_
      refine kILn X0 at_22 rfl ?_
      refine kIL X0 at_23 rfl ?_
      refine kIFf X0 at_25 (XT.i0_eq_f (by decide)) ?_
      refine kBI X0 (103 : Int32) at_28 (by decide) ?_
      refine kGOTO X0 35 at_30 (by decide) ?_
      refine kSTAT X0 (gEL G) (argsL := [.int i2, .int (103 : Int32)]) (rest := []) (wd G 1 rfl) (wd G 2 rfl) (wd G 3 rfl) (wd G 4 rfl) (by decide) (rm1 l G i2 h0 X0.n O0 ) all0 (fun _ _ _ _ _ q => q.1) (lenOf pd__IC_C rfl) rfl (by decide) 0 (Nat.le_of_eq rfl) (by decide) (by decide) (by decide) (by rw [hml]; rfl) at_35 (fun v789 L790 T791 h792 vm793 K794 w795 q796 C797 C798 X799 => ?_)
      obtain ⟨n800, ⟨e801, f802⟩⟩ := q796
      subst e801
      subst f802
      show Go _ _ _ _ T791 (mkF m 38 #[.val (.int i0), .val (.int i1), .val (.int i2), .val (.int i3), .val (.int i4), .val (.int i5), .val (.int (3 : Int32)), .val (.int (1 : Int32)), .unset, .unset, .unset, .unset, .unset, .unset] [.int (drV i2 (103 : Int32))])
      obtain ⟨c0, ec0, c803, c804⟩ : ∃ c, c = (drV i2 (103 : Int32)) ∧ ¬ (255 : Int32) < c ∧ ¬ c < 0 := ⟨_, rfl, own_drR _ (by decide) (by decide)⟩
      rw [← ec0]
      refine kIS X799 #[.val (.int i0), .val (.int i1), .val (.int i2), .val (.int i3), .val (.int i4), .val (.int i5), .val (.int (3 : Int32)), .val (.int (1 : Int32)), .val (.int c0), .unset, .unset, .unset, .unset, .unset] at_38 rfl ?_
      refine kILn X799 at_40 rfl ?_
      refine kIL X799 at_41 rfl ?_
      refine kIFf X799 at_43 (XT.i0_eq_f (by decide)) ?_
      refine kBI X799 (112 : Int32) at_46 (by decide) ?_
      refine kGOTO X799 53 at_48 (by decide) ?_
      have f805 := O0
      refine kSTAT X799 (gEL G) (argsL := [.int i3, .int (112 : Int32)]) (rest := []) (wd G 1 rfl) (wd G 2 rfl) (wd G 3 rfl) (wd G 4 rfl) (by decide) (rm2 l G i3 h0 X799.n f805 ) all0 (fun _ _ _ _ _ q => q.1) (lenOf pd__IC_C rfl) rfl (by decide) 0 (Nat.le_of_eq rfl) (by decide) (by decide) (by decide) (by rw [hml]; rfl) at_53 (fun v806 L807 T808 h809 vm810 K811 w812 q813 C814 C815 X816 => ?_)
      obtain ⟨n817, ⟨e818, f819⟩⟩ := q813
      subst e818
      subst f819
      show Go _ _ _ _ T808 (mkF m 56 #[.val (.int i0), .val (.int i1), .val (.int i2), .val (.int i3), .val (.int i4), .val (.int i5), .val (.int (3 : Int32)), .val (.int (1 : Int32)), .val (.int c0), .unset, .unset, .unset, .unset, .unset] [.int (drV i3 (112 : Int32))])
      obtain ⟨c1, ec1, c820, c821⟩ : ∃ c, c = (drV i3 (112 : Int32)) ∧ ¬ (255 : Int32) < c ∧ ¬ c < 0 := ⟨_, rfl, own_drR _ (by decide) (by decide)⟩
      rw [← ec1]
      refine kIS X816 #[.val (.int i0), .val (.int i1), .val (.int i2), .val (.int i3), .val (.int i4), .val (.int i5), .val (.int (3 : Int32)), .val (.int (1 : Int32)), .val (.int c0), .val (.int c1), .unset, .unset, .unset, .unset] at_56 rfl ?_
      refine kIL X816 at_58 rfl ?_
      refine kIL X816 at_60 rfl ?_
      refine kIFf X816 at_62 (XT.i0_eq_f (by decide)) ?_
      refine kBI X816 (99 : Int32) at_65 (by decide) ?_
      refine kGOTO X816 72 at_67 (by decide) ?_
      have f822 := f805
      refine kSTAT X816 (gEL G) (argsL := [.int i4, .int (99 : Int32)]) (rest := []) (wd G 1 rfl) (wd G 2 rfl) (wd G 3 rfl) (wd G 4 rfl) (by decide) (rm3 l G i4 h0 X816.n f822 ) all0 (fun _ _ _ _ _ q => q.1) (lenOf pd__IC_C rfl) rfl (by decide) 0 (Nat.le_of_eq rfl) (by decide) (by decide) (by decide) (by rw [hml]; rfl) at_72 (fun v823 L824 T825 h826 vm827 K828 w829 q830 C831 C832 X833 => ?_)
      obtain ⟨n834, ⟨e835, f836⟩⟩ := q830
      subst e835
      subst f836
      show Go _ _ _ _ T825 (mkF m 75 #[.val (.int i0), .val (.int i1), .val (.int i2), .val (.int i3), .val (.int i4), .val (.int i5), .val (.int (3 : Int32)), .val (.int (1 : Int32)), .val (.int c0), .val (.int c1), .unset, .unset, .unset, .unset] [.int (drV i4 (99 : Int32))])
      obtain ⟨c2, ec2, c837, c838⟩ : ∃ c, c = (drV i4 (99 : Int32)) ∧ ¬ (255 : Int32) < c ∧ ¬ c < 0 := ⟨_, rfl, own_drR _ (by decide) (by decide)⟩
      rw [← ec2]
      refine kIS X833 #[.val (.int i0), .val (.int i1), .val (.int i2), .val (.int i3), .val (.int i4), .val (.int i5), .val (.int (3 : Int32)), .val (.int (1 : Int32)), .val (.int c0), .val (.int c1), .val (.int c2), .unset, .unset, .unset] at_75 rfl ?_
      refine kIL X833 at_77 rfl ?_
      refine kSI X833 (255 : Int32) at_79 (by decide) ?_
      refine kIAND X833 (i5 &&& (255 : Int32)) at_82 rfl ?_
      refine kI2C X833 (i5 &&& (255 : Int32)) at_83 (i2c_mask _) ?_
      obtain ⟨c3, ec3, c839, c840⟩ : ∃ c, c = (i5 &&& (255 : Int32)) ∧ ¬ (255 : Int32) < c ∧ ¬ c < 0 := ⟨_, rfl, own_mask _⟩
      rw [← ec3]
      refine kIS X833 #[.val (.int i0), .val (.int i1), .val (.int i2), .val (.int i3), .val (.int i4), .val (.int i5), .val (.int (3 : Int32)), .val (.int (1 : Int32)), .val (.int c0), .val (.int c1), .val (.int c2), .val (.int c3), .unset, .unset] at_84 rfl ?_
      refine kIL X833 at_86 rfl ?_
      refine kIFt X833 106 at_88 (XT.i0_ne_t (by decide)) (by decide) ?_
      refine kIL X833 at_106 rfl ?_
      refine kIC X833 (1 : Int32) at_108 (by decide) ?_
      refine kICt X833 132 at_109 (XT.ii_ne_t (by decide)) (by decide) ?_
      refine kIL X833 at_132 rfl ?_
      refine kIC X833 (2 : Int32) at_134 (by decide) ?_
      refine kICt X833 163 at_135 (XT.ii_ne_t (by decide)) (by decide) ?_
      refine kIL X833 at_163 rfl ?_
      refine kIC X833 (3 : Int32) at_165 (by decide) ?_
      refine kICf X833 at_166 (XT.ii_ne_f (by decide)) ?_
      refine kNEW X833 (wd G 5 rfl) (wd G 6 rfl) (wd G 7 rfl) at_169 (by decide) (by decide) (fun T841 h842 a844 E845 q846 g847 A848 D849 s850 X843 => ?_)
      have g851 : h0.size ≤ a844 := q846 ▸ X833.g0
      have f852 : Fld Z h842 a844 "java/lang/String" "value" "[B" (.null) := D849 (Or.inr (wd G 21 rfl)) (ty := (.array (.byte))) (by decide)
      have f853 : Fld Z h842 a844 "java/lang/String" "coder" "B" (.int (0 : Int32)) := D849 (Or.inr (wd G 22 rfl)) (ty := .byte) (by decide)
      refine kDUP X843 at_172 rfl ?_
      refine kIC X843 (3 : Int32) at_173 (by decide) ?_
      refine kNEWP X843 (wd G 8 rfl) (cap := 3) at_174 (by decide) (by decide) (by decide) (by decide) (by decide) (fun T854 h855 a857 k858 E859 q860 g861 A862 s863 X856 => ?_)
      have n864 : a844 ≠ a857 := Nat.ne_of_lt (Nat.lt_of_lt_of_le (A848.lt) (Nat.le_of_eq q860.symm))
      have g865 : h0.size ≤ a857 := q860 ▸ X843.g0
      have f866 : Arv Z h855 a857 k858 .char 3 [.int (0 : Int32), .int (0 : Int32), .int (0 : Int32)] (.int (0 : Int32)) := A862.pad (pad_rep [] _ 3)
      refine kDUP X856 at_176 rfl ?_
      refine kIC X856 (0 : Int32) at_177 (by decide) ?_
      refine kIL X856 at_178 rfl ?_
      refine kCASTO X856 f866 (by decide) 0 c0 (own_nc c803 c804) (by decide) (by show 0 < 3; decide) g861 (Safe.arv X856.hZ.alike f866 (by decide)) at_180 (fun T867 h868 L870 W871 f872 X869 => ?_)
      have f873 : Arv Z h868 a857 k858 .char 3 [.int c0, .int (0 : Int32), .int (0 : Int32)] (.int (0 : Int32)) := f872
      refine kDUP X869 at_181 rfl ?_
      refine kIC X869 (1 : Int32) at_182 (by decide) ?_
      refine kIL X869 at_183 rfl ?_
      refine kCASTO X869 f873 (by decide) 1 c1 (own_nc c820 c821) (by decide) (by show 1 < 3; decide) g861 (Safe.arv X869.hZ.alike f873 (by decide)) at_185 (fun T874 h875 L877 W878 f879 X876 => ?_)
      have f880 : Arv Z h875 a857 k858 .char 3 [.int c0, .int c1, .int (0 : Int32)] (.int (0 : Int32)) := f879
      refine kDUP X876 at_186 rfl ?_
      refine kIC X876 (2 : Int32) at_187 (by decide) ?_
      refine kIL X876 at_188 rfl ?_
      refine kCASTO X876 f880 (by decide) 2 c2 (own_nc c837 c838) (by decide) (by show 2 < 3; decide) g861 (Safe.arv X876.hZ.alike f880 (by decide)) at_190 (fun T881 h882 L884 W885 f886 X883 => ?_)
      have f887 : Arv Z h882 a857 k858 .char 3 [.int c0, .int c1, .int c2] (.int (0 : Int32)) := f886
      have f888 := (Exa.wr W885 (Exa.wr W878 (Exa.wr W871 (Exa.ext E859 A848))))
      have f889 := (Fld.other W885 (Fld.other W878 (Fld.other W871 (Fld.ext E859 f853) (Or.inl n864)) (Or.inl n864)) (Or.inl n864))
      have f890 := (Fld.other W885 (Fld.other W878 (Fld.other W871 (Fld.ext E859 f852) (Or.inl n864)) (Or.inl n864)) (Or.inl n864))
      have f891 := (Old.wr (Old.wr (Old.wr (Old.ext (Old.ext f822 E845) E859) W871 g861) W878 g861) W885 g861)
      have f903 := (Safe.wr W885 (Safe.arv X876.hZ.alike f880 (by decide)) X876.C.1 (Safe.wr W878 (Safe.arv X869.hZ.alike f873 (by decide)) X869.C.1 (Safe.wr W871 (Safe.arv X856.hZ.alike f866 (by decide)) X856.C.1 (Safe.ext E859 X843.C.1 s850))))
      refine kSPEC X883 (gEL G) (argsL := [.ref a857]) (rest := [.ref a844]) (wd G 9 rfl) (wd G 10 rfl) (wd G 7 rfl) (wd G 11 rfl) rfl (by decide) (rm35 l G c0 c1 c2 a844 a857 k858 h882 X883.n f891 f887 c803 c820 c837 f888 f889 f890 g847) (allS ⟨(f888.lt), f903⟩ all0) (fun _ _ _ _ _ q => q.1) (lenOf pd___C_V rfl) rfl (by decide) 1 (Nat.le_of_eq rfl) (by decide) (by decide) (by decide) (by rw [hml]; rfl) at_191 (fun v892 L893 T894 h895 vm896 K897 w898 q899 C900 C901 X902 => ?_)
      obtain ⟨n904, ⟨a905, k906, e907, f908, f909, f910, f911, f912, f913⟩⟩ := q899
      subst e907
      have n914 : a844 ≠ a905 := Nat.ne_of_lt (Nat.lt_of_lt_of_le (f888.lt) f909)
      have n915 : a857 ≠ a905 := Nat.ne_of_lt (Nat.lt_of_lt_of_le (f887.lt) f909)
      have g916 : n0 ≤ a905 := Nat.le_trans X883.n f909
      have g917 : h0.size ≤ a905 := Nat.le_trans X883.g0 f909
      show Go _ _ _ _ T894 (mkF m 194 #[.val (.int i0), .val (.int i1), .val (.int i2), .val (.int i3), .val (.int i4), .val (.int i5), .val (.int (3 : Int32)), .val (.int (1 : Int32)), .val (.int c0), .val (.int c1), .val (.int c2), .val (.int c3), .unset, .unset] [.ref a844])
      refine kAS X902 #[.val (.int i0), .val (.int i1), .val (.int i2), .val (.int i3), .val (.int i4), .val (.int i5), .val (.int (3 : Int32)), .val (.int (1 : Int32)), .val (.int c0), .val (.int c1), .val (.int c2), .val (.int c3), .val (.ref a844), .unset] at_194 rfl rfl ?_
      refine kGOTO X902 243 at_196 (by decide) ?_
      refine kNULL X902 at_243 ?_
      refine kAS X902 #[.val (.int i0), .val (.int i1), .val (.int i2), .val (.int i3), .val (.int i4), .val (.int i5), .val (.int (3 : Int32)), .val (.int (1 : Int32)), .val (.int c0), .val (.int c1), .val (.int c2), .val (.int c3), .val (.ref a844), .val .null] at_244 rfl rfl ?_
      refine kIL X902 at_246 rfl ?_
      refine kIC X902 (3 : Int32) at_248 (by decide) ?_
      refine kICf X902 at_249 (XT.ii_ne_f (by decide)) ?_
      refine kIL X902 at_252 rfl ?_
      refine kBI X902 (103 : Int32) at_254 (by decide) ?_
      by_cases c918 : c0 = (103 : Int32)
      · refine kICf X902 at_256 (XT.ii_ne_f c918) ?_
        refine kIL X902 at_259 rfl ?_
        refine kBI X902 (112 : Int32) at_261 (by decide) ?_
        by_cases c919 : c1 = (112 : Int32)
        · refine kICf X902 at_263 (XT.ii_ne_f c919) ?_
          refine kIL X902 at_266 rfl ?_
          refine kBI X902 (99 : Int32) at_268 (by decide) ?_
          by_cases c920 : c2 = (99 : Int32)
          · refine kICf X902 at_270 (XT.ii_ne_f c920) ?_
            have f923 := (Old.keep f891 f908 (allS g847 all0))
            refine kGETS X902 (wd G 71 rfl) Via.refl (Sta.ext f923.2 (S_G G)) at_273 (fun T921 X922 => ?_)
            refine kAS X922 #[.val (.int i0), .val (.int i1), .val (.int i2), .val (.int i3), .val (.int i4), .val (.int i5), .val (.int (3 : Int32)), .val (.int (1 : Int32)), .val (.int c0), .val (.int c1), .val (.int c2), .val (.int c3), .val (.ref a844), .val (.ref aG)] at_276 rfl rfl ?_
            refine kGOTO X922 307 at_278 (by decide) ?_
            refine kAL X922 at_307 rfl rfl ?_
            have f924 := (Exa.keep f888 f908)
            refine kSTAT X922 (gEL G) (argsL := [.ref a844]) (rest := []) (wd G 27 rfl) (wd G 28 rfl) (wd G 29 rfl) (wd G 30 rfl) (by decide) (rm40 l G (ownB c0) (ownB c1) (ownB c2) a844 a905 k906 h895 X922.n f923 f924 f910 f912 f913 g847) all0 (fun _ _ _ _ _ q => q.1) (lenOf pd__Ljava_lang_String__Lcom_example_tight_calculus_tightcalculus_Model_Kind_ rfl) rfl (by decide) 0 (Nat.le_of_eq rfl) (by decide) (by decide) (by decide) (by rw [hml]; rfl) at_309 (fun v925 L926 T927 h928 vm929 K930 w931 q932 C933 C934 X935 => ?_)
            obtain ⟨n936, (o937 | o938 | o939 | o940 | o941 | o942 | o943 | o944 | o945 | o946 | o947 | o948 | o949 | o950 | o951 | o952)⟩ := q932
            · obtain ⟨e953, f954, f955, f956, f957, f958, f959, f960⟩ := o937
              subst e953
              have c961 : c0 = (103 : Int32) := (own_b8t c803 c804 (by decide) (by decide) f954)
              have c962 : c1 = (112 : Int32) := (own_b8t c820 c821 (by decide) (by decide) f955)
              have c963 : c2 = (99 : Int32) := (own_b8t c837 c838 (by decide) (by decide) f956)
              have c964 : c0 = (97 : Int32) := (own_b8t c803 c804 (by decide) (by decide) f957)
              exact absurd c964 (fun q => absurd (Eq.trans (Eq.symm c918) q) (by decide))
            · obtain ⟨e965, f966, f967, f968, f969, f970, f971, f972⟩ := o938
              subst e965
              have c973 : c0 = (103 : Int32) := (own_b8t c803 c804 (by decide) (by decide) f966)
              have c974 : c1 = (112 : Int32) := (own_b8t c820 c821 (by decide) (by decide) f967)
              have c975 : c2 = (99 : Int32) := (own_b8t c837 c838 (by decide) (by decide) f968)
              have c976 : c0 = (97 : Int32) := (own_b8t c803 c804 (by decide) (by decide) f969)
              exact absurd c976 (fun q => absurd (Eq.trans (Eq.symm c918) q) (by decide))
            · obtain ⟨e977, f978, f979, f980, f981, f982, f983⟩ := o939
              subst e977
              have c984 : c0 = (103 : Int32) := (own_b8t c803 c804 (by decide) (by decide) f978)
              have c985 : c1 = (112 : Int32) := (own_b8t c820 c821 (by decide) (by decide) f979)
              have c986 : c2 = (99 : Int32) := (own_b8t c837 c838 (by decide) (by decide) f980)
              have c987 : c0 = (97 : Int32) := (own_b8t c803 c804 (by decide) (by decide) f981)
              exact absurd c987 (fun q => absurd (Eq.trans (Eq.symm c918) q) (by decide))
            · obtain ⟨e988, f989, f990, f991, f992, f993⟩ := o940
              subst e988
              have c994 : c0 = (103 : Int32) := (own_b8t c803 c804 (by decide) (by decide) f989)
              have c995 : c1 = (112 : Int32) := (own_b8t c820 c821 (by decide) (by decide) f990)
              have c996 : c2 = (99 : Int32) := (own_b8t c837 c838 (by decide) (by decide) f991)
              have c997 : ¬ c0 = (97 : Int32) := (own_b8f c803 c804 (by decide) (by decide) f992)
              show Go _ _ _ _ T927 (mkF m 312 #[.val (.int i0), .val (.int i1), .val (.int i2), .val (.int i3), .val (.int i4), .val (.int i5), .val (.int (3 : Int32)), .val (.int (1 : Int32)), .val (.int c0), .val (.int c1), .val (.int c2), .val (.int c3), .val (.ref a844), .val (.ref aG)] [.ref aG])
              refine kAL X935 at_312 rfl rfl ?_
              refine kACf X935 at_314 rfl rfl (XT.aa_ne_f rfl) ?_
              refine kIC X935 (1 : Int32) at_317 (by decide) ?_
              refine kGOTO X935 322 at_318 (by decide) ?_
              exact kRETZ X935 (gEL G) (t := .boolean) hret (by simp) at_322 (fun ve hve => ⟨X935.N, rfl⟩) (by decide) (by decide)
            · obtain ⟨e998, f999, f1000, f1001, f1002, f1003, f1004, f1005⟩ := o941
              subst e998
              have c1006 : c0 = (103 : Int32) := (own_b8t c803 c804 (by decide) (by decide) f999)
              have c1007 : c1 = (112 : Int32) := (own_b8t c820 c821 (by decide) (by decide) f1000)
              have c1008 : ¬ c2 = (99 : Int32) := (own_b8f c837 c838 (by decide) (by decide) f1001)
              exact absurd c920 c1008
            · obtain ⟨e1009, f1010, f1011, f1012, f1013, f1014, f1015, f1016⟩ := o942
              subst e1009
              have c1017 : c0 = (103 : Int32) := (own_b8t c803 c804 (by decide) (by decide) f1010)
              have c1018 : c1 = (112 : Int32) := (own_b8t c820 c821 (by decide) (by decide) f1011)
              have c1019 : ¬ c2 = (99 : Int32) := (own_b8f c837 c838 (by decide) (by decide) f1012)
              exact absurd c920 c1019
            · obtain ⟨e1020, f1021, f1022, f1023, f1024, f1025, f1026⟩ := o943
              subst e1020
              have c1027 : c0 = (103 : Int32) := (own_b8t c803 c804 (by decide) (by decide) f1021)
              have c1028 : c1 = (112 : Int32) := (own_b8t c820 c821 (by decide) (by decide) f1022)
              have c1029 : ¬ c2 = (99 : Int32) := (own_b8f c837 c838 (by decide) (by decide) f1023)
              exact absurd c920 c1029
            · obtain ⟨e1030, f1031, f1032, f1033, f1034, f1035⟩ := o944
              subst e1030
              have c1036 : c0 = (103 : Int32) := (own_b8t c803 c804 (by decide) (by decide) f1031)
              have c1037 : c1 = (112 : Int32) := (own_b8t c820 c821 (by decide) (by decide) f1032)
              have c1038 : ¬ c2 = (99 : Int32) := (own_b8f c837 c838 (by decide) (by decide) f1033)
              exact absurd c920 c1038
            · obtain ⟨e1039, f1040, f1041, f1042, f1043, f1044, f1045⟩ := o945
              subst e1039
              have c1046 : c0 = (103 : Int32) := (own_b8t c803 c804 (by decide) (by decide) f1040)
              have c1047 : ¬ c1 = (112 : Int32) := (own_b8f c820 c821 (by decide) (by decide) f1041)
              exact absurd c919 c1047
            · obtain ⟨e1048, f1049, f1050, f1051, f1052, f1053, f1054⟩ := o946
              subst e1048
              have c1055 : c0 = (103 : Int32) := (own_b8t c803 c804 (by decide) (by decide) f1049)
              have c1056 : ¬ c1 = (112 : Int32) := (own_b8f c820 c821 (by decide) (by decide) f1050)
              exact absurd c919 c1056
            · obtain ⟨e1057, f1058, f1059, f1060, f1061, f1062⟩ := o947
              subst e1057
              have c1063 : c0 = (103 : Int32) := (own_b8t c803 c804 (by decide) (by decide) f1058)
              have c1064 : ¬ c1 = (112 : Int32) := (own_b8f c820 c821 (by decide) (by decide) f1059)
              exact absurd c919 c1064
            · obtain ⟨e1065, f1066, f1067, f1068, f1069⟩ := o948
              subst e1065
              have c1070 : c0 = (103 : Int32) := (own_b8t c803 c804 (by decide) (by decide) f1066)
              have c1071 : ¬ c1 = (112 : Int32) := (own_b8f c820 c821 (by decide) (by decide) f1067)
              exact absurd c919 c1071
            · obtain ⟨e1072, f1073, f1074, f1075, f1076, f1077⟩ := o949
              subst e1072
              have c1078 : ¬ c0 = (103 : Int32) := (own_b8f c803 c804 (by decide) (by decide) f1073)
              exact absurd c918 c1078
            · obtain ⟨e1079, f1080, f1081, f1082, f1083, f1084⟩ := o950
              subst e1079
              have c1085 : ¬ c0 = (103 : Int32) := (own_b8f c803 c804 (by decide) (by decide) f1080)
              exact absurd c918 c1085
            · obtain ⟨e1086, f1087, f1088, f1089, f1090⟩ := o951
              subst e1086
              have c1091 : ¬ c0 = (103 : Int32) := (own_b8f c803 c804 (by decide) (by decide) f1087)
              exact absurd c918 c1091
            · obtain ⟨e1092, f1093, f1094, f1095⟩ := o952
              subst e1092
              have c1096 : ¬ c0 = (103 : Int32) := (own_b8f c803 c804 (by decide) (by decide) f1093)
              exact absurd c918 c1096
          · refine kICt X902 281 at_270 (XT.ii_ne_t c920) (by decide) ?_
            refine kIL X902 at_281 rfl ?_
            refine kBI X902 (97 : Int32) at_283 (by decide) ?_
            refine kICt X902 307 at_285 (XT.ii_ne_t (fun q => absurd (Eq.trans (Eq.symm c918) q) (by decide))) (by decide) ?_
            refine kAL X902 at_307 rfl rfl ?_
            have f1097 := (Exa.keep f888 f908)
            have f1098 := (Old.keep f891 f908 (allS g847 all0))
            refine kSTAT X902 (gEL G) (argsL := [.ref a844]) (rest := []) (wd G 27 rfl) (wd G 28 rfl) (wd G 29 rfl) (wd G 30 rfl) (by decide) (rm40 l G (ownB c0) (ownB c1) (ownB c2) a844 a905 k906 h895 X902.n f1098 f1097 f910 f912 f913 g847) all0 (fun _ _ _ _ _ q => q.1) (lenOf pd__Ljava_lang_String__Lcom_example_tight_calculus_tightcalculus_Model_Kind_ rfl) rfl (by decide) 0 (Nat.le_of_eq rfl) (by decide) (by decide) (by decide) (by rw [hml]; rfl) at_309 (fun v1099 L1100 T1101 h1102 vm1103 K1104 w1105 q1106 C1107 C1108 X1109 => ?_)
            obtain ⟨n1110, (o1111 | o1112 | o1113 | o1114 | o1115 | o1116 | o1117 | o1118 | o1119 | o1120 | o1121 | o1122 | o1123 | o1124 | o1125 | o1126)⟩ := q1106
            · obtain ⟨e1127, f1128, f1129, f1130, f1131, f1132, f1133, f1134⟩ := o1111
              subst e1127
              have c1135 : c0 = (103 : Int32) := (own_b8t c803 c804 (by decide) (by decide) f1128)
              have c1136 : c1 = (112 : Int32) := (own_b8t c820 c821 (by decide) (by decide) f1129)
              have c1137 : c2 = (99 : Int32) := (own_b8t c837 c838 (by decide) (by decide) f1130)
              exact absurd c1137 c920
            · obtain ⟨e1138, f1139, f1140, f1141, f1142, f1143, f1144, f1145⟩ := o1112
              subst e1138
              have c1146 : c0 = (103 : Int32) := (own_b8t c803 c804 (by decide) (by decide) f1139)
              have c1147 : c1 = (112 : Int32) := (own_b8t c820 c821 (by decide) (by decide) f1140)
              have c1148 : c2 = (99 : Int32) := (own_b8t c837 c838 (by decide) (by decide) f1141)
              exact absurd c1148 c920
            · obtain ⟨e1149, f1150, f1151, f1152, f1153, f1154, f1155⟩ := o1113
              subst e1149
              have c1156 : c0 = (103 : Int32) := (own_b8t c803 c804 (by decide) (by decide) f1150)
              have c1157 : c1 = (112 : Int32) := (own_b8t c820 c821 (by decide) (by decide) f1151)
              have c1158 : c2 = (99 : Int32) := (own_b8t c837 c838 (by decide) (by decide) f1152)
              exact absurd c1158 c920
            · obtain ⟨e1159, f1160, f1161, f1162, f1163, f1164⟩ := o1114
              subst e1159
              have c1165 : c0 = (103 : Int32) := (own_b8t c803 c804 (by decide) (by decide) f1160)
              have c1166 : c1 = (112 : Int32) := (own_b8t c820 c821 (by decide) (by decide) f1161)
              have c1167 : c2 = (99 : Int32) := (own_b8t c837 c838 (by decide) (by decide) f1162)
              exact absurd c1167 c920
            · obtain ⟨e1168, f1169, f1170, f1171, f1172, f1173, f1174, f1175⟩ := o1115
              subst e1168
              have c1176 : c0 = (103 : Int32) := (own_b8t c803 c804 (by decide) (by decide) f1169)
              have c1177 : c1 = (112 : Int32) := (own_b8t c820 c821 (by decide) (by decide) f1170)
              have c1178 : ¬ c2 = (99 : Int32) := (own_b8f c837 c838 (by decide) (by decide) f1171)
              have c1179 : c0 = (97 : Int32) := (own_b8t c803 c804 (by decide) (by decide) f1172)
              exact absurd c1179 (fun q => absurd (Eq.trans (Eq.symm c918) q) (by decide))
            · obtain ⟨e1180, f1181, f1182, f1183, f1184, f1185, f1186, f1187⟩ := o1116
              subst e1180
              have c1188 : c0 = (103 : Int32) := (own_b8t c803 c804 (by decide) (by decide) f1181)
              have c1189 : c1 = (112 : Int32) := (own_b8t c820 c821 (by decide) (by decide) f1182)
              have c1190 : ¬ c2 = (99 : Int32) := (own_b8f c837 c838 (by decide) (by decide) f1183)
              have c1191 : c0 = (97 : Int32) := (own_b8t c803 c804 (by decide) (by decide) f1184)
              exact absurd c1191 (fun q => absurd (Eq.trans (Eq.symm c918) q) (by decide))
            · obtain ⟨e1192, f1193, f1194, f1195, f1196, f1197, f1198⟩ := o1117
              subst e1192
              have c1199 : c0 = (103 : Int32) := (own_b8t c803 c804 (by decide) (by decide) f1193)
              have c1200 : c1 = (112 : Int32) := (own_b8t c820 c821 (by decide) (by decide) f1194)
              have c1201 : ¬ c2 = (99 : Int32) := (own_b8f c837 c838 (by decide) (by decide) f1195)
              have c1202 : c0 = (97 : Int32) := (own_b8t c803 c804 (by decide) (by decide) f1196)
              exact absurd c1202 (fun q => absurd (Eq.trans (Eq.symm c918) q) (by decide))
            · obtain ⟨e1203, f1204, f1205, f1206, f1207, f1208⟩ := o1118
              subst e1203
              have c1209 : c0 = (103 : Int32) := (own_b8t c803 c804 (by decide) (by decide) f1204)
              have c1210 : c1 = (112 : Int32) := (own_b8t c820 c821 (by decide) (by decide) f1205)
              have c1211 : ¬ c2 = (99 : Int32) := (own_b8f c837 c838 (by decide) (by decide) f1206)
              have c1212 : ¬ c0 = (97 : Int32) := (own_b8f c803 c804 (by decide) (by decide) f1207)
              show Go _ _ _ _ T1101 (mkF m 312 #[.val (.int i0), .val (.int i1), .val (.int i2), .val (.int i3), .val (.int i4), .val (.int i5), .val (.int (3 : Int32)), .val (.int (1 : Int32)), .val (.int c0), .val (.int c1), .val (.int c2), .val (.int c3), .val (.ref a844), .val .null] [.null])
              refine kAL X1109 at_312 rfl rfl ?_
              refine kACf X1109 at_314 rfl rfl (XT.aa_ne_f rfl) ?_
              refine kIC X1109 (1 : Int32) at_317 (by decide) ?_
              refine kGOTO X1109 322 at_318 (by decide) ?_
              exact kRETZ X1109 (gEL G) (t := .boolean) hret (by simp) at_322 (fun ve hve => ⟨X1109.N, rfl⟩) (by decide) (by decide)
            · obtain ⟨e1213, f1214, f1215, f1216, f1217, f1218, f1219⟩ := o1119
              subst e1213
              have c1220 : c0 = (103 : Int32) := (own_b8t c803 c804 (by decide) (by decide) f1214)
              have c1221 : ¬ c1 = (112 : Int32) := (own_b8f c820 c821 (by decide) (by decide) f1215)
              exact absurd c919 c1221
            · obtain ⟨e1222, f1223, f1224, f1225, f1226, f1227, f1228⟩ := o1120
              subst e1222
              have c1229 : c0 = (103 : Int32) := (own_b8t c803 c804 (by decide) (by decide) f1223)
              have c1230 : ¬ c1 = (112 : Int32) := (own_b8f c820 c821 (by decide) (by decide) f1224)
              exact absurd c919 c1230
            · obtain ⟨e1231, f1232, f1233, f1234, f1235, f1236⟩ := o1121
              subst e1231
              have c1237 : c0 = (103 : Int32) := (own_b8t c803 c804 (by decide) (by decide) f1232)
              have c1238 : ¬ c1 = (112 : Int32) := (own_b8f c820 c821 (by decide) (by decide) f1233)
              exact absurd c919 c1238
            · obtain ⟨e1239, f1240, f1241, f1242, f1243⟩ := o1122
              subst e1239
              have c1244 : c0 = (103 : Int32) := (own_b8t c803 c804 (by decide) (by decide) f1240)
              have c1245 : ¬ c1 = (112 : Int32) := (own_b8f c820 c821 (by decide) (by decide) f1241)
              exact absurd c919 c1245
            · obtain ⟨e1246, f1247, f1248, f1249, f1250, f1251⟩ := o1123
              subst e1246
              have c1252 : ¬ c0 = (103 : Int32) := (own_b8f c803 c804 (by decide) (by decide) f1247)
              exact absurd c918 c1252
            · obtain ⟨e1253, f1254, f1255, f1256, f1257, f1258⟩ := o1124
              subst e1253
              have c1259 : ¬ c0 = (103 : Int32) := (own_b8f c803 c804 (by decide) (by decide) f1254)
              exact absurd c918 c1259
            · obtain ⟨e1260, f1261, f1262, f1263, f1264⟩ := o1125
              subst e1260
              have c1265 : ¬ c0 = (103 : Int32) := (own_b8f c803 c804 (by decide) (by decide) f1261)
              exact absurd c918 c1265
            · obtain ⟨e1266, f1267, f1268, f1269⟩ := o1126
              subst e1266
              have c1270 : ¬ c0 = (103 : Int32) := (own_b8f c803 c804 (by decide) (by decide) f1267)
              exact absurd c918 c1270
        · refine kICt X902 281 at_263 (XT.ii_ne_t c919) (by decide) ?_
          refine kIL X902 at_281 rfl ?_
          refine kBI X902 (97 : Int32) at_283 (by decide) ?_
          refine kICt X902 307 at_285 (XT.ii_ne_t (fun q => absurd (Eq.trans (Eq.symm c918) q) (by decide))) (by decide) ?_
          refine kAL X902 at_307 rfl rfl ?_
          have f1271 := (Exa.keep f888 f908)
          have f1272 := (Old.keep f891 f908 (allS g847 all0))
          refine kSTAT X902 (gEL G) (argsL := [.ref a844]) (rest := []) (wd G 27 rfl) (wd G 28 rfl) (wd G 29 rfl) (wd G 30 rfl) (by decide) (rm40 l G (ownB c0) (ownB c1) (ownB c2) a844 a905 k906 h895 X902.n f1272 f1271 f910 f912 f913 g847) all0 (fun _ _ _ _ _ q => q.1) (lenOf pd__Ljava_lang_String__Lcom_example_tight_calculus_tightcalculus_Model_Kind_ rfl) rfl (by decide) 0 (Nat.le_of_eq rfl) (by decide) (by decide) (by decide) (by rw [hml]; rfl) at_309 (fun v1273 L1274 T1275 h1276 vm1277 K1278 w1279 q1280 C1281 C1282 X1283 => ?_)
          obtain ⟨n1284, (o1285 | o1286 | o1287 | o1288 | o1289 | o1290 | o1291 | o1292 | o1293 | o1294 | o1295 | o1296 | o1297 | o1298 | o1299 | o1300)⟩ := q1280
          · obtain ⟨e1301, f1302, f1303, f1304, f1305, f1306, f1307, f1308⟩ := o1285
            subst e1301
            have c1309 : c0 = (103 : Int32) := (own_b8t c803 c804 (by decide) (by decide) f1302)
            have c1310 : c1 = (112 : Int32) := (own_b8t c820 c821 (by decide) (by decide) f1303)
            exact absurd c1310 c919
          · obtain ⟨e1311, f1312, f1313, f1314, f1315, f1316, f1317, f1318⟩ := o1286
            subst e1311
            have c1319 : c0 = (103 : Int32) := (own_b8t c803 c804 (by decide) (by decide) f1312)
            have c1320 : c1 = (112 : Int32) := (own_b8t c820 c821 (by decide) (by decide) f1313)
            exact absurd c1320 c919
          · obtain ⟨e1321, f1322, f1323, f1324, f1325, f1326, f1327⟩ := o1287
            subst e1321
            have c1328 : c0 = (103 : Int32) := (own_b8t c803 c804 (by decide) (by decide) f1322)
            have c1329 : c1 = (112 : Int32) := (own_b8t c820 c821 (by decide) (by decide) f1323)
            exact absurd c1329 c919
          · obtain ⟨e1330, f1331, f1332, f1333, f1334, f1335⟩ := o1288
            subst e1330
            have c1336 : c0 = (103 : Int32) := (own_b8t c803 c804 (by decide) (by decide) f1331)
            have c1337 : c1 = (112 : Int32) := (own_b8t c820 c821 (by decide) (by decide) f1332)
            exact absurd c1337 c919
          · obtain ⟨e1338, f1339, f1340, f1341, f1342, f1343, f1344, f1345⟩ := o1289
            subst e1338
            have c1346 : c0 = (103 : Int32) := (own_b8t c803 c804 (by decide) (by decide) f1339)
            have c1347 : c1 = (112 : Int32) := (own_b8t c820 c821 (by decide) (by decide) f1340)
            exact absurd c1347 c919
          · obtain ⟨e1348, f1349, f1350, f1351, f1352, f1353, f1354, f1355⟩ := o1290
            subst e1348
            have c1356 : c0 = (103 : Int32) := (own_b8t c803 c804 (by decide) (by decide) f1349)
            have c1357 : c1 = (112 : Int32) := (own_b8t c820 c821 (by decide) (by decide) f1350)
            exact absurd c1357 c919
          · obtain ⟨e1358, f1359, f1360, f1361, f1362, f1363, f1364⟩ := o1291
            subst e1358
            have c1365 : c0 = (103 : Int32) := (own_b8t c803 c804 (by decide) (by decide) f1359)
            have c1366 : c1 = (112 : Int32) := (own_b8t c820 c821 (by decide) (by decide) f1360)
            exact absurd c1366 c919
          · obtain ⟨e1367, f1368, f1369, f1370, f1371, f1372⟩ := o1292
            subst e1367
            have c1373 : c0 = (103 : Int32) := (own_b8t c803 c804 (by decide) (by decide) f1368)
            have c1374 : c1 = (112 : Int32) := (own_b8t c820 c821 (by decide) (by decide) f1369)
            exact absurd c1374 c919
          · obtain ⟨e1375, f1376, f1377, f1378, f1379, f1380, f1381⟩ := o1293
            subst e1375
            have c1382 : c0 = (103 : Int32) := (own_b8t c803 c804 (by decide) (by decide) f1376)
            have c1383 : ¬ c1 = (112 : Int32) := (own_b8f c820 c821 (by decide) (by decide) f1377)
            have c1384 : c0 = (97 : Int32) := (own_b8t c803 c804 (by decide) (by decide) f1378)
            exact absurd c1384 (fun q => absurd (Eq.trans (Eq.symm c918) q) (by decide))
          · obtain ⟨e1385, f1386, f1387, f1388, f1389, f1390, f1391⟩ := o1294
            subst e1385
            have c1392 : c0 = (103 : Int32) := (own_b8t c803 c804 (by decide) (by decide) f1386)
            have c1393 : ¬ c1 = (112 : Int32) := (own_b8f c820 c821 (by decide) (by decide) f1387)
            have c1394 : c0 = (97 : Int32) := (own_b8t c803 c804 (by decide) (by decide) f1388)
            exact absurd c1394 (fun q => absurd (Eq.trans (Eq.symm c918) q) (by decide))
          · obtain ⟨e1395, f1396, f1397, f1398, f1399, f1400⟩ := o1295
            subst e1395
            have c1401 : c0 = (103 : Int32) := (own_b8t c803 c804 (by decide) (by decide) f1396)
            have c1402 : ¬ c1 = (112 : Int32) := (own_b8f c820 c821 (by decide) (by decide) f1397)
            have c1403 : c0 = (97 : Int32) := (own_b8t c803 c804 (by decide) (by decide) f1398)
            exact absurd c1403 (fun q => absurd (Eq.trans (Eq.symm c918) q) (by decide))
          · obtain ⟨e1404, f1405, f1406, f1407, f1408⟩ := o1296
            subst e1404
            have c1409 : c0 = (103 : Int32) := (own_b8t c803 c804 (by decide) (by decide) f1405)
            have c1410 : ¬ c1 = (112 : Int32) := (own_b8f c820 c821 (by decide) (by decide) f1406)
            have c1411 : ¬ c0 = (97 : Int32) := (own_b8f c803 c804 (by decide) (by decide) f1407)
            show Go _ _ _ _ T1275 (mkF m 312 #[.val (.int i0), .val (.int i1), .val (.int i2), .val (.int i3), .val (.int i4), .val (.int i5), .val (.int (3 : Int32)), .val (.int (1 : Int32)), .val (.int c0), .val (.int c1), .val (.int c2), .val (.int c3), .val (.ref a844), .val .null] [.null])
            refine kAL X1283 at_312 rfl rfl ?_
            refine kACf X1283 at_314 rfl rfl (XT.aa_ne_f rfl) ?_
            refine kIC X1283 (1 : Int32) at_317 (by decide) ?_
            refine kGOTO X1283 322 at_318 (by decide) ?_
            exact kRETZ X1283 (gEL G) (t := .boolean) hret (by simp) at_322 (fun ve hve => ⟨X1283.N, rfl⟩) (by decide) (by decide)
          · obtain ⟨e1412, f1413, f1414, f1415, f1416, f1417⟩ := o1297
            subst e1412
            have c1418 : ¬ c0 = (103 : Int32) := (own_b8f c803 c804 (by decide) (by decide) f1413)
            exact absurd c918 c1418
          · obtain ⟨e1419, f1420, f1421, f1422, f1423, f1424⟩ := o1298
            subst e1419
            have c1425 : ¬ c0 = (103 : Int32) := (own_b8f c803 c804 (by decide) (by decide) f1420)
            exact absurd c918 c1425
          · obtain ⟨e1426, f1427, f1428, f1429, f1430⟩ := o1299
            subst e1426
            have c1431 : ¬ c0 = (103 : Int32) := (own_b8f c803 c804 (by decide) (by decide) f1427)
            exact absurd c918 c1431
          · obtain ⟨e1432, f1433, f1434, f1435⟩ := o1300
            subst e1432
            have c1436 : ¬ c0 = (103 : Int32) := (own_b8f c803 c804 (by decide) (by decide) f1433)
            exact absurd c918 c1436
      · refine kICt X902 281 at_256 (XT.ii_ne_t c918) (by decide) ?_
        refine kIL X902 at_281 rfl ?_
        refine kBI X902 (97 : Int32) at_283 (by decide) ?_
        by_cases c1437 : c0 = (97 : Int32)
        · refine kICf X902 at_285 (XT.ii_ne_f c1437) ?_
          refine kIL X902 at_288 rfl ?_
          refine kBI X902 (110 : Int32) at_290 (by decide) ?_
          by_cases c1438 : c1 = (110 : Int32)
          · refine kICf X902 at_292 (XT.ii_ne_f c1438) ?_
            refine kIL X902 at_295 rfl ?_
            refine kBI X902 (100 : Int32) at_297 (by decide) ?_
            by_cases c1439 : c2 = (100 : Int32)
            · refine kICf X902 at_299 (XT.ii_ne_f c1439) ?_
              have f1442 := (Old.keep f891 f908 (allS g847 all0))
              refine kGETS X902 (wd G 72 rfl) Via.refl (Sta.ext f1442.2 (S_N G)) at_302 (fun T1440 X1441 => ?_)
              refine kAS X1441 #[.val (.int i0), .val (.int i1), .val (.int i2), .val (.int i3), .val (.int i4), .val (.int i5), .val (.int (3 : Int32)), .val (.int (1 : Int32)), .val (.int c0), .val (.int c1), .val (.int c2), .val (.int c3), .val (.ref a844), .val (.ref aN)] at_305 rfl rfl ?_
              refine kAL X1441 at_307 rfl rfl ?_
              have f1443 := (Exa.keep f888 f908)
              refine kSTAT X1441 (gEL G) (argsL := [.ref a844]) (rest := []) (wd G 27 rfl) (wd G 28 rfl) (wd G 29 rfl) (wd G 30 rfl) (by decide) (rm40 l G (ownB c0) (ownB c1) (ownB c2) a844 a905 k906 h895 X1441.n f1442 f1443 f910 f912 f913 g847) all0 (fun _ _ _ _ _ q => q.1) (lenOf pd__Ljava_lang_String__Lcom_example_tight_calculus_tightcalculus_Model_Kind_ rfl) rfl (by decide) 0 (Nat.le_of_eq rfl) (by decide) (by decide) (by decide) (by rw [hml]; rfl) at_309 (fun v1444 L1445 T1446 h1447 vm1448 K1449 w1450 q1451 C1452 C1453 X1454 => ?_)
              obtain ⟨n1455, (o1456 | o1457 | o1458 | o1459 | o1460 | o1461 | o1462 | o1463 | o1464 | o1465 | o1466 | o1467 | o1468 | o1469 | o1470 | o1471)⟩ := q1451
              · obtain ⟨e1472, f1473, f1474, f1475, f1476, f1477, f1478, f1479⟩ := o1456
                subst e1472
                have c1480 : c0 = (103 : Int32) := (own_b8t c803 c804 (by decide) (by decide) f1473)
                exact absurd c1480 c918
              · obtain ⟨e1481, f1482, f1483, f1484, f1485, f1486, f1487, f1488⟩ := o1457
                subst e1481
                have c1489 : c0 = (103 : Int32) := (own_b8t c803 c804 (by decide) (by decide) f1482)
                exact absurd c1489 c918
              · obtain ⟨e1490, f1491, f1492, f1493, f1494, f1495, f1496⟩ := o1458
                subst e1490
                have c1497 : c0 = (103 : Int32) := (own_b8t c803 c804 (by decide) (by decide) f1491)
                exact absurd c1497 c918
              · obtain ⟨e1498, f1499, f1500, f1501, f1502, f1503⟩ := o1459
                subst e1498
                have c1504 : c0 = (103 : Int32) := (own_b8t c803 c804 (by decide) (by decide) f1499)
                exact absurd c1504 c918
              · obtain ⟨e1505, f1506, f1507, f1508, f1509, f1510, f1511, f1512⟩ := o1460
                subst e1505
                have c1513 : c0 = (103 : Int32) := (own_b8t c803 c804 (by decide) (by decide) f1506)
                exact absurd c1513 c918
              · obtain ⟨e1514, f1515, f1516, f1517, f1518, f1519, f1520, f1521⟩ := o1461
                subst e1514
                have c1522 : c0 = (103 : Int32) := (own_b8t c803 c804 (by decide) (by decide) f1515)
                exact absurd c1522 c918
              · obtain ⟨e1523, f1524, f1525, f1526, f1527, f1528, f1529⟩ := o1462
                subst e1523
                have c1530 : c0 = (103 : Int32) := (own_b8t c803 c804 (by decide) (by decide) f1524)
                exact absurd c1530 c918
              · obtain ⟨e1531, f1532, f1533, f1534, f1535, f1536⟩ := o1463
                subst e1531
                have c1537 : c0 = (103 : Int32) := (own_b8t c803 c804 (by decide) (by decide) f1532)
                exact absurd c1537 c918
              · obtain ⟨e1538, f1539, f1540, f1541, f1542, f1543, f1544⟩ := o1464
                subst e1538
                have c1545 : c0 = (103 : Int32) := (own_b8t c803 c804 (by decide) (by decide) f1539)
                exact absurd c1545 c918
              · obtain ⟨e1546, f1547, f1548, f1549, f1550, f1551, f1552⟩ := o1465
                subst e1546
                have c1553 : c0 = (103 : Int32) := (own_b8t c803 c804 (by decide) (by decide) f1547)
                exact absurd c1553 c918
              · obtain ⟨e1554, f1555, f1556, f1557, f1558, f1559⟩ := o1466
                subst e1554
                have c1560 : c0 = (103 : Int32) := (own_b8t c803 c804 (by decide) (by decide) f1555)
                exact absurd c1560 c918
              · obtain ⟨e1561, f1562, f1563, f1564, f1565⟩ := o1467
                subst e1561
                have c1566 : c0 = (103 : Int32) := (own_b8t c803 c804 (by decide) (by decide) f1562)
                exact absurd c1566 c918
              · obtain ⟨e1567, f1568, f1569, f1570, f1571, f1572⟩ := o1468
                subst e1567
                have c1573 : ¬ c0 = (103 : Int32) := (own_b8f c803 c804 (by decide) (by decide) f1568)
                have c1574 : c0 = (97 : Int32) := (own_b8t c803 c804 (by decide) (by decide) f1569)
                have c1575 : c1 = (110 : Int32) := (own_b8t c820 c821 (by decide) (by decide) f1570)
                have c1576 : c2 = (100 : Int32) := (own_b8t c837 c838 (by decide) (by decide) f1571)
                show Go _ _ _ _ T1446 (mkF m 312 #[.val (.int i0), .val (.int i1), .val (.int i2), .val (.int i3), .val (.int i4), .val (.int i5), .val (.int (3 : Int32)), .val (.int (1 : Int32)), .val (.int c0), .val (.int c1), .val (.int c2), .val (.int c3), .val (.ref a844), .val (.ref aN)] [.ref aN])
                refine kAL X1454 at_312 rfl rfl ?_
                refine kACf X1454 at_314 rfl rfl (XT.aa_ne_f rfl) ?_
                refine kIC X1454 (1 : Int32) at_317 (by decide) ?_
                refine kGOTO X1454 322 at_318 (by decide) ?_
                exact kRETZ X1454 (gEL G) (t := .boolean) hret (by simp) at_322 (fun ve hve => ⟨X1454.N, rfl⟩) (by decide) (by decide)
              · obtain ⟨e1577, f1578, f1579, f1580, f1581, f1582⟩ := o1469
                subst e1577
                have c1583 : ¬ c0 = (103 : Int32) := (own_b8f c803 c804 (by decide) (by decide) f1578)
                have c1584 : c0 = (97 : Int32) := (own_b8t c803 c804 (by decide) (by decide) f1579)
                have c1585 : c1 = (110 : Int32) := (own_b8t c820 c821 (by decide) (by decide) f1580)
                have c1586 : ¬ c2 = (100 : Int32) := (own_b8f c837 c838 (by decide) (by decide) f1581)
                exact absurd c1439 c1586
              · obtain ⟨e1587, f1588, f1589, f1590, f1591⟩ := o1470
                subst e1587
                have c1592 : ¬ c0 = (103 : Int32) := (own_b8f c803 c804 (by decide) (by decide) f1588)
                have c1593 : c0 = (97 : Int32) := (own_b8t c803 c804 (by decide) (by decide) f1589)
                have c1594 : ¬ c1 = (110 : Int32) := (own_b8f c820 c821 (by decide) (by decide) f1590)
                exact absurd c1438 c1594
              · obtain ⟨e1595, f1596, f1597, f1598⟩ := o1471
                subst e1595
                have c1599 : ¬ c0 = (103 : Int32) := (own_b8f c803 c804 (by decide) (by decide) f1596)
                have c1600 : ¬ c0 = (97 : Int32) := (own_b8f c803 c804 (by decide) (by decide) f1597)
                exact absurd c1437 c1600
            · refine kICt X902 307 at_299 (XT.ii_ne_t c1439) (by decide) ?_
              refine kAL X902 at_307 rfl rfl ?_
              have f1601 := (Exa.keep f888 f908)
              have f1602 := (Old.keep f891 f908 (allS g847 all0))
              refine kSTAT X902 (gEL G) (argsL := [.ref a844]) (rest := []) (wd G 27 rfl) (wd G 28 rfl) (wd G 29 rfl) (wd G 30 rfl) (by decide) (rm40 l G (ownB c0) (ownB c1) (ownB c2) a844 a905 k906 h895 X902.n f1602 f1601 f910 f912 f913 g847) all0 (fun _ _ _ _ _ q => q.1) (lenOf pd__Ljava_lang_String__Lcom_example_tight_calculus_tightcalculus_Model_Kind_ rfl) rfl (by decide) 0 (Nat.le_of_eq rfl) (by decide) (by decide) (by decide) (by rw [hml]; rfl) at_309 (fun v1603 L1604 T1605 h1606 vm1607 K1608 w1609 q1610 C1611 C1612 X1613 => ?_)
              obtain ⟨n1614, (o1615 | o1616 | o1617 | o1618 | o1619 | o1620 | o1621 | o1622 | o1623 | o1624 | o1625 | o1626 | o1627 | o1628 | o1629 | o1630)⟩ := q1610
              · obtain ⟨e1631, f1632, f1633, f1634, f1635, f1636, f1637, f1638⟩ := o1615
                subst e1631
                have c1639 : c0 = (103 : Int32) := (own_b8t c803 c804 (by decide) (by decide) f1632)
                exact absurd c1639 c918
              · obtain ⟨e1640, f1641, f1642, f1643, f1644, f1645, f1646, f1647⟩ := o1616
                subst e1640
                have c1648 : c0 = (103 : Int32) := (own_b8t c803 c804 (by decide) (by decide) f1641)
                exact absurd c1648 c918
              · obtain ⟨e1649, f1650, f1651, f1652, f1653, f1654, f1655⟩ := o1617
                subst e1649
                have c1656 : c0 = (103 : Int32) := (own_b8t c803 c804 (by decide) (by decide) f1650)
                exact absurd c1656 c918
              · obtain ⟨e1657, f1658, f1659, f1660, f1661, f1662⟩ := o1618
                subst e1657
                have c1663 : c0 = (103 : Int32) := (own_b8t c803 c804 (by decide) (by decide) f1658)
                exact absurd c1663 c918
              · obtain ⟨e1664, f1665, f1666, f1667, f1668, f1669, f1670, f1671⟩ := o1619
                subst e1664
                have c1672 : c0 = (103 : Int32) := (own_b8t c803 c804 (by decide) (by decide) f1665)
                exact absurd c1672 c918
              · obtain ⟨e1673, f1674, f1675, f1676, f1677, f1678, f1679, f1680⟩ := o1620
                subst e1673
                have c1681 : c0 = (103 : Int32) := (own_b8t c803 c804 (by decide) (by decide) f1674)
                exact absurd c1681 c918
              · obtain ⟨e1682, f1683, f1684, f1685, f1686, f1687, f1688⟩ := o1621
                subst e1682
                have c1689 : c0 = (103 : Int32) := (own_b8t c803 c804 (by decide) (by decide) f1683)
                exact absurd c1689 c918
              · obtain ⟨e1690, f1691, f1692, f1693, f1694, f1695⟩ := o1622
                subst e1690
                have c1696 : c0 = (103 : Int32) := (own_b8t c803 c804 (by decide) (by decide) f1691)
                exact absurd c1696 c918
              · obtain ⟨e1697, f1698, f1699, f1700, f1701, f1702, f1703⟩ := o1623
                subst e1697
                have c1704 : c0 = (103 : Int32) := (own_b8t c803 c804 (by decide) (by decide) f1698)
                exact absurd c1704 c918
              · obtain ⟨e1705, f1706, f1707, f1708, f1709, f1710, f1711⟩ := o1624
                subst e1705
                have c1712 : c0 = (103 : Int32) := (own_b8t c803 c804 (by decide) (by decide) f1706)
                exact absurd c1712 c918
              · obtain ⟨e1713, f1714, f1715, f1716, f1717, f1718⟩ := o1625
                subst e1713
                have c1719 : c0 = (103 : Int32) := (own_b8t c803 c804 (by decide) (by decide) f1714)
                exact absurd c1719 c918
              · obtain ⟨e1720, f1721, f1722, f1723, f1724⟩ := o1626
                subst e1720
                have c1725 : c0 = (103 : Int32) := (own_b8t c803 c804 (by decide) (by decide) f1721)
                exact absurd c1725 c918
              · obtain ⟨e1726, f1727, f1728, f1729, f1730, f1731⟩ := o1627
                subst e1726
                have c1732 : ¬ c0 = (103 : Int32) := (own_b8f c803 c804 (by decide) (by decide) f1727)
                have c1733 : c0 = (97 : Int32) := (own_b8t c803 c804 (by decide) (by decide) f1728)
                have c1734 : c1 = (110 : Int32) := (own_b8t c820 c821 (by decide) (by decide) f1729)
                have c1735 : c2 = (100 : Int32) := (own_b8t c837 c838 (by decide) (by decide) f1730)
                exact absurd c1735 c1439
              · obtain ⟨e1736, f1737, f1738, f1739, f1740, f1741⟩ := o1628
                subst e1736
                have c1742 : ¬ c0 = (103 : Int32) := (own_b8f c803 c804 (by decide) (by decide) f1737)
                have c1743 : c0 = (97 : Int32) := (own_b8t c803 c804 (by decide) (by decide) f1738)
                have c1744 : c1 = (110 : Int32) := (own_b8t c820 c821 (by decide) (by decide) f1739)
                have c1745 : ¬ c2 = (100 : Int32) := (own_b8f c837 c838 (by decide) (by decide) f1740)
                show Go _ _ _ _ T1605 (mkF m 312 #[.val (.int i0), .val (.int i1), .val (.int i2), .val (.int i3), .val (.int i4), .val (.int i5), .val (.int (3 : Int32)), .val (.int (1 : Int32)), .val (.int c0), .val (.int c1), .val (.int c2), .val (.int c3), .val (.ref a844), .val .null] [.null])
                refine kAL X1613 at_312 rfl rfl ?_
                refine kACf X1613 at_314 rfl rfl (XT.aa_ne_f rfl) ?_
                refine kIC X1613 (1 : Int32) at_317 (by decide) ?_
                refine kGOTO X1613 322 at_318 (by decide) ?_
                exact kRETZ X1613 (gEL G) (t := .boolean) hret (by simp) at_322 (fun ve hve => ⟨X1613.N, rfl⟩) (by decide) (by decide)
              · obtain ⟨e1746, f1747, f1748, f1749, f1750⟩ := o1629
                subst e1746
                have c1751 : ¬ c0 = (103 : Int32) := (own_b8f c803 c804 (by decide) (by decide) f1747)
                have c1752 : c0 = (97 : Int32) := (own_b8t c803 c804 (by decide) (by decide) f1748)
                have c1753 : ¬ c1 = (110 : Int32) := (own_b8f c820 c821 (by decide) (by decide) f1749)
                exact absurd c1438 c1753
              · obtain ⟨e1754, f1755, f1756, f1757⟩ := o1630
                subst e1754
                have c1758 : ¬ c0 = (103 : Int32) := (own_b8f c803 c804 (by decide) (by decide) f1755)
                have c1759 : ¬ c0 = (97 : Int32) := (own_b8f c803 c804 (by decide) (by decide) f1756)
                exact absurd c1437 c1759
          · refine kICt X902 307 at_292 (XT.ii_ne_t c1438) (by decide) ?_
            refine kAL X902 at_307 rfl rfl ?_
            have f1760 := (Exa.keep f888 f908)
            have f1761 := (Old.keep f891 f908 (allS g847 all0))
            refine kSTAT X902 (gEL G) (argsL := [.ref a844]) (rest := []) (wd G 27 rfl) (wd G 28 rfl) (wd G 29 rfl) (wd G 30 rfl) (by decide) (rm40 l G (ownB c0) (ownB c1) (ownB c2) a844 a905 k906 h895 X902.n f1761 f1760 f910 f912 f913 g847) all0 (fun _ _ _ _ _ q => q.1) (lenOf pd__Ljava_lang_String__Lcom_example_tight_calculus_tightcalculus_Model_Kind_ rfl) rfl (by decide) 0 (Nat.le_of_eq rfl) (by decide) (by decide) (by decide) (by rw [hml]; rfl) at_309 (fun v1762 L1763 T1764 h1765 vm1766 K1767 w1768 q1769 C1770 C1771 X1772 => ?_)
            obtain ⟨n1773, (o1774 | o1775 | o1776 | o1777 | o1778 | o1779 | o1780 | o1781 | o1782 | o1783 | o1784 | o1785 | o1786 | o1787 | o1788 | o1789)⟩ := q1769
            · obtain ⟨e1790, f1791, f1792, f1793, f1794, f1795, f1796, f1797⟩ := o1774
              subst e1790
              have c1798 : c0 = (103 : Int32) := (own_b8t c803 c804 (by decide) (by decide) f1791)
              exact absurd c1798 c918
            · obtain ⟨e1799, f1800, f1801, f1802, f1803, f1804, f1805, f1806⟩ := o1775
              subst e1799
              have c1807 : c0 = (103 : Int32) := (own_b8t c803 c804 (by decide) (by decide) f1800)
              exact absurd c1807 c918
            · obtain ⟨e1808, f1809, f1810, f1811, f1812, f1813, f1814⟩ := o1776
              subst e1808
              have c1815 : c0 = (103 : Int32) := (own_b8t c803 c804 (by decide) (by decide) f1809)
              exact absurd c1815 c918
            · obtain ⟨e1816, f1817, f1818, f1819, f1820, f1821⟩ := o1777
              subst e1816
              have c1822 : c0 = (103 : Int32) := (own_b8t c803 c804 (by decide) (by decide) f1817)
              exact absurd c1822 c918
            · obtain ⟨e1823, f1824, f1825, f1826, f1827, f1828, f1829, f1830⟩ := o1778
              subst e1823
              have c1831 : c0 = (103 : Int32) := (own_b8t c803 c804 (by decide) (by decide) f1824)
              exact absurd c1831 c918
            · obtain ⟨e1832, f1833, f1834, f1835, f1836, f1837, f1838, f1839⟩ := o1779
              subst e1832
              have c1840 : c0 = (103 : Int32) := (own_b8t c803 c804 (by decide) (by decide) f1833)
              exact absurd c1840 c918
            · obtain ⟨e1841, f1842, f1843, f1844, f1845, f1846, f1847⟩ := o1780
              subst e1841
              have c1848 : c0 = (103 : Int32) := (own_b8t c803 c804 (by decide) (by decide) f1842)
              exact absurd c1848 c918
            · obtain ⟨e1849, f1850, f1851, f1852, f1853, f1854⟩ := o1781
              subst e1849
              have c1855 : c0 = (103 : Int32) := (own_b8t c803 c804 (by decide) (by decide) f1850)
              exact absurd c1855 c918
            · obtain ⟨e1856, f1857, f1858, f1859, f1860, f1861, f1862⟩ := o1782
              subst e1856
              have c1863 : c0 = (103 : Int32) := (own_b8t c803 c804 (by decide) (by decide) f1857)
              exact absurd c1863 c918
            · obtain ⟨e1864, f1865, f1866, f1867, f1868, f1869, f1870⟩ := o1783
              subst e1864
              have c1871 : c0 = (103 : Int32) := (own_b8t c803 c804 (by decide) (by decide) f1865)
              exact absurd c1871 c918
            · obtain ⟨e1872, f1873, f1874, f1875, f1876, f1877⟩ := o1784
              subst e1872
              have c1878 : c0 = (103 : Int32) := (own_b8t c803 c804 (by decide) (by decide) f1873)
              exact absurd c1878 c918
            · obtain ⟨e1879, f1880, f1881, f1882, f1883⟩ := o1785
              subst e1879
              have c1884 : c0 = (103 : Int32) := (own_b8t c803 c804 (by decide) (by decide) f1880)
              exact absurd c1884 c918
            · obtain ⟨e1885, f1886, f1887, f1888, f1889, f1890⟩ := o1786
              subst e1885
              have c1891 : ¬ c0 = (103 : Int32) := (own_b8f c803 c804 (by decide) (by decide) f1886)
              have c1892 : c0 = (97 : Int32) := (own_b8t c803 c804 (by decide) (by decide) f1887)
              have c1893 : c1 = (110 : Int32) := (own_b8t c820 c821 (by decide) (by decide) f1888)
              exact absurd c1893 c1438
            · obtain ⟨e1894, f1895, f1896, f1897, f1898, f1899⟩ := o1787
              subst e1894
              have c1900 : ¬ c0 = (103 : Int32) := (own_b8f c803 c804 (by decide) (by decide) f1895)
              have c1901 : c0 = (97 : Int32) := (own_b8t c803 c804 (by decide) (by decide) f1896)
              have c1902 : c1 = (110 : Int32) := (own_b8t c820 c821 (by decide) (by decide) f1897)
              exact absurd c1902 c1438
            · obtain ⟨e1903, f1904, f1905, f1906, f1907⟩ := o1788
              subst e1903
              have c1908 : ¬ c0 = (103 : Int32) := (own_b8f c803 c804 (by decide) (by decide) f1904)
              have c1909 : c0 = (97 : Int32) := (own_b8t c803 c804 (by decide) (by decide) f1905)
              have c1910 : ¬ c1 = (110 : Int32) := (own_b8f c820 c821 (by decide) (by decide) f1906)
              show Go _ _ _ _ T1764 (mkF m 312 #[.val (.int i0), .val (.int i1), .val (.int i2), .val (.int i3), .val (.int i4), .val (.int i5), .val (.int (3 : Int32)), .val (.int (1 : Int32)), .val (.int c0), .val (.int c1), .val (.int c2), .val (.int c3), .val (.ref a844), .val .null] [.null])
              refine kAL X1772 at_312 rfl rfl ?_
              refine kACf X1772 at_314 rfl rfl (XT.aa_ne_f rfl) ?_
              refine kIC X1772 (1 : Int32) at_317 (by decide) ?_
              refine kGOTO X1772 322 at_318 (by decide) ?_
              exact kRETZ X1772 (gEL G) (t := .boolean) hret (by simp) at_322 (fun ve hve => ⟨X1772.N, rfl⟩) (by decide) (by decide)
            · obtain ⟨e1911, f1912, f1913, f1914⟩ := o1789
              subst e1911
              have c1915 : ¬ c0 = (103 : Int32) := (own_b8f c803 c804 (by decide) (by decide) f1912)
              have c1916 : ¬ c0 = (97 : Int32) := (own_b8f c803 c804 (by decide) (by decide) f1913)
              exact absurd c1437 c1916
        · refine kICt X902 307 at_285 (XT.ii_ne_t c1437) (by decide) ?_
          refine kAL X902 at_307 rfl rfl ?_
          have f1917 := (Exa.keep f888 f908)
          have f1918 := (Old.keep f891 f908 (allS g847 all0))
          refine kSTAT X902 (gEL G) (argsL := [.ref a844]) (rest := []) (wd G 27 rfl) (wd G 28 rfl) (wd G 29 rfl) (wd G 30 rfl) (by decide) (rm40 l G (ownB c0) (ownB c1) (ownB c2) a844 a905 k906 h895 X902.n f1918 f1917 f910 f912 f913 g847) all0 (fun _ _ _ _ _ q => q.1) (lenOf pd__Ljava_lang_String__Lcom_example_tight_calculus_tightcalculus_Model_Kind_ rfl) rfl (by decide) 0 (Nat.le_of_eq rfl) (by decide) (by decide) (by decide) (by rw [hml]; rfl) at_309 (fun v1919 L1920 T1921 h1922 vm1923 K1924 w1925 q1926 C1927 C1928 X1929 => ?_)
          obtain ⟨n1930, (o1931 | o1932 | o1933 | o1934 | o1935 | o1936 | o1937 | o1938 | o1939 | o1940 | o1941 | o1942 | o1943 | o1944 | o1945 | o1946)⟩ := q1926
          · obtain ⟨e1947, f1948, f1949, f1950, f1951, f1952, f1953, f1954⟩ := o1931
            subst e1947
            have c1955 : c0 = (103 : Int32) := (own_b8t c803 c804 (by decide) (by decide) f1948)
            exact absurd c1955 c918
          · obtain ⟨e1956, f1957, f1958, f1959, f1960, f1961, f1962, f1963⟩ := o1932
            subst e1956
            have c1964 : c0 = (103 : Int32) := (own_b8t c803 c804 (by decide) (by decide) f1957)
            exact absurd c1964 c918
          · obtain ⟨e1965, f1966, f1967, f1968, f1969, f1970, f1971⟩ := o1933
            subst e1965
            have c1972 : c0 = (103 : Int32) := (own_b8t c803 c804 (by decide) (by decide) f1966)
            exact absurd c1972 c918
          · obtain ⟨e1973, f1974, f1975, f1976, f1977, f1978⟩ := o1934
            subst e1973
            have c1979 : c0 = (103 : Int32) := (own_b8t c803 c804 (by decide) (by decide) f1974)
            exact absurd c1979 c918
          · obtain ⟨e1980, f1981, f1982, f1983, f1984, f1985, f1986, f1987⟩ := o1935
            subst e1980
            have c1988 : c0 = (103 : Int32) := (own_b8t c803 c804 (by decide) (by decide) f1981)
            exact absurd c1988 c918
          · obtain ⟨e1989, f1990, f1991, f1992, f1993, f1994, f1995, f1996⟩ := o1936
            subst e1989
            have c1997 : c0 = (103 : Int32) := (own_b8t c803 c804 (by decide) (by decide) f1990)
            exact absurd c1997 c918
          · obtain ⟨e1998, f1999, f2000, f2001, f2002, f2003, f2004⟩ := o1937
            subst e1998
            have c2005 : c0 = (103 : Int32) := (own_b8t c803 c804 (by decide) (by decide) f1999)
            exact absurd c2005 c918
          · obtain ⟨e2006, f2007, f2008, f2009, f2010, f2011⟩ := o1938
            subst e2006
            have c2012 : c0 = (103 : Int32) := (own_b8t c803 c804 (by decide) (by decide) f2007)
            exact absurd c2012 c918
          · obtain ⟨e2013, f2014, f2015, f2016, f2017, f2018, f2019⟩ := o1939
            subst e2013
            have c2020 : c0 = (103 : Int32) := (own_b8t c803 c804 (by decide) (by decide) f2014)
            exact absurd c2020 c918
          · obtain ⟨e2021, f2022, f2023, f2024, f2025, f2026, f2027⟩ := o1940
            subst e2021
            have c2028 : c0 = (103 : Int32) := (own_b8t c803 c804 (by decide) (by decide) f2022)
            exact absurd c2028 c918
          · obtain ⟨e2029, f2030, f2031, f2032, f2033, f2034⟩ := o1941
            subst e2029
            have c2035 : c0 = (103 : Int32) := (own_b8t c803 c804 (by decide) (by decide) f2030)
            exact absurd c2035 c918
          · obtain ⟨e2036, f2037, f2038, f2039, f2040⟩ := o1942
            subst e2036
            have c2041 : c0 = (103 : Int32) := (own_b8t c803 c804 (by decide) (by decide) f2037)
            exact absurd c2041 c918
          · obtain ⟨e2042, f2043, f2044, f2045, f2046, f2047⟩ := o1943
            subst e2042
            have c2048 : ¬ c0 = (103 : Int32) := (own_b8f c803 c804 (by decide) (by decide) f2043)
            have c2049 : c0 = (97 : Int32) := (own_b8t c803 c804 (by decide) (by decide) f2044)
            exact absurd c2049 c1437
          · obtain ⟨e2050, f2051, f2052, f2053, f2054, f2055⟩ := o1944
            subst e2050
            have c2056 : ¬ c0 = (103 : Int32) := (own_b8f c803 c804 (by decide) (by decide) f2051)
            have c2057 : c0 = (97 : Int32) := (own_b8t c803 c804 (by decide) (by decide) f2052)
            exact absurd c2057 c1437
          · obtain ⟨e2058, f2059, f2060, f2061, f2062⟩ := o1945
            subst e2058
            have c2063 : ¬ c0 = (103 : Int32) := (own_b8f c803 c804 (by decide) (by decide) f2059)
            have c2064 : c0 = (97 : Int32) := (own_b8t c803 c804 (by decide) (by decide) f2060)
            exact absurd c2064 c1437
          · obtain ⟨e2065, f2066, f2067, f2068⟩ := o1946
            subst e2065
            have c2069 : ¬ c0 = (103 : Int32) := (own_b8f c803 c804 (by decide) (by decide) f2066)
            have c2070 : ¬ c0 = (97 : Int32) := (own_b8f c803 c804 (by decide) (by decide) f2067)
            show Go _ _ _ _ T1921 (mkF m 312 #[.val (.int i0), .val (.int i1), .val (.int i2), .val (.int i3), .val (.int i4), .val (.int i5), .val (.int (3 : Int32)), .val (.int (1 : Int32)), .val (.int c0), .val (.int c1), .val (.int c2), .val (.int c3), .val (.ref a844), .val .null] [.null])
            refine kAL X1929 at_312 rfl rfl ?_
            refine kACf X1929 at_314 rfl rfl (XT.aa_ne_f rfl) ?_
            refine kIC X1929 (1 : Int32) at_317 (by decide) ?_
            refine kGOTO X1929 322 at_318 (by decide) ?_
            exact kRETZ X1929 (gEL G) (t := .boolean) hret (by simp) at_322 (fun ve hve => ⟨X1929.N, rfl⟩) (by decide) (by decide)
    · refine kIFt X0 19 at_12 (XT.i0_ne_t c788) (by decide) ?_
      refine kIC X0 (0 : Int32) at_19 (by decide) ?_
      refine kIS X0 #[.val (.int i0), .val (.int i1), .val (.int i2), .val (.int i3), .val (.int i4), .val (.int i5), .val (.int (3 : Int32)), .val (.int (0 : Int32)), .unset, .unset, .unset, .unset, .unset, .unset] at_20 rfl ?_
      refine kILn X0 at_22 rfl ?_
      refine kIL X0 at_23 rfl ?_
      refine kIFt X0 33 at_25 (XT.i0_eq_t (by decide)) (by decide) ?_
      refine kBI X0 (97 : Int32) at_33 (by decide) ?_
      refine kSTAT X0 (gEL G) (argsL := [.int i2, .int (97 : Int32)]) (rest := []) (wd G 1 rfl) (wd G 2 rfl) (wd G 3 rfl) (wd G 4 rfl) (by decide) (rm12 l G i2 h0 X0.n O0 ) all0 (fun _ _ _ _ _ q => q.1) (lenOf pd__IC_C rfl) rfl (by decide) 0 (Nat.le_of_eq rfl) (by decide) (by decide) (by decide) (by rw [hml]; rfl) at_35 (fun v2071 L2072 T2073 h2074 vm2075 K2076 w2077 q2078 C2079 C2080 X2081 => ?_)
      obtain ⟨n2082, ⟨e2083, f2084⟩⟩ := q2078
      subst e2083
      subst f2084
      show Go _ _ _ _ T2073 (mkF m 38 #[.val (.int i0), .val (.int i1), .val (.int i2), .val (.int i3), .val (.int i4), .val (.int i5), .val (.int (3 : Int32)), .val (.int (0 : Int32)), .unset, .unset, .unset, .unset, .unset, .unset] [.int (drV i2 (97 : Int32))])
      obtain ⟨c0, ec0, c2085, c2086⟩ : ∃ c, c = (drV i2 (97 : Int32)) ∧ ¬ (255 : Int32) < c ∧ ¬ c < 0 := ⟨_, rfl, own_drR _ (by decide) (by decide)⟩
      rw [← ec0]
      refine kIS X2081 #[.val (.int i0), .val (.int i1), .val (.int i2), .val (.int i3), .val (.int i4), .val (.int i5), .val (.int (3 : Int32)), .val (.int (0 : Int32)), .val (.int c0), .unset, .unset, .unset, .unset, .unset] at_38 rfl ?_
      refine kILn X2081 at_40 rfl ?_
      refine kIL X2081 at_41 rfl ?_
      refine kIFt X2081 51 at_43 (XT.i0_eq_t (by decide)) (by decide) ?_
      refine kBI X2081 (110 : Int32) at_51 (by decide) ?_
      have f2087 := O0
      refine kSTAT X2081 (gEL G) (argsL := [.int i3, .int (110 : Int32)]) (rest := []) (wd G 1 rfl) (wd G 2 rfl) (wd G 3 rfl) (wd G 4 rfl) (by decide) (rm13 l G i3 h0 X2081.n f2087 ) all0 (fun _ _ _ _ _ q => q.1) (lenOf pd__IC_C rfl) rfl (by decide) 0 (Nat.le_of_eq rfl) (by decide) (by decide) (by decide) (by rw [hml]; rfl) at_53 (fun v2088 L2089 T2090 h2091 vm2092 K2093 w2094 q2095 C2096 C2097 X2098 => ?_)
      obtain ⟨n2099, ⟨e2100, f2101⟩⟩ := q2095
      subst e2100
      subst f2101
      show Go _ _ _ _ T2090 (mkF m 56 #[.val (.int i0), .val (.int i1), .val (.int i2), .val (.int i3), .val (.int i4), .val (.int i5), .val (.int (3 : Int32)), .val (.int (0 : Int32)), .val (.int c0), .unset, .unset, .unset, .unset, .unset] [.int (drV i3 (110 : Int32))])
      obtain ⟨c1, ec1, c2102, c2103⟩ : ∃ c, c = (drV i3 (110 : Int32)) ∧ ¬ (255 : Int32) < c ∧ ¬ c < 0 := ⟨_, rfl, own_drR _ (by decide) (by decide)⟩
      rw [← ec1]
      refine kIS X2098 #[.val (.int i0), .val (.int i1), .val (.int i2), .val (.int i3), .val (.int i4), .val (.int i5), .val (.int (3 : Int32)), .val (.int (0 : Int32)), .val (.int c0), .val (.int c1), .unset, .unset, .unset, .unset] at_56 rfl ?_
      refine kIL X2098 at_58 rfl ?_
      refine kIL X2098 at_60 rfl ?_
      refine kIFt X2098 70 at_62 (XT.i0_eq_t (by decide)) (by decide) ?_
      refine kBI X2098 (100 : Int32) at_70 (by decide) ?_
      have f2104 := f2087
      refine kSTAT X2098 (gEL G) (argsL := [.int i4, .int (100 : Int32)]) (rest := []) (wd G 1 rfl) (wd G 2 rfl) (wd G 3 rfl) (wd G 4 rfl) (by decide) (rm14 l G i4 h0 X2098.n f2104 ) all0 (fun _ _ _ _ _ q => q.1) (lenOf pd__IC_C rfl) rfl (by decide) 0 (Nat.le_of_eq rfl) (by decide) (by decide) (by decide) (by rw [hml]; rfl) at_72 (fun v2105 L2106 T2107 h2108 vm2109 K2110 w2111 q2112 C2113 C2114 X2115 => ?_)
      obtain ⟨n2116, ⟨e2117, f2118⟩⟩ := q2112
      subst e2117
      subst f2118
      show Go _ _ _ _ T2107 (mkF m 75 #[.val (.int i0), .val (.int i1), .val (.int i2), .val (.int i3), .val (.int i4), .val (.int i5), .val (.int (3 : Int32)), .val (.int (0 : Int32)), .val (.int c0), .val (.int c1), .unset, .unset, .unset, .unset] [.int (drV i4 (100 : Int32))])
      obtain ⟨c2, ec2, c2119, c2120⟩ : ∃ c, c = (drV i4 (100 : Int32)) ∧ ¬ (255 : Int32) < c ∧ ¬ c < 0 := ⟨_, rfl, own_drR _ (by decide) (by decide)⟩
      rw [← ec2]
      refine kIS X2115 #[.val (.int i0), .val (.int i1), .val (.int i2), .val (.int i3), .val (.int i4), .val (.int i5), .val (.int (3 : Int32)), .val (.int (0 : Int32)), .val (.int c0), .val (.int c1), .val (.int c2), .unset, .unset, .unset] at_75 rfl ?_
      refine kIL X2115 at_77 rfl ?_
      refine kSI X2115 (255 : Int32) at_79 (by decide) ?_
      refine kIAND X2115 (i5 &&& (255 : Int32)) at_82 rfl ?_
      refine kI2C X2115 (i5 &&& (255 : Int32)) at_83 (i2c_mask _) ?_
      obtain ⟨c3, ec3, c2121, c2122⟩ : ∃ c, c = (i5 &&& (255 : Int32)) ∧ ¬ (255 : Int32) < c ∧ ¬ c < 0 := ⟨_, rfl, own_mask _⟩
      rw [← ec3]
      refine kIS X2115 #[.val (.int i0), .val (.int i1), .val (.int i2), .val (.int i3), .val (.int i4), .val (.int i5), .val (.int (3 : Int32)), .val (.int (0 : Int32)), .val (.int c0), .val (.int c1), .val (.int c2), .val (.int c3), .unset, .unset] at_84 rfl ?_
      refine kIL X2115 at_86 rfl ?_
      refine kIFt X2115 106 at_88 (XT.i0_ne_t (by decide)) (by decide) ?_
      refine kIL X2115 at_106 rfl ?_
      refine kIC X2115 (1 : Int32) at_108 (by decide) ?_
      refine kICt X2115 132 at_109 (XT.ii_ne_t (by decide)) (by decide) ?_
      refine kIL X2115 at_132 rfl ?_
      refine kIC X2115 (2 : Int32) at_134 (by decide) ?_
      refine kICt X2115 163 at_135 (XT.ii_ne_t (by decide)) (by decide) ?_
      refine kIL X2115 at_163 rfl ?_
      refine kIC X2115 (3 : Int32) at_165 (by decide) ?_
      refine kICf X2115 at_166 (XT.ii_ne_f (by decide)) ?_
      refine kNEW X2115 (wd G 5 rfl) (wd G 6 rfl) (wd G 7 rfl) at_169 (by decide) (by decide) (fun T2123 h2124 a2126 E2127 q2128 g2129 A2130 D2131 s2132 X2125 => ?_)
      have g2133 : h0.size ≤ a2126 := q2128 ▸ X2115.g0
      have f2134 : Fld Z h2124 a2126 "java/lang/String" "value" "[B" (.null) := D2131 (Or.inr (wd G 21 rfl)) (ty := (.array (.byte))) (by decide)
      have f2135 : Fld Z h2124 a2126 "java/lang/String" "coder" "B" (.int (0 : Int32)) := D2131 (Or.inr (wd G 22 rfl)) (ty := .byte) (by decide)
      refine kDUP X2125 at_172 rfl ?_
      refine kIC X2125 (3 : Int32) at_173 (by decide) ?_
      refine kNEWP X2125 (wd G 8 rfl) (cap := 3) at_174 (by decide) (by decide) (by decide) (by decide) (by decide) (fun T2136 h2137 a2139 k2140 E2141 q2142 g2143 A2144 s2145 X2138 => ?_)
      have n2146 : a2126 ≠ a2139 := Nat.ne_of_lt (Nat.lt_of_lt_of_le (A2130.lt) (Nat.le_of_eq q2142.symm))
      have g2147 : h0.size ≤ a2139 := q2142 ▸ X2125.g0
      have f2148 : Arv Z h2137 a2139 k2140 .char 3 [.int (0 : Int32), .int (0 : Int32), .int (0 : Int32)] (.int (0 : Int32)) := A2144.pad (pad_rep [] _ 3)
      refine kDUP X2138 at_176 rfl ?_
      refine kIC X2138 (0 : Int32) at_177 (by decide) ?_
      refine kIL X2138 at_178 rfl ?_
      refine kCASTO X2138 f2148 (by decide) 0 c0 (own_nc c2085 c2086) (by decide) (by show 0 < 3; decide) g2143 (Safe.arv X2138.hZ.alike f2148 (by decide)) at_180 (fun T2149 h2150 L2152 W2153 f2154 X2151 => ?_)
      have f2155 : Arv Z h2150 a2139 k2140 .char 3 [.int c0, .int (0 : Int32), .int (0 : Int32)] (.int (0 : Int32)) := f2154
      refine kDUP X2151 at_181 rfl ?_
      refine kIC X2151 (1 : Int32) at_182 (by decide) ?_
      refine kIL X2151 at_183 rfl ?_
      refine kCASTO X2151 f2155 (by decide) 1 c1 (own_nc c2102 c2103) (by decide) (by show 1 < 3; decide) g2143 (Safe.arv X2151.hZ.alike f2155 (by decide)) at_185 (fun T2156 h2157 L2159 W2160 f2161 X2158 => ?_)
      have f2162 : Arv Z h2157 a2139 k2140 .char 3 [.int c0, .int c1, .int (0 : Int32)] (.int (0 : Int32)) := f2161
      refine kDUP X2158 at_186 rfl ?_
      refine kIC X2158 (2 : Int32) at_187 (by decide) ?_
      refine kIL X2158 at_188 rfl ?_
      refine kCASTO X2158 f2162 (by decide) 2 c2 (own_nc c2119 c2120) (by decide) (by show 2 < 3; decide) g2143 (Safe.arv X2158.hZ.alike f2162 (by decide)) at_190 (fun T2163 h2164 L2166 W2167 f2168 X2165 => ?_)
      have f2169 : Arv Z h2164 a2139 k2140 .char 3 [.int c0, .int c1, .int c2] (.int (0 : Int32)) := f2168
      have f2170 := (Exa.wr W2167 (Exa.wr W2160 (Exa.wr W2153 (Exa.ext E2141 A2130))))
      have f2171 := (Fld.other W2167 (Fld.other W2160 (Fld.other W2153 (Fld.ext E2141 f2135) (Or.inl n2146)) (Or.inl n2146)) (Or.inl n2146))
      have f2172 := (Fld.other W2167 (Fld.other W2160 (Fld.other W2153 (Fld.ext E2141 f2134) (Or.inl n2146)) (Or.inl n2146)) (Or.inl n2146))
      have f2173 := (Old.wr (Old.wr (Old.wr (Old.ext (Old.ext f2104 E2127) E2141) W2153 g2143) W2160 g2143) W2167 g2143)
      have f2185 := (Safe.wr W2167 (Safe.arv X2158.hZ.alike f2162 (by decide)) X2158.C.1 (Safe.wr W2160 (Safe.arv X2151.hZ.alike f2155 (by decide)) X2151.C.1 (Safe.wr W2153 (Safe.arv X2138.hZ.alike f2148 (by decide)) X2138.C.1 (Safe.ext E2141 X2125.C.1 s2132))))
      refine kSPEC X2165 (gEL G) (argsL := [.ref a2139]) (rest := [.ref a2126]) (wd G 9 rfl) (wd G 10 rfl) (wd G 7 rfl) (wd G 11 rfl) rfl (by decide) (rm35 l G c0 c1 c2 a2126 a2139 k2140 h2164 X2165.n f2173 f2169 c2085 c2102 c2119 f2170 f2171 f2172 g2129) (allS ⟨(f2170.lt), f2185⟩ all0) (fun _ _ _ _ _ q => q.1) (lenOf pd___C_V rfl) rfl (by decide) 1 (Nat.le_of_eq rfl) (by decide) (by decide) (by decide) (by rw [hml]; rfl) at_191 (fun v2174 L2175 T2176 h2177 vm2178 K2179 w2180 q2181 C2182 C2183 X2184 => ?_)
      obtain ⟨n2186, ⟨a2187, k2188, e2189, f2190, f2191, f2192, f2193, f2194, f2195⟩⟩ := q2181
      subst e2189
      have n2196 : a2126 ≠ a2187 := Nat.ne_of_lt (Nat.lt_of_lt_of_le (f2170.lt) f2191)
      have n2197 : a2139 ≠ a2187 := Nat.ne_of_lt (Nat.lt_of_lt_of_le (f2169.lt) f2191)
      have g2198 : n0 ≤ a2187 := Nat.le_trans X2165.n f2191
      have g2199 : h0.size ≤ a2187 := Nat.le_trans X2165.g0 f2191
      show Go _ _ _ _ T2176 (mkF m 194 #[.val (.int i0), .val (.int i1), .val (.int i2), .val (.int i3), .val (.int i4), .val (.int i5), .val (.int (3 : Int32)), .val (.int (0 : Int32)), .val (.int c0), .val (.int c1), .val (.int c2), .val (.int c3), .unset, .unset] [.ref a2126])
      refine kAS X2184 #[.val (.int i0), .val (.int i1), .val (.int i2), .val (.int i3), .val (.int i4), .val (.int i5), .val (.int (3 : Int32)), .val (.int (0 : Int32)), .val (.int c0), .val (.int c1), .val (.int c2), .val (.int c3), .val (.ref a2126), .unset] at_194 rfl rfl ?_
      refine kGOTO X2184 243 at_196 (by decide) ?_
      refine kNULL X2184 at_243 ?_
      refine kAS X2184 #[.val (.int i0), .val (.int i1), .val (.int i2), .val (.int i3), .val (.int i4), .val (.int i5), .val (.int (3 : Int32)), .val (.int (0 : Int32)), .val (.int c0), .val (.int c1), .val (.int c2), .val (.int c3), .val (.ref a2126), .val .null] at_244 rfl rfl ?_
      refine kIL X2184 at_246 rfl ?_
      refine kIC X2184 (3 : Int32) at_248 (by decide) ?_
      refine kICf X2184 at_249 (XT.ii_ne_f (by decide)) ?_
      refine kIL X2184 at_252 rfl ?_
      refine kBI X2184 (103 : Int32) at_254 (by decide) ?_
      by_cases c2200 : c0 = (103 : Int32)
      · refine kICf X2184 at_256 (XT.ii_ne_f c2200) ?_
        refine kIL X2184 at_259 rfl ?_
        refine kBI X2184 (112 : Int32) at_261 (by decide) ?_
        by_cases c2201 : c1 = (112 : Int32)
        · refine kICf X2184 at_263 (XT.ii_ne_f c2201) ?_
          refine kIL X2184 at_266 rfl ?_
          refine kBI X2184 (99 : Int32) at_268 (by decide) ?_
          by_cases c2202 : c2 = (99 : Int32)
          · refine kICf X2184 at_270 (XT.ii_ne_f c2202) ?_
            have f2205 := (Old.keep f2173 f2190 (allS g2129 all0))
            refine kGETS X2184 (wd G 71 rfl) Via.refl (Sta.ext f2205.2 (S_G G)) at_273 (fun T2203 X2204 => ?_)
            refine kAS X2204 #[.val (.int i0), .val (.int i1), .val (.int i2), .val (.int i3), .val (.int i4), .val (.int i5), .val (.int (3 : Int32)), .val (.int (0 : Int32)), .val (.int c0), .val (.int c1), .val (.int c2), .val (.int c3), .val (.ref a2126), .val (.ref aG)] at_276 rfl rfl ?_
            refine kGOTO X2204 307 at_278 (by decide) ?_
            refine kAL X2204 at_307 rfl rfl ?_
            have f2206 := (Exa.keep f2170 f2190)
            refine kSTAT X2204 (gEL G) (argsL := [.ref a2126]) (rest := []) (wd G 27 rfl) (wd G 28 rfl) (wd G 29 rfl) (wd G 30 rfl) (by decide) (rm40 l G (ownB c0) (ownB c1) (ownB c2) a2126 a2187 k2188 h2177 X2204.n f2205 f2206 f2192 f2194 f2195 g2129) all0 (fun _ _ _ _ _ q => q.1) (lenOf pd__Ljava_lang_String__Lcom_example_tight_calculus_tightcalculus_Model_Kind_ rfl) rfl (by decide) 0 (Nat.le_of_eq rfl) (by decide) (by decide) (by decide) (by rw [hml]; rfl) at_309 (fun v2207 L2208 T2209 h2210 vm2211 K2212 w2213 q2214 C2215 C2216 X2217 => ?_)
            obtain ⟨n2218, (o2219 | o2220 | o2221 | o2222 | o2223 | o2224 | o2225 | o2226 | o2227 | o2228 | o2229 | o2230 | o2231 | o2232 | o2233 | o2234)⟩ := q2214
            · obtain ⟨e2235, f2236, f2237, f2238, f2239, f2240, f2241, f2242⟩ := o2219
              subst e2235
              have c2243 : c0 = (103 : Int32) := (own_b8t c2085 c2086 (by decide) (by decide) f2236)
              have c2244 : c1 = (112 : Int32) := (own_b8t c2102 c2103 (by decide) (by decide) f2237)
              have c2245 : c2 = (99 : Int32) := (own_b8t c2119 c2120 (by decide) (by decide) f2238)
              have c2246 : c0 = (97 : Int32) := (own_b8t c2085 c2086 (by decide) (by decide) f2239)
              exact absurd c2246 (fun q => absurd (Eq.trans (Eq.symm c2200) q) (by decide))
            · obtain ⟨e2247, f2248, f2249, f2250, f2251, f2252, f2253, f2254⟩ := o2220
              subst e2247
              have c2255 : c0 = (103 : Int32) := (own_b8t c2085 c2086 (by decide) (by decide) f2248)
              have c2256 : c1 = (112 : Int32) := (own_b8t c2102 c2103 (by decide) (by decide) f2249)
              have c2257 : c2 = (99 : Int32) := (own_b8t c2119 c2120 (by decide) (by decide) f2250)
              have c2258 : c0 = (97 : Int32) := (own_b8t c2085 c2086 (by decide) (by decide) f2251)
              exact absurd c2258 (fun q => absurd (Eq.trans (Eq.symm c2200) q) (by decide))
            · obtain ⟨e2259, f2260, f2261, f2262, f2263, f2264, f2265⟩ := o2221
              subst e2259
              have c2266 : c0 = (103 : Int32) := (own_b8t c2085 c2086 (by decide) (by decide) f2260)
              have c2267 : c1 = (112 : Int32) := (own_b8t c2102 c2103 (by decide) (by decide) f2261)
              have c2268 : c2 = (99 : Int32) := (own_b8t c2119 c2120 (by decide) (by decide) f2262)
              have c2269 : c0 = (97 : Int32) := (own_b8t c2085 c2086 (by decide) (by decide) f2263)
              exact absurd c2269 (fun q => absurd (Eq.trans (Eq.symm c2200) q) (by decide))
            · obtain ⟨e2270, f2271, f2272, f2273, f2274, f2275⟩ := o2222
              subst e2270
              have c2276 : c0 = (103 : Int32) := (own_b8t c2085 c2086 (by decide) (by decide) f2271)
              have c2277 : c1 = (112 : Int32) := (own_b8t c2102 c2103 (by decide) (by decide) f2272)
              have c2278 : c2 = (99 : Int32) := (own_b8t c2119 c2120 (by decide) (by decide) f2273)
              have c2279 : ¬ c0 = (97 : Int32) := (own_b8f c2085 c2086 (by decide) (by decide) f2274)
              show Go _ _ _ _ T2209 (mkF m 312 #[.val (.int i0), .val (.int i1), .val (.int i2), .val (.int i3), .val (.int i4), .val (.int i5), .val (.int (3 : Int32)), .val (.int (0 : Int32)), .val (.int c0), .val (.int c1), .val (.int c2), .val (.int c3), .val (.ref a2126), .val (.ref aG)] [.ref aG])
              refine kAL X2217 at_312 rfl rfl ?_
              refine kACf X2217 at_314 rfl rfl (XT.aa_ne_f rfl) ?_
              refine kIC X2217 (1 : Int32) at_317 (by decide) ?_
              refine kGOTO X2217 322 at_318 (by decide) ?_
              exact kRETZ X2217 (gEL G) (t := .boolean) hret (by simp) at_322 (fun ve hve => ⟨X2217.N, rfl⟩) (by decide) (by decide)
            · obtain ⟨e2280, f2281, f2282, f2283, f2284, f2285, f2286, f2287⟩ := o2223
              subst e2280
              have c2288 : c0 = (103 : Int32) := (own_b8t c2085 c2086 (by decide) (by decide) f2281)
              have c2289 : c1 = (112 : Int32) := (own_b8t c2102 c2103 (by decide) (by decide) f2282)
              have c2290 : ¬ c2 = (99 : Int32) := (own_b8f c2119 c2120 (by decide) (by decide) f2283)
              exact absurd c2202 c2290
            · obtain ⟨e2291, f2292, f2293, f2294, f2295, f2296, f2297, f2298⟩ := o2224
              subst e2291
              have c2299 : c0 = (103 : Int32) := (own_b8t c2085 c2086 (by decide) (by decide) f2292)
              have c2300 : c1 = (112 : Int32) := (own_b8t c2102 c2103 (by decide) (by decide) f2293)
              have c2301 : ¬ c2 = (99 : Int32) := (own_b8f c2119 c2120 (by decide) (by decide) f2294)
              exact absurd c2202 c2301
            · obtain ⟨e2302, f2303, f2304, f2305, f2306, f2307, f2308⟩ := o2225
              subst e2302
              have c2309 : c0 = (103 : Int32) := (own_b8t c2085 c2086 (by decide) (by decide) f2303)
              have c2310 : c1 = (112 : Int32) := (own_b8t c2102 c2103 (by decide) (by decide) f2304)
              have c2311 : ¬ c2 = (99 : Int32) := (own_b8f c2119 c2120 (by decide) (by decide) f2305)
              exact absurd c2202 c2311
            · obtain ⟨e2312, f2313, f2314, f2315, f2316, f2317⟩ := o2226
              subst e2312
              have c2318 : c0 = (103 : Int32) := (own_b8t c2085 c2086 (by decide) (by decide) f2313)
              have c2319 : c1 = (112 : Int32) := (own_b8t c2102 c2103 (by decide) (by decide) f2314)
              have c2320 : ¬ c2 = (99 : Int32) := (own_b8f c2119 c2120 (by decide) (by decide) f2315)
              exact absurd c2202 c2320
            · obtain ⟨e2321, f2322, f2323, f2324, f2325, f2326, f2327⟩ := o2227
              subst e2321
              have c2328 : c0 = (103 : Int32) := (own_b8t c2085 c2086 (by decide) (by decide) f2322)
              have c2329 : ¬ c1 = (112 : Int32) := (own_b8f c2102 c2103 (by decide) (by decide) f2323)
              exact absurd c2201 c2329
            · obtain ⟨e2330, f2331, f2332, f2333, f2334, f2335, f2336⟩ := o2228
              subst e2330
              have c2337 : c0 = (103 : Int32) := (own_b8t c2085 c2086 (by decide) (by decide) f2331)
              have c2338 : ¬ c1 = (112 : Int32) := (own_b8f c2102 c2103 (by decide) (by decide) f2332)
              exact absurd c2201 c2338
            · obtain ⟨e2339, f2340, f2341, f2342, f2343, f2344⟩ := o2229
              subst e2339
              have c2345 : c0 = (103 : Int32) := (own_b8t c2085 c2086 (by decide) (by decide) f2340)
              have c2346 : ¬ c1 = (112 : Int32) := (own_b8f c2102 c2103 (by decide) (by decide) f2341)
              exact absurd c2201 c2346
            · obtain ⟨e2347, f2348, f2349, f2350, f2351⟩ := o2230
              subst e2347
              have c2352 : c0 = (103 : Int32) := (own_b8t c2085 c2086 (by decide) (by decide) f2348)
              have c2353 : ¬ c1 = (112 : Int32) := (own_b8f c2102 c2103 (by decide) (by decide) f2349)
              exact absurd c2201 c2353
            · obtain ⟨e2354, f2355, f2356, f2357, f2358, f2359⟩ := o2231
              subst e2354
              have c2360 : ¬ c0 = (103 : Int32) := (own_b8f c2085 c2086 (by decide) (by decide) f2355)
              exact absurd c2200 c2360
            · obtain ⟨e2361, f2362, f2363, f2364, f2365, f2366⟩ := o2232
              subst e2361
              have c2367 : ¬ c0 = (103 : Int32) := (own_b8f c2085 c2086 (by decide) (by decide) f2362)
              exact absurd c2200 c2367
            · obtain ⟨e2368, f2369, f2370, f2371, f2372⟩ := o2233
              subst e2368
              have c2373 : ¬ c0 = (103 : Int32) := (own_b8f c2085 c2086 (by decide) (by decide) f2369)
              exact absurd c2200 c2373
            · obtain ⟨e2374, f2375, f2376, f2377⟩ := o2234
              subst e2374
              have c2378 : ¬ c0 = (103 : Int32) := (own_b8f c2085 c2086 (by decide) (by decide) f2375)
              exact absurd c2200 c2378
          · refine kICt X2184 281 at_270 (XT.ii_ne_t c2202) (by decide) ?_
            refine kIL X2184 at_281 rfl ?_
            refine kBI X2184 (97 : Int32) at_283 (by decide) ?_
            refine kICt X2184 307 at_285 (XT.ii_ne_t (fun q => absurd (Eq.trans (Eq.symm c2200) q) (by decide))) (by decide) ?_
            refine kAL X2184 at_307 rfl rfl ?_
            have f2379 := (Exa.keep f2170 f2190)
            have f2380 := (Old.keep f2173 f2190 (allS g2129 all0))
            refine kSTAT X2184 (gEL G) (argsL := [.ref a2126]) (rest := []) (wd G 27 rfl) (wd G 28 rfl) (wd G 29 rfl) (wd G 30 rfl) (by decide) (rm40 l G (ownB c0) (ownB c1) (ownB c2) a2126 a2187 k2188 h2177 X2184.n f2380 f2379 f2192 f2194 f2195 g2129) all0 (fun _ _ _ _ _ q => q.1) (lenOf pd__Ljava_lang_String__Lcom_example_tight_calculus_tightcalculus_Model_Kind_ rfl) rfl (by decide) 0 (Nat.le_of_eq rfl) (by decide) (by decide) (by decide) (by rw [hml]; rfl) at_309 (fun v2381 L2382 T2383 h2384 vm2385 K2386 w2387 q2388 C2389 C2390 X2391 => ?_)
            obtain ⟨n2392, (o2393 | o2394 | o2395 | o2396 | o2397 | o2398 | o2399 | o2400 | o2401 | o2402 | o2403 | o2404 | o2405 | o2406 | o2407 | o2408)⟩ := q2388
            · obtain ⟨e2409, f2410, f2411, f2412, f2413, f2414, f2415, f2416⟩ := o2393
              subst e2409
              have c2417 : c0 = (103 : Int32) := (own_b8t c2085 c2086 (by decide) (by decide) f2410)
              have c2418 : c1 = (112 : Int32) := (own_b8t c2102 c2103 (by decide) (by decide) f2411)
              have c2419 : c2 = (99 : Int32) := (own_b8t c2119 c2120 (by decide) (by decide) f2412)
              exact absurd c2419 c2202
            · obtain ⟨e2420, f2421, f2422, f2423, f2424, f2425, f2426, f2427⟩ := o2394
              subst e2420
              have c2428 : c0 = (103 : Int32) := (own_b8t c2085 c2086 (by decide) (by decide) f2421)
              have c2429 : c1 = (112 : Int32) := (own_b8t c2102 c2103 (by decide) (by decide) f2422)
              have c2430 : c2 = (99 : Int32) := (own_b8t c2119 c2120 (by decide) (by decide) f2423)
              exact absurd c2430 c2202
            · obtain ⟨e2431, f2432, f2433, f2434, f2435, f2436, f2437⟩ := o2395
              subst e2431
              have c2438 : c0 = (103 : Int32) := (own_b8t c2085 c2086 (by decide) (by decide) f2432)
              have c2439 : c1 = (112 : Int32) := (own_b8t c2102 c2103 (by decide) (by decide) f2433)
              have c2440 : c2 = (99 : Int32) := (own_b8t c2119 c2120 (by decide) (by decide) f2434)
              exact absurd c2440 c2202
            · obtain ⟨e2441, f2442, f2443, f2444, f2445, f2446⟩ := o2396
              subst e2441
              have c2447 : c0 = (103 : Int32) := (own_b8t c2085 c2086 (by decide) (by decide) f2442)
              have c2448 : c1 = (112 : Int32) := (own_b8t c2102 c2103 (by decide) (by decide) f2443)
              have c2449 : c2 = (99 : Int32) := (own_b8t c2119 c2120 (by decide) (by decide) f2444)
              exact absurd c2449 c2202
            · obtain ⟨e2450, f2451, f2452, f2453, f2454, f2455, f2456, f2457⟩ := o2397
              subst e2450
              have c2458 : c0 = (103 : Int32) := (own_b8t c2085 c2086 (by decide) (by decide) f2451)
              have c2459 : c1 = (112 : Int32) := (own_b8t c2102 c2103 (by decide) (by decide) f2452)
              have c2460 : ¬ c2 = (99 : Int32) := (own_b8f c2119 c2120 (by decide) (by decide) f2453)
              have c2461 : c0 = (97 : Int32) := (own_b8t c2085 c2086 (by decide) (by decide) f2454)
              exact absurd c2461 (fun q => absurd (Eq.trans (Eq.symm c2200) q) (by decide))
            · obtain ⟨e2462, f2463, f2464, f2465, f2466, f2467, f2468, f2469⟩ := o2398
              subst e2462
              have c2470 : c0 = (103 : Int32) := (own_b8t c2085 c2086 (by decide) (by decide) f2463)
              have c2471 : c1 = (112 : Int32) := (own_b8t c2102 c2103 (by decide) (by decide) f2464)
              have c2472 : ¬ c2 = (99 : Int32) := (own_b8f c2119 c2120 (by decide) (by decide) f2465)
              have c2473 : c0 = (97 : Int32) := (own_b8t c2085 c2086 (by decide) (by decide) f2466)
              exact absurd c2473 (fun q => absurd (Eq.trans (Eq.symm c2200) q) (by decide))
            · obtain ⟨e2474, f2475, f2476, f2477, f2478, f2479, f2480⟩ := o2399
              subst e2474
              have c2481 : c0 = (103 : Int32) := (own_b8t c2085 c2086 (by decide) (by decide) f2475)
              have c2482 : c1 = (112 : Int32) := (own_b8t c2102 c2103 (by decide) (by decide) f2476)
              have c2483 : ¬ c2 = (99 : Int32) := (own_b8f c2119 c2120 (by decide) (by decide) f2477)
              have c2484 : c0 = (97 : Int32) := (own_b8t c2085 c2086 (by decide) (by decide) f2478)
              exact absurd c2484 (fun q => absurd (Eq.trans (Eq.symm c2200) q) (by decide))
            · obtain ⟨e2485, f2486, f2487, f2488, f2489, f2490⟩ := o2400
              subst e2485
              have c2491 : c0 = (103 : Int32) := (own_b8t c2085 c2086 (by decide) (by decide) f2486)
              have c2492 : c1 = (112 : Int32) := (own_b8t c2102 c2103 (by decide) (by decide) f2487)
              have c2493 : ¬ c2 = (99 : Int32) := (own_b8f c2119 c2120 (by decide) (by decide) f2488)
              have c2494 : ¬ c0 = (97 : Int32) := (own_b8f c2085 c2086 (by decide) (by decide) f2489)
              show Go _ _ _ _ T2383 (mkF m 312 #[.val (.int i0), .val (.int i1), .val (.int i2), .val (.int i3), .val (.int i4), .val (.int i5), .val (.int (3 : Int32)), .val (.int (0 : Int32)), .val (.int c0), .val (.int c1), .val (.int c2), .val (.int c3), .val (.ref a2126), .val .null] [.null])
              refine kAL X2391 at_312 rfl rfl ?_
              refine kACf X2391 at_314 rfl rfl (XT.aa_ne_f rfl) ?_
              refine kIC X2391 (1 : Int32) at_317 (by decide) ?_
              refine kGOTO X2391 322 at_318 (by decide) ?_
              exact kRETZ X2391 (gEL G) (t := .boolean) hret (by simp) at_322 (fun ve hve => ⟨X2391.N, rfl⟩) (by decide) (by decide)
            · obtain ⟨e2495, f2496, f2497, f2498, f2499, f2500, f2501⟩ := o2401
              subst e2495
              have c2502 : c0 = (103 : Int32) := (own_b8t c2085 c2086 (by decide) (by decide) f2496)
              have c2503 : ¬ c1 = (112 : Int32) := (own_b8f c2102 c2103 (by decide) (by decide) f2497)
              exact absurd c2201 c2503
            · obtain ⟨e2504, f2505, f2506, f2507, f2508, f2509, f2510⟩ := o2402
              subst e2504
              have c2511 : c0 = (103 : Int32) := (own_b8t c2085 c2086 (by decide) (by decide) f2505)
              have c2512 : ¬ c1 = (112 : Int32) := (own_b8f c2102 c2103 (by decide) (by decide) f2506)
              exact absurd c2201 c2512
            · obtain ⟨e2513, f2514, f2515, f2516, f2517, f2518⟩ := o2403
              subst e2513
              have c2519 : c0 = (103 : Int32) := (own_b8t c2085 c2086 (by decide) (by decide) f2514)
              have c2520 : ¬ c1 = (112 : Int32) := (own_b8f c2102 c2103 (by decide) (by decide) f2515)
              exact absurd c2201 c2520
            · obtain ⟨e2521, f2522, f2523, f2524, f2525⟩ := o2404
              subst e2521
              have c2526 : c0 = (103 : Int32) := (own_b8t c2085 c2086 (by decide) (by decide) f2522)
              have c2527 : ¬ c1 = (112 : Int32) := (own_b8f c2102 c2103 (by decide) (by decide) f2523)
              exact absurd c2201 c2527
            · obtain ⟨e2528, f2529, f2530, f2531, f2532, f2533⟩ := o2405
              subst e2528
              have c2534 : ¬ c0 = (103 : Int32) := (own_b8f c2085 c2086 (by decide) (by decide) f2529)
              exact absurd c2200 c2534
            · obtain ⟨e2535, f2536, f2537, f2538, f2539, f2540⟩ := o2406
              subst e2535
              have c2541 : ¬ c0 = (103 : Int32) := (own_b8f c2085 c2086 (by decide) (by decide) f2536)
              exact absurd c2200 c2541
            · obtain ⟨e2542, f2543, f2544, f2545, f2546⟩ := o2407
              subst e2542
              have c2547 : ¬ c0 = (103 : Int32) := (own_b8f c2085 c2086 (by decide) (by decide) f2543)
              exact absurd c2200 c2547
            · obtain ⟨e2548, f2549, f2550, f2551⟩ := o2408
              subst e2548
              have c2552 : ¬ c0 = (103 : Int32) := (own_b8f c2085 c2086 (by decide) (by decide) f2549)
              exact absurd c2200 c2552
        · refine kICt X2184 281 at_263 (XT.ii_ne_t c2201) (by decide) ?_
          refine kIL X2184 at_281 rfl ?_
          refine kBI X2184 (97 : Int32) at_283 (by decide) ?_
          refine kICt X2184 307 at_285 (XT.ii_ne_t (fun q => absurd (Eq.trans (Eq.symm c2200) q) (by decide))) (by decide) ?_
          refine kAL X2184 at_307 rfl rfl ?_
          have f2553 := (Exa.keep f2170 f2190)
          have f2554 := (Old.keep f2173 f2190 (allS g2129 all0))
          refine kSTAT X2184 (gEL G) (argsL := [.ref a2126]) (rest := []) (wd G 27 rfl) (wd G 28 rfl) (wd G 29 rfl) (wd G 30 rfl) (by decide) (rm40 l G (ownB c0) (ownB c1) (ownB c2) a2126 a2187 k2188 h2177 X2184.n f2554 f2553 f2192 f2194 f2195 g2129) all0 (fun _ _ _ _ _ q => q.1) (lenOf pd__Ljava_lang_String__Lcom_example_tight_calculus_tightcalculus_Model_Kind_ rfl) rfl (by decide) 0 (Nat.le_of_eq rfl) (by decide) (by decide) (by decide) (by rw [hml]; rfl) at_309 (fun v2555 L2556 T2557 h2558 vm2559 K2560 w2561 q2562 C2563 C2564 X2565 => ?_)
          obtain ⟨n2566, (o2567 | o2568 | o2569 | o2570 | o2571 | o2572 | o2573 | o2574 | o2575 | o2576 | o2577 | o2578 | o2579 | o2580 | o2581 | o2582)⟩ := q2562
          · obtain ⟨e2583, f2584, f2585, f2586, f2587, f2588, f2589, f2590⟩ := o2567
            subst e2583
            have c2591 : c0 = (103 : Int32) := (own_b8t c2085 c2086 (by decide) (by decide) f2584)
            have c2592 : c1 = (112 : Int32) := (own_b8t c2102 c2103 (by decide) (by decide) f2585)
            exact absurd c2592 c2201
          · obtain ⟨e2593, f2594, f2595, f2596, f2597, f2598, f2599, f2600⟩ := o2568
            subst e2593
            have c2601 : c0 = (103 : Int32) := (own_b8t c2085 c2086 (by decide) (by decide) f2594)
            have c2602 : c1 = (112 : Int32) := (own_b8t c2102 c2103 (by decide) (by decide) f2595)
            exact absurd c2602 c2201
          · obtain ⟨e2603, f2604, f2605, f2606, f2607, f2608, f2609⟩ := o2569
            subst e2603
            have c2610 : c0 = (103 : Int32) := (own_b8t c2085 c2086 (by decide) (by decide) f2604)
            have c2611 : c1 = (112 : Int32) := (own_b8t c2102 c2103 (by decide) (by decide) f2605)
            exact absurd c2611 c2201
          · obtain ⟨e2612, f2613, f2614, f2615, f2616, f2617⟩ := o2570
            subst e2612
            have c2618 : c0 = (103 : Int32) := (own_b8t c2085 c2086 (by decide) (by decide) f2613)
            have c2619 : c1 = (112 : Int32) := (own_b8t c2102 c2103 (by decide) (by decide) f2614)
            exact absurd c2619 c2201
          · obtain ⟨e2620, f2621, f2622, f2623, f2624, f2625, f2626, f2627⟩ := o2571
            subst e2620
            have c2628 : c0 = (103 : Int32) := (own_b8t c2085 c2086 (by decide) (by decide) f2621)
            have c2629 : c1 = (112 : Int32) := (own_b8t c2102 c2103 (by decide) (by decide) f2622)
            exact absurd c2629 c2201
          · obtain ⟨e2630, f2631, f2632, f2633, f2634, f2635, f2636, f2637⟩ := o2572
            subst e2630
            have c2638 : c0 = (103 : Int32) := (own_b8t c2085 c2086 (by decide) (by decide) f2631)
            have c2639 : c1 = (112 : Int32) := (own_b8t c2102 c2103 (by decide) (by decide) f2632)
            exact absurd c2639 c2201
          · obtain ⟨e2640, f2641, f2642, f2643, f2644, f2645, f2646⟩ := o2573
            subst e2640
            have c2647 : c0 = (103 : Int32) := (own_b8t c2085 c2086 (by decide) (by decide) f2641)
            have c2648 : c1 = (112 : Int32) := (own_b8t c2102 c2103 (by decide) (by decide) f2642)
            exact absurd c2648 c2201
          · obtain ⟨e2649, f2650, f2651, f2652, f2653, f2654⟩ := o2574
            subst e2649
            have c2655 : c0 = (103 : Int32) := (own_b8t c2085 c2086 (by decide) (by decide) f2650)
            have c2656 : c1 = (112 : Int32) := (own_b8t c2102 c2103 (by decide) (by decide) f2651)
            exact absurd c2656 c2201
          · obtain ⟨e2657, f2658, f2659, f2660, f2661, f2662, f2663⟩ := o2575
            subst e2657
            have c2664 : c0 = (103 : Int32) := (own_b8t c2085 c2086 (by decide) (by decide) f2658)
            have c2665 : ¬ c1 = (112 : Int32) := (own_b8f c2102 c2103 (by decide) (by decide) f2659)
            have c2666 : c0 = (97 : Int32) := (own_b8t c2085 c2086 (by decide) (by decide) f2660)
            exact absurd c2666 (fun q => absurd (Eq.trans (Eq.symm c2200) q) (by decide))
          · obtain ⟨e2667, f2668, f2669, f2670, f2671, f2672, f2673⟩ := o2576
            subst e2667
            have c2674 : c0 = (103 : Int32) := (own_b8t c2085 c2086 (by decide) (by decide) f2668)
            have c2675 : ¬ c1 = (112 : Int32) := (own_b8f c2102 c2103 (by decide) (by decide) f2669)
            have c2676 : c0 = (97 : Int32) := (own_b8t c2085 c2086 (by decide) (by decide) f2670)
            exact absurd c2676 (fun q => absurd (Eq.trans (Eq.symm c2200) q) (by decide))
          · obtain ⟨e2677, f2678, f2679, f2680, f2681, f2682⟩ := o2577
            subst e2677
            have c2683 : c0 = (103 : Int32) := (own_b8t c2085 c2086 (by decide) (by decide) f2678)
            have c2684 : ¬ c1 = (112 : Int32) := (own_b8f c2102 c2103 (by decide) (by decide) f2679)
            have c2685 : c0 = (97 : Int32) := (own_b8t c2085 c2086 (by decide) (by decide) f2680)
            exact absurd c2685 (fun q => absurd (Eq.trans (Eq.symm c2200) q) (by decide))
          · obtain ⟨e2686, f2687, f2688, f2689, f2690⟩ := o2578
            subst e2686
            have c2691 : c0 = (103 : Int32) := (own_b8t c2085 c2086 (by decide) (by decide) f2687)
            have c2692 : ¬ c1 = (112 : Int32) := (own_b8f c2102 c2103 (by decide) (by decide) f2688)
            have c2693 : ¬ c0 = (97 : Int32) := (own_b8f c2085 c2086 (by decide) (by decide) f2689)
            show Go _ _ _ _ T2557 (mkF m 312 #[.val (.int i0), .val (.int i1), .val (.int i2), .val (.int i3), .val (.int i4), .val (.int i5), .val (.int (3 : Int32)), .val (.int (0 : Int32)), .val (.int c0), .val (.int c1), .val (.int c2), .val (.int c3), .val (.ref a2126), .val .null] [.null])
            refine kAL X2565 at_312 rfl rfl ?_
            refine kACf X2565 at_314 rfl rfl (XT.aa_ne_f rfl) ?_
            refine kIC X2565 (1 : Int32) at_317 (by decide) ?_
            refine kGOTO X2565 322 at_318 (by decide) ?_
            exact kRETZ X2565 (gEL G) (t := .boolean) hret (by simp) at_322 (fun ve hve => ⟨X2565.N, rfl⟩) (by decide) (by decide)
          · obtain ⟨e2694, f2695, f2696, f2697, f2698, f2699⟩ := o2579
            subst e2694
            have c2700 : ¬ c0 = (103 : Int32) := (own_b8f c2085 c2086 (by decide) (by decide) f2695)
            exact absurd c2200 c2700
          · obtain ⟨e2701, f2702, f2703, f2704, f2705, f2706⟩ := o2580
            subst e2701
            have c2707 : ¬ c0 = (103 : Int32) := (own_b8f c2085 c2086 (by decide) (by decide) f2702)
            exact absurd c2200 c2707
          · obtain ⟨e2708, f2709, f2710, f2711, f2712⟩ := o2581
            subst e2708
            have c2713 : ¬ c0 = (103 : Int32) := (own_b8f c2085 c2086 (by decide) (by decide) f2709)
            exact absurd c2200 c2713
          · obtain ⟨e2714, f2715, f2716, f2717⟩ := o2582
            subst e2714
            have c2718 : ¬ c0 = (103 : Int32) := (own_b8f c2085 c2086 (by decide) (by decide) f2715)
            exact absurd c2200 c2718
      · refine kICt X2184 281 at_256 (XT.ii_ne_t c2200) (by decide) ?_
        refine kIL X2184 at_281 rfl ?_
        refine kBI X2184 (97 : Int32) at_283 (by decide) ?_
        by_cases c2719 : c0 = (97 : Int32)
        · refine kICf X2184 at_285 (XT.ii_ne_f c2719) ?_
          refine kIL X2184 at_288 rfl ?_
          refine kBI X2184 (110 : Int32) at_290 (by decide) ?_
          by_cases c2720 : c1 = (110 : Int32)
          · refine kICf X2184 at_292 (XT.ii_ne_f c2720) ?_
            refine kIL X2184 at_295 rfl ?_
            refine kBI X2184 (100 : Int32) at_297 (by decide) ?_
            by_cases c2721 : c2 = (100 : Int32)
            · refine kICf X2184 at_299 (XT.ii_ne_f c2721) ?_
              have f2724 := (Old.keep f2173 f2190 (allS g2129 all0))
              refine kGETS X2184 (wd G 72 rfl) Via.refl (Sta.ext f2724.2 (S_N G)) at_302 (fun T2722 X2723 => ?_)
              refine kAS X2723 #[.val (.int i0), .val (.int i1), .val (.int i2), .val (.int i3), .val (.int i4), .val (.int i5), .val (.int (3 : Int32)), .val (.int (0 : Int32)), .val (.int c0), .val (.int c1), .val (.int c2), .val (.int c3), .val (.ref a2126), .val (.ref aN)] at_305 rfl rfl ?_
              refine kAL X2723 at_307 rfl rfl ?_
              have f2725 := (Exa.keep f2170 f2190)
              refine kSTAT X2723 (gEL G) (argsL := [.ref a2126]) (rest := []) (wd G 27 rfl) (wd G 28 rfl) (wd G 29 rfl) (wd G 30 rfl) (by decide) (rm40 l G (ownB c0) (ownB c1) (ownB c2) a2126 a2187 k2188 h2177 X2723.n f2724 f2725 f2192 f2194 f2195 g2129) all0 (fun _ _ _ _ _ q => q.1) (lenOf pd__Ljava_lang_String__Lcom_example_tight_calculus_tightcalculus_Model_Kind_ rfl) rfl (by decide) 0 (Nat.le_of_eq rfl) (by decide) (by decide) (by decide) (by rw [hml]; rfl) at_309 (fun v2726 L2727 T2728 h2729 vm2730 K2731 w2732 q2733 C2734 C2735 X2736 => ?_)
              obtain ⟨n2737, (o2738 | o2739 | o2740 | o2741 | o2742 | o2743 | o2744 | o2745 | o2746 | o2747 | o2748 | o2749 | o2750 | o2751 | o2752 | o2753)⟩ := q2733
              · obtain ⟨e2754, f2755, f2756, f2757, f2758, f2759, f2760, f2761⟩ := o2738
                subst e2754
                have c2762 : c0 = (103 : Int32) := (own_b8t c2085 c2086 (by decide) (by decide) f2755)
                exact absurd c2762 c2200
              · obtain ⟨e2763, f2764, f2765, f2766, f2767, f2768, f2769, f2770⟩ := o2739
                subst e2763
                have c2771 : c0 = (103 : Int32) := (own_b8t c2085 c2086 (by decide) (by decide) f2764)
                exact absurd c2771 c2200
              · obtain ⟨e2772, f2773, f2774, f2775, f2776, f2777, f2778⟩ := o2740
                subst e2772
                have c2779 : c0 = (103 : Int32) := (own_b8t c2085 c2086 (by decide) (by decide) f2773)
                exact absurd c2779 c2200
              · obtain ⟨e2780, f2781, f2782, f2783, f2784, f2785⟩ := o2741
                subst e2780
                have c2786 : c0 = (103 : Int32) := (own_b8t c2085 c2086 (by decide) (by decide) f2781)
                exact absurd c2786 c2200
              · obtain ⟨e2787, f2788, f2789, f2790, f2791, f2792, f2793, f2794⟩ := o2742
                subst e2787
                have c2795 : c0 = (103 : Int32) := (own_b8t c2085 c2086 (by decide) (by decide) f2788)
                exact absurd c2795 c2200
              · obtain ⟨e2796, f2797, f2798, f2799, f2800, f2801, f2802, f2803⟩ := o2743
                subst e2796
                have c2804 : c0 = (103 : Int32) := (own_b8t c2085 c2086 (by decide) (by decide) f2797)
                exact absurd c2804 c2200
              · obtain ⟨e2805, f2806, f2807, f2808, f2809, f2810, f2811⟩ := o2744
                subst e2805
                have c2812 : c0 = (103 : Int32) := (own_b8t c2085 c2086 (by decide) (by decide) f2806)
                exact absurd c2812 c2200
              · obtain ⟨e2813, f2814, f2815, f2816, f2817, f2818⟩ := o2745
                subst e2813
                have c2819 : c0 = (103 : Int32) := (own_b8t c2085 c2086 (by decide) (by decide) f2814)
                exact absurd c2819 c2200
              · obtain ⟨e2820, f2821, f2822, f2823, f2824, f2825, f2826⟩ := o2746
                subst e2820
                have c2827 : c0 = (103 : Int32) := (own_b8t c2085 c2086 (by decide) (by decide) f2821)
                exact absurd c2827 c2200
              · obtain ⟨e2828, f2829, f2830, f2831, f2832, f2833, f2834⟩ := o2747
                subst e2828
                have c2835 : c0 = (103 : Int32) := (own_b8t c2085 c2086 (by decide) (by decide) f2829)
                exact absurd c2835 c2200
              · obtain ⟨e2836, f2837, f2838, f2839, f2840, f2841⟩ := o2748
                subst e2836
                have c2842 : c0 = (103 : Int32) := (own_b8t c2085 c2086 (by decide) (by decide) f2837)
                exact absurd c2842 c2200
              · obtain ⟨e2843, f2844, f2845, f2846, f2847⟩ := o2749
                subst e2843
                have c2848 : c0 = (103 : Int32) := (own_b8t c2085 c2086 (by decide) (by decide) f2844)
                exact absurd c2848 c2200
              · obtain ⟨e2849, f2850, f2851, f2852, f2853, f2854⟩ := o2750
                subst e2849
                have c2855 : ¬ c0 = (103 : Int32) := (own_b8f c2085 c2086 (by decide) (by decide) f2850)
                have c2856 : c0 = (97 : Int32) := (own_b8t c2085 c2086 (by decide) (by decide) f2851)
                have c2857 : c1 = (110 : Int32) := (own_b8t c2102 c2103 (by decide) (by decide) f2852)
                have c2858 : c2 = (100 : Int32) := (own_b8t c2119 c2120 (by decide) (by decide) f2853)
                show Go _ _ _ _ T2728 (mkF m 312 #[.val (.int i0), .val (.int i1), .val (.int i2), .val (.int i3), .val (.int i4), .val (.int i5), .val (.int (3 : Int32)), .val (.int (0 : Int32)), .val (.int c0), .val (.int c1), .val (.int c2), .val (.int c3), .val (.ref a2126), .val (.ref aN)] [.ref aN])
                refine kAL X2736 at_312 rfl rfl ?_
                refine kACf X2736 at_314 rfl rfl (XT.aa_ne_f rfl) ?_
                refine kIC X2736 (1 : Int32) at_317 (by decide) ?_
                refine kGOTO X2736 322 at_318 (by decide) ?_
                exact kRETZ X2736 (gEL G) (t := .boolean) hret (by simp) at_322 (fun ve hve => ⟨X2736.N, rfl⟩) (by decide) (by decide)
              · obtain ⟨e2859, f2860, f2861, f2862, f2863, f2864⟩ := o2751
                subst e2859
                have c2865 : ¬ c0 = (103 : Int32) := (own_b8f c2085 c2086 (by decide) (by decide) f2860)
                have c2866 : c0 = (97 : Int32) := (own_b8t c2085 c2086 (by decide) (by decide) f2861)
                have c2867 : c1 = (110 : Int32) := (own_b8t c2102 c2103 (by decide) (by decide) f2862)
                have c2868 : ¬ c2 = (100 : Int32) := (own_b8f c2119 c2120 (by decide) (by decide) f2863)
                exact absurd c2721 c2868
              · obtain ⟨e2869, f2870, f2871, f2872, f2873⟩ := o2752
                subst e2869
                have c2874 : ¬ c0 = (103 : Int32) := (own_b8f c2085 c2086 (by decide) (by decide) f2870)
                have c2875 : c0 = (97 : Int32) := (own_b8t c2085 c2086 (by decide) (by decide) f2871)
                have c2876 : ¬ c1 = (110 : Int32) := (own_b8f c2102 c2103 (by decide) (by decide) f2872)
                exact absurd c2720 c2876
              · obtain ⟨e2877, f2878, f2879, f2880⟩ := o2753
                subst e2877
                have c2881 : ¬ c0 = (103 : Int32) := (own_b8f c2085 c2086 (by decide) (by decide) f2878)
                have c2882 : ¬ c0 = (97 : Int32) := (own_b8f c2085 c2086 (by decide) (by decide) f2879)
                exact absurd c2719 c2882
            · refine kICt X2184 307 at_299 (XT.ii_ne_t c2721) (by decide) ?_
              refine kAL X2184 at_307 rfl rfl ?_
              have f2883 := (Exa.keep f2170 f2190)
              have f2884 := (Old.keep f2173 f2190 (allS g2129 all0))
              refine kSTAT X2184 (gEL G) (argsL := [.ref a2126]) (rest := []) (wd G 27 rfl) (wd G 28 rfl) (wd G 29 rfl) (wd G 30 rfl) (by decide) (rm40 l G (ownB c0) (ownB c1) (ownB c2) a2126 a2187 k2188 h2177 X2184.n f2884 f2883 f2192 f2194 f2195 g2129) all0 (fun _ _ _ _ _ q => q.1) (lenOf pd__Ljava_lang_String__Lcom_example_tight_calculus_tightcalculus_Model_Kind_ rfl) rfl (by decide) 0 (Nat.le_of_eq rfl) (by decide) (by decide) (by decide) (by rw [hml]; rfl) at_309 (fun v2885 L2886 T2887 h2888 vm2889 K2890 w2891 q2892 C2893 C2894 X2895 => ?_)
              obtain ⟨n2896, (o2897 | o2898 | o2899 | o2900 | o2901 | o2902 | o2903 | o2904 | o2905 | o2906 | o2907 | o2908 | o2909 | o2910 | o2911 | o2912)⟩ := q2892
              · obtain ⟨e2913, f2914, f2915, f2916, f2917, f2918, f2919, f2920⟩ := o2897
                subst e2913
                have c2921 : c0 = (103 : Int32) := (own_b8t c2085 c2086 (by decide) (by decide) f2914)
                exact absurd c2921 c2200
              · obtain ⟨e2922, f2923, f2924, f2925, f2926, f2927, f2928, f2929⟩ := o2898
                subst e2922
                have c2930 : c0 = (103 : Int32) := (own_b8t c2085 c2086 (by decide) (by decide) f2923)
                exact absurd c2930 c2200
              · obtain ⟨e2931, f2932, f2933, f2934, f2935, f2936, f2937⟩ := o2899
                subst e2931
                have c2938 : c0 = (103 : Int32) := (own_b8t c2085 c2086 (by decide) (by decide) f2932)
                exact absurd c2938 c2200
              · obtain ⟨e2939, f2940, f2941, f2942, f2943, f2944⟩ := o2900
                subst e2939
                have c2945 : c0 = (103 : Int32) := (own_b8t c2085 c2086 (by decide) (by decide) f2940)
                exact absurd c2945 c2200
              · obtain ⟨e2946, f2947, f2948, f2949, f2950, f2951, f2952, f2953⟩ := o2901
                subst e2946
                have c2954 : c0 = (103 : Int32) := (own_b8t c2085 c2086 (by decide) (by decide) f2947)
                exact absurd c2954 c2200
              · obtain ⟨e2955, f2956, f2957, f2958, f2959, f2960, f2961, f2962⟩ := o2902
                subst e2955
                have c2963 : c0 = (103 : Int32) := (own_b8t c2085 c2086 (by decide) (by decide) f2956)
                exact absurd c2963 c2200
              · obtain ⟨e2964, f2965, f2966, f2967, f2968, f2969, f2970⟩ := o2903
                subst e2964
                have c2971 : c0 = (103 : Int32) := (own_b8t c2085 c2086 (by decide) (by decide) f2965)
                exact absurd c2971 c2200
              · obtain ⟨e2972, f2973, f2974, f2975, f2976, f2977⟩ := o2904
                subst e2972
                have c2978 : c0 = (103 : Int32) := (own_b8t c2085 c2086 (by decide) (by decide) f2973)
                exact absurd c2978 c2200
              · obtain ⟨e2979, f2980, f2981, f2982, f2983, f2984, f2985⟩ := o2905
                subst e2979
                have c2986 : c0 = (103 : Int32) := (own_b8t c2085 c2086 (by decide) (by decide) f2980)
                exact absurd c2986 c2200
              · obtain ⟨e2987, f2988, f2989, f2990, f2991, f2992, f2993⟩ := o2906
                subst e2987
                have c2994 : c0 = (103 : Int32) := (own_b8t c2085 c2086 (by decide) (by decide) f2988)
                exact absurd c2994 c2200
              · obtain ⟨e2995, f2996, f2997, f2998, f2999, f3000⟩ := o2907
                subst e2995
                have c3001 : c0 = (103 : Int32) := (own_b8t c2085 c2086 (by decide) (by decide) f2996)
                exact absurd c3001 c2200
              · obtain ⟨e3002, f3003, f3004, f3005, f3006⟩ := o2908
                subst e3002
                have c3007 : c0 = (103 : Int32) := (own_b8t c2085 c2086 (by decide) (by decide) f3003)
                exact absurd c3007 c2200
              · obtain ⟨e3008, f3009, f3010, f3011, f3012, f3013⟩ := o2909
                subst e3008
                have c3014 : ¬ c0 = (103 : Int32) := (own_b8f c2085 c2086 (by decide) (by decide) f3009)
                have c3015 : c0 = (97 : Int32) := (own_b8t c2085 c2086 (by decide) (by decide) f3010)
                have c3016 : c1 = (110 : Int32) := (own_b8t c2102 c2103 (by decide) (by decide) f3011)
                have c3017 : c2 = (100 : Int32) := (own_b8t c2119 c2120 (by decide) (by decide) f3012)
                exact absurd c3017 c2721
              · obtain ⟨e3018, f3019, f3020, f3021, f3022, f3023⟩ := o2910
                subst e3018
                have c3024 : ¬ c0 = (103 : Int32) := (own_b8f c2085 c2086 (by decide) (by decide) f3019)
                have c3025 : c0 = (97 : Int32) := (own_b8t c2085 c2086 (by decide) (by decide) f3020)
                have c3026 : c1 = (110 : Int32) := (own_b8t c2102 c2103 (by decide) (by decide) f3021)
                have c3027 : ¬ c2 = (100 : Int32) := (own_b8f c2119 c2120 (by decide) (by decide) f3022)
                show Go _ _ _ _ T2887 (mkF m 312 #[.val (.int i0), .val (.int i1), .val (.int i2), .val (.int i3), .val (.int i4), .val (.int i5), .val (.int (3 : Int32)), .val (.int (0 : Int32)), .val (.int c0), .val (.int c1), .val (.int c2), .val (.int c3), .val (.ref a2126), .val .null] [.null])
                refine kAL X2895 at_312 rfl rfl ?_
                refine kACf X2895 at_314 rfl rfl (XT.aa_ne_f rfl) ?_
                refine kIC X2895 (1 : Int32) at_317 (by decide) ?_
                refine kGOTO X2895 322 at_318 (by decide) ?_
                exact kRETZ X2895 (gEL G) (t := .boolean) hret (by simp) at_322 (fun ve hve => ⟨X2895.N, rfl⟩) (by decide) (by decide)
              · obtain ⟨e3028, f3029, f3030, f3031, f3032⟩ := o2911
                subst e3028
                have c3033 : ¬ c0 = (103 : Int32) := (own_b8f c2085 c2086 (by decide) (by decide) f3029)
                have c3034 : c0 = (97 : Int32) := (own_b8t c2085 c2086 (by decide) (by decide) f3030)
                have c3035 : ¬ c1 = (110 : Int32) := (own_b8f c2102 c2103 (by decide) (by decide) f3031)
                exact absurd c2720 c3035
              · obtain ⟨e3036, f3037, f3038, f3039⟩ := o2912
                subst e3036
                have c3040 : ¬ c0 = (103 : Int32) := (own_b8f c2085 c2086 (by decide) (by decide) f3037)
                have c3041 : ¬ c0 = (97 : Int32) := (own_b8f c2085 c2086 (by decide) (by decide) f3038)
                exact absurd c2719 c3041
          · refine kICt X2184 307 at_292 (XT.ii_ne_t c2720) (by decide) ?_
            refine kAL X2184 at_307 rfl rfl ?_
            have f3042 := (Exa.keep f2170 f2190)
            have f3043 := (Old.keep f2173 f2190 (allS g2129 all0))
            refine kSTAT X2184 (gEL G) (argsL := [.ref a2126]) (rest := []) (wd G 27 rfl) (wd G 28 rfl) (wd G 29 rfl) (wd G 30 rfl) (by decide) (rm40 l G (ownB c0) (ownB c1) (ownB c2) a2126 a2187 k2188 h2177 X2184.n f3043 f3042 f2192 f2194 f2195 g2129) all0 (fun _ _ _ _ _ q => q.1) (lenOf pd__Ljava_lang_String__Lcom_example_tight_calculus_tightcalculus_Model_Kind_ rfl) rfl (by decide) 0 (Nat.le_of_eq rfl) (by decide) (by decide) (by decide) (by rw [hml]; rfl) at_309 (fun v3044 L3045 T3046 h3047 vm3048 K3049 w3050 q3051 C3052 C3053 X3054 => ?_)
            obtain ⟨n3055, (o3056 | o3057 | o3058 | o3059 | o3060 | o3061 | o3062 | o3063 | o3064 | o3065 | o3066 | o3067 | o3068 | o3069 | o3070 | o3071)⟩ := q3051
            · obtain ⟨e3072, f3073, f3074, f3075, f3076, f3077, f3078, f3079⟩ := o3056
              subst e3072
              have c3080 : c0 = (103 : Int32) := (own_b8t c2085 c2086 (by decide) (by decide) f3073)
              exact absurd c3080 c2200
            · obtain ⟨e3081, f3082, f3083, f3084, f3085, f3086, f3087, f3088⟩ := o3057
              subst e3081
              have c3089 : c0 = (103 : Int32) := (own_b8t c2085 c2086 (by decide) (by decide) f3082)
              exact absurd c3089 c2200
            · obtain ⟨e3090, f3091, f3092, f3093, f3094, f3095, f3096⟩ := o3058
              subst e3090
              have c3097 : c0 = (103 : Int32) := (own_b8t c2085 c2086 (by decide) (by decide) f3091)
              exact absurd c3097 c2200
            · obtain ⟨e3098, f3099, f3100, f3101, f3102, f3103⟩ := o3059
              subst e3098
              have c3104 : c0 = (103 : Int32) := (own_b8t c2085 c2086 (by decide) (by decide) f3099)
              exact absurd c3104 c2200
            · obtain ⟨e3105, f3106, f3107, f3108, f3109, f3110, f3111, f3112⟩ := o3060
              subst e3105
              have c3113 : c0 = (103 : Int32) := (own_b8t c2085 c2086 (by decide) (by decide) f3106)
              exact absurd c3113 c2200
            · obtain ⟨e3114, f3115, f3116, f3117, f3118, f3119, f3120, f3121⟩ := o3061
              subst e3114
              have c3122 : c0 = (103 : Int32) := (own_b8t c2085 c2086 (by decide) (by decide) f3115)
              exact absurd c3122 c2200
            · obtain ⟨e3123, f3124, f3125, f3126, f3127, f3128, f3129⟩ := o3062
              subst e3123
              have c3130 : c0 = (103 : Int32) := (own_b8t c2085 c2086 (by decide) (by decide) f3124)
              exact absurd c3130 c2200
            · obtain ⟨e3131, f3132, f3133, f3134, f3135, f3136⟩ := o3063
              subst e3131
              have c3137 : c0 = (103 : Int32) := (own_b8t c2085 c2086 (by decide) (by decide) f3132)
              exact absurd c3137 c2200
            · obtain ⟨e3138, f3139, f3140, f3141, f3142, f3143, f3144⟩ := o3064
              subst e3138
              have c3145 : c0 = (103 : Int32) := (own_b8t c2085 c2086 (by decide) (by decide) f3139)
              exact absurd c3145 c2200
            · obtain ⟨e3146, f3147, f3148, f3149, f3150, f3151, f3152⟩ := o3065
              subst e3146
              have c3153 : c0 = (103 : Int32) := (own_b8t c2085 c2086 (by decide) (by decide) f3147)
              exact absurd c3153 c2200
            · obtain ⟨e3154, f3155, f3156, f3157, f3158, f3159⟩ := o3066
              subst e3154
              have c3160 : c0 = (103 : Int32) := (own_b8t c2085 c2086 (by decide) (by decide) f3155)
              exact absurd c3160 c2200
            · obtain ⟨e3161, f3162, f3163, f3164, f3165⟩ := o3067
              subst e3161
              have c3166 : c0 = (103 : Int32) := (own_b8t c2085 c2086 (by decide) (by decide) f3162)
              exact absurd c3166 c2200
            · obtain ⟨e3167, f3168, f3169, f3170, f3171, f3172⟩ := o3068
              subst e3167
              have c3173 : ¬ c0 = (103 : Int32) := (own_b8f c2085 c2086 (by decide) (by decide) f3168)
              have c3174 : c0 = (97 : Int32) := (own_b8t c2085 c2086 (by decide) (by decide) f3169)
              have c3175 : c1 = (110 : Int32) := (own_b8t c2102 c2103 (by decide) (by decide) f3170)
              exact absurd c3175 c2720
            · obtain ⟨e3176, f3177, f3178, f3179, f3180, f3181⟩ := o3069
              subst e3176
              have c3182 : ¬ c0 = (103 : Int32) := (own_b8f c2085 c2086 (by decide) (by decide) f3177)
              have c3183 : c0 = (97 : Int32) := (own_b8t c2085 c2086 (by decide) (by decide) f3178)
              have c3184 : c1 = (110 : Int32) := (own_b8t c2102 c2103 (by decide) (by decide) f3179)
              exact absurd c3184 c2720
            · obtain ⟨e3185, f3186, f3187, f3188, f3189⟩ := o3070
              subst e3185
              have c3190 : ¬ c0 = (103 : Int32) := (own_b8f c2085 c2086 (by decide) (by decide) f3186)
              have c3191 : c0 = (97 : Int32) := (own_b8t c2085 c2086 (by decide) (by decide) f3187)
              have c3192 : ¬ c1 = (110 : Int32) := (own_b8f c2102 c2103 (by decide) (by decide) f3188)
              show Go _ _ _ _ T3046 (mkF m 312 #[.val (.int i0), .val (.int i1), .val (.int i2), .val (.int i3), .val (.int i4), .val (.int i5), .val (.int (3 : Int32)), .val (.int (0 : Int32)), .val (.int c0), .val (.int c1), .val (.int c2), .val (.int c3), .val (.ref a2126), .val .null] [.null])
              refine kAL X3054 at_312 rfl rfl ?_
              refine kACf X3054 at_314 rfl rfl (XT.aa_ne_f rfl) ?_
              refine kIC X3054 (1 : Int32) at_317 (by decide) ?_
              refine kGOTO X3054 322 at_318 (by decide) ?_
              exact kRETZ X3054 (gEL G) (t := .boolean) hret (by simp) at_322 (fun ve hve => ⟨X3054.N, rfl⟩) (by decide) (by decide)
            · obtain ⟨e3193, f3194, f3195, f3196⟩ := o3071
              subst e3193
              have c3197 : ¬ c0 = (103 : Int32) := (own_b8f c2085 c2086 (by decide) (by decide) f3194)
              have c3198 : ¬ c0 = (97 : Int32) := (own_b8f c2085 c2086 (by decide) (by decide) f3195)
              exact absurd c2719 c3198
        · refine kICt X2184 307 at_285 (XT.ii_ne_t c2719) (by decide) ?_
          refine kAL X2184 at_307 rfl rfl ?_
          have f3199 := (Exa.keep f2170 f2190)
          have f3200 := (Old.keep f2173 f2190 (allS g2129 all0))
          refine kSTAT X2184 (gEL G) (argsL := [.ref a2126]) (rest := []) (wd G 27 rfl) (wd G 28 rfl) (wd G 29 rfl) (wd G 30 rfl) (by decide) (rm40 l G (ownB c0) (ownB c1) (ownB c2) a2126 a2187 k2188 h2177 X2184.n f3200 f3199 f2192 f2194 f2195 g2129) all0 (fun _ _ _ _ _ q => q.1) (lenOf pd__Ljava_lang_String__Lcom_example_tight_calculus_tightcalculus_Model_Kind_ rfl) rfl (by decide) 0 (Nat.le_of_eq rfl) (by decide) (by decide) (by decide) (by rw [hml]; rfl) at_309 (fun v3201 L3202 T3203 h3204 vm3205 K3206 w3207 q3208 C3209 C3210 X3211 => ?_)
          obtain ⟨n3212, (o3213 | o3214 | o3215 | o3216 | o3217 | o3218 | o3219 | o3220 | o3221 | o3222 | o3223 | o3224 | o3225 | o3226 | o3227 | o3228)⟩ := q3208
          · obtain ⟨e3229, f3230, f3231, f3232, f3233, f3234, f3235, f3236⟩ := o3213
            subst e3229
            have c3237 : c0 = (103 : Int32) := (own_b8t c2085 c2086 (by decide) (by decide) f3230)
            exact absurd c3237 c2200
          · obtain ⟨e3238, f3239, f3240, f3241, f3242, f3243, f3244, f3245⟩ := o3214
            subst e3238
            have c3246 : c0 = (103 : Int32) := (own_b8t c2085 c2086 (by decide) (by decide) f3239)
            exact absurd c3246 c2200
          · obtain ⟨e3247, f3248, f3249, f3250, f3251, f3252, f3253⟩ := o3215
            subst e3247
            have c3254 : c0 = (103 : Int32) := (own_b8t c2085 c2086 (by decide) (by decide) f3248)
            exact absurd c3254 c2200
          · obtain ⟨e3255, f3256, f3257, f3258, f3259, f3260⟩ := o3216
            subst e3255
            have c3261 : c0 = (103 : Int32) := (own_b8t c2085 c2086 (by decide) (by decide) f3256)
            exact absurd c3261 c2200
          · obtain ⟨e3262, f3263, f3264, f3265, f3266, f3267, f3268, f3269⟩ := o3217
            subst e3262
            have c3270 : c0 = (103 : Int32) := (own_b8t c2085 c2086 (by decide) (by decide) f3263)
            exact absurd c3270 c2200
          · obtain ⟨e3271, f3272, f3273, f3274, f3275, f3276, f3277, f3278⟩ := o3218
            subst e3271
            have c3279 : c0 = (103 : Int32) := (own_b8t c2085 c2086 (by decide) (by decide) f3272)
            exact absurd c3279 c2200
          · obtain ⟨e3280, f3281, f3282, f3283, f3284, f3285, f3286⟩ := o3219
            subst e3280
            have c3287 : c0 = (103 : Int32) := (own_b8t c2085 c2086 (by decide) (by decide) f3281)
            exact absurd c3287 c2200
          · obtain ⟨e3288, f3289, f3290, f3291, f3292, f3293⟩ := o3220
            subst e3288
            have c3294 : c0 = (103 : Int32) := (own_b8t c2085 c2086 (by decide) (by decide) f3289)
            exact absurd c3294 c2200
          · obtain ⟨e3295, f3296, f3297, f3298, f3299, f3300, f3301⟩ := o3221
            subst e3295
            have c3302 : c0 = (103 : Int32) := (own_b8t c2085 c2086 (by decide) (by decide) f3296)
            exact absurd c3302 c2200
          · obtain ⟨e3303, f3304, f3305, f3306, f3307, f3308, f3309⟩ := o3222
            subst e3303
            have c3310 : c0 = (103 : Int32) := (own_b8t c2085 c2086 (by decide) (by decide) f3304)
            exact absurd c3310 c2200
          · obtain ⟨e3311, f3312, f3313, f3314, f3315, f3316⟩ := o3223
            subst e3311
            have c3317 : c0 = (103 : Int32) := (own_b8t c2085 c2086 (by decide) (by decide) f3312)
            exact absurd c3317 c2200
          · obtain ⟨e3318, f3319, f3320, f3321, f3322⟩ := o3224
            subst e3318
            have c3323 : c0 = (103 : Int32) := (own_b8t c2085 c2086 (by decide) (by decide) f3319)
            exact absurd c3323 c2200
          · obtain ⟨e3324, f3325, f3326, f3327, f3328, f3329⟩ := o3225
            subst e3324
            have c3330 : ¬ c0 = (103 : Int32) := (own_b8f c2085 c2086 (by decide) (by decide) f3325)
            have c3331 : c0 = (97 : Int32) := (own_b8t c2085 c2086 (by decide) (by decide) f3326)
            exact absurd c3331 c2719
          · obtain ⟨e3332, f3333, f3334, f3335, f3336, f3337⟩ := o3226
            subst e3332
            have c3338 : ¬ c0 = (103 : Int32) := (own_b8f c2085 c2086 (by decide) (by decide) f3333)
            have c3339 : c0 = (97 : Int32) := (own_b8t c2085 c2086 (by decide) (by decide) f3334)
            exact absurd c3339 c2719
          · obtain ⟨e3340, f3341, f3342, f3343, f3344⟩ := o3227
            subst e3340
            have c3345 : ¬ c0 = (103 : Int32) := (own_b8f c2085 c2086 (by decide) (by decide) f3341)
            have c3346 : c0 = (97 : Int32) := (own_b8t c2085 c2086 (by decide) (by decide) f3342)
            exact absurd c3346 c2719
          · obtain ⟨e3347, f3348, f3349, f3350⟩ := o3228
            subst e3347
            have c3351 : ¬ c0 = (103 : Int32) := (own_b8f c2085 c2086 (by decide) (by decide) f3348)
            have c3352 : ¬ c0 = (97 : Int32) := (own_b8f c2085 c2086 (by decide) (by decide) f3349)
            show Go _ _ _ _ T3203 (mkF m 312 #[.val (.int i0), .val (.int i1), .val (.int i2), .val (.int i3), .val (.int i4), .val (.int i5), .val (.int (3 : Int32)), .val (.int (0 : Int32)), .val (.int c0), .val (.int c1), .val (.int c2), .val (.int c3), .val (.ref a2126), .val .null] [.null])
            refine kAL X3211 at_312 rfl rfl ?_
            refine kACf X3211 at_314 rfl rfl (XT.aa_ne_f rfl) ?_
            refine kIC X3211 (1 : Int32) at_317 (by decide) ?_
            refine kGOTO X3211 322 at_318 (by decide) ?_
            exact kRETZ X3211 (gEL G) (t := .boolean) hret (by simp) at_322 (fun ve hve => ⟨X3211.N, rfl⟩) (by decide) (by decide)
  | ⟨4, _⟩ =>
    refine kILn X0 at_9 rfl ?_
    refine kIC X0 (1 : Int32) at_10 (by decide) ?_
    refine kIAND X0 (i1 &&& (1 : Int32)) at_11 rfl ?_
    by_cases c3353 : (i1 &&& (1 : Int32)) = 0
    · refine kIFf X0 at_12 (XT.i0_ne_f c3353) ?_
      refine kIC X0 (1 : Int32) at_15 (by decide) ?_
      refine kGOTO X0 20 at_16 (by decide) ?_
      refine kIS X0 #[.val (.int i0), .val (.int i1), .val (.int i2), .val (.int i3), .val (.int i4), .val (.int i5), .val (.int (4 : Int32)), .val (.int (1 : Int32)), .unset, .unset, .unset, .unset, .unset, .unset] at_20 rfl ?_
      refine kILn X0 at_22 rfl ?_
      refine kIL X0 at_23 rfl ?_
      refine kIFf X0 at_25 (XT.i0_eq_f (by decide)) ?_
      refine kBI X0 (103 : Int32) at_28 (by decide) ?_
      refine kGOTO X0 35 at_30 (by decide) ?_
      refine kSTAT X0 (gEL G) (argsL := [.int i2, .int (103 : Int32)]) (rest := []) (wd G 1 rfl) (wd G 2 rfl) (wd G 3 rfl) (wd G 4 rfl) (by decide) (rm1 l G i2 h0 X0.n O0 ) all0 (fun _ _ _ _ _ q => q.1) (lenOf pd__IC_C rfl) rfl (by decide) 0 (Nat.le_of_eq rfl) (by decide) (by decide) (by decide) (by rw [hml]; rfl) at_35 (fun v3354 L3355 T3356 h3357 vm3358 K3359 w3360 q3361 C3362 C3363 X3364 => ?_)
      obtain ⟨n3365, ⟨e3366, f3367⟩⟩ := q3361
      subst e3366
      subst f3367
      show Go _ _ _ _ T3356 (mkF m 38 #[.val (.int i0), .val (.int i1), .val (.int i2), .val (.int i3), .val (.int i4), .val (.int i5), .val (.int (4 : Int32)), .val (.int (1 : Int32)), .unset, .unset, .unset, .unset, .unset, .unset] [.int (drV i2 (103 : Int32))])
      obtain ⟨c0, ec0, c3368, c3369⟩ : ∃ c, c = (drV i2 (103 : Int32)) ∧ ¬ (255 : Int32) < c ∧ ¬ c < 0 := ⟨_, rfl, own_drR _ (by decide) (by decide)⟩
      rw [← ec0]
      refine kIS X3364 #[.val (.int i0), .val (.int i1), .val (.int i2), .val (.int i3), .val (.int i4), .val (.int i5), .val (.int (4 : Int32)), .val (.int (1 : Int32)), .val (.int c0), .unset, .unset, .unset, .unset, .unset] at_38 rfl ?_
      refine kILn X3364 at_40 rfl ?_
      refine kIL X3364 at_41 rfl ?_
      refine kIFf X3364 at_43 (XT.i0_eq_f (by decide)) ?_
      refine kBI X3364 (112 : Int32) at_46 (by decide) ?_
      refine kGOTO X3364 53 at_48 (by decide) ?_
      have f3370 := O0
      refine kSTAT X3364 (gEL G) (argsL := [.int i3, .int (112 : Int32)]) (rest := []) (wd G 1 rfl) (wd G 2 rfl) (wd G 3 rfl) (wd G 4 rfl) (by decide) (rm2 l G i3 h0 X3364.n f3370 ) all0 (fun _ _ _ _ _ q => q.1) (lenOf pd__IC_C rfl) rfl (by decide) 0 (Nat.le_of_eq rfl) (by decide) (by decide) (by decide) (by rw [hml]; rfl) at_53 (fun v3371 L3372 T3373 h3374 vm3375 K3376 w3377 q3378 C3379 C3380 X3381 => ?_)
      obtain ⟨n3382, ⟨e3383, f3384⟩⟩ := q3378
      subst e3383
      subst f3384
      show Go _ _ _ _ T3373 (mkF m 56 #[.val (.int i0), .val (.int i1), .val (.int i2), .val (.int i3), .val (.int i4), .val (.int i5), .val (.int (4 : Int32)), .val (.int (1 : Int32)), .val (.int c0), .unset, .unset, .unset, .unset, .unset] [.int (drV i3 (112 : Int32))])
      obtain ⟨c1, ec1, c3385, c3386⟩ : ∃ c, c = (drV i3 (112 : Int32)) ∧ ¬ (255 : Int32) < c ∧ ¬ c < 0 := ⟨_, rfl, own_drR _ (by decide) (by decide)⟩
      rw [← ec1]
      refine kIS X3381 #[.val (.int i0), .val (.int i1), .val (.int i2), .val (.int i3), .val (.int i4), .val (.int i5), .val (.int (4 : Int32)), .val (.int (1 : Int32)), .val (.int c0), .val (.int c1), .unset, .unset, .unset, .unset] at_56 rfl ?_
      refine kIL X3381 at_58 rfl ?_
      refine kIL X3381 at_60 rfl ?_
      refine kIFf X3381 at_62 (XT.i0_eq_f (by decide)) ?_
      refine kBI X3381 (99 : Int32) at_65 (by decide) ?_
      refine kGOTO X3381 72 at_67 (by decide) ?_
      have f3387 := f3370
      refine kSTAT X3381 (gEL G) (argsL := [.int i4, .int (99 : Int32)]) (rest := []) (wd G 1 rfl) (wd G 2 rfl) (wd G 3 rfl) (wd G 4 rfl) (by decide) (rm3 l G i4 h0 X3381.n f3387 ) all0 (fun _ _ _ _ _ q => q.1) (lenOf pd__IC_C rfl) rfl (by decide) 0 (Nat.le_of_eq rfl) (by decide) (by decide) (by decide) (by rw [hml]; rfl) at_72 (fun v3388 L3389 T3390 h3391 vm3392 K3393 w3394 q3395 C3396 C3397 X3398 => ?_)
      obtain ⟨n3399, ⟨e3400, f3401⟩⟩ := q3395
      subst e3400
      subst f3401
      show Go _ _ _ _ T3390 (mkF m 75 #[.val (.int i0), .val (.int i1), .val (.int i2), .val (.int i3), .val (.int i4), .val (.int i5), .val (.int (4 : Int32)), .val (.int (1 : Int32)), .val (.int c0), .val (.int c1), .unset, .unset, .unset, .unset] [.int (drV i4 (99 : Int32))])
      obtain ⟨c2, ec2, c3402, c3403⟩ : ∃ c, c = (drV i4 (99 : Int32)) ∧ ¬ (255 : Int32) < c ∧ ¬ c < 0 := ⟨_, rfl, own_drR _ (by decide) (by decide)⟩
      rw [← ec2]
      refine kIS X3398 #[.val (.int i0), .val (.int i1), .val (.int i2), .val (.int i3), .val (.int i4), .val (.int i5), .val (.int (4 : Int32)), .val (.int (1 : Int32)), .val (.int c0), .val (.int c1), .val (.int c2), .unset, .unset, .unset] at_75 rfl ?_
      refine kIL X3398 at_77 rfl ?_
      refine kSI X3398 (255 : Int32) at_79 (by decide) ?_
      refine kIAND X3398 (i5 &&& (255 : Int32)) at_82 rfl ?_
      refine kI2C X3398 (i5 &&& (255 : Int32)) at_83 (i2c_mask _) ?_
      obtain ⟨c3, ec3, c3404, c3405⟩ : ∃ c, c = (i5 &&& (255 : Int32)) ∧ ¬ (255 : Int32) < c ∧ ¬ c < 0 := ⟨_, rfl, own_mask _⟩
      rw [← ec3]
      refine kIS X3398 #[.val (.int i0), .val (.int i1), .val (.int i2), .val (.int i3), .val (.int i4), .val (.int i5), .val (.int (4 : Int32)), .val (.int (1 : Int32)), .val (.int c0), .val (.int c1), .val (.int c2), .val (.int c3), .unset, .unset] at_84 rfl ?_
      refine kIL X3398 at_86 rfl ?_
      refine kIFt X3398 106 at_88 (XT.i0_ne_t (by decide)) (by decide) ?_
      refine kIL X3398 at_106 rfl ?_
      refine kIC X3398 (1 : Int32) at_108 (by decide) ?_
      refine kICt X3398 132 at_109 (XT.ii_ne_t (by decide)) (by decide) ?_
      refine kIL X3398 at_132 rfl ?_
      refine kIC X3398 (2 : Int32) at_134 (by decide) ?_
      refine kICt X3398 163 at_135 (XT.ii_ne_t (by decide)) (by decide) ?_
      refine kIL X3398 at_163 rfl ?_
      refine kIC X3398 (3 : Int32) at_165 (by decide) ?_
      refine kICt X3398 199 at_166 (XT.ii_ne_t (by decide)) (by decide) ?_
      refine kIL X3398 at_199 rfl ?_
      refine kIC X3398 (4 : Int32) at_201 (by decide) ?_
      refine kICf X3398 at_202 (XT.ii_ne_f (by decide)) ?_
      refine kNEW X3398 (wd G 5 rfl) (wd G 6 rfl) (wd G 7 rfl) at_205 (by decide) (by decide) (fun T3406 h3407 a3409 E3410 q3411 g3412 A3413 D3414 s3415 X3408 => ?_)
      have g3416 : h0.size ≤ a3409 := q3411 ▸ X3398.g0
      have f3417 : Fld Z h3407 a3409 "java/lang/String" "value" "[B" (.null) := D3414 (Or.inr (wd G 21 rfl)) (ty := (.array (.byte))) (by decide)
      have f3418 : Fld Z h3407 a3409 "java/lang/String" "coder" "B" (.int (0 : Int32)) := D3414 (Or.inr (wd G 22 rfl)) (ty := .byte) (by decide)
      refine kDUP X3408 at_208 rfl ?_
      refine kIC X3408 (4 : Int32) at_209 (by decide) ?_
      refine kNEWP X3408 (wd G 8 rfl) (cap := 4) at_210 (by decide) (by decide) (by decide) (by decide) (by decide) (fun T3419 h3420 a3422 k3423 E3424 q3425 g3426 A3427 s3428 X3421 => ?_)
      have n3429 : a3409 ≠ a3422 := Nat.ne_of_lt (Nat.lt_of_lt_of_le (A3413.lt) (Nat.le_of_eq q3425.symm))
      have g3430 : h0.size ≤ a3422 := q3425 ▸ X3408.g0
      have f3431 : Arv Z h3420 a3422 k3423 .char 4 [.int (0 : Int32), .int (0 : Int32), .int (0 : Int32), .int (0 : Int32)] (.int (0 : Int32)) := A3427.pad (pad_rep [] _ 4)
      refine kDUP X3421 at_212 rfl ?_
      refine kIC X3421 (0 : Int32) at_213 (by decide) ?_
      refine kIL X3421 at_214 rfl ?_
      refine kCASTO X3421 f3431 (by decide) 0 c0 (own_nc c3368 c3369) (by decide) (by show 0 < 4; decide) g3426 (Safe.arv X3421.hZ.alike f3431 (by decide)) at_216 (fun T3432 h3433 L3435 W3436 f3437 X3434 => ?_)
      have f3438 : Arv Z h3433 a3422 k3423 .char 4 [.int c0, .int (0 : Int32), .int (0 : Int32), .int (0 : Int32)] (.int (0 : Int32)) := f3437
      refine kDUP X3434 at_217 rfl ?_
      refine kIC X3434 (1 : Int32) at_218 (by decide) ?_
      refine kIL X3434 at_219 rfl ?_
      refine kCASTO X3434 f3438 (by decide) 1 c1 (own_nc c3385 c3386) (by decide) (by show 1 < 4; decide) g3426 (Safe.arv X3434.hZ.alike f3438 (by decide)) at_221 (fun T3439 h3440 L3442 W3443 f3444 X3441 => ?_)
      have f3445 : Arv Z h3440 a3422 k3423 .char 4 [.int c0, .int c1, .int (0 : Int32), .int (0 : Int32)] (.int (0 : Int32)) := f3444
      refine kDUP X3441 at_222 rfl ?_
      refine kIC X3441 (2 : Int32) at_223 (by decide) ?_
      refine kIL X3441 at_224 rfl ?_
      refine kCASTO X3441 f3445 (by decide) 2 c2 (own_nc c3402 c3403) (by decide) (by show 2 < 4; decide) g3426 (Safe.arv X3441.hZ.alike f3445 (by decide)) at_226 (fun T3446 h3447 L3449 W3450 f3451 X3448 => ?_)
      have f3452 : Arv Z h3447 a3422 k3423 .char 4 [.int c0, .int c1, .int c2, .int (0 : Int32)] (.int (0 : Int32)) := f3451
      refine kDUP X3448 at_227 rfl ?_
      refine kIC X3448 (3 : Int32) at_228 (by decide) ?_
      refine kIL X3448 at_229 rfl ?_
      refine kCASTO X3448 f3452 (by decide) 3 c3 (own_nc c3404 c3405) (by decide) (by show 3 < 4; decide) g3426 (Safe.arv X3448.hZ.alike f3452 (by decide)) at_231 (fun T3453 h3454 L3456 W3457 f3458 X3455 => ?_)
      have f3459 : Arv Z h3454 a3422 k3423 .char 4 [.int c0, .int c1, .int c2, .int c3] (.int (0 : Int32)) := f3458
      have f3460 := (Exa.wr W3457 (Exa.wr W3450 (Exa.wr W3443 (Exa.wr W3436 (Exa.ext E3424 A3413)))))
      have f3461 := (Fld.other W3457 (Fld.other W3450 (Fld.other W3443 (Fld.other W3436 (Fld.ext E3424 f3418) (Or.inl n3429)) (Or.inl n3429)) (Or.inl n3429)) (Or.inl n3429))
      have f3462 := (Fld.other W3457 (Fld.other W3450 (Fld.other W3443 (Fld.other W3436 (Fld.ext E3424 f3417) (Or.inl n3429)) (Or.inl n3429)) (Or.inl n3429)) (Or.inl n3429))
      have f3463 := (Old.wr (Old.wr (Old.wr (Old.wr (Old.ext (Old.ext f3387 E3410) E3424) W3436 g3426) W3443 g3426) W3450 g3426) W3457 g3426)
      have f3475 := (Safe.wr W3457 (Safe.arv X3448.hZ.alike f3452 (by decide)) X3448.C.1 (Safe.wr W3450 (Safe.arv X3441.hZ.alike f3445 (by decide)) X3441.C.1 (Safe.wr W3443 (Safe.arv X3434.hZ.alike f3438 (by decide)) X3434.C.1 (Safe.wr W3436 (Safe.arv X3421.hZ.alike f3431 (by decide)) X3421.C.1 (Safe.ext E3424 X3408.C.1 s3415)))))
      refine kSPEC X3455 (gEL G) (argsL := [.ref a3422]) (rest := [.ref a3409]) (wd G 9 rfl) (wd G 10 rfl) (wd G 7 rfl) (wd G 11 rfl) rfl (by decide) (rm45 l G c0 c1 c2 c3 a3409 a3422 k3423 h3454 X3455.n f3463 f3459 c3368 c3385 c3402 c3404 f3460 f3461 f3462 g3412) (allS ⟨(f3460.lt), f3475⟩ all0) (fun _ _ _ _ _ q => q.1) (lenOf pd___C_V rfl) rfl (by decide) 1 (Nat.le_of_eq rfl) (by decide) (by decide) (by decide) (by rw [hml]; rfl) at_232 (fun v3464 L3465 T3466 h3467 vm3468 K3469 w3470 q3471 C3472 C3473 X3474 => ?_)
      obtain ⟨n3476, ⟨a3477, k3478, e3479, f3480, f3481, f3482, f3483, f3484, f3485⟩⟩ := q3471
      subst e3479
      have n3486 : a3409 ≠ a3477 := Nat.ne_of_lt (Nat.lt_of_lt_of_le (f3460.lt) f3481)
      have n3487 : a3422 ≠ a3477 := Nat.ne_of_lt (Nat.lt_of_lt_of_le (f3459.lt) f3481)
      have g3488 : n0 ≤ a3477 := Nat.le_trans X3455.n f3481
      have g3489 : h0.size ≤ a3477 := Nat.le_trans X3455.g0 f3481
      show Go _ _ _ _ T3466 (mkF m 235 #[.val (.int i0), .val (.int i1), .val (.int i2), .val (.int i3), .val (.int i4), .val (.int i5), .val (.int (4 : Int32)), .val (.int (1 : Int32)), .val (.int c0), .val (.int c1), .val (.int c2), .val (.int c3), .unset, .unset] [.ref a3409])
      refine kAS X3474 #[.val (.int i0), .val (.int i1), .val (.int i2), .val (.int i3), .val (.int i4), .val (.int i5), .val (.int (4 : Int32)), .val (.int (1 : Int32)), .val (.int c0), .val (.int c1), .val (.int c2), .val (.int c3), .val (.ref a3409), .unset] at_235 rfl rfl ?_
      refine kGOTO X3474 243 at_237 (by decide) ?_
      refine kNULL X3474 at_243 ?_
      refine kAS X3474 #[.val (.int i0), .val (.int i1), .val (.int i2), .val (.int i3), .val (.int i4), .val (.int i5), .val (.int (4 : Int32)), .val (.int (1 : Int32)), .val (.int c0), .val (.int c1), .val (.int c2), .val (.int c3), .val (.ref a3409), .val .null] at_244 rfl rfl ?_
      refine kIL X3474 at_246 rfl ?_
      refine kIC X3474 (3 : Int32) at_248 (by decide) ?_
      refine kICt X3474 307 at_249 (XT.ii_ne_t (by decide)) (by decide) ?_
      refine kAL X3474 at_307 rfl rfl ?_
      have f3490 := (Exa.keep f3460 f3480)
      have f3491 := (Old.keep f3463 f3480 (allS g3412 all0))
      refine kSTAT X3474 (gEL G) (argsL := [.ref a3409]) (rest := []) (wd G 27 rfl) (wd G 28 rfl) (wd G 29 rfl) (wd G 30 rfl) (by decide) (rm50 l G (ownB c0) (ownB c1) (ownB c2) (ownB c3) a3409 a3477 k3478 h3467 X3474.n f3491 f3490 f3482 f3484 f3485 g3412) all0 (fun _ _ _ _ _ q => q.1) (lenOf pd__Ljava_lang_String__Lcom_example_tight_calculus_tightcalculus_Model_Kind_ rfl) rfl (by decide) 0 (Nat.le_of_eq rfl) (by decide) (by decide) (by decide) (by rw [hml]; rfl) at_309 (fun v3492 L3493 T3494 h3495 vm3496 K3497 w3498 q3499 C3500 C3501 X3502 => ?_)
      obtain ⟨n3503, ⟨e3504, f3505⟩⟩ := q3499
      subst e3504
      show Go _ _ _ _ T3494 (mkF m 312 #[.val (.int i0), .val (.int i1), .val (.int i2), .val (.int i3), .val (.int i4), .val (.int i5), .val (.int (4 : Int32)), .val (.int (1 : Int32)), .val (.int c0), .val (.int c1), .val (.int c2), .val (.int c3), .val (.ref a3409), .val .null] [.null])
      refine kAL X3502 at_312 rfl rfl ?_
      refine kACf X3502 at_314 rfl rfl (XT.aa_ne_f rfl) ?_
      refine kIC X3502 (1 : Int32) at_317 (by decide) ?_
      refine kGOTO X3502 322 at_318 (by decide) ?_
      exact kRETZ X3502 (gEL G) (t := .boolean) hret (by simp) at_322 (fun ve hve => ⟨X3502.N, rfl⟩) (by decide) (by decide)
    · refine kIFt X0 19 at_12 (XT.i0_ne_t c3353) (by decide) ?_
      refine kIC X0 (0 : Int32) at_19 (by decide) ?_
      refine kIS X0 #[.val (.int i0), .val (.int i1), .val (.int i2), .val (.int i3), .val (.int i4), .val (.int i5), .val (.int (4 : Int32)), .val (.int (0 : Int32)), .unset, .unset, .unset, .unset, .unset, .unset] at_20 rfl ?_
      refine kILn X0 at_22 rfl ?_
      refine kIL X0 at_23 rfl ?_
      refine kIFt X0 33 at_25 (XT.i0_eq_t (by decide)) (by decide) ?_
      refine kBI X0 (97 : Int32) at_33 (by decide) ?_
      refine kSTAT X0 (gEL G) (argsL := [.int i2, .int (97 : Int32)]) (rest := []) (wd G 1 rfl) (wd G 2 rfl) (wd G 3 rfl) (wd G 4 rfl) (by decide) (rm12 l G i2 h0 X0.n O0 ) all0 (fun _ _ _ _ _ q => q.1) (lenOf pd__IC_C rfl) rfl (by decide) 0 (Nat.le_of_eq rfl) (by decide) (by decide) (by decide) (by rw [hml]; rfl) at_35 (fun v3506 L3507 T3508 h3509 vm3510 K3511 w3512 q3513 C3514 C3515 X3516 => ?_)
      obtain ⟨n3517, ⟨e3518, f3519⟩⟩ := q3513
      subst e3518
      subst f3519
      show Go _ _ _ _ T3508 (mkF m 38 #[.val (.int i0), .val (.int i1), .val (.int i2), .val (.int i3), .val (.int i4), .val (.int i5), .val (.int (4 : Int32)), .val (.int (0 : Int32)), .unset, .unset, .unset, .unset, .unset, .unset] [.int (drV i2 (97 : Int32))])
      obtain ⟨c0, ec0, c3520, c3521⟩ : ∃ c, c = (drV i2 (97 : Int32)) ∧ ¬ (255 : Int32) < c ∧ ¬ c < 0 := ⟨_, rfl, own_drR _ (by decide) (by decide)⟩
      rw [← ec0]
      refine kIS X3516 #[.val (.int i0), .val (.int i1), .val (.int i2), .val (.int i3), .val (.int i4), .val (.int i5), .val (.int (4 : Int32)), .val (.int (0 : Int32)), .val (.int c0), .unset, .unset, .unset, .unset, .unset] at_38 rfl ?_
      refine kILn X3516 at_40 rfl ?_
      refine kIL X3516 at_41 rfl ?_
      refine kIFt X3516 51 at_43 (XT.i0_eq_t (by decide)) (by decide) ?_
      refine kBI X3516 (110 : Int32) at_51 (by decide) ?_
      have f3522 := O0
      refine kSTAT X3516 (gEL G) (argsL := [.int i3, .int (110 : Int32)]) (rest := []) (wd G 1 rfl) (wd G 2 rfl) (wd G 3 rfl) (wd G 4 rfl) (by decide) (rm13 l G i3 h0 X3516.n f3522 ) all0 (fun _ _ _ _ _ q => q.1) (lenOf pd__IC_C rfl) rfl (by decide) 0 (Nat.le_of_eq rfl) (by decide) (by decide) (by decide) (by rw [hml]; rfl) at_53 (fun v3523 L3524 T3525 h3526 vm3527 K3528 w3529 q3530 C3531 C3532 X3533 => ?_)
      obtain ⟨n3534, ⟨e3535, f3536⟩⟩ := q3530
      subst e3535
      subst f3536
      show Go _ _ _ _ T3525 (mkF m 56 #[.val (.int i0), .val (.int i1), .val (.int i2), .val (.int i3), .val (.int i4), .val (.int i5), .val (.int (4 : Int32)), .val (.int (0 : Int32)), .val (.int c0), .unset, .unset, .unset, .unset, .unset] [.int (drV i3 (110 : Int32))])
      obtain ⟨c1, ec1, c3537, c3538⟩ : ∃ c, c = (drV i3 (110 : Int32)) ∧ ¬ (255 : Int32) < c ∧ ¬ c < 0 := ⟨_, rfl, own_drR _ (by decide) (by decide)⟩
      rw [← ec1]
      refine kIS X3533 #[.val (.int i0), .val (.int i1), .val (.int i2), .val (.int i3), .val (.int i4), .val (.int i5), .val (.int (4 : Int32)), .val (.int (0 : Int32)), .val (.int c0), .val (.int c1), .unset, .unset, .unset, .unset] at_56 rfl ?_
      refine kIL X3533 at_58 rfl ?_
      refine kIL X3533 at_60 rfl ?_
      refine kIFt X3533 70 at_62 (XT.i0_eq_t (by decide)) (by decide) ?_
      refine kBI X3533 (100 : Int32) at_70 (by decide) ?_
      have f3539 := f3522
      refine kSTAT X3533 (gEL G) (argsL := [.int i4, .int (100 : Int32)]) (rest := []) (wd G 1 rfl) (wd G 2 rfl) (wd G 3 rfl) (wd G 4 rfl) (by decide) (rm14 l G i4 h0 X3533.n f3539 ) all0 (fun _ _ _ _ _ q => q.1) (lenOf pd__IC_C rfl) rfl (by decide) 0 (Nat.le_of_eq rfl) (by decide) (by decide) (by decide) (by rw [hml]; rfl) at_72 (fun v3540 L3541 T3542 h3543 vm3544 K3545 w3546 q3547 C3548 C3549 X3550 => ?_)
      obtain ⟨n3551, ⟨e3552, f3553⟩⟩ := q3547
      subst e3552
      subst f3553
      show Go _ _ _ _ T3542 (mkF m 75 #[.val (.int i0), .val (.int i1), .val (.int i2), .val (.int i3), .val (.int i4), .val (.int i5), .val (.int (4 : Int32)), .val (.int (0 : Int32)), .val (.int c0), .val (.int c1), .unset, .unset, .unset, .unset] [.int (drV i4 (100 : Int32))])
      obtain ⟨c2, ec2, c3554, c3555⟩ : ∃ c, c = (drV i4 (100 : Int32)) ∧ ¬ (255 : Int32) < c ∧ ¬ c < 0 := ⟨_, rfl, own_drR _ (by decide) (by decide)⟩
      rw [← ec2]
      refine kIS X3550 #[.val (.int i0), .val (.int i1), .val (.int i2), .val (.int i3), .val (.int i4), .val (.int i5), .val (.int (4 : Int32)), .val (.int (0 : Int32)), .val (.int c0), .val (.int c1), .val (.int c2), .unset, .unset, .unset] at_75 rfl ?_
      refine kIL X3550 at_77 rfl ?_
      refine kSI X3550 (255 : Int32) at_79 (by decide) ?_
      refine kIAND X3550 (i5 &&& (255 : Int32)) at_82 rfl ?_
      refine kI2C X3550 (i5 &&& (255 : Int32)) at_83 (i2c_mask _) ?_
      obtain ⟨c3, ec3, c3556, c3557⟩ : ∃ c, c = (i5 &&& (255 : Int32)) ∧ ¬ (255 : Int32) < c ∧ ¬ c < 0 := ⟨_, rfl, own_mask _⟩
      rw [← ec3]
      refine kIS X3550 #[.val (.int i0), .val (.int i1), .val (.int i2), .val (.int i3), .val (.int i4), .val (.int i5), .val (.int (4 : Int32)), .val (.int (0 : Int32)), .val (.int c0), .val (.int c1), .val (.int c2), .val (.int c3), .unset, .unset] at_84 rfl ?_
      refine kIL X3550 at_86 rfl ?_
      refine kIFt X3550 106 at_88 (XT.i0_ne_t (by decide)) (by decide) ?_
      refine kIL X3550 at_106 rfl ?_
      refine kIC X3550 (1 : Int32) at_108 (by decide) ?_
      refine kICt X3550 132 at_109 (XT.ii_ne_t (by decide)) (by decide) ?_
      refine kIL X3550 at_132 rfl ?_
      refine kIC X3550 (2 : Int32) at_134 (by decide) ?_
      refine kICt X3550 163 at_135 (XT.ii_ne_t (by decide)) (by decide) ?_
      refine kIL X3550 at_163 rfl ?_
      refine kIC X3550 (3 : Int32) at_165 (by decide) ?_
      refine kICt X3550 199 at_166 (XT.ii_ne_t (by decide)) (by decide) ?_
      refine kIL X3550 at_199 rfl ?_
      refine kIC X3550 (4 : Int32) at_201 (by decide) ?_
      refine kICf X3550 at_202 (XT.ii_ne_f (by decide)) ?_
      refine kNEW X3550 (wd G 5 rfl) (wd G 6 rfl) (wd G 7 rfl) at_205 (by decide) (by decide) (fun T3558 h3559 a3561 E3562 q3563 g3564 A3565 D3566 s3567 X3560 => ?_)
      have g3568 : h0.size ≤ a3561 := q3563 ▸ X3550.g0
      have f3569 : Fld Z h3559 a3561 "java/lang/String" "value" "[B" (.null) := D3566 (Or.inr (wd G 21 rfl)) (ty := (.array (.byte))) (by decide)
      have f3570 : Fld Z h3559 a3561 "java/lang/String" "coder" "B" (.int (0 : Int32)) := D3566 (Or.inr (wd G 22 rfl)) (ty := .byte) (by decide)
      refine kDUP X3560 at_208 rfl ?_
      refine kIC X3560 (4 : Int32) at_209 (by decide) ?_
      refine kNEWP X3560 (wd G 8 rfl) (cap := 4) at_210 (by decide) (by decide) (by decide) (by decide) (by decide) (fun T3571 h3572 a3574 k3575 E3576 q3577 g3578 A3579 s3580 X3573 => ?_)
      have n3581 : a3561 ≠ a3574 := Nat.ne_of_lt (Nat.lt_of_lt_of_le (A3565.lt) (Nat.le_of_eq q3577.symm))
      have g3582 : h0.size ≤ a3574 := q3577 ▸ X3560.g0
      have f3583 : Arv Z h3572 a3574 k3575 .char 4 [.int (0 : Int32), .int (0 : Int32), .int (0 : Int32), .int (0 : Int32)] (.int (0 : Int32)) := A3579.pad (pad_rep [] _ 4)
      refine kDUP X3573 at_212 rfl ?_
      refine kIC X3573 (0 : Int32) at_213 (by decide) ?_
      refine kIL X3573 at_214 rfl ?_
      refine kCASTO X3573 f3583 (by decide) 0 c0 (own_nc c3520 c3521) (by decide) (by show 0 < 4; decide) g3578 (Safe.arv X3573.hZ.alike f3583 (by decide)) at_216 (fun T3584 h3585 L3587 W3588 f3589 X3586 => ?_)
      have f3590 : Arv Z h3585 a3574 k3575 .char 4 [.int c0, .int (0 : Int32), .int (0 : Int32), .int (0 : Int32)] (.int (0 : Int32)) := f3589
      refine kDUP X3586 at_217 rfl ?_
      refine kIC X3586 (1 : Int32) at_218 (by decide) ?_
      refine kIL X3586 at_219 rfl ?_
      refine kCASTO X3586 f3590 (by decide) 1 c1 (own_nc c3537 c3538) (by decide) (by show 1 < 4; decide) g3578 (Safe.arv X3586.hZ.alike f3590 (by decide)) at_221 (fun T3591 h3592 L3594 W3595 f3596 X3593 => ?_)
      have f3597 : Arv Z h3592 a3574 k3575 .char 4 [.int c0, .int c1, .int (0 : Int32), .int (0 : Int32)] (.int (0 : Int32)) := f3596
      refine kDUP X3593 at_222 rfl ?_
      refine kIC X3593 (2 : Int32) at_223 (by decide) ?_
      refine kIL X3593 at_224 rfl ?_
      refine kCASTO X3593 f3597 (by decide) 2 c2 (own_nc c3554 c3555) (by decide) (by show 2 < 4; decide) g3578 (Safe.arv X3593.hZ.alike f3597 (by decide)) at_226 (fun T3598 h3599 L3601 W3602 f3603 X3600 => ?_)
      have f3604 : Arv Z h3599 a3574 k3575 .char 4 [.int c0, .int c1, .int c2, .int (0 : Int32)] (.int (0 : Int32)) := f3603
      refine kDUP X3600 at_227 rfl ?_
      refine kIC X3600 (3 : Int32) at_228 (by decide) ?_
      refine kIL X3600 at_229 rfl ?_
      refine kCASTO X3600 f3604 (by decide) 3 c3 (own_nc c3556 c3557) (by decide) (by show 3 < 4; decide) g3578 (Safe.arv X3600.hZ.alike f3604 (by decide)) at_231 (fun T3605 h3606 L3608 W3609 f3610 X3607 => ?_)
      have f3611 : Arv Z h3606 a3574 k3575 .char 4 [.int c0, .int c1, .int c2, .int c3] (.int (0 : Int32)) := f3610
      have f3612 := (Exa.wr W3609 (Exa.wr W3602 (Exa.wr W3595 (Exa.wr W3588 (Exa.ext E3576 A3565)))))
      have f3613 := (Fld.other W3609 (Fld.other W3602 (Fld.other W3595 (Fld.other W3588 (Fld.ext E3576 f3570) (Or.inl n3581)) (Or.inl n3581)) (Or.inl n3581)) (Or.inl n3581))
      have f3614 := (Fld.other W3609 (Fld.other W3602 (Fld.other W3595 (Fld.other W3588 (Fld.ext E3576 f3569) (Or.inl n3581)) (Or.inl n3581)) (Or.inl n3581)) (Or.inl n3581))
      have f3615 := (Old.wr (Old.wr (Old.wr (Old.wr (Old.ext (Old.ext f3539 E3562) E3576) W3588 g3578) W3595 g3578) W3602 g3578) W3609 g3578)
      have f3627 := (Safe.wr W3609 (Safe.arv X3600.hZ.alike f3604 (by decide)) X3600.C.1 (Safe.wr W3602 (Safe.arv X3593.hZ.alike f3597 (by decide)) X3593.C.1 (Safe.wr W3595 (Safe.arv X3586.hZ.alike f3590 (by decide)) X3586.C.1 (Safe.wr W3588 (Safe.arv X3573.hZ.alike f3583 (by decide)) X3573.C.1 (Safe.ext E3576 X3560.C.1 s3567)))))
      refine kSPEC X3607 (gEL G) (argsL := [.ref a3574]) (rest := [.ref a3561]) (wd G 9 rfl) (wd G 10 rfl) (wd G 7 rfl) (wd G 11 rfl) rfl (by decide) (rm45 l G c0 c1 c2 c3 a3561 a3574 k3575 h3606 X3607.n f3615 f3611 c3520 c3537 c3554 c3556 f3612 f3613 f3614 g3564) (allS ⟨(f3612.lt), f3627⟩ all0) (fun _ _ _ _ _ q => q.1) (lenOf pd___C_V rfl) rfl (by decide) 1 (Nat.le_of_eq rfl) (by decide) (by decide) (by decide) (by rw [hml]; rfl) at_232 (fun v3616 L3617 T3618 h3619 vm3620 K3621 w3622 q3623 C3624 C3625 X3626 => ?_)
      obtain ⟨n3628, ⟨a3629, k3630, e3631, f3632, f3633, f3634, f3635, f3636, f3637⟩⟩ := q3623
      subst e3631
      have n3638 : a3561 ≠ a3629 := Nat.ne_of_lt (Nat.lt_of_lt_of_le (f3612.lt) f3633)
      have n3639 : a3574 ≠ a3629 := Nat.ne_of_lt (Nat.lt_of_lt_of_le (f3611.lt) f3633)
      have g3640 : n0 ≤ a3629 := Nat.le_trans X3607.n f3633
      have g3641 : h0.size ≤ a3629 := Nat.le_trans X3607.g0 f3633
      show Go _ _ _ _ T3618 (mkF m 235 #[.val (.int i0), .val (.int i1), .val (.int i2), .val (.int i3), .val (.int i4), .val (.int i5), .val (.int (4 : Int32)), .val (.int (0 : Int32)), .val (.int c0), .val (.int c1), .val (.int c2), .val (.int c3), .unset, .unset] [.ref a3561])
      refine kAS X3626 #[.val (.int i0), .val (.int i1), .val (.int i2), .val (.int i3), .val (.int i4), .val (.int i5), .val (.int (4 : Int32)), .val (.int (0 : Int32)), .val (.int c0), .val (.int c1), .val (.int c2), .val (.int c3), .val (.ref a3561), .unset] at_235 rfl rfl ?_
      refine kGOTO X3626 243 at_237 (by decide) ?_
      refine kNULL X3626 at_243 ?_
      refine kAS X3626 #[.val (.int i0), .val (.int i1), .val (.int i2), .val (.int i3), .val (.int i4), .val (.int i5), .val (.int (4 : Int32)), .val (.int (0 : Int32)), .val (.int c0), .val (.int c1), .val (.int c2), .val (.int c3), .val (.ref a3561), .val .null] at_244 rfl rfl ?_
      refine kIL X3626 at_246 rfl ?_
      refine kIC X3626 (3 : Int32) at_248 (by decide) ?_
      refine kICt X3626 307 at_249 (XT.ii_ne_t (by decide)) (by decide) ?_
      refine kAL X3626 at_307 rfl rfl ?_
      have f3642 := (Exa.keep f3612 f3632)
      have f3643 := (Old.keep f3615 f3632 (allS g3564 all0))
      refine kSTAT X3626 (gEL G) (argsL := [.ref a3561]) (rest := []) (wd G 27 rfl) (wd G 28 rfl) (wd G 29 rfl) (wd G 30 rfl) (by decide) (rm50 l G (ownB c0) (ownB c1) (ownB c2) (ownB c3) a3561 a3629 k3630 h3619 X3626.n f3643 f3642 f3634 f3636 f3637 g3564) all0 (fun _ _ _ _ _ q => q.1) (lenOf pd__Ljava_lang_String__Lcom_example_tight_calculus_tightcalculus_Model_Kind_ rfl) rfl (by decide) 0 (Nat.le_of_eq rfl) (by decide) (by decide) (by decide) (by rw [hml]; rfl) at_309 (fun v3644 L3645 T3646 h3647 vm3648 K3649 w3650 q3651 C3652 C3653 X3654 => ?_)
      obtain ⟨n3655, ⟨e3656, f3657⟩⟩ := q3651
      subst e3656
      show Go _ _ _ _ T3646 (mkF m 312 #[.val (.int i0), .val (.int i1), .val (.int i2), .val (.int i3), .val (.int i4), .val (.int i5), .val (.int (4 : Int32)), .val (.int (0 : Int32)), .val (.int c0), .val (.int c1), .val (.int c2), .val (.int c3), .val (.ref a3561), .val .null] [.null])
      refine kAL X3654 at_312 rfl rfl ?_
      refine kACf X3654 at_314 rfl rfl (XT.aa_ne_f rfl) ?_
      refine kIC X3654 (1 : Int32) at_317 (by decide) ?_
      refine kGOTO X3654 322 at_318 (by decide) ?_
      exact kRETZ X3654 (gEL G) (t := .boolean) hret (by simp) at_322 (fun ve hve => ⟨X3654.N, rfl⟩) (by decide) (by decide)
  | ⟨5, _⟩ =>
    refine kILn X0 at_9 rfl ?_
    refine kIC X0 (1 : Int32) at_10 (by decide) ?_
    refine kIAND X0 (i1 &&& (1 : Int32)) at_11 rfl ?_
    by_cases c3658 : (i1 &&& (1 : Int32)) = 0
    · refine kIFf X0 at_12 (XT.i0_ne_f c3658) ?_
      refine kIC X0 (1 : Int32) at_15 (by decide) ?_
      refine kGOTO X0 20 at_16 (by decide) ?_
      refine kIS X0 #[.val (.int i0), .val (.int i1), .val (.int i2), .val (.int i3), .val (.int i4), .val (.int i5), .val (.int (5 : Int32)), .val (.int (1 : Int32)), .unset, .unset, .unset, .unset, .unset, .unset] at_20 rfl ?_
      refine kILn X0 at_22 rfl ?_
      refine kIL X0 at_23 rfl ?_
      refine kIFf X0 at_25 (XT.i0_eq_f (by decide)) ?_
      refine kBI X0 (103 : Int32) at_28 (by decide) ?_
      refine kGOTO X0 35 at_30 (by decide) ?_
      refine kSTAT X0 (gEL G) (argsL := [.int i2, .int (103 : Int32)]) (rest := []) (wd G 1 rfl) (wd G 2 rfl) (wd G 3 rfl) (wd G 4 rfl) (by decide) (rm1 l G i2 h0 X0.n O0 ) all0 (fun _ _ _ _ _ q => q.1) (lenOf pd__IC_C rfl) rfl (by decide) 0 (Nat.le_of_eq rfl) (by decide) (by decide) (by decide) (by rw [hml]; rfl) at_35 (fun v3659 L3660 T3661 h3662 vm3663 K3664 w3665 q3666 C3667 C3668 X3669 => ?_)
      obtain ⟨n3670, ⟨e3671, f3672⟩⟩ := q3666
      subst e3671
      subst f3672
      show Go _ _ _ _ T3661 (mkF m 38 #[.val (.int i0), .val (.int i1), .val (.int i2), .val (.int i3), .val (.int i4), .val (.int i5), .val (.int (5 : Int32)), .val (.int (1 : Int32)), .unset, .unset, .unset, .unset, .unset, .unset] [.int (drV i2 (103 : Int32))])
      obtain ⟨c0, ec0, c3673, c3674⟩ : ∃ c, c = (drV i2 (103 : Int32)) ∧ ¬ (255 : Int32) < c ∧ ¬ c < 0 := ⟨_, rfl, own_drR _ (by decide) (by decide)⟩
      rw [← ec0]
      refine kIS X3669 #[.val (.int i0), .val (.int i1), .val (.int i2), .val (.int i3), .val (.int i4), .val (.int i5), .val (.int (5 : Int32)), .val (.int (1 : Int32)), .val (.int c0), .unset, .unset, .unset, .unset, .unset] at_38 rfl ?_
      refine kILn X3669 at_40 rfl ?_
      refine kIL X3669 at_41 rfl ?_
      refine kIFf X3669 at_43 (XT.i0_eq_f (by decide)) ?_
      refine kBI X3669 (112 : Int32) at_46 (by decide) ?_
      refine kGOTO X3669 53 at_48 (by decide) ?_
      have f3675 := O0
      refine kSTAT X3669 (gEL G) (argsL := [.int i3, .int (112 : Int32)]) (rest := []) (wd G 1 rfl) (wd G 2 rfl) (wd G 3 rfl) (wd G 4 rfl) (by decide) (rm2 l G i3 h0 X3669.n f3675 ) all0 (fun _ _ _ _ _ q => q.1) (lenOf pd__IC_C rfl) rfl (by decide) 0 (Nat.le_of_eq rfl) (by decide) (by decide) (by decide) (by rw [hml]; rfl) at_53 (fun v3676 L3677 T3678 h3679 vm3680 K3681 w3682 q3683 C3684 C3685 X3686 => ?_)
      obtain ⟨n3687, ⟨e3688, f3689⟩⟩ := q3683
      subst e3688
      subst f3689
      show Go _ _ _ _ T3678 (mkF m 56 #[.val (.int i0), .val (.int i1), .val (.int i2), .val (.int i3), .val (.int i4), .val (.int i5), .val (.int (5 : Int32)), .val (.int (1 : Int32)), .val (.int c0), .unset, .unset, .unset, .unset, .unset] [.int (drV i3 (112 : Int32))])
      obtain ⟨c1, ec1, c3690, c3691⟩ : ∃ c, c = (drV i3 (112 : Int32)) ∧ ¬ (255 : Int32) < c ∧ ¬ c < 0 := ⟨_, rfl, own_drR _ (by decide) (by decide)⟩
      rw [← ec1]
      refine kIS X3686 #[.val (.int i0), .val (.int i1), .val (.int i2), .val (.int i3), .val (.int i4), .val (.int i5), .val (.int (5 : Int32)), .val (.int (1 : Int32)), .val (.int c0), .val (.int c1), .unset, .unset, .unset, .unset] at_56 rfl ?_
      refine kIL X3686 at_58 rfl ?_
      refine kIL X3686 at_60 rfl ?_
      refine kIFf X3686 at_62 (XT.i0_eq_f (by decide)) ?_
      refine kBI X3686 (99 : Int32) at_65 (by decide) ?_
      refine kGOTO X3686 72 at_67 (by decide) ?_
      have f3692 := f3675
      refine kSTAT X3686 (gEL G) (argsL := [.int i4, .int (99 : Int32)]) (rest := []) (wd G 1 rfl) (wd G 2 rfl) (wd G 3 rfl) (wd G 4 rfl) (by decide) (rm3 l G i4 h0 X3686.n f3692 ) all0 (fun _ _ _ _ _ q => q.1) (lenOf pd__IC_C rfl) rfl (by decide) 0 (Nat.le_of_eq rfl) (by decide) (by decide) (by decide) (by rw [hml]; rfl) at_72 (fun v3693 L3694 T3695 h3696 vm3697 K3698 w3699 q3700 C3701 C3702 X3703 => ?_)
      obtain ⟨n3704, ⟨e3705, f3706⟩⟩ := q3700
      subst e3705
      subst f3706
      show Go _ _ _ _ T3695 (mkF m 75 #[.val (.int i0), .val (.int i1), .val (.int i2), .val (.int i3), .val (.int i4), .val (.int i5), .val (.int (5 : Int32)), .val (.int (1 : Int32)), .val (.int c0), .val (.int c1), .unset, .unset, .unset, .unset] [.int (drV i4 (99 : Int32))])
      obtain ⟨c2, ec2, c3707, c3708⟩ : ∃ c, c = (drV i4 (99 : Int32)) ∧ ¬ (255 : Int32) < c ∧ ¬ c < 0 := ⟨_, rfl, own_drR _ (by decide) (by decide)⟩
      rw [← ec2]
      refine kIS X3703 #[.val (.int i0), .val (.int i1), .val (.int i2), .val (.int i3), .val (.int i4), .val (.int i5), .val (.int (5 : Int32)), .val (.int (1 : Int32)), .val (.int c0), .val (.int c1), .val (.int c2), .unset, .unset, .unset] at_75 rfl ?_
      refine kIL X3703 at_77 rfl ?_
      refine kSI X3703 (255 : Int32) at_79 (by decide) ?_
      refine kIAND X3703 (i5 &&& (255 : Int32)) at_82 rfl ?_
      refine kI2C X3703 (i5 &&& (255 : Int32)) at_83 (i2c_mask _) ?_
      obtain ⟨c3, ec3, c3709, c3710⟩ : ∃ c, c = (i5 &&& (255 : Int32)) ∧ ¬ (255 : Int32) < c ∧ ¬ c < 0 := ⟨_, rfl, own_mask _⟩
      rw [← ec3]
      refine kIS X3703 #[.val (.int i0), .val (.int i1), .val (.int i2), .val (.int i3), .val (.int i4), .val (.int i5), .val (.int (5 : Int32)), .val (.int (1 : Int32)), .val (.int c0), .val (.int c1), .val (.int c2), .val (.int c3), .unset, .unset] at_84 rfl ?_
      refine kIL X3703 at_86 rfl ?_
      refine kIFt X3703 106 at_88 (XT.i0_ne_t (by decide)) (by decide) ?_
      refine kIL X3703 at_106 rfl ?_
      refine kIC X3703 (1 : Int32) at_108 (by decide) ?_
      refine kICt X3703 132 at_109 (XT.ii_ne_t (by decide)) (by decide) ?_
      refine kIL X3703 at_132 rfl ?_
      refine kIC X3703 (2 : Int32) at_134 (by decide) ?_
      refine kICt X3703 163 at_135 (XT.ii_ne_t (by decide)) (by decide) ?_
      refine kIL X3703 at_163 rfl ?_
      refine kIC X3703 (3 : Int32) at_165 (by decide) ?_
      refine kICt X3703 199 at_166 (XT.ii_ne_t (by decide)) (by decide) ?_
      refine kIL X3703 at_199 rfl ?_
      refine kIC X3703 (4 : Int32) at_201 (by decide) ?_
      refine kICt X3703 240 at_202 (XT.ii_ne_t (by decide)) (by decide) ?_
      refine kNULL X3703 at_240 ?_
      refine kAS X3703 #[.val (.int i0), .val (.int i1), .val (.int i2), .val (.int i3), .val (.int i4), .val (.int i5), .val (.int (5 : Int32)), .val (.int (1 : Int32)), .val (.int c0), .val (.int c1), .val (.int c2), .val (.int c3), .val .null, .unset] at_241 rfl rfl ?_
      refine kNULL X3703 at_243 ?_
      refine kAS X3703 #[.val (.int i0), .val (.int i1), .val (.int i2), .val (.int i3), .val (.int i4), .val (.int i5), .val (.int (5 : Int32)), .val (.int (1 : Int32)), .val (.int c0), .val (.int c1), .val (.int c2), .val (.int c3), .val .null, .val .null] at_244 rfl rfl ?_
      refine kIL X3703 at_246 rfl ?_
      refine kIC X3703 (3 : Int32) at_248 (by decide) ?_
      refine kICt X3703 307 at_249 (XT.ii_ne_t (by decide)) (by decide) ?_
      refine kAL X3703 at_307 rfl rfl ?_
      have f3711 := f3692
      refine kSTAT X3703 (gEL G) (argsL := [.null]) (rest := []) (wd G 27 rfl) (wd G 28 rfl) (wd G 29 rfl) (wd G 30 rfl) (by decide) (rm55 l G  h0 X3703.n f3711 ) all0 (fun _ _ _ _ _ q => q.1) (lenOf pd__Ljava_lang_String__Lcom_example_tight_calculus_tightcalculus_Model_Kind_ rfl) rfl (by decide) 0 (Nat.le_of_eq rfl) (by decide) (by decide) (by decide) (by rw [hml]; rfl) at_309 (fun v3712 L3713 T3714 h3715 vm3716 K3717 w3718 q3719 C3720 C3721 X3722 => ?_)
      obtain ⟨n3723, ⟨e3724, f3725⟩⟩ := q3719
      subst e3724
      show Go _ _ _ _ T3714 (mkF m 312 #[.val (.int i0), .val (.int i1), .val (.int i2), .val (.int i3), .val (.int i4), .val (.int i5), .val (.int (5 : Int32)), .val (.int (1 : Int32)), .val (.int c0), .val (.int c1), .val (.int c2), .val (.int c3), .val .null, .val .null] [.null])
      refine kAL X3722 at_312 rfl rfl ?_
      refine kACf X3722 at_314 rfl rfl (XT.aa_ne_f rfl) ?_
      refine kIC X3722 (1 : Int32) at_317 (by decide) ?_
      refine kGOTO X3722 322 at_318 (by decide) ?_
      exact kRETZ X3722 (gEL G) (t := .boolean) hret (by simp) at_322 (fun ve hve => ⟨X3722.N, rfl⟩) (by decide) (by decide)
    · refine kIFt X0 19 at_12 (XT.i0_ne_t c3658) (by decide) ?_
      refine kIC X0 (0 : Int32) at_19 (by decide) ?_
      refine kIS X0 #[.val (.int i0), .val (.int i1), .val (.int i2), .val (.int i3), .val (.int i4), .val (.int i5), .val (.int (5 : Int32)), .val (.int (0 : Int32)), .unset, .unset, .unset, .unset, .unset, .unset] at_20 rfl ?_
      refine kILn X0 at_22 rfl ?_
      refine kIL X0 at_23 rfl ?_
      refine kIFt X0 33 at_25 (XT.i0_eq_t (by decide)) (by decide) ?_
      refine kBI X0 (97 : Int32) at_33 (by decide) ?_
      refine kSTAT X0 (gEL G) (argsL := [.int i2, .int (97 : Int32)]) (rest := []) (wd G 1 rfl) (wd G 2 rfl) (wd G 3 rfl) (wd G 4 rfl) (by decide) (rm12 l G i2 h0 X0.n O0 ) all0 (fun _ _ _ _ _ q => q.1) (lenOf pd__IC_C rfl) rfl (by decide) 0 (Nat.le_of_eq rfl) (by decide) (by decide) (by decide) (by rw [hml]; rfl) at_35 (fun v3726 L3727 T3728 h3729 vm3730 K3731 w3732 q3733 C3734 C3735 X3736 => ?_)
      obtain ⟨n3737, ⟨e3738, f3739⟩⟩ := q3733
      subst e3738
      subst f3739
      show Go _ _ _ _ T3728 (mkF m 38 #[.val (.int i0), .val (.int i1), .val (.int i2), .val (.int i3), .val (.int i4), .val (.int i5), .val (.int (5 : Int32)), .val (.int (0 : Int32)), .unset, .unset, .unset, .unset, .unset, .unset] [.int (drV i2 (97 : Int32))])
      obtain ⟨c0, ec0, c3740, c3741⟩ : ∃ c, c = (drV i2 (97 : Int32)) ∧ ¬ (255 : Int32) < c ∧ ¬ c < 0 := ⟨_, rfl, own_drR _ (by decide) (by decide)⟩
      rw [← ec0]
      refine kIS X3736 #[.val (.int i0), .val (.int i1), .val (.int i2), .val (.int i3), .val (.int i4), .val (.int i5), .val (.int (5 : Int32)), .val (.int (0 : Int32)), .val (.int c0), .unset, .unset, .unset, .unset, .unset] at_38 rfl ?_
      refine kILn X3736 at_40 rfl ?_
      refine kIL X3736 at_41 rfl ?_
      refine kIFt X3736 51 at_43 (XT.i0_eq_t (by decide)) (by decide) ?_
      refine kBI X3736 (110 : Int32) at_51 (by decide) ?_
      have f3742 := O0
      refine kSTAT X3736 (gEL G) (argsL := [.int i3, .int (110 : Int32)]) (rest := []) (wd G 1 rfl) (wd G 2 rfl) (wd G 3 rfl) (wd G 4 rfl) (by decide) (rm13 l G i3 h0 X3736.n f3742 ) all0 (fun _ _ _ _ _ q => q.1) (lenOf pd__IC_C rfl) rfl (by decide) 0 (Nat.le_of_eq rfl) (by decide) (by decide) (by decide) (by rw [hml]; rfl) at_53 (fun v3743 L3744 T3745 h3746 vm3747 K3748 w3749 q3750 C3751 C3752 X3753 => ?_)
      obtain ⟨n3754, ⟨e3755, f3756⟩⟩ := q3750
      subst e3755
      subst f3756
      show Go _ _ _ _ T3745 (mkF m 56 #[.val (.int i0), .val (.int i1), .val (.int i2), .val (.int i3), .val (.int i4), .val (.int i5), .val (.int (5 : Int32)), .val (.int (0 : Int32)), .val (.int c0), .unset, .unset, .unset, .unset, .unset] [.int (drV i3 (110 : Int32))])
      obtain ⟨c1, ec1, c3757, c3758⟩ : ∃ c, c = (drV i3 (110 : Int32)) ∧ ¬ (255 : Int32) < c ∧ ¬ c < 0 := ⟨_, rfl, own_drR _ (by decide) (by decide)⟩
      rw [← ec1]
      refine kIS X3753 #[.val (.int i0), .val (.int i1), .val (.int i2), .val (.int i3), .val (.int i4), .val (.int i5), .val (.int (5 : Int32)), .val (.int (0 : Int32)), .val (.int c0), .val (.int c1), .unset, .unset, .unset, .unset] at_56 rfl ?_
      refine kIL X3753 at_58 rfl ?_
      refine kIL X3753 at_60 rfl ?_
      refine kIFt X3753 70 at_62 (XT.i0_eq_t (by decide)) (by decide) ?_
      refine kBI X3753 (100 : Int32) at_70 (by decide) ?_
      have f3759 := f3742
      refine kSTAT X3753 (gEL G) (argsL := [.int i4, .int (100 : Int32)]) (rest := []) (wd G 1 rfl) (wd G 2 rfl) (wd G 3 rfl) (wd G 4 rfl) (by decide) (rm14 l G i4 h0 X3753.n f3759 ) all0 (fun _ _ _ _ _ q => q.1) (lenOf pd__IC_C rfl) rfl (by decide) 0 (Nat.le_of_eq rfl) (by decide) (by decide) (by decide) (by rw [hml]; rfl) at_72 (fun v3760 L3761 T3762 h3763 vm3764 K3765 w3766 q3767 C3768 C3769 X3770 => ?_)
      obtain ⟨n3771, ⟨e3772, f3773⟩⟩ := q3767
      subst e3772
      subst f3773
      show Go _ _ _ _ T3762 (mkF m 75 #[.val (.int i0), .val (.int i1), .val (.int i2), .val (.int i3), .val (.int i4), .val (.int i5), .val (.int (5 : Int32)), .val (.int (0 : Int32)), .val (.int c0), .val (.int c1), .unset, .unset, .unset, .unset] [.int (drV i4 (100 : Int32))])
      obtain ⟨c2, ec2, c3774, c3775⟩ : ∃ c, c = (drV i4 (100 : Int32)) ∧ ¬ (255 : Int32) < c ∧ ¬ c < 0 := ⟨_, rfl, own_drR _ (by decide) (by decide)⟩
      rw [← ec2]
      refine kIS X3770 #[.val (.int i0), .val (.int i1), .val (.int i2), .val (.int i3), .val (.int i4), .val (.int i5), .val (.int (5 : Int32)), .val (.int (0 : Int32)), .val (.int c0), .val (.int c1), .val (.int c2), .unset, .unset, .unset] at_75 rfl ?_
      refine kIL X3770 at_77 rfl ?_
      refine kSI X3770 (255 : Int32) at_79 (by decide) ?_
      refine kIAND X3770 (i5 &&& (255 : Int32)) at_82 rfl ?_
      refine kI2C X3770 (i5 &&& (255 : Int32)) at_83 (i2c_mask _) ?_
      obtain ⟨c3, ec3, c3776, c3777⟩ : ∃ c, c = (i5 &&& (255 : Int32)) ∧ ¬ (255 : Int32) < c ∧ ¬ c < 0 := ⟨_, rfl, own_mask _⟩
      rw [← ec3]
      refine kIS X3770 #[.val (.int i0), .val (.int i1), .val (.int i2), .val (.int i3), .val (.int i4), .val (.int i5), .val (.int (5 : Int32)), .val (.int (0 : Int32)), .val (.int c0), .val (.int c1), .val (.int c2), .val (.int c3), .unset, .unset] at_84 rfl ?_
      refine kIL X3770 at_86 rfl ?_
      refine kIFt X3770 106 at_88 (XT.i0_ne_t (by decide)) (by decide) ?_
      refine kIL X3770 at_106 rfl ?_
      refine kIC X3770 (1 : Int32) at_108 (by decide) ?_
      refine kICt X3770 132 at_109 (XT.ii_ne_t (by decide)) (by decide) ?_
      refine kIL X3770 at_132 rfl ?_
      refine kIC X3770 (2 : Int32) at_134 (by decide) ?_
      refine kICt X3770 163 at_135 (XT.ii_ne_t (by decide)) (by decide) ?_
      refine kIL X3770 at_163 rfl ?_
      refine kIC X3770 (3 : Int32) at_165 (by decide) ?_
      refine kICt X3770 199 at_166 (XT.ii_ne_t (by decide)) (by decide) ?_
      refine kIL X3770 at_199 rfl ?_
      refine kIC X3770 (4 : Int32) at_201 (by decide) ?_
      refine kICt X3770 240 at_202 (XT.ii_ne_t (by decide)) (by decide) ?_
      refine kNULL X3770 at_240 ?_
      refine kAS X3770 #[.val (.int i0), .val (.int i1), .val (.int i2), .val (.int i3), .val (.int i4), .val (.int i5), .val (.int (5 : Int32)), .val (.int (0 : Int32)), .val (.int c0), .val (.int c1), .val (.int c2), .val (.int c3), .val .null, .unset] at_241 rfl rfl ?_
      refine kNULL X3770 at_243 ?_
      refine kAS X3770 #[.val (.int i0), .val (.int i1), .val (.int i2), .val (.int i3), .val (.int i4), .val (.int i5), .val (.int (5 : Int32)), .val (.int (0 : Int32)), .val (.int c0), .val (.int c1), .val (.int c2), .val (.int c3), .val .null, .val .null] at_244 rfl rfl ?_
      refine kIL X3770 at_246 rfl ?_
      refine kIC X3770 (3 : Int32) at_248 (by decide) ?_
      refine kICt X3770 307 at_249 (XT.ii_ne_t (by decide)) (by decide) ?_
      refine kAL X3770 at_307 rfl rfl ?_
      have f3778 := f3759
      refine kSTAT X3770 (gEL G) (argsL := [.null]) (rest := []) (wd G 27 rfl) (wd G 28 rfl) (wd G 29 rfl) (wd G 30 rfl) (by decide) (rm55 l G  h0 X3770.n f3778 ) all0 (fun _ _ _ _ _ q => q.1) (lenOf pd__Ljava_lang_String__Lcom_example_tight_calculus_tightcalculus_Model_Kind_ rfl) rfl (by decide) 0 (Nat.le_of_eq rfl) (by decide) (by decide) (by decide) (by rw [hml]; rfl) at_309 (fun v3779 L3780 T3781 h3782 vm3783 K3784 w3785 q3786 C3787 C3788 X3789 => ?_)
      obtain ⟨n3790, ⟨e3791, f3792⟩⟩ := q3786
      subst e3791
      show Go _ _ _ _ T3781 (mkF m 312 #[.val (.int i0), .val (.int i1), .val (.int i2), .val (.int i3), .val (.int i4), .val (.int i5), .val (.int (5 : Int32)), .val (.int (0 : Int32)), .val (.int c0), .val (.int c1), .val (.int c2), .val (.int c3), .val .null, .val .null] [.null])
      refine kAL X3789 at_312 rfl rfl ?_
      refine kACf X3789 at_314 rfl rfl (XT.aa_ne_f rfl) ?_
      refine kIC X3789 (1 : Int32) at_317 (by decide) ?_
      refine kGOTO X3789 322 at_318 (by decide) ?_
      exact kRETZ X3789 (gEL G) (t := .boolean) hret (by simp) at_322 (fun ve hve => ⟨X3789.N, rfl⟩) (by decide) (by decide)
theorem own_len {args : Array Value} {s : State} {t : Term} {a : Addr} {cl : Cell} {ty : FieldType} {n : Int32} (ht : t.eval args s none [] s = some (.ref a)) (A : Arr s s.heap a cl ty) (h : (Cond.eq (.length t) (.int n)).value args s none s [] = some true) : cl.slots.size < 2 ^ 31 ∧ cl.slots.size.toInt32 = n := by
  obtain ⟨x, y, e1, e2, k1, k2⟩ := cmp_v (Or.inl h)
  have e3 : y = .int n := Option.some.inj (e2.symm.trans (Term.int_eval n))
  subst e3
  obtain ⟨z, rfl⟩ := k2
  have e4 := gotT (Cond.eq_ints e1 (Term.int_eval n)) h
  subst e4
  obtain ⟨a2, c2, g1, g2, g3⟩ := Term.length_spec e1
  cases ht.symm.trans g1
  have ha := A.fin (Vm.Alike.refl _)
  cases ha.symm.trans g2
  refine ⟨?_, (Value.int.inj g3).symm⟩
  by_cases q : cl.slots.size < 2 ^ 31
  · exact q
  · exfalso
    simp [Term.eval, ht, ha, q] at e1
theorem own_elI {args : Array Value} {s : State} {t : Term} {a : Addr} {cl : Cell} {ty : FieldType} {j w : Int32} (ht : t.eval args s none [] s = some (.ref a)) (A : Arr s s.heap a cl ty) (h : (Cond.eq (.elem t (.int j)) (.int w)).value args s none s [] = some true) : cl.slots[j.toNatClampNeg]? = some (.int w) := by
  obtain ⟨x, y, e1, e2, k1, k2⟩ := cmp_v (Or.inl h)
  have e3 : y = .int w := Option.some.inj (e2.symm.trans (Term.int_eval w))
  subst e3
  obtain ⟨z, rfl⟩ := k2
  have e4 := gotT (Cond.eq_ints e1 (Term.int_eval w)) h
  subst e4
  exact (elem_in e1 ht (Term.int_eval j) A.1).2
theorem own_elR {args : Array Value} {s : State} {t u : Term} {a b : Addr} {cl : Cell} {ty : FieldType} {j : Int32} (ht : t.eval args s none [] s = some (.ref a)) (hu : u.eval args s none [] s = some (.ref b)) (A : Arr s s.heap a cl ty) (h : (Cond.eq (.elem t (.int j)) u).value args s none s [] = some true) : cl.slots[j.toNatClampNeg]? = some (.ref b) := by
  obtain ⟨x, y, e1, e2, k1, k2⟩ := cmp_v (Or.inl h)
  cases hu.symm.trans e2
  have q := (elem_in e1 ht (Term.int_eval j) A.1).2
  have e4 := gotT (eq_R e1 hu k2.2 rfl) h
  rw [q, e4]
theorem own_arvR {args : Array Value} {s : State} {t u w : Term} {a b d : Addr} {C : String} (hf : Fit s) (ht : t.eval args s none [] s = some (.ref a)) (mA : (Cond.arrayOf t (.object C)).value args s none s [] = some true) (mL : (Cond.eq (.length t) (.int 2)).value args s none s [] = some true)
    (m0 : (Cond.eq (.elem t (.int 0)) u).value args s none s [] = some true) (m1 : (Cond.eq (.elem t (.int 1)) w).value args s none s [] = some true) (hu : u.eval args s none [] s = some (.ref b)) (hw : w.eval args s none [] s = some (.ref d)) : ∃ k, Arv s s.heap a k (.object C) 2 [.ref b, .ref d] .null := by
  obtain ⟨cl, A⟩ := Arr.start ht mA
  obtain ⟨q1, q2⟩ := own_len ht A mL
  exact ⟨cl.cls, Arv.start hf A q1 q2 (by decide) rfl ⟨own_elR ht hu A m0, own_elR ht hw A m1, trivial⟩⟩
theorem own_arvB {args : Array Value} {s : State} {t : Term} {o : Addr} {C n d : String} {x0 x1 x2 : Int32} (hf : Fit s) (ht : t.eval args s none [] s = some (.ref o)) (mA : (Cond.arrayOf (.field t C n d) .byte).value args s none s [] = some true) (mL : (Cond.eq (.length (.field t C n d)) (.int 3)).value args s none s [] = some true)
    (m0 : (Cond.eq (.elem (.field t C n d) (.int 0)) (.int x0)).value args s none s [] = some true) (m1 : (Cond.eq (.elem (.field t C n d) (.int 1)) (.int x1)).value args s none s [] = some true) (m2 : (Cond.eq (.elem (.field t C n d) (.int 2)) (.int x2)).value args s none s [] = some true) :
    ∃ a k, Fld s s.heap o C n d (.ref a) ∧ Arv s s.heap a k .byte 3 [.int x0, .int x1, .int x2] (.int 0) := by
  obtain ⟨a, ev⟩ := arr_v mA
  obtain ⟨cl, A⟩ := Arr.start ev mA
  obtain ⟨q1, q2⟩ := own_len ev A mL
  exact ⟨a, cl.cls, Fld.start (by rw [← fld_at ht]; exact ev), Arv.start hf A q1 q2 (by decide) rfl ⟨own_elI ev A m0, own_elI ev A m1, own_elI ev A m2, trivial⟩⟩
theorem own_fldv {args : Array Value} {s : State} {t : Term} {a : Addr} {C n d : String} {k : Int32} (ht : t.eval args s none [] s = some (.ref a)) (h : (Cond.eq (.field t C n d) (.int k)).value args s none s [] = some true) : Fld s s.heap a C n d (.int k) := by
  obtain ⟨x, y, e1, e2, k1, k2⟩ := cmp_v (Or.inl h)
  have e3 : y = .int k := Option.some.inj (e2.symm.trans (Term.int_eval k))
  subst e3
  obtain ⟨z, rfl⟩ := k2
  refine Fld.start ?_
  rw [← fld_at ht, e1]
  have := gotT (Cond.eq_ints e1 (Term.int_eval k)) h
  rw [this]
set_option maxRecDepth 65536 in
set_option maxHeartbeats 40000000 in
theorem comes_1 {Post : Tables → Env → Array Value → State → Outcome → State → Prop} (hpost : ∀ tb e args s v u, (limb_1_1.after args s (.returned v) u = true ∧ limb_1_2.after args s (.returned v) u = true ∧ True) → ReturnedEndW s (.returned v) u (Jvm.fieldLocs frame_1_writes args s ++ Jvm.arrayLocs frame_1_arrays args s ++ Jvm.staticLocs frame_1_statics s) 24 1152 → Post tb e args s (.returned v) u) :
    ArmFor flags0 classFile x code maxLocals ret World_1 tables_1 room_1 Calls_1 rest_1 Pre_1 Post := by
  intro l hfl _ _ p e ha hc hk s m args below hf hA hF happ hP
  obtain ⟨hcalls, hrest, hpre⟩ := hP
  obtain ⟨-, -, -, hnamed, -, -, -, hat⟩ := (Spec.applies_iff hf).mp happ
  obtain ⟨hg, hn⟩ := and_e (Cond.before_iff.mp (show (Jvm.Cond.and given_1 narrow_1).before args s = true from hpre))
  obtain ⟨h1, hg⟩ := and_e hg
  obtain ⟨w0, w1, w2, w3, w4, w5, rfl⟩ : ∃ w0 w1 w2 w3 w4 w5 : Value, args = #[w0, w1, w2, w3, w4, w5] := by
    have hs : args.size = 6 := by simpa [Cond.value, given_1] using h1
    obtain ⟨L⟩ := args
    match L, hs with
    | [w0, w1, w2, w3, w4, w5], _ => exact ⟨w0, w1, w2, w3, w4, w5, rfl⟩
  obtain ⟨hg0, hg⟩ := and_e hg
  obtain ⟨i0, ei0⟩ := is_v hg0
  obtain rfl : w0 = (.int i0) := Option.some.inj ei0
  obtain ⟨hg1, hg⟩ := and_e hg
  obtain ⟨i1, ei1⟩ := is_v hg1
  obtain rfl : w1 = (.int i1) := Option.some.inj ei1
  obtain ⟨hg2, hg⟩ := and_e hg
  obtain ⟨i2, ei2⟩ := is_v hg2
  obtain rfl : w2 = (.int i2) := Option.some.inj ei2
  obtain ⟨hg3, hg⟩ := and_e hg
  obtain ⟨i3, ei3⟩ := is_v hg3
  obtain rfl : w3 = (.int i3) := Option.some.inj ei3
  obtain ⟨hg4, hg⟩ := and_e hg
  obtain ⟨i4, ei4⟩ := is_v hg4
  obtain rfl : w4 = (.int i4) := Option.some.inj ei4
  have hg5 := hg
  obtain ⟨i5, ei5⟩ := is_v hg5
  obtain rfl : w5 = (.int i5) := Option.some.inj ei5
  have hw := fun d (hd : d ∈ tables_1) => atoms_spec (ws := Jvm.Cond.code x code maxLocals ret :: tables_1) hat d (List.mem_cons_of_mem _ hd)
  have hfit : Fit s := fun {y c} hc i hi => by
    obtain ⟨ha, rfl⟩ := Array.getElem?_eq_some_iff.mp hc
    have q := List.all_eq_true.mp ((Array.all_eq_true_iff_forall_mem.mp hF) _ (Array.getElem_mem ha)) i (List.mem_range.mpr hi)
    simpa [Array.getElem?_eq_getElem hi] using q
  obtain ⟨hsets, hown0⟩ := atoms_of _ (rest_1_c_eq ▸ (show rest_1_c.before _ s = true from hrest))
  have wk : ∀ (k : Nat) {d : Jvm.Cond}, tables_1[k]? = some d → d.before _ s = true := fun k d h => hw d (List.mem_of_getElem? h)
  have rk : ∀ (k : Nat) {d : Jvm.Cond}, jdkStatics_1[k]? = some d → d.before _ s = true := fun k d h => hsets d (List.mem_of_getElem? h)
  have wS : ∀ a ∈ Bundle.stringAtoms, a.before _ s = true := fun a hm => by
    simp only [Bundle.stringAtoms, List.mem_cons, List.not_mem_nil, or_false] at hm
    rcases hm with rfl | rfl | rfl | rfl | rfl | rfl | rfl
    · exact (wk 7 rfl)
    · exact (wk 6 rfl)
    · exact (wk 20 rfl)
    · exact (wk 21 rfl)
    · exact (wk 22 rfl)
    · exact (wk 23 rfl)
    · exact (wk 24 rfl)
  have hEL : EW s _ EL0 := (EW.cons (wk 19 rfl) (by decide) EW.nil)
  have hh : ∀ p ∈ EL0, Jvm.Lit.constHeld s p.1 p.2 := fun p hp => hcalls.1 p (by revert hp; revert p; decide)
  have hC : CHv s EL0 s.vm s.heap := CHv.start hEL hh (rk 2 rfl) (wk 20 rfl) (wk 6 rfl)
  obtain ⟨m0, hn⟩ := and_e hn
  obtain ⟨m1, hn⟩ := and_e hn
  obtain ⟨m2, hn⟩ := and_e hn
  obtain ⟨m3, hn⟩ := and_e hn
  obtain ⟨m4, hn⟩ := and_e hn
  obtain ⟨m5, hn⟩ := and_e hn
  obtain ⟨m6, hn⟩ := and_e hn
  obtain ⟨m7, hn⟩ := and_e hn
  obtain ⟨m8, hn⟩ := and_e hn
  obtain ⟨m9, hn⟩ := and_e hn
  obtain ⟨m10, hn⟩ := and_e hn
  obtain ⟨m11, hn⟩ := and_e hn
  obtain ⟨m12, hn⟩ := and_e hn
  obtain ⟨m13, hn⟩ := and_e hn
  obtain ⟨m14, hn⟩ := and_e hn
  obtain ⟨m15, hn⟩ := and_e hn
  obtain ⟨m16, hn⟩ := and_e hn
  obtain ⟨m17, hn⟩ := and_e hn
  obtain ⟨m18, hn⟩ := and_e hn
  obtain ⟨m19, hn⟩ := and_e hn
  have m20 := hn
  obtain ⟨aV, vV⟩ := exa_v m1
  obtain ⟨aG, vG⟩ := exa_v m3
  obtain ⟨aN, vN⟩ := exa_v m5
  have S_V := Sta.start vV (Or.inl (wk 45 rfl))
  have S_G := Sta.start vG (Or.inr ⟨(wk 29 rfl), (wk 43 rfl)⟩)
  have S_N := Sta.start vN (Or.inr ⟨(wk 29 rfl), (wk 44 rfl)⟩)
  have E_V := Exa.start vV m1
  have E_G := Exa.start vG m3
  have E_N := Exa.start vN m5
  obtain ⟨kV, A_V⟩ := own_arvR hfit vV m0 m2 m4 m6 vG vN
  obtain ⟨tG, qG⟩ := exa_v m7
  have F_G := Fld.start (by rw [← fld_at vG]; exact qG)
  have ES_G := Exa.start qG m7
  have FC_G := own_fldv qG m8
  obtain ⟨bG, kG, FV_G, AB_G⟩ := own_arvB hfit qG m9 m10 m15 m17 m20
  obtain ⟨tN, qN⟩ := exa_v m11
  have F_N := Fld.start (by rw [← fld_at vN]; exact qN)
  have ES_N := Exa.start qN m11
  have FC_N := own_fldv qN m12
  obtain ⟨bN, kN, FV_N, AB_N⟩ := own_arvB hfit qN m13 m14 m16 m18 m19
  obtain ⟨iCS, eCS⟩ := is_v (Cond.before_iff.mp (rk 1 rfl))
  have S_CS := Sta.start eCS (Or.inl (rk 0 rfl))
  have n_CS : ¬ iCS = 0 := gotF (Cond.eq_ints eCS (Term.int_eval 0)) (not_v (Cond.before_iff.mp (rk 2 rfl)))
  have G : Glob s _ iCS aV aG aN tG tN bG bN kV kG kN := ⟨hw, hEL, wS, S_CS, n_CS, S_V, S_G, S_N, E_V, A_V, E_G, F_G, ES_G, FC_G, FV_G, AB_G, E_N, F_N, ES_N, FC_N, FV_N, AB_N⟩
  obtain ⟨n, o, h1, h2, h3, _, L, rfl, ⟨N, rfl⟩, hCr, hq⟩ := rm0 l G i0 i1 i2 i3 i4 i5 s.heap (Nat.le_refl _) (Old.start s) p e ha hc hk s m _ below hf ((Spec.applies_iff_loose hf).mp happ).1 ⟨rfl, State.Warmed39.refl s, rfl, hC, all0⟩ trivial
  refine ⟨n, _, h1, h2, h3, hpost _ _ _ _ _ _ ⟨Cond.after_iff.mpr rfl, Cond.after_iff.mpr (eq_i res_at (Term.int_eval (1)) rfl), trivial⟩ ⟨hq.1, hq.2.1, hq.2.2.1, (hq.2.2.2.sift fun y hy => Or.inr (N y hy)).mono (by decide) (by decide)⟩⟩
theorem main_1_1 : Claimed_1_1 := comes_1 fun _ _ _ _ _ _ h hF => ⟨h.1, hF⟩
theorem main_1_2 : Claimed_1_2 := comes_1 fun _ _ _ _ _ _ h hF => ⟨h.2.1, hF⟩
end Jvm.Pilot.@@N@@
namespace Jvm.Pilot.@@N@@
open Jvm Jvm.ClassFile Sem Op Lib Jvm.Free Jvm.Stand Jvm.Pilot.@@N@@.Jvm.D
/-! MADE BY PROGRAM (witnessworld.py) out of the Statement's table words and the real class files: 22 classes; the members and pool entries that the words name. The judged class is class 1, her method 2. -/
namespace start1
open Jvm.ClassFile
def u (s : String) : CpInfo := .utf8 (stringToUtf16 s)
/-- a pool by its gaps: so many unusable entries, then the entry; so many at the end -/
def gap : Nat → List CpInfo → List CpInfo
  | 0, r => r
  | n + 1, r => .unusable :: gap n r
def poolList (es : List (Nat × CpInfo)) (last : Nat) : List CpInfo := es.foldr (fun e r => gap e.1 (e.2 :: r)) (gap last [])
def pool (es : List (Nat × CpInfo)) (last : Nat) : Array CpInfo := ⟨poolList es last⟩
def fileOf (pool : Array CpInfo) (this : Nat) (attrs : Array Attribute := #[]) (ms : Array MethodInfo := #[]) (fl : Nat := 33) (sup : Nat := 0) (ifs : Array Nat := #[]) (fds : Array FieldInfo := #[]) : ClassFile where
  minorVersion := 0
  majorVersion := 65
  constantPool := pool
  accessFlags := fl
  thisClass := this
  superClass := sup
  interfaces := ifs
  fields := fds
  methods := ms
  attributes := attrs
def plain (name : String) (sup : Option ClassId) : Class where
  name := name
  kind := .ordinary
  loader := none
  accessFlags := 33
  super := sup
  interfaces := #[]
  cf := none
  fields := #[]
  methods := #[]
  instanceTypes := #[]
  staticTypes := #[]
  resolved := #[]
  callSites := []
  init := .initialized
  statics := none
  mirror := none

def pool0 : Array CpInfo := pool [(5, u "<init>"), (0, u "()V"), (1, .class_ 10), (1, u "java/lang/Object"), (85, u "clone"), (0, u "()Ljava/lang/Object;")] 26

def k0c0 : Code := { maxStack := 0, maxLocals := 1, code := object_method_1_code, exceptionTable := #[], attributes := #[] }
def k0m0 : Method := { name := "<init>", desc := "()V", sig := { parameters := [], returnType := none }, accessFlags := 1, code := some k0c0 }
def k0m1 : Method := { name := "clone", desc := "()Ljava/lang/Object;", sig := { parameters := [], returnType := some (.object "java/lang/Object") }, accessFlags := 260, code := none }
/-- java/lang/Object -/
def k0 : Class := { plain "java/lang/Object" none with
  accessFlags := 33
  interfaces := #[]
  cf := some (fileOf pool0 8 #[] #[{ accessFlags := 1, nameIndex := 5, descriptorIndex := 6, attributes := #[] }, { accessFlags := 260, nameIndex := 96, descriptorIndex := 97, attributes := #[] }] 33 0 #[] #[])
  fields := #[]
  methods := #[k0m0, k0m1]
  instanceTypes := #[]
  staticTypes := #[]
  resolved := Array.replicate 124 none
  statics := none }

def pool1 : Array CpInfo := pool [(2, .class_ 4), (1, u "java/lang/Object"), (0, u "<init>"), (0, u "()V"), (0, .integer 2147483647), (0, .methodref 9 10), (0, .class_ 11), (0, .nameAndType 12 13), (0, u "com/example/tight_calculus/tightcalculus/KindNamedPinLaw"), (0, u "drawn"), (0, u "(IC)C"), (0, .class_ 15), (0, u "java/lang/String"), (0, .methodref 14 17), (0, .nameAndType 5 18), (0, u "([C)V"), (0, .fieldref 20 21), (0, .class_ 22), (0, .nameAndType 23 24), (0, u "com/example/tight_calculus/tightcalculus/Model$Kind"), (0, u "GPC"), (0, u "Lcom/example/tight_calculus/tightcalculus/Model$Kind;"), (0, .fieldref 20 26), (0, .nameAndType 27 24), (0, u "AND"), (0, .methodref 20 29), (0, .nameAndType 30 31), (0, u "named"), (0, u "(Ljava/lang/String;)Lcom/example/tight_calculus/tightcalculus/Model$Kind;"), (3, u "law"), (0, u "(IIIIII)Z")] 6

def k1m0 : Method := { name := "<init>", desc := "()V", sig := { parameters := [], returnType := none }, accessFlags := 1, code := none }
def k1c1 : Code := { maxStack := 2, maxLocals := 2, code := method_2_code, exceptionTable := #[], attributes := #[] }
def k1m1 : Method := { name := "drawn", desc := "(IC)C", sig := { parameters := [.int, .char], returnType := some .char }, accessFlags := 10, code := some k1c1 }
def k1c2 : Code := { maxStack := 6, maxLocals := 14, code := code, exceptionTable := #[], attributes := #[] }
def k1m2 : Method := { name := "law", desc := "(IIIIII)Z", sig := { parameters := [.int, .int, .int, .int, .int, .int], returnType := some .boolean }, accessFlags := 9, code := some k1c2 }
/-- com/example/tight_calculus/tightcalculus/KindNamedPinLaw -/
def k1 : Class := { plain "com/example/tight_calculus/tightcalculus/KindNamedPinLaw" (some 0) with
  accessFlags := 49
  interfaces := #[]
  cf := some (fileOf pool1 9 #[] #[{ accessFlags := 1, nameIndex := 5, descriptorIndex := 6, attributes := #[] }, { accessFlags := 10, nameIndex := 12, descriptorIndex := 13, attributes := #[] }, { accessFlags := 9, nameIndex := 35, descriptorIndex := 36, attributes := #[] }] 49 2 #[] #[])
  fields := #[]
  methods := #[k1m0, k1m1, k1m2]
  instanceTypes := #[]
  staticTypes := #[]
  resolved := Array.replicate 43 none
  statics := none }

def pool2 : Array CpInfo := pool [(1, .class_ 2), (0, u "java/io/Serializable"), (0, .class_ 4), (0, u "java/lang/Object")] 2

/-- java/io/Serializable -/
def k2 : Class := { plain "java/io/Serializable" (some 0) with
  accessFlags := 1537
  interfaces := #[]
  cf := some (fileOf pool2 1 #[] #[] 1537 3 #[] #[])
  fields := #[]
  methods := #[]
  instanceTypes := #[]
  staticTypes := #[]
  resolved := Array.replicate 7 none
  statics := none }

def pool3 : Array CpInfo := pool [(1, .class_ 2), (0, u "java/lang/Comparable"), (0, .class_ 4), (0, u "java/lang/Object")] 7

/-- java/lang/Comparable -/
def k3 : Class := { plain "java/lang/Comparable" (some 0) with
  accessFlags := 1537
  interfaces := #[]
  cf := some (fileOf pool3 1 #[] #[] 1537 3 #[] #[])
  fields := #[]
  methods := #[]
  instanceTypes := #[]
  staticTypes := #[]
  resolved := Array.replicate 12 none
  statics := none }

def pool4 : Array CpInfo := pool [(2, .class_ 4), (1, u "java/lang/CharSequence"), (42, .class_ 48), (0, u "java/lang/CharSequence$1CodePointIterator"), (10, .class_ 60), (0, u "java/lang/CharSequence$1CharIterator"), (5, .class_ 67), (0, u "java/lang/Object")] 63

/-- java/lang/CharSequence -/
def k4 : Class := { plain "java/lang/CharSequence" (some 0) with
  accessFlags := 1537
  interfaces := #[]
  cf := some (fileOf pool4 2 #[.nestMembers #[47, 59]] #[] 1537 66 #[] #[])
  fields := #[]
  methods := #[]
  instanceTypes := #[]
  staticTypes := #[]
  resolved := Array.replicate 131 none
  statics := none }

def pool5 : Array CpInfo := pool [(1, .class_ 2), (0, u "java/lang/constant/Constable"), (0, .class_ 4), (0, u "java/lang/Object")] 6

/-- java/lang/constant/Constable -/
def k5 : Class := { plain "java/lang/constant/Constable" (some 0) with
  accessFlags := 1537
  interfaces := #[]
  cf := some (fileOf pool5 1 #[] #[] 1537 3 #[] #[])
  fields := #[]
  methods := #[]
  instanceTypes := #[]
  staticTypes := #[]
  resolved := Array.replicate 11 none
  statics := none }

def pool6 : Array CpInfo := pool [(1, .class_ 2), (0, u "java/lang/constant/ConstantDesc"), (0, .class_ 4), (0, u "java/lang/Object")] 32

/-- java/lang/constant/ConstantDesc -/
def k6 : Class := { plain "java/lang/constant/ConstantDesc" (some 0) with
  accessFlags := 1537
  interfaces := #[]
  cf := some (fileOf pool6 1 #[] #[] 1537 3 #[] #[])
  fields := #[]
  methods := #[]
  instanceTypes := #[]
  staticTypes := #[]
  resolved := Array.replicate 37 none
  statics := none }

def pool7 : Array CpInfo := pool [(1, .methodref 2 3), (0, .class_ 4), (0, .nameAndType 5 6), (0, u "java/lang/Object"), (0, u "<init>"), (0, u "()V"), (0, .string 8), (0, u ""), (0, .fieldref 10 11), (0, .class_ 12), (0, .nameAndType 13 14), (0, u "java/lang/String"), (0, u "value"), (0, u "[B"), (0, .fieldref 10 16), (0, .nameAndType 17 18), (0, u "coder"), (0, u "B"), (2, u "hash"), (0, u "I"), (2, u "hashIsZero"), (0, u "Z"), (0, .methodref 10 28), (0, .nameAndType 5 29), (0, u "([CIILjava/lang/Void;)V"), (8, .fieldref 10 39), (0, .nameAndType 40 26), (0, u "COMPACT_STRINGS"), (1, .class_ 44), (1, u "java/lang/StringUTF16"), (0, u "compress"), (1, .methodref 42 48), (0, .nameAndType 49 50), (0, u "coderFromArrayLen"), (0, u "([BI)B"), (56, .class_ 109), (1, u "java/lang/StringLatin1"), (67, .methodref 42 178), (0, .nameAndType 45 179), (0, u "([CII)[B"), (361, .methodref 107 542), (0, .nameAndType 543 544), (0, u "equals"), (0, u "([B[B)Z"), (28, u "(Ljava/lang/Object;)Z"), (1, .class_ 576), (0, u "java/lang/CharSequence"), (22, u "CASE_INSENSITIVE_ORDER"), (0, u "Ljava/util/Comparator;"), (409, u "([C)V"), (90, u "serialPersistentFields"), (0, u "[Ljava/io/ObjectStreamField;"), (0, .class_ 1104), (0, u "java/lang/String$CaseInsensitiveComparator"), (1, .class_ 1107), (0, u "java/io/Serializable"), (0, .class_ 1109), (0, u "java/lang/Comparable"), (0, .class_ 1111), (0, u "java/lang/constant/Constable"), (0, .class_ 1113), (0, u "java/lang/constant/ConstantDesc"), (2, u "serialVersionUID"), (0, u "J"), (3, u "REPL"), (0, u "C"), (2, u "LATIN1"), (1, u "UTF16")] 323

def k7m0 : Method := { name := "<init>", desc := "()V", sig := { parameters := [], returnType := none }, accessFlags := 1, code := none }
def k7c1 : Code := { maxStack := 5, maxLocals := 2, code := jdk_42_method_3_code, exceptionTable := #[], attributes := #[] }
def k7m1 : Method := { name := "<init>", desc := "([C)V", sig := { parameters := [(.array .char)], returnType := none }, accessFlags := 1, code := some k7c1 }
def k7c2 : Code := { maxStack := 2, maxLocals := 3, code := jdk_42_method_66_code, exceptionTable := #[], attributes := #[] }
def k7m2 : Method := { name := "equals", desc := "(Ljava/lang/Object;)Z", sig := { parameters := [(.object "java/lang/Object")], returnType := some .boolean }, accessFlags := 1, code := some k7c2 }
def k7c3 : Code := { maxStack := 4, maxLocals := 6, code := jdk_42_method_149_code, exceptionTable := #[], attributes := #[] }
def k7m3 : Method := { name := "<init>", desc := "([CIILjava/lang/Void;)V", sig := { parameters := [(.array .char), .int, .int, (.object "java/lang/Void")], returnType := none }, accessFlags := 2, code := some k7c3 }
/-- java/lang/String -/
def k7 : Class := { plain "java/lang/String" (some 0) with
  accessFlags := 49
  interfaces := #[2, 3, 4, 5, 6]
  cf := some (fileOf pool7 10 #[.nestMembers #[1103]] #[{ accessFlags := 1, nameIndex := 5, descriptorIndex := 6, attributes := #[] }, { accessFlags := 1, nameIndex := 5, descriptorIndex := 1010, attributes := #[] }, { accessFlags := 1, nameIndex := 543, descriptorIndex := 573, attributes := #[] }, { accessFlags := 2, nameIndex := 5, descriptorIndex := 29, attributes := #[] }] 49 2 #[1106, 1108, 575, 1110, 1112] #[{ accessFlags := 18, nameIndex := 13, descriptorIndex := 14, attributes := #[] }, { accessFlags := 18, nameIndex := 17, descriptorIndex := 18, attributes := #[] }, { accessFlags := 2, nameIndex := 21, descriptorIndex := 22, attributes := #[] }, { accessFlags := 2, nameIndex := 25, descriptorIndex := 26, attributes := #[] }, { accessFlags := 26, nameIndex := 1116, descriptorIndex := 1117, attributes := #[] }, { accessFlags := 24, nameIndex := 40, descriptorIndex := 26, attributes := #[] }, { accessFlags := 26, nameIndex := 1101, descriptorIndex := 1102, attributes := #[] }, { accessFlags := 26, nameIndex := 1121, descriptorIndex := 1122, attributes := #[] }, { accessFlags := 25, nameIndex := 599, descriptorIndex := 600, attributes := #[] }, { accessFlags := 24, nameIndex := 1125, descriptorIndex := 18, attributes := #[] }, { accessFlags := 24, nameIndex := 1127, descriptorIndex := 18, attributes := #[] }])
  fields := #[{ name := "value", type := (.array .byte), accessFlags := 18, slot := 0, constantValue := 0 }, { name := "coder", type := .byte, accessFlags := 18, slot := 1, constantValue := 0 }, { name := "hash", type := .int, accessFlags := 2, slot := 2, constantValue := 0 }, { name := "hashIsZero", type := .boolean, accessFlags := 2, slot := 3, constantValue := 0 }, { name := "serialVersionUID", type := .long, accessFlags := 26, slot := 0, constantValue := 0 }, { name := "COMPACT_STRINGS", type := .boolean, accessFlags := 24, slot := 1, constantValue := 0 }, { name := "serialPersistentFields", type := (.array (.object "java/io/ObjectStreamField")), accessFlags := 26, slot := 2, constantValue := 0 }, { name := "REPL", type := .char, accessFlags := 26, slot := 3, constantValue := 0 }, { name := "CASE_INSENSITIVE_ORDER", type := (.object "java/util/Comparator"), accessFlags := 25, slot := 4, constantValue := 0 }, { name := "LATIN1", type := .byte, accessFlags := 24, slot := 5, constantValue := 0 }, { name := "UTF16", type := .byte, accessFlags := 24, slot := 6, constantValue := 0 }]
  methods := #[k7m0, k7m1, k7m2, k7m3]
  instanceTypes := #[(.array .byte), .byte, .int, .boolean]
  staticTypes := #[.long, .boolean, (.array (.object "java/io/ObjectStreamField")), .char, (.object "java/util/Comparator"), .byte, .byte]
  resolved := Array.replicate 1451 none
  statics := some 0 }

def pool8 : Array CpInfo := pool [(2, .class_ 4), (1, u "java/lang/Enum"), (0, u "name"), (0, u "Ljava/lang/String;"), (2, u "ordinal"), (0, u "I"), (1, .class_ 14), (1, u "java/lang/Object"), (4, u "hash"), (86, .class_ 108), (1, u "java/lang/Enum$EnumDesc"), (2, .class_ 112), (0, u "java/lang/constant/Constable"), (0, .class_ 114), (0, u "java/lang/Comparable"), (0, .class_ 116), (0, u "java/io/Serializable")] 87

/-- java/lang/Enum -/
def k8 : Class := { plain "java/lang/Enum" (some 0) with
  accessFlags := 1057
  interfaces := #[5, 3, 2]
  cf := some (fileOf pool8 2 #[.nestMembers #[106]] #[] 1057 12 #[111, 113, 115] #[{ accessFlags := 18, nameIndex := 5, descriptorIndex := 6, attributes := #[] }, { accessFlags := 18, nameIndex := 9, descriptorIndex := 10, attributes := #[] }, { accessFlags := 2, nameIndex := 19, descriptorIndex := 10, attributes := #[] }])
  fields := #[{ name := "name", type := (.object "java/lang/String"), accessFlags := 18, slot := 0, constantValue := 0 }, { name := "ordinal", type := .int, accessFlags := 18, slot := 1, constantValue := 0 }, { name := "hash", type := .int, accessFlags := 2, slot := 2, constantValue := 0 }]
  methods := #[]
  instanceTypes := #[(.object "java/lang/String"), .int, .int]
  staticTypes := #[]
  resolved := Array.replicate 204 none
  statics := none }

def pool9 : Array CpInfo := pool [(1, .class_ 2), (0, u "com/example/tight_calculus/tightcalculus/Model$Kind"), (2, u "GPC"), (0, u "Lcom/example/tight_calculus/tightcalculus/Model$Kind;"), (2, u "AND"), (0, .fieldref 1 11), (0, .nameAndType 12 13), (0, u "$VALUES"), (0, u "[Lcom/example/tight_calculus/tightcalculus/Model$Kind;"), (0, .methodref 15 16), (0, .class_ 13), (0, .nameAndType 17 18), (0, u "clone"), (0, u "()Ljava/lang/Object;"), (1, .class_ 22), (1, u "java/lang/Enum"), (6, .fieldref 1 30), (0, .nameAndType 31 32), (0, u "type"), (0, u "Ljava/lang/String;"), (2, u "fields"), (0, u "Ljava/util/List;"), (2, u "countsEvents"), (0, u "Z"), (0, .methodref 1 42), (0, .nameAndType 43 44), (0, u "values"), (0, u "()[Lcom/example/tight_calculus/tightcalculus/Model$Kind;"), (0, .methodref 46 47), (0, .class_ 48), (0, .nameAndType 49 50), (0, u "java/lang/String"), (0, u "equals"), (0, u "(Ljava/lang/Object;)Z"), (48, u "(Ljava/lang/String;)Lcom/example/tight_calculus/tightcalculus/Model$Kind;"), (5, u "named"), (7, .class_ 114), (0, u "com/example/tight_calculus/tightcalculus/Model")] 2

def k9c0 : Code := { maxStack := 1, maxLocals := 0, code := prog_20_method_1_code, exceptionTable := #[], attributes := #[] }
def k9m0 : Method := { name := "values", desc := "()[Lcom/example/tight_calculus/tightcalculus/Model$Kind;", sig := { parameters := [], returnType := some (.array (.object "com/example/tight_calculus/tightcalculus/Model$Kind")) }, accessFlags := 9, code := some k9c0 }
def k9c1 : Code := { maxStack := 2, maxLocals := 6, code := prog_20_method_6_code, exceptionTable := #[], attributes := #[] }
def k9m1 : Method := { name := "named", desc := "(Ljava/lang/String;)Lcom/example/tight_calculus/tightcalculus/Model$Kind;", sig := { parameters := [(.object "java/lang/String")], returnType := some (.object "com/example/tight_calculus/tightcalculus/Model$Kind") }, accessFlags := 8, code := some k9c1 }
/-- com/example/tight_calculus/tightcalculus/Model$Kind -/
def k9 : Class := { plain "com/example/tight_calculus/tightcalculus/Model$Kind" (some 8) with
  accessFlags := 16432
  interfaces := #[]
  cf := some (fileOf pool9 1 #[.nestHost 113] #[{ accessFlags := 9, nameIndex := 43, descriptorIndex := 44, attributes := #[] }, { accessFlags := 8, nameIndex := 105, descriptorIndex := 99, attributes := #[] }] 16432 20 #[] #[{ accessFlags := 16409, nameIndex := 5, descriptorIndex := 6, attributes := #[] }, { accessFlags := 16409, nameIndex := 9, descriptorIndex := 6, attributes := #[] }, { accessFlags := 18, nameIndex := 31, descriptorIndex := 32, attributes := #[] }, { accessFlags := 18, nameIndex := 35, descriptorIndex := 36, attributes := #[] }, { accessFlags := 18, nameIndex := 39, descriptorIndex := 40, attributes := #[] }, { accessFlags := 4122, nameIndex := 12, descriptorIndex := 13, attributes := #[] }])
  fields := #[{ name := "GPC", type := (.object "com/example/tight_calculus/tightcalculus/Model$Kind"), accessFlags := 16409, slot := 0, constantValue := 0 }, { name := "AND", type := (.object "com/example/tight_calculus/tightcalculus/Model$Kind"), accessFlags := 16409, slot := 1, constantValue := 0 }, { name := "type", type := (.object "java/lang/String"), accessFlags := 18, slot := 3, constantValue := 0 }, { name := "fields", type := (.object "java/util/List"), accessFlags := 18, slot := 4, constantValue := 0 }, { name := "countsEvents", type := .boolean, accessFlags := 18, slot := 5, constantValue := 0 }, { name := "$VALUES", type := (.array (.object "com/example/tight_calculus/tightcalculus/Model$Kind")), accessFlags := 4122, slot := 2, constantValue := 0 }]
  methods := #[k9m0, k9m1]
  instanceTypes := #[(.object "java/lang/String"), .int, .int, (.object "java/lang/String"), (.object "java/util/List"), .boolean]
  staticTypes := #[(.object "com/example/tight_calculus/tightcalculus/Model$Kind"), (.object "com/example/tight_calculus/tightcalculus/Model$Kind"), (.array (.object "com/example/tight_calculus/tightcalculus/Model$Kind"))]
  resolved := Array.replicate 117 none
  statics := some 1 }

def pool10 : Array CpInfo := pool [(1, .class_ 2), (0, u "java/lang/Cloneable"), (0, .class_ 4), (0, u "java/lang/Object")] 2

/-- java/lang/Cloneable -/
def k10 : Class := { plain "java/lang/Cloneable" (some 0) with
  accessFlags := 1537
  interfaces := #[]
  cf := some (fileOf pool10 1 #[] #[] 1537 3 #[] #[])
  fields := #[]
  methods := #[]
  instanceTypes := #[]
  staticTypes := #[]
  resolved := Array.replicate 7 none
  statics := none }

def pool11 : Array CpInfo := pool [(4, .class_ 6), (1, u "java/lang/Object"), (0, u "<init>"), (0, u "()V"), (5, .class_ 16), (1, u "java/lang/StringLatin1"), (104, u "$assertionsDisabled"), (0, u "Z"), (98, .class_ 223), (1, u "java/lang/StringLatin1$LinesSpliterator"), (57, u "equals"), (0, u "([B[B)Z"), (107, .class_ 391), (0, u "java/lang/StringLatin1$CharsSpliterator")] 3

def k11m0 : Method := { name := "<init>", desc := "()V", sig := { parameters := [], returnType := none }, accessFlags := 0, code := none }
def k11c1 : Code := { maxStack := 3, maxLocals := 3, code := jdk_43_method_13_code, exceptionTable := #[], attributes := #[] }
def k11m1 : Method := { name := "equals", desc := "([B[B)Z", sig := { parameters := [(.array .byte), (.array .byte)], returnType := some .boolean }, accessFlags := 9, code := some k11c1 }
/-- java/lang/StringLatin1 -/
def k11 : Class := { plain "java/lang/StringLatin1" (some 0) with
  accessFlags := 48
  interfaces := #[]
  cf := some (fileOf pool11 14 #[.nestMembers #[390, 221]] #[{ accessFlags := 0, nameIndex := 7, descriptorIndex := 8, attributes := #[] }, { accessFlags := 9, nameIndex := 281, descriptorIndex := 282, attributes := #[] }] 48 4 #[] #[{ accessFlags := 4120, nameIndex := 121, descriptorIndex := 122, attributes := #[] }])
  fields := #[{ name := "$assertionsDisabled", type := .boolean, accessFlags := 4120, slot := 0, constantValue := 0 }]
  methods := #[k11m0, k11m1]
  instanceTypes := #[]
  staticTypes := #[.boolean]
  resolved := Array.replicate 395 none
  statics := none }

def pool12 : Array CpInfo := pool [(6, .class_ 8), (1, u "java/lang/Object"), (0, u "<init>"), (0, u "()V"), (1, .class_ 14), (1, u "java/lang/StringUTF16"), (31, u "$assertionsDisabled"), (0, u "Z"), (13, u "HI_BYTE_SHIFT"), (0, u "I"), (2, u "LO_BYTE_SHIFT"), (49, .methodref 12 116), (0, .nameAndType 117 118), (0, u "compress"), (0, u "([CI[BII)I"), (3, u "([CII)[B"), (138, u "coderFromArrayLen"), (0, u "([BI)B"), (106, .class_ 371), (1, u "java/lang/StringUTF16$LinesSpliterator"), (58, u "MAX_LENGTH"), (196, .class_ 628), (0, u "java/lang/StringUTF16$CodePointsSpliterator"), (0, .class_ 630), (0, u "java/lang/StringUTF16$CharsSpliterator")] 4

def k12m0 : Method := { name := "<init>", desc := "()V", sig := { parameters := [], returnType := none }, accessFlags := 0, code := none }
def k12c1 : Code := { maxStack := 2, maxLocals := 2, code := jdk_52_method_15_code, exceptionTable := #[], attributes := #[] }
def k12m1 : Method := { name := "coderFromArrayLen", desc := "([BI)B", sig := { parameters := [(.array .byte), .int], returnType := some .byte }, accessFlags := 8, code := some k12c1 }
def k12c2 : Code := { maxStack := 5, maxLocals := 6, code := jdk_52_method_16_code, exceptionTable := #[], attributes := #[] }
def k12m2 : Method := { name := "compress", desc := "([CII)[B", sig := { parameters := [(.array .char), .int, .int], returnType := some (.array .byte) }, accessFlags := 9, code := some k12c2 }
def k12c3 : Code := { maxStack := 3, maxLocals := 7, code := jdk_52_method_21_code, exceptionTable := #[], attributes := #[] }
def k12m3 : Method := { name := "compress", desc := "([CI[BII)I", sig := { parameters := [(.array .char), .int, (.array .byte), .int, .int], returnType := some .int }, accessFlags := 9, code := some k12c3 }
/-- java/lang/StringUTF16 -/
def k12 : Class := { plain "java/lang/StringUTF16" (some 0) with
  accessFlags := 48
  interfaces := #[]
  cf := some (fileOf pool12 12 #[.nestMembers #[627, 629, 369]] #[{ accessFlags := 0, nameIndex := 9, descriptorIndex := 10, attributes := #[] }, { accessFlags := 8, nameIndex := 261, descriptorIndex := 262, attributes := #[] }, { accessFlags := 9, nameIndex := 117, descriptorIndex := 122, attributes := #[] }, { accessFlags := 9, nameIndex := 117, descriptorIndex := 118, attributes := #[] }] 48 6 #[] #[{ accessFlags := 26, nameIndex := 61, descriptorIndex := 62, attributes := #[] }, { accessFlags := 26, nameIndex := 65, descriptorIndex := 62, attributes := #[] }, { accessFlags := 24, nameIndex := 430, descriptorIndex := 62, attributes := #[] }, { accessFlags := 4120, nameIndex := 46, descriptorIndex := 47, attributes := #[] }])
  fields := #[{ name := "HI_BYTE_SHIFT", type := .int, accessFlags := 26, slot := 0, constantValue := 0 }, { name := "LO_BYTE_SHIFT", type := .int, accessFlags := 26, slot := 1, constantValue := 0 }, { name := "MAX_LENGTH", type := .int, accessFlags := 24, slot := 2, constantValue := 0 }, { name := "$assertionsDisabled", type := .boolean, accessFlags := 4120, slot := 3, constantValue := 0 }]
  methods := #[k12m0, k12m1, k12m2, k12m3]
  instanceTypes := #[]
  staticTypes := #[.int, .int, .int, .boolean]
  resolved := Array.replicate 635 none
  statics := none }

def pool13 : Array CpInfo := pool [(2, .class_ 4), (1, u "java/lang/Object"), (0, u "<init>"), (0, u "()V"), (17, .class_ 26), (1, u "jdk/internal/util/Preconditions"), (28, .class_ 56), (0, u "jdk/internal/util/Preconditions$4"), (57, .class_ 115), (0, u "jdk/internal/util/Preconditions$1"), (7, u "SIOOBE_FORMATTER"), (0, u "Ljava/util/function/BiFunction;"), (0, .class_ 126), (0, u "jdk/internal/util/Preconditions$2"), (3, u "AIOOBE_FORMATTER"), (0, .class_ 132), (0, u "jdk/internal/util/Preconditions$3"), (3, u "IOOBE_FORMATTER")] 57

def k13m0 : Method := { name := "<init>", desc := "()V", sig := { parameters := [], returnType := none }, accessFlags := 1, code := none }
/-- jdk/internal/util/Preconditions -/
def k13 : Class := { plain "jdk/internal/util/Preconditions" (some 0) with
  accessFlags := 33
  interfaces := #[]
  cf := some (fileOf pool13 24 #[.nestMembers #[55, 131, 125, 114]] #[{ accessFlags := 1, nameIndex := 5, descriptorIndex := 6, attributes := #[] }] 33 2 #[] #[{ accessFlags := 25, nameIndex := 123, descriptorIndex := 124, attributes := #[] }, { accessFlags := 25, nameIndex := 130, descriptorIndex := 124, attributes := #[] }, { accessFlags := 25, nameIndex := 136, descriptorIndex := 124, attributes := #[] }])
  fields := #[{ name := "SIOOBE_FORMATTER", type := (.object "java/util/function/BiFunction"), accessFlags := 25, slot := 0, constantValue := 0 }, { name := "AIOOBE_FORMATTER", type := (.object "java/util/function/BiFunction"), accessFlags := 25, slot := 1, constantValue := 0 }, { name := "IOOBE_FORMATTER", type := (.object "java/util/function/BiFunction"), accessFlags := 25, slot := 2, constantValue := 0 }]
  methods := #[k13m0]
  instanceTypes := #[]
  staticTypes := #[(.object "java/util/function/BiFunction"), (.object "java/util/function/BiFunction"), (.object "java/util/function/BiFunction")]
  resolved := Array.replicate 194 none
  statics := some 2 }

def pool14 : Array CpInfo := pool [(9, u "<init>"), (6, .class_ 18), (1, u "java/lang/Object"), (0, u "()V"), (1, .class_ 23), (1, u "jdk/internal/util/ArraysSupport"), (0, u "LOG2_ARRAY_LONG_INDEX_SCALE"), (0, u "I"), (2, u "U"), (0, u "Ljdk/internal/misc/Unsafe;"), (8, u "BIG_ENDIAN"), (0, u "Z"), (8, u "LOG2_BYTE_BIT_SIZE"), (4, u "LOG2_ARRAY_INT_INDEX_SCALE"), (54, u "JLA"), (0, u "Ljdk/internal/access/JavaLangAccess;"), (11, u "LOG2_ARRAY_BOOLEAN_INDEX_SCALE"), (9, u "LOG2_ARRAY_BYTE_INDEX_SCALE"), (5, u "LOG2_ARRAY_CHAR_INDEX_SCALE"), (5, u "LOG2_ARRAY_SHORT_INDEX_SCALE"), (18, u "LOG2_ARRAY_FLOAT_INDEX_SCALE"), (24, u "LOG2_ARRAY_DOUBLE_INDEX_SCALE"), (89, u "T_BOOLEAN"), (2, u "T_CHAR"), (1, u "T_FLOAT"), (1, u "T_DOUBLE"), (1, u "T_BYTE"), (1, u "T_SHORT"), (1, u "T_INT"), (1, u "T_LONG"), (1, u "SOFT_MAX_ARRAY_LENGTH")] 83

def k14m0 : Method := { name := "<init>", desc := "()V", sig := { parameters := [], returnType := none }, accessFlags := 2, code := none }
/-- jdk/internal/util/ArraysSupport -/
def k14 : Class := { plain "jdk/internal/util/ArraysSupport" (some 0) with
  accessFlags := 33
  interfaces := #[]
  cf := some (fileOf pool14 21 #[] #[{ accessFlags := 2, nameIndex := 9, descriptorIndex := 19, attributes := #[] }] 33 16 #[] #[{ accessFlags := 24, nameIndex := 28, descriptorIndex := 29, attributes := #[] }, { accessFlags := 26, nameIndex := 38, descriptorIndex := 39, attributes := #[] }, { accessFlags := 25, nameIndex := 121, descriptorIndex := 25, attributes := #[] }, { accessFlags := 25, nameIndex := 131, descriptorIndex := 25, attributes := #[] }, { accessFlags := 25, nameIndex := 137, descriptorIndex := 25, attributes := #[] }, { accessFlags := 25, nameIndex := 143, descriptorIndex := 25, attributes := #[] }, { accessFlags := 25, nameIndex := 53, descriptorIndex := 25, attributes := #[] }, { accessFlags := 25, nameIndex := 24, descriptorIndex := 25, attributes := #[] }, { accessFlags := 25, nameIndex := 162, descriptorIndex := 25, attributes := #[] }, { accessFlags := 25, nameIndex := 187, descriptorIndex := 25, attributes := #[] }, { accessFlags := 26, nameIndex := 48, descriptorIndex := 25, attributes := #[] }, { accessFlags := 25, nameIndex := 277, descriptorIndex := 25, attributes := #[] }, { accessFlags := 25, nameIndex := 280, descriptorIndex := 25, attributes := #[] }, { accessFlags := 25, nameIndex := 282, descriptorIndex := 25, attributes := #[] }, { accessFlags := 25, nameIndex := 284, descriptorIndex := 25, attributes := #[] }, { accessFlags := 25, nameIndex := 286, descriptorIndex := 25, attributes := #[] }, { accessFlags := 25, nameIndex := 288, descriptorIndex := 25, attributes := #[] }, { accessFlags := 25, nameIndex := 290, descriptorIndex := 25, attributes := #[] }, { accessFlags := 25, nameIndex := 292, descriptorIndex := 25, attributes := #[] }, { accessFlags := 26, nameIndex := 108, descriptorIndex := 109, attributes := #[] }, { accessFlags := 25, nameIndex := 294, descriptorIndex := 25, attributes := #[] }])
  fields := #[{ name := "U", type := (.object "jdk/internal/misc/Unsafe"), accessFlags := 24, slot := 0, constantValue := 0 }, { name := "BIG_ENDIAN", type := .boolean, accessFlags := 26, slot := 1, constantValue := 0 }, { name := "LOG2_ARRAY_BOOLEAN_INDEX_SCALE", type := .int, accessFlags := 25, slot := 2, constantValue := 0 }, { name := "LOG2_ARRAY_BYTE_INDEX_SCALE", type := .int, accessFlags := 25, slot := 3, constantValue := 0 }, { name := "LOG2_ARRAY_CHAR_INDEX_SCALE", type := .int, accessFlags := 25, slot := 4, constantValue := 0 }, { name := "LOG2_ARRAY_SHORT_INDEX_SCALE", type := .int, accessFlags := 25, slot := 5, constantValue := 0 }, { name := "LOG2_ARRAY_INT_INDEX_SCALE", type := .int, accessFlags := 25, slot := 6, constantValue := 0 }, { name := "LOG2_ARRAY_LONG_INDEX_SCALE", type := .int, accessFlags := 25, slot := 7, constantValue := 0 }, { name := "LOG2_ARRAY_FLOAT_INDEX_SCALE", type := .int, accessFlags := 25, slot := 8, constantValue := 0 }, { name := "LOG2_ARRAY_DOUBLE_INDEX_SCALE", type := .int, accessFlags := 25, slot := 9, constantValue := 0 }, { name := "LOG2_BYTE_BIT_SIZE", type := .int, accessFlags := 26, slot := 10, constantValue := 0 }, { name := "T_BOOLEAN", type := .int, accessFlags := 25, slot := 11, constantValue := 0 }, { name := "T_CHAR", type := .int, accessFlags := 25, slot := 12, constantValue := 0 }, { name := "T_FLOAT", type := .int, accessFlags := 25, slot := 13, constantValue := 0 }, { name := "T_DOUBLE", type := .int, accessFlags := 25, slot := 14, constantValue := 0 }, { name := "T_BYTE", type := .int, accessFlags := 25, slot := 15, constantValue := 0 }, { name := "T_SHORT", type := .int, accessFlags := 25, slot := 16, constantValue := 0 }, { name := "T_INT", type := .int, accessFlags := 25, slot := 17, constantValue := 0 }, { name := "T_LONG", type := .int, accessFlags := 25, slot := 18, constantValue := 0 }, { name := "JLA", type := (.object "jdk/internal/access/JavaLangAccess"), accessFlags := 26, slot := 19, constantValue := 0 }, { name := "SOFT_MAX_ARRAY_LENGTH", type := .int, accessFlags := 25, slot := 20, constantValue := 0 }]
  methods := #[k14m0]
  instanceTypes := #[]
  staticTypes := #[(.object "jdk/internal/misc/Unsafe"), .boolean, .int, .int, .int, .int, .int, .int, .int, .int, .int, .int, .int, .int, .int, .int, .int, .int, .int, (.object "jdk/internal/access/JavaLangAccess"), .int]
  resolved := Array.replicate 378 none
  statics := none }

/-- the primitive byte -/
def k15 : Class := { plain "byte" none with kind := .primitive 'B', accessFlags := 0x411 }
/-- [B -/
def k16 : Class := { plain "[B" (some 0) with kind := .array 15 .byte, interfaces := #[10, 2], accessFlags := 1041 }

/-- the primitive char -/
def k17 : Class := { plain "char" none with kind := .primitive 'C', accessFlags := 0x411 }
/-- [C -/
def k18 : Class := { plain "[C" (some 0) with kind := .array 17 .char, interfaces := #[10, 2], accessFlags := 1041 }

/-- the primitive int -/
def k19 : Class := { plain "int" none with kind := .primitive 'I', accessFlags := 0x411 }
/-- [I -/
def k20 : Class := { plain "[I" (some 0) with kind := .array 19 .int, interfaces := #[10, 2], accessFlags := 1041 }

/-- [Lcom/example/tight_calculus/tightcalculus/Model$Kind; -/
def k21 : Class := { plain "[Lcom/example/tight_calculus/tightcalculus/Model$Kind;" (some 0) with kind := .array 9 (.object "com/example/tight_calculus/tightcalculus/Model$Kind"), interfaces := #[10, 2], accessFlags := 1041 }

def heap : Heap := #[{ cls := 7, slots := #[.long 0, .int 1, .null, .int 0, .null, .int 0, .int 0], vm := .statics 7 },
  { cls := 9, slots := #[.ref 4, .ref 5, .ref 3], vm := .statics 9 },
  { cls := 13, slots := #[.null, .null, .null], vm := .statics 13 },
  { cls := 21, slots := #[.ref 4, .ref 5], vm := .none },
  { cls := 9, slots := #[.null, .int 0, .int 0, .ref 6, .null, .int 0], vm := .none },
  { cls := 9, slots := #[.null, .int 1, .int 0, .ref 7, .null, .int 0], vm := .none },
  { cls := 7, slots := #[.ref 8, .int 0, .int 0, .int 0], vm := .none },
  { cls := 7, slots := #[.ref 9, .int 0, .int 0, .int 0], vm := .none },
  { cls := 16, slots := #[.int 103, .int 112, .int 99], vm := .none },
  { cls := 16, slots := #[.int 97, .int 110, .int 100], vm := .none }]
def classes : Array Class := #[k0, k1, k2, k3, k4, k5, k6, k7, k8, k9, k10, k11, k12, k13, k14, k15, k16, k17, k18, k19, k20, k21]
def interned : List (Array UInt16 × Addr) := []
def slotsUsed : Nat := 41
def theMethod : MethodId := ⟨1, 2⟩
def args0 : Array Value := #[.int 3, .int 0, .int 256, .int 256, .int 256, .int 0]
def aboutOver (below : List Frame) : State where
  vm := { classes := classes, interned := interned.toArray }
  heap := heap
  slotsUsed := slotsUsed
  threads := #[{ frames := .invoking theMethod args0 :: below }]
def below0 : List Frame := [.native { method := ⟨0, 0⟩, args := #[] }]
def about1 : State := aboutOver below0
def p0 : Program := .bare "" "" ""
def e0 : Env := launch0.env 0 0 0
theorem w_frames : about1.frames = Frame.invoking theMethod args0 :: below0 := rfl
set_option maxRecDepth 65536 in
theorem w_args : argsFit about1.vm theMethod args0 = true := by decide +kernel
set_option maxRecDepth 65536 in
theorem w_heap : heapFits about1 = true := by decide +kernel
set_option maxRecDepth 65536 in
theorem w_runnable : about1.curStatus? = some .runnable := by decide +kernel
set_option maxRecDepth 65536 in
theorem w_alone : about1.alone = true := by decide +kernel
set_option maxRecDepth 65536 in
theorem w_named : about1.methodNamed? x = some theMethod := by decide +kernel
set_option maxRecDepth 65536 in
theorem w_hears : about1.hears theMethod below0 = true := by decide +kernel
set_option maxRecDepth 65536 in
theorem w_ripe : about1.ripe theMethod args0 below0 = true := by decide +kernel
theorem w_running : about1.status = .running := rfl
set_option maxRecDepth 65536 in
theorem w_room : about1.hasRoom e0.platform room_1 = true :=
  launch0.hasRoom_least _ room_1 (by decide +kernel) (by decide +kernel) (by decide +kernel) (by decide +kernel) (by decide +kernel) (by decide +kernel)
theorem allAtoms_all (ts : List Jvm.Cond) (a : Array Jvm.Value) (st : Jvm.State) : (allAtoms ts).before a st = ts.all (fun c => c.before a st) := by
  induction ts with
  | nil => rfl
  | cons c t ih =>
    show (Jvm.Cond.and c (allAtoms t)).before a st = _
    rw [Jvm.Cond.before_and, ih, List.all_cons]
def words1 : List Jvm.Cond := Jvm.Cond.code x code maxLocals ret :: tables_1
/-- a 'code' word, met by the world's own term for the bytes: nothing is compared byte by byte -/
theorem code_word {y : MethodName} {bytes : ByteArray} {mx : Nat} {rt : Option FieldType} {a : Array Value} {s : State} {m : MethodId} {meth : Method} {c : Code} (h1 : s.methodNamed? y = some m) (h2 : s.vm.method? m = some meth) (h3 : meth.code = some c) (h4 : c.code = bytes)
    (h5 : (c.maxLocals == mx && c.exceptionTable.isEmpty && decide (c.maxStack ≤ mostOperands) && decide (meth.sig.returnType = rt) && !meth.locks && decide (parseMethodDescriptor y.desc = some meth.sig)) = true) : (Jvm.Cond.code y bytes mx rt).before a s = true := by
  simp only [Bool.and_eq_true, beq_iff_eq, Bool.not_eq_true', decide_eq_true_eq] at h5
  obtain ⟨⟨⟨⟨⟨g1, g2⟩, g3⟩, g4⟩, g5⟩, g6⟩ := h5
  simp [Cond.before, Cond.holds, Cond.value, h1, h2, h3, h4, g1, g2, g3, g4, g5, g6]
def isCode : Jvm.Cond → Bool
  | .code _ _ _ _ => true
  | _ => false
theorem all_split {L : List Jvm.Cond} {P : Jvm.Cond → Bool} (h1 : L.all (fun c => isCode c || P c) = true) (h2 : ∀ c ∈ L.filter isCode, P c = true) : L.all P = true := by
  refine List.all_eq_true.mpr fun c hc => ?_
  have h := List.all_eq_true.mp h1 c hc
  rcases Bool.eq_false_or_eq_true (isCode c) with hi | hi
  · exact h2 c (List.mem_filter.mpr ⟨hc, hi⟩)
  · simpa [hi] using h
set_option maxRecDepth 65536 in
theorem w_c0 : (Jvm.Cond.code x code maxLocals ret).before args0 about1 = true := code_word (m := ⟨1, 2⟩) (meth := k1m2) (c := k1c2) (by decide +kernel) rfl rfl rfl (by decide +kernel)
set_option maxRecDepth 65536 in
theorem w_c1 : (Jvm.Cond.code ({ cls := "com/example/tight_calculus/tightcalculus/KindNamedPinLaw", name := "drawn", desc := "(IC)C" } : Jvm.MethodName) method_2_code (2 : Nat) (Option.some Jvm.ClassFile.FieldType.char)).before args0 about1 = true := code_word (m := ⟨1, 1⟩) (meth := k1m1) (c := k1c1) (by decide +kernel) rfl rfl rfl (by decide +kernel)
set_option maxRecDepth 65536 in
theorem w_c2 : (Jvm.Cond.code ({ cls := "java/lang/String", name := "<init>", desc := "([C)V" } : Jvm.MethodName) jdk_42_method_3_code (2 : Nat) (Option.none : Option Jvm.ClassFile.FieldType)).before args0 about1 = true := code_word (m := ⟨7, 1⟩) (meth := k7m1) (c := k7c1) (by decide +kernel) rfl rfl rfl (by decide +kernel)
set_option maxRecDepth 65536 in
theorem w_c3 : (Jvm.Cond.code ({ cls := "java/lang/String", name := "<init>", desc := "([CIILjava/lang/Void;)V" } : Jvm.MethodName) jdk_42_method_149_code (6 : Nat) (Option.none : Option Jvm.ClassFile.FieldType)).before args0 about1 = true := code_word (m := ⟨7, 3⟩) (meth := k7m3) (c := k7c3) (by decide +kernel) rfl rfl rfl (by decide +kernel)
set_option maxRecDepth 65536 in
theorem w_c4 : (Jvm.Cond.code ({ cls := "java/lang/Object", name := "<init>", desc := "()V" } : Jvm.MethodName) object_method_1_code (1 : Nat) (Option.none : Option Jvm.ClassFile.FieldType)).before args0 about1 = true := code_word (m := ⟨0, 0⟩) (meth := k0m0) (c := k0c0) (by decide +kernel) rfl rfl rfl (by decide +kernel)
set_option maxRecDepth 65536 in
theorem w_c5 : (Jvm.Cond.code ({ cls := "com/example/tight_calculus/tightcalculus/Model$Kind", name := "named", desc := "(Ljava/lang/String;)Lcom/example/tight_calculus/tightcalculus/Model$Kind;" } : Jvm.MethodName) prog_20_method_6_code (6 : Nat) (Option.some (Jvm.ClassFile.FieldType.object "com/example/tight_calculus/tightcalculus/Model$Kind"))).before args0 about1 = true := code_word (m := ⟨9, 1⟩) (meth := k9m1) (c := k9c1) (by decide +kernel) rfl rfl rfl (by decide +kernel)
set_option maxRecDepth 65536 in
theorem w_c6 : (Jvm.Cond.code ({ cls := "com/example/tight_calculus/tightcalculus/Model$Kind", name := "values", desc := "()[Lcom/example/tight_calculus/tightcalculus/Model$Kind;" } : Jvm.MethodName) prog_20_method_1_code (0 : Nat) (Option.some (Jvm.ClassFile.FieldType.array (Jvm.ClassFile.FieldType.object "com/example/tight_calculus/tightcalculus/Model$Kind")))).before args0 about1 = true := code_word (m := ⟨9, 0⟩) (meth := k9m0) (c := k9c0) (by decide +kernel) rfl rfl rfl (by decide +kernel)
set_option maxRecDepth 65536 in
theorem w_c7 : (Jvm.Cond.code ({ cls := "java/lang/String", name := "equals", desc := "(Ljava/lang/Object;)Z" } : Jvm.MethodName) jdk_42_method_66_code (3 : Nat) (Option.some Jvm.ClassFile.FieldType.boolean)).before args0 about1 = true := code_word (m := ⟨7, 2⟩) (meth := k7m2) (c := k7c2) (by decide +kernel) rfl rfl rfl (by decide +kernel)
set_option maxRecDepth 65536 in
theorem w_c8 : (Jvm.Cond.code ({ cls := "java/lang/StringLatin1", name := "equals", desc := "([B[B)Z" } : Jvm.MethodName) jdk_43_method_13_code (3 : Nat) (Option.some Jvm.ClassFile.FieldType.boolean)).before args0 about1 = true := code_word (m := ⟨11, 1⟩) (meth := k11m1) (c := k11c1) (by decide +kernel) rfl rfl rfl (by decide +kernel)
set_option maxRecDepth 65536 in
theorem w_c9 : (Jvm.Cond.code ({ cls := "java/lang/StringUTF16", name := "compress", desc := "([CII)[B" } : Jvm.MethodName) jdk_52_method_16_code (6 : Nat) (Option.some (Jvm.ClassFile.FieldType.array Jvm.ClassFile.FieldType.byte))).before args0 about1 = true := code_word (m := ⟨12, 2⟩) (meth := k12m2) (c := k12c2) (by decide +kernel) rfl rfl rfl (by decide +kernel)
set_option maxRecDepth 65536 in
theorem w_c10 : (Jvm.Cond.code ({ cls := "java/lang/StringUTF16", name := "compress", desc := "([CI[BII)I" } : Jvm.MethodName) jdk_52_method_21_code (7 : Nat) (Option.some Jvm.ClassFile.FieldType.int)).before args0 about1 = true := code_word (m := ⟨12, 3⟩) (meth := k12m3) (c := k12c3) (by decide +kernel) rfl rfl rfl (by decide +kernel)
set_option maxRecDepth 65536 in
theorem w_c11 : (Jvm.Cond.code ({ cls := "java/lang/StringUTF16", name := "coderFromArrayLen", desc := "([BI)B" } : Jvm.MethodName) jdk_52_method_15_code (2 : Nat) (Option.some Jvm.ClassFile.FieldType.byte)).before args0 about1 = true := code_word (m := ⟨12, 1⟩) (meth := k12m1) (c := k12c1) (by decide +kernel) rfl rfl rfl (by decide +kernel)
def codes1 : List Jvm.Cond := [Jvm.Cond.code x code maxLocals ret, Jvm.Cond.code ({ cls := "com/example/tight_calculus/tightcalculus/KindNamedPinLaw", name := "drawn", desc := "(IC)C" } : Jvm.MethodName) method_2_code (2 : Nat) (Option.some Jvm.ClassFile.FieldType.char), Jvm.Cond.code ({ cls := "java/lang/String", name := "<init>", desc := "([C)V" } : Jvm.MethodName) jdk_42_method_3_code (2 : Nat) (Option.none : Option Jvm.ClassFile.FieldType), Jvm.Cond.code ({ cls := "java/lang/String", name := "<init>", desc := "([CIILjava/lang/Void;)V" } : Jvm.MethodName) jdk_42_method_149_code (6 : Nat) (Option.none : Option Jvm.ClassFile.FieldType), Jvm.Cond.code ({ cls := "java/lang/Object", name := "<init>", desc := "()V" } : Jvm.MethodName) object_method_1_code (1 : Nat) (Option.none : Option Jvm.ClassFile.FieldType), Jvm.Cond.code ({ cls := "com/example/tight_calculus/tightcalculus/Model$Kind", name := "named", desc := "(Ljava/lang/String;)Lcom/example/tight_calculus/tightcalculus/Model$Kind;" } : Jvm.MethodName) prog_20_method_6_code (6 : Nat) (Option.some (Jvm.ClassFile.FieldType.object "com/example/tight_calculus/tightcalculus/Model$Kind")), Jvm.Cond.code ({ cls := "com/example/tight_calculus/tightcalculus/Model$Kind", name := "values", desc := "()[Lcom/example/tight_calculus/tightcalculus/Model$Kind;" } : Jvm.MethodName) prog_20_method_1_code (0 : Nat) (Option.some (Jvm.ClassFile.FieldType.array (Jvm.ClassFile.FieldType.object "com/example/tight_calculus/tightcalculus/Model$Kind"))), Jvm.Cond.code ({ cls := "java/lang/String", name := "equals", desc := "(Ljava/lang/Object;)Z" } : Jvm.MethodName) jdk_42_method_66_code (3 : Nat) (Option.some Jvm.ClassFile.FieldType.boolean), Jvm.Cond.code ({ cls := "java/lang/StringLatin1", name := "equals", desc := "([B[B)Z" } : Jvm.MethodName) jdk_43_method_13_code (3 : Nat) (Option.some Jvm.ClassFile.FieldType.boolean), Jvm.Cond.code ({ cls := "java/lang/StringUTF16", name := "compress", desc := "([CII)[B" } : Jvm.MethodName) jdk_52_method_16_code (6 : Nat) (Option.some (Jvm.ClassFile.FieldType.array Jvm.ClassFile.FieldType.byte)), Jvm.Cond.code ({ cls := "java/lang/StringUTF16", name := "compress", desc := "([CI[BII)I" } : Jvm.MethodName) jdk_52_method_21_code (7 : Nat) (Option.some Jvm.ClassFile.FieldType.int), Jvm.Cond.code ({ cls := "java/lang/StringUTF16", name := "coderFromArrayLen", desc := "([BI)B" } : Jvm.MethodName) jdk_52_method_15_code (2 : Nat) (Option.some Jvm.ClassFile.FieldType.byte)]
set_option maxRecDepth 65536 in
theorem codes_eq : words1.filter isCode = codes1 := rfl
theorem w_codes : ∀ c ∈ words1.filter isCode, c.before args0 about1 = true := by
  rw [codes_eq]
  intro c hc
  simp only [codes1, List.mem_cons, List.not_mem_nil, or_false] at hc
  rcases hc with rfl | rfl | rfl | rfl | rfl | rfl | rfl | rfl | rfl | rfl | rfl | rfl
  · exact w_c0
  · exact w_c1
  · exact w_c2
  · exact w_c3
  · exact w_c4
  · exact w_c5
  · exact w_c6
  · exact w_c7
  · exact w_c8
  · exact w_c9
  · exact w_c10
  · exact w_c11
set_option maxRecDepth 65536 in
theorem w_t1 : (words1.take 24).all (fun c => isCode c || c.before args0 about1) = true := by decide +kernel
set_option maxRecDepth 65536 in
theorem w_t2 : ((words1.drop 24).take 24).all (fun c => isCode c || c.before args0 about1) = true := by decide +kernel
set_option maxRecDepth 65536 in
theorem w_t3 : (((words1.drop 24).drop 24).take 24).all (fun c => isCode c || c.before args0 about1) = true := by decide +kernel
set_option maxRecDepth 65536 in
theorem w_t4 : (((words1.drop 24).drop 24).drop 24).all (fun c => isCode c || c.before args0 about1) = true := by decide +kernel
theorem w_tables : (allAtoms (Jvm.Cond.code x code maxLocals ret :: tables_1)).before args0 about1 = true := by
  rw [allAtoms_all]
  show words1.all (fun c => c.before args0 about1) = true
  refine all_split ?_ w_codes
  rw [← List.take_append_drop 24 words1, List.all_append, w_t1, ← List.take_append_drop 24 (words1.drop 24), List.all_append, w_t2, ← List.take_append_drop 24 ((words1.drop 24).drop 24), List.all_append, w_t3, w_t4]
  rfl
set_option maxRecDepth 65536 in
theorem w_rest : rest_1_c.before args0 about1 = true := by decide +kernel
set_option maxRecDepth 65536 in
theorem w_case : (Jvm.Cond.and given_1 narrow_1).before args0 about1 = true := by decide +kernel
set_option maxRecDepth 65536 in
theorem w_consts : constsHeld consts_1 about1 := Jvm.Lit.constsHeldB_iff.mp (by decide +kernel)
theorem w_applies : (headSpec (Jvm.Cond.code x code maxLocals ret :: tables_1) room_1).applies x e0.platform about1 = true :=
  (Spec.applies_iff w_frames).mpr ⟨w_running, w_runnable, w_alone, w_named, w_hears, w_ripe, w_room, w_tables⟩
theorem atStart : AtStart classFile x code maxLocals ret World_1 tables_1 room_1 Calls_1 rest_1 Pre_1 launch0 p0 e0 about1 theMethod args0 below0 :=
  ⟨lists_1, trivial, launch0.admits_env _ _ _, launch0.least_env, fairChoices_fair.cas, fairChoices_fair.clock, w_frames, w_args, w_heap, w_applies, ⟨w_consts, trivial⟩, w_rest, w_case⟩
end start1
theorem witness_1 : WitnessClaimed_1 := ⟨start1.p0, start1.e0, start1.about1, start1.theMethod, start1.args0, start1.below0, start1.atStart⟩
end Jvm.Pilot.@@N@@
