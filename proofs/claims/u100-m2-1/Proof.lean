import JvmDerived
import JvmDerived.Pilot.@@N@@Statement
import JvmDerived.Pilot.@@N@@Code
set_option linter.unusedVariables false
set_option linter.unusedSimpArgs false
set_option maxRecDepth 65536
set_option maxHeartbeats 40000000
namespace Jvm.Pilot.@@N@@
open Jvm Jvm.ClassFile Sem Op Lib Jvm.Free Jvm.Stand Jvm.LawKit Jvm.RoadKit Bundle Jvm.Pilot.@@N@@.Jvm.D
section OwnGo
variable {p : Program} {l : Launch} {e : Env} {R : Room} {s : State} {m : MethodId} {args : Array Value} {below : List Frame} {meth : Method} {c : Code} {T T' : State} {locs : List Loc} {cells slots : Nat} {g g' : JFrame} {F : State → Outcome → Prop} {Q : Option Value → Heap → List Loc → Prop} {ck sk : Nat}
/-- from this place the run ends, and F holds at the end -/
def Go (p : Program) (e : Env) (below : List Frame) (F : State → Outcome → Prop) (T : State) (g : JFrame) : Prop :=
  ∃ t o, Steps p.tables e below (T.setTop g) t ∧ t.status = .running ∧ Ended t below o ∧ F t o
def FinN (s : State) (Q : Option Value → Heap → List Loc → Prop) (ck sk : Nat) (t : State) (o : Outcome) : Prop :=
  ∃ v L, o = .returned v ∧ Q v t.heap L ∧ FrameEnd s o t L ck sk
theorem Go.by (h : ∀ target, Steps p.tables e below (T'.setTop g') target → Steps p.tables e below (T.setTop g) target) (k : Go p e below F T' g') : Go p e below F T g := by
  obtain ⟨t, o, h1, h2⟩ := k; exact ⟨t, o, h _ h1, h2⟩
theorem Go.call (h : Steps p.tables e below (T.setTop g) (T'.setTop g')) (k : Go p e below F T' g') : Go p e below F T g := by
  obtain ⟨t, o, h1, h2⟩ := k; exact ⟨t, o, h.trans h1, h2⟩
theorem Go.join (T' : State) (g' : JFrame) (h : Go p e below F T' g' → Go p e below F T g) (k : Go p e below F T' g') : Go p e below F T g := h k
theorem Go.done (X : Stand p l e R s m args below meth c T locs cells slots) {v : Option Value} (hv : meth.sig.returnType = none → v = none) (hlocks : meth.locks = false)
    (st : ∀ fs, (∀ (f : JFrame) (acts : List Action), f.method = m → f.locked = none → f.entered = [] → (doReturn e (T.setTop f) acts v).1 = T.setFrames fs) → Steps p.tables e below (T.setTop g) (T.setFrames fs))
    (hQ : Q v T.heap locs) (hc : cells ≤ ck) (hs : slots ≤ sk) : Go p e below (FinN s Q ck sk) T g := by
  obtain ⟨fs, hr, hrun, hended, hW, hsame⟩ := X.leave hv hlocks
  exact ⟨_, _, st fs hr, hrun, hended, v, locs, rfl, hQ, ⟨_, rfl⟩, hW, hsame.mono hc hs⟩
theorem Go.retZ (X : Stand p l e R s m args below meth c T locs cells slots) (hx : p.tables.exec = Jvm.exec) (hlocks : meth.locks = false) {pc : Nat} {Ls : Array Slot} {z : Int32} {t : FieldType} {rest : List Value} (hret : meth.sig.returnType = some t) (ht : t = .boolean ∨ t = .byte ∨ t = .char ∨ t = .short)
    (hd : decode c.code pc = .ok (.ireturn, 1)) (hQ : Q (some (.int (nar t z))) T.heap locs) (hc : cells ≤ ck) (hs : slots ≤ sk) : Go p e below (FinN s Q ck sk) T (mkF m pc Ls (.int z :: rest)) :=
  Go.done X (fun h => by rw [hret] at h; cases h) hlocks (fun fs hr => retN X hx hret ht hd hr) hQ hc hs
theorem Go.retO (X : Stand p l e R s m args below meth c T locs cells slots) (hx : p.tables.exec = Jvm.exec) (hlocks : meth.locks = false) {pc : Nat} {Ls : Array Slot} {w : Value} {t : FieldType} {i : Instr} {rest : List Value} (hret : meth.sig.returnType = some t) (hn : narrow t w = w)
    (hi : (i = .ireturn ∧ (t = .int ∨ t = .boolean ∨ t = .byte ∨ t = .char ∨ t = .short) ∧ ∃ z, w = .int z) ∨ (i = .lreturn ∧ t = .long ∧ ∃ z, w = .long z) ∨ (i = .dreturn ∧ t = .double ∧ ∃ z, w = .double z) ∨ (i = .freturn ∧ t = .float ∧ ∃ z, w = .float z) ∨ (i = .areturn ∧ t.isReference = true ∧ w.isRef = true))
    (hd : decode c.code pc = .ok (i, 1)) (hQ : Q (some w) T.heap locs) (hc : cells ≤ ck) (hs : slots ≤ sk) : Go p e below (FinN s Q ck sk) T (mkF m pc Ls (w :: rest)) :=
  Go.done X (fun h => by rw [hret] at h; cases h) hlocks (fun fs hr => retOut X hx hret hn hi hd hr) hQ hc hs
theorem Go.retI (X : Stand p l e R s m args below meth c T locs cells slots) (hx : p.tables.exec = Jvm.exec) (hlocks : meth.locks = false) {pc : Nat} {Ls : Array Slot} {z : Int32} {rest : List Value} (hret : meth.sig.returnType = some .int)
    (hd : decode c.code pc = .ok (.ireturn, 1)) (hQ : Q (some (.int z)) T.heap locs) (hc : cells ≤ ck) (hs : slots ≤ sk) : Go p e below (FinN s Q ck sk) T (mkF m pc Ls (.int z :: rest)) :=
  Go.retO X hx hlocks hret rfl (Or.inl ⟨rfl, Or.inl rfl, _, rfl⟩) hd hQ hc hs
theorem Go.retA (X : Stand p l e R s m args below meth c T locs cells slots) (hx : p.tables.exec = Jvm.exec) (hlocks : meth.locks = false) {pc : Nat} {Ls : Array Slot} {w : Value} {t : FieldType} {rest : List Value} (hret : meth.sig.returnType = some t) (ht : t.isReference = true) (hw : w.isRef = true)
    (hd : decode c.code pc = .ok (.areturn, 1)) (hQ : Q (some w) T.heap locs) (hc : cells ≤ ck) (hs : slots ≤ sk) : Go p e below (FinN s Q ck sk) T (mkF m pc Ls (w :: rest)) :=
  Go.retO X hx hlocks hret (by cases w <;> cases t <;> first | rfl | (cases hw; done) | (cases ht; done)) (Or.inr (Or.inr (Or.inr (Or.inr ⟨rfl, ht, hw⟩)))) hd hQ hc hs
theorem Go.retV (X : Stand p l e R s m args below meth c T locs cells slots) (hx : p.tables.exec = Jvm.exec) (hlocks : meth.locks = false) {pc : Nat} {Ls : Array Slot} (hret : meth.sig.returnType = none)
    (hd : decode c.code pc = .ok (.return_, 1)) (hQ : Q none T.heap locs) (hc : cells ≤ ck) (hs : slots ≤ sk) : Go p e below (FinN s Q ck sk) T (mkF m pc Ls []) :=
  Go.done X (fun _ => rfl) hlocks (fun fs hr => X.returnOut hx hret hd hr) hQ hc hs
end OwnGo
theorem own_modN (n : Nat) (N : Int32) (hN : N.toInt = (n : Int)) (hn : 0 < n) (hb : n < 2147483648) (i : Int32) : ∃ k : Fin n, (i &&& (2147483647 : Int32)) % N = Int32.ofInt k.1 := by
  have h1 := (c_and i (2147483647 : Int32) (by decide)).1
  have h2 := (c_irem (i &&& (2147483647 : Int32)) N n hN).1 h1
  have h3 := Int.emod_lt_of_pos (i &&& (2147483647 : Int32)).toInt (show (0 : Int) < (n : Int) by omega)
  have h4 := Int.emod_nonneg (i &&& (2147483647 : Int32)).toInt (show (n : Int) ≠ 0 by omega)
  refine ⟨⟨((i &&& (2147483647 : Int32)).toInt % (n : Int)).toNat, by omega⟩, ?_⟩
  rw [← Int32.toInt_inj, h2, Int32.toInt_ofInt]
  show _ = Int.bmod (((((i &&& (2147483647 : Int32)).toInt % (n : Int)).toNat : Nat) : Int)) _
  rw [Int.toNat_of_nonneg h4, show Int32.size = 4294967296 from rfl, Int.bmod_eq_of_le (by omega) (by omega)]
theorem own_safe0 {Z : State} {vm : Vm} {h : Heap} {x : Addr} : Safe Z [] vm h x := fun ⟨_, hp, _⟩ => nomatch hp
theorem own_rne {a b : Addr} (h : a ≠ b) : ¬ ((.ref a : Value) = (.ref b : Value)) := fun e => h (Value.ref.inj e)
theorem own_sto {Z : State} {h : Heap} {a y : Addr} {k : ClassId} {ty : FieldType} {z : Int32} {vs : List Value} {dv : Value} {C : String} (f : Arv Z h a k ty z vs dv) (O : Ovr Z k C) (I : Ins Z h y C true) : Sto Z h a (.ref y) := by
  obtain ⟨cl, A, q1, -⟩ := f
  exact Sto.ofV A q1 O I
def ownLay : List Value → List Slot
  | [] => []
  | v :: vs => if v.category = 2 then .val v :: .second :: ownLay vs else .val v :: ownLay vs
theorem own_lay (L : List Value) (acc : Array Slot) : L.foldl (fun acc v => if v.category = 2 then (acc.push (.val v)).push .second else acc.push (.val v)) acc = acc ++ (ownLay L).toArray := by
  induction L generalizing acc with
  | nil => simp [ownLay]
  | cons v vs ih =>
    rw [List.foldl_cons, ih]
    show _ = acc ++ (if v.category = 2 then Slot.val v :: Slot.second :: ownLay vs else Slot.val v :: ownLay vs).toArray
    split <;> simp
theorem own_entry (m : MethodId) (L : List Value) (n : Nat) : entryFrame m L.toArray n = mkF m 0 (ownLay L ++ List.replicate (n - (ownLay L).length) Slot.unset).toArray [] := by
  unfold entryFrame argsToLocals mkF
  simp [own_lay]
theorem own_ref {v : Value} (h : v.isRef = true) {P : Value → Prop} (h1 : P .null) (h2 : ∀ a, P (.ref a)) : P v := by
  cases v <;> first | exact h1 | exact h2 _ | cases h
theorem own_decl {Z : State} {a0 : Array Value} {y : MethodName} {bytes : ByteArray} {maxL : Nat} {ret : Option FieldType} (w : (Cond.instanceMethod y).before a0 Z = true) (wc : (Cond.code y bytes maxL ret).before a0 Z = true) : (Cond.declares y).before a0 Z = true := by
  obtain ⟨mk, meth, hn, hm, hst, hab⟩ := Cond.instanceMethod_spec w
  obtain ⟨meth', c, hm', -, -, -, -, -, -, hsig⟩ := Cond.code_spec hn wc
  cases hm.symm.trans hm'
  simp [Cond.before, Cond.holds, Cond.value, hn, hm, hst, hsig]
def NoFace (Z : State) (C : String) : Prop := ∃ c k, Z.vm.findClass C = some c ∧ Z.vm.classes[c]? = some k ∧ k.isInterface = false
theorem own_noface {Z : State} {a0 : Array Value} {C : String} {y z : MethodName} (w : (Cond.selects C y z).before a0 Z = true) {K : String} (hK : z.cls = K) : NoFace Z K := by
  subst hK
  obtain ⟨c2, r2, m2, q1, q2, q3, q4, kP, hkP, hkPi⟩ := Cond.selects_spec w
  exact ⟨m2.cls, kP, findClass_of_methodNamed q3, hkP, hkPi⟩
theorem own_nosup {Z : State} {a0 : Array Value} {C S : String} (w : (Cond.superclass C S).before a0 Z = true) : NoFace Z C := by
  obtain ⟨c, hc⟩ := found_sup w
  obtain ⟨p, k, kp, h1, h2, h3, h4, h5, -, h7⟩ := Cond.superclass_spec hc w
  exact ⟨c, k, hc, h2, h7⟩
theorem own_noinst {Z : State} {a0 : Array Value} {C : String} {n : Nat} (w : (Cond.instantiable C n).before a0 Z = true) : NoFace Z C := by
  obtain ⟨c, k, h1, h2, h3, h4⟩ := Cond.instantiable_spec w
  refine ⟨c, k, h1, h2, ?_⟩
  simp [Cond.before, Cond.holds, Cond.value, h1, h2] at w
  simp_all
theorem own_nf {Z s : State} {vm0 : Vm} {y : MethodName} (hZ : Z.Warmed39 vm0) (h : NoFace Z y.cls) : NotFace (s.setVm vm0) y := fun r0 h0 => by
  obtain ⟨c, k, h1, h2, h3⟩ := h
  have hc : vm0.findClass y.cls = some r0.cls := findClass_of_methodNamed h0
  rw [hZ.alike.findClass] at hc
  cases h1.symm.trans hc
  obtain ⟨k', q1, q2⟩ := hZ.alike.2.2 _ _ h2
  refine ⟨k', q1, ?_⟩
  have : k'.isInterface = k.isInterface := by rw [q2]; rfl
  rw [this]; exact h3
theorem own_same {Z : State} {a0 : Array Value} {y : MethodName} (w : (Cond.instanceMethod y).before a0 Z = true) (h : NoFace Z y.cls) (hy : y.cls ≠ "java/lang/invoke/MethodHandle" ∧ y.cls ≠ "java/lang/invoke/VarHandle") : (Cond.sameMethod y.cls y.cls y.name y.desc).before a0 Z = true := by
  obtain ⟨mk, meth, hn, hm, hst, hab⟩ := Cond.instanceMethod_spec w
  obtain ⟨c, k, h1, h2, h3⟩ := h
  have hf := State.methodFound?_of_named hn hy
  have hn' : Z.methodNamed? ⟨y.cls, y.name, y.desc⟩ = some mk := hn
  simp [Cond.before, Cond.holds, Cond.value, h1, hf, hn', h2, h3]
section OwnKit
variable {p : Program} {l : Launch} {e : Env} {R : Room} {s : State} {m : MethodId} {args : Array Value} {below : List Frame} {meth : Method} {c : Code} {T : State} {locs : List Loc} {cells slots : Nat} {F : State → Outcome → Prop} {bs : ByteArray} {own : String} {Z : State} {EL : List (String × Nat)} {n0 : Nat} {h0 h : Heap} {vm0 : Vm} {a0 : Array Value} {pc : Nat} {Ls : Array Slot} {st : List Value}
/-- where a walk stands: the tables may have grown by literals; the constants of EL are held -/
def Sit (p : Program) (l : Launch) (e : Env) (R : Room) (s : State) (m : MethodId) (args : Array Value) (below : List Frame) (meth : Method) (c : Code) (bs : ByteArray) (own : String) (Z : State) (EL : List (String × Nat)) (n0 : Nat) (h0 : Heap) (T : State) (h : Heap) (vm0 : Vm) (locs : List Loc) (cells slots : Nat) : Prop :=
  Stand p l e R (s.setVm vm0) m args below meth c T locs cells slots ∧ T.heap = h ∧ (∃ k0, s.Since vm0 k0 ∧ k0 ≤ h.size) ∧ Z.Warmed39 vm0 ∧ vm0.findClass own = some m.cls ∧ Fr n0 locs ∧ CHr Z EL s.vm s.heap vm0 h ∧ n0 ≤ h.size ∧ p.tables.exec = Jvm.exec ∧ c.code = bs ∧ meth.locks = false ∧ h0.size ≤ h.size
theorem Sit.hh (X : Sit p l e R s m args below meth c bs own Z EL n0 h0 T h vm0 locs cells slots) : T.heap = h := X.2.1
theorem Sit.hZ (X : Sit p l e R s m args below meth c bs own Z EL n0 h0 T h vm0 locs cells slots) : Z.Warmed39 vm0 := X.2.2.2.1
theorem Sit.hown (X : Sit p l e R s m args below meth c bs own Z EL n0 h0 T h vm0 locs cells slots) : vm0.findClass own = some m.cls := X.2.2.2.2.1
theorem Sit.N (X : Sit p l e R s m args below meth c bs own Z EL n0 h0 T h vm0 locs cells slots) : Fr n0 locs := X.2.2.2.2.2.1
theorem Sit.C (X : Sit p l e R s m args below meth c bs own Z EL n0 h0 T h vm0 locs cells slots) : CHr Z EL s.vm s.heap vm0 h := X.2.2.2.2.2.2.1
theorem Sit.n (X : Sit p l e R s m args below meth c bs own Z EL n0 h0 T h vm0 locs cells slots) : n0 ≤ h.size := X.2.2.2.2.2.2.2.1
theorem Sit.hx (X : Sit p l e R s m args below meth c bs own Z EL n0 h0 T h vm0 locs cells slots) : p.tables.exec = Jvm.exec := X.2.2.2.2.2.2.2.2.1
theorem Sit.hby (X : Sit p l e R s m args below meth c bs own Z EL n0 h0 T h vm0 locs cells slots) : c.code = bs := X.2.2.2.2.2.2.2.2.2.1
theorem Sit.hlk (X : Sit p l e R s m args below meth c bs own Z EL n0 h0 T h vm0 locs cells slots) : meth.locks = false := X.2.2.2.2.2.2.2.2.2.2.1
theorem Sit.g0 (X : Sit p l e R s m args below meth c bs own Z EL n0 h0 T h vm0 locs cells slots) : h0.size ≤ h.size := X.2.2.2.2.2.2.2.2.2.2.2
theorem Sit.mk2 (X : Sit p l e R s m args below meth c bs own Z EL n0 h0 T h vm0 locs cells slots) {T' : State} {h' : Heap} {vm1 : Vm} {locs' : List Loc} {cells' slots' k1 : Nat} (Y : Stand p l e R (s.setVm vm1) m args below meth c T' locs' cells' slots') (eh : T'.heap = h') (hS : s.Since vm1 k1) (hk : k1 ≤ h'.size) (hZ : Z.Warmed39 vm1) (ho : vm1.findClass own = some m.cls) (N : Fr n0 locs') (C : CHr Z EL vm0 h vm1 h') :
    Sit p l e R s m args below meth c bs own Z EL n0 h0 T' h' vm1 locs' cells' slots' :=
  ⟨Y, eh, ⟨k1, hS, hk⟩, hZ, ho, N, X.C.trans C, Nat.le_trans X.n C.2.1, X.hx, X.hby, X.hlk, Nat.le_trans X.g0 C.2.1⟩
theorem Sit.mk1 (X : Sit p l e R s m args below meth c bs own Z EL n0 h0 T h vm0 locs cells slots) {T' : State} {h' : Heap} {locs' : List Loc} {cells' slots' : Nat} (Y : Stand p l e R (s.setVm vm0) m args below meth c T' locs' cells' slots') (eh : T'.heap = h') (N : Fr n0 locs') (C : CHr Z EL vm0 h vm0 h') :
    Sit p l e R s m args below meth c bs own Z EL n0 h0 T' h' vm0 locs' cells' slots' := by
  obtain ⟨k0, hS, hk⟩ := X.2.2.1
  exact X.mk2 Y eh hS (Nat.le_trans hk C.2.1) X.hZ X.hown N C
theorem Sit.mk0 (X : Sit p l e R s m args below meth c bs own Z EL n0 h0 T h vm0 locs cells slots) {T' : State} {locs' : List Loc} {cells' slots' : Nat} (Y : Stand p l e R (s.setVm vm0) m args below meth c T' locs' cells' slots') (eh : T'.heap = h) (N : Fr n0 locs') : Sit p l e R s m args below meth c bs own Z EL n0 h0 T' h vm0 locs' cells' slots' :=
  X.mk1 Y eh N (CHr.refl X.C.1)
/-- the end -/
def FinH (Z : State) (EL : List (String × Nat)) (n0 : Nat) (s : State) (Q : Vm → Option Value → Heap → Vm → Prop) (ck sk : Nat) (t : State) (o : Outcome) : Prop :=
  ∃ v L, o = .returned v ∧ (Fr n0 L ∧ Q s.vm v t.heap t.vm) ∧ CHr Z EL s.vm s.heap t.vm t.heap ∧ ReturnedEndW s o t L ck sk
/-- a body's contract -/
def MetH (l : Launch) (Z : State) (EL : List (String × Nat)) (n0 : Nat) (y : MethodName) (bytes : ByteArray) (maxL : Nat) (ret : Option FieldType) (ws : List Jvm.Cond) (rm : Room) (as' : Array Value) (h0 : Heap) (SL : List Addr) (Q : Vm → Option Value → Heap → Vm → Prop) : Prop :=
  MetFree l y (head1 (Jvm.Cond.code y bytes maxL ret :: ws) rm) (fun a U => a = as' ∧ Z.Warmed39 U.vm ∧ U.heap = h0 ∧ CHv Z EL U.vm h0 ∧ ∀ x ∈ SL, Safe Z EL U.vm h0 x) (fun _ _ _ _ _ => True) (fun _ U o U' => ∃ v L, o = .returned v ∧ (Fr n0 L ∧ Q U.vm v U'.heap U'.vm) ∧ CHr Z EL U.vm U.heap U'.vm U'.heap ∧ ReturnedEndW U o U' L rm.cells rm.slots)
theorem MetH.of {l : Launch} {Z : State} {EL : List (String × Nat)} {y : MethodName} {bytes : ByteArray} {maxL : Nat} {ret : Option FieldType} {ws : List Jvm.Cond} {rm : Room} {L : List Value} {h0 : Heap} {SL : List Addr} {Q : Vm → Option Value → Heap → Vm → Prop} {n0 : Nat} (Ms : Array Slot)
    (pn : plainFor y = true) (ef : Ms = (ownLay L ++ List.replicate (maxL - (ownLay L).length) Slot.unset).toArray) (Z0 : n0 ≤ h0.size)
    (body : ∀ p e s m below meth c T, meth.sig.returnType = ret → c.maxLocals = maxL → meth.name = y.name → (∀ x ∈ SL, Safe Z EL s.vm h0 x) → s.heap = h0 → Sit p l e rm s m L.toArray below meth c bytes y.cls Z EL n0 h0 T h0 s.vm [] 0 0 → Go p e below (FinH Z EL n0 s Q rm.cells rm.slots) T (mkF m 0 Ms [])) :
    MetH l Z EL n0 y bytes maxL ret ws rm L.toArray h0 SL Q := by
  refine MetFree.of_bodySF pn hisR ?_
  intro p e s m args below meth c s₁ Bd hml0 hP hK
  obtain ⟨rfl, hZ, hh, hC, hSL⟩ := hP
  have X0 := Stand.of_body Bd
  have e0 : s₁.heap = h0 := by rw [← hh, Bd.state]; rfl
  have G := body p e s m below meth c s₁ Bd.returns hml0 (name_of_methodNamed Bd.named Bd.method).1 hSL hh
    ⟨X0, e0, ⟨0, (State.WarmedH.refl s).since 0, Nat.zero_le _⟩, hZ, findClass_of_methodNamed Bd.named, Fr.nil n0, by subst hh; exact CHr.refl hC, Z0, Bd.exec, Bd.bytes, Bd.notSynchronized, Nat.le_refl _⟩
  rw [ef, ← own_entry m L maxL] at G
  exact G
/-- the contract pays a call -/
theorem backX {y : MethodName} {bytes : ByteArray} {maxL : Nat} {ret : Option FieldType} {rm : Room} {len W : Nat} {as' : Array Value} {SL : List Addr} {Q : Vm → Option Value → Heap → Vm → Prop}
    (hM : MetH l Z EL n0 y bytes maxL ret [] rm as' h SL Q) (hZ : Z.Warmed39 vm0) (wc : (Cond.code y bytes maxL ret).before a0 Z = true) (wz : (Cond.initialized y.cls).before a0 Z = true) (hf : rm.frames + 1 ≤ R.frames) (hl : W + (maxL + 11) + rm.locals ≤ R.locals) (hEL : EW Z a0 EL) (H : CHv Z EL vm0 h) (hS : ∀ x ∈ SL, x < h.size ∧ Safe Z EL vm0 h x) :
    BackS l R p e below (s.setVm vm0) args y len W (fun A a => a = as' ∧ A.U.heap = h ∧ A.cells + rm.cells ≤ R.cells ∧ A.slots + rm.slots ≤ R.slots)
      (fun A _ v B => ∃ L vs, (Fr n0 L ∧ Q vs v B.U.heap B.U.vm) ∧ CHr Z EL vm0 h vs h ∧ B.locs = A.locs ++ L ∧ B.cells = A.cells + rm.cells ∧ B.slots = A.slots + rm.slots ∧ CHr Z EL vm0 h B.U.vm B.U.heap) :=
  BackS.of_freeW (bytes := bytes) (maxL := maxL) (ret := ret) (E := fun _ first o t L k n => k = rm.cells ∧ n = rm.slots ∧ (∃ v, o = .returned v ∧ (Fr n0 L ∧ Q first.vm v t.heap t.vm)) ∧ CHr Z EL first.vm first.heap t.vm t.heap) hM hf hl
    (fun m meth c A a Y hp => have hU : Z.Warmed39 A.U.vm := wtrans (s := s.setVm vm0) hZ Y.warmed
      ⟨by show (Jvm.Cond.and _ .tt).before a A.U = true; rw [Cond.before_and, mv hU wc]; rfl, mv hU wc, mv hU wz, hp.2.2.1, hp.2.2.2⟩)
    (fun m meth c A a g mk Y hp => ⟨hp.1, wtrans (s := s.setVm vm0) hZ Y.warmed, hp.2.1, (CHv.at Y hZ hEL H).1, fun x hx => by have A' := CHv.at Y hZ hEL H; exact CHr.safe A' (hS x hx).1 (hS x hx).2⟩) (fun _ _ _ _ _ _ _ _ _ => trivial)
    (fun _ _ _ _ ⟨v, L, h1, h2, h3, h4⟩ => ⟨L, _, _, h4, rfl, rfl, ⟨v, h1, h2⟩, h3⟩)
    (fun m meth c A a g mk v t L k n Y hp _ _ ⟨e1, e2, ⟨v', e3, e4⟩, e5⟩ => by
      cases e3; subst e1 e2
      refine ⟨L, A.U.vm, e4, CHv.at Y hZ hEL H, rfl, rfl, rfl, (CHv.at Y hZ hEL H).trans ?_⟩
      rw [← hp.2.1]; exact e5)
theorem kDONE (X : Sit p l e R s m args below meth c bs own Z EL n0 h0 T h vm0 locs cells slots) (hEL : EW Z a0 EL) {Q : Vm → Option Value → Heap → Vm → Prop} {ck sk : Nat} {g : JFrame} {v : Option Value} (hv : meth.sig.returnType = none → v = none)
    (st : ∀ fs, (∀ (f : JFrame) (acts : List Action), f.method = m → f.locked = none → f.entered = [] → (doReturn e (T.setTop f) acts v).1 = T.setFrames fs) → Steps p.tables e below (T.setTop g) (T.setFrames fs))
    (hQ : ∀ ve, CHr Z EL vm0 h ve h → Q s.vm v h ve) (hcs : cells ≤ ck ∧ slots ≤ sk) : Go p e below (FinH Z EL n0 s Q ck sk) T g := by
  obtain ⟨k0, hS, hk⟩ := X.2.2.1
  obtain ⟨fs, hr, hrun, hended, hW, hsame⟩ := X.1.leave hv X.hlk
  obtain ⟨a, b, c'⟩ := hS.ended (U := T.setFrames fs) hW (by show k0 ≤ T.heap.size; rw [X.hh]; exact hk) hsame
  refine ⟨_, _, st fs hr, hrun, hended, v, locs, rfl, ?_, ?_, ⟨v, rfl⟩, a, b, c'.mono hcs.1 hcs.2⟩
  · show Fr n0 locs ∧ Q s.vm v T.heap T.vm
    rw [X.hh]; exact ⟨X.N, hQ _ (CHv.at X.1 X.hZ hEL X.C.1)⟩
  · show CHr Z EL s.vm s.heap T.vm T.heap
    rw [X.hh]
    exact X.C.trans (CHv.at X.1 X.hZ hEL X.C.1)
theorem kRETV (X : Sit p l e R s m args below meth c bs own Z EL n0 h0 T h vm0 locs cells slots) (hEL : EW Z a0 EL) {Q : Vm → Option Value → Heap → Vm → Prop} {ck sk : Nat} (hret : meth.sig.returnType = none) (hd : decode bs pc = .ok (.return_, 1)) (hQ : ∀ ve, CHr Z EL vm0 h ve h → Q s.vm none h ve) (hcs : cells ≤ ck ∧ slots ≤ sk) : Go p e below (FinH Z EL n0 s Q ck sk) T (mkF m pc Ls []) :=
  kDONE X hEL (fun _ => rfl) (fun fs hr => X.1.returnOut X.hx hret (hb X.hby hd) hr) hQ hcs
theorem kRETZ (X : Sit p l e R s m args below meth c bs own Z EL n0 h0 T h vm0 locs cells slots) (hEL : EW Z a0 EL) {Q : Vm → Option Value → Heap → Vm → Prop} {ck sk : Nat} {z : Int32} {t : FieldType} (hret : meth.sig.returnType = some t) (ht : t = .boolean ∨ t = .byte ∨ t = .char ∨ t = .short) (hd : decode bs pc = .ok (.ireturn, 1)) (hQ : ∀ ve, CHr Z EL vm0 h ve h → Q s.vm (some (.int (nar t z))) h ve) (hcs : cells ≤ ck ∧ slots ≤ sk) : Go p e below (FinH Z EL n0 s Q ck sk) T (mkF m pc Ls (.int z :: st)) :=
  kDONE X hEL (fun h => by rw [hret] at h; cases h) (fun fs hr => retN X.1 X.hx hret ht (hb X.hby hd) hr) hQ hcs
theorem kRETI (X : Sit p l e R s m args below meth c bs own Z EL n0 h0 T h vm0 locs cells slots) (hEL : EW Z a0 EL) {Q : Vm → Option Value → Heap → Vm → Prop} {ck sk : Nat} {z : Int32} (hret : meth.sig.returnType = some .int) (hd : decode bs pc = .ok (.ireturn, 1)) (hQ : ∀ ve, CHr Z EL vm0 h ve h → Q s.vm (some (.int z)) h ve) (hcs : cells ≤ ck ∧ slots ≤ sk) : Go p e below (FinH Z EL n0 s Q ck sk) T (mkF m pc Ls (.int z :: st)) :=
  kDONE X hEL (fun h => by rw [hret] at h; cases h) (fun fs hr => retOut X.1 X.hx hret rfl (Or.inl ⟨rfl, Or.inl rfl, _, rfl⟩) (hb X.hby hd) hr) hQ hcs
theorem kRETA (X : Sit p l e R s m args below meth c bs own Z EL n0 h0 T h vm0 locs cells slots) (hEL : EW Z a0 EL) {Q : Vm → Option Value → Heap → Vm → Prop} {ck sk : Nat} {w : Value} {t : FieldType} (hret : meth.sig.returnType = some t) (ht : t.isReference = true) (hw : w.isRef = true) (hd : decode bs pc = .ok (.areturn, 1)) (hQ : ∀ ve, CHr Z EL vm0 h ve h → Q s.vm (some w) h ve) (hcs : cells ≤ ck ∧ slots ≤ sk) : Go p e below (FinH Z EL n0 s Q ck sk) T (mkF m pc Ls (w :: st)) :=
  kDONE X hEL (fun h => by rw [hret] at h; cases h) (fun fs hr => retOut X.1 X.hx hret (by cases w <;> cases t <;> first | rfl | (cases hw; done) | (cases ht; done)) (Or.inr (Or.inr (Or.inr (Or.inr ⟨rfl, ht, hw⟩)))) (hb X.hby hd) hr) hQ hcs
theorem kILn (X : Sit p l e R s m args below meth c bs own Z EL n0 h0 T h vm0 locs cells slots) {k : Fin 4} {v : Int32} (hd : decode bs pc = .ok (.iload_n k, 1)) (hl : Ls[k.val]? = some (.val (.int v))) (q : Go p e below F T (mkF m (pc + 1) Ls (.int v :: st))) : Go p e below F T (mkF m pc Ls st) :=
  Go.by (fun _ r => XS.iloadN X.1.here X.hx rfl (hb X.hby hd) hl r) q
theorem kLLn (X : Sit p l e R s m args below meth c bs own Z EL n0 h0 T h vm0 locs cells slots) {k : Fin 4} {v : Int64} (hd : decode bs pc = .ok (.lload_n k, 1)) (hl : Ls[k.val]? = some (.val (.long v))) (q : Go p e below F T (mkF m (pc + 1) Ls (.long v :: st))) : Go p e below F T (mkF m pc Ls st) :=
  Go.by (fun _ r => XT.lloadN X.1.here X.hx rfl (hb X.hby hd) hl r) q
theorem kALn (X : Sit p l e R s m args below meth c bs own Z EL n0 h0 T h vm0 locs cells slots) {k : Fin 4} {v : Value} (hd : decode bs pc = .ok (.aload_n k, 1)) (hl : Ls[k.val]? = some (.val v)) (hv : v.isRef = true) (q : Go p e below F T (mkF m (pc + 1) Ls (v :: st))) : Go p e below F T (mkF m pc Ls st) :=
  Go.by (fun _ r => XS.aloadN X.1.here X.hx rfl (hb X.hby hd) hl hv r) q
theorem kISn (X : Sit p l e R s m args below meth c bs own Z EL n0 h0 T h vm0 locs cells slots) {k : Fin 4} {v : Int32} (Ms : Array Slot) (hd : decode bs pc = .ok (.istore_n k, 1)) (hl : storeLocals Ls k.val (.int v) = some Ms) (q : Go p e below F T (mkF m (pc + 1) Ms st)) : Go p e below F T (mkF m pc Ls (.int v :: st)) :=
  Go.by (fun _ r => XS.istoreN X.1.here X.hx rfl (hb X.hby hd) rfl hl r) q
theorem kLSn (X : Sit p l e R s m args below meth c bs own Z EL n0 h0 T h vm0 locs cells slots) {k : Fin 4} {v : Int64} (Ms : Array Slot) (hd : decode bs pc = .ok (.lstore_n k, 1)) (hl : storeLocals Ls k.val (.long v) = some Ms) (q : Go p e below F T (mkF m (pc + 1) Ms st)) : Go p e below F T (mkF m pc Ls (.long v :: st)) :=
  Go.by (fun _ r => XT.lstoreN X.1.here X.hx rfl (hb X.hby hd) rfl hl r) q
theorem kASn (X : Sit p l e R s m args below meth c bs own Z EL n0 h0 T h vm0 locs cells slots) {k : Fin 4} {v : Value} (Ms : Array Slot) (hd : decode bs pc = .ok (.astore_n k, 1)) (hv : v.isRef = true) (hl : storeLocals Ls k.val v = some Ms) (q : Go p e below F T (mkF m (pc + 1) Ms st)) : Go p e below F T (mkF m pc Ls (v :: st)) :=
  Go.by (fun _ r => XS.astoreN X.1.here X.hx rfl (hb X.hby hd) rfl hv hl r) q
theorem kIL (X : Sit p l e R s m args below meth c bs own Z EL n0 h0 T h vm0 locs cells slots) {k : Nat} {v : Int32} (hd : decode bs pc = .ok (.iload k, 2)) (hl : Ls[k]? = some (.val (.int v))) (q : Go p e below F T (mkF m (pc + 2) Ls (.int v :: st))) : Go p e below F T (mkF m pc Ls st) :=
  Go.by (fun _ r => XS.iload X.1.here X.hx rfl (hb X.hby hd) hl r) q
theorem kLL (X : Sit p l e R s m args below meth c bs own Z EL n0 h0 T h vm0 locs cells slots) {k : Nat} {v : Int64} (hd : decode bs pc = .ok (.lload k, 2)) (hl : Ls[k]? = some (.val (.long v))) (q : Go p e below F T (mkF m (pc + 2) Ls (.long v :: st))) : Go p e below F T (mkF m pc Ls st) :=
  Go.by (fun _ r => XT.lload X.1.here X.hx rfl (hb X.hby hd) hl r) q
theorem kAL (X : Sit p l e R s m args below meth c bs own Z EL n0 h0 T h vm0 locs cells slots) {k : Nat} {v : Value} (hd : decode bs pc = .ok (.aload k, 2)) (hl : Ls[k]? = some (.val v)) (hv : v.isRef = true) (q : Go p e below F T (mkF m (pc + 2) Ls (v :: st))) : Go p e below F T (mkF m pc Ls st) :=
  Go.by (fun _ r => XS.aload X.1.here X.hx rfl (hb X.hby hd) hl hv r) q
theorem kIS (X : Sit p l e R s m args below meth c bs own Z EL n0 h0 T h vm0 locs cells slots) {k : Nat} {v : Int32} (Ms : Array Slot) (hd : decode bs pc = .ok (.istore k, 2)) (hl : storeLocals Ls k (.int v) = some Ms) (q : Go p e below F T (mkF m (pc + 2) Ms st)) : Go p e below F T (mkF m pc Ls (.int v :: st)) :=
  Go.by (fun _ r => XS.istore X.1.here X.hx rfl (hb X.hby hd) rfl hl r) q
theorem kLS (X : Sit p l e R s m args below meth c bs own Z EL n0 h0 T h vm0 locs cells slots) {k : Nat} {v : Int64} (Ms : Array Slot) (hd : decode bs pc = .ok (.lstore k, 2)) (hl : storeLocals Ls k (.long v) = some Ms) (q : Go p e below F T (mkF m (pc + 2) Ms st)) : Go p e below F T (mkF m pc Ls (.long v :: st)) :=
  Go.by (fun _ r => XT.lstore X.1.here X.hx rfl (hb X.hby hd) rfl hl r) q
theorem kAS (X : Sit p l e R s m args below meth c bs own Z EL n0 h0 T h vm0 locs cells slots) {k : Nat} {v : Value} (Ms : Array Slot) (hd : decode bs pc = .ok (.astore k, 2)) (hv : v.isRef = true) (hl : storeLocals Ls k v = some Ms) (q : Go p e below F T (mkF m (pc + 2) Ms st)) : Go p e below F T (mkF m pc Ls (v :: st)) :=
  Go.by (fun _ r => XS.astore X.1.here X.hx rfl (hb X.hby hd) rfl hv hl r) q
theorem kIC (X : Sit p l e R s m args below meth c bs own Z EL n0 h0 T h vm0 locs cells slots) {i : Int} (v : Int32) (hd : decode bs pc = .ok (.iconst i, 1)) (hv : Int32.ofInt i = v) (q : Go p e below F T (mkF m (pc + 1) Ls (.int v :: st))) : Go p e below F T (mkF m pc Ls st) :=
  Go.by (fun _ r => XT.iconstV X.1.here X.hx rfl v (hb X.hby hd) hv r) q
theorem kBI (X : Sit p l e R s m args below meth c bs own Z EL n0 h0 T h vm0 locs cells slots) {i : Int} (v : Int32) (hd : decode bs pc = .ok (.bipush i, 2)) (hv : (Int8.ofInt i).toInt32 = v) (q : Go p e below F T (mkF m (pc + 2) Ls (.int v :: st))) : Go p e below F T (mkF m pc Ls st) :=
  Go.by (fun _ r => XT.bipushV X.1.here X.hx rfl v (hb X.hby hd) hv r) q
theorem kSI (X : Sit p l e R s m args below meth c bs own Z EL n0 h0 T h vm0 locs cells slots) {i : Int} (v : Int32) (hd : decode bs pc = .ok (.sipush i, 3)) (hv : (Int16.ofInt i).toInt32 = v) (q : Go p e below F T (mkF m (pc + 3) Ls (.int v :: st))) : Go p e below F T (mkF m pc Ls st) :=
  Go.by (fun _ r => XT.sipushV X.1.here X.hx rfl v (hb X.hby hd) hv r) q
theorem kLC (X : Sit p l e R s m args below meth c bs own Z EL n0 h0 T h vm0 locs cells slots) {k : Fin 2} (v : Int64) (hd : decode bs pc = .ok (.lconst k, 1)) (hv : Int64.ofNat k = v) (q : Go p e below F T (mkF m (pc + 1) Ls (.long v :: st))) : Go p e below F T (mkF m pc Ls st) :=
  Go.by (fun _ r => XT.lconstV X.1.here X.hx rfl v (hb X.hby hd) hv r) q
theorem kNULL (X : Sit p l e R s m args below meth c bs own Z EL n0 h0 T h vm0 locs cells slots)  (hd : decode bs pc = .ok (.aconst_null, 1)) (q : Go p e below F T (mkF m (pc + 1) Ls (.null :: st))) : Go p e below F T (mkF m pc Ls st) :=
  Go.by (fun _ r => XS.aconstNull X.1.here X.hx rfl (hb X.hby hd) r) q
theorem kIADD (X : Sit p l e R s m args below meth c bs own Z EL n0 h0 T h vm0 locs cells slots) {x y : Int32} (z : Int32) (hd : decode bs pc = .ok (.iadd, 1)) (hz : x + y = z) (q : Go p e below F T (mkF m (pc + 1) Ls (.int z :: st))) : Go p e below F T (mkF m pc Ls (.int y :: .int x :: st)) :=
  Go.by (fun _ r => XS.iadd X.1.here X.hx rfl (hb X.hby hd) rfl (hz ▸ r)) q
theorem kISUB (X : Sit p l e R s m args below meth c bs own Z EL n0 h0 T h vm0 locs cells slots) {x y : Int32} (z : Int32) (hd : decode bs pc = .ok (.isub, 1)) (hz : x - y = z) (q : Go p e below F T (mkF m (pc + 1) Ls (.int z :: st))) : Go p e below F T (mkF m pc Ls (.int y :: .int x :: st)) :=
  Go.by (fun _ r => XS.isub X.1.here X.hx rfl (hb X.hby hd) rfl (hz ▸ r)) q
theorem kIMUL (X : Sit p l e R s m args below meth c bs own Z EL n0 h0 T h vm0 locs cells slots) {x y : Int32} (z : Int32) (hd : decode bs pc = .ok (.imul, 1)) (hz : x * y = z) (q : Go p e below F T (mkF m (pc + 1) Ls (.int z :: st))) : Go p e below F T (mkF m pc Ls (.int y :: .int x :: st)) :=
  Go.by (fun _ r => XS.imul X.1.here X.hx rfl (hb X.hby hd) rfl (hz ▸ r)) q
theorem kIAND (X : Sit p l e R s m args below meth c bs own Z EL n0 h0 T h vm0 locs cells slots) {x y : Int32} (z : Int32) (hd : decode bs pc = .ok (.iand, 1)) (hz : x &&& y = z) (q : Go p e below F T (mkF m (pc + 1) Ls (.int z :: st))) : Go p e below F T (mkF m pc Ls (.int y :: .int x :: st)) :=
  Go.by (fun _ r => XS.iand X.1.here X.hx rfl (hb X.hby hd) rfl (hz ▸ r)) q
theorem kIOR (X : Sit p l e R s m args below meth c bs own Z EL n0 h0 T h vm0 locs cells slots) {x y : Int32} (z : Int32) (hd : decode bs pc = .ok (.ior, 1)) (hz : x ||| y = z) (q : Go p e below F T (mkF m (pc + 1) Ls (.int z :: st))) : Go p e below F T (mkF m pc Ls (.int y :: .int x :: st)) :=
  Go.by (fun _ r => XT.ior X.1.here X.hx rfl (hb X.hby hd) rfl (hz ▸ r)) q
theorem kIXOR (X : Sit p l e R s m args below meth c bs own Z EL n0 h0 T h vm0 locs cells slots) {x y : Int32} (z : Int32) (hd : decode bs pc = .ok (.ixor, 1)) (hz : x ^^^ y = z) (q : Go p e below F T (mkF m (pc + 1) Ls (.int z :: st))) : Go p e below F T (mkF m pc Ls (.int y :: .int x :: st)) :=
  Go.by (fun _ r => XT.ixor X.1.here X.hx rfl (hb X.hby hd) rfl (hz ▸ r)) q
theorem kISHL (X : Sit p l e R s m args below meth c bs own Z EL n0 h0 T h vm0 locs cells slots) {x y : Int32} (z : Int32) (hd : decode bs pc = .ok (.ishl, 1)) (hz : x <<< (y &&& 31) = z) (q : Go p e below F T (mkF m (pc + 1) Ls (.int z :: st))) : Go p e below F T (mkF m pc Ls (.int y :: .int x :: st)) :=
  Go.by (fun _ r => XT.ishl X.1.here X.hx rfl (hb X.hby hd) rfl (hz ▸ r)) q
theorem kISHR (X : Sit p l e R s m args below meth c bs own Z EL n0 h0 T h vm0 locs cells slots) {x y : Int32} (z : Int32) (hd : decode bs pc = .ok (.ishr, 1)) (hz : x >>> (y &&& 31) = z) (q : Go p e below F T (mkF m (pc + 1) Ls (.int z :: st))) : Go p e below F T (mkF m pc Ls (.int y :: .int x :: st)) :=
  Go.by (fun _ r => XT.ishr X.1.here X.hx rfl (hb X.hby hd) rfl (hz ▸ r)) q
theorem kIUSHR (X : Sit p l e R s m args below meth c bs own Z EL n0 h0 T h vm0 locs cells slots) {x y : Int32} (z : Int32) (hd : decode bs pc = .ok (.iushr, 1)) (hz : XT.ushr x y = z) (q : Go p e below F T (mkF m (pc + 1) Ls (.int z :: st))) : Go p e below F T (mkF m pc Ls (.int y :: .int x :: st)) :=
  Go.by (fun _ r => XT.iushr X.1.here X.hx rfl (hb X.hby hd) rfl (hz ▸ r)) q
theorem kIREM (X : Sit p l e R s m args below meth c bs own Z EL n0 h0 T h vm0 locs cells slots) {x y : Int32} (z : Int32) (hd : decode bs pc = .ok (.irem, 1)) (hy : y ≠ 0) (hz : x % y = z) (q : Go p e below F T (mkF m (pc + 1) Ls (.int z :: st))) : Go p e below F T (mkF m pc Ls (.int y :: .int x :: st)) :=
  Go.by (fun _ r => iremM X.1 X.hx rfl (hb X.hby hd) rfl hy (hz ▸ r)) q
theorem kI2C (X : Sit p l e R s m args below meth c bs own Z EL n0 h0 T h vm0 locs cells slots) {x : Int32} (z : Int32) (hd : decode bs pc = .ok (.i2c, 1)) (hz : x.toUInt32.toUInt16.toUInt32.toInt32 = z) (q : Go p e below F T (mkF m (pc + 1) Ls (.int z :: st))) : Go p e below F T (mkF m pc Ls (.int x :: st)) :=
  Go.by (fun _ r => XT.i2c X.1.here X.hx rfl (hb X.hby hd) rfl (hz ▸ r)) q
theorem kI2B (X : Sit p l e R s m args below meth c bs own Z EL n0 h0 T h vm0 locs cells slots) {x : Int32} (z : Int32) (hd : decode bs pc = .ok (.i2b, 1)) (hz : x.toInt8.toInt32 = z) (q : Go p e below F T (mkF m (pc + 1) Ls (.int z :: st))) : Go p e below F T (mkF m pc Ls (.int x :: st)) :=
  Go.by (fun _ r => XT.i2b X.1.here X.hx rfl (hb X.hby hd) rfl (hz ▸ r)) q
theorem kI2L (X : Sit p l e R s m args below meth c bs own Z EL n0 h0 T h vm0 locs cells slots) {x : Int32} (hd : decode bs pc = .ok (.i2l, 1)) (q : Go p e below F T (mkF m (pc + 1) Ls (.long x.toInt64 :: st))) : Go p e below F T (mkF m pc Ls (.int x :: st)) :=
  Go.by (fun _ r => XT.i2l X.1.here X.hx rfl (hb X.hby hd) rfl r) q
theorem kDUP (X : Sit p l e R s m args below meth c bs own Z EL n0 h0 T h vm0 locs cells slots) {x : Value} (hd : decode bs pc = .ok (.dup, 1)) (hc : x.category = 1) (q : Go p e below F T (mkF m (pc + 1) Ls (x :: x :: st))) : Go p e below F T (mkF m pc Ls (x :: st)) :=
  Go.by (fun _ r => XS.dup X.1.here X.hx rfl (hb X.hby hd) rfl hc r) q
theorem kDUPX (X : Sit p l e R s m args below meth c bs own Z EL n0 h0 T h vm0 locs cells slots) {x y : Value} (hd : decode bs pc = .ok (.dup_x1, 1)) (hc : x.category = 1) (hc2 : y.category = 1) (q : Go p e below F T (mkF m (pc + 1) Ls (x :: y :: x :: st))) : Go p e below F T (mkF m pc Ls (x :: y :: st)) :=
  Go.by (fun _ r => XT.dupX1 X.1.here X.hx rfl (hb X.hby hd) rfl hc hc2 r) q
theorem kPOP (X : Sit p l e R s m args below meth c bs own Z EL n0 h0 T h vm0 locs cells slots) {x : Value} (hd : decode bs pc = .ok (.pop, 1)) (hc : x.category = 1) (q : Go p e below F T (mkF m (pc + 1) Ls st)) : Go p e below F T (mkF m pc Ls (x :: st)) :=
  Go.by (fun _ r => XT.pop X.1.here X.hx rfl (hb X.hby hd) rfl hc r) q
theorem kIINC (X : Sit p l e R s m args below meth c bs own Z EL n0 h0 T h vm0 locs cells slots) {k : Nat} {i : Int} {x : Int32} (v z : Int32) (Ms : Array Slot) (hd : decode bs pc = .ok (.iinc k i, 3)) (hv : Int32.ofInt i = v) (hl : Ls[k]? = some (.val (.int x))) (hz : x + v = z) (hl2 : storeLocals Ls k (.int z) = some Ms) (q : Go p e below F T (mkF m (pc + 3) Ms st)) : Go p e below F T (mkF m pc Ls st) :=
  Go.by (fun _ r => XT.iincV X.1.here X.hx rfl v (hb X.hby hd) hv hl (hz ▸ hl2) r) q
theorem kGOTO (X : Sit p l e R s m args below meth c bs own Z EL n0 h0 T h vm0 locs cells slots)  {o : Int} (pc2 : Nat) (hd : decode bs pc = .ok (.goto o, 3))  (ho : 0 ≤ (pc : Int) + o ∧ ((pc : Int) + o).toNat = pc2) (q : Go p e below F T (mkF m pc2 Ls st)) : Go p e below F T (mkF m pc Ls st) :=
  Go.by (fun _ r => XS.goto X.1.here X.hx rfl (pc0 := pc) (pc' := pc2) rfl (hb X.hby hd)  ho.1 ho.2 r) q
theorem kIFt (X : Sit p l e R s m args below meth c bs own Z EL n0 h0 T h vm0 locs cells slots) {cd : ClassFile.Cond} {x : Int32} {o : Int} (pc2 : Nat) (hd : decode bs pc = .ok (.ifCond cd o, 3)) (hc : ifCond.holds cd x = true) (ho : 0 ≤ (pc : Int) + o ∧ ((pc : Int) + o).toNat = pc2) (q : Go p e below F T (mkF m pc2 Ls st)) : Go p e below F T (mkF m pc Ls (.int x :: st)) :=
  Go.by (fun _ r => XS.ifYes X.1.here X.hx rfl (pc0 := pc) (pc' := pc2) rfl (hb X.hby hd) rfl hc ho.1 ho.2 r) q
theorem kICt (X : Sit p l e R s m args below meth c bs own Z EL n0 h0 T h vm0 locs cells slots) {cd : ClassFile.Cond} {x y : Int32} {o : Int} (pc2 : Nat) (hd : decode bs pc = .ok (.if_icmp cd o, 3)) (hc : if_icmp.holds cd x y = true) (ho : 0 ≤ (pc : Int) + o ∧ ((pc : Int) + o).toNat = pc2) (q : Go p e below F T (mkF m pc2 Ls st)) : Go p e below F T (mkF m pc Ls (.int y :: .int x :: st)) :=
  Go.by (fun _ r => XS.icmpYes X.1.here X.hx rfl (pc0 := pc) (pc' := pc2) rfl (hb X.hby hd) rfl hc ho.1 ho.2 r) q
theorem kACt (X : Sit p l e R s m args below meth c bs own Z EL n0 h0 T h vm0 locs cells slots) {cd : ClassFile.ACond} {x y : Value} {o : Int} (pc2 : Nat) (hd : decode bs pc = .ok (.if_acmp cd o, 3)) (hx1 : x.isRef = true) (hy1 : y.isRef = true) (hc : XT.acmp cd x y = true) (ho : 0 ≤ (pc : Int) + o ∧ ((pc : Int) + o).toNat = pc2) (q : Go p e below F T (mkF m pc2 Ls st)) : Go p e below F T (mkF m pc Ls (y :: x :: st)) :=
  Go.by (fun _ r => XT.acmpYes X.1.here X.hx rfl (pc0 := pc) (pc' := pc2) rfl (hb X.hby hd) rfl hx1 hy1 hc ho.1 ho.2 r) q
theorem kNUt (X : Sit p l e R s m args below meth c bs own Z EL n0 h0 T h vm0 locs cells slots)  {o : Int} (pc2 : Nat) (hd : decode bs pc = .ok (.ifnull o, 3))  (ho : 0 ≤ (pc : Int) + o ∧ ((pc : Int) + o).toNat = pc2) (q : Go p e below F T (mkF m pc2 Ls st)) : Go p e below F T (mkF m pc Ls (.null :: st)) :=
  Go.by (fun _ r => XS.ifnullYes X.1.here X.hx rfl (pc0 := pc) (pc' := pc2) rfl (hb X.hby hd) rfl ho.1 ho.2 r) q
theorem kNNt (X : Sit p l e R s m args below meth c bs own Z EL n0 h0 T h vm0 locs cells slots) {b : Addr} {o : Int} (pc2 : Nat) (hd : decode bs pc = .ok (.ifnonnull o, 3))  (ho : 0 ≤ (pc : Int) + o ∧ ((pc : Int) + o).toNat = pc2) (q : Go p e below F T (mkF m pc2 Ls st)) : Go p e below F T (mkF m pc Ls (.ref b :: st)) :=
  Go.by (fun _ r => XT.ifnonnullYes X.1.here X.hx rfl (pc0 := pc) (pc' := pc2) rfl (hb X.hby hd) rfl ho.1 ho.2 r) q
theorem kIFf (X : Sit p l e R s m args below meth c bs own Z EL n0 h0 T h vm0 locs cells slots) {cd : ClassFile.Cond} {x : Int32} {o : Int} (hd : decode bs pc = .ok (.ifCond cd o, 3)) (hc : ifCond.holds cd x = false) (q : Go p e below F T (mkF m (pc + 3) Ls st)) : Go p e below F T (mkF m pc Ls (.int x :: st)) :=
  Go.by (fun _ r => XS.ifNo X.1.here X.hx rfl (hb X.hby hd) rfl hc r) q
theorem kICf (X : Sit p l e R s m args below meth c bs own Z EL n0 h0 T h vm0 locs cells slots) {cd : ClassFile.Cond} {x y : Int32} {o : Int} (hd : decode bs pc = .ok (.if_icmp cd o, 3)) (hc : if_icmp.holds cd x y = false) (q : Go p e below F T (mkF m (pc + 3) Ls st)) : Go p e below F T (mkF m pc Ls (.int y :: .int x :: st)) :=
  Go.by (fun _ r => XS.icmpNo X.1.here X.hx rfl (hb X.hby hd) rfl hc r) q
theorem kACf (X : Sit p l e R s m args below meth c bs own Z EL n0 h0 T h vm0 locs cells slots) {cd : ClassFile.ACond} {x y : Value} {o : Int} (hd : decode bs pc = .ok (.if_acmp cd o, 3)) (hx1 : x.isRef = true) (hy1 : y.isRef = true) (hc : XT.acmp cd x y = false) (q : Go p e below F T (mkF m (pc + 3) Ls st)) : Go p e below F T (mkF m pc Ls (y :: x :: st)) :=
  Go.by (fun _ r => XT.acmpNo X.1.here X.hx rfl (hb X.hby hd) rfl hx1 hy1 hc r) q
theorem kNUf (X : Sit p l e R s m args below meth c bs own Z EL n0 h0 T h vm0 locs cells slots) {b : Addr} {o : Int} (hd : decode bs pc = .ok (.ifnull o, 3)) (q : Go p e below F T (mkF m (pc + 3) Ls st)) : Go p e below F T (mkF m pc Ls (.ref b :: st)) :=
  Go.by (fun _ r => XS.ifnullNo X.1.here X.hx rfl (hb X.hby hd) rfl r) q
theorem kNNf (X : Sit p l e R s m args below meth c bs own Z EL n0 h0 T h vm0 locs cells slots) {o : Int} (hd : decode bs pc = .ok (.ifnonnull o, 3)) (q : Go p e below F T (mkF m (pc + 3) Ls st)) : Go p e below F T (mkF m pc Ls (.null :: st)) :=
  Go.by (fun _ r => XT.ifnonnullNo X.1.here X.hx rfl (hb X.hby hd) rfl r) q
theorem kLDCI (X : Sit p l e R s m args below meth c bs own Z EL n0 h0 T h vm0 locs cells slots) {i : Nat} {v : Int32} (w : (Cond.constant own i v).before a0 Z = true) (hd : decode bs pc = .ok (.ldc i, 2)) (q : Go p e below F T (mkF m (pc + 2) Ls (.int v :: st))) : Go p e below F T (mkF m pc Ls st) :=
  Go.by (fun _ r => X.1.ldcI X.hx X.hown (mvT (s := s.setVm vm0) X.hZ w) rfl (hb X.hby hd) r) q
theorem kGETS (X : Sit p l e R s m args below meth c bs own Z EL n0 h0 T h vm0 locs cells slots) {R0 O n d : String} {i : Nat} {v : Value} (w : (Cond.fieldLink own i R0 n d).before a0 Z = true) (via : Via Z R0 O n d) (f : Sta Z h O n d v) (hd : decode bs pc = .ok (.getstatic i, 3))
    (q : ∀ T', Sit p l e R s m args below meth c bs own Z EL n0 h0 T' h vm0 locs cells slots → Go p e below F T' (mkF m (pc + 3) Ls (v :: st))) : Go p e below F T (mkF m pc Ls st) := by
  obtain ⟨T', Y, e', stp⟩ := getS X.1 X.hx X.hZ X.hown (host := "") w via X.hh f (g := mkF m pc Ls st) rfl (hb X.hby hd)
  exact Go.by stp (q T' (X.mk0 Y e' X.N))
theorem kGETF (X : Sit p l e R s m args below meth c bs own Z EL n0 h0 T h vm0 locs cells slots) {R0 O n d : String} {i : Nat} {a : Addr} {v : Value} (w : (Cond.fieldLink own i R0 n d).before a0 Z = true) (via : Via Z R0 O n d) (f : Fld Z h a O n d v) (hd : decode bs pc = .ok (.getfield i, 3))
    (q : ∀ T', Sit p l e R s m args below meth c bs own Z EL n0 h0 T' h vm0 locs cells slots → Go p e below F T' (mkF m (pc + 3) Ls (v :: st))) : Go p e below F T (mkF m pc Ls (.ref a :: st)) := by
  obtain ⟨T', Y, e', stp⟩ := getF X.1 X.hx X.hZ X.hown (host := "") (Or.inl w) via X.hh f (g := mkF m pc Ls (.ref a :: st)) rfl rfl (hb X.hby hd)
  exact Go.by stp (q T' (X.mk0 Y e' X.N))
theorem kPUTF (X : Sit p l e R s m args below meth c bs own Z EL n0 h0 T h vm0 locs cells slots) {R0 O n d C : String} {i kk : Nat} {ty : FieldType} {a : Addr} {v old : Value} (w : (Cond.fieldLink own i R0 n d).before a0 Z = true) (via : Via Z R0 O n d) (f : Fld Z h a O n d old) (E : Exa Z h a C) (L : (Cond.lays C O n d).before a0 Z = true ∨ ((Cond.laysFinal C O n d).before a0 Z = true ∧ own = O ∧ meth.name = "<init>")) (wi : (Cond.instantiable C kk).before a0 Z = true)
    (hty : parseFieldDescriptor d = some ty) (hn : narrow ty v = v) (hf : fits ty v = true) (ga : n0 ≤ a) (S : Safe Z EL vm0 h a) (hd : decode bs pc = .ok (.putfield i, 3))
    (q : ∀ T' h' locs', Wr h h' a (Jvm.RoadKit.slotOf Z O n d) v → Sit p l e R s m args below meth c bs own Z EL n0 h0 T' h' vm0 locs' cells slots → Go p e below F T' (mkF m (pc + 3) Ls st)) : Go p e below F T (mkF m pc Ls (v :: .ref a :: st)) := by
  obtain ⟨T', h', Y, e', W, stp⟩ := putF X.1 X.hx X.hZ X.hown (host := "") (Or.inl w) via X.hh f E L wi hty hn hf (g := mkF m pc Ls (v :: .ref a :: st)) rfl rfl (hb X.hby hd)
  exact Go.by stp (q T' h' _ W (X.mk1 Y e' (Fr.snoc Y X.N ga) (CHr.wr W S X.C.1)))
theorem kNEW (X : Sit p l e R s m args below meth c bs own Z EL n0 h0 T h vm0 locs cells slots) {C : String} {i n : Nat} (w : (Cond.classLink own i C).before a0 Z = true) (wi : (Cond.instantiable C n).before a0 Z = true) (wz : (Cond.initialized C).before a0 Z = true) (hd : decode bs pc = .ok (.new i, 3)) (hc : cells + 1 ≤ R.cells) (hl : slots + n ≤ R.slots)
    (q : ∀ T' h' a, Ext h h' → a = h.size → n0 ≤ a → Exa Z h' a C → (∀ {O nm d : String} {ty : FieldType}, Laid Z a0 C O nm d → parseFieldDescriptor d = some ty → Fld Z h' a O nm d (defaultValue ty)) → Safe Z EL vm0 h' a → Sit p l e R s m args below meth c bs own Z EL n0 h0 T' h' vm0 locs (cells + 1) (slots + n) → Go p e below F T' (mkF m (pc + 3) Ls (.ref a :: st))) : Go p e below F T (mkF m pc Ls st) := by
  obtain ⟨T', h', Y, e', E, A, D, -, stp⟩ := newO X.1 X.hx X.hZ X.hown w wi wz X.hh (g := mkF m pc Ls st) rfl (hb X.hby hd) hc hl
  exact Go.by stp (q T' h' h.size E rfl X.n A D (Safe.ext E X.C.1 (Safe.new (Nat.le_refl _))) (X.mk1 Y e' X.N (CHr.ext E X.C.1)))
theorem kNEWP (X : Sit p l e R s m args below meth c bs own Z EL n0 h0 T h vm0 locs cells slots) {aty : ArrayType} (w : (Cond.arrayClass (newarray.typeOf aty)).before a0 Z = true) {n : Int32} {cap : Nat} (hd : decode bs pc = .ok (.newarray aty, 2)) (hn : ¬ n < 0) (hcap : n.toNatClampNeg ≤ cap) (hb8 : cap * 8 ≤ 536870912) (hc : cells + 1 ≤ R.cells) (hl : slots + cap ≤ R.slots)
    (q : ∀ T' h' a k, Ext h h' → a = h.size → n0 ≤ a → Arv Z h' a k (newarray.typeOf aty) n [] (defaultValue (newarray.typeOf aty)) → Safe Z EL vm0 h' a → Sit p l e R s m args below meth c bs own Z EL n0 h0 T' h' vm0 locs (cells + 1) (slots + cap) → Go p e below F T' (mkF m (pc + 2) Ls (.ref a :: st))) : Go p e below F T (mkF m pc Ls (.int n :: st)) := by
  obtain ⟨T', h', k, Y, e', E, A, stp⟩ := newP X.1 X.hx X.hZ w X.hh (g := mkF m pc Ls (.int n :: st)) rfl (hb X.hby hd) rfl hn hcap hb8 hc hl
  exact Go.by stp (q T' h' h.size k E rfl X.n (Arv.new A hn) (Safe.ext E X.C.1 (Safe.new (Nat.le_refl _))) (X.mk1 Y e' X.N (CHr.ext E X.C.1)))
theorem kNEWR (X : Sit p l e R s m args below meth c bs own Z EL n0 h0 T h vm0 locs cells slots) {C : String} {i : Nat} (w1 : (Cond.classLink own i C).before a0 Z = true) (w2 : (Cond.arrayOver (.object C)).before a0 Z = true) {n : Int32} {cap : Nat} (hd : decode bs pc = .ok (.anewarray i, 3)) (hn : ¬ n < 0) (hcap : n.toNatClampNeg ≤ cap) (hb8 : cap * 8 ≤ 536870912) (hc : cells + 1 ≤ R.cells) (hl : slots + cap ≤ R.slots)
    (q : ∀ T' h' a k, Ext h h' → a = h.size → n0 ≤ a → Arv Z h' a k (.object C) n [] .null → Ovr Z k C → Safe Z EL vm0 h' a → Sit p l e R s m args below meth c bs own Z EL n0 h0 T' h' vm0 locs (cells + 1) (slots + cap) → Go p e below F T' (mkF m (pc + 3) Ls (.ref a :: st))) : Go p e below F T (mkF m pc Ls (.int n :: st)) := by
  obtain ⟨T', h', k, Y, e', E, A, O, stp⟩ := newR X.1 X.hx X.hZ X.hown w1 w2 X.hh (g := mkF m pc Ls (.int n :: st)) rfl (hb X.hby hd) rfl hn hcap hb8 hc hl
  exact Go.by stp (q T' h' h.size k E rfl X.n (Arv.new A hn) O (Safe.ext E X.C.1 (Safe.new (Nat.le_refl _))) (X.mk1 Y e' X.N (CHr.ext E X.C.1)))
theorem kAASTO (X : Sit p l e R s m args below meth c bs own Z EL n0 h0 T h vm0 locs cells slots) {a : Addr} {v : Value} {k : ClassId} {ty : FieldType} {z j : Int32} {vs : List Value} {dv : Value} (f : Arv Z h a k ty z vs dv) (hty : ty.isReference = true) (I : Sto Z h a v) (hvr : v.isRef = true) (hj : ¬ j < 0 ∧ j < z) (i : Nat) (hi : j.toNatClampNeg = i) (hl : i < vs.length) (ga : n0 ≤ a) (S : Safe Z EL vm0 h a) (hd : decode bs pc = .ok (.aastore, 1))
    (q : ∀ T' h' locs', Wr h h' a j.toNatClampNeg v → Arv Z h' a k ty z (vs.set i v) dv → Sit p l e R s m args below meth c bs own Z EL n0 h0 T' h' vm0 locs' cells slots → Go p e below F T' (mkF m (pc + 1) Ls st)) : Go p e below F T (mkF m pc Ls (v :: .int j :: .ref a :: st)) := by
  obtain ⟨cl, A, q1, S', q3, H, G⟩ := f
  obtain ⟨T', h', Y, e', W, stp⟩ := stR X.1 X.hx X.hZ X.hh A (inb_of S' hj) hty I (g := mkF m pc Ls (v :: .int j :: .ref a :: st)) rfl rfl (hb X.hby hd)
  exact Go.by stp (q T' h' _ W (Arv.set A q1 S' q3 H G (by cases v <;> first | (cases hvr; done) | (cases ty <;> first | rfl | (cases hty; done))) W i hi hl) (X.mk1 Y e' (Fr.snoc Y X.N ga) (CHr.wr W S X.C.1)))
theorem kCASTO (X : Sit p l e R s m args below meth c bs own Z EL n0 h0 T h vm0 locs cells slots) {a : Addr} {x : Int32} {k : ClassId} {z j : Int32} {vs : List Value} {dv : Value} (f : Arv Z h a k .char z vs dv) (hj : ¬ j < 0 ∧ j < z) (i : Nat) (y : Int32) (hy : nar .char x = y) (hi : j.toNatClampNeg = i) (hl : i < vs.length) (ga : n0 ≤ a) (S : Safe Z EL vm0 h a) (hd : decode bs pc = .ok (.castore, 1))
    (q : ∀ T' h' locs', Wr h h' a j.toNatClampNeg (.int y) → Arv Z h' a k .char z (vs.set i (.int y)) dv → Sit p l e R s m args below meth c bs own Z EL n0 h0 T' h' vm0 locs' cells slots → Go p e below F T' (mkF m (pc + 1) Ls st)) : Go p e below F T (mkF m pc Ls (.int x :: .int j :: .ref a :: st)) := by
  subst hy
  obtain ⟨cl, A, q1, S', q3, H, G⟩ := f
  obtain ⟨T', h', Y, e', W, stp⟩ := stC X.1 X.hx X.hZ X.hh A (inb_of S' hj) (g := mkF m pc Ls (.int x :: .int j :: .ref a :: st)) rfl rfl (hb X.hby hd)
  exact Go.by stp (q T' h' _ W (Arv.set A q1 S' q3 H G (fits_nar_char x) W i hi hl) (X.mk1 Y e' (Fr.snoc Y X.N ga) (CHr.wr W S X.C.1)))
theorem kBASTO (X : Sit p l e R s m args below meth c bs own Z EL n0 h0 T h vm0 locs cells slots) {a : Addr} {x : Int32} {k : ClassId} {z j : Int32} {vs : List Value} {dv : Value} (f : Arv Z h a k .byte z vs dv) (hj : ¬ j < 0 ∧ j < z) (i : Nat) (y : Int32) (hy : nar .byte x = y) (hi : j.toNatClampNeg = i) (hl : i < vs.length) (ga : n0 ≤ a) (S : Safe Z EL vm0 h a) (hd : decode bs pc = .ok (.bastore, 1))
    (q : ∀ T' h' locs', Wr h h' a j.toNatClampNeg (.int y) → Arv Z h' a k .byte z (vs.set i (.int y)) dv → Sit p l e R s m args below meth c bs own Z EL n0 h0 T' h' vm0 locs' cells slots → Go p e below F T' (mkF m (pc + 1) Ls st)) : Go p e below F T (mkF m pc Ls (.int x :: .int j :: .ref a :: st)) := by
  subst hy
  obtain ⟨cl, A, q1, S', q3, H, G⟩ := f
  obtain ⟨T', h', Y, e', W, stp⟩ := stB X.1 X.hx X.hZ X.hh A (inb_of S' hj) (g := mkF m pc Ls (.int x :: .int j :: .ref a :: st)) rfl rfl (hb X.hby hd)
  exact Go.by stp (q T' h' _ W (Arv.set A q1 S' q3 H G (fits_nar_byte x) W i hi hl) (X.mk1 Y e' (Fr.snoc Y X.N ga) (CHr.wr W S X.C.1)))
theorem kLEN (X : Sit p l e R s m args below meth c bs own Z EL n0 h0 T h vm0 locs cells slots) {a : Addr} {k : ClassId} {ty : FieldType} {z : Int32} {vs : List Value} {dv : Value} (f : Arv Z h a k ty z vs dv) (hd : decode bs pc = .ok (.arraylength, 1)) (q : Go p e below F T (mkF m (pc + 1) Ls (.int z :: st))) : Go p e below F T (mkF m pc Ls (.ref a :: st)) := by
  obtain ⟨cl, A, q1, S', q3, H, G⟩ := f
  refine Go.by (fun _ r => X.1.arraylength X.hx (by rw [X.hh]; exact A.1) (State.isArrayOf_alike X.hZ.alike A.2.1) (g := mkF m pc Ls (.ref a :: st)) rfl rfl (hb X.hby hd) _ ?_) q
  rw [len_of S' q3]; exact r
theorem kAALD (X : Sit p l e R s m args below meth c bs own Z EL n0 h0 T h vm0 locs cells slots) {a : Addr} {k : ClassId} {ty : FieldType} {z j : Int32} {vs : List Value} {dv : Value} (v : Value) (f : Arv Z h a k ty z vs dv) (hty : ty.isReference = true) (hj : ¬ j < 0 ∧ j < z) (hv : vs.getD j.toNatClampNeg dv = v) (hd : decode bs pc = .ok (.aaload, 1)) (q : Go p e below F T (mkF m (pc + 1) Ls (v :: st))) : Go p e below F T (mkF m pc Ls (.int j :: .ref a :: st)) := by
  obtain ⟨cl, A, q1, S', q3, H, G⟩ := f
  exact Go.by (X.1.aaload X.hx (by rw [X.hh]; exact A.1) (State.isArrayOf_alike X.hZ.alike A.2.1) hty A.2.2 (inb_of S' hj) (H.at (inb_of S' hj) hv) (g := mkF m pc Ls (.int j :: .ref a :: st)) rfl rfl (hb X.hby hd)) q
theorem kCALD (X : Sit p l e R s m args below meth c bs own Z EL n0 h0 T h vm0 locs cells slots) {a : Addr} {k : ClassId} {z j : Int32} {vs : List Value} {dv : Value} (v : Value) (f : Arv Z h a k .char z vs dv) (hj : ¬ j < 0 ∧ j < z) (hv : vs.getD j.toNatClampNeg dv = v) (hd : decode bs pc = .ok (.caload, 1)) (q : Go p e below F T (mkF m (pc + 1) Ls (v :: st))) : Go p e below F T (mkF m pc Ls (.int j :: .ref a :: st)) := by
  obtain ⟨cl, A, q1, S', q3, H, G⟩ := f
  exact Go.by (X.1.caload X.hx (by rw [X.hh]; exact A.1) (State.isArrayOf_alike X.hZ.alike A.2.1) A.2.2 (inb_of S' hj) (H.at (inb_of S' hj) hv) (g := mkF m pc Ls (.int j :: .ref a :: st)) rfl rfl (hb X.hby hd)) q
theorem kBALD (X : Sit p l e R s m args below meth c bs own Z EL n0 h0 T h vm0 locs cells slots) {a : Addr} {k : ClassId} {z j : Int32} {vs : List Value} {dv : Value} (v : Value) (f : Arv Z h a k .byte z vs dv) (hj : ¬ j < 0 ∧ j < z) (hv : vs.getD j.toNatClampNeg dv = v) (hd : decode bs pc = .ok (.baload, 1)) (q : Go p e below F T (mkF m (pc + 1) Ls (v :: st))) : Go p e below F T (mkF m pc Ls (.int j :: .ref a :: st)) := by
  obtain ⟨cl, A, q1, S', q3, H, G⟩ := f
  exact Go.by (X.1.baloadBytes X.hx (by rw [X.hh]; exact A.1) (State.isArrayOf_alike X.hZ.alike A.2.1) A.2.2 (inb_of S' hj) (H.at (inb_of S' hj) hv) (g := mkF m pc Ls (.int j :: .ref a :: st)) rfl rfl (hb X.hby hd)) q
theorem kIALD (X : Sit p l e R s m args below meth c bs own Z EL n0 h0 T h vm0 locs cells slots) {a : Addr} {k : ClassId} {z j : Int32} {vs : List Value} {dv : Value} (v : Value) (f : Arv Z h a k .int z vs dv) (hj : ¬ j < 0 ∧ j < z) (hv : vs.getD j.toNatClampNeg dv = v) (hd : decode bs pc = .ok (.iaload, 1)) (q : Go p e below F T (mkF m (pc + 1) Ls (v :: st))) : Go p e below F T (mkF m pc Ls (.int j :: .ref a :: st)) := by
  obtain ⟨cl, A, q1, S', q3, H, G⟩ := f
  exact Go.by (X.1.iaload X.hx (by rw [X.hh]; exact A.1) (State.isArrayOf_alike X.hZ.alike A.2.1) A.2.2 (inb_of S' hj) (H.at (inb_of S' hj) hv) (g := mkF m pc Ls (.int j :: .ref a :: st)) rfl rfl (hb X.hby hd)) q
theorem kLALD (X : Sit p l e R s m args below meth c bs own Z EL n0 h0 T h vm0 locs cells slots) {a : Addr} {k : ClassId} {z j : Int32} {vs : List Value} {dv : Value} (v : Value) (f : Arv Z h a k .long z vs dv) (hj : ¬ j < 0 ∧ j < z) (hv : vs.getD j.toNatClampNeg dv = v) (hd : decode bs pc = .ok (.laload, 1)) (q : Go p e below F T (mkF m (pc + 1) Ls (v :: st))) : Go p e below F T (mkF m pc Ls (.int j :: .ref a :: st)) := by
  obtain ⟨cl, A, q1, S', q3, H, G⟩ := f
  exact Go.by (X.1.laload X.hx (by rw [X.hh]; exact A.1) (State.isArrayOf_alike X.hZ.alike A.2.1) A.2.2 (inb_of S' hj) (H.at (inb_of S' hj) hv) (g := mkF m pc Ls (.int j :: .ref a :: st)) rfl rfl (hb X.hby hd)) q
theorem kINIT (X : Sit p l e R s m args below meth c bs own Z EL n0 h0 T h vm0 locs cells slots) {i : Nat} {a : Addr} (w1 : (Cond.methodLink own i ⟨"java/lang/Object", "<init>", "()V"⟩).before a0 Z = true) (w2 : (Cond.instanceMethod ⟨"java/lang/Object", "<init>", "()V"⟩).before a0 Z = true) (w3 : (Cond.code ⟨"java/lang/Object", "<init>", "()V"⟩ object_method_1_code 1 none).before a0 Z = true)
    (hsz : Ls.size = c.maxLocals) (hd : decode bs pc = .ok (.invokespecial i, 3)) (hf : 1 ≤ R.frames) (W : Nat) (hW : (st.map fun v => v.category).sum ≤ W) (hl : W + 12 ≤ R.locals) (q : ∀ T', Sit p l e R s m args below meth c bs own Z EL n0 h0 T' h vm0 locs cells slots → Go p e below F T' (mkF m (pc + 3) Ls st)) : Go p e below F T (mkF m pc Ls (.ref a :: st)) := by
  obtain ⟨T', Y, e', stp⟩ := initO X.1 X.hx X.hZ X.hown w1 w2 w3 X.hh (g := mkF m pc Ls (.ref a :: st)) rfl hsz rfl (hb X.hby hd) hf (W := W) (by show 2 * 0 + _ ≤ _; simpa using hW) (by omega)
  exact Go.by stp (q T' (X.mk0 Y e' X.N))
theorem kCAST (X : Sit p l e R s m args below meth c bs own Z EL n0 h0 T h vm0 locs cells slots) {K : String} {i : Nat} {a : Addr} (w : (Cond.classLink own i K).before a0 Z = true) (f : Ins Z h a K true) (hd : decode bs pc = .ok (.checkcast i, 3)) (q : ∀ T', Sit p l e R s m args below meth c bs own Z EL n0 h0 T' h vm0 locs cells slots → Go p e below F T' (mkF m (pc + 3) Ls (.ref a :: st))) : Go p e below F T (mkF m pc Ls (.ref a :: st)) := by
  obtain ⟨T', Y, e', stp⟩ := castY X.1 X.hx X.hZ X.hown w X.hh f (g := mkF m pc Ls (.ref a :: st)) rfl rfl (hb X.hby hd)
  exact Go.by stp (q T' (X.mk0 Y e' X.N))
theorem kINSY (X : Sit p l e R s m args below meth c bs own Z EL n0 h0 T h vm0 locs cells slots) {K : String} {i : Nat} {a : Addr} (w : (Cond.classLink own i K).before a0 Z = true) (f : Ins Z h a K true) (hd : decode bs pc = .ok (.instanceof i, 3)) (q : ∀ T', Sit p l e R s m args below meth c bs own Z EL n0 h0 T' h vm0 locs cells slots → Go p e below F T' (mkF m (pc + 3) Ls (.int 1 :: st))) : Go p e below F T (mkF m pc Ls (.ref a :: st)) := by
  obtain ⟨T', Y, e', stp⟩ := instY X.1 X.hx X.hZ X.hown w X.hh f (g := mkF m pc Ls (.ref a :: st)) rfl rfl (hb X.hby hd)
  exact Go.by stp (q T' (X.mk0 Y e' X.N))
theorem kLDCS (X : Sit p l e R s m args below meth c bs own Z EL n0 h0 T h vm0 locs cells slots) {text : String} {i : Nat} (hEL : EW Z a0 EL) (w : (Cond.stringLink own i text).before a0 Z = true) (wS : ∀ a ∈ Bundle.stringAtoms, a.before a0 Z = true) (hd : decode bs pc = .ok (.ldc i, 2)) {n : Nat} (hn : 4 * text.toList.length ≤ n) (hbig : n ≤ 536870912) (hc : cells + 2 ≤ R.cells) (hl : slots + (n + 4) ≤ R.slots)
    (q : ∀ T' h' vm1 a, Ext h h' → CHr Z EL vm0 h vm1 h' → Sit p l e R s m args below meth c bs own Z EL n0 h0 T' h' vm1 locs (cells + 2) (slots + (n + 4)) → Go p e below F T' (mkF m (pc + 2) Ls (.ref a :: st))) : Go p e below F T (mkF m pc Ls st) := by
  obtain ⟨k0, hS, hk⟩ := X.2.2.1
  obtain ⟨a, T', h', k1, Y, e', E, hS', hk', hZ', ho', hC, -, stp⟩ := ldcOH X.1 X.hx X.hZ X.hown w wS X.hh hS hk hEL X.C.1 (g := mkF m pc Ls st) rfl (hb X.hby hd) hn hbig hc hl
  exact Go.by stp (q T' h' _ a E hC (X.mk2 Y e' hS' hk' hZ' ho' X.N hC))
theorem kLDCT (X : Sit p l e R s m args below meth c bs own Z EL n0 h0 T h vm0 locs cells slots) {text : String} {i : Nat} (hEL : EW Z a0 EL) (w : (Cond.stringLink own i text).before a0 Z = true) (wS : ∀ a ∈ Bundle.stringAtoms, a.before a0 Z = true) (hmem : (own, i) ∈ EL) {vs : List Value} {z : Int32} (ht : (∀ c ∈ text.toList, c.toNat < 256) ∧ text.toList.map (fun c => Value.int (Jvm.Lit.byteI c.toNat.toUInt16)) = vs) (hz : ¬ z < 0) (hlz : z.toNatClampNeg = vs.length)
    (hd : decode bs pc = .ok (.ldc i, 2)) {n : Nat} (hn : 4 * text.toList.length ≤ n) (hbig : n ≤ 536870912) (hc : cells + 2 ≤ R.cells) (hl : slots + (n + 4) ≤ R.slots)
    (q : ∀ T' h' vm1 a b k, Ext h h' → CHr Z EL vm0 h vm1 h' → Exa Z h' a "java/lang/String" → Fld Z h' a "java/lang/String" "coder" "B" (.int 0) → Fld Z h' a "java/lang/String" "value" "[B" (.ref b) → Arv Z h' b k .byte z vs (.int 0) → (∀ x, Safe Z EL vm1 h' x → x ≠ a ∧ x ≠ b) → Sit p l e R s m args below meth c bs own Z EL n0 h0 T' h' vm1 locs (cells + 2) (slots + (n + 4)) → Go p e below F T' (mkF m (pc + 2) Ls (.ref a :: st))) : Go p e below F T (mkF m pc Ls st) := by
  obtain ⟨k0, hS, hk⟩ := X.2.2.1
  obtain ⟨a, T', h', k1, b, k, Y, e', E, hS', hk', hZ', ho', x1, x2, x3, x4, -, -, hC, -, hne, stp⟩ := ldcCH X.1 X.hx X.hZ X.hown w wS X.hh hS hk hEL hmem X.C.1 ht hz hlz (g := mkF m pc Ls st) rfl (hb X.hby hd) hn hbig hc hl
  exact Go.by stp (q T' h' _ a b k E hC x1 x2 x3 x4 hne (X.mk2 Y e' hS' hk' hZ' ho' X.N hC))
theorem kINSN (X : Sit p l e R s m args below meth c bs own Z EL n0 h0 T h vm0 locs cells slots) {K C : String} {i : Nat} {a : Addr} (w : (Cond.classLink own i K).before a0 Z = true) (E : Exa Z h a C) (f : ∃ c t, Z.vm.findClass C = some c ∧ Z.vm.findClass K = some t ∧ Z.vm.assignable c t = false) (hd : decode bs pc = .ok (.instanceof i, 3)) (q : ∀ T', Sit p l e R s m args below meth c bs own Z EL n0 h0 T' h vm0 locs cells slots → Go p e below F T' (mkF m (pc + 3) Ls (.int 0 :: st))) : Go p e below F T (mkF m pc Ls (.ref a :: st)) := by
  obtain ⟨T', Y, e', stp⟩ := instNo X.1 X.hx X.hZ X.hown w X.hh E f (g := mkF m pc Ls (.ref a :: st)) rfl rfl (hb X.hby hd)
  exact Go.by stp (q T' (X.mk0 Y e' X.N))
theorem kINSN0 (X : Sit p l e R s m args below meth c bs own Z EL n0 h0 T h vm0 locs cells slots) {i : Nat} (hd : decode bs pc = .ok (.instanceof i, 3)) (q : Go p e below F T (mkF m (pc + 3) Ls (.int 0 :: st))) : Go p e below F T (mkF m pc Ls (.null :: st)) :=
  Go.by (X.1.instanceofNull X.hx (g := mkF m pc Ls (.null :: st)) rfl rfl (hb X.hby hd)) q
theorem own_fitC {Z : State} {h : Heap} {a : Addr} {cl : Cell} {ty : FieldType} {vs : List Value} {dv : Value} (A : Arr Z h a cl ty) (H : Has cl vs dv) (G : ∀ i, i < cl.slots.size → fits ty (vs.getD i dv) = true) : FitC Z cl := fun i v hv => by
  obtain ⟨hi, -⟩ := Array.getElem?_eq_some_iff.mp hv
  have e := H i hi
  rw [hv] at e
  cases e
  obtain ⟨hs, k, hk, comp, hkind⟩ := A.2.1
  have g := G i hi
  simp [State.fitsSlot, State.slotType?, hk, hkind]
  simpa using g
theorem kCLONE (X : Sit p l e R s m args below meth c bs own Z EL n0 h0 T h vm0 locs cells slots) {ad : String} {i : Nat} {a : Addr} {k : ClassId} {ty : FieldType} {z : Int32} {vs : List Value} {dv : Value} (w1 : (Cond.methodLink own i ⟨ad, "clone", "()Ljava/lang/Object;"⟩).before a0 Z = true) (w2 : (Cond.sameMethod ad "java/lang/Object" "clone" "()Ljava/lang/Object;").before a0 Z = true) (w3 : (Cond.native ⟨"java/lang/Object", "clone", "()Ljava/lang/Object;"⟩).before a0 Z = true)
    (w4 : (Cond.instanceMethod ⟨"java/lang/Object", "clone", "()Ljava/lang/Object;"⟩).before a0 Z = true) (w5 : (Cond.selects ad ⟨ad, "clone", "()Ljava/lang/Object;"⟩ ⟨"java/lang/Object", "clone", "()Ljava/lang/Object;"⟩).before a0 Z = true) (w6 : (Cond.castable ad "java/lang/Cloneable").before a0 Z = true)
    (f : Arv Z h a k ty z vs dv) (E : Exa Z h a ad) (hsz : Ls.size = c.maxLocals) (hd : decode bs pc = .ok (.invokevirtual i, 3)) (hf : 1 ≤ R.frames) (W cap : Nat) (hW : (st.map fun v => v.category).sum ≤ W) (hl : W + 14 ≤ R.locals) (hcap : z.toNatClampNeg ≤ cap) (hc : cells + 1 ≤ R.cells) (hsl : slots + cap ≤ R.slots)
    (q : ∀ T' h' b, Ext h h' → b = h.size → n0 ≤ b → Arv Z h' b k ty z vs dv → Exa Z h' b ad → Safe Z EL vm0 h' b → Sit p l e R s m args below meth c bs own Z EL n0 h0 T' h' vm0 locs (cells + 1) (slots + cap) → Go p e below F T' (mkF m (pc + 3) Ls (.ref b :: st))) : Go p e below F T (mkF m pc Ls (.ref a :: st)) := by
  obtain ⟨cl, A, q1, S', q3, H, G⟩ := f
  obtain ⟨T', h', Y, e', Ex, A', E', stp⟩ := cloneA X.1 X.hx X.hZ X.hown w1 w2 w3 w4 w5 w6 X.hh A E (own_fitC A H G) (g := mkF m pc Ls (.ref a :: st)) rfl hsz rfl (hb X.hby hd) hf (W := W) (cap := cap) (by show 2 * 0 + _ ≤ _; simpa using hW) hl (by rw [S']; exact hcap) hc hsl
  exact Go.by stp (q T' h' h.size Ex rfl X.n ⟨_, A', q1, S', q3, H, G⟩ E' (Safe.ext Ex X.C.1 (Safe.new (Nat.le_refl _))) (X.mk1 Y e' X.N (CHr.ext Ex X.C.1)))
theorem kSTAT (X : Sit p l e R s m args below meth c bs own Z EL n0 h0 T h vm0 locs cells slots) (hEL : EW Z a0 EL) {i : Nat} {y : MethodName} {rm : Room} {SL : List Addr} {Q : Vm → Option Value → Heap → Vm → Prop} {bytes : ByteArray} {maxL : Nat} {ret : Option FieldType} {argsL rest stk : List Value} (w1 : (Cond.methodLink own i y).before a0 Z = true) (w2 : (Cond.static y).before a0 Z = true) (wz : (Cond.initialized y.cls).before a0 Z = true) (wc : (Cond.code y bytes maxL ret).before a0 Z = true) (hy : y.cls ≠ "java/lang/invoke/MethodHandle" ∧ y.cls ≠ "java/lang/invoke/VarHandle") (M : MetH l Z EL n0 y bytes maxL ret [] rm argsL.toArray h SL Q) (hSL : ∀ x ∈ SL, x < h.size ∧ Safe Z EL vm0 h x) (hlen : ∀ sig, parseMethodDescriptor y.desc = some sig → argsL.length = sig.parameters.length) (hst : stk = argsL.reverse ++ rest) (W : Nat) (hW : (rest.map fun v => v.category).sum = W) (hr : (rm.frames + 1 ≤ R.frames ∧ W + (maxL + 11) + rm.locals ≤ R.locals) ∧ cells + rm.cells ≤ R.cells ∧ slots + rm.slots ≤ R.slots) (hsz : Ls.size = c.maxLocals) (hd : decode bs pc = .ok (.invokestatic i, 3))
    (q : ∀ v T' h' vm1 locs' vs, Q vs v h' vm1 → CHr Z EL vm0 h vs h → CHr Z EL vm0 h vm1 h' → Sit p l e R s m args below meth c bs own Z EL n0 h0 T' h' vm1 locs' (cells + rm.cells) (slots + rm.slots) → Go p e below F T' (mkF m (pc + 3) Ls (v.toList ++ rest))) : Go p e below F T (mkF m pc Ls stk) := by
  obtain ⟨v, vm₁, ⟨U, L, k, n⟩, -, Y, hS1, hgr, ⟨Lc, vs, hQ, hCs, l1, y1, z1, hC⟩, stp⟩ := callSS X.1 X.hx (y := y) X.hown (mvT (s := s.setVm vm0) X.hZ w1) (mvT (s := s.setVm vm0) X.hZ w2) (mvT (s := s.setVm vm0) X.hZ wz) (mvT (s := s.setVm vm0) X.hZ wc) hy (backX (W := W) M X.hZ wc wz hr.1.1 hr.1.2 hEL X.C.1 hSL) (g := mkF m pc Ls stk) rfl hsz (argsL := argsL) (rest := rest) hlen hst (by show 2 * 0 + _ ≤ _; simpa using Nat.le_of_eq hW) (hb X.hby hd) (fun _ _ => ⟨rfl, X.hh, hr.2.1, hr.2.2⟩)
  dsimp only [Pt.U, Pt.locs, Pt.cells, Pt.slots] at Y hS1 hgr l1 y1 z1 stp hQ hC hCs
  subst l1 y1 z1
  obtain ⟨k0, hS, hk⟩ := X.2.2.1
  have hS2 := hS.trans hS1 (Nat.le_trans hk (by rw [← X.hh]; exact hgr))
  exact Go.call stp (q v U U.heap _ _ vs hQ.2 hCs hC (X.mk2 Y rfl hS2 (Nat.le_refl _) (State.Warmed39.trans (t := s.setVm vm0) X.hZ hS1.1) ((hS1.1.alike.findClass _ _).trans X.hown) (Fr.app X.N hQ.1) hC))
theorem kSPEC (X : Sit p l e R s m args below meth c bs own Z EL n0 h0 T h vm0 locs cells slots) (hEL : EW Z a0 EL) {i : Nat} {y : MethodName} {a : Addr} {rm : Room} {SL : List Addr} {Q : Vm → Option Value → Heap → Vm → Prop} {bytes : ByteArray} {maxL : Nat} {argsL rest stk : List Value} (w1 : (Cond.methodLink own i y).before a0 Z = true) (w2 : (Cond.instanceMethod y).before a0 Z = true) (wz : (Cond.initialized y.cls).before a0 Z = true) (wc : (Cond.code y bytes maxL none).before a0 Z = true) (hy1 : y.name = "<init>") (hy : y.cls ≠ "java/lang/invoke/MethodHandle" ∧ y.cls ≠ "java/lang/invoke/VarHandle") (M : MetH l Z EL n0 y bytes maxL none [] rm (.ref a :: argsL).toArray h SL Q) (hSL : ∀ x ∈ SL, x < h.size ∧ Safe Z EL vm0 h x) (hlen : ∀ sig, parseMethodDescriptor y.desc = some sig → argsL.length = sig.parameters.length) (hst : stk = argsL.reverse ++ .ref a :: rest) (W : Nat) (hW : (rest.map fun v => v.category).sum = W) (hr : (rm.frames + 1 ≤ R.frames ∧ W + (maxL + 11) + rm.locals ≤ R.locals) ∧ cells + rm.cells ≤ R.cells ∧ slots + rm.slots ≤ R.slots) (hsz : Ls.size = c.maxLocals) (hd : decode bs pc = .ok (.invokespecial i, 3))
    (q : ∀ v T' h' vm1 locs' vs, Q vs v h' vm1 → CHr Z EL vm0 h vs h → CHr Z EL vm0 h vm1 h' → Sit p l e R s m args below meth c bs own Z EL n0 h0 T' h' vm1 locs' (cells + rm.cells) (slots + rm.slots) → Go p e below F T' (mkF m (pc + 3) Ls (v.toList ++ rest))) : Go p e below F T (mkF m pc Ls stk) := by
  obtain ⟨v, vm₁, ⟨U, L, k, n⟩, -, Y, hS1, hgr, ⟨Lc, vs, hQ, hCs, l1, y1, z1, hC⟩, stp⟩ := X.1.specialBackS X.hx (y := y) hy1 X.hown (mvT (s := s.setVm vm0) X.hZ w1) (mvT (s := s.setVm vm0) X.hZ w2) (mvT (s := s.setVm vm0) X.hZ wc) hy (backX (W := W) M X.hZ wc wz hr.1.1 hr.1.2 hEL X.C.1 hSL) (g := mkF m pc Ls stk) rfl hsz (Steps.refl _) (a := a) (argsL := argsL) (rest := rest) hlen hst (by show 2 * 0 + _ ≤ _; simpa using Nat.le_of_eq hW) (hb X.hby hd) (fun _ _ => ⟨rfl, X.hh, hr.2.1, hr.2.2⟩)
  dsimp only [Pt.U, Pt.locs, Pt.cells, Pt.slots] at Y hS1 hgr l1 y1 z1 stp hQ hC hCs
  subst l1 y1 z1
  obtain ⟨k0, hS, hk⟩ := X.2.2.1
  have hS2 := hS.trans hS1 (Nat.le_trans hk (by rw [← X.hh]; exact hgr))
  exact Go.call stp (q v U U.heap _ _ vs hQ.2 hCs hC (X.mk2 Y rfl hS2 (Nat.le_refl _) (State.Warmed39.trans (t := s.setVm vm0) X.hZ hS1.1) ((hS1.1.alike.findClass _ _).trans X.hown) (Fr.app X.N hQ.1) hC))
theorem kVIRT (X : Sit p l e R s m args below meth c bs own Z EL n0 h0 T h vm0 locs cells slots) (hEL : EW Z a0 EL) {i : Nat} {y z : MethodName} {a : Addr} {C : String} {rm : Room} {SL : List Addr} {Q : Vm → Option Value → Heap → Vm → Prop} {bytes : ByteArray} {maxL : Nat} {ret : Option FieldType} {argsL rest stk : List Value} (w1 : (Cond.methodLink own i y).before a0 Z = true) (w2 : (Cond.declares y).before a0 Z = true) (nf : NotFace (s.setVm vm0) y) (w3 : (Cond.selects C y z).before a0 Z = true) (w4 : (Cond.instanceMethod z).before a0 Z = true) (wz : (Cond.initialized z.cls).before a0 Z = true) (wc : (Cond.code z bytes maxL ret).before a0 Z = true) (hy : y.cls ≠ "java/lang/invoke/MethodHandle" ∧ y.cls ≠ "java/lang/invoke/VarHandle") (E : Exa Z h a C) (M : MetH l Z EL n0 z bytes maxL ret [] rm (.ref a :: argsL).toArray h SL Q) (hSL : ∀ x ∈ SL, x < h.size ∧ Safe Z EL vm0 h x) (hlen : ∀ sig, parseMethodDescriptor y.desc = some sig → argsL.length = sig.parameters.length) (hst : stk = argsL.reverse ++ .ref a :: rest) (W : Nat) (hW : (rest.map fun v => v.category).sum = W) (hr : (rm.frames + 1 ≤ R.frames ∧ W + (maxL + 11) + rm.locals ≤ R.locals) ∧ cells + rm.cells ≤ R.cells ∧ slots + rm.slots ≤ R.slots) (hsz : Ls.size = c.maxLocals) (hd : decode bs pc = .ok (.invokevirtual i, 3))
    (q : ∀ v T' h' vm1 locs' vs, Q vs v h' vm1 → CHr Z EL vm0 h vs h → CHr Z EL vm0 h vm1 h' → Sit p l e R s m args below meth c bs own Z EL n0 h0 T' h' vm1 locs' (cells + rm.cells) (slots + rm.slots) → Go p e below F T' (mkF m (pc + 3) Ls (v.toList ++ rest))) : Go p e below F T (mkF m pc Ls stk) := by
  obtain ⟨cB, kB, qa, qb, qc⟩ := isOf (s := s.setVm vm0) X.hZ X.hh E
  obtain ⟨v, vm₁, ⟨U, L, k, n⟩, -, Y, hS1, hgr, ⟨Lc, vs, hQ, hCs, l1, y1, z1, hC⟩, stp⟩ := X.1.virtualBackS X.hx (y := y) (z := z) X.hown (mvT (s := s.setVm vm0) X.hZ w1) (mvT (s := s.setVm vm0) X.hZ w2) nf (mvT (s := s.setVm vm0) X.hZ w3) (mvT (s := s.setVm vm0) X.hZ w4) hy (backX (W := W) M X.hZ wc wz hr.1.1 hr.1.2 hEL X.C.1 hSL) qa qc (g := mkF m pc Ls stk) rfl hsz (Steps.refl _) (argsL := argsL) (rest := rest) hlen hst (by show 2 * 0 + _ ≤ _; simpa using Nat.le_of_eq hW) (hb X.hby hd) (fun _ _ => ⟨rfl, X.hh, hr.2.1, hr.2.2⟩)
  dsimp only [Pt.U, Pt.locs, Pt.cells, Pt.slots] at Y hS1 hgr l1 y1 z1 stp hQ hC hCs
  subst l1 y1 z1
  obtain ⟨k0, hS, hk⟩ := X.2.2.1
  have hS2 := hS.trans hS1 (Nat.le_trans hk (by rw [← X.hh]; exact hgr))
  exact Go.call stp (q v U U.heap _ _ vs hQ.2 hCs hC (X.mk2 Y rfl hS2 (Nat.le_refl _) (State.Warmed39.trans (t := s.setVm vm0) X.hZ hS1.1) ((hS1.1.alike.findClass _ _).trans X.hown) (Fr.app X.N hQ.1) hC))
theorem kPRIV (X : Sit p l e R s m args below meth c bs own Z EL n0 h0 T h vm0 locs cells slots) (hEL : EW Z a0 EL) {i : Nat} {y : MethodName} {a : Addr} {C : String} {rm : Room} {SL : List Addr} {Q : Vm → Option Value → Heap → Vm → Prop} {bytes : ByteArray} {maxL : Nat} {ret : Option FieldType} {argsL rest stk : List Value} (w1 : (Cond.methodLink own i y).before a0 Z = true) (w2 : (Cond.instanceMethod y).before a0 Z = true) (w3 : (Cond.selects y.cls y y).before a0 Z = true) (w4 : (Cond.privateMethod y).before a0 Z = true) (wz : (Cond.initialized y.cls).before a0 Z = true) (wc : (Cond.code y bytes maxL ret).before a0 Z = true) (hy : y.cls ≠ "java/lang/invoke/MethodHandle" ∧ y.cls ≠ "java/lang/invoke/VarHandle") (E : Exa Z h a C) (M : MetH l Z EL n0 y bytes maxL ret [] rm (.ref a :: argsL).toArray h SL Q) (hSL : ∀ x ∈ SL, x < h.size ∧ Safe Z EL vm0 h x) (hlen : ∀ sig, parseMethodDescriptor y.desc = some sig → argsL.length = sig.parameters.length) (hst : stk = argsL.reverse ++ .ref a :: rest) (W : Nat) (hW : (rest.map fun v => v.category).sum = W) (hr : (rm.frames + 1 ≤ R.frames ∧ W + (maxL + 11) + rm.locals ≤ R.locals) ∧ cells + rm.cells ≤ R.cells ∧ slots + rm.slots ≤ R.slots) (hsz : Ls.size = c.maxLocals) (hd : decode bs pc = .ok (.invokevirtual i, 3))
    (q : ∀ v T' h' vm1 locs' vs, Q vs v h' vm1 → CHr Z EL vm0 h vs h → CHr Z EL vm0 h vm1 h' → Sit p l e R s m args below meth c bs own Z EL n0 h0 T' h' vm1 locs' (cells + rm.cells) (slots + rm.slots) → Go p e below F T' (mkF m (pc + 3) Ls (v.toList ++ rest))) : Go p e below F T (mkF m pc Ls stk) := by
  obtain ⟨cE, hE1, hE2⟩ := Exa.cell E
  obtain ⟨v, vm₁, ⟨U, L, k, n⟩, -, Y, hS1, hgr, ⟨Lc, vs, hQ, hCs, l1, y1, z1, hC⟩, stp⟩ := X.1.privateBackS X.hx (y := y) X.hown (mvT (s := s.setVm vm0) X.hZ w1) (mvT (s := s.setVm vm0) X.hZ w2) (mvT (s := s.setVm vm0) X.hZ w3) (Cond.privateMethod_at (args := args) (mvP (s := s.setVm vm0) X.hZ w4)) (mvT (s := s.setVm vm0) X.hZ wc) hy (backX (W := W) M X.hZ wc wz hr.1.1 hr.1.2 hEL X.C.1 hSL) (g := mkF m pc Ls stk) rfl hsz (Steps.refl _) (a := a) (by rw [X.hh]; exact hE1) hE2 (argsL := argsL) (rest := rest) hlen hst (by show 2 * 0 + _ ≤ _; simpa using Nat.le_of_eq hW) (hb X.hby hd) (fun _ _ => ⟨rfl, X.hh, hr.2.1, hr.2.2⟩)
  dsimp only [Pt.U, Pt.locs, Pt.cells, Pt.slots] at Y hS1 hgr l1 y1 z1 stp hQ hC hCs
  subst l1 y1 z1
  obtain ⟨k0, hS, hk⟩ := X.2.2.1
  have hS2 := hS.trans hS1 (Nat.le_trans hk (by rw [← X.hh]; exact hgr))
  exact Go.call stp (q v U U.heap _ _ vs hQ.2 hCs hC (X.mk2 Y rfl hS2 (Nat.le_refl _) (State.Warmed39.trans (t := s.setVm vm0) X.hZ hS1.1) ((hS1.1.alike.findClass _ _).trans X.hown) (Fr.app X.N hQ.1) hC))
theorem kFACE (X : Sit p l e R s m args below meth c bs own Z EL n0 h0 T h vm0 locs cells slots) (hEL : EW Z a0 EL) {i cnt : Nat} {y z : MethodName} {a : Addr} {C : String} {rm : Room} {SL : List Addr} {Q : Vm → Option Value → Heap → Vm → Prop} {bytes : ByteArray} {maxL : Nat} {ret : Option FieldType} {argsL rest stk : List Value} (w1 : (Cond.methodLink own i y).before a0 Z = true) (w2 : (Cond.declares y).before a0 Z = true) (w3 : (Cond.interfaceMethod y.cls y.cls y.name y.desc).before a0 Z = true) (k3 : ((Cond.interfaceMethod y.cls y.cls y.name y.desc).onTables && (Cond.interfaceMethod y.cls y.cls y.name y.desc).keepsFace) = true) (w4 : (Cond.selects C y z).before a0 Z = true) (w5 : (Cond.instanceMethod z).before a0 Z = true) (w6 : (Cond.publicMethod z).before a0 Z = true) (w7 : (Cond.unhidden C y.name y.desc).before a0 Z = true) (w8 : (Cond.castable C y.cls).before a0 Z = true) (wz : (Cond.initialized z.cls).before a0 Z = true) (wc : (Cond.code z bytes maxL ret).before a0 Z = true) (hy : y.cls ≠ "java/lang/invoke/MethodHandle" ∧ y.cls ≠ "java/lang/invoke/VarHandle") (E : Exa Z h a C) (M : MetH l Z EL n0 z bytes maxL ret [] rm (.ref a :: argsL).toArray h SL Q) (hSL : ∀ x ∈ SL, x < h.size ∧ Safe Z EL vm0 h x) (hlen : ∀ sig, parseMethodDescriptor y.desc = some sig → argsL.length = sig.parameters.length) (hst : stk = argsL.reverse ++ .ref a :: rest) (W : Nat) (hW : (rest.map fun v => v.category).sum = W) (hr : (rm.frames + 1 ≤ R.frames ∧ W + (maxL + 11) + rm.locals ≤ R.locals) ∧ cells + rm.cells ≤ R.cells ∧ slots + rm.slots ≤ R.slots) (hsz : Ls.size = c.maxLocals) (hd : decode bs pc = .ok (.invokeinterface i cnt, 5))
    (q : ∀ v T' h' vm1 locs' vs, Q vs v h' vm1 → CHr Z EL vm0 h vs h → CHr Z EL vm0 h vm1 h' → Sit p l e R s m args below meth c bs own Z EL n0 h0 T' h' vm1 locs' (cells + rm.cells) (slots + rm.slots) → Go p e below F T' (mkF m (pc + 5) Ls (v.toList ++ rest))) : Go p e below F T (mkF m pc Ls stk) := by
  obtain ⟨cB, kB, qa, qb, qc⟩ := isOf (s := s.setVm vm0) X.hZ X.hh E
  obtain ⟨v, vm₁, ⟨U, L, k, n⟩, -, Y, hS1, hgr, ⟨Lc, vs, hQ, hCs, l1, y1, z1, hC⟩, stp⟩ := X.1.interfaceBackS X.hx (xi := y) (y := z) X.hown (mvT (s := s.setVm vm0) X.hZ w1) (mvT (s := s.setVm vm0) X.hZ w2) (mvT (s := s.setVm vm0) X.hZ w3 k3) (mvT (s := s.setVm vm0) X.hZ w4) (mvT (s := s.setVm vm0) X.hZ w5) (mvT (s := s.setVm vm0) X.hZ w6) (mvT (s := s.setVm vm0) X.hZ w7) (mvT (s := s.setVm vm0) X.hZ w8) hy (backX (W := W) M X.hZ wc wz hr.1.1 hr.1.2 hEL X.C.1 hSL) qa qb qc (g := mkF m pc Ls stk) rfl hsz (Steps.refl _) (argsL := argsL) (rest := rest) hlen hst (by show 2 * 0 + _ ≤ _; simpa using Nat.le_of_eq hW) (hb X.hby hd) (fun _ _ => ⟨rfl, X.hh, hr.2.1, hr.2.2⟩)
  dsimp only [Pt.U, Pt.locs, Pt.cells, Pt.slots] at Y hS1 hgr l1 y1 z1 stp hQ hC hCs
  subst l1 y1 z1
  obtain ⟨k0, hS, hk⟩ := X.2.2.1
  have hS2 := hS.trans hS1 (Nat.le_trans hk (by rw [← X.hh]; exact hgr))
  exact Go.call stp (q v U U.heap _ _ vs hQ.2 hCs hC (X.mk2 Y rfl hS2 (Nat.le_refl _) (State.Warmed39.trans (t := s.setVm vm0) X.hZ hS1.1) ((hS1.1.alike.findClass _ _).trans X.hown) (Fr.app X.N hQ.1) hC))
theorem kSUP (X : Sit p l e R s m args below meth c bs own Z EL n0 h0 T h vm0 locs cells slots) (hEL : EW Z a0 EL) {i : Nat} {y : MethodName} {a : Addr} {K : String} {rm : Room} {SL : List Addr} {Q : Vm → Option Value → Heap → Vm → Prop} {bytes : ByteArray} {maxL : Nat} {ret : Option FieldType} {argsL rest stk : List Value} (w1 : (Cond.methodLink own i y).before a0 Z = true) (w2 : (Cond.sameMethod y.cls y.cls y.name y.desc).before a0 Z = true) (w3 : (Cond.instanceMethod y).before a0 Z = true) (w4 : (Cond.superclass own y.cls).before a0 Z = true) (hn : y.name ≠ "<init>") (wz : (Cond.initialized y.cls).before a0 Z = true) (wc : (Cond.code y bytes maxL ret).before a0 Z = true) (E : Ins Z h a K true) (M : MetH l Z EL n0 y bytes maxL ret [] rm (.ref a :: argsL).toArray h SL Q) (hSL : ∀ x ∈ SL, x < h.size ∧ Safe Z EL vm0 h x) (hlen : ∀ sig, parseMethodDescriptor y.desc = some sig → argsL.length = sig.parameters.length) (hst : stk = argsL.reverse ++ .ref a :: rest) (W : Nat) (hW : (rest.map fun v => v.category).sum = W) (hr : (rm.frames + 1 ≤ R.frames ∧ W + (maxL + 11) + rm.locals ≤ R.locals) ∧ cells + rm.cells ≤ R.cells ∧ slots + rm.slots ≤ R.slots) (hsz : Ls.size = c.maxLocals) (hd : decode bs pc = .ok (.invokespecial i, 3))
    (q : ∀ v T' h' vm1 locs' vs, Q vs v h' vm1 → CHr Z EL vm0 h vs h → CHr Z EL vm0 h vm1 h' → Sit p l e R s m args below meth c bs own Z EL n0 h0 T' h' vm1 locs' (cells + rm.cells) (slots + rm.slots) → Go p e below F T' (mkF m (pc + 3) Ls (v.toList ++ rest))) : Go p e below F T (mkF m pc Ls stk) := by
  obtain ⟨v, vm₁, ⟨U, L, k, n⟩, -, Y, hS1, hgr, ⟨Lc, vs, hQ, hCs, l1, y1, z1, hC⟩, stp⟩ := superBackS X.1 X.hx (s := s.setVm vm0) X.hZ X.hown w1 w2 w3 w4 hn (backX (W := W) M X.hZ wc wz hr.1.1 hr.1.2 hEL X.C.1 hSL) X.hh E (g := mkF m pc Ls stk) rfl hsz wc (argsL := argsL) (rest := rest) hlen hst (by show 2 * 0 + _ ≤ _; simpa using Nat.le_of_eq hW) (hb X.hby hd) (fun _ _ => ⟨rfl, X.hh, hr.2.1, hr.2.2⟩)
  dsimp only [Pt.U, Pt.locs, Pt.cells, Pt.slots] at Y hS1 hgr l1 y1 z1 stp hQ hC hCs
  subst l1 y1 z1
  obtain ⟨k0, hS, hk⟩ := X.2.2.1
  have hS2 := hS.trans hS1 (Nat.le_trans hk (by rw [← X.hh]; exact hgr))
  exact Go.call stp (q v U U.heap _ _ vs hQ.2 hCs hC (X.mk2 Y rfl hS2 (Nat.le_refl _) (State.Warmed39.trans (t := s.setVm vm0) X.hZ hS1.1) ((hS1.1.alike.findClass _ _).trans X.hown) (Fr.app X.N hQ.1) hC))
theorem kCPA (X : Sit p l e R s m args below meth c bs own Z EL n0 h0 T h vm0 locs cells slots) {i : Nat} {a b : Addr} {k k' : ClassId} {ty ty' : FieldType} {z z' sp dp nn : Int32} {vs vd us : List Value} {dv dd : Value} (w1 : (Cond.methodLink own i Jvm.Stand.acN).before a0 Z = true) (w2 : (Cond.native Jvm.Stand.acN).before a0 Z = true) (w3 : (Cond.static Jvm.Stand.acN).before a0 Z = true) (w4 : (Cond.initialized "java/lang/System").before a0 Z = true)
    (A : Arv Z h a k ty z vs dv) (B : Arv Z h b k' ty' z' vd dd) (hty : (ty = ty' ∧ refKind ty = false) ∨ (refKind ty = true ∧ refKind ty' = true ∧ StoL Z h b us)) (hi : (¬ sp < 0) ∧ (¬ dp < 0) ∧ (¬ nn < 0) ∧ sp.toNatClampNeg + nn.toNatClampNeg ≤ z.toNatClampNeg ∧ dp.toNatClampNeg + nn.toNatClampNeg ≤ z'.toNatClampNeg)
    (hus : us = (List.range nn.toNatClampNeg).map fun i => vs.getD (sp.toNatClampNeg + i) dv) (hl : dp.toNatClampNeg + nn.toNatClampNeg ≤ vd.length) (ge : n0 ≤ b) (S : Safe Z EL vm0 h b) (hsz : Ls.size = c.maxLocals) (hd : decode bs pc = .ok (.invokestatic i, 3)) (hf : 1 ≤ R.frames) (W : Nat) (hW : (st.map fun v => v.category).sum ≤ W) (hlo : W + (nativeFrameWords "java/lang/System" "arraycopy" 5 + 11) ≤ R.locals)
    (q : ∀ T' h' locs', Keep h h' [b] → CHr Z EL vm0 h vm0 h' → Arv Z h' b k' ty' z' (vd.take dp.toNatClampNeg ++ us ++ vd.drop (dp.toNatClampNeg + nn.toNatClampNeg)) dd → Sit p l e R s m args below meth c bs own Z EL n0 h0 T' h' vm0 locs' cells slots → Go p e below F T' (mkF m (pc + 3) Ls st)) : Go p e below F T (mkF m pc Ls (.int nn :: .int dp :: .ref b :: .int sp :: .ref a :: st)) := by
  obtain ⟨T', h', L, Y, e', N, K, A', stp⟩ := cpA X.1 X.hx X.hZ X.hown w1 w2 w3 w4 X.hh A B hty hi.1 hi.2.1 hi.2.2.1 hi.2.2.2.1 hi.2.2.2.2 hus hl X.N ge (g := mkF m pc Ls (.int nn :: .int dp :: .ref b :: .int sp :: .ref a :: st)) rfl hsz rfl (hb X.hby hd) hf (W := W) (by show 2 * 0 + _ ≤ _; simpa using hW) hlo
  have hC := CHr.keep K (sfS S sf0) X.C.1
  exact Go.by stp (q T' h' L K hC A' (X.mk1 Y e' N hC))
end OwnKit
theorem own_cc {b c : Int32} (h : (b &&& (255 : Int32)) = c) : c.toUInt32.toUInt16.toUInt32.toInt32 = c := by
  subst h; exact i2c_mask _
theorem own_ncc {b c : Int32} (h : (b &&& (255 : Int32)) = c) : nar .char c = c := own_cc h
def ownB (c : Int32) : Int32 := c.toInt8.toInt32
theorem own_nb (c : Int32) : nar .byte (ownB c) = ownB c := by
  simp [nar, ownB]
theorem own_nc {c : Int32} (h1 : ¬ (255 : Int32) < c) (h2 : ¬ c < 0) : nar .char c = c := by
  have e1 : (255 : Int32).toInt = 255 := by decide
  have e2 : (0 : Int32).toInt = 0 := by decide
  rw [Int32.lt_iff_toInt_lt, e1] at h1
  rw [Int32.lt_iff_toInt_lt, e2] at h2
  have q := c_i2c c
  show c.toUInt32.toUInt16.toUInt32.toInt32 = c
  rw [← Int32.toInt_inj]
  omega
theorem own_mask (x : Int32) : ¬ (255 : Int32) < (x &&& (255 : Int32)) ∧ ¬ (x &&& (255 : Int32)) < 0 := by
  have e1 : (255 : Int32).toInt = 255 := by decide
  have e2 : (0 : Int32).toInt = 0 := by decide
  have q := c_and x (255 : Int32) (by decide)
  rw [Int32.lt_iff_toInt_lt, Int32.lt_iff_toInt_lt, e1, e2]
  omega
theorem own_b8 {c : Int32} (h1 : ¬ (255 : Int32) < c) (h2 : ¬ c < 0) : (ownB c).toInt = if c.toInt < 128 then c.toInt else c.toInt - 256 := by
  have e1 : (255 : Int32).toInt = 255 := by decide
  have e2 : (0 : Int32).toInt = 0 := by decide
  rw [Int32.lt_iff_toInt_lt, e1] at h1
  rw [Int32.lt_iff_toInt_lt, e2] at h2
  have q := c_i2b c
  unfold ownB
  split <;> omega
theorem own_rt {c : Int32} (h1 : ¬ (255 : Int32) < c) (h2 : ¬ c < 0) : (ownB c &&& (255 : Int32)) = c := by
  have q := own_b8 h1 h2
  have e1 : (255 : Int32).toInt = 255 := by decide
  have e2 : (0 : Int32).toInt = 0 := by decide
  rw [Int32.lt_iff_toInt_lt, e1] at h1
  rw [Int32.lt_iff_toInt_lt, e2] at h2
  have m := c_mask (ownB c) (255 : Int32) 8 (by decide) (by decide)
  rw [← Int32.toInt_inj, m, q]
  split <;> omega
theorem own_and3 (i : Int32) : i &&& (3 : Int32) = 0 ∨ i &&& (3 : Int32) = 1 ∨ i &&& (3 : Int32) = 2 ∨ i &&& (3 : Int32) = 3 := by
  have h1 := c_and i (3 : Int32) (by decide)
  have e3 : (3 : Int32).toInt = 3 := by decide
  have e2 : (2 : Int32).toInt = 2 := by decide
  have e1 : (1 : Int32).toInt = 1 := by decide
  have e0 : (0 : Int32).toInt = 0 := by decide
  rw [← Int32.toInt_inj, ← Int32.toInt_inj, ← Int32.toInt_inj, ← Int32.toInt_inj, e0, e1, e2]
  omega
theorem own_m3 (i : Int32) : (i &&& (255 : Int32)) % (3 : Int32) = 0 ∨ (i &&& (255 : Int32)) % (3 : Int32) = 1 ∨ (i &&& (255 : Int32)) % (3 : Int32) = 2 := by
  have h1 := (c_and i (255 : Int32) (by decide)).1
  have h2 := (c_irem (i &&& (255 : Int32)) 3 3 (by decide)).1 h1
  have e2 : (2 : Int32).toInt = 2 := by decide
  have e1 : (1 : Int32).toInt = 1 := by decide
  have e0 : (0 : Int32).toInt = 0 := by decide
  rw [← Int32.toInt_inj, ← Int32.toInt_inj, ← Int32.toInt_inj, e0, e1, e2]
  omega
def ownH (c : Int32) : Int32 := (c >>> ((8 : Int32) &&& 31)).toInt8.toInt32
theorem own_nh (c : Int32) : nar .byte (ownH c) = ownH c := by
  simp [nar, ownH]
theorem own_sh0 (c : Int32) : c >>> ((0 : Int32) &&& 31) = c := by
  have q := c_ishr c (0 : Int32) 0 (by decide)
  rw [← Int32.toInt_inj, q]; simp
def ownCh (x : Int32) : Int32 := if (x &&& (65535 : Int32)) = (65533 : Int32) then 0 else x &&& (65535 : Int32)
theorem own_m16 (x : Int32) : ¬ (65535 : Int32) < (x &&& (65535 : Int32)) ∧ ¬ (x &&& (65535 : Int32)) < 0 := by
  have e1 : (65535 : Int32).toInt = 65535 := by decide
  have e2 : (0 : Int32).toInt = 0 := by decide
  have q := c_and x (65535 : Int32) (by decide)
  rw [Int32.lt_iff_toInt_lt, Int32.lt_iff_toInt_lt, e1, e2]
  omega
theorem own_n16 {c : Int32} (h1 : ¬ (65535 : Int32) < c) (h2 : ¬ c < 0) : nar .char c = c := by
  have e1 : (65535 : Int32).toInt = 65535 := by decide
  have e2 : (0 : Int32).toInt = 0 := by decide
  rw [Int32.lt_iff_toInt_lt, e1] at h1
  rw [Int32.lt_iff_toInt_lt, e2] at h2
  have q := c_i2c c
  show c.toUInt32.toUInt16.toUInt32.toInt32 = c
  rw [← Int32.toInt_inj]
  omega
theorem own_chr (x : Int32) : ¬ (65535 : Int32) < ownCh x ∧ ¬ ownCh x < 0 ∧ ¬ ownCh x = (65533 : Int32) := by
  unfold ownCh
  split
  · decide
  · exact ⟨(own_m16 x).1, (own_m16 x).2, by assumption⟩
theorem own_chT {x : Int32} (h : (x &&& (65535 : Int32)) = (65533 : Int32)) : (some (.int (nar .char 0)) : Option Value) = some (.int (ownCh x)) := by
  unfold ownCh; rw [if_pos h]; rfl
theorem own_chF {x : Int32} (h : ¬ (x &&& (65535 : Int32)) = (65533 : Int32)) : (some (.int (nar .char (x &&& (65535 : Int32)))) : Option Value) = some (.int (ownCh x)) := by
  unfold ownCh; rw [if_neg h, own_n16 (own_m16 x).1 (own_m16 x).2]
theorem own_gc {c : Int32} (h1 : ¬ (65535 : Int32) < c) (h2 : ¬ c < 0) : (((ownB c &&& (255 : Int32)) <<< ((0 : Int32) &&& 31)) ||| ((ownH c &&& (255 : Int32)) <<< ((8 : Int32) &&& 31))).toUInt32.toUInt16.toUInt32.toInt32 = c := by
  have e1 : (65535 : Int32).toInt = 65535 := by decide
  have e2 : (0 : Int32).toInt = 0 := by decide
  rw [Int32.lt_iff_toInt_lt, e1] at h1
  rw [Int32.lt_iff_toInt_lt, e2] at h2
  have b1 := c_i2b c
  have b2 := c_i2b (c >>> ((8 : Int32) &&& 31))
  have b3 := c_ishr c (8 : Int32) 8 (by decide)
  have m1 := c_mask (ownB c) (255 : Int32) 8 (by decide) (by decide)
  have m2 := c_mask (ownH c) (255 : Int32) 8 (by decide) (by decide)
  have s1 := c_ishl (ownB c &&& (255 : Int32)) (0 : Int32) 0 (by decide)
  have s2 := c_ishl (ownH c &&& (255 : Int32)) (8 : Int32) 8 (by decide)
  have p8 : ((2 ^ 8 : Nat) : Int) = 256 := by decide
  have p0 : ((2 ^ 0 : Nat) : Int) = 1 := by decide
  rw [p8] at m1 m2 s2 b3
  rw [p0] at s1
  have r1 := Int32.toInt_lt ((ownB c &&& (255 : Int32)) <<< ((0 : Int32) &&& 31))
  have r2 := Int32.le_toInt ((ownB c &&& (255 : Int32)) <<< ((0 : Int32) &&& 31))
  have r3 := Int32.toInt_lt ((ownH c &&& (255 : Int32)) <<< ((8 : Int32) &&& 31))
  have r4 := Int32.le_toInt ((ownH c &&& (255 : Int32)) <<< ((8 : Int32) &&& 31))
  have o := c_or' ((ownB c &&& (255 : Int32)) <<< ((0 : Int32) &&& 31)) ((ownH c &&& (255 : Int32)) <<< ((8 : Int32) &&& 31)) 8 (by decide) 256 p8.symm (by omega) (by omega) (by omega)
  have q := c_i2c (((ownB c &&& (255 : Int32)) <<< ((0 : Int32) &&& 31)) ||| ((ownH c &&& (255 : Int32)) <<< ((8 : Int32) &&& 31)))
  change ((ownB c).toInt - c.toInt) % 256 = 0 ∧ _ at b1
  change ((ownH c).toInt - _) % 256 = 0 ∧ _ at b2
  rw [← Int32.toInt_inj]
  omega
def EL0 : List (String × Nat) := [("java/lang/String", 7)]
def Glob (Z : State) (a0 : Array Value) (iCS : Int32) (vSI : Value) : Prop := (∀ d ∈ tables_1, d.before a0 Z = true) ∧ EW Z a0 EL0 ∧ (∀ a ∈ Bundle.stringAtoms, a.before a0 Z = true) ∧ (Sta Z Z.heap "java/lang/String" "COMPACT_STRINGS" "Z" (.int iCS)) ∧ (¬ iCS = 0) ∧ (Sta Z Z.heap "jdk/internal/util/Preconditions" "SIOOBE_FORMATTER" "Ljava/util/function/BiFunction;" vSI) ∧ (vSI.isRef = true) ∧ (Sta Z Z.heap "java/lang/StringUTF16" "$assertionsDisabled" "Z" (.int 1)) ∧ (Sta Z Z.heap "java/lang/StringUTF16" "HI_BYTE_SHIFT" "I" (.int 0)) ∧ (Sta Z Z.heap "java/lang/StringUTF16" "LO_BYTE_SHIFT" "I" (.int 8))
section OwnGlob
variable {Z : State} {a0 : Array Value} {iCS : Int32} {vSI : Value}
theorem wd (G : Glob Z a0 iCS vSI) (k : Nat) {d : Jvm.Cond} (h : tables_1[k]? = some d) : d.before a0 Z = true := G.1 d (List.mem_of_getElem? h)
theorem gEL (G : Glob Z a0 iCS vSI) : EW Z a0 EL0 := G.2.1
theorem gSA (G : Glob Z a0 iCS vSI) : ∀ a ∈ Bundle.stringAtoms, a.before a0 Z = true := G.2.2.1
theorem S_CS (G : Glob Z a0 iCS vSI) : Sta Z Z.heap "java/lang/String" "COMPACT_STRINGS" "Z" (.int iCS) := G.2.2.2.1
theorem n_CS (G : Glob Z a0 iCS vSI) : ¬ iCS = 0 := G.2.2.2.2.1
theorem S_SI (G : Glob Z a0 iCS vSI) : Sta Z Z.heap "jdk/internal/util/Preconditions" "SIOOBE_FORMATTER" "Ljava/util/function/BiFunction;" vSI := G.2.2.2.2.2.1
theorem r_SI (G : Glob Z a0 iCS vSI) : vSI.isRef = true := G.2.2.2.2.2.2.1
theorem S_AD (G : Glob Z a0 iCS vSI) : Sta Z Z.heap "java/lang/StringUTF16" "$assertionsDisabled" "Z" (.int 1) := G.2.2.2.2.2.2.2.1
theorem S_HI (G : Glob Z a0 iCS vSI) : Sta Z Z.heap "java/lang/StringUTF16" "HI_BYTE_SHIFT" "I" (.int 0) := G.2.2.2.2.2.2.2.2.1
theorem S_LO (G : Glob Z a0 iCS vSI) : Sta Z Z.heap "java/lang/StringUTF16" "LO_BYTE_SHIFT" "I" (.int 8) := G.2.2.2.2.2.2.2.2.2
end OwnGlob
section OwnC
variable {l : Launch} {Z : State} {a0 : Array Value} {n0 : Nat} {iCS : Int32} {vSI : Value}
theorem pn_com_example_evoke_evoke_OptionsRequireDecodedPinLaw : plainName "com/example/evoke/evoke/OptionsRequireDecodedPinLaw" = true := by first | (simp [plainName, overriddenIn]; done) | decide +kernel
theorem d0_0 : decode method_3_code 0 = .ok (.iload_n 0, 1) := by decide +kernel
theorem d0_1 : decode method_3_code 1 = .ok (.ldc 28, 2) := by decide +kernel
theorem d0_3 : decode method_3_code 3 = .ok (.iand, 1) := by decide +kernel
theorem d0_4 : decode method_3_code 4 = .ok (.istore_n 1, 1) := by decide +kernel
theorem d0_5 : decode method_3_code 5 = .ok (.iload_n 1, 1) := by decide +kernel
theorem d0_6 : decode method_3_code 6 = .ok (.ldc 29, 2) := by decide +kernel
theorem d0_8 : decode method_3_code 8 = .ok (.if_icmp .ne 5, 3) := by decide +kernel
theorem d0_11 : decode method_3_code 11 = .ok (.iconst 0, 1) := by decide +kernel
theorem d0_12 : decode method_3_code 12 = .ok (.istore_n 1, 1) := by decide +kernel
theorem d0_13 : decode method_3_code 13 = .ok (.iload_n 1, 1) := by decide +kernel
theorem d0_14 : decode method_3_code 14 = .ok (.i2c, 1) := by decide +kernel
theorem d0_15 : decode method_3_code 15 = .ok (.ireturn, 1) := by decide +kernel
def N_m_3 : MethodName := ⟨"com/example/evoke/evoke/OptionsRequireDecodedPinLaw", "ch", "(I)C"⟩
def R_rm1 : Room := { frames := 0, cells := 0, slots := 0, locals := 0 }
theorem rm1 (G : Glob Z a0 iCS vSI) (i0 : Int32) (h0 : Heap) (Z0 : n0 ≤ h0.size) (O0 : Old Z n0 h0)  : MetH l Z EL0 n0 N_m_3 method_3_code 2 (some .char) [] R_rm1 #[.int i0] h0 [] (fun vs v h ve => (v = some (.int (ownCh i0)) ∧ (h0 = h))) := by
  refine MetH.of #[.val (.int i0), .unset] (plainFor_of_name pn_com_example_evoke_evoke_OptionsRequireDecodedPinLaw) rfl Z0 (fun p e s m below meth c T0 hret hml hnm hSL hs0 X0 => ?_)
  refine kILn X0 d0_0 rfl ?_
  refine kLDCI X0 (wd G 4 rfl) d0_1 ?_
  refine kIAND X0 (i0 &&& (65535 : Int32)) d0_3 rfl ?_
  refine kISn X0 #[.val (.int i0), .val (.int (i0 &&& (65535 : Int32)))] d0_4 rfl ?_
  refine kILn X0 d0_5 rfl ?_
  refine kLDCI X0 (wd G 5 rfl) d0_6 ?_
  by_cases c1 : (i0 &&& (65535 : Int32)) = (65533 : Int32)
  · refine kICf X0 d0_8 (XT.ii_ne_f c1) ?_
    refine kIC X0 0 d0_11 (by decide) ?_
    refine kISn X0 #[.val (.int i0), .val (.int 0)] d0_12 rfl ?_
    refine kILn X0 d0_13 rfl ?_
    refine kI2C X0 (0 : Int32) d0_14 (by decide) ?_
    exact kRETZ X0 (gEL G) (t := .char) hret (by simp) d0_15 (fun ve hve => ⟨(own_chT c1), rfl⟩) (by decide)
  · refine kICt X0 13 d0_8 (XT.ii_ne_t c1) (by decide) ?_
    refine kILn X0 d0_13 rfl ?_
    refine kI2C X0 (i0 &&& (65535 : Int32)) d0_14 (own_n16 (own_m16 _).1 (own_m16 _).2) ?_
    exact kRETZ X0 (gEL G) (t := .char) hret (by simp) d0_15 (fun ve hve => ⟨(own_chF c1), rfl⟩) (by decide)
theorem pn_java_lang_String : plainName "java/lang/String" = true := by first | (simp [plainName, overriddenIn]; done) | decide +kernel
theorem pd__I_C : parseMethodDescriptor "(I)C" = some ⟨[.int], some .char⟩ := by decide +kernel
theorem d1_0 : decode jdk_42_method_3_code 0 = .ok (.aload_n 0, 1) := by decide +kernel
theorem d1_1 : decode jdk_42_method_3_code 1 = .ok (.aload_n 1, 1) := by decide +kernel
theorem d1_2 : decode jdk_42_method_3_code 2 = .ok (.iconst 0, 1) := by decide +kernel
theorem d1_3 : decode jdk_42_method_3_code 3 = .ok (.aload_n 1, 1) := by decide +kernel
theorem d1_4 : decode jdk_42_method_3_code 4 = .ok (.arraylength, 1) := by decide +kernel
theorem d1_5 : decode jdk_42_method_3_code 5 = .ok (.aconst_null, 1) := by decide +kernel
theorem d1_6 : decode jdk_42_method_3_code 6 = .ok (.invokespecial 27, 3) := by decide +kernel
theorem d2_0 : decode jdk_42_method_149_code 0 = .ok (.aload_n 0, 1) := by decide +kernel
theorem d2_1 : decode jdk_42_method_149_code 1 = .ok (.invokespecial 1, 3) := by decide +kernel
theorem d2_4 : decode jdk_42_method_149_code 4 = .ok (.iload_n 3, 1) := by decide +kernel
theorem d2_5 : decode jdk_42_method_149_code 5 = .ok (.ifCond .ne 22, 3) := by decide +kernel
theorem d2_8 : decode jdk_42_method_149_code 8 = .ok (.aload_n 0, 1) := by decide +kernel
theorem d2_9 : decode jdk_42_method_149_code 9 = .ok (.ldc 7, 2) := by decide +kernel
theorem d2_11 : decode jdk_42_method_149_code 11 = .ok (.getfield 9, 3) := by decide +kernel
theorem d2_14 : decode jdk_42_method_149_code 14 = .ok (.putfield 9, 3) := by decide +kernel
theorem d2_17 : decode jdk_42_method_149_code 17 = .ok (.aload_n 0, 1) := by decide +kernel
theorem d2_18 : decode jdk_42_method_149_code 18 = .ok (.ldc 7, 2) := by decide +kernel
theorem d2_20 : decode jdk_42_method_149_code 20 = .ok (.getfield 15, 3) := by decide +kernel
theorem d2_23 : decode jdk_42_method_149_code 23 = .ok (.putfield 15, 3) := by decide +kernel
theorem d2_26 : decode jdk_42_method_149_code 26 = .ok (.return_, 1) := by decide +kernel
def N_jdk_42_m_149 : MethodName := ⟨"java/lang/String", "<init>", "([CIILjava/lang/Void;)V"⟩
def R_rm3 : Room := { frames := 1, cells := 4, slots := 8, locals := 12 }
theorem rm3 (G : Glob Z a0 iCS vSI) (q0 q1 : Addr) (kp0 : ClassId) (h0 : Heap) (Z0 : n0 ≤ h0.size) (O0 : Old Z n0 h0) (E_q0 : Exa Z h0 q0 "java/lang/String") (A_q1 : Arv Z h0 q1 kp0 .char 0 [] (.int 0)) (F_q0_value : Fld Z h0 q0 "java/lang/String" "value" "[B" (.null)) (d_q1_q0 : q1 ≠ q0) (F_q0_coder : Fld Z h0 q0 "java/lang/String" "coder" "B" (.int 0)) (g_q0 : n0 ≤ q0) : MetH l Z EL0 n0 N_jdk_42_m_149 jdk_42_method_149_code 6 none [] R_rm3 #[.ref q0, .ref q1, .int 0, .int 0, .null] h0 [q0] (fun vs v h ve => (∃ (x0 : Addr), ∃ (z0 : ClassId), v = none ∧ (Keep h0 h [q0]) ∧ (∀ x, x < h0.size → Safe Z EL0 vs h0 x → x ≠ x0) ∧ (Arv Z h x0 z0 .byte 0 [] (.int 0)) ∧ (Fld Z h q0 "java/lang/String" "coder" "B" (.int 0)) ∧ (Fld Z h q0 "java/lang/String" "value" "[B" (.ref x0)))) := by
  refine MetH.of #[.val (.ref q0), .val (.ref q1), .val (.int 0), .val (.int 0), .val .null, .unset] (plainFor_of_name pn_java_lang_String) rfl Z0 (fun p e s m below meth c T0 hret hml hnm hSL hs0 X0 => ?_)
  have S_q0 := hSL q0 (List.mem_of_getElem? (i := 0) rfl)
  refine kALn X0 d2_0 rfl rfl ?_
  refine kINIT X0 (wd G 17 rfl) (wd G 18 rfl) (wd G 19 rfl) hml.symm d2_1 (by decide) 0 (Nat.le_of_eq rfl) (by decide) (fun T1 X2 => ?_)
  refine kILn X2 d2_4 rfl ?_
  refine kIFf X2 d2_5 (XT.i0_ne_f (by decide)) ?_
  refine kALn X2 d2_8 rfl rfl ?_
  refine kLDCT X2 (gEL G) (wd G 20 rfl) (gSA G) (by decide) (text := "") (vs := []) (z := 0) (by decide) (by decide) (by decide) d2_9 (n := 0) (by decide) (by decide) (by decide) (by decide) (fun T3 h4 vm6 a7 b8 k9 E10 C11 f12 f13 f14 f15 n16 X5 => ?_)
  have f17 := (CHr.safe C11 (E_q0.lt) S_q0)
  have n18 := (n16 q0 f17).1
  have n19 := (n16 q0 f17).2
  have f20 := (Arv.ext A_q1 E10)
  have n21 := (n16 q1 (Safe.arv X5.hZ.alike f20 (by decide))).1
  have n22 := (n16 q1 (Safe.arv X5.hZ.alike f20 (by decide))).2
  have n23 : ∀ x, x < h0.size → Safe Z EL0 s.vm h0 x → x ≠ b8 := fun x hx S => (n16 x (CHr.safe (hs0 ▸ X5.C) hx S)).2
  refine kGETF X5 (wd G 26 rfl) Via.refl f14 d2_11 (fun T24 X25 => ?_)
  have f26 := (Fld.ext E10 F_q0_value)
  have f27 := (Exa.ext E10 E_q0)
  refine kPUTF X25 (wd G 26 rfl) Via.refl f26 f27 (Or.inr ⟨(wd G 22 rfl), rfl, hnm⟩) (wd G 7 rfl) (ty := (.array (.byte))) (by decide) rfl rfl g_q0 f17 d2_14 (fun T28 h29 L32 W31 X30 => ?_)
  have f33 := Fld.same W31 f26
  refine kALn X30 d2_17 rfl rfl ?_
  refine kLDCT X30 (gEL G) (wd G 20 rfl) (gSA G) (by decide) (text := "") (vs := []) (z := 0) (by decide) (by decide) (by decide) d2_18 (n := 0) (by decide) (by decide) (by decide) (by decide) (fun T34 h35 vm37 a38 b39 k40 E41 C42 f43 f44 f45 f46 n47 X36 => ?_)
  have f48 := (CHr.safe C42 (f33.lt) (Safe.wr W31 f17 X25.C.1 f17))
  have n49 := (n47 q0 f48).1
  have n50 := (n47 q0 f48).2
  have f51 := (Arv.ext (Arv.other f20 W31 d_q1_q0) E41)
  have n52 := (n47 q1 (Safe.arv X36.hZ.alike f51 (by decide))).1
  have n53 := (n47 q1 (Safe.arv X36.hZ.alike f51 (by decide))).2
  have n54 : ∀ x, x < h0.size → Safe Z EL0 s.vm h0 x → x ≠ b39 := fun x hx S => (n47 x (CHr.safe (hs0 ▸ X36.C) hx S)).2
  refine kGETF X36 (wd G 27 rfl) Via.refl f44 d2_20 (fun T55 X56 => ?_)
  have f57 := (Fld.ext E41 (Fld.other W31 (Fld.ext E10 F_q0_coder) (Or.inr (slot_ne (Or.inr (wd G 23 rfl)) (Or.inr (wd G 22 rfl)) (by decide) (by decide : parseFieldDescriptor "B" = some .byte) (by decide : parseFieldDescriptor "[B" = some (.array (.byte)))))))
  have f58 := (Exa.ext E41 (Exa.wr W31 f27))
  refine kPUTF X56 (wd G 27 rfl) Via.refl f57 f58 (Or.inr ⟨(wd G 23 rfl), rfl, hnm⟩) (wd G 7 rfl) (ty := .byte) (by decide) (by decide) (by decide) g_q0 f48 d2_23 (fun T59 h60 L63 W62 X61 => ?_)
  have f64 := Fld.same W62 f57
  have K65 : Keep h0 h60 [q0] := (Keep.wr (Keep.ext (Keep.wr (Keep.ext (Keep.refl h0 [q0]) E10) W31 (Or.inl (List.mem_of_getElem? (i := 0) rfl))) E41) W62 (Or.inl (List.mem_of_getElem? (i := 0) rfl)))
  have f66 := (Arv.other (Arv.ext (Arv.other f15 W31 (Ne.symm n19)) E41) W62 (Ne.symm n19))
  have f67 := (Fld.other W62 (Fld.ext E41 f33) (Or.inr (slot_ne (Or.inr (wd G 22 rfl)) (Or.inr (wd G 23 rfl)) (by decide) (by decide : parseFieldDescriptor "[B" = some (.array (.byte))) (by decide : parseFieldDescriptor "B" = some .byte))))
  exact kRETV X61 (gEL G) hret d2_26 (fun ve hve => ⟨b8, k9, rfl, K65, n23, f66, f64, f67⟩) (by decide)
theorem pd___CIILjava_lang_Void__V : parseMethodDescriptor "([CIILjava/lang/Void;)V" = some ⟨[.array (.char), .int, .int, .object "java/lang/Void"], none⟩ := by decide +kernel
theorem d1_9 : decode jdk_42_method_3_code 9 = .ok (.return_, 1) := by decide +kernel
def N_jdk_42_m_3 : MethodName := ⟨"java/lang/String", "<init>", "([C)V"⟩
def R_rm2 : Room := { frames := 2, cells := 4, slots := 8, locals := 29 }
theorem rm2 (G : Glob Z a0 iCS vSI) (q0 q1 : Addr) (kp0 : ClassId) (h0 : Heap) (Z0 : n0 ≤ h0.size) (O0 : Old Z n0 h0) (A_q1 : Arv Z h0 q1 kp0 .char 0 [] (.int 0)) (E_q0 : Exa Z h0 q0 "java/lang/String") (F_q0_value : Fld Z h0 q0 "java/lang/String" "value" "[B" (.null)) (d_q1_q0 : q1 ≠ q0) (F_q0_coder : Fld Z h0 q0 "java/lang/String" "coder" "B" (.int 0)) (g_q0 : n0 ≤ q0) : MetH l Z EL0 n0 N_jdk_42_m_3 jdk_42_method_3_code 2 none [] R_rm2 #[.ref q0, .ref q1] h0 [q0] (fun vs v h ve => (∃ (x0 : Addr), ∃ (z0 : ClassId), v = none ∧ (Keep h0 h [q0]) ∧ (∀ x, x < h0.size → Safe Z EL0 vs h0 x → x ≠ x0) ∧ (Arv Z h x0 z0 .byte 0 [] (.int 0)) ∧ (Fld Z h q0 "java/lang/String" "coder" "B" (.int 0)) ∧ (Fld Z h q0 "java/lang/String" "value" "[B" (.ref x0)))) := by
  refine MetH.of #[.val (.ref q0), .val (.ref q1)] (plainFor_of_name pn_java_lang_String) rfl Z0 (fun p e s m below meth c T0 hret hml hnm hSL hs0 X0 => ?_)
  have S_q0 := hSL q0 (List.mem_of_getElem? (i := 0) rfl)
  refine kALn X0 d1_0 rfl rfl ?_
  refine kALn X0 d1_1 rfl rfl ?_
  refine kIC X0 0 d1_2 (by decide) ?_
  refine kALn X0 d1_3 rfl rfl ?_
  refine kLEN X0 A_q1 d1_4 ?_
  refine kNULL X0 d1_5 ?_
  refine kSPEC X0 (gEL G) (argsL := [.ref q1, .int 0, .int 0, .null]) (rest := []) (wd G 13 rfl) (wd G 14 rfl) (wd G 8 rfl) (wd G 16 rfl) rfl (by decide) (rm3 G q0 q1 kp0 h0 X0.n O0 E_q0 A_q1 F_q0_value d_q1_q0 F_q0_coder g_q0) (allS ⟨(E_q0.lt), S_q0⟩ all0) (lenOf pd___CIILjava_lang_Void__V rfl) rfl 0 rfl (by decide) hml.symm d1_6 (fun v1 T2 h3 vm4 _ w5 q6 C7 C8 X9 => ?_)
  obtain ⟨a11, k12, e13, f14, f15, f16, f17, f18⟩ := q6
  subst e13
  have n19 : q0 ≠ a11 := f15 q0 (E_q0.lt) (CHr.safe C7 (E_q0.lt) S_q0)
  have n20 : q1 ≠ a11 := f15 q1 (A_q1.lt) (CHr.safe C7 (A_q1.lt) (Safe.arv X0.hZ.alike A_q1 (by decide)))
  have n21 : ∀ x, x < h0.size → Safe Z EL0 s.vm h0 x → x ≠ a11 := fun x hx S => f15 x (Nat.lt_of_lt_of_le hx X0.g0) (CHr.safe C7 (Nat.lt_of_lt_of_le hx X0.g0) (CHr.safe (hs0 ▸ X0.C) hx S))
  show Go _ _ _ _ _ (mkF _ _ _ [])
  have K22 : Keep h0 h3 [q0] := (Keep.trans (Keep.refl h0 [q0]) f14 (allS (Or.inl (List.mem_of_getElem? (i := 0) rfl)) all0))
  exact kRETV X9 (gEL G) hret d1_9 (fun ve hve => ⟨a11, k12, rfl, K22, n21, f16, f17, f18⟩) (by decide)
theorem pn_java_lang_StringLatin1 : plainName "java/lang/StringLatin1" = true := by first | (simp [plainName, overriddenIn]; done) | decide +kernel
theorem pd___C_V : parseMethodDescriptor "([C)V" = some ⟨[.array (.char)], none⟩ := by decide +kernel
theorem d4_0 : decode jdk_42_method_139_code 0 = .ok (.getstatic 38, 3) := by decide +kernel
theorem d4_3 : decode jdk_42_method_139_code 3 = .ok (.ifCond .eq 23, 3) := by decide +kernel
theorem d4_6 : decode jdk_42_method_139_code 6 = .ok (.iload_n 0, 1) := by decide +kernel
theorem d4_7 : decode jdk_42_method_139_code 7 = .ok (.invokestatic 1015, 3) := by decide +kernel
theorem d5_0 : decode jdk_43_method_3_code 0 = .ok (.iload_n 0, 1) := by decide +kernel
theorem d5_1 : decode jdk_43_method_3_code 1 = .ok (.sipush 255, 3) := by decide +kernel
theorem d5_4 : decode jdk_43_method_3_code 4 = .ok (.if_icmp .gt 7, 3) := by decide +kernel
theorem d5_7 : decode jdk_43_method_3_code 7 = .ok (.iconst 1, 1) := by decide +kernel
theorem d5_8 : decode jdk_43_method_3_code 8 = .ok (.goto 4, 3) := by decide +kernel
theorem d5_12 : decode jdk_43_method_3_code 12 = .ok (.ireturn, 1) := by decide +kernel
def N_jdk_43_m_3 : MethodName := ⟨"java/lang/StringLatin1", "canEncode", "(C)Z"⟩
def R_rm5 : Room := { frames := 0, cells := 0, slots := 0, locals := 0 }
theorem rm5 (G : Glob Z a0 iCS vSI) (i0 : Int32) (h0 : Heap) (Z0 : n0 ≤ h0.size) (O0 : Old Z n0 h0) (c_0 : ¬ (255 : Int32) < i0) : MetH l Z EL0 n0 N_jdk_43_m_3 jdk_43_method_3_code 1 (some .boolean) [] R_rm5 #[.int i0] h0 [] (fun vs v h ve => (v = some (.int 1) ∧ (h0 = h))) := by
  refine MetH.of #[.val (.int i0)] (plainFor_of_name pn_java_lang_StringLatin1) rfl Z0 (fun p e s m below meth c T0 hret hml hnm hSL hs0 X0 => ?_)
  refine kILn X0 d5_0 rfl ?_
  refine kSI X0 255 d5_1 (by decide) ?_
  refine kICf X0 d5_4 (XT.ii_gt_f c_0) ?_
  refine kIC X0 1 d5_7 (by decide) ?_
  refine kGOTO X0 12 d5_8 (by decide) ?_
  exact kRETZ X0 (gEL G) (t := .boolean) hret (by simp) d5_12 (fun ve hve => ⟨rfl, rfl⟩) (by decide)
theorem pd__C_Z : parseMethodDescriptor "(C)Z" = some ⟨[.char], some .boolean⟩ := by decide +kernel
theorem d4_10 : decode jdk_42_method_139_code 10 = .ok (.ifCond .eq 16, 3) := by decide +kernel
theorem d4_13 : decode jdk_42_method_139_code 13 = .ok (.new 10, 3) := by decide +kernel
theorem d4_16 : decode jdk_42_method_139_code 16 = .ok (.dup, 1) := by decide +kernel
theorem d4_17 : decode jdk_42_method_139_code 17 = .ok (.iload_n 0, 1) := by decide +kernel
theorem d4_18 : decode jdk_42_method_139_code 18 = .ok (.invokestatic 1018, 3) := by decide +kernel
theorem d6_0 : decode jdk_43_method_46_code 0 = .ok (.iconst 1, 1) := by decide +kernel
theorem d6_1 : decode jdk_43_method_46_code 1 = .ok (.newarray .byte, 2) := by decide +kernel
theorem d6_3 : decode jdk_43_method_46_code 3 = .ok (.dup, 1) := by decide +kernel
theorem d6_4 : decode jdk_43_method_46_code 4 = .ok (.iconst 0, 1) := by decide +kernel
theorem d6_5 : decode jdk_43_method_46_code 5 = .ok (.iload_n 0, 1) := by decide +kernel
theorem d6_6 : decode jdk_43_method_46_code 6 = .ok (.i2b, 1) := by decide +kernel
theorem d6_7 : decode jdk_43_method_46_code 7 = .ok (.bastore, 1) := by decide +kernel
theorem d6_8 : decode jdk_43_method_46_code 8 = .ok (.areturn, 1) := by decide +kernel
def N_jdk_43_m_46 : MethodName := ⟨"java/lang/StringLatin1", "toBytes", "(C)[B"⟩
def R_rm6 : Room := { frames := 0, cells := 1, slots := 1, locals := 0 }
theorem rm6 (G : Glob Z a0 iCS vSI) (i0 : Int32) (h0 : Heap) (Z0 : n0 ≤ h0.size) (O0 : Old Z n0 h0)  : MetH l Z EL0 n0 N_jdk_43_m_46 jdk_43_method_46_code 1 (some (.array (.byte))) [] R_rm6 #[.int i0] h0 [] (fun vs v h ve => (∃ (x0 : Addr), ∃ (z0 : ClassId), v = some (.ref x0) ∧ (Keep h0 h []) ∧ (h0.size ≤ x0) ∧ (Arv Z h x0 z0 .byte 1 [.int (ownB i0)] (.int 0)) ∧ (Safe Z EL0 ve h x0))) := by
  refine MetH.of #[.val (.int i0)] (plainFor_of_name pn_java_lang_StringLatin1) rfl Z0 (fun p e s m below meth c T0 hret hml hnm hSL hs0 X0 => ?_)
  refine kIC X0 1 d6_0 (by decide) ?_
  refine kNEWP X0 (wd G 21 rfl) (cap := 1) d6_1 (by decide) (by decide) (by decide) (by decide) (by decide) (fun T1 h2 a4 k5 E6 q7 g8 A9 s10 X3 => ?_)
  have g11 : h0.size ≤ a4 := q7 ▸ X0.g0
  have f12 : Arv Z h2 a4 k5 .byte 1 [.int 0] (.int 0) := A9.pad (pad_rep [] _ 1)
  refine kDUP X3 d6_3 rfl ?_
  refine kIC X3 0 d6_4 (by decide) ?_
  refine kILn X3 d6_5 rfl ?_
  refine kI2B X3 (ownB i0) d6_6 rfl ?_
  refine kBASTO X3 f12 (by decide) 0 (ownB i0) (own_nb _) (by decide) (by show 0 < 1; decide) g8 s10 d6_7 (fun T13 h14 L16 W17 f18 X15 => ?_)
  have f19 : Arv Z h14 a4 k5 .byte 1 [.int (ownB i0)] (.int 0) := f18
  have K20 : Keep h0 h14 [] := (Keep.wr (Keep.ext (Keep.refl h0 []) E6) W17 (Or.inr g11))
  have f21 := (Safe.wr W17 s10 X3.C.1 s10)
  exact kRETA X15 (gEL G) hret rfl rfl d6_8 (fun ve hve => ⟨a4, k5, rfl, K20, g11, f19, (CHr.safe hve (f19.lt) f21)⟩) (by decide)
theorem pd__C__B : parseMethodDescriptor "(C)[B" = some ⟨[.char], some (.array (.byte))⟩ := by decide +kernel
theorem d4_21 : decode jdk_42_method_139_code 21 = .ok (.iconst 0, 1) := by decide +kernel
theorem d4_22 : decode jdk_42_method_139_code 22 = .ok (.invokespecial 209, 3) := by decide +kernel
theorem d7_0 : decode jdk_42_method_151_code 0 = .ok (.aload_n 0, 1) := by decide +kernel
theorem d7_1 : decode jdk_42_method_151_code 1 = .ok (.invokespecial 1, 3) := by decide +kernel
theorem d7_4 : decode jdk_42_method_151_code 4 = .ok (.aload_n 0, 1) := by decide +kernel
theorem d7_5 : decode jdk_42_method_151_code 5 = .ok (.aload_n 1, 1) := by decide +kernel
theorem d7_6 : decode jdk_42_method_151_code 6 = .ok (.putfield 9, 3) := by decide +kernel
theorem d7_9 : decode jdk_42_method_151_code 9 = .ok (.aload_n 0, 1) := by decide +kernel
theorem d7_10 : decode jdk_42_method_151_code 10 = .ok (.iload_n 2, 1) := by decide +kernel
theorem d7_11 : decode jdk_42_method_151_code 11 = .ok (.putfield 15, 3) := by decide +kernel
theorem d7_14 : decode jdk_42_method_151_code 14 = .ok (.return_, 1) := by decide +kernel
def N_jdk_42_m_151 : MethodName := ⟨"java/lang/String", "<init>", "([BB)V"⟩
def R_rm7 : Room := { frames := 1, cells := 0, slots := 0, locals := 12 }
theorem rm7 (G : Glob Z a0 iCS vSI) (i0 : Int32) (q0 q1 : Addr) (kp0 : ClassId) (h0 : Heap) (Z0 : n0 ≤ h0.size) (O0 : Old Z n0 h0) (F_q0_value : Fld Z h0 q0 "java/lang/String" "value" "[B" (.null)) (E_q0 : Exa Z h0 q0 "java/lang/String") (F_q0_coder : Fld Z h0 q0 "java/lang/String" "coder" "B" (.int 0)) (g_q0 : n0 ≤ q0) : MetH l Z EL0 n0 N_jdk_42_m_151 jdk_42_method_151_code 3 none [] R_rm7 #[.ref q0, .ref q1, .int 0] h0 [q0] (fun vs v h ve => (v = none ∧ (Keep h0 h [q0]) ∧ (Fld Z h q0 "java/lang/String" "coder" "B" (.int 0)) ∧ (Fld Z h q0 "java/lang/String" "value" "[B" (.ref q1)))) := by
  refine MetH.of #[.val (.ref q0), .val (.ref q1), .val (.int 0)] (plainFor_of_name pn_java_lang_String) rfl Z0 (fun p e s m below meth c T0 hret hml hnm hSL hs0 X0 => ?_)
  have S_q0 := hSL q0 (List.mem_of_getElem? (i := 0) rfl)
  refine kALn X0 d7_0 rfl rfl ?_
  refine kINIT X0 (wd G 17 rfl) (wd G 18 rfl) (wd G 19 rfl) hml.symm d7_1 (by decide) 0 (Nat.le_of_eq rfl) (by decide) (fun T1 X2 => ?_)
  refine kALn X2 d7_4 rfl rfl ?_
  refine kALn X2 d7_5 rfl rfl ?_
  refine kPUTF X2 (wd G 26 rfl) Via.refl F_q0_value E_q0 (Or.inr ⟨(wd G 22 rfl), rfl, hnm⟩) (wd G 7 rfl) (ty := (.array (.byte))) (by decide) rfl rfl g_q0 S_q0 d7_6 (fun T3 h4 L7 W6 X5 => ?_)
  have f8 := Fld.same W6 F_q0_value
  refine kALn X5 d7_9 rfl rfl ?_
  refine kILn X5 d7_10 rfl ?_
  have f9 := (Fld.other W6 F_q0_coder (Or.inr (slot_ne (Or.inr (wd G 23 rfl)) (Or.inr (wd G 22 rfl)) (by decide) (by decide : parseFieldDescriptor "B" = some .byte) (by decide : parseFieldDescriptor "[B" = some (.array (.byte))))))
  have f10 := (Exa.wr W6 E_q0)
  have f11 := (Safe.wr W6 S_q0 X2.C.1 S_q0)
  refine kPUTF X5 (wd G 27 rfl) Via.refl f9 f10 (Or.inr ⟨(wd G 23 rfl), rfl, hnm⟩) (wd G 7 rfl) (ty := .byte) (by decide) (by decide) (by decide) g_q0 f11 d7_11 (fun T12 h13 L16 W15 X14 => ?_)
  have f17 := Fld.same W15 f9
  have K18 : Keep h0 h13 [q0] := (Keep.wr (Keep.wr (Keep.refl h0 [q0]) W6 (Or.inl (List.mem_of_getElem? (i := 0) rfl))) W15 (Or.inl (List.mem_of_getElem? (i := 0) rfl)))
  have f19 := (Fld.other W15 f8 (Or.inr (slot_ne (Or.inr (wd G 22 rfl)) (Or.inr (wd G 23 rfl)) (by decide) (by decide : parseFieldDescriptor "[B" = some (.array (.byte))) (by decide : parseFieldDescriptor "B" = some .byte))))
  exact kRETV X14 (gEL G) hret d7_14 (fun ve hve => ⟨rfl, K18, f17, f19⟩) (by decide)
theorem pd___BB_V : parseMethodDescriptor "([BB)V" = some ⟨[.array (.byte), .byte], none⟩ := by decide +kernel
theorem d4_25 : decode jdk_42_method_139_code 25 = .ok (.areturn, 1) := by decide +kernel
def N_jdk_42_m_139 : MethodName := ⟨"java/lang/String", "valueOf", "(C)Ljava/lang/String;"⟩
def R_rm4 : Room := { frames := 2, cells := 2, slots := 5, locals := 27 }
theorem rm4 (G : Glob Z a0 iCS vSI) (i0 : Int32) (h0 : Heap) (Z0 : n0 ≤ h0.size) (O0 : Old Z n0 h0) (c_0 : ¬ (255 : Int32) < i0) (c_1 : ¬ i0 < 0) : MetH l Z EL0 n0 N_jdk_42_m_139 jdk_42_method_139_code 1 (some (.object "java/lang/String")) [] R_rm4 #[.int i0] h0 [] (fun vs v h ve => (∃ (x0 : Addr), ∃ (x1 : Addr), ∃ (z0 : ClassId), v = some (.ref x0) ∧ (Keep h0 h []) ∧ (h0.size ≤ x0) ∧ (h0.size ≤ x1) ∧ (x0 ≠ x1) ∧ (Exa Z h x0 "java/lang/String") ∧ (Fld Z h x0 "java/lang/String" "coder" "B" (.int 0)) ∧ (Fld Z h x0 "java/lang/String" "value" "[B" (.ref x1)) ∧ (Safe Z EL0 ve h x0) ∧ (Arv Z h x1 z0 .byte 1 [.int (ownB i0)] (.int 0)) ∧ (Safe Z EL0 ve h x1))) := by
  refine MetH.of #[.val (.int i0)] (plainFor_of_name pn_java_lang_String) rfl Z0 (fun p e s m below meth c T0 hret hml hnm hSL hs0 X0 => ?_)
  refine kGETS X0 (wd G 31 rfl) Via.refl (Sta.ext O0.2 (S_CS G)) d4_0 (fun T1 X2 => ?_)
  refine kIFf X2 d4_3 (XT.i0_eq_f (n_CS G)) ?_
  refine kILn X2 d4_6 rfl ?_
  refine kSTAT X2 (gEL G) (argsL := [.int i0]) (rest := []) (wd G 32 rfl) (wd G 33 rfl) (wd G 34 rfl) (wd G 35 rfl) (by decide) (rm5 G i0 h0 X2.n O0 c_0) all0 (lenOf pd__C_Z rfl) rfl 0 rfl (by decide) hml.symm d4_7 (fun v3 T4 h5 vm6 _ w7 q8 C9 C10 X11 => ?_)
  obtain ⟨e13, f14⟩ := q8
  subst e13
  subst f14
  show Go _ _ _ _ _ (mkF _ _ _ [.int 1])
  refine kIFf X11 d4_10 (XT.i0_eq_f (by decide)) ?_
  refine kNEW X11 (wd G 36 rfl) (wd G 7 rfl) (wd G 8 rfl) d4_13 (by decide) (by decide) (fun T15 h16 a18 E19 q20 g21 A22 D23 s24 X17 => ?_)
  have g25 : h0.size ≤ a18 := q20 ▸ X11.g0
  have f26 : Fld Z h16 a18 "java/lang/String" "value" "[B" (.null) := D23 (Or.inr (wd G 22 rfl)) (ty := (.array (.byte))) (by decide)
  have f27 : Fld Z h16 a18 "java/lang/String" "coder" "B" (.int 0) := D23 (Or.inr (wd G 23 rfl)) (ty := .byte) (by decide)
  refine kDUP X17 d4_16 rfl ?_
  refine kILn X17 d4_17 rfl ?_
  have f28 := (Old.ext O0 E19)
  refine kSTAT X17 (gEL G) (argsL := [.int i0]) (rest := [.ref a18, .ref a18]) (wd G 37 rfl) (wd G 38 rfl) (wd G 34 rfl) (wd G 39 rfl) (by decide) (rm6 G i0 h16 X17.n f28 ) all0 (lenOf pd__C__B rfl) rfl 2 rfl (by decide) hml.symm d4_18 (fun v29 T30 h31 vm32 _ w33 q34 C35 C36 X37 => ?_)
  obtain ⟨a39, k40, e41, f42, f43, f44, f45⟩ := q34
  subst e41
  have n46 : a18 ≠ a39 := Nat.ne_of_lt (Nat.lt_of_lt_of_le (A22.lt) f43)
  have g47 : n0 ≤ a39 := Nat.le_trans X17.n f43
  have g48 : h0.size ≤ a39 := Nat.le_trans X17.g0 f43
  show Go _ _ _ _ _ (mkF _ _ _ [.ref a39, .ref a18, .ref a18])
  refine kIC X37 0 d4_21 (by decide) ?_
  have f49 := (Fld.keep f26 f42 nin0)
  have f50 := (Exa.keep A22 f42)
  have f51 := (Fld.keep f27 f42 nin0)
  have f52 := (Old.keep f28 f42 all0)
  have f62 := (CHr.safe C36 (f26.lt) s24)
  refine kSPEC X37 (gEL G) (argsL := [.ref a39, .int 0]) (rest := [.ref a18]) (wd G 40 rfl) (wd G 41 rfl) (wd G 8 rfl) (wd G 42 rfl) rfl (by decide) (rm7 G i0 a18 a39 k40 h31 X37.n f52 f49 f50 f51 g21) (allS ⟨(f50.lt), f62⟩ all0) (lenOf pd___BB_V rfl) rfl 1 rfl (by decide) hml.symm d4_22 (fun v53 T54 h55 vm56 _ w57 q58 C59 C60 X61 => ?_)
  obtain ⟨e64, f65, f66, f67⟩ := q58
  subst e64
  show Go _ _ _ _ _ (mkF _ _ _ [.ref a18])
  have K68 : Keep h0 h55 [] := (Keep.trans (Keep.trans (Keep.ext (Keep.refl h0 []) E19) f42 all0) f65 (allS (Or.inr g25) all0))
  have f69 := (Exa.keep f50 f65)
  have f70 := (CHr.safe C60 (f51.lt) f62)
  have f71 := (Arv.keep f44 f65 (ninS (Ne.symm n46) nin0))
  have f72 := (CHr.safe C60 (f44.lt) f45)
  exact kRETA X61 (gEL G) hret rfl rfl d4_25 (fun ve hve => ⟨a18, a39, k40, rfl, K68, g25, g48, n46, f69, f66, f67, (CHr.safe hve (f69.lt) f70), f71, (CHr.safe hve (f71.lt) f72)⟩) (by decide)
theorem pd__C_Ljava_lang_String_ : parseMethodDescriptor "(C)Ljava/lang/String;" = some ⟨[.char], some (.object "java/lang/String")⟩ := by decide +kernel
theorem d8_0 : decode prog_38_method_14_code 0 = .ok (.aload_n 0, 1) := by decide +kernel
theorem d8_1 : decode prog_38_method_14_code 1 = .ok (.ldc 185, 2) := by decide +kernel
theorem d8_3 : decode prog_38_method_14_code 3 = .ok (.invokevirtual 186, 3) := by decide +kernel
theorem d9_0 : decode jdk_42_method_79_code 0 = .ok (.aload_n 0, 1) := by decide +kernel
theorem d9_1 : decode jdk_42_method_79_code 1 = .ok (.iload_n 1, 1) := by decide +kernel
theorem d9_2 : decode jdk_42_method_79_code 2 = .ok (.iconst 0, 1) := by decide +kernel
theorem d9_3 : decode jdk_42_method_79_code 3 = .ok (.invokevirtual 633, 3) := by decide +kernel
theorem d10_0 : decode jdk_42_method_80_code 0 = .ok (.aload_n 0, 1) := by decide +kernel
theorem d10_1 : decode jdk_42_method_80_code 1 = .ok (.invokevirtual 492, 3) := by decide +kernel
theorem d11_0 : decode jdk_42_method_154_code 0 = .ok (.getstatic 38, 3) := by decide +kernel
theorem d11_3 : decode jdk_42_method_154_code 3 = .ok (.ifCond .eq 14, 3) := by decide +kernel
theorem d11_6 : decode jdk_42_method_154_code 6 = .ok (.aload_n 0, 1) := by decide +kernel
theorem d11_7 : decode jdk_42_method_154_code 7 = .ok (.getfield 15, 3) := by decide +kernel
theorem d11_10 : decode jdk_42_method_154_code 10 = .ok (.ifCond .ne 7, 3) := by decide +kernel
theorem d11_13 : decode jdk_42_method_154_code 13 = .ok (.iconst 1, 1) := by decide +kernel
theorem d11_14 : decode jdk_42_method_154_code 14 = .ok (.goto 4, 3) := by decide +kernel
theorem d11_18 : decode jdk_42_method_154_code 18 = .ok (.ireturn, 1) := by decide +kernel
def N_jdk_42_m_154 : MethodName := ⟨"java/lang/String", "isLatin1", "()Z"⟩
def R_rm11 : Room := { frames := 0, cells := 0, slots := 0, locals := 0 }
theorem rm11 (G : Glob Z a0 iCS vSI) (q0 q1 : Addr) (kp0 : ClassId) (h0 : Heap) (Z0 : n0 ≤ h0.size) (O0 : Old Z n0 h0) (F_q0_coder : Fld Z h0 q0 "java/lang/String" "coder" "B" (.int 0)) : MetH l Z EL0 n0 N_jdk_42_m_154 jdk_42_method_154_code 1 (some .boolean) [] R_rm11 #[.ref q0] h0 [] (fun vs v h ve => (v = some (.int 1) ∧ (h0 = h))) := by
  refine MetH.of #[.val (.ref q0)] (plainFor_of_name pn_java_lang_String) rfl Z0 (fun p e s m below meth c T0 hret hml hnm hSL hs0 X0 => ?_)
  refine kGETS X0 (wd G 31 rfl) Via.refl (Sta.ext O0.2 (S_CS G)) d11_0 (fun T1 X2 => ?_)
  refine kIFf X2 d11_3 (XT.i0_eq_f (n_CS G)) ?_
  refine kALn X2 d11_6 rfl rfl ?_
  refine kGETF X2 (wd G 27 rfl) Via.refl F_q0_coder d11_7 (fun T3 X4 => ?_)
  refine kIFf X4 d11_10 (XT.i0_ne_f (by decide)) ?_
  refine kIC X4 1 d11_13 (by decide) ?_
  refine kGOTO X4 18 d11_14 (by decide) ?_
  exact kRETZ X4 (gEL G) (t := .boolean) hret (by simp) d11_18 (fun ve hve => ⟨rfl, rfl⟩) (by decide)
theorem pd___Z : parseMethodDescriptor "()Z" = some ⟨[], some .boolean⟩ := by decide +kernel
theorem d10_4 : decode jdk_42_method_80_code 4 = .ok (.ifCond .eq 19, 3) := by decide +kernel
theorem d10_7 : decode jdk_42_method_80_code 7 = .ok (.aload_n 0, 1) := by decide +kernel
theorem d10_8 : decode jdk_42_method_80_code 8 = .ok (.getfield 9, 3) := by decide +kernel
theorem d10_11 : decode jdk_42_method_80_code 11 = .ok (.iload_n 1, 1) := by decide +kernel
theorem d10_12 : decode jdk_42_method_80_code 12 = .ok (.iload_n 2, 1) := by decide +kernel
theorem d10_13 : decode jdk_42_method_80_code 13 = .ok (.aload_n 0, 1) := by decide +kernel
theorem d10_14 : decode jdk_42_method_80_code 14 = .ok (.invokevirtual 505, 3) := by decide +kernel
theorem d12_0 : decode jdk_42_method_54_code 0 = .ok (.aload_n 0, 1) := by decide +kernel
theorem d12_1 : decode jdk_42_method_54_code 1 = .ok (.getfield 9, 3) := by decide +kernel
theorem d12_4 : decode jdk_42_method_54_code 4 = .ok (.arraylength, 1) := by decide +kernel
theorem d12_5 : decode jdk_42_method_54_code 5 = .ok (.aload_n 0, 1) := by decide +kernel
theorem d12_6 : decode jdk_42_method_54_code 6 = .ok (.invokevirtual 335, 3) := by decide +kernel
theorem d13_0 : decode jdk_42_method_152_code 0 = .ok (.getstatic 38, 3) := by decide +kernel
theorem d13_3 : decode jdk_42_method_152_code 3 = .ok (.ifCond .eq 10, 3) := by decide +kernel
theorem d13_6 : decode jdk_42_method_152_code 6 = .ok (.aload_n 0, 1) := by decide +kernel
theorem d13_7 : decode jdk_42_method_152_code 7 = .ok (.getfield 15, 3) := by decide +kernel
theorem d13_10 : decode jdk_42_method_152_code 10 = .ok (.goto 4, 3) := by decide +kernel
theorem d13_14 : decode jdk_42_method_152_code 14 = .ok (.ireturn, 1) := by decide +kernel
def N_jdk_42_m_152 : MethodName := ⟨"java/lang/String", "coder", "()B"⟩
def R_rm13 : Room := { frames := 0, cells := 0, slots := 0, locals := 0 }
theorem rm13 (G : Glob Z a0 iCS vSI) (q0 q1 : Addr) (kp0 : ClassId) (h0 : Heap) (Z0 : n0 ≤ h0.size) (O0 : Old Z n0 h0) (F_q0_coder : Fld Z h0 q0 "java/lang/String" "coder" "B" (.int 0)) : MetH l Z EL0 n0 N_jdk_42_m_152 jdk_42_method_152_code 1 (some .byte) [] R_rm13 #[.ref q0] h0 [] (fun vs v h ve => (v = some (.int 0) ∧ (h0 = h))) := by
  refine MetH.of #[.val (.ref q0)] (plainFor_of_name pn_java_lang_String) rfl Z0 (fun p e s m below meth c T0 hret hml hnm hSL hs0 X0 => ?_)
  refine kGETS X0 (wd G 31 rfl) Via.refl (Sta.ext O0.2 (S_CS G)) d13_0 (fun T1 X2 => ?_)
  refine kIFf X2 d13_3 (XT.i0_eq_f (n_CS G)) ?_
  refine kALn X2 d13_6 rfl rfl ?_
  refine kGETF X2 (wd G 27 rfl) Via.refl F_q0_coder d13_7 (fun T3 X4 => ?_)
  refine kGOTO X4 14 d13_10 (by decide) ?_
  exact kRETZ X4 (gEL G) (t := .byte) hret (by simp) d13_14 (fun ve hve => ⟨rfl, rfl⟩) (by decide)
theorem pd___B : parseMethodDescriptor "()B" = some ⟨[], some .byte⟩ := by decide +kernel
theorem d12_9 : decode jdk_42_method_54_code 9 = .ok (.ishr, 1) := by decide +kernel
theorem d12_10 : decode jdk_42_method_54_code 10 = .ok (.ireturn, 1) := by decide +kernel
def N_jdk_42_m_54 : MethodName := ⟨"java/lang/String", "length", "()I"⟩
def R_rm12 : Room := { frames := 1, cells := 0, slots := 0, locals := 13 }
theorem rm12 (G : Glob Z a0 iCS vSI) (q0 q1 : Addr) (kp0 : ClassId) (h0 : Heap) (Z0 : n0 ≤ h0.size) (O0 : Old Z n0 h0) (F_q0_value : Fld Z h0 q0 "java/lang/String" "value" "[B" (.ref q1)) (A_q1 : Arv Z h0 q1 kp0 .byte 0 [] (.int 0)) (F_q0_coder : Fld Z h0 q0 "java/lang/String" "coder" "B" (.int 0)) (E_q0 : Exa Z h0 q0 "java/lang/String") : MetH l Z EL0 n0 N_jdk_42_m_54 jdk_42_method_54_code 1 (some .int) [] R_rm12 #[.ref q0] h0 [] (fun vs v h ve => (v = some (.int 0) ∧ (h0 = h))) := by
  refine MetH.of #[.val (.ref q0)] (plainFor_of_name pn_java_lang_String) rfl Z0 (fun p e s m below meth c T0 hret hml hnm hSL hs0 X0 => ?_)
  refine kALn X0 d12_0 rfl rfl ?_
  refine kGETF X0 (wd G 26 rfl) Via.refl F_q0_value d12_1 (fun T1 X2 => ?_)
  refine kLEN X2 A_q1 d12_4 ?_
  refine kALn X2 d12_5 rfl rfl ?_
  refine kVIRT X2 (gEL G) (argsL := []) (rest := [.int 0]) (wd G 68 rfl) (wd G 69 rfl) (own_nf X2.hZ (own_noinst (wd G 7 rfl))) (wd G 71 rfl) (wd G 70 rfl) (wd G 8 rfl) (wd G 72 rfl) (by decide) E_q0 (rm13 G q0 q1 kp0 h0 X2.n O0 F_q0_coder) all0 (lenOf pd___B rfl) rfl 1 rfl (by decide) hml.symm d12_6 (fun v3 T4 h5 vm6 _ w7 q8 C9 C10 X11 => ?_)
  obtain ⟨e13, f14⟩ := q8
  subst e13
  subst f14
  show Go _ _ _ _ _ (mkF _ _ _ [.int 0, .int 0])
  refine kISHR X11 0 d12_9 (by decide) ?_
  exact kRETI X11 (gEL G) hret d12_10 (fun ve hve => ⟨rfl, rfl⟩) (by decide)
theorem pd___I : parseMethodDescriptor "()I" = some ⟨[], some .int⟩ := by decide +kernel
theorem d10_17 : decode jdk_42_method_80_code 17 = .ok (.invokestatic 637, 3) := by decide +kernel
theorem d14_0 : decode jdk_43_method_22_code 0 = .ok (.iload_n 1, 1) := by decide +kernel
theorem d14_1 : decode jdk_43_method_22_code 1 = .ok (.invokestatic 88, 3) := by decide +kernel
theorem d15_0 : decode jdk_43_method_4_code 0 = .ok (.iload_n 0, 1) := by decide +kernel
theorem d15_1 : decode jdk_43_method_4_code 1 = .ok (.ifCond .lt 14, 3) := by decide +kernel
theorem d15_4 : decode jdk_43_method_4_code 4 = .ok (.iload_n 0, 1) := by decide +kernel
theorem d15_5 : decode jdk_43_method_4_code 5 = .ok (.sipush 255, 3) := by decide +kernel
theorem d15_8 : decode jdk_43_method_4_code 8 = .ok (.if_icmp .gt 7, 3) := by decide +kernel
theorem d15_15 : decode jdk_43_method_4_code 15 = .ok (.iconst 0, 1) := by decide +kernel
theorem d15_16 : decode jdk_43_method_4_code 16 = .ok (.ireturn, 1) := by decide +kernel
def N_jdk_43_m_4 : MethodName := ⟨"java/lang/StringLatin1", "canEncode", "(I)Z"⟩
def R_rm15 : Room := { frames := 0, cells := 0, slots := 0, locals := 0 }
theorem rm15 (G : Glob Z a0 iCS vSI)  (h0 : Heap) (Z0 : n0 ≤ h0.size) (O0 : Old Z n0 h0)  : MetH l Z EL0 n0 N_jdk_43_m_4 jdk_43_method_4_code 1 (some .boolean) [] R_rm15 #[.int 65533] h0 [] (fun vs v h ve => (v = some (.int 0) ∧ (h0 = h))) := by
  refine MetH.of #[.val (.int 65533)] (plainFor_of_name pn_java_lang_StringLatin1) rfl Z0 (fun p e s m below meth c T0 hret hml hnm hSL hs0 X0 => ?_)
  refine kILn X0 d15_0 rfl ?_
  refine kIFf X0 d15_1 (XT.i0_lt_f (by decide)) ?_
  refine kILn X0 d15_4 rfl ?_
  refine kSI X0 255 d15_5 (by decide) ?_
  refine kICt X0 15 d15_8 (XT.ii_gt_t (by decide)) (by decide) ?_
  refine kIC X0 0 d15_15 (by decide) ?_
  exact kRETZ X0 (gEL G) (t := .boolean) hret (by simp) d15_16 (fun ve hve => ⟨rfl, rfl⟩) (by decide)
theorem pd__I_Z : parseMethodDescriptor "(I)Z" = some ⟨[.int], some .boolean⟩ := by decide +kernel
theorem d14_4 : decode jdk_43_method_22_code 4 = .ok (.ifCond .ne 5, 3) := by decide +kernel
theorem d14_7 : decode jdk_43_method_22_code 7 = .ok (.iconst (-1), 1) := by decide +kernel
theorem d14_8 : decode jdk_43_method_22_code 8 = .ok (.ireturn, 1) := by decide +kernel
def N_jdk_43_m_22 : MethodName := ⟨"java/lang/StringLatin1", "indexOf", "([BIII)I"⟩
def R_rm14 : Room := { frames := 1, cells := 0, slots := 0, locals := 12 }
theorem rm14 (G : Glob Z a0 iCS vSI) (q0 : Addr) (kp0 : ClassId) (h0 : Heap) (Z0 : n0 ≤ h0.size) (O0 : Old Z n0 h0)  : MetH l Z EL0 n0 N_jdk_43_m_22 jdk_43_method_22_code 4 (some .int) [] R_rm14 #[.ref q0, .int 65533, .int 0, .int 0] h0 [] (fun vs v h ve => (v = some (.int (-1)) ∧ (h0 = h))) := by
  refine MetH.of #[.val (.ref q0), .val (.int 65533), .val (.int 0), .val (.int 0)] (plainFor_of_name pn_java_lang_StringLatin1) rfl Z0 (fun p e s m below meth c T0 hret hml hnm hSL hs0 X0 => ?_)
  refine kILn X0 d14_0 rfl ?_
  refine kSTAT X0 (gEL G) (argsL := [.int 65533]) (rest := []) (wd G 76 rfl) (wd G 77 rfl) (wd G 34 rfl) (wd G 78 rfl) (by decide) (rm15 G  h0 X0.n O0 ) all0 (lenOf pd__I_Z rfl) rfl 0 rfl (by decide) hml.symm d14_1 (fun v1 T2 h3 vm4 _ w5 q6 C7 C8 X9 => ?_)
  obtain ⟨e11, f12⟩ := q6
  subst e11
  subst f12
  show Go _ _ _ _ _ (mkF _ _ _ [.int 0])
  refine kIFf X9 d14_4 (XT.i0_ne_f (by decide)) ?_
  refine kIC X9 (-1) d14_7 (by decide) ?_
  exact kRETI X9 (gEL G) hret d14_8 (fun ve hve => ⟨rfl, rfl⟩) (by decide)
theorem pd___BIII_I : parseMethodDescriptor "([BIII)I" = some ⟨[.array (.byte), .int, .int, .int], some .int⟩ := by decide +kernel
theorem d10_20 : decode jdk_42_method_80_code 20 = .ok (.goto 16, 3) := by decide +kernel
theorem d10_36 : decode jdk_42_method_80_code 36 = .ok (.ireturn, 1) := by decide +kernel
def N_jdk_42_m_80 : MethodName := ⟨"java/lang/String", "indexOf", "(II)I"⟩
def R_rm10 : Room := { frames := 2, cells := 0, slots := 0, locals := 28 }
theorem rm10 (G : Glob Z a0 iCS vSI) (q0 q1 : Addr) (kp0 : ClassId) (h0 : Heap) (Z0 : n0 ≤ h0.size) (O0 : Old Z n0 h0) (F_q0_coder : Fld Z h0 q0 "java/lang/String" "coder" "B" (.int 0)) (E_q0 : Exa Z h0 q0 "java/lang/String") (F_q0_value : Fld Z h0 q0 "java/lang/String" "value" "[B" (.ref q1)) (A_q1 : Arv Z h0 q1 kp0 .byte 0 [] (.int 0)) : MetH l Z EL0 n0 N_jdk_42_m_80 jdk_42_method_80_code 3 (some .int) [] R_rm10 #[.ref q0, .int 65533, .int 0] h0 [] (fun vs v h ve => (v = some (.int (-1)) ∧ (h0 = h))) := by
  refine MetH.of #[.val (.ref q0), .val (.int 65533), .val (.int 0)] (plainFor_of_name pn_java_lang_String) rfl Z0 (fun p e s m below meth c T0 hret hml hnm hSL hs0 X0 => ?_)
  refine kALn X0 d10_0 rfl rfl ?_
  refine kVIRT X0 (gEL G) (argsL := []) (rest := []) (wd G 58 rfl) (wd G 59 rfl) (own_nf X0.hZ (own_noinst (wd G 7 rfl))) (wd G 61 rfl) (wd G 60 rfl) (wd G 8 rfl) (wd G 62 rfl) (by decide) E_q0 (rm11 G q0 q1 kp0 h0 X0.n O0 F_q0_coder) all0 (lenOf pd___Z rfl) rfl 0 rfl (by decide) hml.symm d10_1 (fun v1 T2 h3 vm4 _ w5 q6 C7 C8 X9 => ?_)
  obtain ⟨e11, f12⟩ := q6
  subst e11
  subst f12
  show Go _ _ _ _ _ (mkF _ _ _ [.int 1])
  refine kIFf X9 d10_4 (XT.i0_eq_f (by decide)) ?_
  refine kALn X9 d10_7 rfl rfl ?_
  refine kGETF X9 (wd G 26 rfl) Via.refl F_q0_value d10_8 (fun T13 X14 => ?_)
  refine kILn X14 d10_11 rfl ?_
  refine kILn X14 d10_12 rfl ?_
  refine kALn X14 d10_13 rfl rfl ?_
  refine kVIRT X14 (gEL G) (argsL := []) (rest := [.int 0, .int 65533, .ref q1]) (wd G 63 rfl) (wd G 64 rfl) (own_nf X14.hZ (own_noinst (wd G 7 rfl))) (wd G 66 rfl) (wd G 65 rfl) (wd G 8 rfl) (wd G 67 rfl) (by decide) E_q0 (rm12 G q0 q1 kp0 h0 X14.n O0 F_q0_value A_q1 F_q0_coder E_q0) all0 (lenOf pd___I rfl) rfl 3 rfl (by decide) hml.symm d10_14 (fun v15 T16 h17 vm18 _ w19 q20 C21 C22 X23 => ?_)
  obtain ⟨e25, f26⟩ := q20
  subst e25
  subst f26
  show Go _ _ _ _ _ (mkF _ _ _ [.int 0, .int 0, .int 65533, .ref q1])
  refine kSTAT X23 (gEL G) (argsL := [.ref q1, .int 65533, .int 0, .int 0]) (rest := []) (wd G 73 rfl) (wd G 74 rfl) (wd G 34 rfl) (wd G 75 rfl) (by decide) (rm14 G q1 kp0 h0 X23.n O0 ) all0 (lenOf pd___BIII_I rfl) rfl 0 rfl (by decide) hml.symm d10_17 (fun v27 T28 h29 vm30 _ w31 q32 C33 C34 X35 => ?_)
  obtain ⟨e37, f38⟩ := q32
  subst e37
  subst f38
  show Go _ _ _ _ _ (mkF _ _ _ [.int (-1)])
  refine kGOTO X35 36 d10_20 (by decide) ?_
  exact kRETI X35 (gEL G) hret d10_36 (fun ve hve => ⟨rfl, rfl⟩) (by decide)
theorem pd__II_I : parseMethodDescriptor "(II)I" = some ⟨[.int, .int], some .int⟩ := by decide +kernel
theorem d9_6 : decode jdk_42_method_79_code 6 = .ok (.ireturn, 1) := by decide +kernel
def N_jdk_42_m_79 : MethodName := ⟨"java/lang/String", "indexOf", "(I)I"⟩
def R_rm9 : Room := { frames := 3, cells := 0, slots := 0, locals := 42 }
theorem rm9 (G : Glob Z a0 iCS vSI) (q0 q1 : Addr) (kp0 : ClassId) (h0 : Heap) (Z0 : n0 ≤ h0.size) (O0 : Old Z n0 h0) (F_q0_coder : Fld Z h0 q0 "java/lang/String" "coder" "B" (.int 0)) (E_q0 : Exa Z h0 q0 "java/lang/String") (F_q0_value : Fld Z h0 q0 "java/lang/String" "value" "[B" (.ref q1)) (A_q1 : Arv Z h0 q1 kp0 .byte 0 [] (.int 0)) : MetH l Z EL0 n0 N_jdk_42_m_79 jdk_42_method_79_code 2 (some .int) [] R_rm9 #[.ref q0, .int 65533] h0 [] (fun vs v h ve => (v = some (.int (-1)) ∧ (h0 = h))) := by
  refine MetH.of #[.val (.ref q0), .val (.int 65533)] (plainFor_of_name pn_java_lang_String) rfl Z0 (fun p e s m below meth c T0 hret hml hnm hSL hs0 X0 => ?_)
  refine kALn X0 d9_0 rfl rfl ?_
  refine kILn X0 d9_1 rfl ?_
  refine kIC X0 0 d9_2 (by decide) ?_
  refine kVIRT X0 (gEL G) (argsL := [.int 65533, .int 0]) (rest := []) (wd G 53 rfl) (wd G 54 rfl) (own_nf X0.hZ (own_noinst (wd G 7 rfl))) (wd G 56 rfl) (wd G 55 rfl) (wd G 8 rfl) (wd G 57 rfl) (by decide) E_q0 (rm10 G q0 q1 kp0 h0 X0.n O0 F_q0_coder E_q0 F_q0_value A_q1) all0 (lenOf pd__II_I rfl) rfl 0 rfl (by decide) hml.symm d9_3 (fun v1 T2 h3 vm4 _ w5 q6 C7 C8 X9 => ?_)
  obtain ⟨e11, f12⟩ := q6
  subst e11
  subst f12
  show Go _ _ _ _ _ (mkF _ _ _ [.int (-1)])
  exact kRETI X9 (gEL G) hret d9_6 (fun ve hve => ⟨rfl, rfl⟩) (by decide)
theorem pn_com_example_evoke_evoke_Options : plainName "com/example/evoke/evoke/Options" = true := by first | (simp [plainName, overriddenIn]; done) | decide +kernel
theorem pd__I_I : parseMethodDescriptor "(I)I" = some ⟨[.int], some .int⟩ := by decide +kernel
theorem d8_6 : decode prog_38_method_14_code 6 = .ok (.ifCond .lt 23, 3) := by decide +kernel
theorem d8_29 : decode prog_38_method_14_code 29 = .ok (.return_, 1) := by decide +kernel
def N_prog_38_m_14 : MethodName := ⟨"com/example/evoke/evoke/Options", "requireDecoded", "(Ljava/lang/String;Ljava/lang/String;)V"⟩
def R_rm8 : Room := { frames := 4, cells := 0, slots := 0, locals := 55 }
theorem rm8 (G : Glob Z a0 iCS vSI) (i0 : Int32) (q0 q1 q2 q3 : Addr) (kp0 kp1 : ClassId) (h0 : Heap) (Z0 : n0 ≤ h0.size) (O0 : Old Z n0 h0) (F_q0_coder : Fld Z h0 q0 "java/lang/String" "coder" "B" (.int 0)) (E_q0 : Exa Z h0 q0 "java/lang/String") (F_q0_value : Fld Z h0 q0 "java/lang/String" "value" "[B" (.ref q2)) (A_q2 : Arv Z h0 q2 kp0 .byte 0 [] (.int 0)) : MetH l Z EL0 n0 N_prog_38_m_14 prog_38_method_14_code 2 none [] R_rm8 #[.ref q0, .ref q1] h0 [] (fun vs v h ve => (v = none ∧ (h0 = h))) := by
  refine MetH.of #[.val (.ref q0), .val (.ref q1)] (plainFor_of_name pn_com_example_evoke_evoke_Options) rfl Z0 (fun p e s m below meth c T0 hret hml hnm hSL hs0 X0 => ?_)
  refine kALn X0 d8_0 rfl rfl ?_
  refine kLDCI X0 (wd G 47 rfl) d8_1 ?_
  refine kVIRT X0 (gEL G) (argsL := [.int 65533]) (rest := []) (wd G 48 rfl) (wd G 49 rfl) (own_nf X0.hZ (own_noinst (wd G 7 rfl))) (wd G 51 rfl) (wd G 50 rfl) (wd G 8 rfl) (wd G 52 rfl) (by decide) E_q0 (rm9 G q0 q2 kp0 h0 X0.n O0 F_q0_coder E_q0 F_q0_value A_q2) all0 (lenOf pd__I_I rfl) rfl 0 rfl (by decide) hml.symm d8_3 (fun v1 T2 h3 vm4 _ w5 q6 C7 C8 X9 => ?_)
  obtain ⟨e11, f12⟩ := q6
  subst e11
  subst f12
  show Go _ _ _ _ _ (mkF _ _ _ [.int (-1)])
  refine kIFt X9 29 d8_6 (XT.i0_lt_t (by decide)) (by decide) ?_
  exact kRETV X9 (gEL G) hret d8_29 (fun ve hve => ⟨rfl, rfl⟩) (by decide)
theorem pn_java_lang_StringUTF16 : plainName "java/lang/StringUTF16" = true := by first | (simp [plainName, overriddenIn]; done) | decide +kernel
theorem pd__Ljava_lang_String_Ljava_lang_String__V : parseMethodDescriptor "(Ljava/lang/String;Ljava/lang/String;)V" = some ⟨[.object "java/lang/String", .object "java/lang/String"], none⟩ := by decide +kernel
theorem d2_27 : decode jdk_42_method_149_code 27 = .ok (.getstatic 38, 3) := by decide +kernel
theorem d2_30 : decode jdk_42_method_149_code 30 = .ok (.ifCond .eq 28, 3) := by decide +kernel
theorem d2_33 : decode jdk_42_method_149_code 33 = .ok (.aload_n 1, 1) := by decide +kernel
theorem d2_34 : decode jdk_42_method_149_code 34 = .ok (.iload_n 2, 1) := by decide +kernel
theorem d2_35 : decode jdk_42_method_149_code 35 = .ok (.iload_n 3, 1) := by decide +kernel
theorem d2_36 : decode jdk_42_method_149_code 36 = .ok (.invokestatic 177, 3) := by decide +kernel
theorem d16_0 : decode jdk_52_method_16_code 0 = .ok (.iload_n 2, 1) := by decide +kernel
theorem d16_1 : decode jdk_52_method_16_code 1 = .ok (.newarray .byte, 2) := by decide +kernel
theorem d16_3 : decode jdk_52_method_16_code 3 = .ok (.astore_n 3, 1) := by decide +kernel
theorem d16_4 : decode jdk_52_method_16_code 4 = .ok (.aload_n 0, 1) := by decide +kernel
theorem d16_5 : decode jdk_52_method_16_code 5 = .ok (.iload_n 1, 1) := by decide +kernel
theorem d16_6 : decode jdk_52_method_16_code 6 = .ok (.aload_n 3, 1) := by decide +kernel
theorem d16_7 : decode jdk_52_method_16_code 7 = .ok (.iconst 0, 1) := by decide +kernel
theorem d16_8 : decode jdk_52_method_16_code 8 = .ok (.iload_n 2, 1) := by decide +kernel
theorem d16_9 : decode jdk_52_method_16_code 9 = .ok (.invokestatic 115, 3) := by decide +kernel
theorem d17_0 : decode jdk_52_method_21_code 0 = .ok (.iconst 0, 1) := by decide +kernel
theorem d17_1 : decode jdk_52_method_21_code 1 = .ok (.istore 5, 2) := by decide +kernel
theorem d17_3 : decode jdk_52_method_21_code 3 = .ok (.iload 5, 2) := by decide +kernel
theorem d17_5 : decode jdk_52_method_21_code 5 = .ok (.iload 4, 2) := by decide +kernel
theorem d17_7 : decode jdk_52_method_21_code 7 = .ok (.if_icmp .ge 37, 3) := by decide +kernel
theorem d17_10 : decode jdk_52_method_21_code 10 = .ok (.aload_n 0, 1) := by decide +kernel
theorem d17_11 : decode jdk_52_method_21_code 11 = .ok (.iload_n 1, 1) := by decide +kernel
theorem d17_12 : decode jdk_52_method_21_code 12 = .ok (.caload, 1) := by decide +kernel
theorem d17_13 : decode jdk_52_method_21_code 13 = .ok (.istore 6, 2) := by decide +kernel
theorem d17_15 : decode jdk_52_method_21_code 15 = .ok (.iload 6, 2) := by decide +kernel
theorem d17_17 : decode jdk_52_method_21_code 17 = .ok (.sipush 255, 3) := by decide +kernel
theorem d17_20 : decode jdk_52_method_21_code 20 = .ok (.if_icmp .le 6, 3) := by decide +kernel
theorem d17_23 : decode jdk_52_method_21_code 23 = .ok (.iload 5, 2) := by decide +kernel
theorem d17_25 : decode jdk_52_method_21_code 25 = .ok (.ireturn, 1) := by decide +kernel
theorem d17_26 : decode jdk_52_method_21_code 26 = .ok (.aload_n 2, 1) := by decide +kernel
theorem d17_27 : decode jdk_52_method_21_code 27 = .ok (.iload_n 3, 1) := by decide +kernel
theorem d17_28 : decode jdk_52_method_21_code 28 = .ok (.iload 6, 2) := by decide +kernel
theorem d17_30 : decode jdk_52_method_21_code 30 = .ok (.i2b, 1) := by decide +kernel
theorem d17_31 : decode jdk_52_method_21_code 31 = .ok (.bastore, 1) := by decide +kernel
theorem d17_32 : decode jdk_52_method_21_code 32 = .ok (.iinc 1 1, 3) := by decide +kernel
theorem d17_35 : decode jdk_52_method_21_code 35 = .ok (.iinc 3 1, 3) := by decide +kernel
theorem d17_38 : decode jdk_52_method_21_code 38 = .ok (.iinc 5 1, 3) := by decide +kernel
theorem d17_41 : decode jdk_52_method_21_code 41 = .ok (.goto (-38), 3) := by decide +kernel
theorem d17_44 : decode jdk_52_method_21_code 44 = .ok (.iload 4, 2) := by decide +kernel
theorem d17_46 : decode jdk_52_method_21_code 46 = .ok (.ireturn, 1) := by decide +kernel
def N_jdk_52_m_21 : MethodName := ⟨"java/lang/StringUTF16", "compress", "([CI[BII)I"⟩
def R_rm19 : Room := { frames := 0, cells := 0, slots := 0, locals := 0 }
theorem rm19 (G : Glob Z a0 iCS vSI) (i0 : Int32) (q0 q1 : Addr) (kp0 kp1 : ClassId) (h0 : Heap) (Z0 : n0 ≤ h0.size) (O0 : Old Z n0 h0) (A_q0 : Arv Z h0 q0 kp0 .char 1 [.int i0] (.int 0)) (A_q1 : Arv Z h0 q1 kp1 .byte 1 [.int 0] (.int 0)) (g_q1 : n0 ≤ q1) : MetH l Z EL0 n0 N_jdk_52_m_21 jdk_52_method_21_code 7 (some .int) [] R_rm19 #[.ref q0, .int 0, .ref q1, .int 0, .int 1] h0 [q1] (fun vs v h ve => (v = some (.int 0) ∧ ((255 : Int32) < i0) ∧ (h0 = h)) ∨ (v = some (.int 1) ∧ (¬ (255 : Int32) < i0) ∧ (Keep h0 h [q1]) ∧ (Arv Z h q1 kp1 .byte 1 [.int (ownB i0)] (.int 0)))) := by
  refine MetH.of #[.val (.ref q0), .val (.int 0), .val (.ref q1), .val (.int 0), .val (.int 1), .unset, .unset] (plainFor_of_name pn_java_lang_StringUTF16) rfl Z0 (fun p e s m below meth c T0 hret hml hnm hSL hs0 X0 => ?_)
  have S_q1 := hSL q1 (List.mem_of_getElem? (i := 0) rfl)
  refine kIC X0 0 d17_0 (by decide) ?_
  refine kIS X0 #[.val (.ref q0), .val (.int 0), .val (.ref q1), .val (.int 0), .val (.int 1), .val (.int 0), .unset] d17_1 rfl ?_
  refine kIL X0 d17_3 rfl ?_
  refine kIL X0 d17_5 rfl ?_
  refine kICf X0 d17_7 (XT.ii_ge_f (by decide)) ?_
  refine kALn X0 d17_10 rfl rfl ?_
  refine kILn X0 d17_11 rfl ?_
  refine kCALD X0 (.int i0) A_q0 (by decide) rfl d17_12 ?_
  refine kIS X0 #[.val (.ref q0), .val (.int 0), .val (.ref q1), .val (.int 0), .val (.int 1), .val (.int 0), .val (.int i0)] d17_13 rfl ?_
  refine kIL X0 d17_15 rfl ?_
  refine kSI X0 255 d17_17 (by decide) ?_
  by_cases c1 : (255 : Int32) < i0
  · refine kICf X0 d17_20 (XT.ii_le_f c1) ?_
    refine kIL X0 d17_23 rfl ?_
    exact kRETI X0 (gEL G) hret d17_25 (fun ve hve => Or.inl (⟨rfl, c1, rfl⟩)) (by decide)
  · refine kICt X0 26 d17_20 (XT.ii_le_t c1) (by decide) ?_
    refine kALn X0 d17_26 rfl rfl ?_
    refine kILn X0 d17_27 rfl ?_
    refine kIL X0 d17_28 rfl ?_
    refine kI2B X0 (ownB i0) d17_30 rfl ?_
    refine kBASTO X0 A_q1 (by decide) 0 (ownB i0) (own_nb _) (by decide) (by show 0 < 1; decide) g_q1 S_q1 d17_31 (fun T2 h3 L5 W6 f7 X4 => ?_)
    have f8 : Arv Z h3 q1 kp1 .byte 1 [.int (ownB i0)] (.int 0) := f7
    refine kIINC X4 (1 : Int32) (1 : Int32) #[.val (.ref q0), .val (.int 1), .val (.ref q1), .val (.int 0), .val (.int 1), .val (.int 0), .val (.int i0)] d17_32 (by decide) rfl (by decide) rfl ?_
    refine kIINC X4 (1 : Int32) (1 : Int32) #[.val (.ref q0), .val (.int 1), .val (.ref q1), .val (.int 1), .val (.int 1), .val (.int 0), .val (.int i0)] d17_35 (by decide) rfl (by decide) rfl ?_
    refine kIINC X4 (1 : Int32) (1 : Int32) #[.val (.ref q0), .val (.int 1), .val (.ref q1), .val (.int 1), .val (.int 1), .val (.int 1), .val (.int i0)] d17_38 (by decide) rfl (by decide) rfl ?_
    refine kGOTO X4 3 d17_41 (by decide) ?_
    refine kIL X4 d17_3 rfl ?_
    refine kIL X4 d17_5 rfl ?_
    refine kICt X4 44 d17_7 (XT.ii_ge_t (by decide)) (by decide) ?_
    refine kIL X4 d17_44 rfl ?_
    have K9 : Keep h0 h3 [q1] := (Keep.wr (Keep.refl h0 [q1]) W6 (Or.inl (List.mem_of_getElem? (i := 0) rfl)))
    exact kRETI X4 (gEL G) hret d17_46 (fun ve hve => Or.inr (⟨rfl, c1, K9, f8⟩)) (by decide)
theorem pd___CI_BII_I : parseMethodDescriptor "([CI[BII)I" = some ⟨[.array (.char), .int, .array (.byte), .int, .int], some .int⟩ := by decide +kernel
theorem d16_12 : decode jdk_52_method_16_code 12 = .ok (.istore 4, 2) := by decide +kernel
theorem d16_14 : decode jdk_52_method_16_code 14 = .ok (.iload 4, 2) := by decide +kernel
theorem d16_16 : decode jdk_52_method_16_code 16 = .ok (.iload_n 2, 1) := by decide +kernel
theorem d16_17 : decode jdk_52_method_16_code 17 = .ok (.if_icmp .eq 40, 3) := by decide +kernel
theorem d16_20 : decode jdk_52_method_16_code 20 = .ok (.aload_n 0, 1) := by decide +kernel
theorem d16_21 : decode jdk_52_method_16_code 21 = .ok (.iload_n 1, 1) := by decide +kernel
theorem d16_22 : decode jdk_52_method_16_code 22 = .ok (.iload_n 2, 1) := by decide +kernel
theorem d16_23 : decode jdk_52_method_16_code 23 = .ok (.invokestatic 119, 3) := by decide +kernel
theorem d19_0 : decode jdk_52_method_14_code 0 = .ok (.iload_n 2, 1) := by decide +kernel
theorem d19_1 : decode jdk_52_method_14_code 1 = .ok (.invokestatic 107, 3) := by decide +kernel
theorem d20_0 : decode jdk_52_method_2_code 0 = .ok (.iload_n 0, 1) := by decide +kernel
theorem d20_1 : decode jdk_52_method_2_code 1 = .ok (.invokestatic 11, 3) := by decide +kernel
theorem d21_0 : decode jdk_52_method_3_code 0 = .ok (.iload_n 0, 1) := by decide +kernel
theorem d21_1 : decode jdk_52_method_3_code 1 = .ok (.ifCond .ge 11, 3) := by decide +kernel
theorem d21_12 : decode jdk_52_method_3_code 12 = .ok (.iload_n 0, 1) := by decide +kernel
theorem d21_13 : decode jdk_52_method_3_code 13 = .ok (.ldc 20, 2) := by decide +kernel
theorem d21_15 : decode jdk_52_method_3_code 15 = .ok (.if_icmp .lt 40, 3) := by decide +kernel
theorem d21_55 : decode jdk_52_method_3_code 55 = .ok (.iload_n 0, 1) := by decide +kernel
theorem d21_56 : decode jdk_52_method_3_code 56 = .ok (.iconst 1, 1) := by decide +kernel
theorem d21_57 : decode jdk_52_method_3_code 57 = .ok (.ishl, 1) := by decide +kernel
theorem d21_58 : decode jdk_52_method_3_code 58 = .ok (.ireturn, 1) := by decide +kernel
def N_jdk_52_m_3 : MethodName := ⟨"java/lang/StringUTF16", "newBytesLength", "(I)I"⟩
def R_rm22 : Room := { frames := 0, cells := 0, slots := 0, locals := 0 }
theorem rm22 (G : Glob Z a0 iCS vSI)  (h0 : Heap) (Z0 : n0 ≤ h0.size) (O0 : Old Z n0 h0)  : MetH l Z EL0 n0 N_jdk_52_m_3 jdk_52_method_3_code 1 (some .int) [] R_rm22 #[.int 1] h0 [] (fun vs v h ve => (v = some (.int 2) ∧ (h0 = h))) := by
  refine MetH.of #[.val (.int 1)] (plainFor_of_name pn_java_lang_StringUTF16) rfl Z0 (fun p e s m below meth c T0 hret hml hnm hSL hs0 X0 => ?_)
  refine kILn X0 d21_0 rfl ?_
  refine kIFt X0 12 d21_1 (XT.i0_ge_t (by decide)) (by decide) ?_
  refine kILn X0 d21_12 rfl ?_
  refine kLDCI X0 (wd G 98 rfl) d21_13 ?_
  refine kICt X0 55 d21_15 (XT.ii_lt_t (by decide)) (by decide) ?_
  refine kILn X0 d21_55 rfl ?_
  refine kIC X0 1 d21_56 (by decide) ?_
  refine kISHL X0 2 d21_57 (by decide) ?_
  exact kRETI X0 (gEL G) hret d21_58 (fun ve hve => ⟨rfl, rfl⟩) (by decide)
theorem d20_4 : decode jdk_52_method_2_code 4 = .ok (.newarray .byte, 2) := by decide +kernel
theorem d20_6 : decode jdk_52_method_2_code 6 = .ok (.areturn, 1) := by decide +kernel
def N_jdk_52_m_2 : MethodName := ⟨"java/lang/StringUTF16", "newBytesFor", "(I)[B"⟩
def R_rm21 : Room := { frames := 1, cells := 1, slots := 2, locals := 12 }
theorem rm21 (G : Glob Z a0 iCS vSI)  (h0 : Heap) (Z0 : n0 ≤ h0.size) (O0 : Old Z n0 h0)  : MetH l Z EL0 n0 N_jdk_52_m_2 jdk_52_method_2_code 1 (some (.array (.byte))) [] R_rm21 #[.int 1] h0 [] (fun vs v h ve => (∃ (x0 : Addr), ∃ (z0 : ClassId), v = some (.ref x0) ∧ (Keep h0 h []) ∧ (h0.size ≤ x0) ∧ (Arv Z h x0 z0 .byte 2 [.int 0, .int 0] (.int 0)) ∧ (Safe Z EL0 ve h x0))) := by
  refine MetH.of #[.val (.int 1)] (plainFor_of_name pn_java_lang_StringUTF16) rfl Z0 (fun p e s m below meth c T0 hret hml hnm hSL hs0 X0 => ?_)
  refine kILn X0 d20_0 rfl ?_
  refine kSTAT X0 (gEL G) (argsL := [.int 1]) (rest := []) (wd G 95 rfl) (wd G 96 rfl) (wd G 81 rfl) (wd G 97 rfl) (by decide) (rm22 G  h0 X0.n O0 ) all0 (lenOf pd__I_I rfl) rfl 0 rfl (by decide) hml.symm d20_1 (fun v1 T2 h3 vm4 _ w5 q6 C7 C8 X9 => ?_)
  obtain ⟨e11, f12⟩ := q6
  subst e11
  subst f12
  show Go _ _ _ _ _ (mkF _ _ _ [.int 2])
  refine kNEWP X9 (wd G 21 rfl) (cap := 2) d20_4 (by decide) (by decide) (by decide) (by decide) (by decide) (fun T13 h14 a16 k17 E18 q19 g20 A21 s22 X15 => ?_)
  have g23 : h0.size ≤ a16 := q19 ▸ X9.g0
  have f24 : Arv Z h14 a16 k17 .byte 2 [.int 0, .int 0] (.int 0) := A21.pad (pad_rep [] _ 2)
  have K25 : Keep h0 h14 [] := (Keep.ext (Keep.refl h0 []) E18)
  exact kRETA X15 (gEL G) hret rfl rfl d20_6 (fun ve hve => ⟨a16, k17, rfl, K25, g23, f24, (CHr.safe hve (f24.lt) s22)⟩) (by decide)
theorem pd__I__B : parseMethodDescriptor "(I)[B" = some ⟨[.int], some (.array (.byte))⟩ := by decide +kernel
theorem d19_4 : decode jdk_52_method_14_code 4 = .ok (.astore_n 3, 1) := by decide +kernel
theorem d19_5 : decode jdk_52_method_14_code 5 = .ok (.iconst 0, 1) := by decide +kernel
theorem d19_6 : decode jdk_52_method_14_code 6 = .ok (.istore 4, 2) := by decide +kernel
theorem d19_8 : decode jdk_52_method_14_code 8 = .ok (.iload 4, 2) := by decide +kernel
theorem d19_10 : decode jdk_52_method_14_code 10 = .ok (.iload_n 2, 1) := by decide +kernel
theorem d19_11 : decode jdk_52_method_14_code 11 = .ok (.if_icmp .ge 21, 3) := by decide +kernel
theorem d19_14 : decode jdk_52_method_14_code 14 = .ok (.aload_n 3, 1) := by decide +kernel
theorem d19_15 : decode jdk_52_method_14_code 15 = .ok (.iload 4, 2) := by decide +kernel
theorem d19_17 : decode jdk_52_method_14_code 17 = .ok (.aload_n 0, 1) := by decide +kernel
theorem d19_18 : decode jdk_52_method_14_code 18 = .ok (.iload_n 1, 1) := by decide +kernel
theorem d19_19 : decode jdk_52_method_14_code 19 = .ok (.caload, 1) := by decide +kernel
theorem d19_20 : decode jdk_52_method_14_code 20 = .ok (.invokestatic 111, 3) := by decide +kernel
theorem d22_0 : decode jdk_52_method_4_code 0 = .ok (.getstatic 44, 3) := by decide +kernel
theorem d22_3 : decode jdk_52_method_4_code 3 = .ok (.ifCond .ne 25, 3) := by decide +kernel
theorem d22_28 : decode jdk_52_method_4_code 28 = .ok (.iload_n 1, 1) := by decide +kernel
theorem d22_29 : decode jdk_52_method_4_code 29 = .ok (.iconst 1, 1) := by decide +kernel
theorem d22_30 : decode jdk_52_method_4_code 30 = .ok (.ishl, 1) := by decide +kernel
theorem d22_31 : decode jdk_52_method_4_code 31 = .ok (.istore_n 1, 1) := by decide +kernel
theorem d22_32 : decode jdk_52_method_4_code 32 = .ok (.aload_n 0, 1) := by decide +kernel
theorem d22_33 : decode jdk_52_method_4_code 33 = .ok (.iload_n 1, 1) := by decide +kernel
theorem d22_34 : decode jdk_52_method_4_code 34 = .ok (.iinc 1 1, 3) := by decide +kernel
theorem d22_37 : decode jdk_52_method_4_code 37 = .ok (.iload_n 2, 1) := by decide +kernel
theorem d22_38 : decode jdk_52_method_4_code 38 = .ok (.getstatic 59, 3) := by decide +kernel
theorem d22_41 : decode jdk_52_method_4_code 41 = .ok (.ishr, 1) := by decide +kernel
theorem d22_42 : decode jdk_52_method_4_code 42 = .ok (.i2b, 1) := by decide +kernel
theorem d22_43 : decode jdk_52_method_4_code 43 = .ok (.bastore, 1) := by decide +kernel
theorem d22_44 : decode jdk_52_method_4_code 44 = .ok (.aload_n 0, 1) := by decide +kernel
theorem d22_45 : decode jdk_52_method_4_code 45 = .ok (.iload_n 1, 1) := by decide +kernel
theorem d22_46 : decode jdk_52_method_4_code 46 = .ok (.iload_n 2, 1) := by decide +kernel
theorem d22_47 : decode jdk_52_method_4_code 47 = .ok (.getstatic 63, 3) := by decide +kernel
theorem d22_50 : decode jdk_52_method_4_code 50 = .ok (.ishr, 1) := by decide +kernel
theorem d22_51 : decode jdk_52_method_4_code 51 = .ok (.i2b, 1) := by decide +kernel
theorem d22_52 : decode jdk_52_method_4_code 52 = .ok (.bastore, 1) := by decide +kernel
theorem d22_53 : decode jdk_52_method_4_code 53 = .ok (.return_, 1) := by decide +kernel
def N_jdk_52_m_4 : MethodName := ⟨"java/lang/StringUTF16", "putChar", "([BII)V"⟩
def R_rm23 : Room := { frames := 0, cells := 0, slots := 0, locals := 0 }
theorem rm23 (G : Glob Z a0 iCS vSI) (i0 : Int32) (q0 : Addr) (kp0 : ClassId) (h0 : Heap) (Z0 : n0 ≤ h0.size) (O0 : Old Z n0 h0) (A_q0 : Arv Z h0 q0 kp0 .byte 2 [.int 0, .int 0] (.int 0)) (g_q0 : n0 ≤ q0) : MetH l Z EL0 n0 N_jdk_52_m_4 jdk_52_method_4_code 3 none [] R_rm23 #[.ref q0, .int 0, .int i0] h0 [q0] (fun vs v h ve => (v = none ∧ (Keep h0 h [q0]) ∧ (Arv Z h q0 kp0 .byte 2 [.int (ownB i0), .int (ownH i0)] (.int 0)))) := by
  refine MetH.of #[.val (.ref q0), .val (.int 0), .val (.int i0)] (plainFor_of_name pn_java_lang_StringUTF16) rfl Z0 (fun p e s m below meth c T0 hret hml hnm hSL hs0 X0 => ?_)
  have S_q0 := hSL q0 (List.mem_of_getElem? (i := 0) rfl)
  refine kGETS X0 (wd G 102 rfl) Via.refl (Sta.ext O0.2 (S_AD G)) d22_0 (fun T1 X2 => ?_)
  refine kIFt X2 28 d22_3 (XT.i0_ne_t (by decide)) (by decide) ?_
  refine kILn X2 d22_28 rfl ?_
  refine kIC X2 1 d22_29 (by decide) ?_
  refine kISHL X2 0 d22_30 (by decide) ?_
  refine kISn X2 #[.val (.ref q0), .val (.int 0), .val (.int i0)] d22_31 rfl ?_
  refine kALn X2 d22_32 rfl rfl ?_
  refine kILn X2 d22_33 rfl ?_
  refine kIINC X2 (1 : Int32) (1 : Int32) #[.val (.ref q0), .val (.int 1), .val (.int i0)] d22_34 (by decide) rfl (by decide) rfl ?_
  refine kILn X2 d22_37 rfl ?_
  refine kGETS X2 (wd G 103 rfl) Via.refl (Sta.ext O0.2 (S_HI G)) d22_38 (fun T3 X4 => ?_)
  refine kISHR X4 i0 d22_41 (own_sh0 _) ?_
  refine kI2B X4 (ownB i0) d22_42 rfl ?_
  refine kBASTO X4 A_q0 (by decide) 0 (ownB i0) (own_nb _) (by decide) (by show 0 < 2; decide) g_q0 S_q0 d22_43 (fun T5 h6 L8 W9 f10 X7 => ?_)
  have f11 : Arv Z h6 q0 kp0 .byte 2 [.int (ownB i0), .int 0] (.int 0) := f10
  refine kALn X7 d22_44 rfl rfl ?_
  refine kILn X7 d22_45 rfl ?_
  refine kILn X7 d22_46 rfl ?_
  have f14 := (Old.wr O0 W9 g_q0)
  refine kGETS X7 (wd G 104 rfl) Via.refl (Sta.ext f14.2 (S_LO G)) d22_47 (fun T12 X13 => ?_)
  refine kISHR X13 (i0 >>> ((8 : Int32) &&& 31)) d22_50 rfl ?_
  refine kI2B X13 (ownH i0) d22_51 rfl ?_
  have f15 := (Safe.wr W9 S_q0 X4.C.1 S_q0)
  refine kBASTO X13 f11 (by decide) 1 (ownH i0) (own_nh _) (by decide) (by show 1 < 2; decide) g_q0 f15 d22_52 (fun T16 h17 L19 W20 f21 X18 => ?_)
  have f22 : Arv Z h17 q0 kp0 .byte 2 [.int (ownB i0), .int (ownH i0)] (.int 0) := f21
  have K23 : Keep h0 h17 [q0] := (Keep.wr (Keep.wr (Keep.refl h0 [q0]) W9 (Or.inl (List.mem_of_getElem? (i := 0) rfl))) W20 (Or.inl (List.mem_of_getElem? (i := 0) rfl)))
  exact kRETV X18 (gEL G) hret d22_53 (fun ve hve => ⟨rfl, K23, f22⟩) (by decide)
theorem pd___BII_V : parseMethodDescriptor "([BII)V" = some ⟨[.array (.byte), .int, .int], none⟩ := by decide +kernel
theorem d19_23 : decode jdk_52_method_14_code 23 = .ok (.iinc 1 1, 3) := by decide +kernel
theorem d19_26 : decode jdk_52_method_14_code 26 = .ok (.iinc 4 1, 3) := by decide +kernel
theorem d19_29 : decode jdk_52_method_14_code 29 = .ok (.goto (-21), 3) := by decide +kernel
theorem d19_32 : decode jdk_52_method_14_code 32 = .ok (.aload_n 3, 1) := by decide +kernel
theorem d19_33 : decode jdk_52_method_14_code 33 = .ok (.areturn, 1) := by decide +kernel
def N_jdk_52_m_14 : MethodName := ⟨"java/lang/StringUTF16", "toBytes", "([CII)[B"⟩
def R_rm20 : Room := { frames := 2, cells := 1, slots := 2, locals := 24 }
theorem rm20 (G : Glob Z a0 iCS vSI) (i0 : Int32) (q0 : Addr) (kp0 : ClassId) (h0 : Heap) (Z0 : n0 ≤ h0.size) (O0 : Old Z n0 h0) (A_q0 : Arv Z h0 q0 kp0 .char 1 [.int i0] (.int 0)) (c_1 : ¬ (65535 : Int32) < i0) (c_2 : ¬ i0 < 0) : MetH l Z EL0 n0 N_jdk_52_m_14 jdk_52_method_14_code 5 (some (.array (.byte))) [] R_rm20 #[.ref q0, .int 0, .int 1] h0 [] (fun vs v h ve => (∃ (x0 : Addr), ∃ (z0 : ClassId), v = some (.ref x0) ∧ (Keep h0 h []) ∧ (h0.size ≤ x0) ∧ (Arv Z h x0 z0 .byte 2 [.int (ownB i0), .int (ownH i0)] (.int 0)) ∧ (Safe Z EL0 ve h x0))) := by
  refine MetH.of #[.val (.ref q0), .val (.int 0), .val (.int 1), .unset, .unset] (plainFor_of_name pn_java_lang_StringUTF16) rfl Z0 (fun p e s m below meth c T0 hret hml hnm hSL hs0 X0 => ?_)
  refine kILn X0 d19_0 rfl ?_
  refine kSTAT X0 (gEL G) (argsL := [.int 1]) (rest := []) (wd G 92 rfl) (wd G 93 rfl) (wd G 81 rfl) (wd G 94 rfl) (by decide) (rm21 G  h0 X0.n O0 ) all0 (lenOf pd__I__B rfl) rfl 0 rfl (by decide) hml.symm d19_1 (fun v1 T2 h3 vm4 _ w5 q6 C7 C8 X9 => ?_)
  obtain ⟨a11, k12, e13, f14, f15, f16, f17⟩ := q6
  subst e13
  have n18 : q0 ≠ a11 := Nat.ne_of_lt (Nat.lt_of_lt_of_le (A_q0.lt) f15)
  have g19 : n0 ≤ a11 := Nat.le_trans X0.n f15
  have g20 : h0.size ≤ a11 := Nat.le_trans X0.g0 f15
  show Go _ _ _ _ _ (mkF _ _ _ [.ref a11])
  refine kASn X9 #[.val (.ref q0), .val (.int 0), .val (.int 1), .val (.ref a11), .unset] d19_4 rfl rfl ?_
  refine kIC X9 0 d19_5 (by decide) ?_
  refine kIS X9 #[.val (.ref q0), .val (.int 0), .val (.int 1), .val (.ref a11), .val (.int 0)] d19_6 rfl ?_
  refine kIL X9 d19_8 rfl ?_
  refine kILn X9 d19_10 rfl ?_
  refine kICf X9 d19_11 (XT.ii_ge_f (by decide)) ?_
  refine kALn X9 d19_14 rfl rfl ?_
  refine kIL X9 d19_15 rfl ?_
  refine kALn X9 d19_17 rfl rfl ?_
  refine kILn X9 d19_18 rfl ?_
  have f21 := (Arv.keep A_q0 f14 nin0)
  refine kCALD X9 (.int i0) f21 (by decide) rfl d19_19 ?_
  have f22 := (Old.keep O0 f14 all0)
  refine kSTAT X9 (gEL G) (argsL := [.ref a11, .int 0, .int i0]) (rest := []) (wd G 99 rfl) (wd G 100 rfl) (wd G 81 rfl) (wd G 101 rfl) (by decide) (rm23 G i0 a11 k12 h3 X9.n f22 f16 g19) (allS ⟨(f16.lt), f17⟩ all0) (lenOf pd___BII_V rfl) rfl 0 rfl (by decide) hml.symm d19_20 (fun v23 T24 h25 vm26 _ w27 q28 C29 C30 X31 => ?_)
  obtain ⟨e33, f34, f35⟩ := q28
  subst e33
  show Go _ _ _ _ _ (mkF _ _ _ [])
  refine kIINC X31 (1 : Int32) (1 : Int32) #[.val (.ref q0), .val (.int 1), .val (.int 1), .val (.ref a11), .val (.int 0)] d19_23 (by decide) rfl (by decide) rfl ?_
  refine kIINC X31 (1 : Int32) (1 : Int32) #[.val (.ref q0), .val (.int 1), .val (.int 1), .val (.ref a11), .val (.int 1)] d19_26 (by decide) rfl (by decide) rfl ?_
  refine kGOTO X31 8 d19_29 (by decide) ?_
  refine kIL X31 d19_8 rfl ?_
  refine kILn X31 d19_10 rfl ?_
  refine kICt X31 32 d19_11 (XT.ii_ge_t (by decide)) (by decide) ?_
  refine kALn X31 d19_32 rfl rfl ?_
  have K36 : Keep h0 h25 [] := (Keep.trans (Keep.trans (Keep.refl h0 []) f14 all0) f34 (allS (Or.inr g20) all0))
  have f37 := (CHr.safe C30 (f16.lt) f17)
  exact kRETA X31 (gEL G) hret rfl rfl d19_33 (fun ve hve => ⟨a11, k12, rfl, K36, g20, f35, (CHr.safe hve (f35.lt) f37)⟩) (by decide)
theorem pd___CII__B : parseMethodDescriptor "([CII)[B" = some ⟨[.array (.char), .int, .int], some (.array (.byte))⟩ := by decide +kernel
theorem d16_26 : decode jdk_52_method_16_code 26 = .ok (.astore 5, 2) := by decide +kernel
theorem d16_28 : decode jdk_52_method_16_code 28 = .ok (.aload 5, 2) := by decide +kernel
theorem d16_30 : decode jdk_52_method_16_code 30 = .ok (.iload 4, 2) := by decide +kernel
theorem d16_32 : decode jdk_52_method_16_code 32 = .ok (.invokestatic 71, 3) := by decide +kernel
theorem d23_0 : decode jdk_52_method_5_code 0 = .ok (.getstatic 44, 3) := by decide +kernel
theorem d23_3 : decode jdk_52_method_5_code 3 = .ok (.ifCond .ne 25, 3) := by decide +kernel
theorem d23_28 : decode jdk_52_method_5_code 28 = .ok (.iload_n 1, 1) := by decide +kernel
theorem d23_29 : decode jdk_52_method_5_code 29 = .ok (.iconst 1, 1) := by decide +kernel
theorem d23_30 : decode jdk_52_method_5_code 30 = .ok (.ishl, 1) := by decide +kernel
theorem d23_31 : decode jdk_52_method_5_code 31 = .ok (.istore_n 1, 1) := by decide +kernel
theorem d23_32 : decode jdk_52_method_5_code 32 = .ok (.aload_n 0, 1) := by decide +kernel
theorem d23_33 : decode jdk_52_method_5_code 33 = .ok (.iload_n 1, 1) := by decide +kernel
theorem d23_34 : decode jdk_52_method_5_code 34 = .ok (.iinc 1 1, 3) := by decide +kernel
theorem d23_37 : decode jdk_52_method_5_code 37 = .ok (.baload, 1) := by decide +kernel
theorem d23_38 : decode jdk_52_method_5_code 38 = .ok (.sipush 255, 3) := by decide +kernel
theorem d23_41 : decode jdk_52_method_5_code 41 = .ok (.iand, 1) := by decide +kernel
theorem d23_42 : decode jdk_52_method_5_code 42 = .ok (.getstatic 59, 3) := by decide +kernel
theorem d23_45 : decode jdk_52_method_5_code 45 = .ok (.ishl, 1) := by decide +kernel
theorem d23_46 : decode jdk_52_method_5_code 46 = .ok (.aload_n 0, 1) := by decide +kernel
theorem d23_47 : decode jdk_52_method_5_code 47 = .ok (.iload_n 1, 1) := by decide +kernel
theorem d23_48 : decode jdk_52_method_5_code 48 = .ok (.baload, 1) := by decide +kernel
theorem d23_49 : decode jdk_52_method_5_code 49 = .ok (.sipush 255, 3) := by decide +kernel
theorem d23_52 : decode jdk_52_method_5_code 52 = .ok (.iand, 1) := by decide +kernel
theorem d23_53 : decode jdk_52_method_5_code 53 = .ok (.getstatic 63, 3) := by decide +kernel
theorem d23_56 : decode jdk_52_method_5_code 56 = .ok (.ishl, 1) := by decide +kernel
theorem d23_57 : decode jdk_52_method_5_code 57 = .ok (.ior, 1) := by decide +kernel
theorem d23_58 : decode jdk_52_method_5_code 58 = .ok (.i2c, 1) := by decide +kernel
theorem d23_59 : decode jdk_52_method_5_code 59 = .ok (.ireturn, 1) := by decide +kernel
def N_jdk_52_m_5 : MethodName := ⟨"java/lang/StringUTF16", "getChar", "([BI)C"⟩
def R_rm24 : Room := { frames := 0, cells := 0, slots := 0, locals := 0 }
theorem rm24 (G : Glob Z a0 iCS vSI) (i0 : Int32) (q0 : Addr) (kp0 : ClassId) (h0 : Heap) (Z0 : n0 ≤ h0.size) (O0 : Old Z n0 h0) (A_q0 : Arv Z h0 q0 kp0 .byte 2 [.int (ownB i0), .int (ownH i0)] (.int 0)) (c_1 : ¬ (65535 : Int32) < i0) (c_2 : ¬ i0 < 0) : MetH l Z EL0 n0 N_jdk_52_m_5 jdk_52_method_5_code 2 (some .char) [] R_rm24 #[.ref q0, .int 0] h0 [] (fun vs v h ve => (v = some (.int i0) ∧ (h0 = h))) := by
  refine MetH.of #[.val (.ref q0), .val (.int 0)] (plainFor_of_name pn_java_lang_StringUTF16) rfl Z0 (fun p e s m below meth c T0 hret hml hnm hSL hs0 X0 => ?_)
  refine kGETS X0 (wd G 102 rfl) Via.refl (Sta.ext O0.2 (S_AD G)) d23_0 (fun T1 X2 => ?_)
  refine kIFt X2 28 d23_3 (XT.i0_ne_t (by decide)) (by decide) ?_
  refine kILn X2 d23_28 rfl ?_
  refine kIC X2 1 d23_29 (by decide) ?_
  refine kISHL X2 0 d23_30 (by decide) ?_
  refine kISn X2 #[.val (.ref q0), .val (.int 0)] d23_31 rfl ?_
  refine kALn X2 d23_32 rfl rfl ?_
  refine kILn X2 d23_33 rfl ?_
  refine kIINC X2 (1 : Int32) (1 : Int32) #[.val (.ref q0), .val (.int 1)] d23_34 (by decide) rfl (by decide) rfl ?_
  refine kBALD X2 (.int (ownB i0)) A_q0 (by decide) rfl d23_37 ?_
  refine kSI X2 255 d23_38 (by decide) ?_
  refine kIAND X2 ((ownB i0) &&& (255 : Int32)) d23_41 rfl ?_
  refine kGETS X2 (wd G 103 rfl) Via.refl (Sta.ext O0.2 (S_HI G)) d23_42 (fun T3 X4 => ?_)
  refine kISHL X4 (((ownB i0) &&& (255 : Int32)) <<< ((0 : Int32) &&& 31)) d23_45 rfl ?_
  refine kALn X4 d23_46 rfl rfl ?_
  refine kILn X4 d23_47 rfl ?_
  refine kBALD X4 (.int (ownH i0)) A_q0 (by decide) rfl d23_48 ?_
  refine kSI X4 255 d23_49 (by decide) ?_
  refine kIAND X4 ((ownH i0) &&& (255 : Int32)) d23_52 rfl ?_
  refine kGETS X4 (wd G 104 rfl) Via.refl (Sta.ext O0.2 (S_LO G)) d23_53 (fun T5 X6 => ?_)
  refine kISHL X6 (((ownH i0) &&& (255 : Int32)) <<< ((8 : Int32) &&& 31)) d23_56 rfl ?_
  refine kIOR X6 ((((ownB i0) &&& (255 : Int32)) <<< ((0 : Int32) &&& 31)) ||| (((ownH i0) &&& (255 : Int32)) <<< ((8 : Int32) &&& 31))) d23_57 rfl ?_
  refine kI2C X6 i0 d23_58 (own_gc c_1 c_2) ?_
  exact kRETZ X6 (gEL G) (t := .char) hret (by simp) d23_59 (fun ve hve => ⟨(by rw [(own_n16 c_1 c_2)]), rfl⟩) (by decide)
theorem pd___BI_C : parseMethodDescriptor "([BI)C" = some ⟨[.array (.byte), .int], some .char⟩ := by decide +kernel
theorem d16_35 : decode jdk_52_method_16_code 35 = .ok (.sipush 255, 3) := by decide +kernel
theorem d16_38 : decode jdk_52_method_16_code 38 = .ok (.if_icmp .gt 16, 3) := by decide +kernel
theorem d16_54 : decode jdk_52_method_16_code 54 = .ok (.aload 5, 2) := by decide +kernel
theorem d16_56 : decode jdk_52_method_16_code 56 = .ok (.areturn, 1) := by decide +kernel
theorem d16_57 : decode jdk_52_method_16_code 57 = .ok (.aload_n 3, 1) := by decide +kernel
theorem d16_58 : decode jdk_52_method_16_code 58 = .ok (.areturn, 1) := by decide +kernel
def N_jdk_52_m_16 : MethodName := ⟨"java/lang/StringUTF16", "compress", "([CII)[B"⟩
def R_rm18 : Room := { frames := 3, cells := 2, slots := 3, locals := 40 }
theorem rm18 (G : Glob Z a0 iCS vSI) (i0 : Int32) (q0 : Addr) (kp0 : ClassId) (h0 : Heap) (Z0 : n0 ≤ h0.size) (O0 : Old Z n0 h0) (A_q0 : Arv Z h0 q0 kp0 .char 1 [.int i0] (.int 0)) (c_0 : ¬ (65535 : Int32) < i0) (c_1 : ¬ i0 < 0) : MetH l Z EL0 n0 N_jdk_52_m_16 jdk_52_method_16_code 6 (some (.array (.byte))) [] R_rm18 #[.ref q0, .int 0, .int 1] h0 [] (fun vs v h ve => (∃ (x0 : Addr), ∃ (z0 : ClassId), v = some (.ref x0) ∧ ((255 : Int32) < i0) ∧ (Keep h0 h []) ∧ (h0.size ≤ x0) ∧ (Arv Z h x0 z0 .byte 2 [.int (ownB i0), .int (ownH i0)] (.int 0)) ∧ (Safe Z EL0 ve h x0)) ∨ (∃ (x0 : Addr), ∃ (z0 : ClassId), v = some (.ref x0) ∧ (¬ (255 : Int32) < i0) ∧ (Keep h0 h []) ∧ (h0.size ≤ x0) ∧ (Arv Z h x0 z0 .byte 1 [.int (ownB i0)] (.int 0)) ∧ (Safe Z EL0 ve h x0))) := by
  refine MetH.of #[.val (.ref q0), .val (.int 0), .val (.int 1), .unset, .unset, .unset] (plainFor_of_name pn_java_lang_StringUTF16) rfl Z0 (fun p e s m below meth c T0 hret hml hnm hSL hs0 X0 => ?_)
  refine kILn X0 d16_0 rfl ?_
  refine kNEWP X0 (wd G 21 rfl) (cap := 1) d16_1 (by decide) (by decide) (by decide) (by decide) (by decide) (fun T1 h2 a4 k5 E6 q7 g8 A9 s10 X3 => ?_)
  have n11 : q0 ≠ a4 := Nat.ne_of_lt (Nat.lt_of_lt_of_le (A_q0.lt) (Nat.le_of_eq q7.symm))
  have g12 : h0.size ≤ a4 := q7 ▸ X0.g0
  have f13 : Arv Z h2 a4 k5 .byte 1 [.int 0] (.int 0) := A9.pad (pad_rep [] _ 1)
  refine kASn X3 #[.val (.ref q0), .val (.int 0), .val (.int 1), .val (.ref a4), .unset, .unset] d16_3 rfl rfl ?_
  refine kALn X3 d16_4 rfl rfl ?_
  refine kILn X3 d16_5 rfl ?_
  refine kALn X3 d16_6 rfl rfl ?_
  refine kIC X3 0 d16_7 (by decide) ?_
  refine kILn X3 d16_8 rfl ?_
  have f14 := (Arv.ext A_q0 E6)
  have f15 := (Old.ext O0 E6)
  refine kSTAT X3 (gEL G) (argsL := [.ref q0, .int 0, .ref a4, .int 0, .int 1]) (rest := []) (wd G 83 rfl) (wd G 84 rfl) (wd G 81 rfl) (wd G 85 rfl) (by decide) (rm19 G i0 q0 a4 kp0 k5 h2 X3.n f15 f14 f13 g8) (allS ⟨(f13.lt), s10⟩ all0) (lenOf pd___CI_BII_I rfl) rfl 0 rfl (by decide) hml.symm d16_9 (fun v16 T17 h18 vm19 _ w20 q21 C22 C23 X24 => ?_)
  rcases q21 with o26 | o27
  · obtain ⟨e28, f29, f30⟩ := o26
    subst e28
    subst f30
    show Go _ _ _ _ _ (mkF _ _ _ [.int 0])
    refine kIS X24 #[.val (.ref q0), .val (.int 0), .val (.int 1), .val (.ref a4), .val (.int 0), .unset] d16_12 rfl ?_
    refine kIL X24 d16_14 rfl ?_
    refine kILn X24 d16_16 rfl ?_
    refine kICf X24 d16_17 (XT.ii_eq_f (by decide)) ?_
    refine kALn X24 d16_20 rfl rfl ?_
    refine kILn X24 d16_21 rfl ?_
    refine kILn X24 d16_22 rfl ?_
    refine kSTAT X24 (gEL G) (argsL := [.ref q0, .int 0, .int 1]) (rest := []) (wd G 89 rfl) (wd G 90 rfl) (wd G 81 rfl) (wd G 91 rfl) (by decide) (rm20 G i0 q0 kp0 h2 X24.n f15 f14 c_0 c_1) all0 (lenOf pd___CII__B rfl) rfl 0 rfl (by decide) hml.symm d16_23 (fun v31 T32 h33 vm34 _ w35 q36 C37 C38 X39 => ?_)
    obtain ⟨a41, k42, e43, f44, f45, f46, f47⟩ := q36
    subst e43
    have n48 : q0 ≠ a41 := Nat.ne_of_lt (Nat.lt_of_lt_of_le (f14.lt) f45)
    have n49 : a4 ≠ a41 := Nat.ne_of_lt (Nat.lt_of_lt_of_le (f13.lt) f45)
    have g50 : n0 ≤ a41 := Nat.le_trans X24.n f45
    have g51 : h0.size ≤ a41 := Nat.le_trans X24.g0 f45
    show Go _ _ _ _ _ (mkF _ _ _ [.ref a41])
    refine kAS X39 #[.val (.ref q0), .val (.int 0), .val (.int 1), .val (.ref a4), .val (.int 0), .val (.ref a41)] d16_26 rfl rfl ?_
    refine kAL X39 d16_28 rfl rfl ?_
    refine kIL X39 d16_30 rfl ?_
    have f52 := (Old.keep f15 f44 all0)
    refine kSTAT X39 (gEL G) (argsL := [.ref a41, .int 0]) (rest := []) (wd G 105 rfl) (wd G 106 rfl) (wd G 81 rfl) (wd G 107 rfl) (by decide) (rm24 G i0 a41 k42 h33 X39.n f52 f46 c_0 c_1) all0 (lenOf pd___BI_C rfl) rfl 0 rfl (by decide) hml.symm d16_32 (fun v53 T54 h55 vm56 _ w57 q58 C59 C60 X61 => ?_)
    obtain ⟨e63, f64⟩ := q58
    subst e63
    subst f64
    show Go _ _ _ _ _ (mkF _ _ _ [.int i0])
    refine kSI X61 255 d16_35 (by decide) ?_
    refine kICt X61 54 d16_38 (XT.ii_gt_t f29) (by decide) ?_
    refine kAL X61 d16_54 rfl rfl ?_
    have K65 : Keep h0 h33 [] := (Keep.trans (Keep.ext (Keep.refl h0 []) E6) f44 all0)
    have f66 := (CHr.safe C60 (f46.lt) f47)
    exact kRETA X61 (gEL G) hret rfl rfl d16_56 (fun ve hve => Or.inl (⟨a41, k42, rfl, f29, K65, g51, f46, (CHr.safe hve (f46.lt) f66)⟩)) (by decide)
  · obtain ⟨e67, f68, f69, f70⟩ := o27
    subst e67
    show Go _ _ _ _ _ (mkF _ _ _ [.int 1])
    refine kIS X24 #[.val (.ref q0), .val (.int 0), .val (.int 1), .val (.ref a4), .val (.int 1), .unset] d16_12 rfl ?_
    refine kIL X24 d16_14 rfl ?_
    refine kILn X24 d16_16 rfl ?_
    refine kICt X24 57 d16_17 (XT.ii_eq_t (by decide)) (by decide) ?_
    refine kALn X24 d16_57 rfl rfl ?_
    have K71 : Keep h0 h18 [] := (Keep.trans (Keep.ext (Keep.refl h0 []) E6) f69 (allS (Or.inr g12) all0))
    have f72 := (CHr.safe C23 (f13.lt) s10)
    exact kRETA X24 (gEL G) hret rfl rfl d16_58 (fun ve hve => Or.inr (⟨a4, k5, rfl, f68, K71, g12, f70, (CHr.safe hve (f70.lt) f72)⟩)) (by decide)
theorem d2_39 : decode jdk_42_method_149_code 39 = .ok (.astore 5, 2) := by decide +kernel
theorem d2_41 : decode jdk_42_method_149_code 41 = .ok (.aload_n 0, 1) := by decide +kernel
theorem d2_42 : decode jdk_42_method_149_code 42 = .ok (.aload 5, 2) := by decide +kernel
theorem d2_44 : decode jdk_42_method_149_code 44 = .ok (.iload_n 3, 1) := by decide +kernel
theorem d2_45 : decode jdk_42_method_149_code 45 = .ok (.invokestatic 47, 3) := by decide +kernel
theorem d18_0 : decode jdk_52_method_15_code 0 = .ok (.iload_n 1, 1) := by decide +kernel
theorem d18_1 : decode jdk_52_method_15_code 1 = .ok (.aload_n 0, 1) := by decide +kernel
theorem d18_2 : decode jdk_52_method_15_code 2 = .ok (.arraylength, 1) := by decide +kernel
theorem d18_3 : decode jdk_52_method_15_code 3 = .ok (.isub, 1) := by decide +kernel
theorem d18_4 : decode jdk_52_method_15_code 4 = .ok (.bipush 31, 2) := by decide +kernel
theorem d18_6 : decode jdk_52_method_15_code 6 = .ok (.iushr, 1) := by decide +kernel
theorem d18_7 : decode jdk_52_method_15_code 7 = .ok (.i2b, 1) := by decide +kernel
theorem d18_8 : decode jdk_52_method_15_code 8 = .ok (.ireturn, 1) := by decide +kernel
def N_jdk_52_m_15 : MethodName := ⟨"java/lang/StringUTF16", "coderFromArrayLen", "([BI)B"⟩
def R_rm25 : Room := { frames := 0, cells := 0, slots := 0, locals := 0 }
theorem rm25 (G : Glob Z a0 iCS vSI) (i0 : Int32) (q0 : Addr) (kp0 : ClassId) (h0 : Heap) (Z0 : n0 ≤ h0.size) (O0 : Old Z n0 h0) (A_q0 : Arv Z h0 q0 kp0 .byte 2 [.int (ownB i0), .int (ownH i0)] (.int 0)) : MetH l Z EL0 n0 N_jdk_52_m_15 jdk_52_method_15_code 2 (some .byte) [] R_rm25 #[.ref q0, .int 1] h0 [] (fun vs v h ve => (v = some (.int 1) ∧ (h0 = h))) := by
  refine MetH.of #[.val (.ref q0), .val (.int 1)] (plainFor_of_name pn_java_lang_StringUTF16) rfl Z0 (fun p e s m below meth c T0 hret hml hnm hSL hs0 X0 => ?_)
  refine kILn X0 d18_0 rfl ?_
  refine kALn X0 d18_1 rfl rfl ?_
  refine kLEN X0 A_q0 d18_2 ?_
  refine kISUB X0 (-1) d18_3 (by decide) ?_
  refine kBI X0 31 d18_4 (by decide) ?_
  refine kIUSHR X0 1 d18_6 (by decide) ?_
  refine kI2B X0 (1 : Int32) d18_7 (by decide) ?_
  exact kRETZ X0 (gEL G) (t := .byte) hret (by simp) d18_8 (fun ve hve => ⟨rfl, rfl⟩) (by decide)
theorem pd___BI_B : parseMethodDescriptor "([BI)B" = some ⟨[.array (.byte), .int], some .byte⟩ := by decide +kernel
theorem d2_48 : decode jdk_42_method_149_code 48 = .ok (.putfield 15, 3) := by decide +kernel
theorem d2_51 : decode jdk_42_method_149_code 51 = .ok (.aload_n 0, 1) := by decide +kernel
theorem d2_52 : decode jdk_42_method_149_code 52 = .ok (.aload 5, 2) := by decide +kernel
theorem d2_54 : decode jdk_42_method_149_code 54 = .ok (.putfield 9, 3) := by decide +kernel
theorem d2_57 : decode jdk_42_method_149_code 57 = .ok (.return_, 1) := by decide +kernel
def R_rm26 : Room := { frames := 0, cells := 0, slots := 0, locals := 0 }
theorem rm26 (G : Glob Z a0 iCS vSI) (i0 : Int32) (q0 : Addr) (kp0 : ClassId) (h0 : Heap) (Z0 : n0 ≤ h0.size) (O0 : Old Z n0 h0) (A_q0 : Arv Z h0 q0 kp0 .byte 1 [.int (ownB i0)] (.int 0)) : MetH l Z EL0 n0 N_jdk_52_m_15 jdk_52_method_15_code 2 (some .byte) [] R_rm26 #[.ref q0, .int 1] h0 [] (fun vs v h ve => (v = some (.int 0) ∧ (h0 = h))) := by
  refine MetH.of #[.val (.ref q0), .val (.int 1)] (plainFor_of_name pn_java_lang_StringUTF16) rfl Z0 (fun p e s m below meth c T0 hret hml hnm hSL hs0 X0 => ?_)
  refine kILn X0 d18_0 rfl ?_
  refine kALn X0 d18_1 rfl rfl ?_
  refine kLEN X0 A_q0 d18_2 ?_
  refine kISUB X0 0 d18_3 (by decide) ?_
  refine kBI X0 31 d18_4 (by decide) ?_
  refine kIUSHR X0 0 d18_6 (by decide) ?_
  refine kI2B X0 (0 : Int32) d18_7 (by decide) ?_
  exact kRETZ X0 (gEL G) (t := .byte) hret (by simp) d18_8 (fun ve hve => ⟨rfl, rfl⟩) (by decide)
def R_rm17 : Room := { frames := 4, cells := 2, slots := 3, locals := 57 }
theorem rm17 (G : Glob Z a0 iCS vSI) (i0 : Int32) (q0 q1 : Addr) (kp0 : ClassId) (h0 : Heap) (Z0 : n0 ≤ h0.size) (O0 : Old Z n0 h0) (c_0 : ¬ (65535 : Int32) < i0) (c_1 : ¬ i0 < 0) (A_q1 : Arv Z h0 q1 kp0 .char 1 [.int i0] (.int 0)) (E_q0 : Exa Z h0 q0 "java/lang/String") (F_q0_coder : Fld Z h0 q0 "java/lang/String" "coder" "B" (.int 0)) (F_q0_value : Fld Z h0 q0 "java/lang/String" "value" "[B" (.null)) (g_q0 : n0 ≤ q0) : MetH l Z EL0 n0 N_jdk_42_m_149 jdk_42_method_149_code 6 none [] R_rm17 #[.ref q0, .ref q1, .int 0, .int 1, .null] h0 [q0] (fun vs v h ve => (∃ (x0 : Addr), ∃ (z0 : ClassId), v = none ∧ ((255 : Int32) < i0) ∧ (Keep h0 h [q0]) ∧ (h0.size ≤ x0) ∧ (Arv Z h x0 z0 .byte 2 [.int (ownB i0), .int (ownH i0)] (.int 0)) ∧ (Safe Z EL0 ve h x0) ∧ (Fld Z h q0 "java/lang/String" "coder" "B" (.int 1)) ∧ (Fld Z h q0 "java/lang/String" "value" "[B" (.ref x0))) ∨ (∃ (x0 : Addr), ∃ (z0 : ClassId), v = none ∧ (¬ (255 : Int32) < i0) ∧ (Keep h0 h [q0]) ∧ (h0.size ≤ x0) ∧ (Arv Z h x0 z0 .byte 1 [.int (ownB i0)] (.int 0)) ∧ (Safe Z EL0 ve h x0) ∧ (Fld Z h q0 "java/lang/String" "coder" "B" (.int 0)) ∧ (Fld Z h q0 "java/lang/String" "value" "[B" (.ref x0)))) := by
  refine MetH.of #[.val (.ref q0), .val (.ref q1), .val (.int 0), .val (.int 1), .val .null, .unset] (plainFor_of_name pn_java_lang_String) rfl Z0 (fun p e s m below meth c T0 hret hml hnm hSL hs0 X0 => ?_)
  have S_q0 := hSL q0 (List.mem_of_getElem? (i := 0) rfl)
  refine kALn X0 d2_0 rfl rfl ?_
  refine kINIT X0 (wd G 17 rfl) (wd G 18 rfl) (wd G 19 rfl) hml.symm d2_1 (by decide) 0 (Nat.le_of_eq rfl) (by decide) (fun T1 X2 => ?_)
  refine kILn X2 d2_4 rfl ?_
  refine kIFt X2 27 d2_5 (XT.i0_ne_t (by decide)) (by decide) ?_
  refine kGETS X2 (wd G 31 rfl) Via.refl (Sta.ext O0.2 (S_CS G)) d2_27 (fun T3 X4 => ?_)
  refine kIFf X4 d2_30 (XT.i0_eq_f (n_CS G)) ?_
  refine kALn X4 d2_33 rfl rfl ?_
  refine kILn X4 d2_34 rfl ?_
  refine kILn X4 d2_35 rfl ?_
  refine kSTAT X4 (gEL G) (argsL := [.ref q1, .int 0, .int 1]) (rest := []) (wd G 79 rfl) (wd G 80 rfl) (wd G 81 rfl) (wd G 82 rfl) (by decide) (rm18 G i0 q1 kp0 h0 X4.n O0 A_q1 c_0 c_1) all0 (lenOf pd___CII__B rfl) rfl 0 rfl (by decide) hml.symm d2_36 (fun v5 T6 h7 vm8 _ w9 q10 C11 C12 X13 => ?_)
  rcases q10 with o15 | o16
  · obtain ⟨a17, k18, e19, f20, f21, f22, f23, f24⟩ := o15
    subst e19
    have n25 : q0 ≠ a17 := Nat.ne_of_lt (Nat.lt_of_lt_of_le (E_q0.lt) f22)
    have n26 : q1 ≠ a17 := Nat.ne_of_lt (Nat.lt_of_lt_of_le (A_q1.lt) f22)
    have g27 : n0 ≤ a17 := Nat.le_trans X4.n f22
    have g28 : h0.size ≤ a17 := Nat.le_trans X4.g0 f22
    show Go _ _ _ _ _ (mkF _ _ _ [.ref a17])
    refine kAS X13 #[.val (.ref q0), .val (.ref q1), .val (.int 0), .val (.int 1), .val .null, .val (.ref a17)] d2_39 rfl rfl ?_
    refine kALn X13 d2_41 rfl rfl ?_
    refine kAL X13 d2_42 rfl rfl ?_
    refine kILn X13 d2_44 rfl ?_
    have f29 := (Old.keep O0 f21 all0)
    refine kSTAT X13 (gEL G) (argsL := [.ref a17, .int 1]) (rest := [.ref q0]) (wd G 86 rfl) (wd G 87 rfl) (wd G 81 rfl) (wd G 88 rfl) (by decide) (rm25 G i0 a17 k18 h7 X13.n f29 f23) all0 (lenOf pd___BI_B rfl) rfl 1 rfl (by decide) hml.symm d2_45 (fun v30 T31 h32 vm33 _ w34 q35 C36 C37 X38 => ?_)
    obtain ⟨e40, f41⟩ := q35
    subst e40
    subst f41
    show Go _ _ _ _ _ (mkF _ _ _ [.int 1, .ref q0])
    have f42 := (Fld.keep F_q0_coder f21 nin0)
    have f43 := (Exa.keep E_q0 f21)
    have f44 := (CHr.safe C37 ((Fld.keep F_q0_value f21 nin0)).lt (CHr.safe C12 (F_q0_value.lt) S_q0))
    refine kPUTF X38 (wd G 27 rfl) Via.refl f42 f43 (Or.inr ⟨(wd G 23 rfl), rfl, hnm⟩) (wd G 7 rfl) (ty := .byte) (by decide) (by decide) (by decide) g_q0 f44 d2_48 (fun T45 h46 L49 W48 X47 => ?_)
    have f50 := Fld.same W48 f42
    refine kALn X47 d2_51 rfl rfl ?_
    refine kAL X47 d2_52 rfl rfl ?_
    have f51 := (Fld.other W48 (Fld.keep F_q0_value f21 nin0) (Or.inr (slot_ne (Or.inr (wd G 22 rfl)) (Or.inr (wd G 23 rfl)) (by decide) (by decide : parseFieldDescriptor "[B" = some (.array (.byte))) (by decide : parseFieldDescriptor "B" = some .byte))))
    have f52 := (Exa.wr W48 f43)
    have f53 := (Safe.wr W48 f44 X38.C.1 f44)
    refine kPUTF X47 (wd G 26 rfl) Via.refl f51 f52 (Or.inr ⟨(wd G 22 rfl), rfl, hnm⟩) (wd G 7 rfl) (ty := (.array (.byte))) (by decide) rfl rfl g_q0 f53 d2_54 (fun T54 h55 L58 W57 X56 => ?_)
    have f59 := Fld.same W57 f51
    have K60 : Keep h0 h55 [q0] := (Keep.wr (Keep.wr (Keep.trans (Keep.refl h0 [q0]) f21 all0) W48 (Or.inl (List.mem_of_getElem? (i := 0) rfl))) W57 (Or.inl (List.mem_of_getElem? (i := 0) rfl)))
    have f61 := (Arv.other (Arv.other f23 W48 (Ne.symm n25)) W57 (Ne.symm n25))
    have f62 := (Safe.wr W57 f53 X47.C.1 (Safe.wr W48 f44 X38.C.1 (CHr.safe C37 (f23.lt) f24)))
    have f63 := (Fld.other W57 f50 (Or.inr (slot_ne (Or.inr (wd G 23 rfl)) (Or.inr (wd G 22 rfl)) (by decide) (by decide : parseFieldDescriptor "B" = some .byte) (by decide : parseFieldDescriptor "[B" = some (.array (.byte))))))
    exact kRETV X56 (gEL G) hret d2_57 (fun ve hve => Or.inl (⟨a17, k18, rfl, f20, K60, g28, f61, (CHr.safe hve (f61.lt) f62), f63, f59⟩)) (by decide)
  · obtain ⟨a64, k65, e66, f67, f68, f69, f70, f71⟩ := o16
    subst e66
    have n72 : q0 ≠ a64 := Nat.ne_of_lt (Nat.lt_of_lt_of_le (E_q0.lt) f69)
    have n73 : q1 ≠ a64 := Nat.ne_of_lt (Nat.lt_of_lt_of_le (A_q1.lt) f69)
    have g74 : n0 ≤ a64 := Nat.le_trans X4.n f69
    have g75 : h0.size ≤ a64 := Nat.le_trans X4.g0 f69
    show Go _ _ _ _ _ (mkF _ _ _ [.ref a64])
    refine kAS X13 #[.val (.ref q0), .val (.ref q1), .val (.int 0), .val (.int 1), .val .null, .val (.ref a64)] d2_39 rfl rfl ?_
    refine kALn X13 d2_41 rfl rfl ?_
    refine kAL X13 d2_42 rfl rfl ?_
    refine kILn X13 d2_44 rfl ?_
    have f76 := (Old.keep O0 f68 all0)
    refine kSTAT X13 (gEL G) (argsL := [.ref a64, .int 1]) (rest := [.ref q0]) (wd G 86 rfl) (wd G 87 rfl) (wd G 81 rfl) (wd G 88 rfl) (by decide) (rm26 G i0 a64 k65 h7 X13.n f76 f70) all0 (lenOf pd___BI_B rfl) rfl 1 rfl (by decide) hml.symm d2_45 (fun v77 T78 h79 vm80 _ w81 q82 C83 C84 X85 => ?_)
    obtain ⟨e87, f88⟩ := q82
    subst e87
    subst f88
    show Go _ _ _ _ _ (mkF _ _ _ [.int 0, .ref q0])
    have f89 := (Fld.keep F_q0_coder f68 nin0)
    have f90 := (Exa.keep E_q0 f68)
    have f91 := (CHr.safe C84 ((Fld.keep F_q0_value f68 nin0)).lt (CHr.safe C12 (F_q0_value.lt) S_q0))
    refine kPUTF X85 (wd G 27 rfl) Via.refl f89 f90 (Or.inr ⟨(wd G 23 rfl), rfl, hnm⟩) (wd G 7 rfl) (ty := .byte) (by decide) (by decide) (by decide) g_q0 f91 d2_48 (fun T92 h93 L96 W95 X94 => ?_)
    have f97 := Fld.same W95 f89
    refine kALn X94 d2_51 rfl rfl ?_
    refine kAL X94 d2_52 rfl rfl ?_
    have f98 := (Fld.other W95 (Fld.keep F_q0_value f68 nin0) (Or.inr (slot_ne (Or.inr (wd G 22 rfl)) (Or.inr (wd G 23 rfl)) (by decide) (by decide : parseFieldDescriptor "[B" = some (.array (.byte))) (by decide : parseFieldDescriptor "B" = some .byte))))
    have f99 := (Exa.wr W95 f90)
    have f100 := (Safe.wr W95 f91 X85.C.1 f91)
    refine kPUTF X94 (wd G 26 rfl) Via.refl f98 f99 (Or.inr ⟨(wd G 22 rfl), rfl, hnm⟩) (wd G 7 rfl) (ty := (.array (.byte))) (by decide) rfl rfl g_q0 f100 d2_54 (fun T101 h102 L105 W104 X103 => ?_)
    have f106 := Fld.same W104 f98
    have K107 : Keep h0 h102 [q0] := (Keep.wr (Keep.wr (Keep.trans (Keep.refl h0 [q0]) f68 all0) W95 (Or.inl (List.mem_of_getElem? (i := 0) rfl))) W104 (Or.inl (List.mem_of_getElem? (i := 0) rfl)))
    have f108 := (Arv.other (Arv.other f70 W95 (Ne.symm n72)) W104 (Ne.symm n72))
    have f109 := (Safe.wr W104 f100 X94.C.1 (Safe.wr W95 f91 X85.C.1 (CHr.safe C84 (f70.lt) f71)))
    have f110 := (Fld.other W104 f97 (Or.inr (slot_ne (Or.inr (wd G 23 rfl)) (Or.inr (wd G 22 rfl)) (by decide) (by decide : parseFieldDescriptor "B" = some .byte) (by decide : parseFieldDescriptor "[B" = some (.array (.byte))))))
    exact kRETV X103 (gEL G) hret d2_57 (fun ve hve => Or.inr (⟨a64, k65, rfl, f67, K107, g75, f108, (CHr.safe hve (f108.lt) f109), f110, f106⟩)) (by decide)
def R_rm16 : Room := { frames := 5, cells := 2, slots := 3, locals := 74 }
theorem rm16 (G : Glob Z a0 iCS vSI) (i0 : Int32) (q0 q1 : Addr) (kp0 : ClassId) (h0 : Heap) (Z0 : n0 ≤ h0.size) (O0 : Old Z n0 h0) (A_q1 : Arv Z h0 q1 kp0 .char 1 [.int i0] (.int 0)) (c_0 : ¬ (65535 : Int32) < i0) (c_1 : ¬ i0 < 0) (E_q0 : Exa Z h0 q0 "java/lang/String") (F_q0_coder : Fld Z h0 q0 "java/lang/String" "coder" "B" (.int 0)) (F_q0_value : Fld Z h0 q0 "java/lang/String" "value" "[B" (.null)) (g_q0 : n0 ≤ q0) : MetH l Z EL0 n0 N_jdk_42_m_3 jdk_42_method_3_code 2 none [] R_rm16 #[.ref q0, .ref q1] h0 [q0] (fun vs v h ve => (∃ (x0 : Addr), ∃ (z0 : ClassId), v = none ∧ ((255 : Int32) < i0) ∧ (Keep h0 h [q0]) ∧ (h0.size ≤ x0) ∧ (Arv Z h x0 z0 .byte 2 [.int (ownB i0), .int (ownH i0)] (.int 0)) ∧ (Safe Z EL0 ve h x0) ∧ (Fld Z h q0 "java/lang/String" "coder" "B" (.int 1)) ∧ (Fld Z h q0 "java/lang/String" "value" "[B" (.ref x0))) ∨ (∃ (x0 : Addr), ∃ (z0 : ClassId), v = none ∧ (¬ (255 : Int32) < i0) ∧ (Keep h0 h [q0]) ∧ (h0.size ≤ x0) ∧ (Arv Z h x0 z0 .byte 1 [.int (ownB i0)] (.int 0)) ∧ (Safe Z EL0 ve h x0) ∧ (Fld Z h q0 "java/lang/String" "coder" "B" (.int 0)) ∧ (Fld Z h q0 "java/lang/String" "value" "[B" (.ref x0)))) := by
  refine MetH.of #[.val (.ref q0), .val (.ref q1)] (plainFor_of_name pn_java_lang_String) rfl Z0 (fun p e s m below meth c T0 hret hml hnm hSL hs0 X0 => ?_)
  have S_q0 := hSL q0 (List.mem_of_getElem? (i := 0) rfl)
  refine kALn X0 d1_0 rfl rfl ?_
  refine kALn X0 d1_1 rfl rfl ?_
  refine kIC X0 0 d1_2 (by decide) ?_
  refine kALn X0 d1_3 rfl rfl ?_
  refine kLEN X0 A_q1 d1_4 ?_
  refine kNULL X0 d1_5 ?_
  refine kSPEC X0 (gEL G) (argsL := [.ref q1, .int 0, .int 1, .null]) (rest := []) (wd G 13 rfl) (wd G 14 rfl) (wd G 8 rfl) (wd G 16 rfl) rfl (by decide) (rm17 G i0 q0 q1 kp0 h0 X0.n O0 c_0 c_1 A_q1 E_q0 F_q0_coder F_q0_value g_q0) (allS ⟨(E_q0.lt), S_q0⟩ all0) (lenOf pd___CIILjava_lang_Void__V rfl) rfl 0 rfl (by decide) hml.symm d1_6 (fun v1 T2 h3 vm4 _ w5 q6 C7 C8 X9 => ?_)
  rcases q6 with o11 | o12
  · obtain ⟨a13, k14, e15, f16, f17, f18, f19, f20, f21, f22⟩ := o11
    subst e15
    have n23 : q0 ≠ a13 := Nat.ne_of_lt (Nat.lt_of_lt_of_le (E_q0.lt) f18)
    have n24 : q1 ≠ a13 := Nat.ne_of_lt (Nat.lt_of_lt_of_le (A_q1.lt) f18)
    have g25 : n0 ≤ a13 := Nat.le_trans X0.n f18
    have g26 : h0.size ≤ a13 := Nat.le_trans X0.g0 f18
    show Go _ _ _ _ _ (mkF _ _ _ [])
    have K27 : Keep h0 h3 [q0] := (Keep.trans (Keep.refl h0 [q0]) f17 (allS (Or.inl (List.mem_of_getElem? (i := 0) rfl)) all0))
    exact kRETV X9 (gEL G) hret d1_9 (fun ve hve => Or.inl (⟨a13, k14, rfl, f16, K27, g26, f19, (CHr.safe hve (f19.lt) f20), f21, f22⟩)) (by decide)
  · obtain ⟨a28, k29, e30, f31, f32, f33, f34, f35, f36, f37⟩ := o12
    subst e30
    have n38 : q0 ≠ a28 := Nat.ne_of_lt (Nat.lt_of_lt_of_le (E_q0.lt) f33)
    have n39 : q1 ≠ a28 := Nat.ne_of_lt (Nat.lt_of_lt_of_le (A_q1.lt) f33)
    have g40 : n0 ≤ a28 := Nat.le_trans X0.n f33
    have g41 : h0.size ≤ a28 := Nat.le_trans X0.g0 f33
    show Go _ _ _ _ _ (mkF _ _ _ [])
    have K42 : Keep h0 h3 [q0] := (Keep.trans (Keep.refl h0 [q0]) f32 (allS (Or.inl (List.mem_of_getElem? (i := 0) rfl)) all0))
    exact kRETV X9 (gEL G) hret d1_9 (fun ve hve => Or.inr (⟨a28, k29, rfl, f31, K42, g41, f34, (CHr.safe hve (f34.lt) f35), f36, f37⟩)) (by decide)
theorem d11_17 : decode jdk_42_method_154_code 17 = .ok (.iconst 0, 1) := by decide +kernel
def R_rm30 : Room := { frames := 0, cells := 0, slots := 0, locals := 0 }
theorem rm30 (G : Glob Z a0 iCS vSI) (i0 : Int32) (q0 q1 : Addr) (kp0 : ClassId) (h0 : Heap) (Z0 : n0 ≤ h0.size) (O0 : Old Z n0 h0) (F_q0_coder : Fld Z h0 q0 "java/lang/String" "coder" "B" (.int 1)) : MetH l Z EL0 n0 N_jdk_42_m_154 jdk_42_method_154_code 1 (some .boolean) [] R_rm30 #[.ref q0] h0 [] (fun vs v h ve => (v = some (.int 0) ∧ (h0 = h))) := by
  refine MetH.of #[.val (.ref q0)] (plainFor_of_name pn_java_lang_String) rfl Z0 (fun p e s m below meth c T0 hret hml hnm hSL hs0 X0 => ?_)
  refine kGETS X0 (wd G 31 rfl) Via.refl (Sta.ext O0.2 (S_CS G)) d11_0 (fun T1 X2 => ?_)
  refine kIFf X2 d11_3 (XT.i0_eq_f (n_CS G)) ?_
  refine kALn X2 d11_6 rfl rfl ?_
  refine kGETF X2 (wd G 27 rfl) Via.refl F_q0_coder d11_7 (fun T3 X4 => ?_)
  refine kIFt X4 17 d11_10 (XT.i0_ne_t (by decide)) (by decide) ?_
  refine kIC X4 0 d11_17 (by decide) ?_
  exact kRETZ X4 (gEL G) (t := .boolean) hret (by simp) d11_18 (fun ve hve => ⟨rfl, rfl⟩) (by decide)
theorem d10_23 : decode jdk_42_method_80_code 23 = .ok (.aload_n 0, 1) := by decide +kernel
theorem d10_24 : decode jdk_42_method_80_code 24 = .ok (.getfield 9, 3) := by decide +kernel
theorem d10_27 : decode jdk_42_method_80_code 27 = .ok (.iload_n 1, 1) := by decide +kernel
theorem d10_28 : decode jdk_42_method_80_code 28 = .ok (.iload_n 2, 1) := by decide +kernel
theorem d10_29 : decode jdk_42_method_80_code 29 = .ok (.aload_n 0, 1) := by decide +kernel
theorem d10_30 : decode jdk_42_method_80_code 30 = .ok (.invokevirtual 505, 3) := by decide +kernel
def R_rm32 : Room := { frames := 0, cells := 0, slots := 0, locals := 0 }
theorem rm32 (G : Glob Z a0 iCS vSI) (i0 : Int32) (q0 q1 : Addr) (kp0 : ClassId) (h0 : Heap) (Z0 : n0 ≤ h0.size) (O0 : Old Z n0 h0) (F_q0_coder : Fld Z h0 q0 "java/lang/String" "coder" "B" (.int 1)) : MetH l Z EL0 n0 N_jdk_42_m_152 jdk_42_method_152_code 1 (some .byte) [] R_rm32 #[.ref q0] h0 [] (fun vs v h ve => (v = some (.int 1) ∧ (h0 = h))) := by
  refine MetH.of #[.val (.ref q0)] (plainFor_of_name pn_java_lang_String) rfl Z0 (fun p e s m below meth c T0 hret hml hnm hSL hs0 X0 => ?_)
  refine kGETS X0 (wd G 31 rfl) Via.refl (Sta.ext O0.2 (S_CS G)) d13_0 (fun T1 X2 => ?_)
  refine kIFf X2 d13_3 (XT.i0_eq_f (n_CS G)) ?_
  refine kALn X2 d13_6 rfl rfl ?_
  refine kGETF X2 (wd G 27 rfl) Via.refl F_q0_coder d13_7 (fun T3 X4 => ?_)
  refine kGOTO X4 14 d13_10 (by decide) ?_
  exact kRETZ X4 (gEL G) (t := .byte) hret (by simp) d13_14 (fun ve hve => ⟨rfl, rfl⟩) (by decide)
def R_rm31 : Room := { frames := 1, cells := 0, slots := 0, locals := 13 }
theorem rm31 (G : Glob Z a0 iCS vSI) (i0 : Int32) (q0 q1 : Addr) (kp0 : ClassId) (h0 : Heap) (Z0 : n0 ≤ h0.size) (O0 : Old Z n0 h0) (F_q0_value : Fld Z h0 q0 "java/lang/String" "value" "[B" (.ref q1)) (A_q1 : Arv Z h0 q1 kp0 .byte 2 [.int (ownB i0), .int (ownH i0)] (.int 0)) (c_1 : ¬ (65535 : Int32) < i0) (c_2 : ¬ i0 < 0) (F_q0_coder : Fld Z h0 q0 "java/lang/String" "coder" "B" (.int 1)) (E_q0 : Exa Z h0 q0 "java/lang/String") : MetH l Z EL0 n0 N_jdk_42_m_54 jdk_42_method_54_code 1 (some .int) [] R_rm31 #[.ref q0] h0 [] (fun vs v h ve => (v = some (.int 1) ∧ (h0 = h))) := by
  refine MetH.of #[.val (.ref q0)] (plainFor_of_name pn_java_lang_String) rfl Z0 (fun p e s m below meth c T0 hret hml hnm hSL hs0 X0 => ?_)
  refine kALn X0 d12_0 rfl rfl ?_
  refine kGETF X0 (wd G 26 rfl) Via.refl F_q0_value d12_1 (fun T1 X2 => ?_)
  refine kLEN X2 A_q1 d12_4 ?_
  refine kALn X2 d12_5 rfl rfl ?_
  refine kVIRT X2 (gEL G) (argsL := []) (rest := [.int 2]) (wd G 68 rfl) (wd G 69 rfl) (own_nf X2.hZ (own_noinst (wd G 7 rfl))) (wd G 71 rfl) (wd G 70 rfl) (wd G 8 rfl) (wd G 72 rfl) (by decide) E_q0 (rm32 G i0 q0 q1 kp0 h0 X2.n O0 F_q0_coder) all0 (lenOf pd___B rfl) rfl 1 rfl (by decide) hml.symm d12_6 (fun v3 T4 h5 vm6 _ w7 q8 C9 C10 X11 => ?_)
  obtain ⟨e13, f14⟩ := q8
  subst e13
  subst f14
  show Go _ _ _ _ _ (mkF _ _ _ [.int 1, .int 2])
  refine kISHR X11 1 d12_9 (by decide) ?_
  exact kRETI X11 (gEL G) hret d12_10 (fun ve hve => ⟨rfl, rfl⟩) (by decide)
theorem pf_java_lang_Math_max : plainFor ⟨"java/lang/Math", "max", "(II)I"⟩ = true := by decide +kernel
theorem d10_33 : decode jdk_42_method_80_code 33 = .ok (.invokestatic 640, 3) := by decide +kernel
theorem d24_0 : decode jdk_52_method_40_code 0 = .ok (.iload_n 2, 1) := by decide +kernel
theorem d24_1 : decode jdk_52_method_40_code 1 = .ok (.iconst 0, 1) := by decide +kernel
theorem d24_2 : decode jdk_52_method_40_code 2 = .ok (.invokestatic 224, 3) := by decide +kernel
theorem d25_0 : decode jdk_29_method_65_code 0 = .ok (.iload_n 0, 1) := by decide +kernel
theorem d25_1 : decode jdk_29_method_65_code 1 = .ok (.iload_n 1, 1) := by decide +kernel
theorem d25_2 : decode jdk_29_method_65_code 2 = .ok (.if_icmp .lt 7, 3) := by decide +kernel
theorem d25_5 : decode jdk_29_method_65_code 5 = .ok (.iload_n 0, 1) := by decide +kernel
theorem d25_6 : decode jdk_29_method_65_code 6 = .ok (.goto 4, 3) := by decide +kernel
theorem d25_10 : decode jdk_29_method_65_code 10 = .ok (.ireturn, 1) := by decide +kernel
def N_jdk_29_m_65 : MethodName := ⟨"java/lang/Math", "max", "(II)I"⟩
def R_rm34 : Room := { frames := 0, cells := 0, slots := 0, locals := 0 }
theorem rm34 (G : Glob Z a0 iCS vSI)  (h0 : Heap) (Z0 : n0 ≤ h0.size) (O0 : Old Z n0 h0)  : MetH l Z EL0 n0 N_jdk_29_m_65 jdk_29_method_65_code 2 (some .int) [] R_rm34 #[.int 0, .int 0] h0 [] (fun vs v h ve => (v = some (.int 0) ∧ (h0 = h))) := by
  refine MetH.of #[.val (.int 0), .val (.int 0)] pf_java_lang_Math_max rfl Z0 (fun p e s m below meth c T0 hret hml hnm hSL hs0 X0 => ?_)
  refine kILn X0 d25_0 rfl ?_
  refine kILn X0 d25_1 rfl ?_
  refine kICf X0 d25_2 (XT.ii_lt_f (by decide)) ?_
  refine kILn X0 d25_5 rfl ?_
  refine kGOTO X0 10 d25_6 (by decide) ?_
  exact kRETI X0 (gEL G) hret d25_10 (fun ve hve => ⟨rfl, rfl⟩) (by decide)
theorem pf_java_lang_Math_min : plainFor ⟨"java/lang/Math", "min", "(II)I"⟩ = true := by decide +kernel
theorem d24_5 : decode jdk_52_method_40_code 5 = .ok (.istore_n 2, 1) := by decide +kernel
theorem d24_6 : decode jdk_52_method_40_code 6 = .ok (.iload_n 3, 1) := by decide +kernel
theorem d24_7 : decode jdk_52_method_40_code 7 = .ok (.aload_n 0, 1) := by decide +kernel
theorem d24_8 : decode jdk_52_method_40_code 8 = .ok (.arraylength, 1) := by decide +kernel
theorem d24_9 : decode jdk_52_method_40_code 9 = .ok (.iconst 1, 1) := by decide +kernel
theorem d24_10 : decode jdk_52_method_40_code 10 = .ok (.ishr, 1) := by decide +kernel
theorem d24_11 : decode jdk_52_method_40_code 11 = .ok (.invokestatic 183, 3) := by decide +kernel
theorem d26_0 : decode jdk_29_method_69_code 0 = .ok (.iload_n 0, 1) := by decide +kernel
theorem d26_1 : decode jdk_29_method_69_code 1 = .ok (.iload_n 1, 1) := by decide +kernel
theorem d26_2 : decode jdk_29_method_69_code 2 = .ok (.if_icmp .gt 7, 3) := by decide +kernel
theorem d26_5 : decode jdk_29_method_69_code 5 = .ok (.iload_n 0, 1) := by decide +kernel
theorem d26_6 : decode jdk_29_method_69_code 6 = .ok (.goto 4, 3) := by decide +kernel
theorem d26_10 : decode jdk_29_method_69_code 10 = .ok (.ireturn, 1) := by decide +kernel
def N_jdk_29_m_69 : MethodName := ⟨"java/lang/Math", "min", "(II)I"⟩
def R_rm35 : Room := { frames := 0, cells := 0, slots := 0, locals := 0 }
theorem rm35 (G : Glob Z a0 iCS vSI)  (h0 : Heap) (Z0 : n0 ≤ h0.size) (O0 : Old Z n0 h0)  : MetH l Z EL0 n0 N_jdk_29_m_69 jdk_29_method_69_code 2 (some .int) [] R_rm35 #[.int 1, .int 1] h0 [] (fun vs v h ve => (v = some (.int 1) ∧ (h0 = h))) := by
  refine MetH.of #[.val (.int 1), .val (.int 1)] pf_java_lang_Math_min rfl Z0 (fun p e s m below meth c T0 hret hml hnm hSL hs0 X0 => ?_)
  refine kILn X0 d26_0 rfl ?_
  refine kILn X0 d26_1 rfl ?_
  refine kICf X0 d26_2 (XT.ii_gt_f (by decide)) ?_
  refine kILn X0 d26_5 rfl ?_
  refine kGOTO X0 10 d26_6 (by decide) ?_
  exact kRETI X0 (gEL G) hret d26_10 (fun ve hve => ⟨rfl, rfl⟩) (by decide)
theorem d24_14 : decode jdk_52_method_40_code 14 = .ok (.istore_n 3, 1) := by decide +kernel
theorem d24_15 : decode jdk_52_method_40_code 15 = .ok (.iload_n 2, 1) := by decide +kernel
theorem d24_16 : decode jdk_52_method_40_code 16 = .ok (.iload_n 3, 1) := by decide +kernel
theorem d24_17 : decode jdk_52_method_40_code 17 = .ok (.if_icmp .lt 5, 3) := by decide +kernel
theorem d24_22 : decode jdk_52_method_40_code 22 = .ok (.iload_n 1, 1) := by decide +kernel
theorem d24_23 : decode jdk_52_method_40_code 23 = .ok (.ldc 227, 2) := by decide +kernel
theorem d24_25 : decode jdk_52_method_40_code 25 = .ok (.if_icmp .ge 11, 3) := by decide +kernel
theorem d24_28 : decode jdk_52_method_40_code 28 = .ok (.aload_n 0, 1) := by decide +kernel
theorem d24_29 : decode jdk_52_method_40_code 29 = .ok (.iload_n 1, 1) := by decide +kernel
theorem d24_30 : decode jdk_52_method_40_code 30 = .ok (.iload_n 2, 1) := by decide +kernel
theorem d24_31 : decode jdk_52_method_40_code 31 = .ok (.iload_n 3, 1) := by decide +kernel
theorem d24_32 : decode jdk_52_method_40_code 32 = .ok (.invokestatic 228, 3) := by decide +kernel
theorem d27_0 : decode jdk_52_method_47_code 0 = .ok (.iload_n 2, 1) := by decide +kernel
theorem d27_1 : decode jdk_52_method_47_code 1 = .ok (.iload_n 3, 1) := by decide +kernel
theorem d27_2 : decode jdk_52_method_47_code 2 = .ok (.aload_n 0, 1) := by decide +kernel
theorem d27_3 : decode jdk_52_method_47_code 3 = .ok (.invokestatic 96, 3) := by decide +kernel
theorem d28_0 : decode jdk_52_method_93_code 0 = .ok (.iload_n 0, 1) := by decide +kernel
theorem d28_1 : decode jdk_52_method_93_code 1 = .ok (.iload_n 1, 1) := by decide +kernel
theorem d28_2 : decode jdk_52_method_93_code 2 = .ok (.aload_n 2, 1) := by decide +kernel
theorem d28_3 : decode jdk_52_method_93_code 3 = .ok (.invokestatic 48, 3) := by decide +kernel
theorem d29_0 : decode jdk_52_method_6_code 0 = .ok (.aload_n 0, 1) := by decide +kernel
theorem d29_1 : decode jdk_52_method_6_code 1 = .ok (.arraylength, 1) := by decide +kernel
theorem d29_2 : decode jdk_52_method_6_code 2 = .ok (.iconst 1, 1) := by decide +kernel
theorem d29_3 : decode jdk_52_method_6_code 3 = .ok (.ishr, 1) := by decide +kernel
theorem d29_4 : decode jdk_52_method_6_code 4 = .ok (.ireturn, 1) := by decide +kernel
def N_jdk_52_m_6 : MethodName := ⟨"java/lang/StringUTF16", "length", "([B)I"⟩
def R_rm38 : Room := { frames := 0, cells := 0, slots := 0, locals := 0 }
theorem rm38 (G : Glob Z a0 iCS vSI) (i0 : Int32) (q0 : Addr) (kp0 : ClassId) (h0 : Heap) (Z0 : n0 ≤ h0.size) (O0 : Old Z n0 h0) (A_q0 : Arv Z h0 q0 kp0 .byte 2 [.int (ownB i0), .int (ownH i0)] (.int 0)) : MetH l Z EL0 n0 N_jdk_52_m_6 jdk_52_method_6_code 1 (some .int) [] R_rm38 #[.ref q0] h0 [] (fun vs v h ve => (v = some (.int 1) ∧ (h0 = h))) := by
  refine MetH.of #[.val (.ref q0)] (plainFor_of_name pn_java_lang_StringUTF16) rfl Z0 (fun p e s m below meth c T0 hret hml hnm hSL hs0 X0 => ?_)
  refine kALn X0 d29_0 rfl rfl ?_
  refine kLEN X0 A_q0 d29_1 ?_
  refine kIC X0 1 d29_2 (by decide) ?_
  refine kISHR X0 1 d29_3 (by decide) ?_
  exact kRETI X0 (gEL G) hret d29_4 (fun ve hve => ⟨rfl, rfl⟩) (by decide)
theorem pn_jdk_internal_util_Preconditions : plainName "jdk/internal/util/Preconditions" = true := by first | (simp [plainName, overriddenIn]; done) | decide +kernel
theorem pd___B_I : parseMethodDescriptor "([B)I" = some ⟨[.array (.byte)], some .int⟩ := by decide +kernel
theorem d28_6 : decode jdk_52_method_93_code 6 = .ok (.invokestatic 241, 3) := by decide +kernel
theorem d30_0 : decode jdk_42_method_158_code 0 = .ok (.iload_n 0, 1) := by decide +kernel
theorem d30_1 : decode jdk_42_method_158_code 1 = .ok (.iload_n 1, 1) := by decide +kernel
theorem d30_2 : decode jdk_42_method_158_code 2 = .ok (.iload_n 2, 1) := by decide +kernel
theorem d30_3 : decode jdk_42_method_158_code 3 = .ok (.getstatic 1053, 3) := by decide +kernel
theorem d30_6 : decode jdk_42_method_158_code 6 = .ok (.invokestatic 1062, 3) := by decide +kernel
theorem d31_0 : decode jdk_41_method_12_code 0 = .ok (.iload_n 0, 1) := by decide +kernel
theorem d31_1 : decode jdk_41_method_12_code 1 = .ok (.ifCond .lt 13, 3) := by decide +kernel
theorem d31_4 : decode jdk_41_method_12_code 4 = .ok (.iload_n 0, 1) := by decide +kernel
theorem d31_5 : decode jdk_41_method_12_code 5 = .ok (.iload_n 1, 1) := by decide +kernel
theorem d31_6 : decode jdk_41_method_12_code 6 = .ok (.if_icmp .gt 8, 3) := by decide +kernel
theorem d31_9 : decode jdk_41_method_12_code 9 = .ok (.iload_n 1, 1) := by decide +kernel
theorem d31_10 : decode jdk_41_method_12_code 10 = .ok (.iload_n 2, 1) := by decide +kernel
theorem d31_11 : decode jdk_41_method_12_code 11 = .ok (.if_icmp .le 11, 3) := by decide +kernel
theorem d31_22 : decode jdk_41_method_12_code 22 = .ok (.iload_n 0, 1) := by decide +kernel
theorem d31_23 : decode jdk_41_method_12_code 23 = .ok (.ireturn, 1) := by decide +kernel
def N_jdk_41_m_12 : MethodName := ⟨"jdk/internal/util/Preconditions", "checkFromToIndex", "(IIILjava/util/function/BiFunction;)I"⟩
def R_rm40 : Room := { frames := 0, cells := 0, slots := 0, locals := 0 }
theorem rm40 (G : Glob Z a0 iCS vSI)  (h0 : Heap) (Z0 : n0 ≤ h0.size) (O0 : Old Z n0 h0)  : MetH l Z EL0 n0 N_jdk_41_m_12 jdk_41_method_12_code 4 (some .int) [] R_rm40 #[.int 0, .int 1, .int 1, vSI] h0 [] (fun vs v h ve => (v = some (.int 0) ∧ (h0 = h))) := by
  refine MetH.of #[.val (.int 0), .val (.int 1), .val (.int 1), .val (vSI)] (plainFor_of_name pn_jdk_internal_util_Preconditions) (own_ref (P := fun v => (#[.val (.int 0), .val (.int 1), .val (.int 1), .val (v)] : Array Slot) = (ownLay [.int 0, .int 1, .int 1, v] ++ List.replicate (4 - (ownLay [.int 0, .int 1, .int 1, v]).length) Slot.unset).toArray) (r_SI G) rfl (fun _ => rfl)) Z0 (fun p e s m below meth c T0 hret hml hnm hSL hs0 X0 => ?_)
  refine kILn X0 d31_0 rfl ?_
  refine kIFf X0 d31_1 (XT.i0_lt_f (by decide)) ?_
  refine kILn X0 d31_4 rfl ?_
  refine kILn X0 d31_5 rfl ?_
  refine kICf X0 d31_6 (XT.ii_gt_f (by decide)) ?_
  refine kILn X0 d31_9 rfl ?_
  refine kILn X0 d31_10 rfl ?_
  refine kICt X0 22 d31_11 (XT.ii_le_t (by decide)) (by decide) ?_
  refine kILn X0 d31_22 rfl ?_
  exact kRETI X0 (gEL G) hret d31_23 (fun ve hve => ⟨rfl, rfl⟩) (by decide)
theorem pd__IIILjava_util_function_BiFunction__I : parseMethodDescriptor "(IIILjava/util/function/BiFunction;)I" = some ⟨[.int, .int, .int, .object "java/util/function/BiFunction"], some .int⟩ := by decide +kernel
theorem d30_9 : decode jdk_42_method_158_code 9 = .ok (.pop, 1) := by decide +kernel
theorem d30_10 : decode jdk_42_method_158_code 10 = .ok (.return_, 1) := by decide +kernel
def N_jdk_42_m_158 : MethodName := ⟨"java/lang/String", "checkBoundsBeginEnd", "(III)V"⟩
def R_rm39 : Room := { frames := 1, cells := 0, slots := 0, locals := 15 }
theorem rm39 (G : Glob Z a0 iCS vSI)  (h0 : Heap) (Z0 : n0 ≤ h0.size) (O0 : Old Z n0 h0)  : MetH l Z EL0 n0 N_jdk_42_m_158 jdk_42_method_158_code 3 none [] R_rm39 #[.int 0, .int 1, .int 1] h0 [] (fun vs v h ve => (v = none ∧ (h0 = h))) := by
  refine MetH.of #[.val (.int 0), .val (.int 1), .val (.int 1)] (plainFor_of_name pn_java_lang_String) rfl Z0 (fun p e s m below meth c T0 hret hml hnm hSL hs0 X0 => ?_)
  refine kILn X0 d30_0 rfl ?_
  refine kILn X0 d30_1 rfl ?_
  refine kILn X0 d30_2 rfl ?_
  refine kGETS X0 (wd G 131 rfl) Via.refl (Sta.ext O0.2 (S_SI G)) d30_3 (fun T1 X2 => ?_)
  refine kSTAT X2 (gEL G) (argsL := [.int 0, .int 1, .int 1, vSI]) (rest := []) (wd G 133 rfl) (wd G 134 rfl) (wd G 132 rfl) (wd G 135 rfl) (by decide) (rm40 G  h0 X2.n O0 ) all0 (lenOf pd__IIILjava_util_function_BiFunction__I rfl) rfl 0 rfl (by decide) hml.symm d30_6 (fun v3 T4 h5 vm6 _ w7 q8 C9 C10 X11 => ?_)
  obtain ⟨e13, f14⟩ := q8
  subst e13
  subst f14
  show Go _ _ _ _ _ (mkF _ _ _ [.int 0])
  refine kPOP X11 d30_9 rfl ?_
  exact kRETV X11 (gEL G) hret d30_10 (fun ve hve => ⟨rfl, rfl⟩) (by decide)
theorem pd__III_V : parseMethodDescriptor "(III)V" = some ⟨[.int, .int, .int], none⟩ := by decide +kernel
theorem d28_9 : decode jdk_52_method_93_code 9 = .ok (.return_, 1) := by decide +kernel
def N_jdk_52_m_93 : MethodName := ⟨"java/lang/StringUTF16", "checkBoundsBeginEnd", "(II[B)V"⟩
def R_rm37 : Room := { frames := 2, cells := 0, slots := 0, locals := 29 }
theorem rm37 (G : Glob Z a0 iCS vSI) (i0 : Int32) (q0 : Addr) (kp0 : ClassId) (h0 : Heap) (Z0 : n0 ≤ h0.size) (O0 : Old Z n0 h0) (c_1 : ¬ (65535 : Int32) < i0) (c_2 : ¬ i0 < 0) (A_q0 : Arv Z h0 q0 kp0 .byte 2 [.int (ownB i0), .int (ownH i0)] (.int 0)) : MetH l Z EL0 n0 N_jdk_52_m_93 jdk_52_method_93_code 3 none [] R_rm37 #[.int 0, .int 1, .ref q0] h0 [] (fun vs v h ve => (v = none ∧ (h0 = h))) := by
  refine MetH.of #[.val (.int 0), .val (.int 1), .val (.ref q0)] (plainFor_of_name pn_java_lang_StringUTF16) rfl Z0 (fun p e s m below meth c T0 hret hml hnm hSL hs0 X0 => ?_)
  refine kILn X0 d28_0 rfl ?_
  refine kILn X0 d28_1 rfl ?_
  refine kALn X0 d28_2 rfl rfl ?_
  refine kSTAT X0 (gEL G) (argsL := [.ref q0]) (rest := [.int 1, .int 0]) (wd G 125 rfl) (wd G 126 rfl) (wd G 81 rfl) (wd G 127 rfl) (by decide) (rm38 G i0 q0 kp0 h0 X0.n O0 A_q0) all0 (lenOf pd___B_I rfl) rfl 2 rfl (by decide) hml.symm d28_3 (fun v1 T2 h3 vm4 _ w5 q6 C7 C8 X9 => ?_)
  obtain ⟨e11, f12⟩ := q6
  subst e11
  subst f12
  show Go _ _ _ _ _ (mkF _ _ _ [.int 1, .int 1, .int 0])
  refine kSTAT X9 (gEL G) (argsL := [.int 0, .int 1, .int 1]) (rest := []) (wd G 128 rfl) (wd G 129 rfl) (wd G 8 rfl) (wd G 130 rfl) (by decide) (rm39 G  h0 X9.n O0 ) all0 (lenOf pd__III_V rfl) rfl 0 rfl (by decide) hml.symm d28_6 (fun v13 T14 h15 vm16 _ w17 q18 C19 C20 X21 => ?_)
  obtain ⟨e23, f24⟩ := q18
  subst e23
  subst f24
  show Go _ _ _ _ _ (mkF _ _ _ [])
  exact kRETV X21 (gEL G) hret d28_9 (fun ve hve => ⟨rfl, rfl⟩) (by decide)
theorem pd__II_B_V : parseMethodDescriptor "(II[B)V" = some ⟨[.int, .int, .array (.byte)], none⟩ := by decide +kernel
theorem d27_6 : decode jdk_52_method_47_code 6 = .ok (.aload_n 0, 1) := by decide +kernel
theorem d27_7 : decode jdk_52_method_47_code 7 = .ok (.iload_n 1, 1) := by decide +kernel
theorem d27_8 : decode jdk_52_method_47_code 8 = .ok (.iload_n 2, 1) := by decide +kernel
theorem d27_9 : decode jdk_52_method_47_code 9 = .ok (.iload_n 3, 1) := by decide +kernel
theorem d27_10 : decode jdk_52_method_47_code 10 = .ok (.invokestatic 244, 3) := by decide +kernel
theorem d32_0 : decode jdk_52_method_48_code 0 = .ok (.iload_n 2, 1) := by decide +kernel
theorem d32_1 : decode jdk_52_method_48_code 1 = .ok (.istore 4, 2) := by decide +kernel
theorem d32_3 : decode jdk_52_method_48_code 3 = .ok (.iload 4, 2) := by decide +kernel
theorem d32_5 : decode jdk_52_method_48_code 5 = .ok (.iload_n 3, 1) := by decide +kernel
theorem d32_6 : decode jdk_52_method_48_code 6 = .ok (.if_icmp .ge 22, 3) := by decide +kernel
theorem d32_9 : decode jdk_52_method_48_code 9 = .ok (.aload_n 0, 1) := by decide +kernel
theorem d32_10 : decode jdk_52_method_48_code 10 = .ok (.iload 4, 2) := by decide +kernel
theorem d32_12 : decode jdk_52_method_48_code 12 = .ok (.invokestatic 71, 3) := by decide +kernel
theorem d32_15 : decode jdk_52_method_48_code 15 = .ok (.iload_n 1, 1) := by decide +kernel
theorem d32_16 : decode jdk_52_method_48_code 16 = .ok (.if_icmp .ne 6, 3) := by decide +kernel
theorem d32_22 : decode jdk_52_method_48_code 22 = .ok (.iinc 4 1, 3) := by decide +kernel
theorem d32_25 : decode jdk_52_method_48_code 25 = .ok (.goto (-22), 3) := by decide +kernel
theorem d32_28 : decode jdk_52_method_48_code 28 = .ok (.iconst (-1), 1) := by decide +kernel
theorem d32_29 : decode jdk_52_method_48_code 29 = .ok (.ireturn, 1) := by decide +kernel
def N_jdk_52_m_48 : MethodName := ⟨"java/lang/StringUTF16", "indexOfCharUnsafe", "([BIII)I"⟩
def R_rm41 : Room := { frames := 1, cells := 0, slots := 0, locals := 13 }
theorem rm41 (G : Glob Z a0 iCS vSI) (i0 : Int32) (q0 : Addr) (kp0 : ClassId) (h0 : Heap) (Z0 : n0 ≤ h0.size) (O0 : Old Z n0 h0) (c_1 : ¬ (65535 : Int32) < i0) (c_2 : ¬ i0 < 0) (A_q0 : Arv Z h0 q0 kp0 .byte 2 [.int (ownB i0), .int (ownH i0)] (.int 0)) (c_3 : ¬ i0 = (65533 : Int32)) : MetH l Z EL0 n0 N_jdk_52_m_48 jdk_52_method_48_code 5 (some .int) [] R_rm41 #[.ref q0, .int 65533, .int 0, .int 1] h0 [] (fun vs v h ve => (v = some (.int (-1)) ∧ (h0 = h))) := by
  refine MetH.of #[.val (.ref q0), .val (.int 65533), .val (.int 0), .val (.int 1), .unset] (plainFor_of_name pn_java_lang_StringUTF16) rfl Z0 (fun p e s m below meth c T0 hret hml hnm hSL hs0 X0 => ?_)
  refine kILn X0 d32_0 rfl ?_
  refine kIS X0 #[.val (.ref q0), .val (.int 65533), .val (.int 0), .val (.int 1), .val (.int 0)] d32_1 rfl ?_
  refine kIL X0 d32_3 rfl ?_
  refine kILn X0 d32_5 rfl ?_
  refine kICf X0 d32_6 (XT.ii_ge_f (by decide)) ?_
  refine kALn X0 d32_9 rfl rfl ?_
  refine kIL X0 d32_10 rfl ?_
  refine kSTAT X0 (gEL G) (argsL := [.ref q0, .int 0]) (rest := []) (wd G 105 rfl) (wd G 106 rfl) (wd G 81 rfl) (wd G 107 rfl) (by decide) (rm24 G i0 q0 kp0 h0 X0.n O0 A_q0 c_1 c_2) all0 (lenOf pd___BI_C rfl) rfl 0 rfl (by decide) hml.symm d32_12 (fun v1 T2 h3 vm4 _ w5 q6 C7 C8 X9 => ?_)
  obtain ⟨e11, f12⟩ := q6
  subst e11
  subst f12
  show Go _ _ _ _ _ (mkF _ _ _ [.int i0])
  refine kILn X9 d32_15 rfl ?_
  refine kICt X9 22 d32_16 (XT.ii_ne_t c_3) (by decide) ?_
  refine kIINC X9 (1 : Int32) (1 : Int32) #[.val (.ref q0), .val (.int 65533), .val (.int 0), .val (.int 1), .val (.int 1)] d32_22 (by decide) rfl (by decide) rfl ?_
  refine kGOTO X9 3 d32_25 (by decide) ?_
  refine kIL X9 d32_3 rfl ?_
  refine kILn X9 d32_5 rfl ?_
  refine kICt X9 28 d32_6 (XT.ii_ge_t (by decide)) (by decide) ?_
  refine kIC X9 (-1) d32_28 (by decide) ?_
  exact kRETI X9 (gEL G) hret d32_29 (fun ve hve => ⟨rfl, rfl⟩) (by decide)
theorem d27_13 : decode jdk_52_method_47_code 13 = .ok (.ireturn, 1) := by decide +kernel
def N_jdk_52_m_47 : MethodName := ⟨"java/lang/StringUTF16", "indexOfChar", "([BIII)I"⟩
def R_rm36 : Room := { frames := 3, cells := 0, slots := 0, locals := 43 }
theorem rm36 (G : Glob Z a0 iCS vSI) (i0 : Int32) (q0 : Addr) (kp0 : ClassId) (h0 : Heap) (Z0 : n0 ≤ h0.size) (O0 : Old Z n0 h0) (c_1 : ¬ (65535 : Int32) < i0) (c_2 : ¬ i0 < 0) (A_q0 : Arv Z h0 q0 kp0 .byte 2 [.int (ownB i0), .int (ownH i0)] (.int 0)) (c_3 : ¬ i0 = (65533 : Int32)) : MetH l Z EL0 n0 N_jdk_52_m_47 jdk_52_method_47_code 4 (some .int) [] R_rm36 #[.ref q0, .int 65533, .int 0, .int 1] h0 [] (fun vs v h ve => (v = some (.int (-1)) ∧ (h0 = h))) := by
  refine MetH.of #[.val (.ref q0), .val (.int 65533), .val (.int 0), .val (.int 1)] (plainFor_of_name pn_java_lang_StringUTF16) rfl Z0 (fun p e s m below meth c T0 hret hml hnm hSL hs0 X0 => ?_)
  refine kILn X0 d27_0 rfl ?_
  refine kILn X0 d27_1 rfl ?_
  refine kALn X0 d27_2 rfl rfl ?_
  refine kSTAT X0 (gEL G) (argsL := [.int 0, .int 1, .ref q0]) (rest := []) (wd G 122 rfl) (wd G 123 rfl) (wd G 81 rfl) (wd G 124 rfl) (by decide) (rm37 G i0 q0 kp0 h0 X0.n O0 c_1 c_2 A_q0) all0 (lenOf pd__II_B_V rfl) rfl 0 rfl (by decide) hml.symm d27_3 (fun v1 T2 h3 vm4 _ w5 q6 C7 C8 X9 => ?_)
  obtain ⟨e11, f12⟩ := q6
  subst e11
  subst f12
  show Go _ _ _ _ _ (mkF _ _ _ [])
  refine kALn X9 d27_6 rfl rfl ?_
  refine kILn X9 d27_7 rfl ?_
  refine kILn X9 d27_8 rfl ?_
  refine kILn X9 d27_9 rfl ?_
  refine kSTAT X9 (gEL G) (argsL := [.ref q0, .int 65533, .int 0, .int 1]) (rest := []) (wd G 136 rfl) (wd G 137 rfl) (wd G 81 rfl) (wd G 138 rfl) (by decide) (rm41 G i0 q0 kp0 h0 X9.n O0 c_1 c_2 A_q0 c_3) all0 (lenOf pd___BIII_I rfl) rfl 0 rfl (by decide) hml.symm d27_10 (fun v13 T14 h15 vm16 _ w17 q18 C19 C20 X21 => ?_)
  obtain ⟨e23, f24⟩ := q18
  subst e23
  subst f24
  show Go _ _ _ _ _ (mkF _ _ _ [.int (-1)])
  exact kRETI X21 (gEL G) hret d27_13 (fun ve hve => ⟨rfl, rfl⟩) (by decide)
theorem d24_35 : decode jdk_52_method_40_code 35 = .ok (.ireturn, 1) := by decide +kernel
def N_jdk_52_m_40 : MethodName := ⟨"java/lang/StringUTF16", "indexOf", "([BIII)I"⟩
def R_rm33 : Room := { frames := 4, cells := 0, slots := 0, locals := 58 }
theorem rm33 (G : Glob Z a0 iCS vSI) (i0 : Int32) (q0 : Addr) (kp0 : ClassId) (h0 : Heap) (Z0 : n0 ≤ h0.size) (O0 : Old Z n0 h0) (A_q0 : Arv Z h0 q0 kp0 .byte 2 [.int (ownB i0), .int (ownH i0)] (.int 0)) (c_1 : ¬ (65535 : Int32) < i0) (c_2 : ¬ i0 < 0) (c_3 : ¬ i0 = (65533 : Int32)) : MetH l Z EL0 n0 N_jdk_52_m_40 jdk_52_method_40_code 4 (some .int) [] R_rm33 #[.ref q0, .int 65533, .int 0, .int 1] h0 [] (fun vs v h ve => (v = some (.int (-1)) ∧ (h0 = h))) := by
  refine MetH.of #[.val (.ref q0), .val (.int 65533), .val (.int 0), .val (.int 1)] (plainFor_of_name pn_java_lang_StringUTF16) rfl Z0 (fun p e s m below meth c T0 hret hml hnm hSL hs0 X0 => ?_)
  refine kILn X0 d24_0 rfl ?_
  refine kIC X0 0 d24_1 (by decide) ?_
  refine kSTAT X0 (gEL G) (argsL := [.int 0, .int 0]) (rest := []) (wd G 111 rfl) (wd G 112 rfl) (wd G 113 rfl) (wd G 114 rfl) (by decide) (rm34 G  h0 X0.n O0 ) all0 (lenOf pd__II_I rfl) rfl 0 rfl (by decide) hml.symm d24_2 (fun v1 T2 h3 vm4 _ w5 q6 C7 C8 X9 => ?_)
  obtain ⟨e11, f12⟩ := q6
  subst e11
  subst f12
  show Go _ _ _ _ _ (mkF _ _ _ [.int 0])
  refine kISn X9 #[.val (.ref q0), .val (.int 65533), .val (.int 0), .val (.int 1)] d24_5 rfl ?_
  refine kILn X9 d24_6 rfl ?_
  refine kALn X9 d24_7 rfl rfl ?_
  refine kLEN X9 A_q0 d24_8 ?_
  refine kIC X9 1 d24_9 (by decide) ?_
  refine kISHR X9 1 d24_10 (by decide) ?_
  refine kSTAT X9 (gEL G) (argsL := [.int 1, .int 1]) (rest := []) (wd G 115 rfl) (wd G 116 rfl) (wd G 113 rfl) (wd G 117 rfl) (by decide) (rm35 G  h0 X9.n O0 ) all0 (lenOf pd__II_I rfl) rfl 0 rfl (by decide) hml.symm d24_11 (fun v13 T14 h15 vm16 _ w17 q18 C19 C20 X21 => ?_)
  obtain ⟨e23, f24⟩ := q18
  subst e23
  subst f24
  show Go _ _ _ _ _ (mkF _ _ _ [.int 1])
  refine kISn X21 #[.val (.ref q0), .val (.int 65533), .val (.int 0), .val (.int 1)] d24_14 rfl ?_
  refine kILn X21 d24_15 rfl ?_
  refine kILn X21 d24_16 rfl ?_
  refine kICt X21 22 d24_17 (XT.ii_lt_t (by decide)) (by decide) ?_
  refine kILn X21 d24_22 rfl ?_
  refine kLDCI X21 (wd G 118 rfl) d24_23 ?_
  refine kICf X21 d24_25 (XT.ii_ge_f (by decide)) ?_
  refine kALn X21 d24_28 rfl rfl ?_
  refine kILn X21 d24_29 rfl ?_
  refine kILn X21 d24_30 rfl ?_
  refine kILn X21 d24_31 rfl ?_
  refine kSTAT X21 (gEL G) (argsL := [.ref q0, .int 65533, .int 0, .int 1]) (rest := []) (wd G 119 rfl) (wd G 120 rfl) (wd G 81 rfl) (wd G 121 rfl) (by decide) (rm36 G i0 q0 kp0 h0 X21.n O0 c_1 c_2 A_q0 c_3) all0 (lenOf pd___BIII_I rfl) rfl 0 rfl (by decide) hml.symm d24_32 (fun v25 T26 h27 vm28 _ w29 q30 C31 C32 X33 => ?_)
  obtain ⟨e35, f36⟩ := q30
  subst e35
  subst f36
  show Go _ _ _ _ _ (mkF _ _ _ [.int (-1)])
  exact kRETI X33 (gEL G) hret d24_35 (fun ve hve => ⟨rfl, rfl⟩) (by decide)
def R_rm29 : Room := { frames := 5, cells := 0, slots := 0, locals := 73 }
theorem rm29 (G : Glob Z a0 iCS vSI) (i0 : Int32) (q0 q1 : Addr) (kp0 : ClassId) (h0 : Heap) (Z0 : n0 ≤ h0.size) (O0 : Old Z n0 h0) (c_1 : ¬ (65535 : Int32) < i0) (c_2 : ¬ i0 < 0) (F_q0_coder : Fld Z h0 q0 "java/lang/String" "coder" "B" (.int 1)) (E_q0 : Exa Z h0 q0 "java/lang/String") (F_q0_value : Fld Z h0 q0 "java/lang/String" "value" "[B" (.ref q1)) (A_q1 : Arv Z h0 q1 kp0 .byte 2 [.int (ownB i0), .int (ownH i0)] (.int 0)) (c_3 : ¬ i0 = (65533 : Int32)) : MetH l Z EL0 n0 N_jdk_42_m_80 jdk_42_method_80_code 3 (some .int) [] R_rm29 #[.ref q0, .int 65533, .int 0] h0 [] (fun vs v h ve => (v = some (.int (-1)) ∧ (h0 = h))) := by
  refine MetH.of #[.val (.ref q0), .val (.int 65533), .val (.int 0)] (plainFor_of_name pn_java_lang_String) rfl Z0 (fun p e s m below meth c T0 hret hml hnm hSL hs0 X0 => ?_)
  refine kALn X0 d10_0 rfl rfl ?_
  refine kVIRT X0 (gEL G) (argsL := []) (rest := []) (wd G 58 rfl) (wd G 59 rfl) (own_nf X0.hZ (own_noinst (wd G 7 rfl))) (wd G 61 rfl) (wd G 60 rfl) (wd G 8 rfl) (wd G 62 rfl) (by decide) E_q0 (rm30 G i0 q0 q1 kp0 h0 X0.n O0 F_q0_coder) all0 (lenOf pd___Z rfl) rfl 0 rfl (by decide) hml.symm d10_1 (fun v1 T2 h3 vm4 _ w5 q6 C7 C8 X9 => ?_)
  obtain ⟨e11, f12⟩ := q6
  subst e11
  subst f12
  show Go _ _ _ _ _ (mkF _ _ _ [.int 0])
  refine kIFt X9 23 d10_4 (XT.i0_eq_t (by decide)) (by decide) ?_
  refine kALn X9 d10_23 rfl rfl ?_
  refine kGETF X9 (wd G 26 rfl) Via.refl F_q0_value d10_24 (fun T13 X14 => ?_)
  refine kILn X14 d10_27 rfl ?_
  refine kILn X14 d10_28 rfl ?_
  refine kALn X14 d10_29 rfl rfl ?_
  refine kVIRT X14 (gEL G) (argsL := []) (rest := [.int 0, .int 65533, .ref q1]) (wd G 63 rfl) (wd G 64 rfl) (own_nf X14.hZ (own_noinst (wd G 7 rfl))) (wd G 66 rfl) (wd G 65 rfl) (wd G 8 rfl) (wd G 67 rfl) (by decide) E_q0 (rm31 G i0 q0 q1 kp0 h0 X14.n O0 F_q0_value A_q1 c_1 c_2 F_q0_coder E_q0) all0 (lenOf pd___I rfl) rfl 3 rfl (by decide) hml.symm d10_30 (fun v15 T16 h17 vm18 _ w19 q20 C21 C22 X23 => ?_)
  obtain ⟨e25, f26⟩ := q20
  subst e25
  subst f26
  show Go _ _ _ _ _ (mkF _ _ _ [.int 1, .int 0, .int 65533, .ref q1])
  refine kSTAT X23 (gEL G) (argsL := [.ref q1, .int 65533, .int 0, .int 1]) (rest := []) (wd G 108 rfl) (wd G 109 rfl) (wd G 81 rfl) (wd G 110 rfl) (by decide) (rm33 G i0 q1 kp0 h0 X23.n O0 A_q1 c_1 c_2 c_3) all0 (lenOf pd___BIII_I rfl) rfl 0 rfl (by decide) hml.symm d10_33 (fun v27 T28 h29 vm30 _ w31 q32 C33 C34 X35 => ?_)
  obtain ⟨e37, f38⟩ := q32
  subst e37
  subst f38
  show Go _ _ _ _ _ (mkF _ _ _ [.int (-1)])
  exact kRETI X35 (gEL G) hret d10_36 (fun ve hve => ⟨rfl, rfl⟩) (by decide)
def R_rm28 : Room := { frames := 6, cells := 0, slots := 0, locals := 87 }
theorem rm28 (G : Glob Z a0 iCS vSI) (i0 : Int32) (q0 q1 : Addr) (kp0 : ClassId) (h0 : Heap) (Z0 : n0 ≤ h0.size) (O0 : Old Z n0 h0) (c_1 : ¬ (65535 : Int32) < i0) (c_2 : ¬ i0 < 0) (F_q0_coder : Fld Z h0 q0 "java/lang/String" "coder" "B" (.int 1)) (E_q0 : Exa Z h0 q0 "java/lang/String") (F_q0_value : Fld Z h0 q0 "java/lang/String" "value" "[B" (.ref q1)) (A_q1 : Arv Z h0 q1 kp0 .byte 2 [.int (ownB i0), .int (ownH i0)] (.int 0)) (c_3 : ¬ i0 = (65533 : Int32)) : MetH l Z EL0 n0 N_jdk_42_m_79 jdk_42_method_79_code 2 (some .int) [] R_rm28 #[.ref q0, .int 65533] h0 [] (fun vs v h ve => (v = some (.int (-1)) ∧ (h0 = h))) := by
  refine MetH.of #[.val (.ref q0), .val (.int 65533)] (plainFor_of_name pn_java_lang_String) rfl Z0 (fun p e s m below meth c T0 hret hml hnm hSL hs0 X0 => ?_)
  refine kALn X0 d9_0 rfl rfl ?_
  refine kILn X0 d9_1 rfl ?_
  refine kIC X0 0 d9_2 (by decide) ?_
  refine kVIRT X0 (gEL G) (argsL := [.int 65533, .int 0]) (rest := []) (wd G 53 rfl) (wd G 54 rfl) (own_nf X0.hZ (own_noinst (wd G 7 rfl))) (wd G 56 rfl) (wd G 55 rfl) (wd G 8 rfl) (wd G 57 rfl) (by decide) E_q0 (rm29 G i0 q0 q1 kp0 h0 X0.n O0 c_1 c_2 F_q0_coder E_q0 F_q0_value A_q1 c_3) all0 (lenOf pd__II_I rfl) rfl 0 rfl (by decide) hml.symm d9_3 (fun v1 T2 h3 vm4 _ w5 q6 C7 C8 X9 => ?_)
  obtain ⟨e11, f12⟩ := q6
  subst e11
  subst f12
  show Go _ _ _ _ _ (mkF _ _ _ [.int (-1)])
  exact kRETI X9 (gEL G) hret d9_6 (fun ve hve => ⟨rfl, rfl⟩) (by decide)
def R_rm27 : Room := { frames := 7, cells := 0, slots := 0, locals := 100 }
theorem rm27 (G : Glob Z a0 iCS vSI) (i0 i1 : Int32) (q0 q1 q2 q3 : Addr) (kp0 kp1 : ClassId) (h0 : Heap) (Z0 : n0 ≤ h0.size) (O0 : Old Z n0 h0) (c_2 : ¬ (65535 : Int32) < i0) (c_3 : ¬ i0 < 0) (F_q0_coder : Fld Z h0 q0 "java/lang/String" "coder" "B" (.int 1)) (E_q0 : Exa Z h0 q0 "java/lang/String") (F_q0_value : Fld Z h0 q0 "java/lang/String" "value" "[B" (.ref q2)) (A_q2 : Arv Z h0 q2 kp0 .byte 2 [.int (ownB i0), .int (ownH i0)] (.int 0)) (c_4 : ¬ i0 = (65533 : Int32)) : MetH l Z EL0 n0 N_prog_38_m_14 prog_38_method_14_code 2 none [] R_rm27 #[.ref q0, .ref q1] h0 [] (fun vs v h ve => (v = none ∧ (h0 = h))) := by
  refine MetH.of #[.val (.ref q0), .val (.ref q1)] (plainFor_of_name pn_com_example_evoke_evoke_Options) rfl Z0 (fun p e s m below meth c T0 hret hml hnm hSL hs0 X0 => ?_)
  refine kALn X0 d8_0 rfl rfl ?_
  refine kLDCI X0 (wd G 47 rfl) d8_1 ?_
  refine kVIRT X0 (gEL G) (argsL := [.int 65533]) (rest := []) (wd G 48 rfl) (wd G 49 rfl) (own_nf X0.hZ (own_noinst (wd G 7 rfl))) (wd G 51 rfl) (wd G 50 rfl) (wd G 8 rfl) (wd G 52 rfl) (by decide) E_q0 (rm28 G i0 q0 q2 kp0 h0 X0.n O0 c_2 c_3 F_q0_coder E_q0 F_q0_value A_q2 c_4) all0 (lenOf pd__I_I rfl) rfl 0 rfl (by decide) hml.symm d8_3 (fun v1 T2 h3 vm4 _ w5 q6 C7 C8 X9 => ?_)
  obtain ⟨e11, f12⟩ := q6
  subst e11
  subst f12
  show Go _ _ _ _ _ (mkF _ _ _ [.int (-1)])
  refine kIFt X9 29 d8_6 (XT.i0_lt_t (by decide)) (by decide) ?_
  exact kRETV X9 (gEL G) hret d8_29 (fun ve hve => ⟨rfl, rfl⟩) (by decide)
def R_rm45 : Room := { frames := 0, cells := 0, slots := 0, locals := 0 }
theorem rm45 (G : Glob Z a0 iCS vSI) (i0 : Int32) (q0 q1 : Addr) (kp0 : ClassId) (h0 : Heap) (Z0 : n0 ≤ h0.size) (O0 : Old Z n0 h0) (F_q0_coder : Fld Z h0 q0 "java/lang/String" "coder" "B" (.int 0)) : MetH l Z EL0 n0 N_jdk_42_m_154 jdk_42_method_154_code 1 (some .boolean) [] R_rm45 #[.ref q0] h0 [] (fun vs v h ve => (v = some (.int 1) ∧ (h0 = h))) := by
  refine MetH.of #[.val (.ref q0)] (plainFor_of_name pn_java_lang_String) rfl Z0 (fun p e s m below meth c T0 hret hml hnm hSL hs0 X0 => ?_)
  refine kGETS X0 (wd G 31 rfl) Via.refl (Sta.ext O0.2 (S_CS G)) d11_0 (fun T1 X2 => ?_)
  refine kIFf X2 d11_3 (XT.i0_eq_f (n_CS G)) ?_
  refine kALn X2 d11_6 rfl rfl ?_
  refine kGETF X2 (wd G 27 rfl) Via.refl F_q0_coder d11_7 (fun T3 X4 => ?_)
  refine kIFf X4 d11_10 (XT.i0_ne_f (by decide)) ?_
  refine kIC X4 1 d11_13 (by decide) ?_
  refine kGOTO X4 18 d11_14 (by decide) ?_
  exact kRETZ X4 (gEL G) (t := .boolean) hret (by simp) d11_18 (fun ve hve => ⟨rfl, rfl⟩) (by decide)
def R_rm47 : Room := { frames := 0, cells := 0, slots := 0, locals := 0 }
theorem rm47 (G : Glob Z a0 iCS vSI) (i0 : Int32) (q0 q1 : Addr) (kp0 : ClassId) (h0 : Heap) (Z0 : n0 ≤ h0.size) (O0 : Old Z n0 h0) (F_q0_coder : Fld Z h0 q0 "java/lang/String" "coder" "B" (.int 0)) : MetH l Z EL0 n0 N_jdk_42_m_152 jdk_42_method_152_code 1 (some .byte) [] R_rm47 #[.ref q0] h0 [] (fun vs v h ve => (v = some (.int 0) ∧ (h0 = h))) := by
  refine MetH.of #[.val (.ref q0)] (plainFor_of_name pn_java_lang_String) rfl Z0 (fun p e s m below meth c T0 hret hml hnm hSL hs0 X0 => ?_)
  refine kGETS X0 (wd G 31 rfl) Via.refl (Sta.ext O0.2 (S_CS G)) d13_0 (fun T1 X2 => ?_)
  refine kIFf X2 d13_3 (XT.i0_eq_f (n_CS G)) ?_
  refine kALn X2 d13_6 rfl rfl ?_
  refine kGETF X2 (wd G 27 rfl) Via.refl F_q0_coder d13_7 (fun T3 X4 => ?_)
  refine kGOTO X4 14 d13_10 (by decide) ?_
  exact kRETZ X4 (gEL G) (t := .byte) hret (by simp) d13_14 (fun ve hve => ⟨rfl, rfl⟩) (by decide)
def R_rm46 : Room := { frames := 1, cells := 0, slots := 0, locals := 13 }
theorem rm46 (G : Glob Z a0 iCS vSI) (i0 : Int32) (q0 q1 : Addr) (kp0 : ClassId) (h0 : Heap) (Z0 : n0 ≤ h0.size) (O0 : Old Z n0 h0) (F_q0_value : Fld Z h0 q0 "java/lang/String" "value" "[B" (.ref q1)) (A_q1 : Arv Z h0 q1 kp0 .byte 1 [.int (ownB i0)] (.int 0)) (c_0 : ¬ (255 : Int32) < i0) (c_2 : ¬ i0 < 0) (c_1 : ¬ (65535 : Int32) < i0) (F_q0_coder : Fld Z h0 q0 "java/lang/String" "coder" "B" (.int 0)) (E_q0 : Exa Z h0 q0 "java/lang/String") : MetH l Z EL0 n0 N_jdk_42_m_54 jdk_42_method_54_code 1 (some .int) [] R_rm46 #[.ref q0] h0 [] (fun vs v h ve => (v = some (.int 1) ∧ (h0 = h))) := by
  refine MetH.of #[.val (.ref q0)] (plainFor_of_name pn_java_lang_String) rfl Z0 (fun p e s m below meth c T0 hret hml hnm hSL hs0 X0 => ?_)
  refine kALn X0 d12_0 rfl rfl ?_
  refine kGETF X0 (wd G 26 rfl) Via.refl F_q0_value d12_1 (fun T1 X2 => ?_)
  refine kLEN X2 A_q1 d12_4 ?_
  refine kALn X2 d12_5 rfl rfl ?_
  refine kVIRT X2 (gEL G) (argsL := []) (rest := [.int 1]) (wd G 68 rfl) (wd G 69 rfl) (own_nf X2.hZ (own_noinst (wd G 7 rfl))) (wd G 71 rfl) (wd G 70 rfl) (wd G 8 rfl) (wd G 72 rfl) (by decide) E_q0 (rm47 G i0 q0 q1 kp0 h0 X2.n O0 F_q0_coder) all0 (lenOf pd___B rfl) rfl 1 rfl (by decide) hml.symm d12_6 (fun v3 T4 h5 vm6 _ w7 q8 C9 C10 X11 => ?_)
  obtain ⟨e13, f14⟩ := q8
  subst e13
  subst f14
  show Go _ _ _ _ _ (mkF _ _ _ [.int 0, .int 1])
  refine kISHR X11 1 d12_9 (by decide) ?_
  exact kRETI X11 (gEL G) hret d12_10 (fun ve hve => ⟨rfl, rfl⟩) (by decide)
def R_rm48 : Room := { frames := 1, cells := 0, slots := 0, locals := 12 }
theorem rm48 (G : Glob Z a0 iCS vSI) (i0 : Int32) (q0 : Addr) (kp0 : ClassId) (h0 : Heap) (Z0 : n0 ≤ h0.size) (O0 : Old Z n0 h0)  : MetH l Z EL0 n0 N_jdk_43_m_22 jdk_43_method_22_code 4 (some .int) [] R_rm48 #[.ref q0, .int 65533, .int 0, .int 1] h0 [] (fun vs v h ve => (v = some (.int (-1)) ∧ (h0 = h))) := by
  refine MetH.of #[.val (.ref q0), .val (.int 65533), .val (.int 0), .val (.int 1)] (plainFor_of_name pn_java_lang_StringLatin1) rfl Z0 (fun p e s m below meth c T0 hret hml hnm hSL hs0 X0 => ?_)
  refine kILn X0 d14_0 rfl ?_
  refine kSTAT X0 (gEL G) (argsL := [.int 65533]) (rest := []) (wd G 76 rfl) (wd G 77 rfl) (wd G 34 rfl) (wd G 78 rfl) (by decide) (rm15 G  h0 X0.n O0 ) all0 (lenOf pd__I_Z rfl) rfl 0 rfl (by decide) hml.symm d14_1 (fun v1 T2 h3 vm4 _ w5 q6 C7 C8 X9 => ?_)
  obtain ⟨e11, f12⟩ := q6
  subst e11
  subst f12
  show Go _ _ _ _ _ (mkF _ _ _ [.int 0])
  refine kIFf X9 d14_4 (XT.i0_ne_f (by decide)) ?_
  refine kIC X9 (-1) d14_7 (by decide) ?_
  exact kRETI X9 (gEL G) hret d14_8 (fun ve hve => ⟨rfl, rfl⟩) (by decide)
def R_rm44 : Room := { frames := 2, cells := 0, slots := 0, locals := 28 }
theorem rm44 (G : Glob Z a0 iCS vSI) (i0 : Int32) (q0 q1 : Addr) (kp0 : ClassId) (h0 : Heap) (Z0 : n0 ≤ h0.size) (O0 : Old Z n0 h0) (c_0 : ¬ (255 : Int32) < i0) (c_2 : ¬ i0 < 0) (c_1 : ¬ (65535 : Int32) < i0) (F_q0_coder : Fld Z h0 q0 "java/lang/String" "coder" "B" (.int 0)) (E_q0 : Exa Z h0 q0 "java/lang/String") (F_q0_value : Fld Z h0 q0 "java/lang/String" "value" "[B" (.ref q1)) (A_q1 : Arv Z h0 q1 kp0 .byte 1 [.int (ownB i0)] (.int 0)) : MetH l Z EL0 n0 N_jdk_42_m_80 jdk_42_method_80_code 3 (some .int) [] R_rm44 #[.ref q0, .int 65533, .int 0] h0 [] (fun vs v h ve => (v = some (.int (-1)) ∧ (h0 = h))) := by
  refine MetH.of #[.val (.ref q0), .val (.int 65533), .val (.int 0)] (plainFor_of_name pn_java_lang_String) rfl Z0 (fun p e s m below meth c T0 hret hml hnm hSL hs0 X0 => ?_)
  refine kALn X0 d10_0 rfl rfl ?_
  refine kVIRT X0 (gEL G) (argsL := []) (rest := []) (wd G 58 rfl) (wd G 59 rfl) (own_nf X0.hZ (own_noinst (wd G 7 rfl))) (wd G 61 rfl) (wd G 60 rfl) (wd G 8 rfl) (wd G 62 rfl) (by decide) E_q0 (rm45 G i0 q0 q1 kp0 h0 X0.n O0 F_q0_coder) all0 (lenOf pd___Z rfl) rfl 0 rfl (by decide) hml.symm d10_1 (fun v1 T2 h3 vm4 _ w5 q6 C7 C8 X9 => ?_)
  obtain ⟨e11, f12⟩ := q6
  subst e11
  subst f12
  show Go _ _ _ _ _ (mkF _ _ _ [.int 1])
  refine kIFf X9 d10_4 (XT.i0_eq_f (by decide)) ?_
  refine kALn X9 d10_7 rfl rfl ?_
  refine kGETF X9 (wd G 26 rfl) Via.refl F_q0_value d10_8 (fun T13 X14 => ?_)
  refine kILn X14 d10_11 rfl ?_
  refine kILn X14 d10_12 rfl ?_
  refine kALn X14 d10_13 rfl rfl ?_
  refine kVIRT X14 (gEL G) (argsL := []) (rest := [.int 0, .int 65533, .ref q1]) (wd G 63 rfl) (wd G 64 rfl) (own_nf X14.hZ (own_noinst (wd G 7 rfl))) (wd G 66 rfl) (wd G 65 rfl) (wd G 8 rfl) (wd G 67 rfl) (by decide) E_q0 (rm46 G i0 q0 q1 kp0 h0 X14.n O0 F_q0_value A_q1 c_0 c_2 c_1 F_q0_coder E_q0) all0 (lenOf pd___I rfl) rfl 3 rfl (by decide) hml.symm d10_14 (fun v15 T16 h17 vm18 _ w19 q20 C21 C22 X23 => ?_)
  obtain ⟨e25, f26⟩ := q20
  subst e25
  subst f26
  show Go _ _ _ _ _ (mkF _ _ _ [.int 1, .int 0, .int 65533, .ref q1])
  refine kSTAT X23 (gEL G) (argsL := [.ref q1, .int 65533, .int 0, .int 1]) (rest := []) (wd G 73 rfl) (wd G 74 rfl) (wd G 34 rfl) (wd G 75 rfl) (by decide) (rm48 G i0 q1 kp0 h0 X23.n O0 ) all0 (lenOf pd___BIII_I rfl) rfl 0 rfl (by decide) hml.symm d10_17 (fun v27 T28 h29 vm30 _ w31 q32 C33 C34 X35 => ?_)
  obtain ⟨e37, f38⟩ := q32
  subst e37
  subst f38
  show Go _ _ _ _ _ (mkF _ _ _ [.int (-1)])
  refine kGOTO X35 36 d10_20 (by decide) ?_
  exact kRETI X35 (gEL G) hret d10_36 (fun ve hve => ⟨rfl, rfl⟩) (by decide)
def R_rm43 : Room := { frames := 3, cells := 0, slots := 0, locals := 42 }
theorem rm43 (G : Glob Z a0 iCS vSI) (i0 : Int32) (q0 q1 : Addr) (kp0 : ClassId) (h0 : Heap) (Z0 : n0 ≤ h0.size) (O0 : Old Z n0 h0) (c_0 : ¬ (255 : Int32) < i0) (c_2 : ¬ i0 < 0) (c_1 : ¬ (65535 : Int32) < i0) (F_q0_coder : Fld Z h0 q0 "java/lang/String" "coder" "B" (.int 0)) (E_q0 : Exa Z h0 q0 "java/lang/String") (F_q0_value : Fld Z h0 q0 "java/lang/String" "value" "[B" (.ref q1)) (A_q1 : Arv Z h0 q1 kp0 .byte 1 [.int (ownB i0)] (.int 0)) : MetH l Z EL0 n0 N_jdk_42_m_79 jdk_42_method_79_code 2 (some .int) [] R_rm43 #[.ref q0, .int 65533] h0 [] (fun vs v h ve => (v = some (.int (-1)) ∧ (h0 = h))) := by
  refine MetH.of #[.val (.ref q0), .val (.int 65533)] (plainFor_of_name pn_java_lang_String) rfl Z0 (fun p e s m below meth c T0 hret hml hnm hSL hs0 X0 => ?_)
  refine kALn X0 d9_0 rfl rfl ?_
  refine kILn X0 d9_1 rfl ?_
  refine kIC X0 0 d9_2 (by decide) ?_
  refine kVIRT X0 (gEL G) (argsL := [.int 65533, .int 0]) (rest := []) (wd G 53 rfl) (wd G 54 rfl) (own_nf X0.hZ (own_noinst (wd G 7 rfl))) (wd G 56 rfl) (wd G 55 rfl) (wd G 8 rfl) (wd G 57 rfl) (by decide) E_q0 (rm44 G i0 q0 q1 kp0 h0 X0.n O0 c_0 c_2 c_1 F_q0_coder E_q0 F_q0_value A_q1) all0 (lenOf pd__II_I rfl) rfl 0 rfl (by decide) hml.symm d9_3 (fun v1 T2 h3 vm4 _ w5 q6 C7 C8 X9 => ?_)
  obtain ⟨e11, f12⟩ := q6
  subst e11
  subst f12
  show Go _ _ _ _ _ (mkF _ _ _ [.int (-1)])
  exact kRETI X9 (gEL G) hret d9_6 (fun ve hve => ⟨rfl, rfl⟩) (by decide)
def R_rm42 : Room := { frames := 4, cells := 0, slots := 0, locals := 55 }
theorem rm42 (G : Glob Z a0 iCS vSI) (i0 i1 : Int32) (q0 q1 q2 q3 : Addr) (kp0 kp1 : ClassId) (h0 : Heap) (Z0 : n0 ≤ h0.size) (O0 : Old Z n0 h0) (c_0 : ¬ (255 : Int32) < i0) (c_3 : ¬ i0 < 0) (c_2 : ¬ (65535 : Int32) < i0) (F_q0_coder : Fld Z h0 q0 "java/lang/String" "coder" "B" (.int 0)) (E_q0 : Exa Z h0 q0 "java/lang/String") (F_q0_value : Fld Z h0 q0 "java/lang/String" "value" "[B" (.ref q2)) (A_q2 : Arv Z h0 q2 kp0 .byte 1 [.int (ownB i0)] (.int 0)) : MetH l Z EL0 n0 N_prog_38_m_14 prog_38_method_14_code 2 none [] R_rm42 #[.ref q0, .ref q1] h0 [] (fun vs v h ve => (v = none ∧ (h0 = h))) := by
  refine MetH.of #[.val (.ref q0), .val (.ref q1)] (plainFor_of_name pn_com_example_evoke_evoke_Options) rfl Z0 (fun p e s m below meth c T0 hret hml hnm hSL hs0 X0 => ?_)
  refine kALn X0 d8_0 rfl rfl ?_
  refine kLDCI X0 (wd G 47 rfl) d8_1 ?_
  refine kVIRT X0 (gEL G) (argsL := [.int 65533]) (rest := []) (wd G 48 rfl) (wd G 49 rfl) (own_nf X0.hZ (own_noinst (wd G 7 rfl))) (wd G 51 rfl) (wd G 50 rfl) (wd G 8 rfl) (wd G 52 rfl) (by decide) E_q0 (rm43 G i0 q0 q2 kp0 h0 X0.n O0 c_0 c_3 c_2 F_q0_coder E_q0 F_q0_value A_q2) all0 (lenOf pd__I_I rfl) rfl 0 rfl (by decide) hml.symm d8_3 (fun v1 T2 h3 vm4 _ w5 q6 C7 C8 X9 => ?_)
  obtain ⟨e11, f12⟩ := q6
  subst e11
  subst f12
  show Go _ _ _ _ _ (mkF _ _ _ [.int (-1)])
  refine kIFt X9 29 d8_6 (XT.i0_lt_t (by decide)) (by decide) ?_
  exact kRETV X9 (gEL G) hret d8_29 (fun ve hve => ⟨rfl, rfl⟩) (by decide)
def R_rm52 : Room := { frames := 0, cells := 0, slots := 0, locals := 0 }
theorem rm52 (G : Glob Z a0 iCS vSI) (i0 i1 : Int32) (q0 q1 : Addr) (kp0 kp1 : ClassId) (h0 : Heap) (Z0 : n0 ≤ h0.size) (O0 : Old Z n0 h0) (A_q0 : Arv Z h0 q0 kp0 .char 2 [.int i0, .int i1] (.int 0)) (A_q1 : Arv Z h0 q1 kp1 .byte 2 [.int 0, .int 0] (.int 0)) (d_q0_q1 : q0 ≠ q1) (g_q1 : n0 ≤ q1) : MetH l Z EL0 n0 N_jdk_52_m_21 jdk_52_method_21_code 7 (some .int) [] R_rm52 #[.ref q0, .int 0, .ref q1, .int 0, .int 2] h0 [q1] (fun vs v h ve => (v = some (.int 0) ∧ ((255 : Int32) < i0) ∧ (h0 = h)) ∨ (v = some (.int 1) ∧ (¬ (255 : Int32) < i0) ∧ ((255 : Int32) < i1) ∧ (Keep h0 h [q1]) ∧ (Arv Z h q1 kp1 .byte 2 [.int (ownB i0), .int 0] (.int 0))) ∨ (v = some (.int 2) ∧ (¬ (255 : Int32) < i0) ∧ (¬ (255 : Int32) < i1) ∧ (Keep h0 h [q1]) ∧ (Arv Z h q1 kp1 .byte 2 [.int (ownB i0), .int (ownB i1)] (.int 0)))) := by
  refine MetH.of #[.val (.ref q0), .val (.int 0), .val (.ref q1), .val (.int 0), .val (.int 2), .unset, .unset] (plainFor_of_name pn_java_lang_StringUTF16) rfl Z0 (fun p e s m below meth c T0 hret hml hnm hSL hs0 X0 => ?_)
  have S_q1 := hSL q1 (List.mem_of_getElem? (i := 0) rfl)
  refine kIC X0 0 d17_0 (by decide) ?_
  refine kIS X0 #[.val (.ref q0), .val (.int 0), .val (.ref q1), .val (.int 0), .val (.int 2), .val (.int 0), .unset] d17_1 rfl ?_
  refine kIL X0 d17_3 rfl ?_
  refine kIL X0 d17_5 rfl ?_
  refine kICf X0 d17_7 (XT.ii_ge_f (by decide)) ?_
  refine kALn X0 d17_10 rfl rfl ?_
  refine kILn X0 d17_11 rfl ?_
  refine kCALD X0 (.int i0) A_q0 (by decide) rfl d17_12 ?_
  refine kIS X0 #[.val (.ref q0), .val (.int 0), .val (.ref q1), .val (.int 0), .val (.int 2), .val (.int 0), .val (.int i0)] d17_13 rfl ?_
  refine kIL X0 d17_15 rfl ?_
  refine kSI X0 255 d17_17 (by decide) ?_
  by_cases c1 : (255 : Int32) < i0
  · refine kICf X0 d17_20 (XT.ii_le_f c1) ?_
    refine kIL X0 d17_23 rfl ?_
    exact kRETI X0 (gEL G) hret d17_25 (fun ve hve => Or.inl (⟨rfl, c1, rfl⟩)) (by decide)
  · refine kICt X0 26 d17_20 (XT.ii_le_t c1) (by decide) ?_
    refine kALn X0 d17_26 rfl rfl ?_
    refine kILn X0 d17_27 rfl ?_
    refine kIL X0 d17_28 rfl ?_
    refine kI2B X0 (ownB i0) d17_30 rfl ?_
    refine kBASTO X0 A_q1 (by decide) 0 (ownB i0) (own_nb _) (by decide) (by show 0 < 2; decide) g_q1 S_q1 d17_31 (fun T2 h3 L5 W6 f7 X4 => ?_)
    have f8 : Arv Z h3 q1 kp1 .byte 2 [.int (ownB i0), .int 0] (.int 0) := f7
    refine kIINC X4 (1 : Int32) (1 : Int32) #[.val (.ref q0), .val (.int 1), .val (.ref q1), .val (.int 0), .val (.int 2), .val (.int 0), .val (.int i0)] d17_32 (by decide) rfl (by decide) rfl ?_
    refine kIINC X4 (1 : Int32) (1 : Int32) #[.val (.ref q0), .val (.int 1), .val (.ref q1), .val (.int 1), .val (.int 2), .val (.int 0), .val (.int i0)] d17_35 (by decide) rfl (by decide) rfl ?_
    refine kIINC X4 (1 : Int32) (1 : Int32) #[.val (.ref q0), .val (.int 1), .val (.ref q1), .val (.int 1), .val (.int 2), .val (.int 1), .val (.int i0)] d17_38 (by decide) rfl (by decide) rfl ?_
    refine kGOTO X4 3 d17_41 (by decide) ?_
    refine kIL X4 d17_3 rfl ?_
    refine kIL X4 d17_5 rfl ?_
    refine kICf X4 d17_7 (XT.ii_ge_f (by decide)) ?_
    refine kALn X4 d17_10 rfl rfl ?_
    refine kILn X4 d17_11 rfl ?_
    have f9 := (Arv.other A_q0 W6 d_q0_q1)
    refine kCALD X4 (.int i1) f9 (by decide) rfl d17_12 ?_
    refine kIS X4 #[.val (.ref q0), .val (.int 1), .val (.ref q1), .val (.int 1), .val (.int 2), .val (.int 1), .val (.int i1)] d17_13 rfl ?_
    refine kIL X4 d17_15 rfl ?_
    refine kSI X4 255 d17_17 (by decide) ?_
    by_cases c10 : (255 : Int32) < i1
    · refine kICf X4 d17_20 (XT.ii_le_f c10) ?_
      refine kIL X4 d17_23 rfl ?_
      have K11 : Keep h0 h3 [q1] := (Keep.wr (Keep.refl h0 [q1]) W6 (Or.inl (List.mem_of_getElem? (i := 0) rfl)))
      exact kRETI X4 (gEL G) hret d17_25 (fun ve hve => Or.inr (Or.inl (⟨rfl, c1, c10, K11, f8⟩))) (by decide)
    · refine kICt X4 26 d17_20 (XT.ii_le_t c10) (by decide) ?_
      refine kALn X4 d17_26 rfl rfl ?_
      refine kILn X4 d17_27 rfl ?_
      refine kIL X4 d17_28 rfl ?_
      refine kI2B X4 (ownB i1) d17_30 rfl ?_
      have f12 := (Safe.wr W6 S_q1 X0.C.1 S_q1)
      refine kBASTO X4 f8 (by decide) 1 (ownB i1) (own_nb _) (by decide) (by show 1 < 2; decide) g_q1 f12 d17_31 (fun T13 h14 L16 W17 f18 X15 => ?_)
      have f19 : Arv Z h14 q1 kp1 .byte 2 [.int (ownB i0), .int (ownB i1)] (.int 0) := f18
      refine kIINC X15 (1 : Int32) (2 : Int32) #[.val (.ref q0), .val (.int 2), .val (.ref q1), .val (.int 1), .val (.int 2), .val (.int 1), .val (.int i1)] d17_32 (by decide) rfl (by decide) rfl ?_
      refine kIINC X15 (1 : Int32) (2 : Int32) #[.val (.ref q0), .val (.int 2), .val (.ref q1), .val (.int 2), .val (.int 2), .val (.int 1), .val (.int i1)] d17_35 (by decide) rfl (by decide) rfl ?_
      refine kIINC X15 (1 : Int32) (2 : Int32) #[.val (.ref q0), .val (.int 2), .val (.ref q1), .val (.int 2), .val (.int 2), .val (.int 2), .val (.int i1)] d17_38 (by decide) rfl (by decide) rfl ?_
      refine kGOTO X15 3 d17_41 (by decide) ?_
      refine kIL X15 d17_3 rfl ?_
      refine kIL X15 d17_5 rfl ?_
      refine kICt X15 44 d17_7 (XT.ii_ge_t (by decide)) (by decide) ?_
      refine kIL X15 d17_44 rfl ?_
      have K20 : Keep h0 h14 [q1] := (Keep.wr (Keep.wr (Keep.refl h0 [q1]) W6 (Or.inl (List.mem_of_getElem? (i := 0) rfl))) W17 (Or.inl (List.mem_of_getElem? (i := 0) rfl)))
      exact kRETI X15 (gEL G) hret d17_46 (fun ve hve => Or.inr (Or.inr (⟨rfl, c1, c10, K20, f19⟩))) (by decide)
def R_rm55 : Room := { frames := 0, cells := 0, slots := 0, locals := 0 }
theorem rm55 (G : Glob Z a0 iCS vSI)  (h0 : Heap) (Z0 : n0 ≤ h0.size) (O0 : Old Z n0 h0)  : MetH l Z EL0 n0 N_jdk_52_m_3 jdk_52_method_3_code 1 (some .int) [] R_rm55 #[.int 2] h0 [] (fun vs v h ve => (v = some (.int 4) ∧ (h0 = h))) := by
  refine MetH.of #[.val (.int 2)] (plainFor_of_name pn_java_lang_StringUTF16) rfl Z0 (fun p e s m below meth c T0 hret hml hnm hSL hs0 X0 => ?_)
  refine kILn X0 d21_0 rfl ?_
  refine kIFt X0 12 d21_1 (XT.i0_ge_t (by decide)) (by decide) ?_
  refine kILn X0 d21_12 rfl ?_
  refine kLDCI X0 (wd G 98 rfl) d21_13 ?_
  refine kICt X0 55 d21_15 (XT.ii_lt_t (by decide)) (by decide) ?_
  refine kILn X0 d21_55 rfl ?_
  refine kIC X0 1 d21_56 (by decide) ?_
  refine kISHL X0 4 d21_57 (by decide) ?_
  exact kRETI X0 (gEL G) hret d21_58 (fun ve hve => ⟨rfl, rfl⟩) (by decide)
def R_rm54 : Room := { frames := 1, cells := 1, slots := 4, locals := 12 }
theorem rm54 (G : Glob Z a0 iCS vSI)  (h0 : Heap) (Z0 : n0 ≤ h0.size) (O0 : Old Z n0 h0)  : MetH l Z EL0 n0 N_jdk_52_m_2 jdk_52_method_2_code 1 (some (.array (.byte))) [] R_rm54 #[.int 2] h0 [] (fun vs v h ve => (∃ (x0 : Addr), ∃ (z0 : ClassId), v = some (.ref x0) ∧ (Keep h0 h []) ∧ (h0.size ≤ x0) ∧ (Arv Z h x0 z0 .byte 4 [.int 0, .int 0, .int 0, .int 0] (.int 0)) ∧ (Safe Z EL0 ve h x0))) := by
  refine MetH.of #[.val (.int 2)] (plainFor_of_name pn_java_lang_StringUTF16) rfl Z0 (fun p e s m below meth c T0 hret hml hnm hSL hs0 X0 => ?_)
  refine kILn X0 d20_0 rfl ?_
  refine kSTAT X0 (gEL G) (argsL := [.int 2]) (rest := []) (wd G 95 rfl) (wd G 96 rfl) (wd G 81 rfl) (wd G 97 rfl) (by decide) (rm55 G  h0 X0.n O0 ) all0 (lenOf pd__I_I rfl) rfl 0 rfl (by decide) hml.symm d20_1 (fun v1 T2 h3 vm4 _ w5 q6 C7 C8 X9 => ?_)
  obtain ⟨e11, f12⟩ := q6
  subst e11
  subst f12
  show Go _ _ _ _ _ (mkF _ _ _ [.int 4])
  refine kNEWP X9 (wd G 21 rfl) (cap := 4) d20_4 (by decide) (by decide) (by decide) (by decide) (by decide) (fun T13 h14 a16 k17 E18 q19 g20 A21 s22 X15 => ?_)
  have g23 : h0.size ≤ a16 := q19 ▸ X9.g0
  have f24 : Arv Z h14 a16 k17 .byte 4 [.int 0, .int 0, .int 0, .int 0] (.int 0) := A21.pad (pad_rep [] _ 4)
  have K25 : Keep h0 h14 [] := (Keep.ext (Keep.refl h0 []) E18)
  exact kRETA X15 (gEL G) hret rfl rfl d20_6 (fun ve hve => ⟨a16, k17, rfl, K25, g23, f24, (CHr.safe hve (f24.lt) s22)⟩) (by decide)
def R_rm56 : Room := { frames := 0, cells := 0, slots := 0, locals := 0 }
theorem rm56 (G : Glob Z a0 iCS vSI) (i0 : Int32) (q0 : Addr) (kp0 : ClassId) (h0 : Heap) (Z0 : n0 ≤ h0.size) (O0 : Old Z n0 h0) (A_q0 : Arv Z h0 q0 kp0 .byte 4 [.int 0, .int 0, .int 0, .int 0] (.int 0)) (g_q0 : n0 ≤ q0) : MetH l Z EL0 n0 N_jdk_52_m_4 jdk_52_method_4_code 3 none [] R_rm56 #[.ref q0, .int 0, .int i0] h0 [q0] (fun vs v h ve => (v = none ∧ (Keep h0 h [q0]) ∧ (Arv Z h q0 kp0 .byte 4 [.int (ownB i0), .int (ownH i0), .int 0, .int 0] (.int 0)))) := by
  refine MetH.of #[.val (.ref q0), .val (.int 0), .val (.int i0)] (plainFor_of_name pn_java_lang_StringUTF16) rfl Z0 (fun p e s m below meth c T0 hret hml hnm hSL hs0 X0 => ?_)
  have S_q0 := hSL q0 (List.mem_of_getElem? (i := 0) rfl)
  refine kGETS X0 (wd G 102 rfl) Via.refl (Sta.ext O0.2 (S_AD G)) d22_0 (fun T1 X2 => ?_)
  refine kIFt X2 28 d22_3 (XT.i0_ne_t (by decide)) (by decide) ?_
  refine kILn X2 d22_28 rfl ?_
  refine kIC X2 1 d22_29 (by decide) ?_
  refine kISHL X2 0 d22_30 (by decide) ?_
  refine kISn X2 #[.val (.ref q0), .val (.int 0), .val (.int i0)] d22_31 rfl ?_
  refine kALn X2 d22_32 rfl rfl ?_
  refine kILn X2 d22_33 rfl ?_
  refine kIINC X2 (1 : Int32) (1 : Int32) #[.val (.ref q0), .val (.int 1), .val (.int i0)] d22_34 (by decide) rfl (by decide) rfl ?_
  refine kILn X2 d22_37 rfl ?_
  refine kGETS X2 (wd G 103 rfl) Via.refl (Sta.ext O0.2 (S_HI G)) d22_38 (fun T3 X4 => ?_)
  refine kISHR X4 i0 d22_41 (own_sh0 _) ?_
  refine kI2B X4 (ownB i0) d22_42 rfl ?_
  refine kBASTO X4 A_q0 (by decide) 0 (ownB i0) (own_nb _) (by decide) (by show 0 < 4; decide) g_q0 S_q0 d22_43 (fun T5 h6 L8 W9 f10 X7 => ?_)
  have f11 : Arv Z h6 q0 kp0 .byte 4 [.int (ownB i0), .int 0, .int 0, .int 0] (.int 0) := f10
  refine kALn X7 d22_44 rfl rfl ?_
  refine kILn X7 d22_45 rfl ?_
  refine kILn X7 d22_46 rfl ?_
  have f14 := (Old.wr O0 W9 g_q0)
  refine kGETS X7 (wd G 104 rfl) Via.refl (Sta.ext f14.2 (S_LO G)) d22_47 (fun T12 X13 => ?_)
  refine kISHR X13 (i0 >>> ((8 : Int32) &&& 31)) d22_50 rfl ?_
  refine kI2B X13 (ownH i0) d22_51 rfl ?_
  have f15 := (Safe.wr W9 S_q0 X4.C.1 S_q0)
  refine kBASTO X13 f11 (by decide) 1 (ownH i0) (own_nh _) (by decide) (by show 1 < 4; decide) g_q0 f15 d22_52 (fun T16 h17 L19 W20 f21 X18 => ?_)
  have f22 : Arv Z h17 q0 kp0 .byte 4 [.int (ownB i0), .int (ownH i0), .int 0, .int 0] (.int 0) := f21
  have K23 : Keep h0 h17 [q0] := (Keep.wr (Keep.wr (Keep.refl h0 [q0]) W9 (Or.inl (List.mem_of_getElem? (i := 0) rfl))) W20 (Or.inl (List.mem_of_getElem? (i := 0) rfl)))
  exact kRETV X18 (gEL G) hret d22_53 (fun ve hve => ⟨rfl, K23, f22⟩) (by decide)
def R_rm57 : Room := { frames := 0, cells := 0, slots := 0, locals := 0 }
theorem rm57 (G : Glob Z a0 iCS vSI) (i0 i1 : Int32) (q0 : Addr) (kp0 : ClassId) (h0 : Heap) (Z0 : n0 ≤ h0.size) (O0 : Old Z n0 h0) (A_q0 : Arv Z h0 q0 kp0 .byte 4 [.int (ownB i1), .int (ownH i1), .int 0, .int 0] (.int 0)) (g_q0 : n0 ≤ q0) : MetH l Z EL0 n0 N_jdk_52_m_4 jdk_52_method_4_code 3 none [] R_rm57 #[.ref q0, .int 1, .int i0] h0 [q0] (fun vs v h ve => (v = none ∧ (Keep h0 h [q0]) ∧ (Arv Z h q0 kp0 .byte 4 [.int (ownB i1), .int (ownH i1), .int (ownB i0), .int (ownH i0)] (.int 0)))) := by
  refine MetH.of #[.val (.ref q0), .val (.int 1), .val (.int i0)] (plainFor_of_name pn_java_lang_StringUTF16) rfl Z0 (fun p e s m below meth c T0 hret hml hnm hSL hs0 X0 => ?_)
  have S_q0 := hSL q0 (List.mem_of_getElem? (i := 0) rfl)
  refine kGETS X0 (wd G 102 rfl) Via.refl (Sta.ext O0.2 (S_AD G)) d22_0 (fun T1 X2 => ?_)
  refine kIFt X2 28 d22_3 (XT.i0_ne_t (by decide)) (by decide) ?_
  refine kILn X2 d22_28 rfl ?_
  refine kIC X2 1 d22_29 (by decide) ?_
  refine kISHL X2 2 d22_30 (by decide) ?_
  refine kISn X2 #[.val (.ref q0), .val (.int 2), .val (.int i0)] d22_31 rfl ?_
  refine kALn X2 d22_32 rfl rfl ?_
  refine kILn X2 d22_33 rfl ?_
  refine kIINC X2 (1 : Int32) (3 : Int32) #[.val (.ref q0), .val (.int 3), .val (.int i0)] d22_34 (by decide) rfl (by decide) rfl ?_
  refine kILn X2 d22_37 rfl ?_
  refine kGETS X2 (wd G 103 rfl) Via.refl (Sta.ext O0.2 (S_HI G)) d22_38 (fun T3 X4 => ?_)
  refine kISHR X4 i0 d22_41 (own_sh0 _) ?_
  refine kI2B X4 (ownB i0) d22_42 rfl ?_
  refine kBASTO X4 A_q0 (by decide) 2 (ownB i0) (own_nb _) (by decide) (by show 2 < 4; decide) g_q0 S_q0 d22_43 (fun T5 h6 L8 W9 f10 X7 => ?_)
  have f11 : Arv Z h6 q0 kp0 .byte 4 [.int (ownB i1), .int (ownH i1), .int (ownB i0), .int 0] (.int 0) := f10
  refine kALn X7 d22_44 rfl rfl ?_
  refine kILn X7 d22_45 rfl ?_
  refine kILn X7 d22_46 rfl ?_
  have f14 := (Old.wr O0 W9 g_q0)
  refine kGETS X7 (wd G 104 rfl) Via.refl (Sta.ext f14.2 (S_LO G)) d22_47 (fun T12 X13 => ?_)
  refine kISHR X13 (i0 >>> ((8 : Int32) &&& 31)) d22_50 rfl ?_
  refine kI2B X13 (ownH i0) d22_51 rfl ?_
  have f15 := (Safe.wr W9 S_q0 X4.C.1 S_q0)
  refine kBASTO X13 f11 (by decide) 3 (ownH i0) (own_nh _) (by decide) (by show 3 < 4; decide) g_q0 f15 d22_52 (fun T16 h17 L19 W20 f21 X18 => ?_)
  have f22 : Arv Z h17 q0 kp0 .byte 4 [.int (ownB i1), .int (ownH i1), .int (ownB i0), .int (ownH i0)] (.int 0) := f21
  have K23 : Keep h0 h17 [q0] := (Keep.wr (Keep.wr (Keep.refl h0 [q0]) W9 (Or.inl (List.mem_of_getElem? (i := 0) rfl))) W20 (Or.inl (List.mem_of_getElem? (i := 0) rfl)))
  exact kRETV X18 (gEL G) hret d22_53 (fun ve hve => ⟨rfl, K23, f22⟩) (by decide)
def R_rm53 : Room := { frames := 2, cells := 1, slots := 4, locals := 24 }
theorem rm53 (G : Glob Z a0 iCS vSI) (i0 i1 : Int32) (q0 : Addr) (kp0 : ClassId) (h0 : Heap) (Z0 : n0 ≤ h0.size) (O0 : Old Z n0 h0) (A_q0 : Arv Z h0 q0 kp0 .char 2 [.int i0, .int i1] (.int 0)) (c_1 : ¬ (65535 : Int32) < i0) (c_3 : ¬ i0 < 0) (c_2 : ¬ (65535 : Int32) < i1) (c_5 : ¬ i1 < 0) : MetH l Z EL0 n0 N_jdk_52_m_14 jdk_52_method_14_code 5 (some (.array (.byte))) [] R_rm53 #[.ref q0, .int 0, .int 2] h0 [] (fun vs v h ve => (∃ (x0 : Addr), ∃ (z0 : ClassId), v = some (.ref x0) ∧ (Keep h0 h []) ∧ (h0.size ≤ x0) ∧ (Arv Z h x0 z0 .byte 4 [.int (ownB i0), .int (ownH i0), .int (ownB i1), .int (ownH i1)] (.int 0)) ∧ (Safe Z EL0 ve h x0))) := by
  refine MetH.of #[.val (.ref q0), .val (.int 0), .val (.int 2), .unset, .unset] (plainFor_of_name pn_java_lang_StringUTF16) rfl Z0 (fun p e s m below meth c T0 hret hml hnm hSL hs0 X0 => ?_)
  refine kILn X0 d19_0 rfl ?_
  refine kSTAT X0 (gEL G) (argsL := [.int 2]) (rest := []) (wd G 92 rfl) (wd G 93 rfl) (wd G 81 rfl) (wd G 94 rfl) (by decide) (rm54 G  h0 X0.n O0 ) all0 (lenOf pd__I__B rfl) rfl 0 rfl (by decide) hml.symm d19_1 (fun v1 T2 h3 vm4 _ w5 q6 C7 C8 X9 => ?_)
  obtain ⟨a11, k12, e13, f14, f15, f16, f17⟩ := q6
  subst e13
  have n18 : q0 ≠ a11 := Nat.ne_of_lt (Nat.lt_of_lt_of_le (A_q0.lt) f15)
  have g19 : n0 ≤ a11 := Nat.le_trans X0.n f15
  have g20 : h0.size ≤ a11 := Nat.le_trans X0.g0 f15
  show Go _ _ _ _ _ (mkF _ _ _ [.ref a11])
  refine kASn X9 #[.val (.ref q0), .val (.int 0), .val (.int 2), .val (.ref a11), .unset] d19_4 rfl rfl ?_
  refine kIC X9 0 d19_5 (by decide) ?_
  refine kIS X9 #[.val (.ref q0), .val (.int 0), .val (.int 2), .val (.ref a11), .val (.int 0)] d19_6 rfl ?_
  refine kIL X9 d19_8 rfl ?_
  refine kILn X9 d19_10 rfl ?_
  refine kICf X9 d19_11 (XT.ii_ge_f (by decide)) ?_
  refine kALn X9 d19_14 rfl rfl ?_
  refine kIL X9 d19_15 rfl ?_
  refine kALn X9 d19_17 rfl rfl ?_
  refine kILn X9 d19_18 rfl ?_
  have f21 := (Arv.keep A_q0 f14 nin0)
  refine kCALD X9 (.int i0) f21 (by decide) rfl d19_19 ?_
  have f22 := (Old.keep O0 f14 all0)
  refine kSTAT X9 (gEL G) (argsL := [.ref a11, .int 0, .int i0]) (rest := []) (wd G 99 rfl) (wd G 100 rfl) (wd G 81 rfl) (wd G 101 rfl) (by decide) (rm56 G i0 a11 k12 h3 X9.n f22 f16 g19) (allS ⟨(f16.lt), f17⟩ all0) (lenOf pd___BII_V rfl) rfl 0 rfl (by decide) hml.symm d19_20 (fun v23 T24 h25 vm26 _ w27 q28 C29 C30 X31 => ?_)
  obtain ⟨e33, f34, f35⟩ := q28
  subst e33
  show Go _ _ _ _ _ (mkF _ _ _ [])
  refine kIINC X31 (1 : Int32) (1 : Int32) #[.val (.ref q0), .val (.int 1), .val (.int 2), .val (.ref a11), .val (.int 0)] d19_23 (by decide) rfl (by decide) rfl ?_
  refine kIINC X31 (1 : Int32) (1 : Int32) #[.val (.ref q0), .val (.int 1), .val (.int 2), .val (.ref a11), .val (.int 1)] d19_26 (by decide) rfl (by decide) rfl ?_
  refine kGOTO X31 8 d19_29 (by decide) ?_
  refine kIL X31 d19_8 rfl ?_
  refine kILn X31 d19_10 rfl ?_
  refine kICf X31 d19_11 (XT.ii_ge_f (by decide)) ?_
  refine kALn X31 d19_14 rfl rfl ?_
  refine kIL X31 d19_15 rfl ?_
  refine kALn X31 d19_17 rfl rfl ?_
  refine kILn X31 d19_18 rfl ?_
  have f36 := (Arv.keep f21 f34 (ninS n18 nin0))
  refine kCALD X31 (.int i1) f36 (by decide) rfl d19_19 ?_
  have f37 := (Old.keep f22 f34 (allS g19 all0))
  have f47 := (CHr.safe C30 (f16.lt) f17)
  refine kSTAT X31 (gEL G) (argsL := [.ref a11, .int 1, .int i1]) (rest := []) (wd G 99 rfl) (wd G 100 rfl) (wd G 81 rfl) (wd G 101 rfl) (by decide) (rm57 G i1 i0 a11 k12 h25 X31.n f37 f35 g19) (allS ⟨(f35.lt), f47⟩ all0) (lenOf pd___BII_V rfl) rfl 0 rfl (by decide) hml.symm d19_20 (fun v38 T39 h40 vm41 _ w42 q43 C44 C45 X46 => ?_)
  obtain ⟨e49, f50, f51⟩ := q43
  subst e49
  show Go _ _ _ _ _ (mkF _ _ _ [])
  refine kIINC X46 (1 : Int32) (2 : Int32) #[.val (.ref q0), .val (.int 2), .val (.int 2), .val (.ref a11), .val (.int 1)] d19_23 (by decide) rfl (by decide) rfl ?_
  refine kIINC X46 (1 : Int32) (2 : Int32) #[.val (.ref q0), .val (.int 2), .val (.int 2), .val (.ref a11), .val (.int 2)] d19_26 (by decide) rfl (by decide) rfl ?_
  refine kGOTO X46 8 d19_29 (by decide) ?_
  refine kIL X46 d19_8 rfl ?_
  refine kILn X46 d19_10 rfl ?_
  refine kICt X46 32 d19_11 (XT.ii_ge_t (by decide)) (by decide) ?_
  refine kALn X46 d19_32 rfl rfl ?_
  have K52 : Keep h0 h40 [] := (Keep.trans (Keep.trans (Keep.trans (Keep.refl h0 []) f14 all0) f34 (allS (Or.inr g20) all0)) f50 (allS (Or.inr g20) all0))
  have f53 := (CHr.safe C45 (f35.lt) f47)
  exact kRETA X46 (gEL G) hret rfl rfl d19_33 (fun ve hve => ⟨a11, k12, rfl, K52, g20, f51, (CHr.safe hve (f51.lt) f53)⟩) (by decide)
def R_rm58 : Room := { frames := 0, cells := 0, slots := 0, locals := 0 }
theorem rm58 (G : Glob Z a0 iCS vSI) (i0 i1 : Int32) (q0 : Addr) (kp0 : ClassId) (h0 : Heap) (Z0 : n0 ≤ h0.size) (O0 : Old Z n0 h0) (A_q0 : Arv Z h0 q0 kp0 .byte 4 [.int (ownB i0), .int (ownH i0), .int (ownB i1), .int (ownH i1)] (.int 0)) (c_1 : ¬ (65535 : Int32) < i0) (c_3 : ¬ i0 < 0) : MetH l Z EL0 n0 N_jdk_52_m_5 jdk_52_method_5_code 2 (some .char) [] R_rm58 #[.ref q0, .int 0] h0 [] (fun vs v h ve => (v = some (.int i0) ∧ (h0 = h))) := by
  refine MetH.of #[.val (.ref q0), .val (.int 0)] (plainFor_of_name pn_java_lang_StringUTF16) rfl Z0 (fun p e s m below meth c T0 hret hml hnm hSL hs0 X0 => ?_)
  refine kGETS X0 (wd G 102 rfl) Via.refl (Sta.ext O0.2 (S_AD G)) d23_0 (fun T1 X2 => ?_)
  refine kIFt X2 28 d23_3 (XT.i0_ne_t (by decide)) (by decide) ?_
  refine kILn X2 d23_28 rfl ?_
  refine kIC X2 1 d23_29 (by decide) ?_
  refine kISHL X2 0 d23_30 (by decide) ?_
  refine kISn X2 #[.val (.ref q0), .val (.int 0)] d23_31 rfl ?_
  refine kALn X2 d23_32 rfl rfl ?_
  refine kILn X2 d23_33 rfl ?_
  refine kIINC X2 (1 : Int32) (1 : Int32) #[.val (.ref q0), .val (.int 1)] d23_34 (by decide) rfl (by decide) rfl ?_
  refine kBALD X2 (.int (ownB i0)) A_q0 (by decide) rfl d23_37 ?_
  refine kSI X2 255 d23_38 (by decide) ?_
  refine kIAND X2 ((ownB i0) &&& (255 : Int32)) d23_41 rfl ?_
  refine kGETS X2 (wd G 103 rfl) Via.refl (Sta.ext O0.2 (S_HI G)) d23_42 (fun T3 X4 => ?_)
  refine kISHL X4 (((ownB i0) &&& (255 : Int32)) <<< ((0 : Int32) &&& 31)) d23_45 rfl ?_
  refine kALn X4 d23_46 rfl rfl ?_
  refine kILn X4 d23_47 rfl ?_
  refine kBALD X4 (.int (ownH i0)) A_q0 (by decide) rfl d23_48 ?_
  refine kSI X4 255 d23_49 (by decide) ?_
  refine kIAND X4 ((ownH i0) &&& (255 : Int32)) d23_52 rfl ?_
  refine kGETS X4 (wd G 104 rfl) Via.refl (Sta.ext O0.2 (S_LO G)) d23_53 (fun T5 X6 => ?_)
  refine kISHL X6 (((ownH i0) &&& (255 : Int32)) <<< ((8 : Int32) &&& 31)) d23_56 rfl ?_
  refine kIOR X6 ((((ownB i0) &&& (255 : Int32)) <<< ((0 : Int32) &&& 31)) ||| (((ownH i0) &&& (255 : Int32)) <<< ((8 : Int32) &&& 31))) d23_57 rfl ?_
  refine kI2C X6 i0 d23_58 (own_gc c_1 c_3) ?_
  exact kRETZ X6 (gEL G) (t := .char) hret (by simp) d23_59 (fun ve hve => ⟨(by rw [(own_n16 c_1 c_3)]), rfl⟩) (by decide)
def R_rm59 : Room := { frames := 0, cells := 0, slots := 0, locals := 0 }
theorem rm59 (G : Glob Z a0 iCS vSI) (i0 i1 : Int32) (q0 : Addr) (kp0 : ClassId) (h0 : Heap) (Z0 : n0 ≤ h0.size) (O0 : Old Z n0 h0) (A_q0 : Arv Z h0 q0 kp0 .byte 4 [.int (ownB i0), .int (ownH i0), .int (ownB i1), .int (ownH i1)] (.int 0)) (c_3 : ¬ (65535 : Int32) < i1) (c_6 : ¬ i1 < 0) : MetH l Z EL0 n0 N_jdk_52_m_5 jdk_52_method_5_code 2 (some .char) [] R_rm59 #[.ref q0, .int 1] h0 [] (fun vs v h ve => (v = some (.int i1) ∧ (h0 = h))) := by
  refine MetH.of #[.val (.ref q0), .val (.int 1)] (plainFor_of_name pn_java_lang_StringUTF16) rfl Z0 (fun p e s m below meth c T0 hret hml hnm hSL hs0 X0 => ?_)
  refine kGETS X0 (wd G 102 rfl) Via.refl (Sta.ext O0.2 (S_AD G)) d23_0 (fun T1 X2 => ?_)
  refine kIFt X2 28 d23_3 (XT.i0_ne_t (by decide)) (by decide) ?_
  refine kILn X2 d23_28 rfl ?_
  refine kIC X2 1 d23_29 (by decide) ?_
  refine kISHL X2 2 d23_30 (by decide) ?_
  refine kISn X2 #[.val (.ref q0), .val (.int 2)] d23_31 rfl ?_
  refine kALn X2 d23_32 rfl rfl ?_
  refine kILn X2 d23_33 rfl ?_
  refine kIINC X2 (1 : Int32) (3 : Int32) #[.val (.ref q0), .val (.int 3)] d23_34 (by decide) rfl (by decide) rfl ?_
  refine kBALD X2 (.int (ownB i1)) A_q0 (by decide) rfl d23_37 ?_
  refine kSI X2 255 d23_38 (by decide) ?_
  refine kIAND X2 ((ownB i1) &&& (255 : Int32)) d23_41 rfl ?_
  refine kGETS X2 (wd G 103 rfl) Via.refl (Sta.ext O0.2 (S_HI G)) d23_42 (fun T3 X4 => ?_)
  refine kISHL X4 (((ownB i1) &&& (255 : Int32)) <<< ((0 : Int32) &&& 31)) d23_45 rfl ?_
  refine kALn X4 d23_46 rfl rfl ?_
  refine kILn X4 d23_47 rfl ?_
  refine kBALD X4 (.int (ownH i1)) A_q0 (by decide) rfl d23_48 ?_
  refine kSI X4 255 d23_49 (by decide) ?_
  refine kIAND X4 ((ownH i1) &&& (255 : Int32)) d23_52 rfl ?_
  refine kGETS X4 (wd G 104 rfl) Via.refl (Sta.ext O0.2 (S_LO G)) d23_53 (fun T5 X6 => ?_)
  refine kISHL X6 (((ownH i1) &&& (255 : Int32)) <<< ((8 : Int32) &&& 31)) d23_56 rfl ?_
  refine kIOR X6 ((((ownB i1) &&& (255 : Int32)) <<< ((0 : Int32) &&& 31)) ||| (((ownH i1) &&& (255 : Int32)) <<< ((8 : Int32) &&& 31))) d23_57 rfl ?_
  refine kI2C X6 i1 d23_58 (own_gc c_3 c_6) ?_
  exact kRETZ X6 (gEL G) (t := .char) hret (by simp) d23_59 (fun ve hve => ⟨(by rw [(own_n16 c_3 c_6)]), rfl⟩) (by decide)
def R_rm51 : Room := { frames := 3, cells := 2, slots := 6, locals := 40 }
theorem rm51 (G : Glob Z a0 iCS vSI) (i0 i1 : Int32) (q0 : Addr) (kp0 : ClassId) (h0 : Heap) (Z0 : n0 ≤ h0.size) (O0 : Old Z n0 h0) (A_q0 : Arv Z h0 q0 kp0 .char 2 [.int i0, .int i1] (.int 0)) (c_0 : ¬ (65535 : Int32) < i0) (c_2 : ¬ i0 < 0) (c_1 : ¬ (65535 : Int32) < i1) (c_4 : ¬ i1 < 0) : MetH l Z EL0 n0 N_jdk_52_m_16 jdk_52_method_16_code 6 (some (.array (.byte))) [] R_rm51 #[.ref q0, .int 0, .int 2] h0 [] (fun vs v h ve => (∃ (x0 : Addr), ∃ (z0 : ClassId), v = some (.ref x0) ∧ ((255 : Int32) < i0) ∧ (Keep h0 h []) ∧ (h0.size ≤ x0) ∧ (Arv Z h x0 z0 .byte 4 [.int (ownB i0), .int (ownH i0), .int (ownB i1), .int (ownH i1)] (.int 0)) ∧ (Safe Z EL0 ve h x0)) ∨ (∃ (x0 : Addr), ∃ (z0 : ClassId), v = some (.ref x0) ∧ (¬ (255 : Int32) < i0) ∧ ((255 : Int32) < i1) ∧ (Keep h0 h []) ∧ (h0.size ≤ x0) ∧ (Arv Z h x0 z0 .byte 4 [.int (ownB i0), .int (ownH i0), .int (ownB i1), .int (ownH i1)] (.int 0)) ∧ (Safe Z EL0 ve h x0)) ∨ (∃ (x0 : Addr), ∃ (z0 : ClassId), v = some (.ref x0) ∧ (¬ (255 : Int32) < i0) ∧ (¬ (255 : Int32) < i1) ∧ (Keep h0 h []) ∧ (h0.size ≤ x0) ∧ (Arv Z h x0 z0 .byte 2 [.int (ownB i0), .int (ownB i1)] (.int 0)) ∧ (Safe Z EL0 ve h x0))) := by
  refine MetH.of #[.val (.ref q0), .val (.int 0), .val (.int 2), .unset, .unset, .unset] (plainFor_of_name pn_java_lang_StringUTF16) rfl Z0 (fun p e s m below meth c T0 hret hml hnm hSL hs0 X0 => ?_)
  refine kILn X0 d16_0 rfl ?_
  refine kNEWP X0 (wd G 21 rfl) (cap := 2) d16_1 (by decide) (by decide) (by decide) (by decide) (by decide) (fun T1 h2 a4 k5 E6 q7 g8 A9 s10 X3 => ?_)
  have n11 : q0 ≠ a4 := Nat.ne_of_lt (Nat.lt_of_lt_of_le (A_q0.lt) (Nat.le_of_eq q7.symm))
  have g12 : h0.size ≤ a4 := q7 ▸ X0.g0
  have f13 : Arv Z h2 a4 k5 .byte 2 [.int 0, .int 0] (.int 0) := A9.pad (pad_rep [] _ 2)
  refine kASn X3 #[.val (.ref q0), .val (.int 0), .val (.int 2), .val (.ref a4), .unset, .unset] d16_3 rfl rfl ?_
  refine kALn X3 d16_4 rfl rfl ?_
  refine kILn X3 d16_5 rfl ?_
  refine kALn X3 d16_6 rfl rfl ?_
  refine kIC X3 0 d16_7 (by decide) ?_
  refine kILn X3 d16_8 rfl ?_
  have f14 := (Arv.ext A_q0 E6)
  have f15 := (Old.ext O0 E6)
  refine kSTAT X3 (gEL G) (argsL := [.ref q0, .int 0, .ref a4, .int 0, .int 2]) (rest := []) (wd G 83 rfl) (wd G 84 rfl) (wd G 81 rfl) (wd G 85 rfl) (by decide) (rm52 G i0 i1 q0 a4 kp0 k5 h2 X3.n f15 f14 f13 n11 g8) (allS ⟨(f13.lt), s10⟩ all0) (lenOf pd___CI_BII_I rfl) rfl 0 rfl (by decide) hml.symm d16_9 (fun v16 T17 h18 vm19 _ w20 q21 C22 C23 X24 => ?_)
  rcases q21 with o26 | o27 | o28
  · obtain ⟨e29, f30, f31⟩ := o26
    subst e29
    subst f31
    show Go _ _ _ _ _ (mkF _ _ _ [.int 0])
    refine kIS X24 #[.val (.ref q0), .val (.int 0), .val (.int 2), .val (.ref a4), .val (.int 0), .unset] d16_12 rfl ?_
    refine kIL X24 d16_14 rfl ?_
    refine kILn X24 d16_16 rfl ?_
    refine kICf X24 d16_17 (XT.ii_eq_f (by decide)) ?_
    refine kALn X24 d16_20 rfl rfl ?_
    refine kILn X24 d16_21 rfl ?_
    refine kILn X24 d16_22 rfl ?_
    refine kSTAT X24 (gEL G) (argsL := [.ref q0, .int 0, .int 2]) (rest := []) (wd G 89 rfl) (wd G 90 rfl) (wd G 81 rfl) (wd G 91 rfl) (by decide) (rm53 G i0 i1 q0 kp0 h2 X24.n f15 f14 c_0 c_2 c_1 c_4) all0 (lenOf pd___CII__B rfl) rfl 0 rfl (by decide) hml.symm d16_23 (fun v32 T33 h34 vm35 _ w36 q37 C38 C39 X40 => ?_)
    obtain ⟨a42, k43, e44, f45, f46, f47, f48⟩ := q37
    subst e44
    have n49 : q0 ≠ a42 := Nat.ne_of_lt (Nat.lt_of_lt_of_le (f14.lt) f46)
    have n50 : a4 ≠ a42 := Nat.ne_of_lt (Nat.lt_of_lt_of_le (f13.lt) f46)
    have g51 : n0 ≤ a42 := Nat.le_trans X24.n f46
    have g52 : h0.size ≤ a42 := Nat.le_trans X24.g0 f46
    show Go _ _ _ _ _ (mkF _ _ _ [.ref a42])
    refine kAS X40 #[.val (.ref q0), .val (.int 0), .val (.int 2), .val (.ref a4), .val (.int 0), .val (.ref a42)] d16_26 rfl rfl ?_
    refine kAL X40 d16_28 rfl rfl ?_
    refine kIL X40 d16_30 rfl ?_
    have f53 := (Old.keep f15 f45 all0)
    refine kSTAT X40 (gEL G) (argsL := [.ref a42, .int 0]) (rest := []) (wd G 105 rfl) (wd G 106 rfl) (wd G 81 rfl) (wd G 107 rfl) (by decide) (rm58 G i0 i1 a42 k43 h34 X40.n f53 f47 c_0 c_2) all0 (lenOf pd___BI_C rfl) rfl 0 rfl (by decide) hml.symm d16_32 (fun v54 T55 h56 vm57 _ w58 q59 C60 C61 X62 => ?_)
    obtain ⟨e64, f65⟩ := q59
    subst e64
    subst f65
    show Go _ _ _ _ _ (mkF _ _ _ [.int i0])
    refine kSI X62 255 d16_35 (by decide) ?_
    refine kICt X62 54 d16_38 (XT.ii_gt_t f30) (by decide) ?_
    refine kAL X62 d16_54 rfl rfl ?_
    have K66 : Keep h0 h34 [] := (Keep.trans (Keep.ext (Keep.refl h0 []) E6) f45 all0)
    have f67 := (CHr.safe C61 (f47.lt) f48)
    exact kRETA X62 (gEL G) hret rfl rfl d16_56 (fun ve hve => Or.inl (⟨a42, k43, rfl, f30, K66, g52, f47, (CHr.safe hve (f47.lt) f67)⟩)) (by decide)
  · obtain ⟨e68, f69, f70, f71, f72⟩ := o27
    subst e68
    show Go _ _ _ _ _ (mkF _ _ _ [.int 1])
    refine kIS X24 #[.val (.ref q0), .val (.int 0), .val (.int 2), .val (.ref a4), .val (.int 1), .unset] d16_12 rfl ?_
    refine kIL X24 d16_14 rfl ?_
    refine kILn X24 d16_16 rfl ?_
    refine kICf X24 d16_17 (XT.ii_eq_f (by decide)) ?_
    refine kALn X24 d16_20 rfl rfl ?_
    refine kILn X24 d16_21 rfl ?_
    refine kILn X24 d16_22 rfl ?_
    have f73 := (Arv.keep f14 f71 (ninS n11 nin0))
    have f74 := (Old.keep f15 f71 (allS g8 all0))
    refine kSTAT X24 (gEL G) (argsL := [.ref q0, .int 0, .int 2]) (rest := []) (wd G 89 rfl) (wd G 90 rfl) (wd G 81 rfl) (wd G 91 rfl) (by decide) (rm53 G i0 i1 q0 kp0 h18 X24.n f74 f73 c_0 c_2 c_1 c_4) all0 (lenOf pd___CII__B rfl) rfl 0 rfl (by decide) hml.symm d16_23 (fun v75 T76 h77 vm78 _ w79 q80 C81 C82 X83 => ?_)
    obtain ⟨a85, k86, e87, f88, f89, f90, f91⟩ := q80
    subst e87
    have n92 : q0 ≠ a85 := Nat.ne_of_lt (Nat.lt_of_lt_of_le (f73.lt) f89)
    have n93 : a4 ≠ a85 := Nat.ne_of_lt (Nat.lt_of_lt_of_le (f72.lt) f89)
    have g94 : n0 ≤ a85 := Nat.le_trans X24.n f89
    have g95 : h0.size ≤ a85 := Nat.le_trans X24.g0 f89
    show Go _ _ _ _ _ (mkF _ _ _ [.ref a85])
    refine kAS X83 #[.val (.ref q0), .val (.int 0), .val (.int 2), .val (.ref a4), .val (.int 1), .val (.ref a85)] d16_26 rfl rfl ?_
    refine kAL X83 d16_28 rfl rfl ?_
    refine kIL X83 d16_30 rfl ?_
    have f96 := (Old.keep f74 f88 all0)
    refine kSTAT X83 (gEL G) (argsL := [.ref a85, .int 1]) (rest := []) (wd G 105 rfl) (wd G 106 rfl) (wd G 81 rfl) (wd G 107 rfl) (by decide) (rm59 G i0 i1 a85 k86 h77 X83.n f96 f90 c_1 c_4) all0 (lenOf pd___BI_C rfl) rfl 0 rfl (by decide) hml.symm d16_32 (fun v97 T98 h99 vm100 _ w101 q102 C103 C104 X105 => ?_)
    obtain ⟨e107, f108⟩ := q102
    subst e107
    subst f108
    show Go _ _ _ _ _ (mkF _ _ _ [.int i1])
    refine kSI X105 255 d16_35 (by decide) ?_
    refine kICt X105 54 d16_38 (XT.ii_gt_t f70) (by decide) ?_
    refine kAL X105 d16_54 rfl rfl ?_
    have K109 : Keep h0 h77 [] := (Keep.trans (Keep.trans (Keep.ext (Keep.refl h0 []) E6) f71 (allS (Or.inr g12) all0)) f88 all0)
    have f110 := (CHr.safe C104 (f90.lt) f91)
    exact kRETA X105 (gEL G) hret rfl rfl d16_56 (fun ve hve => Or.inr (Or.inl (⟨a85, k86, rfl, f69, f70, K109, g95, f90, (CHr.safe hve (f90.lt) f110)⟩))) (by decide)
  · obtain ⟨e111, f112, f113, f114, f115⟩ := o28
    subst e111
    show Go _ _ _ _ _ (mkF _ _ _ [.int 2])
    refine kIS X24 #[.val (.ref q0), .val (.int 0), .val (.int 2), .val (.ref a4), .val (.int 2), .unset] d16_12 rfl ?_
    refine kIL X24 d16_14 rfl ?_
    refine kILn X24 d16_16 rfl ?_
    refine kICt X24 57 d16_17 (XT.ii_eq_t (by decide)) (by decide) ?_
    refine kALn X24 d16_57 rfl rfl ?_
    have K116 : Keep h0 h18 [] := (Keep.trans (Keep.ext (Keep.refl h0 []) E6) f114 (allS (Or.inr g12) all0))
    have f117 := (CHr.safe C23 (f13.lt) s10)
    exact kRETA X24 (gEL G) hret rfl rfl d16_58 (fun ve hve => Or.inr (Or.inr (⟨a4, k5, rfl, f112, f113, K116, g12, f115, (CHr.safe hve (f115.lt) f117)⟩))) (by decide)
def R_rm60 : Room := { frames := 0, cells := 0, slots := 0, locals := 0 }
theorem rm60 (G : Glob Z a0 iCS vSI) (i0 i1 : Int32) (q0 : Addr) (kp0 : ClassId) (h0 : Heap) (Z0 : n0 ≤ h0.size) (O0 : Old Z n0 h0) (A_q0 : Arv Z h0 q0 kp0 .byte 4 [.int (ownB i0), .int (ownH i0), .int (ownB i1), .int (ownH i1)] (.int 0)) : MetH l Z EL0 n0 N_jdk_52_m_15 jdk_52_method_15_code 2 (some .byte) [] R_rm60 #[.ref q0, .int 2] h0 [] (fun vs v h ve => (v = some (.int 1) ∧ (h0 = h))) := by
  refine MetH.of #[.val (.ref q0), .val (.int 2)] (plainFor_of_name pn_java_lang_StringUTF16) rfl Z0 (fun p e s m below meth c T0 hret hml hnm hSL hs0 X0 => ?_)
  refine kILn X0 d18_0 rfl ?_
  refine kALn X0 d18_1 rfl rfl ?_
  refine kLEN X0 A_q0 d18_2 ?_
  refine kISUB X0 (-2) d18_3 (by decide) ?_
  refine kBI X0 31 d18_4 (by decide) ?_
  refine kIUSHR X0 1 d18_6 (by decide) ?_
  refine kI2B X0 (1 : Int32) d18_7 (by decide) ?_
  exact kRETZ X0 (gEL G) (t := .byte) hret (by simp) d18_8 (fun ve hve => ⟨rfl, rfl⟩) (by decide)
def R_rm61 : Room := { frames := 0, cells := 0, slots := 0, locals := 0 }
theorem rm61 (G : Glob Z a0 iCS vSI) (i0 i1 : Int32) (q0 : Addr) (kp0 : ClassId) (h0 : Heap) (Z0 : n0 ≤ h0.size) (O0 : Old Z n0 h0) (A_q0 : Arv Z h0 q0 kp0 .byte 2 [.int (ownB i0), .int (ownB i1)] (.int 0)) : MetH l Z EL0 n0 N_jdk_52_m_15 jdk_52_method_15_code 2 (some .byte) [] R_rm61 #[.ref q0, .int 2] h0 [] (fun vs v h ve => (v = some (.int 0) ∧ (h0 = h))) := by
  refine MetH.of #[.val (.ref q0), .val (.int 2)] (plainFor_of_name pn_java_lang_StringUTF16) rfl Z0 (fun p e s m below meth c T0 hret hml hnm hSL hs0 X0 => ?_)
  refine kILn X0 d18_0 rfl ?_
  refine kALn X0 d18_1 rfl rfl ?_
  refine kLEN X0 A_q0 d18_2 ?_
  refine kISUB X0 0 d18_3 (by decide) ?_
  refine kBI X0 31 d18_4 (by decide) ?_
  refine kIUSHR X0 0 d18_6 (by decide) ?_
  refine kI2B X0 (0 : Int32) d18_7 (by decide) ?_
  exact kRETZ X0 (gEL G) (t := .byte) hret (by simp) d18_8 (fun ve hve => ⟨rfl, rfl⟩) (by decide)
def R_rm50 : Room := { frames := 4, cells := 2, slots := 6, locals := 57 }
theorem rm50 (G : Glob Z a0 iCS vSI) (i0 i1 : Int32) (q0 q1 : Addr) (kp0 : ClassId) (h0 : Heap) (Z0 : n0 ≤ h0.size) (O0 : Old Z n0 h0) (c_0 : ¬ (65535 : Int32) < i0) (c_2 : ¬ i0 < 0) (c_1 : ¬ (65535 : Int32) < i1) (c_4 : ¬ i1 < 0) (A_q1 : Arv Z h0 q1 kp0 .char 2 [.int i0, .int i1] (.int 0)) (E_q0 : Exa Z h0 q0 "java/lang/String") (F_q0_coder : Fld Z h0 q0 "java/lang/String" "coder" "B" (.int 0)) (F_q0_value : Fld Z h0 q0 "java/lang/String" "value" "[B" (.null)) (g_q0 : n0 ≤ q0) : MetH l Z EL0 n0 N_jdk_42_m_149 jdk_42_method_149_code 6 none [] R_rm50 #[.ref q0, .ref q1, .int 0, .int 2, .null] h0 [q0] (fun vs v h ve => (∃ (x0 : Addr), ∃ (z0 : ClassId), v = none ∧ ((255 : Int32) < i0) ∧ (Keep h0 h [q0]) ∧ (h0.size ≤ x0) ∧ (Arv Z h x0 z0 .byte 4 [.int (ownB i0), .int (ownH i0), .int (ownB i1), .int (ownH i1)] (.int 0)) ∧ (Safe Z EL0 ve h x0) ∧ (Fld Z h q0 "java/lang/String" "coder" "B" (.int 1)) ∧ (Fld Z h q0 "java/lang/String" "value" "[B" (.ref x0))) ∨ (∃ (x0 : Addr), ∃ (z0 : ClassId), v = none ∧ (¬ (255 : Int32) < i0) ∧ ((255 : Int32) < i1) ∧ (Keep h0 h [q0]) ∧ (h0.size ≤ x0) ∧ (Arv Z h x0 z0 .byte 4 [.int (ownB i0), .int (ownH i0), .int (ownB i1), .int (ownH i1)] (.int 0)) ∧ (Safe Z EL0 ve h x0) ∧ (Fld Z h q0 "java/lang/String" "coder" "B" (.int 1)) ∧ (Fld Z h q0 "java/lang/String" "value" "[B" (.ref x0))) ∨ (∃ (x0 : Addr), ∃ (z0 : ClassId), v = none ∧ (¬ (255 : Int32) < i0) ∧ (¬ (255 : Int32) < i1) ∧ (Keep h0 h [q0]) ∧ (h0.size ≤ x0) ∧ (Arv Z h x0 z0 .byte 2 [.int (ownB i0), .int (ownB i1)] (.int 0)) ∧ (Safe Z EL0 ve h x0) ∧ (Fld Z h q0 "java/lang/String" "coder" "B" (.int 0)) ∧ (Fld Z h q0 "java/lang/String" "value" "[B" (.ref x0)))) := by
  refine MetH.of #[.val (.ref q0), .val (.ref q1), .val (.int 0), .val (.int 2), .val .null, .unset] (plainFor_of_name pn_java_lang_String) rfl Z0 (fun p e s m below meth c T0 hret hml hnm hSL hs0 X0 => ?_)
  have S_q0 := hSL q0 (List.mem_of_getElem? (i := 0) rfl)
  refine kALn X0 d2_0 rfl rfl ?_
  refine kINIT X0 (wd G 17 rfl) (wd G 18 rfl) (wd G 19 rfl) hml.symm d2_1 (by decide) 0 (Nat.le_of_eq rfl) (by decide) (fun T1 X2 => ?_)
  refine kILn X2 d2_4 rfl ?_
  refine kIFt X2 27 d2_5 (XT.i0_ne_t (by decide)) (by decide) ?_
  refine kGETS X2 (wd G 31 rfl) Via.refl (Sta.ext O0.2 (S_CS G)) d2_27 (fun T3 X4 => ?_)
  refine kIFf X4 d2_30 (XT.i0_eq_f (n_CS G)) ?_
  refine kALn X4 d2_33 rfl rfl ?_
  refine kILn X4 d2_34 rfl ?_
  refine kILn X4 d2_35 rfl ?_
  refine kSTAT X4 (gEL G) (argsL := [.ref q1, .int 0, .int 2]) (rest := []) (wd G 79 rfl) (wd G 80 rfl) (wd G 81 rfl) (wd G 82 rfl) (by decide) (rm51 G i0 i1 q1 kp0 h0 X4.n O0 A_q1 c_0 c_2 c_1 c_4) all0 (lenOf pd___CII__B rfl) rfl 0 rfl (by decide) hml.symm d2_36 (fun v5 T6 h7 vm8 _ w9 q10 C11 C12 X13 => ?_)
  rcases q10 with o15 | o16 | o17
  · obtain ⟨a18, k19, e20, f21, f22, f23, f24, f25⟩ := o15
    subst e20
    have n26 : q0 ≠ a18 := Nat.ne_of_lt (Nat.lt_of_lt_of_le (E_q0.lt) f23)
    have n27 : q1 ≠ a18 := Nat.ne_of_lt (Nat.lt_of_lt_of_le (A_q1.lt) f23)
    have g28 : n0 ≤ a18 := Nat.le_trans X4.n f23
    have g29 : h0.size ≤ a18 := Nat.le_trans X4.g0 f23
    show Go _ _ _ _ _ (mkF _ _ _ [.ref a18])
    refine kAS X13 #[.val (.ref q0), .val (.ref q1), .val (.int 0), .val (.int 2), .val .null, .val (.ref a18)] d2_39 rfl rfl ?_
    refine kALn X13 d2_41 rfl rfl ?_
    refine kAL X13 d2_42 rfl rfl ?_
    refine kILn X13 d2_44 rfl ?_
    have f30 := (Old.keep O0 f22 all0)
    refine kSTAT X13 (gEL G) (argsL := [.ref a18, .int 2]) (rest := [.ref q0]) (wd G 86 rfl) (wd G 87 rfl) (wd G 81 rfl) (wd G 88 rfl) (by decide) (rm60 G i0 i1 a18 k19 h7 X13.n f30 f24) all0 (lenOf pd___BI_B rfl) rfl 1 rfl (by decide) hml.symm d2_45 (fun v31 T32 h33 vm34 _ w35 q36 C37 C38 X39 => ?_)
    obtain ⟨e41, f42⟩ := q36
    subst e41
    subst f42
    show Go _ _ _ _ _ (mkF _ _ _ [.int 1, .ref q0])
    have f43 := (Fld.keep F_q0_coder f22 nin0)
    have f44 := (Exa.keep E_q0 f22)
    have f45 := (CHr.safe C38 ((Fld.keep F_q0_value f22 nin0)).lt (CHr.safe C12 (F_q0_value.lt) S_q0))
    refine kPUTF X39 (wd G 27 rfl) Via.refl f43 f44 (Or.inr ⟨(wd G 23 rfl), rfl, hnm⟩) (wd G 7 rfl) (ty := .byte) (by decide) (by decide) (by decide) g_q0 f45 d2_48 (fun T46 h47 L50 W49 X48 => ?_)
    have f51 := Fld.same W49 f43
    refine kALn X48 d2_51 rfl rfl ?_
    refine kAL X48 d2_52 rfl rfl ?_
    have f52 := (Fld.other W49 (Fld.keep F_q0_value f22 nin0) (Or.inr (slot_ne (Or.inr (wd G 22 rfl)) (Or.inr (wd G 23 rfl)) (by decide) (by decide : parseFieldDescriptor "[B" = some (.array (.byte))) (by decide : parseFieldDescriptor "B" = some .byte))))
    have f53 := (Exa.wr W49 f44)
    have f54 := (Safe.wr W49 f45 X39.C.1 f45)
    refine kPUTF X48 (wd G 26 rfl) Via.refl f52 f53 (Or.inr ⟨(wd G 22 rfl), rfl, hnm⟩) (wd G 7 rfl) (ty := (.array (.byte))) (by decide) rfl rfl g_q0 f54 d2_54 (fun T55 h56 L59 W58 X57 => ?_)
    have f60 := Fld.same W58 f52
    have K61 : Keep h0 h56 [q0] := (Keep.wr (Keep.wr (Keep.trans (Keep.refl h0 [q0]) f22 all0) W49 (Or.inl (List.mem_of_getElem? (i := 0) rfl))) W58 (Or.inl (List.mem_of_getElem? (i := 0) rfl)))
    have f62 := (Arv.other (Arv.other f24 W49 (Ne.symm n26)) W58 (Ne.symm n26))
    have f63 := (Safe.wr W58 f54 X48.C.1 (Safe.wr W49 f45 X39.C.1 (CHr.safe C38 (f24.lt) f25)))
    have f64 := (Fld.other W58 f51 (Or.inr (slot_ne (Or.inr (wd G 23 rfl)) (Or.inr (wd G 22 rfl)) (by decide) (by decide : parseFieldDescriptor "B" = some .byte) (by decide : parseFieldDescriptor "[B" = some (.array (.byte))))))
    exact kRETV X57 (gEL G) hret d2_57 (fun ve hve => Or.inl (⟨a18, k19, rfl, f21, K61, g29, f62, (CHr.safe hve (f62.lt) f63), f64, f60⟩)) (by decide)
  · obtain ⟨a65, k66, e67, f68, f69, f70, f71, f72, f73⟩ := o16
    subst e67
    have n74 : q0 ≠ a65 := Nat.ne_of_lt (Nat.lt_of_lt_of_le (E_q0.lt) f71)
    have n75 : q1 ≠ a65 := Nat.ne_of_lt (Nat.lt_of_lt_of_le (A_q1.lt) f71)
    have g76 : n0 ≤ a65 := Nat.le_trans X4.n f71
    have g77 : h0.size ≤ a65 := Nat.le_trans X4.g0 f71
    show Go _ _ _ _ _ (mkF _ _ _ [.ref a65])
    refine kAS X13 #[.val (.ref q0), .val (.ref q1), .val (.int 0), .val (.int 2), .val .null, .val (.ref a65)] d2_39 rfl rfl ?_
    refine kALn X13 d2_41 rfl rfl ?_
    refine kAL X13 d2_42 rfl rfl ?_
    refine kILn X13 d2_44 rfl ?_
    have f78 := (Old.keep O0 f70 all0)
    refine kSTAT X13 (gEL G) (argsL := [.ref a65, .int 2]) (rest := [.ref q0]) (wd G 86 rfl) (wd G 87 rfl) (wd G 81 rfl) (wd G 88 rfl) (by decide) (rm60 G i0 i1 a65 k66 h7 X13.n f78 f72) all0 (lenOf pd___BI_B rfl) rfl 1 rfl (by decide) hml.symm d2_45 (fun v79 T80 h81 vm82 _ w83 q84 C85 C86 X87 => ?_)
    obtain ⟨e89, f90⟩ := q84
    subst e89
    subst f90
    show Go _ _ _ _ _ (mkF _ _ _ [.int 1, .ref q0])
    have f91 := (Fld.keep F_q0_coder f70 nin0)
    have f92 := (Exa.keep E_q0 f70)
    have f93 := (CHr.safe C86 ((Fld.keep F_q0_value f70 nin0)).lt (CHr.safe C12 (F_q0_value.lt) S_q0))
    refine kPUTF X87 (wd G 27 rfl) Via.refl f91 f92 (Or.inr ⟨(wd G 23 rfl), rfl, hnm⟩) (wd G 7 rfl) (ty := .byte) (by decide) (by decide) (by decide) g_q0 f93 d2_48 (fun T94 h95 L98 W97 X96 => ?_)
    have f99 := Fld.same W97 f91
    refine kALn X96 d2_51 rfl rfl ?_
    refine kAL X96 d2_52 rfl rfl ?_
    have f100 := (Fld.other W97 (Fld.keep F_q0_value f70 nin0) (Or.inr (slot_ne (Or.inr (wd G 22 rfl)) (Or.inr (wd G 23 rfl)) (by decide) (by decide : parseFieldDescriptor "[B" = some (.array (.byte))) (by decide : parseFieldDescriptor "B" = some .byte))))
    have f101 := (Exa.wr W97 f92)
    have f102 := (Safe.wr W97 f93 X87.C.1 f93)
    refine kPUTF X96 (wd G 26 rfl) Via.refl f100 f101 (Or.inr ⟨(wd G 22 rfl), rfl, hnm⟩) (wd G 7 rfl) (ty := (.array (.byte))) (by decide) rfl rfl g_q0 f102 d2_54 (fun T103 h104 L107 W106 X105 => ?_)
    have f108 := Fld.same W106 f100
    have K109 : Keep h0 h104 [q0] := (Keep.wr (Keep.wr (Keep.trans (Keep.refl h0 [q0]) f70 all0) W97 (Or.inl (List.mem_of_getElem? (i := 0) rfl))) W106 (Or.inl (List.mem_of_getElem? (i := 0) rfl)))
    have f110 := (Arv.other (Arv.other f72 W97 (Ne.symm n74)) W106 (Ne.symm n74))
    have f111 := (Safe.wr W106 f102 X96.C.1 (Safe.wr W97 f93 X87.C.1 (CHr.safe C86 (f72.lt) f73)))
    have f112 := (Fld.other W106 f99 (Or.inr (slot_ne (Or.inr (wd G 23 rfl)) (Or.inr (wd G 22 rfl)) (by decide) (by decide : parseFieldDescriptor "B" = some .byte) (by decide : parseFieldDescriptor "[B" = some (.array (.byte))))))
    exact kRETV X105 (gEL G) hret d2_57 (fun ve hve => Or.inr (Or.inl (⟨a65, k66, rfl, f68, f69, K109, g77, f110, (CHr.safe hve (f110.lt) f111), f112, f108⟩))) (by decide)
  · obtain ⟨a113, k114, e115, f116, f117, f118, f119, f120, f121⟩ := o17
    subst e115
    have n122 : q0 ≠ a113 := Nat.ne_of_lt (Nat.lt_of_lt_of_le (E_q0.lt) f119)
    have n123 : q1 ≠ a113 := Nat.ne_of_lt (Nat.lt_of_lt_of_le (A_q1.lt) f119)
    have g124 : n0 ≤ a113 := Nat.le_trans X4.n f119
    have g125 : h0.size ≤ a113 := Nat.le_trans X4.g0 f119
    show Go _ _ _ _ _ (mkF _ _ _ [.ref a113])
    refine kAS X13 #[.val (.ref q0), .val (.ref q1), .val (.int 0), .val (.int 2), .val .null, .val (.ref a113)] d2_39 rfl rfl ?_
    refine kALn X13 d2_41 rfl rfl ?_
    refine kAL X13 d2_42 rfl rfl ?_
    refine kILn X13 d2_44 rfl ?_
    have f126 := (Old.keep O0 f118 all0)
    refine kSTAT X13 (gEL G) (argsL := [.ref a113, .int 2]) (rest := [.ref q0]) (wd G 86 rfl) (wd G 87 rfl) (wd G 81 rfl) (wd G 88 rfl) (by decide) (rm61 G i0 i1 a113 k114 h7 X13.n f126 f120) all0 (lenOf pd___BI_B rfl) rfl 1 rfl (by decide) hml.symm d2_45 (fun v127 T128 h129 vm130 _ w131 q132 C133 C134 X135 => ?_)
    obtain ⟨e137, f138⟩ := q132
    subst e137
    subst f138
    show Go _ _ _ _ _ (mkF _ _ _ [.int 0, .ref q0])
    have f139 := (Fld.keep F_q0_coder f118 nin0)
    have f140 := (Exa.keep E_q0 f118)
    have f141 := (CHr.safe C134 ((Fld.keep F_q0_value f118 nin0)).lt (CHr.safe C12 (F_q0_value.lt) S_q0))
    refine kPUTF X135 (wd G 27 rfl) Via.refl f139 f140 (Or.inr ⟨(wd G 23 rfl), rfl, hnm⟩) (wd G 7 rfl) (ty := .byte) (by decide) (by decide) (by decide) g_q0 f141 d2_48 (fun T142 h143 L146 W145 X144 => ?_)
    have f147 := Fld.same W145 f139
    refine kALn X144 d2_51 rfl rfl ?_
    refine kAL X144 d2_52 rfl rfl ?_
    have f148 := (Fld.other W145 (Fld.keep F_q0_value f118 nin0) (Or.inr (slot_ne (Or.inr (wd G 22 rfl)) (Or.inr (wd G 23 rfl)) (by decide) (by decide : parseFieldDescriptor "[B" = some (.array (.byte))) (by decide : parseFieldDescriptor "B" = some .byte))))
    have f149 := (Exa.wr W145 f140)
    have f150 := (Safe.wr W145 f141 X135.C.1 f141)
    refine kPUTF X144 (wd G 26 rfl) Via.refl f148 f149 (Or.inr ⟨(wd G 22 rfl), rfl, hnm⟩) (wd G 7 rfl) (ty := (.array (.byte))) (by decide) rfl rfl g_q0 f150 d2_54 (fun T151 h152 L155 W154 X153 => ?_)
    have f156 := Fld.same W154 f148
    have K157 : Keep h0 h152 [q0] := (Keep.wr (Keep.wr (Keep.trans (Keep.refl h0 [q0]) f118 all0) W145 (Or.inl (List.mem_of_getElem? (i := 0) rfl))) W154 (Or.inl (List.mem_of_getElem? (i := 0) rfl)))
    have f158 := (Arv.other (Arv.other f120 W145 (Ne.symm n122)) W154 (Ne.symm n122))
    have f159 := (Safe.wr W154 f150 X144.C.1 (Safe.wr W145 f141 X135.C.1 (CHr.safe C134 (f120.lt) f121)))
    have f160 := (Fld.other W154 f147 (Or.inr (slot_ne (Or.inr (wd G 23 rfl)) (Or.inr (wd G 22 rfl)) (by decide) (by decide : parseFieldDescriptor "B" = some .byte) (by decide : parseFieldDescriptor "[B" = some (.array (.byte))))))
    exact kRETV X153 (gEL G) hret d2_57 (fun ve hve => Or.inr (Or.inr (⟨a113, k114, rfl, f116, f117, K157, g125, f158, (CHr.safe hve (f158.lt) f159), f160, f156⟩))) (by decide)
def R_rm49 : Room := { frames := 5, cells := 2, slots := 6, locals := 74 }
theorem rm49 (G : Glob Z a0 iCS vSI) (i0 i1 : Int32) (q0 q1 : Addr) (kp0 : ClassId) (h0 : Heap) (Z0 : n0 ≤ h0.size) (O0 : Old Z n0 h0) (A_q1 : Arv Z h0 q1 kp0 .char 2 [.int i0, .int i1] (.int 0)) (c_0 : ¬ (65535 : Int32) < i0) (c_2 : ¬ i0 < 0) (c_1 : ¬ (65535 : Int32) < i1) (c_4 : ¬ i1 < 0) (E_q0 : Exa Z h0 q0 "java/lang/String") (F_q0_coder : Fld Z h0 q0 "java/lang/String" "coder" "B" (.int 0)) (F_q0_value : Fld Z h0 q0 "java/lang/String" "value" "[B" (.null)) (g_q0 : n0 ≤ q0) : MetH l Z EL0 n0 N_jdk_42_m_3 jdk_42_method_3_code 2 none [] R_rm49 #[.ref q0, .ref q1] h0 [q0] (fun vs v h ve => (∃ (x0 : Addr), ∃ (z0 : ClassId), v = none ∧ ((255 : Int32) < i0) ∧ (Keep h0 h [q0]) ∧ (h0.size ≤ x0) ∧ (Arv Z h x0 z0 .byte 4 [.int (ownB i0), .int (ownH i0), .int (ownB i1), .int (ownH i1)] (.int 0)) ∧ (Safe Z EL0 ve h x0) ∧ (Fld Z h q0 "java/lang/String" "coder" "B" (.int 1)) ∧ (Fld Z h q0 "java/lang/String" "value" "[B" (.ref x0))) ∨ (∃ (x0 : Addr), ∃ (z0 : ClassId), v = none ∧ (¬ (255 : Int32) < i0) ∧ ((255 : Int32) < i1) ∧ (Keep h0 h [q0]) ∧ (h0.size ≤ x0) ∧ (Arv Z h x0 z0 .byte 4 [.int (ownB i0), .int (ownH i0), .int (ownB i1), .int (ownH i1)] (.int 0)) ∧ (Safe Z EL0 ve h x0) ∧ (Fld Z h q0 "java/lang/String" "coder" "B" (.int 1)) ∧ (Fld Z h q0 "java/lang/String" "value" "[B" (.ref x0))) ∨ (∃ (x0 : Addr), ∃ (z0 : ClassId), v = none ∧ (¬ (255 : Int32) < i0) ∧ (¬ (255 : Int32) < i1) ∧ (Keep h0 h [q0]) ∧ (h0.size ≤ x0) ∧ (Arv Z h x0 z0 .byte 2 [.int (ownB i0), .int (ownB i1)] (.int 0)) ∧ (Safe Z EL0 ve h x0) ∧ (Fld Z h q0 "java/lang/String" "coder" "B" (.int 0)) ∧ (Fld Z h q0 "java/lang/String" "value" "[B" (.ref x0)))) := by
  refine MetH.of #[.val (.ref q0), .val (.ref q1)] (plainFor_of_name pn_java_lang_String) rfl Z0 (fun p e s m below meth c T0 hret hml hnm hSL hs0 X0 => ?_)
  have S_q0 := hSL q0 (List.mem_of_getElem? (i := 0) rfl)
  refine kALn X0 d1_0 rfl rfl ?_
  refine kALn X0 d1_1 rfl rfl ?_
  refine kIC X0 0 d1_2 (by decide) ?_
  refine kALn X0 d1_3 rfl rfl ?_
  refine kLEN X0 A_q1 d1_4 ?_
  refine kNULL X0 d1_5 ?_
  refine kSPEC X0 (gEL G) (argsL := [.ref q1, .int 0, .int 2, .null]) (rest := []) (wd G 13 rfl) (wd G 14 rfl) (wd G 8 rfl) (wd G 16 rfl) rfl (by decide) (rm50 G i0 i1 q0 q1 kp0 h0 X0.n O0 c_0 c_2 c_1 c_4 A_q1 E_q0 F_q0_coder F_q0_value g_q0) (allS ⟨(E_q0.lt), S_q0⟩ all0) (lenOf pd___CIILjava_lang_Void__V rfl) rfl 0 rfl (by decide) hml.symm d1_6 (fun v1 T2 h3 vm4 _ w5 q6 C7 C8 X9 => ?_)
  rcases q6 with o11 | o12 | o13
  · obtain ⟨a14, k15, e16, f17, f18, f19, f20, f21, f22, f23⟩ := o11
    subst e16
    have n24 : q0 ≠ a14 := Nat.ne_of_lt (Nat.lt_of_lt_of_le (E_q0.lt) f19)
    have n25 : q1 ≠ a14 := Nat.ne_of_lt (Nat.lt_of_lt_of_le (A_q1.lt) f19)
    have g26 : n0 ≤ a14 := Nat.le_trans X0.n f19
    have g27 : h0.size ≤ a14 := Nat.le_trans X0.g0 f19
    show Go _ _ _ _ _ (mkF _ _ _ [])
    have K28 : Keep h0 h3 [q0] := (Keep.trans (Keep.refl h0 [q0]) f18 (allS (Or.inl (List.mem_of_getElem? (i := 0) rfl)) all0))
    exact kRETV X9 (gEL G) hret d1_9 (fun ve hve => Or.inl (⟨a14, k15, rfl, f17, K28, g27, f20, (CHr.safe hve (f20.lt) f21), f22, f23⟩)) (by decide)
  · obtain ⟨a29, k30, e31, f32, f33, f34, f35, f36, f37, f38, f39⟩ := o12
    subst e31
    have n40 : q0 ≠ a29 := Nat.ne_of_lt (Nat.lt_of_lt_of_le (E_q0.lt) f35)
    have n41 : q1 ≠ a29 := Nat.ne_of_lt (Nat.lt_of_lt_of_le (A_q1.lt) f35)
    have g42 : n0 ≤ a29 := Nat.le_trans X0.n f35
    have g43 : h0.size ≤ a29 := Nat.le_trans X0.g0 f35
    show Go _ _ _ _ _ (mkF _ _ _ [])
    have K44 : Keep h0 h3 [q0] := (Keep.trans (Keep.refl h0 [q0]) f34 (allS (Or.inl (List.mem_of_getElem? (i := 0) rfl)) all0))
    exact kRETV X9 (gEL G) hret d1_9 (fun ve hve => Or.inr (Or.inl (⟨a29, k30, rfl, f32, f33, K44, g43, f36, (CHr.safe hve (f36.lt) f37), f38, f39⟩))) (by decide)
  · obtain ⟨a45, k46, e47, f48, f49, f50, f51, f52, f53, f54, f55⟩ := o13
    subst e47
    have n56 : q0 ≠ a45 := Nat.ne_of_lt (Nat.lt_of_lt_of_le (E_q0.lt) f51)
    have n57 : q1 ≠ a45 := Nat.ne_of_lt (Nat.lt_of_lt_of_le (A_q1.lt) f51)
    have g58 : n0 ≤ a45 := Nat.le_trans X0.n f51
    have g59 : h0.size ≤ a45 := Nat.le_trans X0.g0 f51
    show Go _ _ _ _ _ (mkF _ _ _ [])
    have K60 : Keep h0 h3 [q0] := (Keep.trans (Keep.refl h0 [q0]) f50 (allS (Or.inl (List.mem_of_getElem? (i := 0) rfl)) all0))
    exact kRETV X9 (gEL G) hret d1_9 (fun ve hve => Or.inr (Or.inr (⟨a45, k46, rfl, f48, f49, K60, g59, f52, (CHr.safe hve (f52.lt) f53), f54, f55⟩))) (by decide)
def R_rm65 : Room := { frames := 0, cells := 0, slots := 0, locals := 0 }
theorem rm65 (G : Glob Z a0 iCS vSI) (i0 i1 : Int32) (q0 q1 : Addr) (kp0 : ClassId) (h0 : Heap) (Z0 : n0 ≤ h0.size) (O0 : Old Z n0 h0) (F_q0_coder : Fld Z h0 q0 "java/lang/String" "coder" "B" (.int 1)) : MetH l Z EL0 n0 N_jdk_42_m_154 jdk_42_method_154_code 1 (some .boolean) [] R_rm65 #[.ref q0] h0 [] (fun vs v h ve => (v = some (.int 0) ∧ (h0 = h))) := by
  refine MetH.of #[.val (.ref q0)] (plainFor_of_name pn_java_lang_String) rfl Z0 (fun p e s m below meth c T0 hret hml hnm hSL hs0 X0 => ?_)
  refine kGETS X0 (wd G 31 rfl) Via.refl (Sta.ext O0.2 (S_CS G)) d11_0 (fun T1 X2 => ?_)
  refine kIFf X2 d11_3 (XT.i0_eq_f (n_CS G)) ?_
  refine kALn X2 d11_6 rfl rfl ?_
  refine kGETF X2 (wd G 27 rfl) Via.refl F_q0_coder d11_7 (fun T3 X4 => ?_)
  refine kIFt X4 17 d11_10 (XT.i0_ne_t (by decide)) (by decide) ?_
  refine kIC X4 0 d11_17 (by decide) ?_
  exact kRETZ X4 (gEL G) (t := .boolean) hret (by simp) d11_18 (fun ve hve => ⟨rfl, rfl⟩) (by decide)
def R_rm67 : Room := { frames := 0, cells := 0, slots := 0, locals := 0 }
theorem rm67 (G : Glob Z a0 iCS vSI) (i0 i1 : Int32) (q0 q1 : Addr) (kp0 : ClassId) (h0 : Heap) (Z0 : n0 ≤ h0.size) (O0 : Old Z n0 h0) (F_q0_coder : Fld Z h0 q0 "java/lang/String" "coder" "B" (.int 1)) : MetH l Z EL0 n0 N_jdk_42_m_152 jdk_42_method_152_code 1 (some .byte) [] R_rm67 #[.ref q0] h0 [] (fun vs v h ve => (v = some (.int 1) ∧ (h0 = h))) := by
  refine MetH.of #[.val (.ref q0)] (plainFor_of_name pn_java_lang_String) rfl Z0 (fun p e s m below meth c T0 hret hml hnm hSL hs0 X0 => ?_)
  refine kGETS X0 (wd G 31 rfl) Via.refl (Sta.ext O0.2 (S_CS G)) d13_0 (fun T1 X2 => ?_)
  refine kIFf X2 d13_3 (XT.i0_eq_f (n_CS G)) ?_
  refine kALn X2 d13_6 rfl rfl ?_
  refine kGETF X2 (wd G 27 rfl) Via.refl F_q0_coder d13_7 (fun T3 X4 => ?_)
  refine kGOTO X4 14 d13_10 (by decide) ?_
  exact kRETZ X4 (gEL G) (t := .byte) hret (by simp) d13_14 (fun ve hve => ⟨rfl, rfl⟩) (by decide)
def R_rm66 : Room := { frames := 1, cells := 0, slots := 0, locals := 13 }
theorem rm66 (G : Glob Z a0 iCS vSI) (i0 i1 : Int32) (q0 q1 : Addr) (kp0 : ClassId) (h0 : Heap) (Z0 : n0 ≤ h0.size) (O0 : Old Z n0 h0) (F_q0_value : Fld Z h0 q0 "java/lang/String" "value" "[B" (.ref q1)) (A_q1 : Arv Z h0 q1 kp0 .byte 4 [.int (ownB i0), .int (ownH i0), .int (ownB i1), .int (ownH i1)] (.int 0)) (c_1 : ¬ (65535 : Int32) < i0) (c_3 : ¬ i0 < 0) (c_2 : ¬ (65535 : Int32) < i1) (c_5 : ¬ i1 < 0) (F_q0_coder : Fld Z h0 q0 "java/lang/String" "coder" "B" (.int 1)) (E_q0 : Exa Z h0 q0 "java/lang/String") : MetH l Z EL0 n0 N_jdk_42_m_54 jdk_42_method_54_code 1 (some .int) [] R_rm66 #[.ref q0] h0 [] (fun vs v h ve => (v = some (.int 2) ∧ (h0 = h))) := by
  refine MetH.of #[.val (.ref q0)] (plainFor_of_name pn_java_lang_String) rfl Z0 (fun p e s m below meth c T0 hret hml hnm hSL hs0 X0 => ?_)
  refine kALn X0 d12_0 rfl rfl ?_
  refine kGETF X0 (wd G 26 rfl) Via.refl F_q0_value d12_1 (fun T1 X2 => ?_)
  refine kLEN X2 A_q1 d12_4 ?_
  refine kALn X2 d12_5 rfl rfl ?_
  refine kVIRT X2 (gEL G) (argsL := []) (rest := [.int 4]) (wd G 68 rfl) (wd G 69 rfl) (own_nf X2.hZ (own_noinst (wd G 7 rfl))) (wd G 71 rfl) (wd G 70 rfl) (wd G 8 rfl) (wd G 72 rfl) (by decide) E_q0 (rm67 G i0 i1 q0 q1 kp0 h0 X2.n O0 F_q0_coder) all0 (lenOf pd___B rfl) rfl 1 rfl (by decide) hml.symm d12_6 (fun v3 T4 h5 vm6 _ w7 q8 C9 C10 X11 => ?_)
  obtain ⟨e13, f14⟩ := q8
  subst e13
  subst f14
  show Go _ _ _ _ _ (mkF _ _ _ [.int 1, .int 4])
  refine kISHR X11 2 d12_9 (by decide) ?_
  exact kRETI X11 (gEL G) hret d12_10 (fun ve hve => ⟨rfl, rfl⟩) (by decide)
def R_rm69 : Room := { frames := 0, cells := 0, slots := 0, locals := 0 }
theorem rm69 (G : Glob Z a0 iCS vSI)  (h0 : Heap) (Z0 : n0 ≤ h0.size) (O0 : Old Z n0 h0)  : MetH l Z EL0 n0 N_jdk_29_m_69 jdk_29_method_69_code 2 (some .int) [] R_rm69 #[.int 2, .int 2] h0 [] (fun vs v h ve => (v = some (.int 2) ∧ (h0 = h))) := by
  refine MetH.of #[.val (.int 2), .val (.int 2)] pf_java_lang_Math_min rfl Z0 (fun p e s m below meth c T0 hret hml hnm hSL hs0 X0 => ?_)
  refine kILn X0 d26_0 rfl ?_
  refine kILn X0 d26_1 rfl ?_
  refine kICf X0 d26_2 (XT.ii_gt_f (by decide)) ?_
  refine kILn X0 d26_5 rfl ?_
  refine kGOTO X0 10 d26_6 (by decide) ?_
  exact kRETI X0 (gEL G) hret d26_10 (fun ve hve => ⟨rfl, rfl⟩) (by decide)
def R_rm72 : Room := { frames := 0, cells := 0, slots := 0, locals := 0 }
theorem rm72 (G : Glob Z a0 iCS vSI) (i0 i1 : Int32) (q0 : Addr) (kp0 : ClassId) (h0 : Heap) (Z0 : n0 ≤ h0.size) (O0 : Old Z n0 h0) (A_q0 : Arv Z h0 q0 kp0 .byte 4 [.int (ownB i0), .int (ownH i0), .int (ownB i1), .int (ownH i1)] (.int 0)) : MetH l Z EL0 n0 N_jdk_52_m_6 jdk_52_method_6_code 1 (some .int) [] R_rm72 #[.ref q0] h0 [] (fun vs v h ve => (v = some (.int 2) ∧ (h0 = h))) := by
  refine MetH.of #[.val (.ref q0)] (plainFor_of_name pn_java_lang_StringUTF16) rfl Z0 (fun p e s m below meth c T0 hret hml hnm hSL hs0 X0 => ?_)
  refine kALn X0 d29_0 rfl rfl ?_
  refine kLEN X0 A_q0 d29_1 ?_
  refine kIC X0 1 d29_2 (by decide) ?_
  refine kISHR X0 2 d29_3 (by decide) ?_
  exact kRETI X0 (gEL G) hret d29_4 (fun ve hve => ⟨rfl, rfl⟩) (by decide)
def R_rm74 : Room := { frames := 0, cells := 0, slots := 0, locals := 0 }
theorem rm74 (G : Glob Z a0 iCS vSI)  (h0 : Heap) (Z0 : n0 ≤ h0.size) (O0 : Old Z n0 h0)  : MetH l Z EL0 n0 N_jdk_41_m_12 jdk_41_method_12_code 4 (some .int) [] R_rm74 #[.int 0, .int 2, .int 2, vSI] h0 [] (fun vs v h ve => (v = some (.int 0) ∧ (h0 = h))) := by
  refine MetH.of #[.val (.int 0), .val (.int 2), .val (.int 2), .val (vSI)] (plainFor_of_name pn_jdk_internal_util_Preconditions) (own_ref (P := fun v => (#[.val (.int 0), .val (.int 2), .val (.int 2), .val (v)] : Array Slot) = (ownLay [.int 0, .int 2, .int 2, v] ++ List.replicate (4 - (ownLay [.int 0, .int 2, .int 2, v]).length) Slot.unset).toArray) (r_SI G) rfl (fun _ => rfl)) Z0 (fun p e s m below meth c T0 hret hml hnm hSL hs0 X0 => ?_)
  refine kILn X0 d31_0 rfl ?_
  refine kIFf X0 d31_1 (XT.i0_lt_f (by decide)) ?_
  refine kILn X0 d31_4 rfl ?_
  refine kILn X0 d31_5 rfl ?_
  refine kICf X0 d31_6 (XT.ii_gt_f (by decide)) ?_
  refine kILn X0 d31_9 rfl ?_
  refine kILn X0 d31_10 rfl ?_
  refine kICt X0 22 d31_11 (XT.ii_le_t (by decide)) (by decide) ?_
  refine kILn X0 d31_22 rfl ?_
  exact kRETI X0 (gEL G) hret d31_23 (fun ve hve => ⟨rfl, rfl⟩) (by decide)
def R_rm73 : Room := { frames := 1, cells := 0, slots := 0, locals := 15 }
theorem rm73 (G : Glob Z a0 iCS vSI)  (h0 : Heap) (Z0 : n0 ≤ h0.size) (O0 : Old Z n0 h0)  : MetH l Z EL0 n0 N_jdk_42_m_158 jdk_42_method_158_code 3 none [] R_rm73 #[.int 0, .int 2, .int 2] h0 [] (fun vs v h ve => (v = none ∧ (h0 = h))) := by
  refine MetH.of #[.val (.int 0), .val (.int 2), .val (.int 2)] (plainFor_of_name pn_java_lang_String) rfl Z0 (fun p e s m below meth c T0 hret hml hnm hSL hs0 X0 => ?_)
  refine kILn X0 d30_0 rfl ?_
  refine kILn X0 d30_1 rfl ?_
  refine kILn X0 d30_2 rfl ?_
  refine kGETS X0 (wd G 131 rfl) Via.refl (Sta.ext O0.2 (S_SI G)) d30_3 (fun T1 X2 => ?_)
  refine kSTAT X2 (gEL G) (argsL := [.int 0, .int 2, .int 2, vSI]) (rest := []) (wd G 133 rfl) (wd G 134 rfl) (wd G 132 rfl) (wd G 135 rfl) (by decide) (rm74 G  h0 X2.n O0 ) all0 (lenOf pd__IIILjava_util_function_BiFunction__I rfl) rfl 0 rfl (by decide) hml.symm d30_6 (fun v3 T4 h5 vm6 _ w7 q8 C9 C10 X11 => ?_)
  obtain ⟨e13, f14⟩ := q8
  subst e13
  subst f14
  show Go _ _ _ _ _ (mkF _ _ _ [.int 0])
  refine kPOP X11 d30_9 rfl ?_
  exact kRETV X11 (gEL G) hret d30_10 (fun ve hve => ⟨rfl, rfl⟩) (by decide)
def R_rm71 : Room := { frames := 2, cells := 0, slots := 0, locals := 29 }
theorem rm71 (G : Glob Z a0 iCS vSI) (i0 i1 : Int32) (q0 : Addr) (kp0 : ClassId) (h0 : Heap) (Z0 : n0 ≤ h0.size) (O0 : Old Z n0 h0) (c_1 : ¬ (65535 : Int32) < i0) (c_3 : ¬ i0 < 0) (c_2 : ¬ (65535 : Int32) < i1) (c_5 : ¬ i1 < 0) (A_q0 : Arv Z h0 q0 kp0 .byte 4 [.int (ownB i0), .int (ownH i0), .int (ownB i1), .int (ownH i1)] (.int 0)) : MetH l Z EL0 n0 N_jdk_52_m_93 jdk_52_method_93_code 3 none [] R_rm71 #[.int 0, .int 2, .ref q0] h0 [] (fun vs v h ve => (v = none ∧ (h0 = h))) := by
  refine MetH.of #[.val (.int 0), .val (.int 2), .val (.ref q0)] (plainFor_of_name pn_java_lang_StringUTF16) rfl Z0 (fun p e s m below meth c T0 hret hml hnm hSL hs0 X0 => ?_)
  refine kILn X0 d28_0 rfl ?_
  refine kILn X0 d28_1 rfl ?_
  refine kALn X0 d28_2 rfl rfl ?_
  refine kSTAT X0 (gEL G) (argsL := [.ref q0]) (rest := [.int 2, .int 0]) (wd G 125 rfl) (wd G 126 rfl) (wd G 81 rfl) (wd G 127 rfl) (by decide) (rm72 G i0 i1 q0 kp0 h0 X0.n O0 A_q0) all0 (lenOf pd___B_I rfl) rfl 2 rfl (by decide) hml.symm d28_3 (fun v1 T2 h3 vm4 _ w5 q6 C7 C8 X9 => ?_)
  obtain ⟨e11, f12⟩ := q6
  subst e11
  subst f12
  show Go _ _ _ _ _ (mkF _ _ _ [.int 2, .int 2, .int 0])
  refine kSTAT X9 (gEL G) (argsL := [.int 0, .int 2, .int 2]) (rest := []) (wd G 128 rfl) (wd G 129 rfl) (wd G 8 rfl) (wd G 130 rfl) (by decide) (rm73 G  h0 X9.n O0 ) all0 (lenOf pd__III_V rfl) rfl 0 rfl (by decide) hml.symm d28_6 (fun v13 T14 h15 vm16 _ w17 q18 C19 C20 X21 => ?_)
  obtain ⟨e23, f24⟩ := q18
  subst e23
  subst f24
  show Go _ _ _ _ _ (mkF _ _ _ [])
  exact kRETV X21 (gEL G) hret d28_9 (fun ve hve => ⟨rfl, rfl⟩) (by decide)
def R_rm75 : Room := { frames := 1, cells := 0, slots := 0, locals := 13 }
theorem rm75 (G : Glob Z a0 iCS vSI) (i0 i1 : Int32) (q0 : Addr) (kp0 : ClassId) (h0 : Heap) (Z0 : n0 ≤ h0.size) (O0 : Old Z n0 h0) (c_1 : ¬ (65535 : Int32) < i0) (c_3 : ¬ i0 < 0) (c_2 : ¬ (65535 : Int32) < i1) (c_5 : ¬ i1 < 0) (A_q0 : Arv Z h0 q0 kp0 .byte 4 [.int (ownB i0), .int (ownH i0), .int (ownB i1), .int (ownH i1)] (.int 0)) (c_4 : ¬ i0 = (65533 : Int32)) (c_6 : ¬ i1 = (65533 : Int32)) : MetH l Z EL0 n0 N_jdk_52_m_48 jdk_52_method_48_code 5 (some .int) [] R_rm75 #[.ref q0, .int 65533, .int 0, .int 2] h0 [] (fun vs v h ve => (v = some (.int (-1)) ∧ (h0 = h))) := by
  refine MetH.of #[.val (.ref q0), .val (.int 65533), .val (.int 0), .val (.int 2), .unset] (plainFor_of_name pn_java_lang_StringUTF16) rfl Z0 (fun p e s m below meth c T0 hret hml hnm hSL hs0 X0 => ?_)
  refine kILn X0 d32_0 rfl ?_
  refine kIS X0 #[.val (.ref q0), .val (.int 65533), .val (.int 0), .val (.int 2), .val (.int 0)] d32_1 rfl ?_
  refine kIL X0 d32_3 rfl ?_
  refine kILn X0 d32_5 rfl ?_
  refine kICf X0 d32_6 (XT.ii_ge_f (by decide)) ?_
  refine kALn X0 d32_9 rfl rfl ?_
  refine kIL X0 d32_10 rfl ?_
  refine kSTAT X0 (gEL G) (argsL := [.ref q0, .int 0]) (rest := []) (wd G 105 rfl) (wd G 106 rfl) (wd G 81 rfl) (wd G 107 rfl) (by decide) (rm58 G i0 i1 q0 kp0 h0 X0.n O0 A_q0 c_1 c_3) all0 (lenOf pd___BI_C rfl) rfl 0 rfl (by decide) hml.symm d32_12 (fun v1 T2 h3 vm4 _ w5 q6 C7 C8 X9 => ?_)
  obtain ⟨e11, f12⟩ := q6
  subst e11
  subst f12
  show Go _ _ _ _ _ (mkF _ _ _ [.int i0])
  refine kILn X9 d32_15 rfl ?_
  refine kICt X9 22 d32_16 (XT.ii_ne_t c_4) (by decide) ?_
  refine kIINC X9 (1 : Int32) (1 : Int32) #[.val (.ref q0), .val (.int 65533), .val (.int 0), .val (.int 2), .val (.int 1)] d32_22 (by decide) rfl (by decide) rfl ?_
  refine kGOTO X9 3 d32_25 (by decide) ?_
  refine kIL X9 d32_3 rfl ?_
  refine kILn X9 d32_5 rfl ?_
  refine kICf X9 d32_6 (XT.ii_ge_f (by decide)) ?_
  refine kALn X9 d32_9 rfl rfl ?_
  refine kIL X9 d32_10 rfl ?_
  refine kSTAT X9 (gEL G) (argsL := [.ref q0, .int 1]) (rest := []) (wd G 105 rfl) (wd G 106 rfl) (wd G 81 rfl) (wd G 107 rfl) (by decide) (rm59 G i0 i1 q0 kp0 h0 X9.n O0 A_q0 c_2 c_5) all0 (lenOf pd___BI_C rfl) rfl 0 rfl (by decide) hml.symm d32_12 (fun v13 T14 h15 vm16 _ w17 q18 C19 C20 X21 => ?_)
  obtain ⟨e23, f24⟩ := q18
  subst e23
  subst f24
  show Go _ _ _ _ _ (mkF _ _ _ [.int i1])
  refine kILn X21 d32_15 rfl ?_
  refine kICt X21 22 d32_16 (XT.ii_ne_t c_6) (by decide) ?_
  refine kIINC X21 (1 : Int32) (2 : Int32) #[.val (.ref q0), .val (.int 65533), .val (.int 0), .val (.int 2), .val (.int 2)] d32_22 (by decide) rfl (by decide) rfl ?_
  refine kGOTO X21 3 d32_25 (by decide) ?_
  refine kIL X21 d32_3 rfl ?_
  refine kILn X21 d32_5 rfl ?_
  refine kICt X21 28 d32_6 (XT.ii_ge_t (by decide)) (by decide) ?_
  refine kIC X21 (-1) d32_28 (by decide) ?_
  exact kRETI X21 (gEL G) hret d32_29 (fun ve hve => ⟨rfl, rfl⟩) (by decide)
def R_rm70 : Room := { frames := 3, cells := 0, slots := 0, locals := 43 }
theorem rm70 (G : Glob Z a0 iCS vSI) (i0 i1 : Int32) (q0 : Addr) (kp0 : ClassId) (h0 : Heap) (Z0 : n0 ≤ h0.size) (O0 : Old Z n0 h0) (c_1 : ¬ (65535 : Int32) < i0) (c_3 : ¬ i0 < 0) (c_2 : ¬ (65535 : Int32) < i1) (c_5 : ¬ i1 < 0) (A_q0 : Arv Z h0 q0 kp0 .byte 4 [.int (ownB i0), .int (ownH i0), .int (ownB i1), .int (ownH i1)] (.int 0)) (c_4 : ¬ i0 = (65533 : Int32)) (c_6 : ¬ i1 = (65533 : Int32)) : MetH l Z EL0 n0 N_jdk_52_m_47 jdk_52_method_47_code 4 (some .int) [] R_rm70 #[.ref q0, .int 65533, .int 0, .int 2] h0 [] (fun vs v h ve => (v = some (.int (-1)) ∧ (h0 = h))) := by
  refine MetH.of #[.val (.ref q0), .val (.int 65533), .val (.int 0), .val (.int 2)] (plainFor_of_name pn_java_lang_StringUTF16) rfl Z0 (fun p e s m below meth c T0 hret hml hnm hSL hs0 X0 => ?_)
  refine kILn X0 d27_0 rfl ?_
  refine kILn X0 d27_1 rfl ?_
  refine kALn X0 d27_2 rfl rfl ?_
  refine kSTAT X0 (gEL G) (argsL := [.int 0, .int 2, .ref q0]) (rest := []) (wd G 122 rfl) (wd G 123 rfl) (wd G 81 rfl) (wd G 124 rfl) (by decide) (rm71 G i0 i1 q0 kp0 h0 X0.n O0 c_1 c_3 c_2 c_5 A_q0) all0 (lenOf pd__II_B_V rfl) rfl 0 rfl (by decide) hml.symm d27_3 (fun v1 T2 h3 vm4 _ w5 q6 C7 C8 X9 => ?_)
  obtain ⟨e11, f12⟩ := q6
  subst e11
  subst f12
  show Go _ _ _ _ _ (mkF _ _ _ [])
  refine kALn X9 d27_6 rfl rfl ?_
  refine kILn X9 d27_7 rfl ?_
  refine kILn X9 d27_8 rfl ?_
  refine kILn X9 d27_9 rfl ?_
  refine kSTAT X9 (gEL G) (argsL := [.ref q0, .int 65533, .int 0, .int 2]) (rest := []) (wd G 136 rfl) (wd G 137 rfl) (wd G 81 rfl) (wd G 138 rfl) (by decide) (rm75 G i0 i1 q0 kp0 h0 X9.n O0 c_1 c_3 c_2 c_5 A_q0 c_4 c_6) all0 (lenOf pd___BIII_I rfl) rfl 0 rfl (by decide) hml.symm d27_10 (fun v13 T14 h15 vm16 _ w17 q18 C19 C20 X21 => ?_)
  obtain ⟨e23, f24⟩ := q18
  subst e23
  subst f24
  show Go _ _ _ _ _ (mkF _ _ _ [.int (-1)])
  exact kRETI X21 (gEL G) hret d27_13 (fun ve hve => ⟨rfl, rfl⟩) (by decide)
def R_rm68 : Room := { frames := 4, cells := 0, slots := 0, locals := 58 }
theorem rm68 (G : Glob Z a0 iCS vSI) (i0 i1 : Int32) (q0 : Addr) (kp0 : ClassId) (h0 : Heap) (Z0 : n0 ≤ h0.size) (O0 : Old Z n0 h0) (A_q0 : Arv Z h0 q0 kp0 .byte 4 [.int (ownB i0), .int (ownH i0), .int (ownB i1), .int (ownH i1)] (.int 0)) (c_1 : ¬ (65535 : Int32) < i0) (c_3 : ¬ i0 < 0) (c_2 : ¬ (65535 : Int32) < i1) (c_5 : ¬ i1 < 0) (c_4 : ¬ i0 = (65533 : Int32)) (c_6 : ¬ i1 = (65533 : Int32)) : MetH l Z EL0 n0 N_jdk_52_m_40 jdk_52_method_40_code 4 (some .int) [] R_rm68 #[.ref q0, .int 65533, .int 0, .int 2] h0 [] (fun vs v h ve => (v = some (.int (-1)) ∧ (h0 = h))) := by
  refine MetH.of #[.val (.ref q0), .val (.int 65533), .val (.int 0), .val (.int 2)] (plainFor_of_name pn_java_lang_StringUTF16) rfl Z0 (fun p e s m below meth c T0 hret hml hnm hSL hs0 X0 => ?_)
  refine kILn X0 d24_0 rfl ?_
  refine kIC X0 0 d24_1 (by decide) ?_
  refine kSTAT X0 (gEL G) (argsL := [.int 0, .int 0]) (rest := []) (wd G 111 rfl) (wd G 112 rfl) (wd G 113 rfl) (wd G 114 rfl) (by decide) (rm34 G  h0 X0.n O0 ) all0 (lenOf pd__II_I rfl) rfl 0 rfl (by decide) hml.symm d24_2 (fun v1 T2 h3 vm4 _ w5 q6 C7 C8 X9 => ?_)
  obtain ⟨e11, f12⟩ := q6
  subst e11
  subst f12
  show Go _ _ _ _ _ (mkF _ _ _ [.int 0])
  refine kISn X9 #[.val (.ref q0), .val (.int 65533), .val (.int 0), .val (.int 2)] d24_5 rfl ?_
  refine kILn X9 d24_6 rfl ?_
  refine kALn X9 d24_7 rfl rfl ?_
  refine kLEN X9 A_q0 d24_8 ?_
  refine kIC X9 1 d24_9 (by decide) ?_
  refine kISHR X9 2 d24_10 (by decide) ?_
  refine kSTAT X9 (gEL G) (argsL := [.int 2, .int 2]) (rest := []) (wd G 115 rfl) (wd G 116 rfl) (wd G 113 rfl) (wd G 117 rfl) (by decide) (rm69 G  h0 X9.n O0 ) all0 (lenOf pd__II_I rfl) rfl 0 rfl (by decide) hml.symm d24_11 (fun v13 T14 h15 vm16 _ w17 q18 C19 C20 X21 => ?_)
  obtain ⟨e23, f24⟩ := q18
  subst e23
  subst f24
  show Go _ _ _ _ _ (mkF _ _ _ [.int 2])
  refine kISn X21 #[.val (.ref q0), .val (.int 65533), .val (.int 0), .val (.int 2)] d24_14 rfl ?_
  refine kILn X21 d24_15 rfl ?_
  refine kILn X21 d24_16 rfl ?_
  refine kICt X21 22 d24_17 (XT.ii_lt_t (by decide)) (by decide) ?_
  refine kILn X21 d24_22 rfl ?_
  refine kLDCI X21 (wd G 118 rfl) d24_23 ?_
  refine kICf X21 d24_25 (XT.ii_ge_f (by decide)) ?_
  refine kALn X21 d24_28 rfl rfl ?_
  refine kILn X21 d24_29 rfl ?_
  refine kILn X21 d24_30 rfl ?_
  refine kILn X21 d24_31 rfl ?_
  refine kSTAT X21 (gEL G) (argsL := [.ref q0, .int 65533, .int 0, .int 2]) (rest := []) (wd G 119 rfl) (wd G 120 rfl) (wd G 81 rfl) (wd G 121 rfl) (by decide) (rm70 G i0 i1 q0 kp0 h0 X21.n O0 c_1 c_3 c_2 c_5 A_q0 c_4 c_6) all0 (lenOf pd___BIII_I rfl) rfl 0 rfl (by decide) hml.symm d24_32 (fun v25 T26 h27 vm28 _ w29 q30 C31 C32 X33 => ?_)
  obtain ⟨e35, f36⟩ := q30
  subst e35
  subst f36
  show Go _ _ _ _ _ (mkF _ _ _ [.int (-1)])
  exact kRETI X33 (gEL G) hret d24_35 (fun ve hve => ⟨rfl, rfl⟩) (by decide)
def R_rm64 : Room := { frames := 5, cells := 0, slots := 0, locals := 73 }
theorem rm64 (G : Glob Z a0 iCS vSI) (i0 i1 : Int32) (q0 q1 : Addr) (kp0 : ClassId) (h0 : Heap) (Z0 : n0 ≤ h0.size) (O0 : Old Z n0 h0) (c_1 : ¬ (65535 : Int32) < i0) (c_3 : ¬ i0 < 0) (c_2 : ¬ (65535 : Int32) < i1) (c_5 : ¬ i1 < 0) (F_q0_coder : Fld Z h0 q0 "java/lang/String" "coder" "B" (.int 1)) (E_q0 : Exa Z h0 q0 "java/lang/String") (F_q0_value : Fld Z h0 q0 "java/lang/String" "value" "[B" (.ref q1)) (A_q1 : Arv Z h0 q1 kp0 .byte 4 [.int (ownB i0), .int (ownH i0), .int (ownB i1), .int (ownH i1)] (.int 0)) (c_4 : ¬ i0 = (65533 : Int32)) (c_6 : ¬ i1 = (65533 : Int32)) : MetH l Z EL0 n0 N_jdk_42_m_80 jdk_42_method_80_code 3 (some .int) [] R_rm64 #[.ref q0, .int 65533, .int 0] h0 [] (fun vs v h ve => (v = some (.int (-1)) ∧ (h0 = h))) := by
  refine MetH.of #[.val (.ref q0), .val (.int 65533), .val (.int 0)] (plainFor_of_name pn_java_lang_String) rfl Z0 (fun p e s m below meth c T0 hret hml hnm hSL hs0 X0 => ?_)
  refine kALn X0 d10_0 rfl rfl ?_
  refine kVIRT X0 (gEL G) (argsL := []) (rest := []) (wd G 58 rfl) (wd G 59 rfl) (own_nf X0.hZ (own_noinst (wd G 7 rfl))) (wd G 61 rfl) (wd G 60 rfl) (wd G 8 rfl) (wd G 62 rfl) (by decide) E_q0 (rm65 G i0 i1 q0 q1 kp0 h0 X0.n O0 F_q0_coder) all0 (lenOf pd___Z rfl) rfl 0 rfl (by decide) hml.symm d10_1 (fun v1 T2 h3 vm4 _ w5 q6 C7 C8 X9 => ?_)
  obtain ⟨e11, f12⟩ := q6
  subst e11
  subst f12
  show Go _ _ _ _ _ (mkF _ _ _ [.int 0])
  refine kIFt X9 23 d10_4 (XT.i0_eq_t (by decide)) (by decide) ?_
  refine kALn X9 d10_23 rfl rfl ?_
  refine kGETF X9 (wd G 26 rfl) Via.refl F_q0_value d10_24 (fun T13 X14 => ?_)
  refine kILn X14 d10_27 rfl ?_
  refine kILn X14 d10_28 rfl ?_
  refine kALn X14 d10_29 rfl rfl ?_
  refine kVIRT X14 (gEL G) (argsL := []) (rest := [.int 0, .int 65533, .ref q1]) (wd G 63 rfl) (wd G 64 rfl) (own_nf X14.hZ (own_noinst (wd G 7 rfl))) (wd G 66 rfl) (wd G 65 rfl) (wd G 8 rfl) (wd G 67 rfl) (by decide) E_q0 (rm66 G i0 i1 q0 q1 kp0 h0 X14.n O0 F_q0_value A_q1 c_1 c_3 c_2 c_5 F_q0_coder E_q0) all0 (lenOf pd___I rfl) rfl 3 rfl (by decide) hml.symm d10_30 (fun v15 T16 h17 vm18 _ w19 q20 C21 C22 X23 => ?_)
  obtain ⟨e25, f26⟩ := q20
  subst e25
  subst f26
  show Go _ _ _ _ _ (mkF _ _ _ [.int 2, .int 0, .int 65533, .ref q1])
  refine kSTAT X23 (gEL G) (argsL := [.ref q1, .int 65533, .int 0, .int 2]) (rest := []) (wd G 108 rfl) (wd G 109 rfl) (wd G 81 rfl) (wd G 110 rfl) (by decide) (rm68 G i0 i1 q1 kp0 h0 X23.n O0 A_q1 c_1 c_3 c_2 c_5 c_4 c_6) all0 (lenOf pd___BIII_I rfl) rfl 0 rfl (by decide) hml.symm d10_33 (fun v27 T28 h29 vm30 _ w31 q32 C33 C34 X35 => ?_)
  obtain ⟨e37, f38⟩ := q32
  subst e37
  subst f38
  show Go _ _ _ _ _ (mkF _ _ _ [.int (-1)])
  exact kRETI X35 (gEL G) hret d10_36 (fun ve hve => ⟨rfl, rfl⟩) (by decide)
def R_rm63 : Room := { frames := 6, cells := 0, slots := 0, locals := 87 }
theorem rm63 (G : Glob Z a0 iCS vSI) (i0 i1 : Int32) (q0 q1 : Addr) (kp0 : ClassId) (h0 : Heap) (Z0 : n0 ≤ h0.size) (O0 : Old Z n0 h0) (c_1 : ¬ (65535 : Int32) < i0) (c_3 : ¬ i0 < 0) (c_2 : ¬ (65535 : Int32) < i1) (c_5 : ¬ i1 < 0) (F_q0_coder : Fld Z h0 q0 "java/lang/String" "coder" "B" (.int 1)) (E_q0 : Exa Z h0 q0 "java/lang/String") (F_q0_value : Fld Z h0 q0 "java/lang/String" "value" "[B" (.ref q1)) (A_q1 : Arv Z h0 q1 kp0 .byte 4 [.int (ownB i0), .int (ownH i0), .int (ownB i1), .int (ownH i1)] (.int 0)) (c_4 : ¬ i0 = (65533 : Int32)) (c_6 : ¬ i1 = (65533 : Int32)) : MetH l Z EL0 n0 N_jdk_42_m_79 jdk_42_method_79_code 2 (some .int) [] R_rm63 #[.ref q0, .int 65533] h0 [] (fun vs v h ve => (v = some (.int (-1)) ∧ (h0 = h))) := by
  refine MetH.of #[.val (.ref q0), .val (.int 65533)] (plainFor_of_name pn_java_lang_String) rfl Z0 (fun p e s m below meth c T0 hret hml hnm hSL hs0 X0 => ?_)
  refine kALn X0 d9_0 rfl rfl ?_
  refine kILn X0 d9_1 rfl ?_
  refine kIC X0 0 d9_2 (by decide) ?_
  refine kVIRT X0 (gEL G) (argsL := [.int 65533, .int 0]) (rest := []) (wd G 53 rfl) (wd G 54 rfl) (own_nf X0.hZ (own_noinst (wd G 7 rfl))) (wd G 56 rfl) (wd G 55 rfl) (wd G 8 rfl) (wd G 57 rfl) (by decide) E_q0 (rm64 G i0 i1 q0 q1 kp0 h0 X0.n O0 c_1 c_3 c_2 c_5 F_q0_coder E_q0 F_q0_value A_q1 c_4 c_6) all0 (lenOf pd__II_I rfl) rfl 0 rfl (by decide) hml.symm d9_3 (fun v1 T2 h3 vm4 _ w5 q6 C7 C8 X9 => ?_)
  obtain ⟨e11, f12⟩ := q6
  subst e11
  subst f12
  show Go _ _ _ _ _ (mkF _ _ _ [.int (-1)])
  exact kRETI X9 (gEL G) hret d9_6 (fun ve hve => ⟨rfl, rfl⟩) (by decide)
def R_rm62 : Room := { frames := 7, cells := 0, slots := 0, locals := 100 }
theorem rm62 (G : Glob Z a0 iCS vSI) (i0 i1 i2 : Int32) (q0 q1 q2 q3 : Addr) (kp0 kp1 : ClassId) (h0 : Heap) (Z0 : n0 ≤ h0.size) (O0 : Old Z n0 h0) (c_2 : ¬ (65535 : Int32) < i0) (c_4 : ¬ i0 < 0) (c_3 : ¬ (65535 : Int32) < i1) (c_6 : ¬ i1 < 0) (F_q0_coder : Fld Z h0 q0 "java/lang/String" "coder" "B" (.int 1)) (E_q0 : Exa Z h0 q0 "java/lang/String") (F_q0_value : Fld Z h0 q0 "java/lang/String" "value" "[B" (.ref q2)) (A_q2 : Arv Z h0 q2 kp0 .byte 4 [.int (ownB i0), .int (ownH i0), .int (ownB i1), .int (ownH i1)] (.int 0)) (c_5 : ¬ i0 = (65533 : Int32)) (c_7 : ¬ i1 = (65533 : Int32)) : MetH l Z EL0 n0 N_prog_38_m_14 prog_38_method_14_code 2 none [] R_rm62 #[.ref q0, .ref q1] h0 [] (fun vs v h ve => (v = none ∧ (h0 = h))) := by
  refine MetH.of #[.val (.ref q0), .val (.ref q1)] (plainFor_of_name pn_com_example_evoke_evoke_Options) rfl Z0 (fun p e s m below meth c T0 hret hml hnm hSL hs0 X0 => ?_)
  refine kALn X0 d8_0 rfl rfl ?_
  refine kLDCI X0 (wd G 47 rfl) d8_1 ?_
  refine kVIRT X0 (gEL G) (argsL := [.int 65533]) (rest := []) (wd G 48 rfl) (wd G 49 rfl) (own_nf X0.hZ (own_noinst (wd G 7 rfl))) (wd G 51 rfl) (wd G 50 rfl) (wd G 8 rfl) (wd G 52 rfl) (by decide) E_q0 (rm63 G i0 i1 q0 q2 kp0 h0 X0.n O0 c_2 c_4 c_3 c_6 F_q0_coder E_q0 F_q0_value A_q2 c_5 c_7) all0 (lenOf pd__I_I rfl) rfl 0 rfl (by decide) hml.symm d8_3 (fun v1 T2 h3 vm4 _ w5 q6 C7 C8 X9 => ?_)
  obtain ⟨e11, f12⟩ := q6
  subst e11
  subst f12
  show Go _ _ _ _ _ (mkF _ _ _ [.int (-1)])
  refine kIFt X9 29 d8_6 (XT.i0_lt_t (by decide)) (by decide) ?_
  exact kRETV X9 (gEL G) hret d8_29 (fun ve hve => ⟨rfl, rfl⟩) (by decide)
def R_rm79 : Room := { frames := 0, cells := 0, slots := 0, locals := 0 }
theorem rm79 (G : Glob Z a0 iCS vSI) (i0 i1 : Int32) (q0 q1 : Addr) (kp0 : ClassId) (h0 : Heap) (Z0 : n0 ≤ h0.size) (O0 : Old Z n0 h0) (F_q0_coder : Fld Z h0 q0 "java/lang/String" "coder" "B" (.int 0)) : MetH l Z EL0 n0 N_jdk_42_m_154 jdk_42_method_154_code 1 (some .boolean) [] R_rm79 #[.ref q0] h0 [] (fun vs v h ve => (v = some (.int 1) ∧ (h0 = h))) := by
  refine MetH.of #[.val (.ref q0)] (plainFor_of_name pn_java_lang_String) rfl Z0 (fun p e s m below meth c T0 hret hml hnm hSL hs0 X0 => ?_)
  refine kGETS X0 (wd G 31 rfl) Via.refl (Sta.ext O0.2 (S_CS G)) d11_0 (fun T1 X2 => ?_)
  refine kIFf X2 d11_3 (XT.i0_eq_f (n_CS G)) ?_
  refine kALn X2 d11_6 rfl rfl ?_
  refine kGETF X2 (wd G 27 rfl) Via.refl F_q0_coder d11_7 (fun T3 X4 => ?_)
  refine kIFf X4 d11_10 (XT.i0_ne_f (by decide)) ?_
  refine kIC X4 1 d11_13 (by decide) ?_
  refine kGOTO X4 18 d11_14 (by decide) ?_
  exact kRETZ X4 (gEL G) (t := .boolean) hret (by simp) d11_18 (fun ve hve => ⟨rfl, rfl⟩) (by decide)
def R_rm81 : Room := { frames := 0, cells := 0, slots := 0, locals := 0 }
theorem rm81 (G : Glob Z a0 iCS vSI) (i0 i1 : Int32) (q0 q1 : Addr) (kp0 : ClassId) (h0 : Heap) (Z0 : n0 ≤ h0.size) (O0 : Old Z n0 h0) (F_q0_coder : Fld Z h0 q0 "java/lang/String" "coder" "B" (.int 0)) : MetH l Z EL0 n0 N_jdk_42_m_152 jdk_42_method_152_code 1 (some .byte) [] R_rm81 #[.ref q0] h0 [] (fun vs v h ve => (v = some (.int 0) ∧ (h0 = h))) := by
  refine MetH.of #[.val (.ref q0)] (plainFor_of_name pn_java_lang_String) rfl Z0 (fun p e s m below meth c T0 hret hml hnm hSL hs0 X0 => ?_)
  refine kGETS X0 (wd G 31 rfl) Via.refl (Sta.ext O0.2 (S_CS G)) d13_0 (fun T1 X2 => ?_)
  refine kIFf X2 d13_3 (XT.i0_eq_f (n_CS G)) ?_
  refine kALn X2 d13_6 rfl rfl ?_
  refine kGETF X2 (wd G 27 rfl) Via.refl F_q0_coder d13_7 (fun T3 X4 => ?_)
  refine kGOTO X4 14 d13_10 (by decide) ?_
  exact kRETZ X4 (gEL G) (t := .byte) hret (by simp) d13_14 (fun ve hve => ⟨rfl, rfl⟩) (by decide)
def R_rm80 : Room := { frames := 1, cells := 0, slots := 0, locals := 13 }
theorem rm80 (G : Glob Z a0 iCS vSI) (i0 i1 : Int32) (q0 q1 : Addr) (kp0 : ClassId) (h0 : Heap) (Z0 : n0 ≤ h0.size) (O0 : Old Z n0 h0) (F_q0_value : Fld Z h0 q0 "java/lang/String" "value" "[B" (.ref q1)) (A_q1 : Arv Z h0 q1 kp0 .byte 2 [.int (ownB i0), .int (ownB i1)] (.int 0)) (c_0 : ¬ (255 : Int32) < i0) (c_4 : ¬ i0 < 0) (c_2 : ¬ (65535 : Int32) < i0) (c_1 : ¬ (255 : Int32) < i1) (c_6 : ¬ i1 < 0) (c_3 : ¬ (65535 : Int32) < i1) (F_q0_coder : Fld Z h0 q0 "java/lang/String" "coder" "B" (.int 0)) (E_q0 : Exa Z h0 q0 "java/lang/String") : MetH l Z EL0 n0 N_jdk_42_m_54 jdk_42_method_54_code 1 (some .int) [] R_rm80 #[.ref q0] h0 [] (fun vs v h ve => (v = some (.int 2) ∧ (h0 = h))) := by
  refine MetH.of #[.val (.ref q0)] (plainFor_of_name pn_java_lang_String) rfl Z0 (fun p e s m below meth c T0 hret hml hnm hSL hs0 X0 => ?_)
  refine kALn X0 d12_0 rfl rfl ?_
  refine kGETF X0 (wd G 26 rfl) Via.refl F_q0_value d12_1 (fun T1 X2 => ?_)
  refine kLEN X2 A_q1 d12_4 ?_
  refine kALn X2 d12_5 rfl rfl ?_
  refine kVIRT X2 (gEL G) (argsL := []) (rest := [.int 2]) (wd G 68 rfl) (wd G 69 rfl) (own_nf X2.hZ (own_noinst (wd G 7 rfl))) (wd G 71 rfl) (wd G 70 rfl) (wd G 8 rfl) (wd G 72 rfl) (by decide) E_q0 (rm81 G i0 i1 q0 q1 kp0 h0 X2.n O0 F_q0_coder) all0 (lenOf pd___B rfl) rfl 1 rfl (by decide) hml.symm d12_6 (fun v3 T4 h5 vm6 _ w7 q8 C9 C10 X11 => ?_)
  obtain ⟨e13, f14⟩ := q8
  subst e13
  subst f14
  show Go _ _ _ _ _ (mkF _ _ _ [.int 0, .int 2])
  refine kISHR X11 2 d12_9 (by decide) ?_
  exact kRETI X11 (gEL G) hret d12_10 (fun ve hve => ⟨rfl, rfl⟩) (by decide)
def R_rm82 : Room := { frames := 1, cells := 0, slots := 0, locals := 12 }
theorem rm82 (G : Glob Z a0 iCS vSI) (i0 i1 : Int32) (q0 : Addr) (kp0 : ClassId) (h0 : Heap) (Z0 : n0 ≤ h0.size) (O0 : Old Z n0 h0)  : MetH l Z EL0 n0 N_jdk_43_m_22 jdk_43_method_22_code 4 (some .int) [] R_rm82 #[.ref q0, .int 65533, .int 0, .int 2] h0 [] (fun vs v h ve => (v = some (.int (-1)) ∧ (h0 = h))) := by
  refine MetH.of #[.val (.ref q0), .val (.int 65533), .val (.int 0), .val (.int 2)] (plainFor_of_name pn_java_lang_StringLatin1) rfl Z0 (fun p e s m below meth c T0 hret hml hnm hSL hs0 X0 => ?_)
  refine kILn X0 d14_0 rfl ?_
  refine kSTAT X0 (gEL G) (argsL := [.int 65533]) (rest := []) (wd G 76 rfl) (wd G 77 rfl) (wd G 34 rfl) (wd G 78 rfl) (by decide) (rm15 G  h0 X0.n O0 ) all0 (lenOf pd__I_Z rfl) rfl 0 rfl (by decide) hml.symm d14_1 (fun v1 T2 h3 vm4 _ w5 q6 C7 C8 X9 => ?_)
  obtain ⟨e11, f12⟩ := q6
  subst e11
  subst f12
  show Go _ _ _ _ _ (mkF _ _ _ [.int 0])
  refine kIFf X9 d14_4 (XT.i0_ne_f (by decide)) ?_
  refine kIC X9 (-1) d14_7 (by decide) ?_
  exact kRETI X9 (gEL G) hret d14_8 (fun ve hve => ⟨rfl, rfl⟩) (by decide)
def R_rm78 : Room := { frames := 2, cells := 0, slots := 0, locals := 28 }
theorem rm78 (G : Glob Z a0 iCS vSI) (i0 i1 : Int32) (q0 q1 : Addr) (kp0 : ClassId) (h0 : Heap) (Z0 : n0 ≤ h0.size) (O0 : Old Z n0 h0) (c_0 : ¬ (255 : Int32) < i0) (c_4 : ¬ i0 < 0) (c_2 : ¬ (65535 : Int32) < i0) (c_1 : ¬ (255 : Int32) < i1) (c_6 : ¬ i1 < 0) (c_3 : ¬ (65535 : Int32) < i1) (F_q0_coder : Fld Z h0 q0 "java/lang/String" "coder" "B" (.int 0)) (E_q0 : Exa Z h0 q0 "java/lang/String") (F_q0_value : Fld Z h0 q0 "java/lang/String" "value" "[B" (.ref q1)) (A_q1 : Arv Z h0 q1 kp0 .byte 2 [.int (ownB i0), .int (ownB i1)] (.int 0)) : MetH l Z EL0 n0 N_jdk_42_m_80 jdk_42_method_80_code 3 (some .int) [] R_rm78 #[.ref q0, .int 65533, .int 0] h0 [] (fun vs v h ve => (v = some (.int (-1)) ∧ (h0 = h))) := by
  refine MetH.of #[.val (.ref q0), .val (.int 65533), .val (.int 0)] (plainFor_of_name pn_java_lang_String) rfl Z0 (fun p e s m below meth c T0 hret hml hnm hSL hs0 X0 => ?_)
  refine kALn X0 d10_0 rfl rfl ?_
  refine kVIRT X0 (gEL G) (argsL := []) (rest := []) (wd G 58 rfl) (wd G 59 rfl) (own_nf X0.hZ (own_noinst (wd G 7 rfl))) (wd G 61 rfl) (wd G 60 rfl) (wd G 8 rfl) (wd G 62 rfl) (by decide) E_q0 (rm79 G i0 i1 q0 q1 kp0 h0 X0.n O0 F_q0_coder) all0 (lenOf pd___Z rfl) rfl 0 rfl (by decide) hml.symm d10_1 (fun v1 T2 h3 vm4 _ w5 q6 C7 C8 X9 => ?_)
  obtain ⟨e11, f12⟩ := q6
  subst e11
  subst f12
  show Go _ _ _ _ _ (mkF _ _ _ [.int 1])
  refine kIFf X9 d10_4 (XT.i0_eq_f (by decide)) ?_
  refine kALn X9 d10_7 rfl rfl ?_
  refine kGETF X9 (wd G 26 rfl) Via.refl F_q0_value d10_8 (fun T13 X14 => ?_)
  refine kILn X14 d10_11 rfl ?_
  refine kILn X14 d10_12 rfl ?_
  refine kALn X14 d10_13 rfl rfl ?_
  refine kVIRT X14 (gEL G) (argsL := []) (rest := [.int 0, .int 65533, .ref q1]) (wd G 63 rfl) (wd G 64 rfl) (own_nf X14.hZ (own_noinst (wd G 7 rfl))) (wd G 66 rfl) (wd G 65 rfl) (wd G 8 rfl) (wd G 67 rfl) (by decide) E_q0 (rm80 G i0 i1 q0 q1 kp0 h0 X14.n O0 F_q0_value A_q1 c_0 c_4 c_2 c_1 c_6 c_3 F_q0_coder E_q0) all0 (lenOf pd___I rfl) rfl 3 rfl (by decide) hml.symm d10_14 (fun v15 T16 h17 vm18 _ w19 q20 C21 C22 X23 => ?_)
  obtain ⟨e25, f26⟩ := q20
  subst e25
  subst f26
  show Go _ _ _ _ _ (mkF _ _ _ [.int 2, .int 0, .int 65533, .ref q1])
  refine kSTAT X23 (gEL G) (argsL := [.ref q1, .int 65533, .int 0, .int 2]) (rest := []) (wd G 73 rfl) (wd G 74 rfl) (wd G 34 rfl) (wd G 75 rfl) (by decide) (rm82 G i0 i1 q1 kp0 h0 X23.n O0 ) all0 (lenOf pd___BIII_I rfl) rfl 0 rfl (by decide) hml.symm d10_17 (fun v27 T28 h29 vm30 _ w31 q32 C33 C34 X35 => ?_)
  obtain ⟨e37, f38⟩ := q32
  subst e37
  subst f38
  show Go _ _ _ _ _ (mkF _ _ _ [.int (-1)])
  refine kGOTO X35 36 d10_20 (by decide) ?_
  exact kRETI X35 (gEL G) hret d10_36 (fun ve hve => ⟨rfl, rfl⟩) (by decide)
def R_rm77 : Room := { frames := 3, cells := 0, slots := 0, locals := 42 }
theorem rm77 (G : Glob Z a0 iCS vSI) (i0 i1 : Int32) (q0 q1 : Addr) (kp0 : ClassId) (h0 : Heap) (Z0 : n0 ≤ h0.size) (O0 : Old Z n0 h0) (c_0 : ¬ (255 : Int32) < i0) (c_4 : ¬ i0 < 0) (c_2 : ¬ (65535 : Int32) < i0) (c_1 : ¬ (255 : Int32) < i1) (c_6 : ¬ i1 < 0) (c_3 : ¬ (65535 : Int32) < i1) (F_q0_coder : Fld Z h0 q0 "java/lang/String" "coder" "B" (.int 0)) (E_q0 : Exa Z h0 q0 "java/lang/String") (F_q0_value : Fld Z h0 q0 "java/lang/String" "value" "[B" (.ref q1)) (A_q1 : Arv Z h0 q1 kp0 .byte 2 [.int (ownB i0), .int (ownB i1)] (.int 0)) : MetH l Z EL0 n0 N_jdk_42_m_79 jdk_42_method_79_code 2 (some .int) [] R_rm77 #[.ref q0, .int 65533] h0 [] (fun vs v h ve => (v = some (.int (-1)) ∧ (h0 = h))) := by
  refine MetH.of #[.val (.ref q0), .val (.int 65533)] (plainFor_of_name pn_java_lang_String) rfl Z0 (fun p e s m below meth c T0 hret hml hnm hSL hs0 X0 => ?_)
  refine kALn X0 d9_0 rfl rfl ?_
  refine kILn X0 d9_1 rfl ?_
  refine kIC X0 0 d9_2 (by decide) ?_
  refine kVIRT X0 (gEL G) (argsL := [.int 65533, .int 0]) (rest := []) (wd G 53 rfl) (wd G 54 rfl) (own_nf X0.hZ (own_noinst (wd G 7 rfl))) (wd G 56 rfl) (wd G 55 rfl) (wd G 8 rfl) (wd G 57 rfl) (by decide) E_q0 (rm78 G i0 i1 q0 q1 kp0 h0 X0.n O0 c_0 c_4 c_2 c_1 c_6 c_3 F_q0_coder E_q0 F_q0_value A_q1) all0 (lenOf pd__II_I rfl) rfl 0 rfl (by decide) hml.symm d9_3 (fun v1 T2 h3 vm4 _ w5 q6 C7 C8 X9 => ?_)
  obtain ⟨e11, f12⟩ := q6
  subst e11
  subst f12
  show Go _ _ _ _ _ (mkF _ _ _ [.int (-1)])
  exact kRETI X9 (gEL G) hret d9_6 (fun ve hve => ⟨rfl, rfl⟩) (by decide)
def R_rm76 : Room := { frames := 4, cells := 0, slots := 0, locals := 55 }
theorem rm76 (G : Glob Z a0 iCS vSI) (i0 i1 i2 : Int32) (q0 q1 q2 q3 : Addr) (kp0 kp1 : ClassId) (h0 : Heap) (Z0 : n0 ≤ h0.size) (O0 : Old Z n0 h0) (c_0 : ¬ (255 : Int32) < i0) (c_5 : ¬ i0 < 0) (c_3 : ¬ (65535 : Int32) < i0) (c_1 : ¬ (255 : Int32) < i1) (c_7 : ¬ i1 < 0) (c_4 : ¬ (65535 : Int32) < i1) (F_q0_coder : Fld Z h0 q0 "java/lang/String" "coder" "B" (.int 0)) (E_q0 : Exa Z h0 q0 "java/lang/String") (F_q0_value : Fld Z h0 q0 "java/lang/String" "value" "[B" (.ref q2)) (A_q2 : Arv Z h0 q2 kp0 .byte 2 [.int (ownB i0), .int (ownB i1)] (.int 0)) : MetH l Z EL0 n0 N_prog_38_m_14 prog_38_method_14_code 2 none [] R_rm76 #[.ref q0, .ref q1] h0 [] (fun vs v h ve => (v = none ∧ (h0 = h))) := by
  refine MetH.of #[.val (.ref q0), .val (.ref q1)] (plainFor_of_name pn_com_example_evoke_evoke_Options) rfl Z0 (fun p e s m below meth c T0 hret hml hnm hSL hs0 X0 => ?_)
  refine kALn X0 d8_0 rfl rfl ?_
  refine kLDCI X0 (wd G 47 rfl) d8_1 ?_
  refine kVIRT X0 (gEL G) (argsL := [.int 65533]) (rest := []) (wd G 48 rfl) (wd G 49 rfl) (own_nf X0.hZ (own_noinst (wd G 7 rfl))) (wd G 51 rfl) (wd G 50 rfl) (wd G 8 rfl) (wd G 52 rfl) (by decide) E_q0 (rm77 G i0 i1 q0 q2 kp0 h0 X0.n O0 c_0 c_5 c_3 c_1 c_7 c_4 F_q0_coder E_q0 F_q0_value A_q2) all0 (lenOf pd__I_I rfl) rfl 0 rfl (by decide) hml.symm d8_3 (fun v1 T2 h3 vm4 _ w5 q6 C7 C8 X9 => ?_)
  obtain ⟨e11, f12⟩ := q6
  subst e11
  subst f12
  show Go _ _ _ _ _ (mkF _ _ _ [.int (-1)])
  refine kIFt X9 29 d8_6 (XT.i0_lt_t (by decide)) (by decide) ?_
  exact kRETV X9 (gEL G) hret d8_29 (fun ve hve => ⟨rfl, rfl⟩) (by decide)
def R_rm86 : Room := { frames := 0, cells := 0, slots := 0, locals := 0 }
theorem rm86 (G : Glob Z a0 iCS vSI) (i0 i1 i2 : Int32) (q0 q1 : Addr) (kp0 kp1 : ClassId) (h0 : Heap) (Z0 : n0 ≤ h0.size) (O0 : Old Z n0 h0) (A_q0 : Arv Z h0 q0 kp0 .char 3 [.int i0, .int i1, .int i2] (.int 0)) (A_q1 : Arv Z h0 q1 kp1 .byte 3 [.int 0, .int 0, .int 0] (.int 0)) (d_q0_q1 : q0 ≠ q1) (g_q1 : n0 ≤ q1) : MetH l Z EL0 n0 N_jdk_52_m_21 jdk_52_method_21_code 7 (some .int) [] R_rm86 #[.ref q0, .int 0, .ref q1, .int 0, .int 3] h0 [q1] (fun vs v h ve => (v = some (.int 0) ∧ ((255 : Int32) < i0) ∧ (h0 = h)) ∨ (v = some (.int 1) ∧ (¬ (255 : Int32) < i0) ∧ ((255 : Int32) < i1) ∧ (Keep h0 h [q1]) ∧ (Arv Z h q1 kp1 .byte 3 [.int (ownB i0), .int 0, .int 0] (.int 0))) ∨ (v = some (.int 2) ∧ (¬ (255 : Int32) < i0) ∧ (¬ (255 : Int32) < i1) ∧ ((255 : Int32) < i2) ∧ (Keep h0 h [q1]) ∧ (Arv Z h q1 kp1 .byte 3 [.int (ownB i0), .int (ownB i1), .int 0] (.int 0))) ∨ (v = some (.int 3) ∧ (¬ (255 : Int32) < i0) ∧ (¬ (255 : Int32) < i1) ∧ (¬ (255 : Int32) < i2) ∧ (Keep h0 h [q1]) ∧ (Arv Z h q1 kp1 .byte 3 [.int (ownB i0), .int (ownB i1), .int (ownB i2)] (.int 0)))) := by
  refine MetH.of #[.val (.ref q0), .val (.int 0), .val (.ref q1), .val (.int 0), .val (.int 3), .unset, .unset] (plainFor_of_name pn_java_lang_StringUTF16) rfl Z0 (fun p e s m below meth c T0 hret hml hnm hSL hs0 X0 => ?_)
  have S_q1 := hSL q1 (List.mem_of_getElem? (i := 0) rfl)
  refine kIC X0 0 d17_0 (by decide) ?_
  refine kIS X0 #[.val (.ref q0), .val (.int 0), .val (.ref q1), .val (.int 0), .val (.int 3), .val (.int 0), .unset] d17_1 rfl ?_
  refine kIL X0 d17_3 rfl ?_
  refine kIL X0 d17_5 rfl ?_
  refine kICf X0 d17_7 (XT.ii_ge_f (by decide)) ?_
  refine kALn X0 d17_10 rfl rfl ?_
  refine kILn X0 d17_11 rfl ?_
  refine kCALD X0 (.int i0) A_q0 (by decide) rfl d17_12 ?_
  refine kIS X0 #[.val (.ref q0), .val (.int 0), .val (.ref q1), .val (.int 0), .val (.int 3), .val (.int 0), .val (.int i0)] d17_13 rfl ?_
  refine kIL X0 d17_15 rfl ?_
  refine kSI X0 255 d17_17 (by decide) ?_
  by_cases c1 : (255 : Int32) < i0
  · refine kICf X0 d17_20 (XT.ii_le_f c1) ?_
    refine kIL X0 d17_23 rfl ?_
    exact kRETI X0 (gEL G) hret d17_25 (fun ve hve => Or.inl (⟨rfl, c1, rfl⟩)) (by decide)
  · refine kICt X0 26 d17_20 (XT.ii_le_t c1) (by decide) ?_
    refine kALn X0 d17_26 rfl rfl ?_
    refine kILn X0 d17_27 rfl ?_
    refine kIL X0 d17_28 rfl ?_
    refine kI2B X0 (ownB i0) d17_30 rfl ?_
    refine kBASTO X0 A_q1 (by decide) 0 (ownB i0) (own_nb _) (by decide) (by show 0 < 3; decide) g_q1 S_q1 d17_31 (fun T2 h3 L5 W6 f7 X4 => ?_)
    have f8 : Arv Z h3 q1 kp1 .byte 3 [.int (ownB i0), .int 0, .int 0] (.int 0) := f7
    refine kIINC X4 (1 : Int32) (1 : Int32) #[.val (.ref q0), .val (.int 1), .val (.ref q1), .val (.int 0), .val (.int 3), .val (.int 0), .val (.int i0)] d17_32 (by decide) rfl (by decide) rfl ?_
    refine kIINC X4 (1 : Int32) (1 : Int32) #[.val (.ref q0), .val (.int 1), .val (.ref q1), .val (.int 1), .val (.int 3), .val (.int 0), .val (.int i0)] d17_35 (by decide) rfl (by decide) rfl ?_
    refine kIINC X4 (1 : Int32) (1 : Int32) #[.val (.ref q0), .val (.int 1), .val (.ref q1), .val (.int 1), .val (.int 3), .val (.int 1), .val (.int i0)] d17_38 (by decide) rfl (by decide) rfl ?_
    refine kGOTO X4 3 d17_41 (by decide) ?_
    refine kIL X4 d17_3 rfl ?_
    refine kIL X4 d17_5 rfl ?_
    refine kICf X4 d17_7 (XT.ii_ge_f (by decide)) ?_
    refine kALn X4 d17_10 rfl rfl ?_
    refine kILn X4 d17_11 rfl ?_
    have f9 := (Arv.other A_q0 W6 d_q0_q1)
    refine kCALD X4 (.int i1) f9 (by decide) rfl d17_12 ?_
    refine kIS X4 #[.val (.ref q0), .val (.int 1), .val (.ref q1), .val (.int 1), .val (.int 3), .val (.int 1), .val (.int i1)] d17_13 rfl ?_
    refine kIL X4 d17_15 rfl ?_
    refine kSI X4 255 d17_17 (by decide) ?_
    by_cases c10 : (255 : Int32) < i1
    · refine kICf X4 d17_20 (XT.ii_le_f c10) ?_
      refine kIL X4 d17_23 rfl ?_
      have K11 : Keep h0 h3 [q1] := (Keep.wr (Keep.refl h0 [q1]) W6 (Or.inl (List.mem_of_getElem? (i := 0) rfl)))
      exact kRETI X4 (gEL G) hret d17_25 (fun ve hve => Or.inr (Or.inl (⟨rfl, c1, c10, K11, f8⟩))) (by decide)
    · refine kICt X4 26 d17_20 (XT.ii_le_t c10) (by decide) ?_
      refine kALn X4 d17_26 rfl rfl ?_
      refine kILn X4 d17_27 rfl ?_
      refine kIL X4 d17_28 rfl ?_
      refine kI2B X4 (ownB i1) d17_30 rfl ?_
      have f12 := (Safe.wr W6 S_q1 X0.C.1 S_q1)
      refine kBASTO X4 f8 (by decide) 1 (ownB i1) (own_nb _) (by decide) (by show 1 < 3; decide) g_q1 f12 d17_31 (fun T13 h14 L16 W17 f18 X15 => ?_)
      have f19 : Arv Z h14 q1 kp1 .byte 3 [.int (ownB i0), .int (ownB i1), .int 0] (.int 0) := f18
      refine kIINC X15 (1 : Int32) (2 : Int32) #[.val (.ref q0), .val (.int 2), .val (.ref q1), .val (.int 1), .val (.int 3), .val (.int 1), .val (.int i1)] d17_32 (by decide) rfl (by decide) rfl ?_
      refine kIINC X15 (1 : Int32) (2 : Int32) #[.val (.ref q0), .val (.int 2), .val (.ref q1), .val (.int 2), .val (.int 3), .val (.int 1), .val (.int i1)] d17_35 (by decide) rfl (by decide) rfl ?_
      refine kIINC X15 (1 : Int32) (2 : Int32) #[.val (.ref q0), .val (.int 2), .val (.ref q1), .val (.int 2), .val (.int 3), .val (.int 2), .val (.int i1)] d17_38 (by decide) rfl (by decide) rfl ?_
      refine kGOTO X15 3 d17_41 (by decide) ?_
      refine kIL X15 d17_3 rfl ?_
      refine kIL X15 d17_5 rfl ?_
      refine kICf X15 d17_7 (XT.ii_ge_f (by decide)) ?_
      refine kALn X15 d17_10 rfl rfl ?_
      refine kILn X15 d17_11 rfl ?_
      have f20 := (Arv.other f9 W17 d_q0_q1)
      refine kCALD X15 (.int i2) f20 (by decide) rfl d17_12 ?_
      refine kIS X15 #[.val (.ref q0), .val (.int 2), .val (.ref q1), .val (.int 2), .val (.int 3), .val (.int 2), .val (.int i2)] d17_13 rfl ?_
      refine kIL X15 d17_15 rfl ?_
      refine kSI X15 255 d17_17 (by decide) ?_
      by_cases c21 : (255 : Int32) < i2
      · refine kICf X15 d17_20 (XT.ii_le_f c21) ?_
        refine kIL X15 d17_23 rfl ?_
        have K22 : Keep h0 h14 [q1] := (Keep.wr (Keep.wr (Keep.refl h0 [q1]) W6 (Or.inl (List.mem_of_getElem? (i := 0) rfl))) W17 (Or.inl (List.mem_of_getElem? (i := 0) rfl)))
        exact kRETI X15 (gEL G) hret d17_25 (fun ve hve => Or.inr (Or.inr (Or.inl (⟨rfl, c1, c10, c21, K22, f19⟩)))) (by decide)
      · refine kICt X15 26 d17_20 (XT.ii_le_t c21) (by decide) ?_
        refine kALn X15 d17_26 rfl rfl ?_
        refine kILn X15 d17_27 rfl ?_
        refine kIL X15 d17_28 rfl ?_
        refine kI2B X15 (ownB i2) d17_30 rfl ?_
        have f23 := (Safe.wr W17 f12 X4.C.1 f12)
        refine kBASTO X15 f19 (by decide) 2 (ownB i2) (own_nb _) (by decide) (by show 2 < 3; decide) g_q1 f23 d17_31 (fun T24 h25 L27 W28 f29 X26 => ?_)
        have f30 : Arv Z h25 q1 kp1 .byte 3 [.int (ownB i0), .int (ownB i1), .int (ownB i2)] (.int 0) := f29
        refine kIINC X26 (1 : Int32) (3 : Int32) #[.val (.ref q0), .val (.int 3), .val (.ref q1), .val (.int 2), .val (.int 3), .val (.int 2), .val (.int i2)] d17_32 (by decide) rfl (by decide) rfl ?_
        refine kIINC X26 (1 : Int32) (3 : Int32) #[.val (.ref q0), .val (.int 3), .val (.ref q1), .val (.int 3), .val (.int 3), .val (.int 2), .val (.int i2)] d17_35 (by decide) rfl (by decide) rfl ?_
        refine kIINC X26 (1 : Int32) (3 : Int32) #[.val (.ref q0), .val (.int 3), .val (.ref q1), .val (.int 3), .val (.int 3), .val (.int 3), .val (.int i2)] d17_38 (by decide) rfl (by decide) rfl ?_
        refine kGOTO X26 3 d17_41 (by decide) ?_
        refine kIL X26 d17_3 rfl ?_
        refine kIL X26 d17_5 rfl ?_
        refine kICt X26 44 d17_7 (XT.ii_ge_t (by decide)) (by decide) ?_
        refine kIL X26 d17_44 rfl ?_
        have K31 : Keep h0 h25 [q1] := (Keep.wr (Keep.wr (Keep.wr (Keep.refl h0 [q1]) W6 (Or.inl (List.mem_of_getElem? (i := 0) rfl))) W17 (Or.inl (List.mem_of_getElem? (i := 0) rfl))) W28 (Or.inl (List.mem_of_getElem? (i := 0) rfl)))
        exact kRETI X26 (gEL G) hret d17_46 (fun ve hve => Or.inr (Or.inr (Or.inr (⟨rfl, c1, c10, c21, K31, f30⟩)))) (by decide)
def R_rm89 : Room := { frames := 0, cells := 0, slots := 0, locals := 0 }
theorem rm89 (G : Glob Z a0 iCS vSI)  (h0 : Heap) (Z0 : n0 ≤ h0.size) (O0 : Old Z n0 h0)  : MetH l Z EL0 n0 N_jdk_52_m_3 jdk_52_method_3_code 1 (some .int) [] R_rm89 #[.int 3] h0 [] (fun vs v h ve => (v = some (.int 6) ∧ (h0 = h))) := by
  refine MetH.of #[.val (.int 3)] (plainFor_of_name pn_java_lang_StringUTF16) rfl Z0 (fun p e s m below meth c T0 hret hml hnm hSL hs0 X0 => ?_)
  refine kILn X0 d21_0 rfl ?_
  refine kIFt X0 12 d21_1 (XT.i0_ge_t (by decide)) (by decide) ?_
  refine kILn X0 d21_12 rfl ?_
  refine kLDCI X0 (wd G 98 rfl) d21_13 ?_
  refine kICt X0 55 d21_15 (XT.ii_lt_t (by decide)) (by decide) ?_
  refine kILn X0 d21_55 rfl ?_
  refine kIC X0 1 d21_56 (by decide) ?_
  refine kISHL X0 6 d21_57 (by decide) ?_
  exact kRETI X0 (gEL G) hret d21_58 (fun ve hve => ⟨rfl, rfl⟩) (by decide)
def R_rm88 : Room := { frames := 1, cells := 1, slots := 6, locals := 12 }
theorem rm88 (G : Glob Z a0 iCS vSI)  (h0 : Heap) (Z0 : n0 ≤ h0.size) (O0 : Old Z n0 h0)  : MetH l Z EL0 n0 N_jdk_52_m_2 jdk_52_method_2_code 1 (some (.array (.byte))) [] R_rm88 #[.int 3] h0 [] (fun vs v h ve => (∃ (x0 : Addr), ∃ (z0 : ClassId), v = some (.ref x0) ∧ (Keep h0 h []) ∧ (h0.size ≤ x0) ∧ (Arv Z h x0 z0 .byte 6 [.int 0, .int 0, .int 0, .int 0, .int 0, .int 0] (.int 0)) ∧ (Safe Z EL0 ve h x0))) := by
  refine MetH.of #[.val (.int 3)] (plainFor_of_name pn_java_lang_StringUTF16) rfl Z0 (fun p e s m below meth c T0 hret hml hnm hSL hs0 X0 => ?_)
  refine kILn X0 d20_0 rfl ?_
  refine kSTAT X0 (gEL G) (argsL := [.int 3]) (rest := []) (wd G 95 rfl) (wd G 96 rfl) (wd G 81 rfl) (wd G 97 rfl) (by decide) (rm89 G  h0 X0.n O0 ) all0 (lenOf pd__I_I rfl) rfl 0 rfl (by decide) hml.symm d20_1 (fun v1 T2 h3 vm4 _ w5 q6 C7 C8 X9 => ?_)
  obtain ⟨e11, f12⟩ := q6
  subst e11
  subst f12
  show Go _ _ _ _ _ (mkF _ _ _ [.int 6])
  refine kNEWP X9 (wd G 21 rfl) (cap := 6) d20_4 (by decide) (by decide) (by decide) (by decide) (by decide) (fun T13 h14 a16 k17 E18 q19 g20 A21 s22 X15 => ?_)
  have g23 : h0.size ≤ a16 := q19 ▸ X9.g0
  have f24 : Arv Z h14 a16 k17 .byte 6 [.int 0, .int 0, .int 0, .int 0, .int 0, .int 0] (.int 0) := A21.pad (pad_rep [] _ 6)
  have K25 : Keep h0 h14 [] := (Keep.ext (Keep.refl h0 []) E18)
  exact kRETA X15 (gEL G) hret rfl rfl d20_6 (fun ve hve => ⟨a16, k17, rfl, K25, g23, f24, (CHr.safe hve (f24.lt) s22)⟩) (by decide)
def R_rm90 : Room := { frames := 0, cells := 0, slots := 0, locals := 0 }
theorem rm90 (G : Glob Z a0 iCS vSI) (i0 : Int32) (q0 : Addr) (kp0 : ClassId) (h0 : Heap) (Z0 : n0 ≤ h0.size) (O0 : Old Z n0 h0) (A_q0 : Arv Z h0 q0 kp0 .byte 6 [.int 0, .int 0, .int 0, .int 0, .int 0, .int 0] (.int 0)) (g_q0 : n0 ≤ q0) : MetH l Z EL0 n0 N_jdk_52_m_4 jdk_52_method_4_code 3 none [] R_rm90 #[.ref q0, .int 0, .int i0] h0 [q0] (fun vs v h ve => (v = none ∧ (Keep h0 h [q0]) ∧ (Arv Z h q0 kp0 .byte 6 [.int (ownB i0), .int (ownH i0), .int 0, .int 0, .int 0, .int 0] (.int 0)))) := by
  refine MetH.of #[.val (.ref q0), .val (.int 0), .val (.int i0)] (plainFor_of_name pn_java_lang_StringUTF16) rfl Z0 (fun p e s m below meth c T0 hret hml hnm hSL hs0 X0 => ?_)
  have S_q0 := hSL q0 (List.mem_of_getElem? (i := 0) rfl)
  refine kGETS X0 (wd G 102 rfl) Via.refl (Sta.ext O0.2 (S_AD G)) d22_0 (fun T1 X2 => ?_)
  refine kIFt X2 28 d22_3 (XT.i0_ne_t (by decide)) (by decide) ?_
  refine kILn X2 d22_28 rfl ?_
  refine kIC X2 1 d22_29 (by decide) ?_
  refine kISHL X2 0 d22_30 (by decide) ?_
  refine kISn X2 #[.val (.ref q0), .val (.int 0), .val (.int i0)] d22_31 rfl ?_
  refine kALn X2 d22_32 rfl rfl ?_
  refine kILn X2 d22_33 rfl ?_
  refine kIINC X2 (1 : Int32) (1 : Int32) #[.val (.ref q0), .val (.int 1), .val (.int i0)] d22_34 (by decide) rfl (by decide) rfl ?_
  refine kILn X2 d22_37 rfl ?_
  refine kGETS X2 (wd G 103 rfl) Via.refl (Sta.ext O0.2 (S_HI G)) d22_38 (fun T3 X4 => ?_)
  refine kISHR X4 i0 d22_41 (own_sh0 _) ?_
  refine kI2B X4 (ownB i0) d22_42 rfl ?_
  refine kBASTO X4 A_q0 (by decide) 0 (ownB i0) (own_nb _) (by decide) (by show 0 < 6; decide) g_q0 S_q0 d22_43 (fun T5 h6 L8 W9 f10 X7 => ?_)
  have f11 : Arv Z h6 q0 kp0 .byte 6 [.int (ownB i0), .int 0, .int 0, .int 0, .int 0, .int 0] (.int 0) := f10
  refine kALn X7 d22_44 rfl rfl ?_
  refine kILn X7 d22_45 rfl ?_
  refine kILn X7 d22_46 rfl ?_
  have f14 := (Old.wr O0 W9 g_q0)
  refine kGETS X7 (wd G 104 rfl) Via.refl (Sta.ext f14.2 (S_LO G)) d22_47 (fun T12 X13 => ?_)
  refine kISHR X13 (i0 >>> ((8 : Int32) &&& 31)) d22_50 rfl ?_
  refine kI2B X13 (ownH i0) d22_51 rfl ?_
  have f15 := (Safe.wr W9 S_q0 X4.C.1 S_q0)
  refine kBASTO X13 f11 (by decide) 1 (ownH i0) (own_nh _) (by decide) (by show 1 < 6; decide) g_q0 f15 d22_52 (fun T16 h17 L19 W20 f21 X18 => ?_)
  have f22 : Arv Z h17 q0 kp0 .byte 6 [.int (ownB i0), .int (ownH i0), .int 0, .int 0, .int 0, .int 0] (.int 0) := f21
  have K23 : Keep h0 h17 [q0] := (Keep.wr (Keep.wr (Keep.refl h0 [q0]) W9 (Or.inl (List.mem_of_getElem? (i := 0) rfl))) W20 (Or.inl (List.mem_of_getElem? (i := 0) rfl)))
  exact kRETV X18 (gEL G) hret d22_53 (fun ve hve => ⟨rfl, K23, f22⟩) (by decide)
def R_rm91 : Room := { frames := 0, cells := 0, slots := 0, locals := 0 }
theorem rm91 (G : Glob Z a0 iCS vSI) (i0 i1 : Int32) (q0 : Addr) (kp0 : ClassId) (h0 : Heap) (Z0 : n0 ≤ h0.size) (O0 : Old Z n0 h0) (A_q0 : Arv Z h0 q0 kp0 .byte 6 [.int (ownB i1), .int (ownH i1), .int 0, .int 0, .int 0, .int 0] (.int 0)) (g_q0 : n0 ≤ q0) : MetH l Z EL0 n0 N_jdk_52_m_4 jdk_52_method_4_code 3 none [] R_rm91 #[.ref q0, .int 1, .int i0] h0 [q0] (fun vs v h ve => (v = none ∧ (Keep h0 h [q0]) ∧ (Arv Z h q0 kp0 .byte 6 [.int (ownB i1), .int (ownH i1), .int (ownB i0), .int (ownH i0), .int 0, .int 0] (.int 0)))) := by
  refine MetH.of #[.val (.ref q0), .val (.int 1), .val (.int i0)] (plainFor_of_name pn_java_lang_StringUTF16) rfl Z0 (fun p e s m below meth c T0 hret hml hnm hSL hs0 X0 => ?_)
  have S_q0 := hSL q0 (List.mem_of_getElem? (i := 0) rfl)
  refine kGETS X0 (wd G 102 rfl) Via.refl (Sta.ext O0.2 (S_AD G)) d22_0 (fun T1 X2 => ?_)
  refine kIFt X2 28 d22_3 (XT.i0_ne_t (by decide)) (by decide) ?_
  refine kILn X2 d22_28 rfl ?_
  refine kIC X2 1 d22_29 (by decide) ?_
  refine kISHL X2 2 d22_30 (by decide) ?_
  refine kISn X2 #[.val (.ref q0), .val (.int 2), .val (.int i0)] d22_31 rfl ?_
  refine kALn X2 d22_32 rfl rfl ?_
  refine kILn X2 d22_33 rfl ?_
  refine kIINC X2 (1 : Int32) (3 : Int32) #[.val (.ref q0), .val (.int 3), .val (.int i0)] d22_34 (by decide) rfl (by decide) rfl ?_
  refine kILn X2 d22_37 rfl ?_
  refine kGETS X2 (wd G 103 rfl) Via.refl (Sta.ext O0.2 (S_HI G)) d22_38 (fun T3 X4 => ?_)
  refine kISHR X4 i0 d22_41 (own_sh0 _) ?_
  refine kI2B X4 (ownB i0) d22_42 rfl ?_
  refine kBASTO X4 A_q0 (by decide) 2 (ownB i0) (own_nb _) (by decide) (by show 2 < 6; decide) g_q0 S_q0 d22_43 (fun T5 h6 L8 W9 f10 X7 => ?_)
  have f11 : Arv Z h6 q0 kp0 .byte 6 [.int (ownB i1), .int (ownH i1), .int (ownB i0), .int 0, .int 0, .int 0] (.int 0) := f10
  refine kALn X7 d22_44 rfl rfl ?_
  refine kILn X7 d22_45 rfl ?_
  refine kILn X7 d22_46 rfl ?_
  have f14 := (Old.wr O0 W9 g_q0)
  refine kGETS X7 (wd G 104 rfl) Via.refl (Sta.ext f14.2 (S_LO G)) d22_47 (fun T12 X13 => ?_)
  refine kISHR X13 (i0 >>> ((8 : Int32) &&& 31)) d22_50 rfl ?_
  refine kI2B X13 (ownH i0) d22_51 rfl ?_
  have f15 := (Safe.wr W9 S_q0 X4.C.1 S_q0)
  refine kBASTO X13 f11 (by decide) 3 (ownH i0) (own_nh _) (by decide) (by show 3 < 6; decide) g_q0 f15 d22_52 (fun T16 h17 L19 W20 f21 X18 => ?_)
  have f22 : Arv Z h17 q0 kp0 .byte 6 [.int (ownB i1), .int (ownH i1), .int (ownB i0), .int (ownH i0), .int 0, .int 0] (.int 0) := f21
  have K23 : Keep h0 h17 [q0] := (Keep.wr (Keep.wr (Keep.refl h0 [q0]) W9 (Or.inl (List.mem_of_getElem? (i := 0) rfl))) W20 (Or.inl (List.mem_of_getElem? (i := 0) rfl)))
  exact kRETV X18 (gEL G) hret d22_53 (fun ve hve => ⟨rfl, K23, f22⟩) (by decide)
def R_rm92 : Room := { frames := 0, cells := 0, slots := 0, locals := 0 }
theorem rm92 (G : Glob Z a0 iCS vSI) (i0 i1 i2 : Int32) (q0 : Addr) (kp0 : ClassId) (h0 : Heap) (Z0 : n0 ≤ h0.size) (O0 : Old Z n0 h0) (A_q0 : Arv Z h0 q0 kp0 .byte 6 [.int (ownB i1), .int (ownH i1), .int (ownB i2), .int (ownH i2), .int 0, .int 0] (.int 0)) (g_q0 : n0 ≤ q0) : MetH l Z EL0 n0 N_jdk_52_m_4 jdk_52_method_4_code 3 none [] R_rm92 #[.ref q0, .int 2, .int i0] h0 [q0] (fun vs v h ve => (v = none ∧ (Keep h0 h [q0]) ∧ (Arv Z h q0 kp0 .byte 6 [.int (ownB i1), .int (ownH i1), .int (ownB i2), .int (ownH i2), .int (ownB i0), .int (ownH i0)] (.int 0)))) := by
  refine MetH.of #[.val (.ref q0), .val (.int 2), .val (.int i0)] (plainFor_of_name pn_java_lang_StringUTF16) rfl Z0 (fun p e s m below meth c T0 hret hml hnm hSL hs0 X0 => ?_)
  have S_q0 := hSL q0 (List.mem_of_getElem? (i := 0) rfl)
  refine kGETS X0 (wd G 102 rfl) Via.refl (Sta.ext O0.2 (S_AD G)) d22_0 (fun T1 X2 => ?_)
  refine kIFt X2 28 d22_3 (XT.i0_ne_t (by decide)) (by decide) ?_
  refine kILn X2 d22_28 rfl ?_
  refine kIC X2 1 d22_29 (by decide) ?_
  refine kISHL X2 4 d22_30 (by decide) ?_
  refine kISn X2 #[.val (.ref q0), .val (.int 4), .val (.int i0)] d22_31 rfl ?_
  refine kALn X2 d22_32 rfl rfl ?_
  refine kILn X2 d22_33 rfl ?_
  refine kIINC X2 (1 : Int32) (5 : Int32) #[.val (.ref q0), .val (.int 5), .val (.int i0)] d22_34 (by decide) rfl (by decide) rfl ?_
  refine kILn X2 d22_37 rfl ?_
  refine kGETS X2 (wd G 103 rfl) Via.refl (Sta.ext O0.2 (S_HI G)) d22_38 (fun T3 X4 => ?_)
  refine kISHR X4 i0 d22_41 (own_sh0 _) ?_
  refine kI2B X4 (ownB i0) d22_42 rfl ?_
  refine kBASTO X4 A_q0 (by decide) 4 (ownB i0) (own_nb _) (by decide) (by show 4 < 6; decide) g_q0 S_q0 d22_43 (fun T5 h6 L8 W9 f10 X7 => ?_)
  have f11 : Arv Z h6 q0 kp0 .byte 6 [.int (ownB i1), .int (ownH i1), .int (ownB i2), .int (ownH i2), .int (ownB i0), .int 0] (.int 0) := f10
  refine kALn X7 d22_44 rfl rfl ?_
  refine kILn X7 d22_45 rfl ?_
  refine kILn X7 d22_46 rfl ?_
  have f14 := (Old.wr O0 W9 g_q0)
  refine kGETS X7 (wd G 104 rfl) Via.refl (Sta.ext f14.2 (S_LO G)) d22_47 (fun T12 X13 => ?_)
  refine kISHR X13 (i0 >>> ((8 : Int32) &&& 31)) d22_50 rfl ?_
  refine kI2B X13 (ownH i0) d22_51 rfl ?_
  have f15 := (Safe.wr W9 S_q0 X4.C.1 S_q0)
  refine kBASTO X13 f11 (by decide) 5 (ownH i0) (own_nh _) (by decide) (by show 5 < 6; decide) g_q0 f15 d22_52 (fun T16 h17 L19 W20 f21 X18 => ?_)
  have f22 : Arv Z h17 q0 kp0 .byte 6 [.int (ownB i1), .int (ownH i1), .int (ownB i2), .int (ownH i2), .int (ownB i0), .int (ownH i0)] (.int 0) := f21
  have K23 : Keep h0 h17 [q0] := (Keep.wr (Keep.wr (Keep.refl h0 [q0]) W9 (Or.inl (List.mem_of_getElem? (i := 0) rfl))) W20 (Or.inl (List.mem_of_getElem? (i := 0) rfl)))
  exact kRETV X18 (gEL G) hret d22_53 (fun ve hve => ⟨rfl, K23, f22⟩) (by decide)
def R_rm87 : Room := { frames := 2, cells := 1, slots := 6, locals := 24 }
theorem rm87 (G : Glob Z a0 iCS vSI) (i0 i1 i2 : Int32) (q0 : Addr) (kp0 : ClassId) (h0 : Heap) (Z0 : n0 ≤ h0.size) (O0 : Old Z n0 h0) (A_q0 : Arv Z h0 q0 kp0 .char 3 [.int i0, .int i1, .int i2] (.int 0)) (c_1 : ¬ (65535 : Int32) < i0) (c_4 : ¬ i0 < 0) (c_2 : ¬ (65535 : Int32) < i1) (c_6 : ¬ i1 < 0) (c_3 : ¬ (65535 : Int32) < i2) (c_8 : ¬ i2 < 0) : MetH l Z EL0 n0 N_jdk_52_m_14 jdk_52_method_14_code 5 (some (.array (.byte))) [] R_rm87 #[.ref q0, .int 0, .int 3] h0 [] (fun vs v h ve => (∃ (x0 : Addr), ∃ (z0 : ClassId), v = some (.ref x0) ∧ (Keep h0 h []) ∧ (h0.size ≤ x0) ∧ (Arv Z h x0 z0 .byte 6 [.int (ownB i0), .int (ownH i0), .int (ownB i1), .int (ownH i1), .int (ownB i2), .int (ownH i2)] (.int 0)) ∧ (Safe Z EL0 ve h x0))) := by
  refine MetH.of #[.val (.ref q0), .val (.int 0), .val (.int 3), .unset, .unset] (plainFor_of_name pn_java_lang_StringUTF16) rfl Z0 (fun p e s m below meth c T0 hret hml hnm hSL hs0 X0 => ?_)
  refine kILn X0 d19_0 rfl ?_
  refine kSTAT X0 (gEL G) (argsL := [.int 3]) (rest := []) (wd G 92 rfl) (wd G 93 rfl) (wd G 81 rfl) (wd G 94 rfl) (by decide) (rm88 G  h0 X0.n O0 ) all0 (lenOf pd__I__B rfl) rfl 0 rfl (by decide) hml.symm d19_1 (fun v1 T2 h3 vm4 _ w5 q6 C7 C8 X9 => ?_)
  obtain ⟨a11, k12, e13, f14, f15, f16, f17⟩ := q6
  subst e13
  have n18 : q0 ≠ a11 := Nat.ne_of_lt (Nat.lt_of_lt_of_le (A_q0.lt) f15)
  have g19 : n0 ≤ a11 := Nat.le_trans X0.n f15
  have g20 : h0.size ≤ a11 := Nat.le_trans X0.g0 f15
  show Go _ _ _ _ _ (mkF _ _ _ [.ref a11])
  refine kASn X9 #[.val (.ref q0), .val (.int 0), .val (.int 3), .val (.ref a11), .unset] d19_4 rfl rfl ?_
  refine kIC X9 0 d19_5 (by decide) ?_
  refine kIS X9 #[.val (.ref q0), .val (.int 0), .val (.int 3), .val (.ref a11), .val (.int 0)] d19_6 rfl ?_
  refine kIL X9 d19_8 rfl ?_
  refine kILn X9 d19_10 rfl ?_
  refine kICf X9 d19_11 (XT.ii_ge_f (by decide)) ?_
  refine kALn X9 d19_14 rfl rfl ?_
  refine kIL X9 d19_15 rfl ?_
  refine kALn X9 d19_17 rfl rfl ?_
  refine kILn X9 d19_18 rfl ?_
  have f21 := (Arv.keep A_q0 f14 nin0)
  refine kCALD X9 (.int i0) f21 (by decide) rfl d19_19 ?_
  have f22 := (Old.keep O0 f14 all0)
  refine kSTAT X9 (gEL G) (argsL := [.ref a11, .int 0, .int i0]) (rest := []) (wd G 99 rfl) (wd G 100 rfl) (wd G 81 rfl) (wd G 101 rfl) (by decide) (rm90 G i0 a11 k12 h3 X9.n f22 f16 g19) (allS ⟨(f16.lt), f17⟩ all0) (lenOf pd___BII_V rfl) rfl 0 rfl (by decide) hml.symm d19_20 (fun v23 T24 h25 vm26 _ w27 q28 C29 C30 X31 => ?_)
  obtain ⟨e33, f34, f35⟩ := q28
  subst e33
  show Go _ _ _ _ _ (mkF _ _ _ [])
  refine kIINC X31 (1 : Int32) (1 : Int32) #[.val (.ref q0), .val (.int 1), .val (.int 3), .val (.ref a11), .val (.int 0)] d19_23 (by decide) rfl (by decide) rfl ?_
  refine kIINC X31 (1 : Int32) (1 : Int32) #[.val (.ref q0), .val (.int 1), .val (.int 3), .val (.ref a11), .val (.int 1)] d19_26 (by decide) rfl (by decide) rfl ?_
  refine kGOTO X31 8 d19_29 (by decide) ?_
  refine kIL X31 d19_8 rfl ?_
  refine kILn X31 d19_10 rfl ?_
  refine kICf X31 d19_11 (XT.ii_ge_f (by decide)) ?_
  refine kALn X31 d19_14 rfl rfl ?_
  refine kIL X31 d19_15 rfl ?_
  refine kALn X31 d19_17 rfl rfl ?_
  refine kILn X31 d19_18 rfl ?_
  have f36 := (Arv.keep f21 f34 (ninS n18 nin0))
  refine kCALD X31 (.int i1) f36 (by decide) rfl d19_19 ?_
  have f37 := (Old.keep f22 f34 (allS g19 all0))
  have f47 := (CHr.safe C30 (f16.lt) f17)
  refine kSTAT X31 (gEL G) (argsL := [.ref a11, .int 1, .int i1]) (rest := []) (wd G 99 rfl) (wd G 100 rfl) (wd G 81 rfl) (wd G 101 rfl) (by decide) (rm91 G i1 i0 a11 k12 h25 X31.n f37 f35 g19) (allS ⟨(f35.lt), f47⟩ all0) (lenOf pd___BII_V rfl) rfl 0 rfl (by decide) hml.symm d19_20 (fun v38 T39 h40 vm41 _ w42 q43 C44 C45 X46 => ?_)
  obtain ⟨e49, f50, f51⟩ := q43
  subst e49
  show Go _ _ _ _ _ (mkF _ _ _ [])
  refine kIINC X46 (1 : Int32) (2 : Int32) #[.val (.ref q0), .val (.int 2), .val (.int 3), .val (.ref a11), .val (.int 1)] d19_23 (by decide) rfl (by decide) rfl ?_
  refine kIINC X46 (1 : Int32) (2 : Int32) #[.val (.ref q0), .val (.int 2), .val (.int 3), .val (.ref a11), .val (.int 2)] d19_26 (by decide) rfl (by decide) rfl ?_
  refine kGOTO X46 8 d19_29 (by decide) ?_
  refine kIL X46 d19_8 rfl ?_
  refine kILn X46 d19_10 rfl ?_
  refine kICf X46 d19_11 (XT.ii_ge_f (by decide)) ?_
  refine kALn X46 d19_14 rfl rfl ?_
  refine kIL X46 d19_15 rfl ?_
  refine kALn X46 d19_17 rfl rfl ?_
  refine kILn X46 d19_18 rfl ?_
  have f52 := (Arv.keep f36 f50 (ninS n18 nin0))
  refine kCALD X46 (.int i2) f52 (by decide) rfl d19_19 ?_
  have f53 := (Old.keep f37 f50 (allS g19 all0))
  have f63 := (CHr.safe C45 (f35.lt) f47)
  refine kSTAT X46 (gEL G) (argsL := [.ref a11, .int 2, .int i2]) (rest := []) (wd G 99 rfl) (wd G 100 rfl) (wd G 81 rfl) (wd G 101 rfl) (by decide) (rm92 G i2 i0 i1 a11 k12 h40 X46.n f53 f51 g19) (allS ⟨(f51.lt), f63⟩ all0) (lenOf pd___BII_V rfl) rfl 0 rfl (by decide) hml.symm d19_20 (fun v54 T55 h56 vm57 _ w58 q59 C60 C61 X62 => ?_)
  obtain ⟨e65, f66, f67⟩ := q59
  subst e65
  show Go _ _ _ _ _ (mkF _ _ _ [])
  refine kIINC X62 (1 : Int32) (3 : Int32) #[.val (.ref q0), .val (.int 3), .val (.int 3), .val (.ref a11), .val (.int 2)] d19_23 (by decide) rfl (by decide) rfl ?_
  refine kIINC X62 (1 : Int32) (3 : Int32) #[.val (.ref q0), .val (.int 3), .val (.int 3), .val (.ref a11), .val (.int 3)] d19_26 (by decide) rfl (by decide) rfl ?_
  refine kGOTO X62 8 d19_29 (by decide) ?_
  refine kIL X62 d19_8 rfl ?_
  refine kILn X62 d19_10 rfl ?_
  refine kICt X62 32 d19_11 (XT.ii_ge_t (by decide)) (by decide) ?_
  refine kALn X62 d19_32 rfl rfl ?_
  have K68 : Keep h0 h56 [] := (Keep.trans (Keep.trans (Keep.trans (Keep.trans (Keep.refl h0 []) f14 all0) f34 (allS (Or.inr g20) all0)) f50 (allS (Or.inr g20) all0)) f66 (allS (Or.inr g20) all0))
  have f69 := (CHr.safe C61 (f51.lt) f63)
  exact kRETA X62 (gEL G) hret rfl rfl d19_33 (fun ve hve => ⟨a11, k12, rfl, K68, g20, f67, (CHr.safe hve (f67.lt) f69)⟩) (by decide)
def R_rm93 : Room := { frames := 0, cells := 0, slots := 0, locals := 0 }
theorem rm93 (G : Glob Z a0 iCS vSI) (i0 i1 i2 : Int32) (q0 : Addr) (kp0 : ClassId) (h0 : Heap) (Z0 : n0 ≤ h0.size) (O0 : Old Z n0 h0) (A_q0 : Arv Z h0 q0 kp0 .byte 6 [.int (ownB i0), .int (ownH i0), .int (ownB i1), .int (ownH i1), .int (ownB i2), .int (ownH i2)] (.int 0)) (c_1 : ¬ (65535 : Int32) < i0) (c_4 : ¬ i0 < 0) : MetH l Z EL0 n0 N_jdk_52_m_5 jdk_52_method_5_code 2 (some .char) [] R_rm93 #[.ref q0, .int 0] h0 [] (fun vs v h ve => (v = some (.int i0) ∧ (h0 = h))) := by
  refine MetH.of #[.val (.ref q0), .val (.int 0)] (plainFor_of_name pn_java_lang_StringUTF16) rfl Z0 (fun p e s m below meth c T0 hret hml hnm hSL hs0 X0 => ?_)
  refine kGETS X0 (wd G 102 rfl) Via.refl (Sta.ext O0.2 (S_AD G)) d23_0 (fun T1 X2 => ?_)
  refine kIFt X2 28 d23_3 (XT.i0_ne_t (by decide)) (by decide) ?_
  refine kILn X2 d23_28 rfl ?_
  refine kIC X2 1 d23_29 (by decide) ?_
  refine kISHL X2 0 d23_30 (by decide) ?_
  refine kISn X2 #[.val (.ref q0), .val (.int 0)] d23_31 rfl ?_
  refine kALn X2 d23_32 rfl rfl ?_
  refine kILn X2 d23_33 rfl ?_
  refine kIINC X2 (1 : Int32) (1 : Int32) #[.val (.ref q0), .val (.int 1)] d23_34 (by decide) rfl (by decide) rfl ?_
  refine kBALD X2 (.int (ownB i0)) A_q0 (by decide) rfl d23_37 ?_
  refine kSI X2 255 d23_38 (by decide) ?_
  refine kIAND X2 ((ownB i0) &&& (255 : Int32)) d23_41 rfl ?_
  refine kGETS X2 (wd G 103 rfl) Via.refl (Sta.ext O0.2 (S_HI G)) d23_42 (fun T3 X4 => ?_)
  refine kISHL X4 (((ownB i0) &&& (255 : Int32)) <<< ((0 : Int32) &&& 31)) d23_45 rfl ?_
  refine kALn X4 d23_46 rfl rfl ?_
  refine kILn X4 d23_47 rfl ?_
  refine kBALD X4 (.int (ownH i0)) A_q0 (by decide) rfl d23_48 ?_
  refine kSI X4 255 d23_49 (by decide) ?_
  refine kIAND X4 ((ownH i0) &&& (255 : Int32)) d23_52 rfl ?_
  refine kGETS X4 (wd G 104 rfl) Via.refl (Sta.ext O0.2 (S_LO G)) d23_53 (fun T5 X6 => ?_)
  refine kISHL X6 (((ownH i0) &&& (255 : Int32)) <<< ((8 : Int32) &&& 31)) d23_56 rfl ?_
  refine kIOR X6 ((((ownB i0) &&& (255 : Int32)) <<< ((0 : Int32) &&& 31)) ||| (((ownH i0) &&& (255 : Int32)) <<< ((8 : Int32) &&& 31))) d23_57 rfl ?_
  refine kI2C X6 i0 d23_58 (own_gc c_1 c_4) ?_
  exact kRETZ X6 (gEL G) (t := .char) hret (by simp) d23_59 (fun ve hve => ⟨(by rw [(own_n16 c_1 c_4)]), rfl⟩) (by decide)
def R_rm94 : Room := { frames := 0, cells := 0, slots := 0, locals := 0 }
theorem rm94 (G : Glob Z a0 iCS vSI) (i0 i1 i2 : Int32) (q0 : Addr) (kp0 : ClassId) (h0 : Heap) (Z0 : n0 ≤ h0.size) (O0 : Old Z n0 h0) (A_q0 : Arv Z h0 q0 kp0 .byte 6 [.int (ownB i0), .int (ownH i0), .int (ownB i1), .int (ownH i1), .int (ownB i2), .int (ownH i2)] (.int 0)) (c_3 : ¬ (65535 : Int32) < i1) (c_7 : ¬ i1 < 0) : MetH l Z EL0 n0 N_jdk_52_m_5 jdk_52_method_5_code 2 (some .char) [] R_rm94 #[.ref q0, .int 1] h0 [] (fun vs v h ve => (v = some (.int i1) ∧ (h0 = h))) := by
  refine MetH.of #[.val (.ref q0), .val (.int 1)] (plainFor_of_name pn_java_lang_StringUTF16) rfl Z0 (fun p e s m below meth c T0 hret hml hnm hSL hs0 X0 => ?_)
  refine kGETS X0 (wd G 102 rfl) Via.refl (Sta.ext O0.2 (S_AD G)) d23_0 (fun T1 X2 => ?_)
  refine kIFt X2 28 d23_3 (XT.i0_ne_t (by decide)) (by decide) ?_
  refine kILn X2 d23_28 rfl ?_
  refine kIC X2 1 d23_29 (by decide) ?_
  refine kISHL X2 2 d23_30 (by decide) ?_
  refine kISn X2 #[.val (.ref q0), .val (.int 2)] d23_31 rfl ?_
  refine kALn X2 d23_32 rfl rfl ?_
  refine kILn X2 d23_33 rfl ?_
  refine kIINC X2 (1 : Int32) (3 : Int32) #[.val (.ref q0), .val (.int 3)] d23_34 (by decide) rfl (by decide) rfl ?_
  refine kBALD X2 (.int (ownB i1)) A_q0 (by decide) rfl d23_37 ?_
  refine kSI X2 255 d23_38 (by decide) ?_
  refine kIAND X2 ((ownB i1) &&& (255 : Int32)) d23_41 rfl ?_
  refine kGETS X2 (wd G 103 rfl) Via.refl (Sta.ext O0.2 (S_HI G)) d23_42 (fun T3 X4 => ?_)
  refine kISHL X4 (((ownB i1) &&& (255 : Int32)) <<< ((0 : Int32) &&& 31)) d23_45 rfl ?_
  refine kALn X4 d23_46 rfl rfl ?_
  refine kILn X4 d23_47 rfl ?_
  refine kBALD X4 (.int (ownH i1)) A_q0 (by decide) rfl d23_48 ?_
  refine kSI X4 255 d23_49 (by decide) ?_
  refine kIAND X4 ((ownH i1) &&& (255 : Int32)) d23_52 rfl ?_
  refine kGETS X4 (wd G 104 rfl) Via.refl (Sta.ext O0.2 (S_LO G)) d23_53 (fun T5 X6 => ?_)
  refine kISHL X6 (((ownH i1) &&& (255 : Int32)) <<< ((8 : Int32) &&& 31)) d23_56 rfl ?_
  refine kIOR X6 ((((ownB i1) &&& (255 : Int32)) <<< ((0 : Int32) &&& 31)) ||| (((ownH i1) &&& (255 : Int32)) <<< ((8 : Int32) &&& 31))) d23_57 rfl ?_
  refine kI2C X6 i1 d23_58 (own_gc c_3 c_7) ?_
  exact kRETZ X6 (gEL G) (t := .char) hret (by simp) d23_59 (fun ve hve => ⟨(by rw [(own_n16 c_3 c_7)]), rfl⟩) (by decide)
def R_rm95 : Room := { frames := 0, cells := 0, slots := 0, locals := 0 }
theorem rm95 (G : Glob Z a0 iCS vSI) (i0 i1 i2 : Int32) (q0 : Addr) (kp0 : ClassId) (h0 : Heap) (Z0 : n0 ≤ h0.size) (O0 : Old Z n0 h0) (A_q0 : Arv Z h0 q0 kp0 .byte 6 [.int (ownB i0), .int (ownH i0), .int (ownB i1), .int (ownH i1), .int (ownB i2), .int (ownH i2)] (.int 0)) (c_5 : ¬ (65535 : Int32) < i2) (c_10 : ¬ i2 < 0) : MetH l Z EL0 n0 N_jdk_52_m_5 jdk_52_method_5_code 2 (some .char) [] R_rm95 #[.ref q0, .int 2] h0 [] (fun vs v h ve => (v = some (.int i2) ∧ (h0 = h))) := by
  refine MetH.of #[.val (.ref q0), .val (.int 2)] (plainFor_of_name pn_java_lang_StringUTF16) rfl Z0 (fun p e s m below meth c T0 hret hml hnm hSL hs0 X0 => ?_)
  refine kGETS X0 (wd G 102 rfl) Via.refl (Sta.ext O0.2 (S_AD G)) d23_0 (fun T1 X2 => ?_)
  refine kIFt X2 28 d23_3 (XT.i0_ne_t (by decide)) (by decide) ?_
  refine kILn X2 d23_28 rfl ?_
  refine kIC X2 1 d23_29 (by decide) ?_
  refine kISHL X2 4 d23_30 (by decide) ?_
  refine kISn X2 #[.val (.ref q0), .val (.int 4)] d23_31 rfl ?_
  refine kALn X2 d23_32 rfl rfl ?_
  refine kILn X2 d23_33 rfl ?_
  refine kIINC X2 (1 : Int32) (5 : Int32) #[.val (.ref q0), .val (.int 5)] d23_34 (by decide) rfl (by decide) rfl ?_
  refine kBALD X2 (.int (ownB i2)) A_q0 (by decide) rfl d23_37 ?_
  refine kSI X2 255 d23_38 (by decide) ?_
  refine kIAND X2 ((ownB i2) &&& (255 : Int32)) d23_41 rfl ?_
  refine kGETS X2 (wd G 103 rfl) Via.refl (Sta.ext O0.2 (S_HI G)) d23_42 (fun T3 X4 => ?_)
  refine kISHL X4 (((ownB i2) &&& (255 : Int32)) <<< ((0 : Int32) &&& 31)) d23_45 rfl ?_
  refine kALn X4 d23_46 rfl rfl ?_
  refine kILn X4 d23_47 rfl ?_
  refine kBALD X4 (.int (ownH i2)) A_q0 (by decide) rfl d23_48 ?_
  refine kSI X4 255 d23_49 (by decide) ?_
  refine kIAND X4 ((ownH i2) &&& (255 : Int32)) d23_52 rfl ?_
  refine kGETS X4 (wd G 104 rfl) Via.refl (Sta.ext O0.2 (S_LO G)) d23_53 (fun T5 X6 => ?_)
  refine kISHL X6 (((ownH i2) &&& (255 : Int32)) <<< ((8 : Int32) &&& 31)) d23_56 rfl ?_
  refine kIOR X6 ((((ownB i2) &&& (255 : Int32)) <<< ((0 : Int32) &&& 31)) ||| (((ownH i2) &&& (255 : Int32)) <<< ((8 : Int32) &&& 31))) d23_57 rfl ?_
  refine kI2C X6 i2 d23_58 (own_gc c_5 c_10) ?_
  exact kRETZ X6 (gEL G) (t := .char) hret (by simp) d23_59 (fun ve hve => ⟨(by rw [(own_n16 c_5 c_10)]), rfl⟩) (by decide)
def R_rm85 : Room := { frames := 3, cells := 2, slots := 9, locals := 40 }
theorem rm85 (G : Glob Z a0 iCS vSI) (i0 i1 i2 : Int32) (q0 : Addr) (kp0 : ClassId) (h0 : Heap) (Z0 : n0 ≤ h0.size) (O0 : Old Z n0 h0) (A_q0 : Arv Z h0 q0 kp0 .char 3 [.int i0, .int i1, .int i2] (.int 0)) (c_0 : ¬ (65535 : Int32) < i0) (c_3 : ¬ i0 < 0) (c_1 : ¬ (65535 : Int32) < i1) (c_5 : ¬ i1 < 0) (c_2 : ¬ (65535 : Int32) < i2) (c_7 : ¬ i2 < 0) : MetH l Z EL0 n0 N_jdk_52_m_16 jdk_52_method_16_code 6 (some (.array (.byte))) [] R_rm85 #[.ref q0, .int 0, .int 3] h0 [] (fun vs v h ve => (∃ (x0 : Addr), ∃ (z0 : ClassId), v = some (.ref x0) ∧ ((255 : Int32) < i0) ∧ (Keep h0 h []) ∧ (h0.size ≤ x0) ∧ (Arv Z h x0 z0 .byte 6 [.int (ownB i0), .int (ownH i0), .int (ownB i1), .int (ownH i1), .int (ownB i2), .int (ownH i2)] (.int 0)) ∧ (Safe Z EL0 ve h x0)) ∨ (∃ (x0 : Addr), ∃ (z0 : ClassId), v = some (.ref x0) ∧ (¬ (255 : Int32) < i0) ∧ ((255 : Int32) < i1) ∧ (Keep h0 h []) ∧ (h0.size ≤ x0) ∧ (Arv Z h x0 z0 .byte 6 [.int (ownB i0), .int (ownH i0), .int (ownB i1), .int (ownH i1), .int (ownB i2), .int (ownH i2)] (.int 0)) ∧ (Safe Z EL0 ve h x0)) ∨ (∃ (x0 : Addr), ∃ (z0 : ClassId), v = some (.ref x0) ∧ (¬ (255 : Int32) < i0) ∧ (¬ (255 : Int32) < i1) ∧ ((255 : Int32) < i2) ∧ (Keep h0 h []) ∧ (h0.size ≤ x0) ∧ (Arv Z h x0 z0 .byte 6 [.int (ownB i0), .int (ownH i0), .int (ownB i1), .int (ownH i1), .int (ownB i2), .int (ownH i2)] (.int 0)) ∧ (Safe Z EL0 ve h x0)) ∨ (∃ (x0 : Addr), ∃ (z0 : ClassId), v = some (.ref x0) ∧ (¬ (255 : Int32) < i0) ∧ (¬ (255 : Int32) < i1) ∧ (¬ (255 : Int32) < i2) ∧ (Keep h0 h []) ∧ (h0.size ≤ x0) ∧ (Arv Z h x0 z0 .byte 3 [.int (ownB i0), .int (ownB i1), .int (ownB i2)] (.int 0)) ∧ (Safe Z EL0 ve h x0))) := by
  refine MetH.of #[.val (.ref q0), .val (.int 0), .val (.int 3), .unset, .unset, .unset] (plainFor_of_name pn_java_lang_StringUTF16) rfl Z0 (fun p e s m below meth c T0 hret hml hnm hSL hs0 X0 => ?_)
  refine kILn X0 d16_0 rfl ?_
  refine kNEWP X0 (wd G 21 rfl) (cap := 3) d16_1 (by decide) (by decide) (by decide) (by decide) (by decide) (fun T1 h2 a4 k5 E6 q7 g8 A9 s10 X3 => ?_)
  have n11 : q0 ≠ a4 := Nat.ne_of_lt (Nat.lt_of_lt_of_le (A_q0.lt) (Nat.le_of_eq q7.symm))
  have g12 : h0.size ≤ a4 := q7 ▸ X0.g0
  have f13 : Arv Z h2 a4 k5 .byte 3 [.int 0, .int 0, .int 0] (.int 0) := A9.pad (pad_rep [] _ 3)
  refine kASn X3 #[.val (.ref q0), .val (.int 0), .val (.int 3), .val (.ref a4), .unset, .unset] d16_3 rfl rfl ?_
  refine kALn X3 d16_4 rfl rfl ?_
  refine kILn X3 d16_5 rfl ?_
  refine kALn X3 d16_6 rfl rfl ?_
  refine kIC X3 0 d16_7 (by decide) ?_
  refine kILn X3 d16_8 rfl ?_
  have f14 := (Arv.ext A_q0 E6)
  have f15 := (Old.ext O0 E6)
  refine kSTAT X3 (gEL G) (argsL := [.ref q0, .int 0, .ref a4, .int 0, .int 3]) (rest := []) (wd G 83 rfl) (wd G 84 rfl) (wd G 81 rfl) (wd G 85 rfl) (by decide) (rm86 G i0 i1 i2 q0 a4 kp0 k5 h2 X3.n f15 f14 f13 n11 g8) (allS ⟨(f13.lt), s10⟩ all0) (lenOf pd___CI_BII_I rfl) rfl 0 rfl (by decide) hml.symm d16_9 (fun v16 T17 h18 vm19 _ w20 q21 C22 C23 X24 => ?_)
  rcases q21 with o26 | o27 | o28 | o29
  · obtain ⟨e30, f31, f32⟩ := o26
    subst e30
    subst f32
    show Go _ _ _ _ _ (mkF _ _ _ [.int 0])
    refine kIS X24 #[.val (.ref q0), .val (.int 0), .val (.int 3), .val (.ref a4), .val (.int 0), .unset] d16_12 rfl ?_
    refine kIL X24 d16_14 rfl ?_
    refine kILn X24 d16_16 rfl ?_
    refine kICf X24 d16_17 (XT.ii_eq_f (by decide)) ?_
    refine kALn X24 d16_20 rfl rfl ?_
    refine kILn X24 d16_21 rfl ?_
    refine kILn X24 d16_22 rfl ?_
    refine kSTAT X24 (gEL G) (argsL := [.ref q0, .int 0, .int 3]) (rest := []) (wd G 89 rfl) (wd G 90 rfl) (wd G 81 rfl) (wd G 91 rfl) (by decide) (rm87 G i0 i1 i2 q0 kp0 h2 X24.n f15 f14 c_0 c_3 c_1 c_5 c_2 c_7) all0 (lenOf pd___CII__B rfl) rfl 0 rfl (by decide) hml.symm d16_23 (fun v33 T34 h35 vm36 _ w37 q38 C39 C40 X41 => ?_)
    obtain ⟨a43, k44, e45, f46, f47, f48, f49⟩ := q38
    subst e45
    have n50 : q0 ≠ a43 := Nat.ne_of_lt (Nat.lt_of_lt_of_le (f14.lt) f47)
    have n51 : a4 ≠ a43 := Nat.ne_of_lt (Nat.lt_of_lt_of_le (f13.lt) f47)
    have g52 : n0 ≤ a43 := Nat.le_trans X24.n f47
    have g53 : h0.size ≤ a43 := Nat.le_trans X24.g0 f47
    show Go _ _ _ _ _ (mkF _ _ _ [.ref a43])
    refine kAS X41 #[.val (.ref q0), .val (.int 0), .val (.int 3), .val (.ref a4), .val (.int 0), .val (.ref a43)] d16_26 rfl rfl ?_
    refine kAL X41 d16_28 rfl rfl ?_
    refine kIL X41 d16_30 rfl ?_
    have f54 := (Old.keep f15 f46 all0)
    refine kSTAT X41 (gEL G) (argsL := [.ref a43, .int 0]) (rest := []) (wd G 105 rfl) (wd G 106 rfl) (wd G 81 rfl) (wd G 107 rfl) (by decide) (rm93 G i0 i1 i2 a43 k44 h35 X41.n f54 f48 c_0 c_3) all0 (lenOf pd___BI_C rfl) rfl 0 rfl (by decide) hml.symm d16_32 (fun v55 T56 h57 vm58 _ w59 q60 C61 C62 X63 => ?_)
    obtain ⟨e65, f66⟩ := q60
    subst e65
    subst f66
    show Go _ _ _ _ _ (mkF _ _ _ [.int i0])
    refine kSI X63 255 d16_35 (by decide) ?_
    refine kICt X63 54 d16_38 (XT.ii_gt_t f31) (by decide) ?_
    refine kAL X63 d16_54 rfl rfl ?_
    have K67 : Keep h0 h35 [] := (Keep.trans (Keep.ext (Keep.refl h0 []) E6) f46 all0)
    have f68 := (CHr.safe C62 (f48.lt) f49)
    exact kRETA X63 (gEL G) hret rfl rfl d16_56 (fun ve hve => Or.inl (⟨a43, k44, rfl, f31, K67, g53, f48, (CHr.safe hve (f48.lt) f68)⟩)) (by decide)
  · obtain ⟨e69, f70, f71, f72, f73⟩ := o27
    subst e69
    show Go _ _ _ _ _ (mkF _ _ _ [.int 1])
    refine kIS X24 #[.val (.ref q0), .val (.int 0), .val (.int 3), .val (.ref a4), .val (.int 1), .unset] d16_12 rfl ?_
    refine kIL X24 d16_14 rfl ?_
    refine kILn X24 d16_16 rfl ?_
    refine kICf X24 d16_17 (XT.ii_eq_f (by decide)) ?_
    refine kALn X24 d16_20 rfl rfl ?_
    refine kILn X24 d16_21 rfl ?_
    refine kILn X24 d16_22 rfl ?_
    have f74 := (Arv.keep f14 f72 (ninS n11 nin0))
    have f75 := (Old.keep f15 f72 (allS g8 all0))
    refine kSTAT X24 (gEL G) (argsL := [.ref q0, .int 0, .int 3]) (rest := []) (wd G 89 rfl) (wd G 90 rfl) (wd G 81 rfl) (wd G 91 rfl) (by decide) (rm87 G i0 i1 i2 q0 kp0 h18 X24.n f75 f74 c_0 c_3 c_1 c_5 c_2 c_7) all0 (lenOf pd___CII__B rfl) rfl 0 rfl (by decide) hml.symm d16_23 (fun v76 T77 h78 vm79 _ w80 q81 C82 C83 X84 => ?_)
    obtain ⟨a86, k87, e88, f89, f90, f91, f92⟩ := q81
    subst e88
    have n93 : q0 ≠ a86 := Nat.ne_of_lt (Nat.lt_of_lt_of_le (f74.lt) f90)
    have n94 : a4 ≠ a86 := Nat.ne_of_lt (Nat.lt_of_lt_of_le (f73.lt) f90)
    have g95 : n0 ≤ a86 := Nat.le_trans X24.n f90
    have g96 : h0.size ≤ a86 := Nat.le_trans X24.g0 f90
    show Go _ _ _ _ _ (mkF _ _ _ [.ref a86])
    refine kAS X84 #[.val (.ref q0), .val (.int 0), .val (.int 3), .val (.ref a4), .val (.int 1), .val (.ref a86)] d16_26 rfl rfl ?_
    refine kAL X84 d16_28 rfl rfl ?_
    refine kIL X84 d16_30 rfl ?_
    have f97 := (Old.keep f75 f89 all0)
    refine kSTAT X84 (gEL G) (argsL := [.ref a86, .int 1]) (rest := []) (wd G 105 rfl) (wd G 106 rfl) (wd G 81 rfl) (wd G 107 rfl) (by decide) (rm94 G i0 i1 i2 a86 k87 h78 X84.n f97 f91 c_1 c_5) all0 (lenOf pd___BI_C rfl) rfl 0 rfl (by decide) hml.symm d16_32 (fun v98 T99 h100 vm101 _ w102 q103 C104 C105 X106 => ?_)
    obtain ⟨e108, f109⟩ := q103
    subst e108
    subst f109
    show Go _ _ _ _ _ (mkF _ _ _ [.int i1])
    refine kSI X106 255 d16_35 (by decide) ?_
    refine kICt X106 54 d16_38 (XT.ii_gt_t f71) (by decide) ?_
    refine kAL X106 d16_54 rfl rfl ?_
    have K110 : Keep h0 h78 [] := (Keep.trans (Keep.trans (Keep.ext (Keep.refl h0 []) E6) f72 (allS (Or.inr g12) all0)) f89 all0)
    have f111 := (CHr.safe C105 (f91.lt) f92)
    exact kRETA X106 (gEL G) hret rfl rfl d16_56 (fun ve hve => Or.inr (Or.inl (⟨a86, k87, rfl, f70, f71, K110, g96, f91, (CHr.safe hve (f91.lt) f111)⟩))) (by decide)
  · obtain ⟨e112, f113, f114, f115, f116, f117⟩ := o28
    subst e112
    show Go _ _ _ _ _ (mkF _ _ _ [.int 2])
    refine kIS X24 #[.val (.ref q0), .val (.int 0), .val (.int 3), .val (.ref a4), .val (.int 2), .unset] d16_12 rfl ?_
    refine kIL X24 d16_14 rfl ?_
    refine kILn X24 d16_16 rfl ?_
    refine kICf X24 d16_17 (XT.ii_eq_f (by decide)) ?_
    refine kALn X24 d16_20 rfl rfl ?_
    refine kILn X24 d16_21 rfl ?_
    refine kILn X24 d16_22 rfl ?_
    have f118 := (Arv.keep f14 f116 (ninS n11 nin0))
    have f119 := (Old.keep f15 f116 (allS g8 all0))
    refine kSTAT X24 (gEL G) (argsL := [.ref q0, .int 0, .int 3]) (rest := []) (wd G 89 rfl) (wd G 90 rfl) (wd G 81 rfl) (wd G 91 rfl) (by decide) (rm87 G i0 i1 i2 q0 kp0 h18 X24.n f119 f118 c_0 c_3 c_1 c_5 c_2 c_7) all0 (lenOf pd___CII__B rfl) rfl 0 rfl (by decide) hml.symm d16_23 (fun v120 T121 h122 vm123 _ w124 q125 C126 C127 X128 => ?_)
    obtain ⟨a130, k131, e132, f133, f134, f135, f136⟩ := q125
    subst e132
    have n137 : q0 ≠ a130 := Nat.ne_of_lt (Nat.lt_of_lt_of_le (f118.lt) f134)
    have n138 : a4 ≠ a130 := Nat.ne_of_lt (Nat.lt_of_lt_of_le (f117.lt) f134)
    have g139 : n0 ≤ a130 := Nat.le_trans X24.n f134
    have g140 : h0.size ≤ a130 := Nat.le_trans X24.g0 f134
    show Go _ _ _ _ _ (mkF _ _ _ [.ref a130])
    refine kAS X128 #[.val (.ref q0), .val (.int 0), .val (.int 3), .val (.ref a4), .val (.int 2), .val (.ref a130)] d16_26 rfl rfl ?_
    refine kAL X128 d16_28 rfl rfl ?_
    refine kIL X128 d16_30 rfl ?_
    have f141 := (Old.keep f119 f133 all0)
    refine kSTAT X128 (gEL G) (argsL := [.ref a130, .int 2]) (rest := []) (wd G 105 rfl) (wd G 106 rfl) (wd G 81 rfl) (wd G 107 rfl) (by decide) (rm95 G i0 i1 i2 a130 k131 h122 X128.n f141 f135 c_2 c_7) all0 (lenOf pd___BI_C rfl) rfl 0 rfl (by decide) hml.symm d16_32 (fun v142 T143 h144 vm145 _ w146 q147 C148 C149 X150 => ?_)
    obtain ⟨e152, f153⟩ := q147
    subst e152
    subst f153
    show Go _ _ _ _ _ (mkF _ _ _ [.int i2])
    refine kSI X150 255 d16_35 (by decide) ?_
    refine kICt X150 54 d16_38 (XT.ii_gt_t f115) (by decide) ?_
    refine kAL X150 d16_54 rfl rfl ?_
    have K154 : Keep h0 h122 [] := (Keep.trans (Keep.trans (Keep.ext (Keep.refl h0 []) E6) f116 (allS (Or.inr g12) all0)) f133 all0)
    have f155 := (CHr.safe C149 (f135.lt) f136)
    exact kRETA X150 (gEL G) hret rfl rfl d16_56 (fun ve hve => Or.inr (Or.inr (Or.inl (⟨a130, k131, rfl, f113, f114, f115, K154, g140, f135, (CHr.safe hve (f135.lt) f155)⟩)))) (by decide)
  · obtain ⟨e156, f157, f158, f159, f160, f161⟩ := o29
    subst e156
    show Go _ _ _ _ _ (mkF _ _ _ [.int 3])
    refine kIS X24 #[.val (.ref q0), .val (.int 0), .val (.int 3), .val (.ref a4), .val (.int 3), .unset] d16_12 rfl ?_
    refine kIL X24 d16_14 rfl ?_
    refine kILn X24 d16_16 rfl ?_
    refine kICt X24 57 d16_17 (XT.ii_eq_t (by decide)) (by decide) ?_
    refine kALn X24 d16_57 rfl rfl ?_
    have K162 : Keep h0 h18 [] := (Keep.trans (Keep.ext (Keep.refl h0 []) E6) f160 (allS (Or.inr g12) all0))
    have f163 := (CHr.safe C23 (f13.lt) s10)
    exact kRETA X24 (gEL G) hret rfl rfl d16_58 (fun ve hve => Or.inr (Or.inr (Or.inr (⟨a4, k5, rfl, f157, f158, f159, K162, g12, f161, (CHr.safe hve (f161.lt) f163)⟩)))) (by decide)
def R_rm96 : Room := { frames := 0, cells := 0, slots := 0, locals := 0 }
theorem rm96 (G : Glob Z a0 iCS vSI) (i0 i1 i2 : Int32) (q0 : Addr) (kp0 : ClassId) (h0 : Heap) (Z0 : n0 ≤ h0.size) (O0 : Old Z n0 h0) (A_q0 : Arv Z h0 q0 kp0 .byte 6 [.int (ownB i0), .int (ownH i0), .int (ownB i1), .int (ownH i1), .int (ownB i2), .int (ownH i2)] (.int 0)) : MetH l Z EL0 n0 N_jdk_52_m_15 jdk_52_method_15_code 2 (some .byte) [] R_rm96 #[.ref q0, .int 3] h0 [] (fun vs v h ve => (v = some (.int 1) ∧ (h0 = h))) := by
  refine MetH.of #[.val (.ref q0), .val (.int 3)] (plainFor_of_name pn_java_lang_StringUTF16) rfl Z0 (fun p e s m below meth c T0 hret hml hnm hSL hs0 X0 => ?_)
  refine kILn X0 d18_0 rfl ?_
  refine kALn X0 d18_1 rfl rfl ?_
  refine kLEN X0 A_q0 d18_2 ?_
  refine kISUB X0 (-3) d18_3 (by decide) ?_
  refine kBI X0 31 d18_4 (by decide) ?_
  refine kIUSHR X0 1 d18_6 (by decide) ?_
  refine kI2B X0 (1 : Int32) d18_7 (by decide) ?_
  exact kRETZ X0 (gEL G) (t := .byte) hret (by simp) d18_8 (fun ve hve => ⟨rfl, rfl⟩) (by decide)
def R_rm97 : Room := { frames := 0, cells := 0, slots := 0, locals := 0 }
theorem rm97 (G : Glob Z a0 iCS vSI) (i0 i1 i2 : Int32) (q0 : Addr) (kp0 : ClassId) (h0 : Heap) (Z0 : n0 ≤ h0.size) (O0 : Old Z n0 h0) (A_q0 : Arv Z h0 q0 kp0 .byte 3 [.int (ownB i0), .int (ownB i1), .int (ownB i2)] (.int 0)) : MetH l Z EL0 n0 N_jdk_52_m_15 jdk_52_method_15_code 2 (some .byte) [] R_rm97 #[.ref q0, .int 3] h0 [] (fun vs v h ve => (v = some (.int 0) ∧ (h0 = h))) := by
  refine MetH.of #[.val (.ref q0), .val (.int 3)] (plainFor_of_name pn_java_lang_StringUTF16) rfl Z0 (fun p e s m below meth c T0 hret hml hnm hSL hs0 X0 => ?_)
  refine kILn X0 d18_0 rfl ?_
  refine kALn X0 d18_1 rfl rfl ?_
  refine kLEN X0 A_q0 d18_2 ?_
  refine kISUB X0 0 d18_3 (by decide) ?_
  refine kBI X0 31 d18_4 (by decide) ?_
  refine kIUSHR X0 0 d18_6 (by decide) ?_
  refine kI2B X0 (0 : Int32) d18_7 (by decide) ?_
  exact kRETZ X0 (gEL G) (t := .byte) hret (by simp) d18_8 (fun ve hve => ⟨rfl, rfl⟩) (by decide)
def R_rm84 : Room := { frames := 4, cells := 2, slots := 9, locals := 57 }
theorem rm84 (G : Glob Z a0 iCS vSI) (i0 i1 i2 : Int32) (q0 q1 : Addr) (kp0 : ClassId) (h0 : Heap) (Z0 : n0 ≤ h0.size) (O0 : Old Z n0 h0) (c_0 : ¬ (65535 : Int32) < i0) (c_3 : ¬ i0 < 0) (c_1 : ¬ (65535 : Int32) < i1) (c_5 : ¬ i1 < 0) (c_2 : ¬ (65535 : Int32) < i2) (c_7 : ¬ i2 < 0) (A_q1 : Arv Z h0 q1 kp0 .char 3 [.int i0, .int i1, .int i2] (.int 0)) (E_q0 : Exa Z h0 q0 "java/lang/String") (F_q0_coder : Fld Z h0 q0 "java/lang/String" "coder" "B" (.int 0)) (F_q0_value : Fld Z h0 q0 "java/lang/String" "value" "[B" (.null)) (g_q0 : n0 ≤ q0) : MetH l Z EL0 n0 N_jdk_42_m_149 jdk_42_method_149_code 6 none [] R_rm84 #[.ref q0, .ref q1, .int 0, .int 3, .null] h0 [q0] (fun vs v h ve => (∃ (x0 : Addr), ∃ (z0 : ClassId), v = none ∧ ((255 : Int32) < i0) ∧ (Keep h0 h [q0]) ∧ (h0.size ≤ x0) ∧ (Arv Z h x0 z0 .byte 6 [.int (ownB i0), .int (ownH i0), .int (ownB i1), .int (ownH i1), .int (ownB i2), .int (ownH i2)] (.int 0)) ∧ (Safe Z EL0 ve h x0) ∧ (Fld Z h q0 "java/lang/String" "coder" "B" (.int 1)) ∧ (Fld Z h q0 "java/lang/String" "value" "[B" (.ref x0))) ∨ (∃ (x0 : Addr), ∃ (z0 : ClassId), v = none ∧ (¬ (255 : Int32) < i0) ∧ ((255 : Int32) < i1) ∧ (Keep h0 h [q0]) ∧ (h0.size ≤ x0) ∧ (Arv Z h x0 z0 .byte 6 [.int (ownB i0), .int (ownH i0), .int (ownB i1), .int (ownH i1), .int (ownB i2), .int (ownH i2)] (.int 0)) ∧ (Safe Z EL0 ve h x0) ∧ (Fld Z h q0 "java/lang/String" "coder" "B" (.int 1)) ∧ (Fld Z h q0 "java/lang/String" "value" "[B" (.ref x0))) ∨ (∃ (x0 : Addr), ∃ (z0 : ClassId), v = none ∧ (¬ (255 : Int32) < i0) ∧ (¬ (255 : Int32) < i1) ∧ ((255 : Int32) < i2) ∧ (Keep h0 h [q0]) ∧ (h0.size ≤ x0) ∧ (Arv Z h x0 z0 .byte 6 [.int (ownB i0), .int (ownH i0), .int (ownB i1), .int (ownH i1), .int (ownB i2), .int (ownH i2)] (.int 0)) ∧ (Safe Z EL0 ve h x0) ∧ (Fld Z h q0 "java/lang/String" "coder" "B" (.int 1)) ∧ (Fld Z h q0 "java/lang/String" "value" "[B" (.ref x0))) ∨ (∃ (x0 : Addr), ∃ (z0 : ClassId), v = none ∧ (¬ (255 : Int32) < i0) ∧ (¬ (255 : Int32) < i1) ∧ (¬ (255 : Int32) < i2) ∧ (Keep h0 h [q0]) ∧ (h0.size ≤ x0) ∧ (Arv Z h x0 z0 .byte 3 [.int (ownB i0), .int (ownB i1), .int (ownB i2)] (.int 0)) ∧ (Safe Z EL0 ve h x0) ∧ (Fld Z h q0 "java/lang/String" "coder" "B" (.int 0)) ∧ (Fld Z h q0 "java/lang/String" "value" "[B" (.ref x0)))) := by
  refine MetH.of #[.val (.ref q0), .val (.ref q1), .val (.int 0), .val (.int 3), .val .null, .unset] (plainFor_of_name pn_java_lang_String) rfl Z0 (fun p e s m below meth c T0 hret hml hnm hSL hs0 X0 => ?_)
  have S_q0 := hSL q0 (List.mem_of_getElem? (i := 0) rfl)
  refine kALn X0 d2_0 rfl rfl ?_
  refine kINIT X0 (wd G 17 rfl) (wd G 18 rfl) (wd G 19 rfl) hml.symm d2_1 (by decide) 0 (Nat.le_of_eq rfl) (by decide) (fun T1 X2 => ?_)
  refine kILn X2 d2_4 rfl ?_
  refine kIFt X2 27 d2_5 (XT.i0_ne_t (by decide)) (by decide) ?_
  refine kGETS X2 (wd G 31 rfl) Via.refl (Sta.ext O0.2 (S_CS G)) d2_27 (fun T3 X4 => ?_)
  refine kIFf X4 d2_30 (XT.i0_eq_f (n_CS G)) ?_
  refine kALn X4 d2_33 rfl rfl ?_
  refine kILn X4 d2_34 rfl ?_
  refine kILn X4 d2_35 rfl ?_
  refine kSTAT X4 (gEL G) (argsL := [.ref q1, .int 0, .int 3]) (rest := []) (wd G 79 rfl) (wd G 80 rfl) (wd G 81 rfl) (wd G 82 rfl) (by decide) (rm85 G i0 i1 i2 q1 kp0 h0 X4.n O0 A_q1 c_0 c_3 c_1 c_5 c_2 c_7) all0 (lenOf pd___CII__B rfl) rfl 0 rfl (by decide) hml.symm d2_36 (fun v5 T6 h7 vm8 _ w9 q10 C11 C12 X13 => ?_)
  rcases q10 with o15 | o16 | o17 | o18
  · obtain ⟨a19, k20, e21, f22, f23, f24, f25, f26⟩ := o15
    subst e21
    have n27 : q0 ≠ a19 := Nat.ne_of_lt (Nat.lt_of_lt_of_le (E_q0.lt) f24)
    have n28 : q1 ≠ a19 := Nat.ne_of_lt (Nat.lt_of_lt_of_le (A_q1.lt) f24)
    have g29 : n0 ≤ a19 := Nat.le_trans X4.n f24
    have g30 : h0.size ≤ a19 := Nat.le_trans X4.g0 f24
    show Go _ _ _ _ _ (mkF _ _ _ [.ref a19])
    refine kAS X13 #[.val (.ref q0), .val (.ref q1), .val (.int 0), .val (.int 3), .val .null, .val (.ref a19)] d2_39 rfl rfl ?_
    refine kALn X13 d2_41 rfl rfl ?_
    refine kAL X13 d2_42 rfl rfl ?_
    refine kILn X13 d2_44 rfl ?_
    have f31 := (Old.keep O0 f23 all0)
    refine kSTAT X13 (gEL G) (argsL := [.ref a19, .int 3]) (rest := [.ref q0]) (wd G 86 rfl) (wd G 87 rfl) (wd G 81 rfl) (wd G 88 rfl) (by decide) (rm96 G i0 i1 i2 a19 k20 h7 X13.n f31 f25) all0 (lenOf pd___BI_B rfl) rfl 1 rfl (by decide) hml.symm d2_45 (fun v32 T33 h34 vm35 _ w36 q37 C38 C39 X40 => ?_)
    obtain ⟨e42, f43⟩ := q37
    subst e42
    subst f43
    show Go _ _ _ _ _ (mkF _ _ _ [.int 1, .ref q0])
    have f44 := (Fld.keep F_q0_coder f23 nin0)
    have f45 := (Exa.keep E_q0 f23)
    have f46 := (CHr.safe C39 ((Fld.keep F_q0_value f23 nin0)).lt (CHr.safe C12 (F_q0_value.lt) S_q0))
    refine kPUTF X40 (wd G 27 rfl) Via.refl f44 f45 (Or.inr ⟨(wd G 23 rfl), rfl, hnm⟩) (wd G 7 rfl) (ty := .byte) (by decide) (by decide) (by decide) g_q0 f46 d2_48 (fun T47 h48 L51 W50 X49 => ?_)
    have f52 := Fld.same W50 f44
    refine kALn X49 d2_51 rfl rfl ?_
    refine kAL X49 d2_52 rfl rfl ?_
    have f53 := (Fld.other W50 (Fld.keep F_q0_value f23 nin0) (Or.inr (slot_ne (Or.inr (wd G 22 rfl)) (Or.inr (wd G 23 rfl)) (by decide) (by decide : parseFieldDescriptor "[B" = some (.array (.byte))) (by decide : parseFieldDescriptor "B" = some .byte))))
    have f54 := (Exa.wr W50 f45)
    have f55 := (Safe.wr W50 f46 X40.C.1 f46)
    refine kPUTF X49 (wd G 26 rfl) Via.refl f53 f54 (Or.inr ⟨(wd G 22 rfl), rfl, hnm⟩) (wd G 7 rfl) (ty := (.array (.byte))) (by decide) rfl rfl g_q0 f55 d2_54 (fun T56 h57 L60 W59 X58 => ?_)
    have f61 := Fld.same W59 f53
    have K62 : Keep h0 h57 [q0] := (Keep.wr (Keep.wr (Keep.trans (Keep.refl h0 [q0]) f23 all0) W50 (Or.inl (List.mem_of_getElem? (i := 0) rfl))) W59 (Or.inl (List.mem_of_getElem? (i := 0) rfl)))
    have f63 := (Arv.other (Arv.other f25 W50 (Ne.symm n27)) W59 (Ne.symm n27))
    have f64 := (Safe.wr W59 f55 X49.C.1 (Safe.wr W50 f46 X40.C.1 (CHr.safe C39 (f25.lt) f26)))
    have f65 := (Fld.other W59 f52 (Or.inr (slot_ne (Or.inr (wd G 23 rfl)) (Or.inr (wd G 22 rfl)) (by decide) (by decide : parseFieldDescriptor "B" = some .byte) (by decide : parseFieldDescriptor "[B" = some (.array (.byte))))))
    exact kRETV X58 (gEL G) hret d2_57 (fun ve hve => Or.inl (⟨a19, k20, rfl, f22, K62, g30, f63, (CHr.safe hve (f63.lt) f64), f65, f61⟩)) (by decide)
  · obtain ⟨a66, k67, e68, f69, f70, f71, f72, f73, f74⟩ := o16
    subst e68
    have n75 : q0 ≠ a66 := Nat.ne_of_lt (Nat.lt_of_lt_of_le (E_q0.lt) f72)
    have n76 : q1 ≠ a66 := Nat.ne_of_lt (Nat.lt_of_lt_of_le (A_q1.lt) f72)
    have g77 : n0 ≤ a66 := Nat.le_trans X4.n f72
    have g78 : h0.size ≤ a66 := Nat.le_trans X4.g0 f72
    show Go _ _ _ _ _ (mkF _ _ _ [.ref a66])
    refine kAS X13 #[.val (.ref q0), .val (.ref q1), .val (.int 0), .val (.int 3), .val .null, .val (.ref a66)] d2_39 rfl rfl ?_
    refine kALn X13 d2_41 rfl rfl ?_
    refine kAL X13 d2_42 rfl rfl ?_
    refine kILn X13 d2_44 rfl ?_
    have f79 := (Old.keep O0 f71 all0)
    refine kSTAT X13 (gEL G) (argsL := [.ref a66, .int 3]) (rest := [.ref q0]) (wd G 86 rfl) (wd G 87 rfl) (wd G 81 rfl) (wd G 88 rfl) (by decide) (rm96 G i0 i1 i2 a66 k67 h7 X13.n f79 f73) all0 (lenOf pd___BI_B rfl) rfl 1 rfl (by decide) hml.symm d2_45 (fun v80 T81 h82 vm83 _ w84 q85 C86 C87 X88 => ?_)
    obtain ⟨e90, f91⟩ := q85
    subst e90
    subst f91
    show Go _ _ _ _ _ (mkF _ _ _ [.int 1, .ref q0])
    have f92 := (Fld.keep F_q0_coder f71 nin0)
    have f93 := (Exa.keep E_q0 f71)
    have f94 := (CHr.safe C87 ((Fld.keep F_q0_value f71 nin0)).lt (CHr.safe C12 (F_q0_value.lt) S_q0))
    refine kPUTF X88 (wd G 27 rfl) Via.refl f92 f93 (Or.inr ⟨(wd G 23 rfl), rfl, hnm⟩) (wd G 7 rfl) (ty := .byte) (by decide) (by decide) (by decide) g_q0 f94 d2_48 (fun T95 h96 L99 W98 X97 => ?_)
    have f100 := Fld.same W98 f92
    refine kALn X97 d2_51 rfl rfl ?_
    refine kAL X97 d2_52 rfl rfl ?_
    have f101 := (Fld.other W98 (Fld.keep F_q0_value f71 nin0) (Or.inr (slot_ne (Or.inr (wd G 22 rfl)) (Or.inr (wd G 23 rfl)) (by decide) (by decide : parseFieldDescriptor "[B" = some (.array (.byte))) (by decide : parseFieldDescriptor "B" = some .byte))))
    have f102 := (Exa.wr W98 f93)
    have f103 := (Safe.wr W98 f94 X88.C.1 f94)
    refine kPUTF X97 (wd G 26 rfl) Via.refl f101 f102 (Or.inr ⟨(wd G 22 rfl), rfl, hnm⟩) (wd G 7 rfl) (ty := (.array (.byte))) (by decide) rfl rfl g_q0 f103 d2_54 (fun T104 h105 L108 W107 X106 => ?_)
    have f109 := Fld.same W107 f101
    have K110 : Keep h0 h105 [q0] := (Keep.wr (Keep.wr (Keep.trans (Keep.refl h0 [q0]) f71 all0) W98 (Or.inl (List.mem_of_getElem? (i := 0) rfl))) W107 (Or.inl (List.mem_of_getElem? (i := 0) rfl)))
    have f111 := (Arv.other (Arv.other f73 W98 (Ne.symm n75)) W107 (Ne.symm n75))
    have f112 := (Safe.wr W107 f103 X97.C.1 (Safe.wr W98 f94 X88.C.1 (CHr.safe C87 (f73.lt) f74)))
    have f113 := (Fld.other W107 f100 (Or.inr (slot_ne (Or.inr (wd G 23 rfl)) (Or.inr (wd G 22 rfl)) (by decide) (by decide : parseFieldDescriptor "B" = some .byte) (by decide : parseFieldDescriptor "[B" = some (.array (.byte))))))
    exact kRETV X106 (gEL G) hret d2_57 (fun ve hve => Or.inr (Or.inl (⟨a66, k67, rfl, f69, f70, K110, g78, f111, (CHr.safe hve (f111.lt) f112), f113, f109⟩))) (by decide)
  · obtain ⟨a114, k115, e116, f117, f118, f119, f120, f121, f122, f123⟩ := o17
    subst e116
    have n124 : q0 ≠ a114 := Nat.ne_of_lt (Nat.lt_of_lt_of_le (E_q0.lt) f121)
    have n125 : q1 ≠ a114 := Nat.ne_of_lt (Nat.lt_of_lt_of_le (A_q1.lt) f121)
    have g126 : n0 ≤ a114 := Nat.le_trans X4.n f121
    have g127 : h0.size ≤ a114 := Nat.le_trans X4.g0 f121
    show Go _ _ _ _ _ (mkF _ _ _ [.ref a114])
    refine kAS X13 #[.val (.ref q0), .val (.ref q1), .val (.int 0), .val (.int 3), .val .null, .val (.ref a114)] d2_39 rfl rfl ?_
    refine kALn X13 d2_41 rfl rfl ?_
    refine kAL X13 d2_42 rfl rfl ?_
    refine kILn X13 d2_44 rfl ?_
    have f128 := (Old.keep O0 f120 all0)
    refine kSTAT X13 (gEL G) (argsL := [.ref a114, .int 3]) (rest := [.ref q0]) (wd G 86 rfl) (wd G 87 rfl) (wd G 81 rfl) (wd G 88 rfl) (by decide) (rm96 G i0 i1 i2 a114 k115 h7 X13.n f128 f122) all0 (lenOf pd___BI_B rfl) rfl 1 rfl (by decide) hml.symm d2_45 (fun v129 T130 h131 vm132 _ w133 q134 C135 C136 X137 => ?_)
    obtain ⟨e139, f140⟩ := q134
    subst e139
    subst f140
    show Go _ _ _ _ _ (mkF _ _ _ [.int 1, .ref q0])
    have f141 := (Fld.keep F_q0_coder f120 nin0)
    have f142 := (Exa.keep E_q0 f120)
    have f143 := (CHr.safe C136 ((Fld.keep F_q0_value f120 nin0)).lt (CHr.safe C12 (F_q0_value.lt) S_q0))
    refine kPUTF X137 (wd G 27 rfl) Via.refl f141 f142 (Or.inr ⟨(wd G 23 rfl), rfl, hnm⟩) (wd G 7 rfl) (ty := .byte) (by decide) (by decide) (by decide) g_q0 f143 d2_48 (fun T144 h145 L148 W147 X146 => ?_)
    have f149 := Fld.same W147 f141
    refine kALn X146 d2_51 rfl rfl ?_
    refine kAL X146 d2_52 rfl rfl ?_
    have f150 := (Fld.other W147 (Fld.keep F_q0_value f120 nin0) (Or.inr (slot_ne (Or.inr (wd G 22 rfl)) (Or.inr (wd G 23 rfl)) (by decide) (by decide : parseFieldDescriptor "[B" = some (.array (.byte))) (by decide : parseFieldDescriptor "B" = some .byte))))
    have f151 := (Exa.wr W147 f142)
    have f152 := (Safe.wr W147 f143 X137.C.1 f143)
    refine kPUTF X146 (wd G 26 rfl) Via.refl f150 f151 (Or.inr ⟨(wd G 22 rfl), rfl, hnm⟩) (wd G 7 rfl) (ty := (.array (.byte))) (by decide) rfl rfl g_q0 f152 d2_54 (fun T153 h154 L157 W156 X155 => ?_)
    have f158 := Fld.same W156 f150
    have K159 : Keep h0 h154 [q0] := (Keep.wr (Keep.wr (Keep.trans (Keep.refl h0 [q0]) f120 all0) W147 (Or.inl (List.mem_of_getElem? (i := 0) rfl))) W156 (Or.inl (List.mem_of_getElem? (i := 0) rfl)))
    have f160 := (Arv.other (Arv.other f122 W147 (Ne.symm n124)) W156 (Ne.symm n124))
    have f161 := (Safe.wr W156 f152 X146.C.1 (Safe.wr W147 f143 X137.C.1 (CHr.safe C136 (f122.lt) f123)))
    have f162 := (Fld.other W156 f149 (Or.inr (slot_ne (Or.inr (wd G 23 rfl)) (Or.inr (wd G 22 rfl)) (by decide) (by decide : parseFieldDescriptor "B" = some .byte) (by decide : parseFieldDescriptor "[B" = some (.array (.byte))))))
    exact kRETV X155 (gEL G) hret d2_57 (fun ve hve => Or.inr (Or.inr (Or.inl (⟨a114, k115, rfl, f117, f118, f119, K159, g127, f160, (CHr.safe hve (f160.lt) f161), f162, f158⟩)))) (by decide)
  · obtain ⟨a163, k164, e165, f166, f167, f168, f169, f170, f171, f172⟩ := o18
    subst e165
    have n173 : q0 ≠ a163 := Nat.ne_of_lt (Nat.lt_of_lt_of_le (E_q0.lt) f170)
    have n174 : q1 ≠ a163 := Nat.ne_of_lt (Nat.lt_of_lt_of_le (A_q1.lt) f170)
    have g175 : n0 ≤ a163 := Nat.le_trans X4.n f170
    have g176 : h0.size ≤ a163 := Nat.le_trans X4.g0 f170
    show Go _ _ _ _ _ (mkF _ _ _ [.ref a163])
    refine kAS X13 #[.val (.ref q0), .val (.ref q1), .val (.int 0), .val (.int 3), .val .null, .val (.ref a163)] d2_39 rfl rfl ?_
    refine kALn X13 d2_41 rfl rfl ?_
    refine kAL X13 d2_42 rfl rfl ?_
    refine kILn X13 d2_44 rfl ?_
    have f177 := (Old.keep O0 f169 all0)
    refine kSTAT X13 (gEL G) (argsL := [.ref a163, .int 3]) (rest := [.ref q0]) (wd G 86 rfl) (wd G 87 rfl) (wd G 81 rfl) (wd G 88 rfl) (by decide) (rm97 G i0 i1 i2 a163 k164 h7 X13.n f177 f171) all0 (lenOf pd___BI_B rfl) rfl 1 rfl (by decide) hml.symm d2_45 (fun v178 T179 h180 vm181 _ w182 q183 C184 C185 X186 => ?_)
    obtain ⟨e188, f189⟩ := q183
    subst e188
    subst f189
    show Go _ _ _ _ _ (mkF _ _ _ [.int 0, .ref q0])
    have f190 := (Fld.keep F_q0_coder f169 nin0)
    have f191 := (Exa.keep E_q0 f169)
    have f192 := (CHr.safe C185 ((Fld.keep F_q0_value f169 nin0)).lt (CHr.safe C12 (F_q0_value.lt) S_q0))
    refine kPUTF X186 (wd G 27 rfl) Via.refl f190 f191 (Or.inr ⟨(wd G 23 rfl), rfl, hnm⟩) (wd G 7 rfl) (ty := .byte) (by decide) (by decide) (by decide) g_q0 f192 d2_48 (fun T193 h194 L197 W196 X195 => ?_)
    have f198 := Fld.same W196 f190
    refine kALn X195 d2_51 rfl rfl ?_
    refine kAL X195 d2_52 rfl rfl ?_
    have f199 := (Fld.other W196 (Fld.keep F_q0_value f169 nin0) (Or.inr (slot_ne (Or.inr (wd G 22 rfl)) (Or.inr (wd G 23 rfl)) (by decide) (by decide : parseFieldDescriptor "[B" = some (.array (.byte))) (by decide : parseFieldDescriptor "B" = some .byte))))
    have f200 := (Exa.wr W196 f191)
    have f201 := (Safe.wr W196 f192 X186.C.1 f192)
    refine kPUTF X195 (wd G 26 rfl) Via.refl f199 f200 (Or.inr ⟨(wd G 22 rfl), rfl, hnm⟩) (wd G 7 rfl) (ty := (.array (.byte))) (by decide) rfl rfl g_q0 f201 d2_54 (fun T202 h203 L206 W205 X204 => ?_)
    have f207 := Fld.same W205 f199
    have K208 : Keep h0 h203 [q0] := (Keep.wr (Keep.wr (Keep.trans (Keep.refl h0 [q0]) f169 all0) W196 (Or.inl (List.mem_of_getElem? (i := 0) rfl))) W205 (Or.inl (List.mem_of_getElem? (i := 0) rfl)))
    have f209 := (Arv.other (Arv.other f171 W196 (Ne.symm n173)) W205 (Ne.symm n173))
    have f210 := (Safe.wr W205 f201 X195.C.1 (Safe.wr W196 f192 X186.C.1 (CHr.safe C185 (f171.lt) f172)))
    have f211 := (Fld.other W205 f198 (Or.inr (slot_ne (Or.inr (wd G 23 rfl)) (Or.inr (wd G 22 rfl)) (by decide) (by decide : parseFieldDescriptor "B" = some .byte) (by decide : parseFieldDescriptor "[B" = some (.array (.byte))))))
    exact kRETV X204 (gEL G) hret d2_57 (fun ve hve => Or.inr (Or.inr (Or.inr (⟨a163, k164, rfl, f166, f167, f168, K208, g176, f209, (CHr.safe hve (f209.lt) f210), f211, f207⟩)))) (by decide)
def R_rm83 : Room := { frames := 5, cells := 2, slots := 9, locals := 74 }
theorem rm83 (G : Glob Z a0 iCS vSI) (i0 i1 i2 : Int32) (q0 q1 : Addr) (kp0 : ClassId) (h0 : Heap) (Z0 : n0 ≤ h0.size) (O0 : Old Z n0 h0) (A_q1 : Arv Z h0 q1 kp0 .char 3 [.int i0, .int i1, .int i2] (.int 0)) (c_0 : ¬ (65535 : Int32) < i0) (c_3 : ¬ i0 < 0) (c_1 : ¬ (65535 : Int32) < i1) (c_5 : ¬ i1 < 0) (c_2 : ¬ (65535 : Int32) < i2) (c_7 : ¬ i2 < 0) (E_q0 : Exa Z h0 q0 "java/lang/String") (F_q0_coder : Fld Z h0 q0 "java/lang/String" "coder" "B" (.int 0)) (F_q0_value : Fld Z h0 q0 "java/lang/String" "value" "[B" (.null)) (g_q0 : n0 ≤ q0) : MetH l Z EL0 n0 N_jdk_42_m_3 jdk_42_method_3_code 2 none [] R_rm83 #[.ref q0, .ref q1] h0 [q0] (fun vs v h ve => (∃ (x0 : Addr), ∃ (z0 : ClassId), v = none ∧ ((255 : Int32) < i0) ∧ (Keep h0 h [q0]) ∧ (h0.size ≤ x0) ∧ (Arv Z h x0 z0 .byte 6 [.int (ownB i0), .int (ownH i0), .int (ownB i1), .int (ownH i1), .int (ownB i2), .int (ownH i2)] (.int 0)) ∧ (Safe Z EL0 ve h x0) ∧ (Fld Z h q0 "java/lang/String" "coder" "B" (.int 1)) ∧ (Fld Z h q0 "java/lang/String" "value" "[B" (.ref x0))) ∨ (∃ (x0 : Addr), ∃ (z0 : ClassId), v = none ∧ (¬ (255 : Int32) < i0) ∧ ((255 : Int32) < i1) ∧ (Keep h0 h [q0]) ∧ (h0.size ≤ x0) ∧ (Arv Z h x0 z0 .byte 6 [.int (ownB i0), .int (ownH i0), .int (ownB i1), .int (ownH i1), .int (ownB i2), .int (ownH i2)] (.int 0)) ∧ (Safe Z EL0 ve h x0) ∧ (Fld Z h q0 "java/lang/String" "coder" "B" (.int 1)) ∧ (Fld Z h q0 "java/lang/String" "value" "[B" (.ref x0))) ∨ (∃ (x0 : Addr), ∃ (z0 : ClassId), v = none ∧ (¬ (255 : Int32) < i0) ∧ (¬ (255 : Int32) < i1) ∧ ((255 : Int32) < i2) ∧ (Keep h0 h [q0]) ∧ (h0.size ≤ x0) ∧ (Arv Z h x0 z0 .byte 6 [.int (ownB i0), .int (ownH i0), .int (ownB i1), .int (ownH i1), .int (ownB i2), .int (ownH i2)] (.int 0)) ∧ (Safe Z EL0 ve h x0) ∧ (Fld Z h q0 "java/lang/String" "coder" "B" (.int 1)) ∧ (Fld Z h q0 "java/lang/String" "value" "[B" (.ref x0))) ∨ (∃ (x0 : Addr), ∃ (z0 : ClassId), v = none ∧ (¬ (255 : Int32) < i0) ∧ (¬ (255 : Int32) < i1) ∧ (¬ (255 : Int32) < i2) ∧ (Keep h0 h [q0]) ∧ (h0.size ≤ x0) ∧ (Arv Z h x0 z0 .byte 3 [.int (ownB i0), .int (ownB i1), .int (ownB i2)] (.int 0)) ∧ (Safe Z EL0 ve h x0) ∧ (Fld Z h q0 "java/lang/String" "coder" "B" (.int 0)) ∧ (Fld Z h q0 "java/lang/String" "value" "[B" (.ref x0)))) := by
  refine MetH.of #[.val (.ref q0), .val (.ref q1)] (plainFor_of_name pn_java_lang_String) rfl Z0 (fun p e s m below meth c T0 hret hml hnm hSL hs0 X0 => ?_)
  have S_q0 := hSL q0 (List.mem_of_getElem? (i := 0) rfl)
  refine kALn X0 d1_0 rfl rfl ?_
  refine kALn X0 d1_1 rfl rfl ?_
  refine kIC X0 0 d1_2 (by decide) ?_
  refine kALn X0 d1_3 rfl rfl ?_
  refine kLEN X0 A_q1 d1_4 ?_
  refine kNULL X0 d1_5 ?_
  refine kSPEC X0 (gEL G) (argsL := [.ref q1, .int 0, .int 3, .null]) (rest := []) (wd G 13 rfl) (wd G 14 rfl) (wd G 8 rfl) (wd G 16 rfl) rfl (by decide) (rm84 G i0 i1 i2 q0 q1 kp0 h0 X0.n O0 c_0 c_3 c_1 c_5 c_2 c_7 A_q1 E_q0 F_q0_coder F_q0_value g_q0) (allS ⟨(E_q0.lt), S_q0⟩ all0) (lenOf pd___CIILjava_lang_Void__V rfl) rfl 0 rfl (by decide) hml.symm d1_6 (fun v1 T2 h3 vm4 _ w5 q6 C7 C8 X9 => ?_)
  rcases q6 with o11 | o12 | o13 | o14
  · obtain ⟨a15, k16, e17, f18, f19, f20, f21, f22, f23, f24⟩ := o11
    subst e17
    have n25 : q0 ≠ a15 := Nat.ne_of_lt (Nat.lt_of_lt_of_le (E_q0.lt) f20)
    have n26 : q1 ≠ a15 := Nat.ne_of_lt (Nat.lt_of_lt_of_le (A_q1.lt) f20)
    have g27 : n0 ≤ a15 := Nat.le_trans X0.n f20
    have g28 : h0.size ≤ a15 := Nat.le_trans X0.g0 f20
    show Go _ _ _ _ _ (mkF _ _ _ [])
    have K29 : Keep h0 h3 [q0] := (Keep.trans (Keep.refl h0 [q0]) f19 (allS (Or.inl (List.mem_of_getElem? (i := 0) rfl)) all0))
    exact kRETV X9 (gEL G) hret d1_9 (fun ve hve => Or.inl (⟨a15, k16, rfl, f18, K29, g28, f21, (CHr.safe hve (f21.lt) f22), f23, f24⟩)) (by decide)
  · obtain ⟨a30, k31, e32, f33, f34, f35, f36, f37, f38, f39, f40⟩ := o12
    subst e32
    have n41 : q0 ≠ a30 := Nat.ne_of_lt (Nat.lt_of_lt_of_le (E_q0.lt) f36)
    have n42 : q1 ≠ a30 := Nat.ne_of_lt (Nat.lt_of_lt_of_le (A_q1.lt) f36)
    have g43 : n0 ≤ a30 := Nat.le_trans X0.n f36
    have g44 : h0.size ≤ a30 := Nat.le_trans X0.g0 f36
    show Go _ _ _ _ _ (mkF _ _ _ [])
    have K45 : Keep h0 h3 [q0] := (Keep.trans (Keep.refl h0 [q0]) f35 (allS (Or.inl (List.mem_of_getElem? (i := 0) rfl)) all0))
    exact kRETV X9 (gEL G) hret d1_9 (fun ve hve => Or.inr (Or.inl (⟨a30, k31, rfl, f33, f34, K45, g44, f37, (CHr.safe hve (f37.lt) f38), f39, f40⟩))) (by decide)
  · obtain ⟨a46, k47, e48, f49, f50, f51, f52, f53, f54, f55, f56, f57⟩ := o13
    subst e48
    have n58 : q0 ≠ a46 := Nat.ne_of_lt (Nat.lt_of_lt_of_le (E_q0.lt) f53)
    have n59 : q1 ≠ a46 := Nat.ne_of_lt (Nat.lt_of_lt_of_le (A_q1.lt) f53)
    have g60 : n0 ≤ a46 := Nat.le_trans X0.n f53
    have g61 : h0.size ≤ a46 := Nat.le_trans X0.g0 f53
    show Go _ _ _ _ _ (mkF _ _ _ [])
    have K62 : Keep h0 h3 [q0] := (Keep.trans (Keep.refl h0 [q0]) f52 (allS (Or.inl (List.mem_of_getElem? (i := 0) rfl)) all0))
    exact kRETV X9 (gEL G) hret d1_9 (fun ve hve => Or.inr (Or.inr (Or.inl (⟨a46, k47, rfl, f49, f50, f51, K62, g61, f54, (CHr.safe hve (f54.lt) f55), f56, f57⟩)))) (by decide)
  · obtain ⟨a63, k64, e65, f66, f67, f68, f69, f70, f71, f72, f73, f74⟩ := o14
    subst e65
    have n75 : q0 ≠ a63 := Nat.ne_of_lt (Nat.lt_of_lt_of_le (E_q0.lt) f70)
    have n76 : q1 ≠ a63 := Nat.ne_of_lt (Nat.lt_of_lt_of_le (A_q1.lt) f70)
    have g77 : n0 ≤ a63 := Nat.le_trans X0.n f70
    have g78 : h0.size ≤ a63 := Nat.le_trans X0.g0 f70
    show Go _ _ _ _ _ (mkF _ _ _ [])
    have K79 : Keep h0 h3 [q0] := (Keep.trans (Keep.refl h0 [q0]) f69 (allS (Or.inl (List.mem_of_getElem? (i := 0) rfl)) all0))
    exact kRETV X9 (gEL G) hret d1_9 (fun ve hve => Or.inr (Or.inr (Or.inr (⟨a63, k64, rfl, f66, f67, f68, K79, g78, f71, (CHr.safe hve (f71.lt) f72), f73, f74⟩)))) (by decide)
def R_rm101 : Room := { frames := 0, cells := 0, slots := 0, locals := 0 }
theorem rm101 (G : Glob Z a0 iCS vSI) (i0 i1 i2 : Int32) (q0 q1 : Addr) (kp0 : ClassId) (h0 : Heap) (Z0 : n0 ≤ h0.size) (O0 : Old Z n0 h0) (F_q0_coder : Fld Z h0 q0 "java/lang/String" "coder" "B" (.int 1)) : MetH l Z EL0 n0 N_jdk_42_m_154 jdk_42_method_154_code 1 (some .boolean) [] R_rm101 #[.ref q0] h0 [] (fun vs v h ve => (v = some (.int 0) ∧ (h0 = h))) := by
  refine MetH.of #[.val (.ref q0)] (plainFor_of_name pn_java_lang_String) rfl Z0 (fun p e s m below meth c T0 hret hml hnm hSL hs0 X0 => ?_)
  refine kGETS X0 (wd G 31 rfl) Via.refl (Sta.ext O0.2 (S_CS G)) d11_0 (fun T1 X2 => ?_)
  refine kIFf X2 d11_3 (XT.i0_eq_f (n_CS G)) ?_
  refine kALn X2 d11_6 rfl rfl ?_
  refine kGETF X2 (wd G 27 rfl) Via.refl F_q0_coder d11_7 (fun T3 X4 => ?_)
  refine kIFt X4 17 d11_10 (XT.i0_ne_t (by decide)) (by decide) ?_
  refine kIC X4 0 d11_17 (by decide) ?_
  exact kRETZ X4 (gEL G) (t := .boolean) hret (by simp) d11_18 (fun ve hve => ⟨rfl, rfl⟩) (by decide)
def R_rm103 : Room := { frames := 0, cells := 0, slots := 0, locals := 0 }
theorem rm103 (G : Glob Z a0 iCS vSI) (i0 i1 i2 : Int32) (q0 q1 : Addr) (kp0 : ClassId) (h0 : Heap) (Z0 : n0 ≤ h0.size) (O0 : Old Z n0 h0) (F_q0_coder : Fld Z h0 q0 "java/lang/String" "coder" "B" (.int 1)) : MetH l Z EL0 n0 N_jdk_42_m_152 jdk_42_method_152_code 1 (some .byte) [] R_rm103 #[.ref q0] h0 [] (fun vs v h ve => (v = some (.int 1) ∧ (h0 = h))) := by
  refine MetH.of #[.val (.ref q0)] (plainFor_of_name pn_java_lang_String) rfl Z0 (fun p e s m below meth c T0 hret hml hnm hSL hs0 X0 => ?_)
  refine kGETS X0 (wd G 31 rfl) Via.refl (Sta.ext O0.2 (S_CS G)) d13_0 (fun T1 X2 => ?_)
  refine kIFf X2 d13_3 (XT.i0_eq_f (n_CS G)) ?_
  refine kALn X2 d13_6 rfl rfl ?_
  refine kGETF X2 (wd G 27 rfl) Via.refl F_q0_coder d13_7 (fun T3 X4 => ?_)
  refine kGOTO X4 14 d13_10 (by decide) ?_
  exact kRETZ X4 (gEL G) (t := .byte) hret (by simp) d13_14 (fun ve hve => ⟨rfl, rfl⟩) (by decide)
def R_rm102 : Room := { frames := 1, cells := 0, slots := 0, locals := 13 }
theorem rm102 (G : Glob Z a0 iCS vSI) (i0 i1 i2 : Int32) (q0 q1 : Addr) (kp0 : ClassId) (h0 : Heap) (Z0 : n0 ≤ h0.size) (O0 : Old Z n0 h0) (F_q0_value : Fld Z h0 q0 "java/lang/String" "value" "[B" (.ref q1)) (A_q1 : Arv Z h0 q1 kp0 .byte 6 [.int (ownB i0), .int (ownH i0), .int (ownB i1), .int (ownH i1), .int (ownB i2), .int (ownH i2)] (.int 0)) (c_1 : ¬ (65535 : Int32) < i0) (c_4 : ¬ i0 < 0) (c_2 : ¬ (65535 : Int32) < i1) (c_6 : ¬ i1 < 0) (c_3 : ¬ (65535 : Int32) < i2) (c_8 : ¬ i2 < 0) (F_q0_coder : Fld Z h0 q0 "java/lang/String" "coder" "B" (.int 1)) (E_q0 : Exa Z h0 q0 "java/lang/String") : MetH l Z EL0 n0 N_jdk_42_m_54 jdk_42_method_54_code 1 (some .int) [] R_rm102 #[.ref q0] h0 [] (fun vs v h ve => (v = some (.int 3) ∧ (h0 = h))) := by
  refine MetH.of #[.val (.ref q0)] (plainFor_of_name pn_java_lang_String) rfl Z0 (fun p e s m below meth c T0 hret hml hnm hSL hs0 X0 => ?_)
  refine kALn X0 d12_0 rfl rfl ?_
  refine kGETF X0 (wd G 26 rfl) Via.refl F_q0_value d12_1 (fun T1 X2 => ?_)
  refine kLEN X2 A_q1 d12_4 ?_
  refine kALn X2 d12_5 rfl rfl ?_
  refine kVIRT X2 (gEL G) (argsL := []) (rest := [.int 6]) (wd G 68 rfl) (wd G 69 rfl) (own_nf X2.hZ (own_noinst (wd G 7 rfl))) (wd G 71 rfl) (wd G 70 rfl) (wd G 8 rfl) (wd G 72 rfl) (by decide) E_q0 (rm103 G i0 i1 i2 q0 q1 kp0 h0 X2.n O0 F_q0_coder) all0 (lenOf pd___B rfl) rfl 1 rfl (by decide) hml.symm d12_6 (fun v3 T4 h5 vm6 _ w7 q8 C9 C10 X11 => ?_)
  obtain ⟨e13, f14⟩ := q8
  subst e13
  subst f14
  show Go _ _ _ _ _ (mkF _ _ _ [.int 1, .int 6])
  refine kISHR X11 3 d12_9 (by decide) ?_
  exact kRETI X11 (gEL G) hret d12_10 (fun ve hve => ⟨rfl, rfl⟩) (by decide)
def R_rm105 : Room := { frames := 0, cells := 0, slots := 0, locals := 0 }
theorem rm105 (G : Glob Z a0 iCS vSI)  (h0 : Heap) (Z0 : n0 ≤ h0.size) (O0 : Old Z n0 h0)  : MetH l Z EL0 n0 N_jdk_29_m_69 jdk_29_method_69_code 2 (some .int) [] R_rm105 #[.int 3, .int 3] h0 [] (fun vs v h ve => (v = some (.int 3) ∧ (h0 = h))) := by
  refine MetH.of #[.val (.int 3), .val (.int 3)] pf_java_lang_Math_min rfl Z0 (fun p e s m below meth c T0 hret hml hnm hSL hs0 X0 => ?_)
  refine kILn X0 d26_0 rfl ?_
  refine kILn X0 d26_1 rfl ?_
  refine kICf X0 d26_2 (XT.ii_gt_f (by decide)) ?_
  refine kILn X0 d26_5 rfl ?_
  refine kGOTO X0 10 d26_6 (by decide) ?_
  exact kRETI X0 (gEL G) hret d26_10 (fun ve hve => ⟨rfl, rfl⟩) (by decide)
def R_rm108 : Room := { frames := 0, cells := 0, slots := 0, locals := 0 }
theorem rm108 (G : Glob Z a0 iCS vSI) (i0 i1 i2 : Int32) (q0 : Addr) (kp0 : ClassId) (h0 : Heap) (Z0 : n0 ≤ h0.size) (O0 : Old Z n0 h0) (A_q0 : Arv Z h0 q0 kp0 .byte 6 [.int (ownB i0), .int (ownH i0), .int (ownB i1), .int (ownH i1), .int (ownB i2), .int (ownH i2)] (.int 0)) : MetH l Z EL0 n0 N_jdk_52_m_6 jdk_52_method_6_code 1 (some .int) [] R_rm108 #[.ref q0] h0 [] (fun vs v h ve => (v = some (.int 3) ∧ (h0 = h))) := by
  refine MetH.of #[.val (.ref q0)] (plainFor_of_name pn_java_lang_StringUTF16) rfl Z0 (fun p e s m below meth c T0 hret hml hnm hSL hs0 X0 => ?_)
  refine kALn X0 d29_0 rfl rfl ?_
  refine kLEN X0 A_q0 d29_1 ?_
  refine kIC X0 1 d29_2 (by decide) ?_
  refine kISHR X0 3 d29_3 (by decide) ?_
  exact kRETI X0 (gEL G) hret d29_4 (fun ve hve => ⟨rfl, rfl⟩) (by decide)
def R_rm110 : Room := { frames := 0, cells := 0, slots := 0, locals := 0 }
theorem rm110 (G : Glob Z a0 iCS vSI)  (h0 : Heap) (Z0 : n0 ≤ h0.size) (O0 : Old Z n0 h0)  : MetH l Z EL0 n0 N_jdk_41_m_12 jdk_41_method_12_code 4 (some .int) [] R_rm110 #[.int 0, .int 3, .int 3, vSI] h0 [] (fun vs v h ve => (v = some (.int 0) ∧ (h0 = h))) := by
  refine MetH.of #[.val (.int 0), .val (.int 3), .val (.int 3), .val (vSI)] (plainFor_of_name pn_jdk_internal_util_Preconditions) (own_ref (P := fun v => (#[.val (.int 0), .val (.int 3), .val (.int 3), .val (v)] : Array Slot) = (ownLay [.int 0, .int 3, .int 3, v] ++ List.replicate (4 - (ownLay [.int 0, .int 3, .int 3, v]).length) Slot.unset).toArray) (r_SI G) rfl (fun _ => rfl)) Z0 (fun p e s m below meth c T0 hret hml hnm hSL hs0 X0 => ?_)
  refine kILn X0 d31_0 rfl ?_
  refine kIFf X0 d31_1 (XT.i0_lt_f (by decide)) ?_
  refine kILn X0 d31_4 rfl ?_
  refine kILn X0 d31_5 rfl ?_
  refine kICf X0 d31_6 (XT.ii_gt_f (by decide)) ?_
  refine kILn X0 d31_9 rfl ?_
  refine kILn X0 d31_10 rfl ?_
  refine kICt X0 22 d31_11 (XT.ii_le_t (by decide)) (by decide) ?_
  refine kILn X0 d31_22 rfl ?_
  exact kRETI X0 (gEL G) hret d31_23 (fun ve hve => ⟨rfl, rfl⟩) (by decide)
def R_rm109 : Room := { frames := 1, cells := 0, slots := 0, locals := 15 }
theorem rm109 (G : Glob Z a0 iCS vSI)  (h0 : Heap) (Z0 : n0 ≤ h0.size) (O0 : Old Z n0 h0)  : MetH l Z EL0 n0 N_jdk_42_m_158 jdk_42_method_158_code 3 none [] R_rm109 #[.int 0, .int 3, .int 3] h0 [] (fun vs v h ve => (v = none ∧ (h0 = h))) := by
  refine MetH.of #[.val (.int 0), .val (.int 3), .val (.int 3)] (plainFor_of_name pn_java_lang_String) rfl Z0 (fun p e s m below meth c T0 hret hml hnm hSL hs0 X0 => ?_)
  refine kILn X0 d30_0 rfl ?_
  refine kILn X0 d30_1 rfl ?_
  refine kILn X0 d30_2 rfl ?_
  refine kGETS X0 (wd G 131 rfl) Via.refl (Sta.ext O0.2 (S_SI G)) d30_3 (fun T1 X2 => ?_)
  refine kSTAT X2 (gEL G) (argsL := [.int 0, .int 3, .int 3, vSI]) (rest := []) (wd G 133 rfl) (wd G 134 rfl) (wd G 132 rfl) (wd G 135 rfl) (by decide) (rm110 G  h0 X2.n O0 ) all0 (lenOf pd__IIILjava_util_function_BiFunction__I rfl) rfl 0 rfl (by decide) hml.symm d30_6 (fun v3 T4 h5 vm6 _ w7 q8 C9 C10 X11 => ?_)
  obtain ⟨e13, f14⟩ := q8
  subst e13
  subst f14
  show Go _ _ _ _ _ (mkF _ _ _ [.int 0])
  refine kPOP X11 d30_9 rfl ?_
  exact kRETV X11 (gEL G) hret d30_10 (fun ve hve => ⟨rfl, rfl⟩) (by decide)
def R_rm107 : Room := { frames := 2, cells := 0, slots := 0, locals := 29 }
theorem rm107 (G : Glob Z a0 iCS vSI) (i0 i1 i2 : Int32) (q0 : Addr) (kp0 : ClassId) (h0 : Heap) (Z0 : n0 ≤ h0.size) (O0 : Old Z n0 h0) (c_1 : ¬ (65535 : Int32) < i0) (c_4 : ¬ i0 < 0) (c_2 : ¬ (65535 : Int32) < i1) (c_6 : ¬ i1 < 0) (c_3 : ¬ (65535 : Int32) < i2) (c_8 : ¬ i2 < 0) (A_q0 : Arv Z h0 q0 kp0 .byte 6 [.int (ownB i0), .int (ownH i0), .int (ownB i1), .int (ownH i1), .int (ownB i2), .int (ownH i2)] (.int 0)) : MetH l Z EL0 n0 N_jdk_52_m_93 jdk_52_method_93_code 3 none [] R_rm107 #[.int 0, .int 3, .ref q0] h0 [] (fun vs v h ve => (v = none ∧ (h0 = h))) := by
  refine MetH.of #[.val (.int 0), .val (.int 3), .val (.ref q0)] (plainFor_of_name pn_java_lang_StringUTF16) rfl Z0 (fun p e s m below meth c T0 hret hml hnm hSL hs0 X0 => ?_)
  refine kILn X0 d28_0 rfl ?_
  refine kILn X0 d28_1 rfl ?_
  refine kALn X0 d28_2 rfl rfl ?_
  refine kSTAT X0 (gEL G) (argsL := [.ref q0]) (rest := [.int 3, .int 0]) (wd G 125 rfl) (wd G 126 rfl) (wd G 81 rfl) (wd G 127 rfl) (by decide) (rm108 G i0 i1 i2 q0 kp0 h0 X0.n O0 A_q0) all0 (lenOf pd___B_I rfl) rfl 2 rfl (by decide) hml.symm d28_3 (fun v1 T2 h3 vm4 _ w5 q6 C7 C8 X9 => ?_)
  obtain ⟨e11, f12⟩ := q6
  subst e11
  subst f12
  show Go _ _ _ _ _ (mkF _ _ _ [.int 3, .int 3, .int 0])
  refine kSTAT X9 (gEL G) (argsL := [.int 0, .int 3, .int 3]) (rest := []) (wd G 128 rfl) (wd G 129 rfl) (wd G 8 rfl) (wd G 130 rfl) (by decide) (rm109 G  h0 X9.n O0 ) all0 (lenOf pd__III_V rfl) rfl 0 rfl (by decide) hml.symm d28_6 (fun v13 T14 h15 vm16 _ w17 q18 C19 C20 X21 => ?_)
  obtain ⟨e23, f24⟩ := q18
  subst e23
  subst f24
  show Go _ _ _ _ _ (mkF _ _ _ [])
  exact kRETV X21 (gEL G) hret d28_9 (fun ve hve => ⟨rfl, rfl⟩) (by decide)
def R_rm111 : Room := { frames := 1, cells := 0, slots := 0, locals := 13 }
theorem rm111 (G : Glob Z a0 iCS vSI) (i0 i1 i2 : Int32) (q0 : Addr) (kp0 : ClassId) (h0 : Heap) (Z0 : n0 ≤ h0.size) (O0 : Old Z n0 h0) (c_1 : ¬ (65535 : Int32) < i0) (c_4 : ¬ i0 < 0) (c_2 : ¬ (65535 : Int32) < i1) (c_6 : ¬ i1 < 0) (c_3 : ¬ (65535 : Int32) < i2) (c_8 : ¬ i2 < 0) (A_q0 : Arv Z h0 q0 kp0 .byte 6 [.int (ownB i0), .int (ownH i0), .int (ownB i1), .int (ownH i1), .int (ownB i2), .int (ownH i2)] (.int 0)) (c_5 : ¬ i0 = (65533 : Int32)) (c_7 : ¬ i1 = (65533 : Int32)) (c_9 : ¬ i2 = (65533 : Int32)) : MetH l Z EL0 n0 N_jdk_52_m_48 jdk_52_method_48_code 5 (some .int) [] R_rm111 #[.ref q0, .int 65533, .int 0, .int 3] h0 [] (fun vs v h ve => (v = some (.int (-1)) ∧ (h0 = h))) := by
  refine MetH.of #[.val (.ref q0), .val (.int 65533), .val (.int 0), .val (.int 3), .unset] (plainFor_of_name pn_java_lang_StringUTF16) rfl Z0 (fun p e s m below meth c T0 hret hml hnm hSL hs0 X0 => ?_)
  refine kILn X0 d32_0 rfl ?_
  refine kIS X0 #[.val (.ref q0), .val (.int 65533), .val (.int 0), .val (.int 3), .val (.int 0)] d32_1 rfl ?_
  refine kIL X0 d32_3 rfl ?_
  refine kILn X0 d32_5 rfl ?_
  refine kICf X0 d32_6 (XT.ii_ge_f (by decide)) ?_
  refine kALn X0 d32_9 rfl rfl ?_
  refine kIL X0 d32_10 rfl ?_
  refine kSTAT X0 (gEL G) (argsL := [.ref q0, .int 0]) (rest := []) (wd G 105 rfl) (wd G 106 rfl) (wd G 81 rfl) (wd G 107 rfl) (by decide) (rm93 G i0 i1 i2 q0 kp0 h0 X0.n O0 A_q0 c_1 c_4) all0 (lenOf pd___BI_C rfl) rfl 0 rfl (by decide) hml.symm d32_12 (fun v1 T2 h3 vm4 _ w5 q6 C7 C8 X9 => ?_)
  obtain ⟨e11, f12⟩ := q6
  subst e11
  subst f12
  show Go _ _ _ _ _ (mkF _ _ _ [.int i0])
  refine kILn X9 d32_15 rfl ?_
  refine kICt X9 22 d32_16 (XT.ii_ne_t c_5) (by decide) ?_
  refine kIINC X9 (1 : Int32) (1 : Int32) #[.val (.ref q0), .val (.int 65533), .val (.int 0), .val (.int 3), .val (.int 1)] d32_22 (by decide) rfl (by decide) rfl ?_
  refine kGOTO X9 3 d32_25 (by decide) ?_
  refine kIL X9 d32_3 rfl ?_
  refine kILn X9 d32_5 rfl ?_
  refine kICf X9 d32_6 (XT.ii_ge_f (by decide)) ?_
  refine kALn X9 d32_9 rfl rfl ?_
  refine kIL X9 d32_10 rfl ?_
  refine kSTAT X9 (gEL G) (argsL := [.ref q0, .int 1]) (rest := []) (wd G 105 rfl) (wd G 106 rfl) (wd G 81 rfl) (wd G 107 rfl) (by decide) (rm94 G i0 i1 i2 q0 kp0 h0 X9.n O0 A_q0 c_2 c_6) all0 (lenOf pd___BI_C rfl) rfl 0 rfl (by decide) hml.symm d32_12 (fun v13 T14 h15 vm16 _ w17 q18 C19 C20 X21 => ?_)
  obtain ⟨e23, f24⟩ := q18
  subst e23
  subst f24
  show Go _ _ _ _ _ (mkF _ _ _ [.int i1])
  refine kILn X21 d32_15 rfl ?_
  refine kICt X21 22 d32_16 (XT.ii_ne_t c_7) (by decide) ?_
  refine kIINC X21 (1 : Int32) (2 : Int32) #[.val (.ref q0), .val (.int 65533), .val (.int 0), .val (.int 3), .val (.int 2)] d32_22 (by decide) rfl (by decide) rfl ?_
  refine kGOTO X21 3 d32_25 (by decide) ?_
  refine kIL X21 d32_3 rfl ?_
  refine kILn X21 d32_5 rfl ?_
  refine kICf X21 d32_6 (XT.ii_ge_f (by decide)) ?_
  refine kALn X21 d32_9 rfl rfl ?_
  refine kIL X21 d32_10 rfl ?_
  refine kSTAT X21 (gEL G) (argsL := [.ref q0, .int 2]) (rest := []) (wd G 105 rfl) (wd G 106 rfl) (wd G 81 rfl) (wd G 107 rfl) (by decide) (rm95 G i0 i1 i2 q0 kp0 h0 X21.n O0 A_q0 c_3 c_8) all0 (lenOf pd___BI_C rfl) rfl 0 rfl (by decide) hml.symm d32_12 (fun v25 T26 h27 vm28 _ w29 q30 C31 C32 X33 => ?_)
  obtain ⟨e35, f36⟩ := q30
  subst e35
  subst f36
  show Go _ _ _ _ _ (mkF _ _ _ [.int i2])
  refine kILn X33 d32_15 rfl ?_
  refine kICt X33 22 d32_16 (XT.ii_ne_t c_9) (by decide) ?_
  refine kIINC X33 (1 : Int32) (3 : Int32) #[.val (.ref q0), .val (.int 65533), .val (.int 0), .val (.int 3), .val (.int 3)] d32_22 (by decide) rfl (by decide) rfl ?_
  refine kGOTO X33 3 d32_25 (by decide) ?_
  refine kIL X33 d32_3 rfl ?_
  refine kILn X33 d32_5 rfl ?_
  refine kICt X33 28 d32_6 (XT.ii_ge_t (by decide)) (by decide) ?_
  refine kIC X33 (-1) d32_28 (by decide) ?_
  exact kRETI X33 (gEL G) hret d32_29 (fun ve hve => ⟨rfl, rfl⟩) (by decide)
def R_rm106 : Room := { frames := 3, cells := 0, slots := 0, locals := 43 }
theorem rm106 (G : Glob Z a0 iCS vSI) (i0 i1 i2 : Int32) (q0 : Addr) (kp0 : ClassId) (h0 : Heap) (Z0 : n0 ≤ h0.size) (O0 : Old Z n0 h0) (c_1 : ¬ (65535 : Int32) < i0) (c_4 : ¬ i0 < 0) (c_2 : ¬ (65535 : Int32) < i1) (c_6 : ¬ i1 < 0) (c_3 : ¬ (65535 : Int32) < i2) (c_8 : ¬ i2 < 0) (A_q0 : Arv Z h0 q0 kp0 .byte 6 [.int (ownB i0), .int (ownH i0), .int (ownB i1), .int (ownH i1), .int (ownB i2), .int (ownH i2)] (.int 0)) (c_5 : ¬ i0 = (65533 : Int32)) (c_7 : ¬ i1 = (65533 : Int32)) (c_9 : ¬ i2 = (65533 : Int32)) : MetH l Z EL0 n0 N_jdk_52_m_47 jdk_52_method_47_code 4 (some .int) [] R_rm106 #[.ref q0, .int 65533, .int 0, .int 3] h0 [] (fun vs v h ve => (v = some (.int (-1)) ∧ (h0 = h))) := by
  refine MetH.of #[.val (.ref q0), .val (.int 65533), .val (.int 0), .val (.int 3)] (plainFor_of_name pn_java_lang_StringUTF16) rfl Z0 (fun p e s m below meth c T0 hret hml hnm hSL hs0 X0 => ?_)
  refine kILn X0 d27_0 rfl ?_
  refine kILn X0 d27_1 rfl ?_
  refine kALn X0 d27_2 rfl rfl ?_
  refine kSTAT X0 (gEL G) (argsL := [.int 0, .int 3, .ref q0]) (rest := []) (wd G 122 rfl) (wd G 123 rfl) (wd G 81 rfl) (wd G 124 rfl) (by decide) (rm107 G i0 i1 i2 q0 kp0 h0 X0.n O0 c_1 c_4 c_2 c_6 c_3 c_8 A_q0) all0 (lenOf pd__II_B_V rfl) rfl 0 rfl (by decide) hml.symm d27_3 (fun v1 T2 h3 vm4 _ w5 q6 C7 C8 X9 => ?_)
  obtain ⟨e11, f12⟩ := q6
  subst e11
  subst f12
  show Go _ _ _ _ _ (mkF _ _ _ [])
  refine kALn X9 d27_6 rfl rfl ?_
  refine kILn X9 d27_7 rfl ?_
  refine kILn X9 d27_8 rfl ?_
  refine kILn X9 d27_9 rfl ?_
  refine kSTAT X9 (gEL G) (argsL := [.ref q0, .int 65533, .int 0, .int 3]) (rest := []) (wd G 136 rfl) (wd G 137 rfl) (wd G 81 rfl) (wd G 138 rfl) (by decide) (rm111 G i0 i1 i2 q0 kp0 h0 X9.n O0 c_1 c_4 c_2 c_6 c_3 c_8 A_q0 c_5 c_7 c_9) all0 (lenOf pd___BIII_I rfl) rfl 0 rfl (by decide) hml.symm d27_10 (fun v13 T14 h15 vm16 _ w17 q18 C19 C20 X21 => ?_)
  obtain ⟨e23, f24⟩ := q18
  subst e23
  subst f24
  show Go _ _ _ _ _ (mkF _ _ _ [.int (-1)])
  exact kRETI X21 (gEL G) hret d27_13 (fun ve hve => ⟨rfl, rfl⟩) (by decide)
def R_rm104 : Room := { frames := 4, cells := 0, slots := 0, locals := 58 }
theorem rm104 (G : Glob Z a0 iCS vSI) (i0 i1 i2 : Int32) (q0 : Addr) (kp0 : ClassId) (h0 : Heap) (Z0 : n0 ≤ h0.size) (O0 : Old Z n0 h0) (A_q0 : Arv Z h0 q0 kp0 .byte 6 [.int (ownB i0), .int (ownH i0), .int (ownB i1), .int (ownH i1), .int (ownB i2), .int (ownH i2)] (.int 0)) (c_1 : ¬ (65535 : Int32) < i0) (c_4 : ¬ i0 < 0) (c_2 : ¬ (65535 : Int32) < i1) (c_6 : ¬ i1 < 0) (c_3 : ¬ (65535 : Int32) < i2) (c_8 : ¬ i2 < 0) (c_5 : ¬ i0 = (65533 : Int32)) (c_7 : ¬ i1 = (65533 : Int32)) (c_9 : ¬ i2 = (65533 : Int32)) : MetH l Z EL0 n0 N_jdk_52_m_40 jdk_52_method_40_code 4 (some .int) [] R_rm104 #[.ref q0, .int 65533, .int 0, .int 3] h0 [] (fun vs v h ve => (v = some (.int (-1)) ∧ (h0 = h))) := by
  refine MetH.of #[.val (.ref q0), .val (.int 65533), .val (.int 0), .val (.int 3)] (plainFor_of_name pn_java_lang_StringUTF16) rfl Z0 (fun p e s m below meth c T0 hret hml hnm hSL hs0 X0 => ?_)
  refine kILn X0 d24_0 rfl ?_
  refine kIC X0 0 d24_1 (by decide) ?_
  refine kSTAT X0 (gEL G) (argsL := [.int 0, .int 0]) (rest := []) (wd G 111 rfl) (wd G 112 rfl) (wd G 113 rfl) (wd G 114 rfl) (by decide) (rm34 G  h0 X0.n O0 ) all0 (lenOf pd__II_I rfl) rfl 0 rfl (by decide) hml.symm d24_2 (fun v1 T2 h3 vm4 _ w5 q6 C7 C8 X9 => ?_)
  obtain ⟨e11, f12⟩ := q6
  subst e11
  subst f12
  show Go _ _ _ _ _ (mkF _ _ _ [.int 0])
  refine kISn X9 #[.val (.ref q0), .val (.int 65533), .val (.int 0), .val (.int 3)] d24_5 rfl ?_
  refine kILn X9 d24_6 rfl ?_
  refine kALn X9 d24_7 rfl rfl ?_
  refine kLEN X9 A_q0 d24_8 ?_
  refine kIC X9 1 d24_9 (by decide) ?_
  refine kISHR X9 3 d24_10 (by decide) ?_
  refine kSTAT X9 (gEL G) (argsL := [.int 3, .int 3]) (rest := []) (wd G 115 rfl) (wd G 116 rfl) (wd G 113 rfl) (wd G 117 rfl) (by decide) (rm105 G  h0 X9.n O0 ) all0 (lenOf pd__II_I rfl) rfl 0 rfl (by decide) hml.symm d24_11 (fun v13 T14 h15 vm16 _ w17 q18 C19 C20 X21 => ?_)
  obtain ⟨e23, f24⟩ := q18
  subst e23
  subst f24
  show Go _ _ _ _ _ (mkF _ _ _ [.int 3])
  refine kISn X21 #[.val (.ref q0), .val (.int 65533), .val (.int 0), .val (.int 3)] d24_14 rfl ?_
  refine kILn X21 d24_15 rfl ?_
  refine kILn X21 d24_16 rfl ?_
  refine kICt X21 22 d24_17 (XT.ii_lt_t (by decide)) (by decide) ?_
  refine kILn X21 d24_22 rfl ?_
  refine kLDCI X21 (wd G 118 rfl) d24_23 ?_
  refine kICf X21 d24_25 (XT.ii_ge_f (by decide)) ?_
  refine kALn X21 d24_28 rfl rfl ?_
  refine kILn X21 d24_29 rfl ?_
  refine kILn X21 d24_30 rfl ?_
  refine kILn X21 d24_31 rfl ?_
  refine kSTAT X21 (gEL G) (argsL := [.ref q0, .int 65533, .int 0, .int 3]) (rest := []) (wd G 119 rfl) (wd G 120 rfl) (wd G 81 rfl) (wd G 121 rfl) (by decide) (rm106 G i0 i1 i2 q0 kp0 h0 X21.n O0 c_1 c_4 c_2 c_6 c_3 c_8 A_q0 c_5 c_7 c_9) all0 (lenOf pd___BIII_I rfl) rfl 0 rfl (by decide) hml.symm d24_32 (fun v25 T26 h27 vm28 _ w29 q30 C31 C32 X33 => ?_)
  obtain ⟨e35, f36⟩ := q30
  subst e35
  subst f36
  show Go _ _ _ _ _ (mkF _ _ _ [.int (-1)])
  exact kRETI X33 (gEL G) hret d24_35 (fun ve hve => ⟨rfl, rfl⟩) (by decide)
def R_rm100 : Room := { frames := 5, cells := 0, slots := 0, locals := 73 }
theorem rm100 (G : Glob Z a0 iCS vSI) (i0 i1 i2 : Int32) (q0 q1 : Addr) (kp0 : ClassId) (h0 : Heap) (Z0 : n0 ≤ h0.size) (O0 : Old Z n0 h0) (c_1 : ¬ (65535 : Int32) < i0) (c_4 : ¬ i0 < 0) (c_2 : ¬ (65535 : Int32) < i1) (c_6 : ¬ i1 < 0) (c_3 : ¬ (65535 : Int32) < i2) (c_8 : ¬ i2 < 0) (F_q0_coder : Fld Z h0 q0 "java/lang/String" "coder" "B" (.int 1)) (E_q0 : Exa Z h0 q0 "java/lang/String") (F_q0_value : Fld Z h0 q0 "java/lang/String" "value" "[B" (.ref q1)) (A_q1 : Arv Z h0 q1 kp0 .byte 6 [.int (ownB i0), .int (ownH i0), .int (ownB i1), .int (ownH i1), .int (ownB i2), .int (ownH i2)] (.int 0)) (c_5 : ¬ i0 = (65533 : Int32)) (c_7 : ¬ i1 = (65533 : Int32)) (c_9 : ¬ i2 = (65533 : Int32)) : MetH l Z EL0 n0 N_jdk_42_m_80 jdk_42_method_80_code 3 (some .int) [] R_rm100 #[.ref q0, .int 65533, .int 0] h0 [] (fun vs v h ve => (v = some (.int (-1)) ∧ (h0 = h))) := by
  refine MetH.of #[.val (.ref q0), .val (.int 65533), .val (.int 0)] (plainFor_of_name pn_java_lang_String) rfl Z0 (fun p e s m below meth c T0 hret hml hnm hSL hs0 X0 => ?_)
  refine kALn X0 d10_0 rfl rfl ?_
  refine kVIRT X0 (gEL G) (argsL := []) (rest := []) (wd G 58 rfl) (wd G 59 rfl) (own_nf X0.hZ (own_noinst (wd G 7 rfl))) (wd G 61 rfl) (wd G 60 rfl) (wd G 8 rfl) (wd G 62 rfl) (by decide) E_q0 (rm101 G i0 i1 i2 q0 q1 kp0 h0 X0.n O0 F_q0_coder) all0 (lenOf pd___Z rfl) rfl 0 rfl (by decide) hml.symm d10_1 (fun v1 T2 h3 vm4 _ w5 q6 C7 C8 X9 => ?_)
  obtain ⟨e11, f12⟩ := q6
  subst e11
  subst f12
  show Go _ _ _ _ _ (mkF _ _ _ [.int 0])
  refine kIFt X9 23 d10_4 (XT.i0_eq_t (by decide)) (by decide) ?_
  refine kALn X9 d10_23 rfl rfl ?_
  refine kGETF X9 (wd G 26 rfl) Via.refl F_q0_value d10_24 (fun T13 X14 => ?_)
  refine kILn X14 d10_27 rfl ?_
  refine kILn X14 d10_28 rfl ?_
  refine kALn X14 d10_29 rfl rfl ?_
  refine kVIRT X14 (gEL G) (argsL := []) (rest := [.int 0, .int 65533, .ref q1]) (wd G 63 rfl) (wd G 64 rfl) (own_nf X14.hZ (own_noinst (wd G 7 rfl))) (wd G 66 rfl) (wd G 65 rfl) (wd G 8 rfl) (wd G 67 rfl) (by decide) E_q0 (rm102 G i0 i1 i2 q0 q1 kp0 h0 X14.n O0 F_q0_value A_q1 c_1 c_4 c_2 c_6 c_3 c_8 F_q0_coder E_q0) all0 (lenOf pd___I rfl) rfl 3 rfl (by decide) hml.symm d10_30 (fun v15 T16 h17 vm18 _ w19 q20 C21 C22 X23 => ?_)
  obtain ⟨e25, f26⟩ := q20
  subst e25
  subst f26
  show Go _ _ _ _ _ (mkF _ _ _ [.int 3, .int 0, .int 65533, .ref q1])
  refine kSTAT X23 (gEL G) (argsL := [.ref q1, .int 65533, .int 0, .int 3]) (rest := []) (wd G 108 rfl) (wd G 109 rfl) (wd G 81 rfl) (wd G 110 rfl) (by decide) (rm104 G i0 i1 i2 q1 kp0 h0 X23.n O0 A_q1 c_1 c_4 c_2 c_6 c_3 c_8 c_5 c_7 c_9) all0 (lenOf pd___BIII_I rfl) rfl 0 rfl (by decide) hml.symm d10_33 (fun v27 T28 h29 vm30 _ w31 q32 C33 C34 X35 => ?_)
  obtain ⟨e37, f38⟩ := q32
  subst e37
  subst f38
  show Go _ _ _ _ _ (mkF _ _ _ [.int (-1)])
  exact kRETI X35 (gEL G) hret d10_36 (fun ve hve => ⟨rfl, rfl⟩) (by decide)
def R_rm99 : Room := { frames := 6, cells := 0, slots := 0, locals := 87 }
theorem rm99 (G : Glob Z a0 iCS vSI) (i0 i1 i2 : Int32) (q0 q1 : Addr) (kp0 : ClassId) (h0 : Heap) (Z0 : n0 ≤ h0.size) (O0 : Old Z n0 h0) (c_1 : ¬ (65535 : Int32) < i0) (c_4 : ¬ i0 < 0) (c_2 : ¬ (65535 : Int32) < i1) (c_6 : ¬ i1 < 0) (c_3 : ¬ (65535 : Int32) < i2) (c_8 : ¬ i2 < 0) (F_q0_coder : Fld Z h0 q0 "java/lang/String" "coder" "B" (.int 1)) (E_q0 : Exa Z h0 q0 "java/lang/String") (F_q0_value : Fld Z h0 q0 "java/lang/String" "value" "[B" (.ref q1)) (A_q1 : Arv Z h0 q1 kp0 .byte 6 [.int (ownB i0), .int (ownH i0), .int (ownB i1), .int (ownH i1), .int (ownB i2), .int (ownH i2)] (.int 0)) (c_5 : ¬ i0 = (65533 : Int32)) (c_7 : ¬ i1 = (65533 : Int32)) (c_9 : ¬ i2 = (65533 : Int32)) : MetH l Z EL0 n0 N_jdk_42_m_79 jdk_42_method_79_code 2 (some .int) [] R_rm99 #[.ref q0, .int 65533] h0 [] (fun vs v h ve => (v = some (.int (-1)) ∧ (h0 = h))) := by
  refine MetH.of #[.val (.ref q0), .val (.int 65533)] (plainFor_of_name pn_java_lang_String) rfl Z0 (fun p e s m below meth c T0 hret hml hnm hSL hs0 X0 => ?_)
  refine kALn X0 d9_0 rfl rfl ?_
  refine kILn X0 d9_1 rfl ?_
  refine kIC X0 0 d9_2 (by decide) ?_
  refine kVIRT X0 (gEL G) (argsL := [.int 65533, .int 0]) (rest := []) (wd G 53 rfl) (wd G 54 rfl) (own_nf X0.hZ (own_noinst (wd G 7 rfl))) (wd G 56 rfl) (wd G 55 rfl) (wd G 8 rfl) (wd G 57 rfl) (by decide) E_q0 (rm100 G i0 i1 i2 q0 q1 kp0 h0 X0.n O0 c_1 c_4 c_2 c_6 c_3 c_8 F_q0_coder E_q0 F_q0_value A_q1 c_5 c_7 c_9) all0 (lenOf pd__II_I rfl) rfl 0 rfl (by decide) hml.symm d9_3 (fun v1 T2 h3 vm4 _ w5 q6 C7 C8 X9 => ?_)
  obtain ⟨e11, f12⟩ := q6
  subst e11
  subst f12
  show Go _ _ _ _ _ (mkF _ _ _ [.int (-1)])
  exact kRETI X9 (gEL G) hret d9_6 (fun ve hve => ⟨rfl, rfl⟩) (by decide)
def R_rm98 : Room := { frames := 7, cells := 0, slots := 0, locals := 100 }
theorem rm98 (G : Glob Z a0 iCS vSI) (i0 i1 i2 i3 : Int32) (q0 q1 q2 q3 : Addr) (kp0 kp1 : ClassId) (h0 : Heap) (Z0 : n0 ≤ h0.size) (O0 : Old Z n0 h0) (c_2 : ¬ (65535 : Int32) < i0) (c_5 : ¬ i0 < 0) (c_3 : ¬ (65535 : Int32) < i1) (c_7 : ¬ i1 < 0) (c_4 : ¬ (65535 : Int32) < i2) (c_9 : ¬ i2 < 0) (F_q0_coder : Fld Z h0 q0 "java/lang/String" "coder" "B" (.int 1)) (E_q0 : Exa Z h0 q0 "java/lang/String") (F_q0_value : Fld Z h0 q0 "java/lang/String" "value" "[B" (.ref q2)) (A_q2 : Arv Z h0 q2 kp0 .byte 6 [.int (ownB i0), .int (ownH i0), .int (ownB i1), .int (ownH i1), .int (ownB i2), .int (ownH i2)] (.int 0)) (c_6 : ¬ i0 = (65533 : Int32)) (c_8 : ¬ i1 = (65533 : Int32)) (c_10 : ¬ i2 = (65533 : Int32)) : MetH l Z EL0 n0 N_prog_38_m_14 prog_38_method_14_code 2 none [] R_rm98 #[.ref q0, .ref q1] h0 [] (fun vs v h ve => (v = none ∧ (h0 = h))) := by
  refine MetH.of #[.val (.ref q0), .val (.ref q1)] (plainFor_of_name pn_com_example_evoke_evoke_Options) rfl Z0 (fun p e s m below meth c T0 hret hml hnm hSL hs0 X0 => ?_)
  refine kALn X0 d8_0 rfl rfl ?_
  refine kLDCI X0 (wd G 47 rfl) d8_1 ?_
  refine kVIRT X0 (gEL G) (argsL := [.int 65533]) (rest := []) (wd G 48 rfl) (wd G 49 rfl) (own_nf X0.hZ (own_noinst (wd G 7 rfl))) (wd G 51 rfl) (wd G 50 rfl) (wd G 8 rfl) (wd G 52 rfl) (by decide) E_q0 (rm99 G i0 i1 i2 q0 q2 kp0 h0 X0.n O0 c_2 c_5 c_3 c_7 c_4 c_9 F_q0_coder E_q0 F_q0_value A_q2 c_6 c_8 c_10) all0 (lenOf pd__I_I rfl) rfl 0 rfl (by decide) hml.symm d8_3 (fun v1 T2 h3 vm4 _ w5 q6 C7 C8 X9 => ?_)
  obtain ⟨e11, f12⟩ := q6
  subst e11
  subst f12
  show Go _ _ _ _ _ (mkF _ _ _ [.int (-1)])
  refine kIFt X9 29 d8_6 (XT.i0_lt_t (by decide)) (by decide) ?_
  exact kRETV X9 (gEL G) hret d8_29 (fun ve hve => ⟨rfl, rfl⟩) (by decide)
def R_rm115 : Room := { frames := 0, cells := 0, slots := 0, locals := 0 }
theorem rm115 (G : Glob Z a0 iCS vSI) (i0 i1 i2 : Int32) (q0 q1 : Addr) (kp0 : ClassId) (h0 : Heap) (Z0 : n0 ≤ h0.size) (O0 : Old Z n0 h0) (F_q0_coder : Fld Z h0 q0 "java/lang/String" "coder" "B" (.int 0)) : MetH l Z EL0 n0 N_jdk_42_m_154 jdk_42_method_154_code 1 (some .boolean) [] R_rm115 #[.ref q0] h0 [] (fun vs v h ve => (v = some (.int 1) ∧ (h0 = h))) := by
  refine MetH.of #[.val (.ref q0)] (plainFor_of_name pn_java_lang_String) rfl Z0 (fun p e s m below meth c T0 hret hml hnm hSL hs0 X0 => ?_)
  refine kGETS X0 (wd G 31 rfl) Via.refl (Sta.ext O0.2 (S_CS G)) d11_0 (fun T1 X2 => ?_)
  refine kIFf X2 d11_3 (XT.i0_eq_f (n_CS G)) ?_
  refine kALn X2 d11_6 rfl rfl ?_
  refine kGETF X2 (wd G 27 rfl) Via.refl F_q0_coder d11_7 (fun T3 X4 => ?_)
  refine kIFf X4 d11_10 (XT.i0_ne_f (by decide)) ?_
  refine kIC X4 1 d11_13 (by decide) ?_
  refine kGOTO X4 18 d11_14 (by decide) ?_
  exact kRETZ X4 (gEL G) (t := .boolean) hret (by simp) d11_18 (fun ve hve => ⟨rfl, rfl⟩) (by decide)
def R_rm117 : Room := { frames := 0, cells := 0, slots := 0, locals := 0 }
theorem rm117 (G : Glob Z a0 iCS vSI) (i0 i1 i2 : Int32) (q0 q1 : Addr) (kp0 : ClassId) (h0 : Heap) (Z0 : n0 ≤ h0.size) (O0 : Old Z n0 h0) (F_q0_coder : Fld Z h0 q0 "java/lang/String" "coder" "B" (.int 0)) : MetH l Z EL0 n0 N_jdk_42_m_152 jdk_42_method_152_code 1 (some .byte) [] R_rm117 #[.ref q0] h0 [] (fun vs v h ve => (v = some (.int 0) ∧ (h0 = h))) := by
  refine MetH.of #[.val (.ref q0)] (plainFor_of_name pn_java_lang_String) rfl Z0 (fun p e s m below meth c T0 hret hml hnm hSL hs0 X0 => ?_)
  refine kGETS X0 (wd G 31 rfl) Via.refl (Sta.ext O0.2 (S_CS G)) d13_0 (fun T1 X2 => ?_)
  refine kIFf X2 d13_3 (XT.i0_eq_f (n_CS G)) ?_
  refine kALn X2 d13_6 rfl rfl ?_
  refine kGETF X2 (wd G 27 rfl) Via.refl F_q0_coder d13_7 (fun T3 X4 => ?_)
  refine kGOTO X4 14 d13_10 (by decide) ?_
  exact kRETZ X4 (gEL G) (t := .byte) hret (by simp) d13_14 (fun ve hve => ⟨rfl, rfl⟩) (by decide)
def R_rm116 : Room := { frames := 1, cells := 0, slots := 0, locals := 13 }
theorem rm116 (G : Glob Z a0 iCS vSI) (i0 i1 i2 : Int32) (q0 q1 : Addr) (kp0 : ClassId) (h0 : Heap) (Z0 : n0 ≤ h0.size) (O0 : Old Z n0 h0) (F_q0_value : Fld Z h0 q0 "java/lang/String" "value" "[B" (.ref q1)) (A_q1 : Arv Z h0 q1 kp0 .byte 3 [.int (ownB i0), .int (ownB i1), .int (ownB i2)] (.int 0)) (c_0 : ¬ (255 : Int32) < i0) (c_6 : ¬ i0 < 0) (c_3 : ¬ (65535 : Int32) < i0) (c_1 : ¬ (255 : Int32) < i1) (c_8 : ¬ i1 < 0) (c_4 : ¬ (65535 : Int32) < i1) (c_2 : ¬ (255 : Int32) < i2) (c_10 : ¬ i2 < 0) (c_5 : ¬ (65535 : Int32) < i2) (F_q0_coder : Fld Z h0 q0 "java/lang/String" "coder" "B" (.int 0)) (E_q0 : Exa Z h0 q0 "java/lang/String") : MetH l Z EL0 n0 N_jdk_42_m_54 jdk_42_method_54_code 1 (some .int) [] R_rm116 #[.ref q0] h0 [] (fun vs v h ve => (v = some (.int 3) ∧ (h0 = h))) := by
  refine MetH.of #[.val (.ref q0)] (plainFor_of_name pn_java_lang_String) rfl Z0 (fun p e s m below meth c T0 hret hml hnm hSL hs0 X0 => ?_)
  refine kALn X0 d12_0 rfl rfl ?_
  refine kGETF X0 (wd G 26 rfl) Via.refl F_q0_value d12_1 (fun T1 X2 => ?_)
  refine kLEN X2 A_q1 d12_4 ?_
  refine kALn X2 d12_5 rfl rfl ?_
  refine kVIRT X2 (gEL G) (argsL := []) (rest := [.int 3]) (wd G 68 rfl) (wd G 69 rfl) (own_nf X2.hZ (own_noinst (wd G 7 rfl))) (wd G 71 rfl) (wd G 70 rfl) (wd G 8 rfl) (wd G 72 rfl) (by decide) E_q0 (rm117 G i0 i1 i2 q0 q1 kp0 h0 X2.n O0 F_q0_coder) all0 (lenOf pd___B rfl) rfl 1 rfl (by decide) hml.symm d12_6 (fun v3 T4 h5 vm6 _ w7 q8 C9 C10 X11 => ?_)
  obtain ⟨e13, f14⟩ := q8
  subst e13
  subst f14
  show Go _ _ _ _ _ (mkF _ _ _ [.int 0, .int 3])
  refine kISHR X11 3 d12_9 (by decide) ?_
  exact kRETI X11 (gEL G) hret d12_10 (fun ve hve => ⟨rfl, rfl⟩) (by decide)
def R_rm118 : Room := { frames := 1, cells := 0, slots := 0, locals := 12 }
theorem rm118 (G : Glob Z a0 iCS vSI) (i0 i1 i2 : Int32) (q0 : Addr) (kp0 : ClassId) (h0 : Heap) (Z0 : n0 ≤ h0.size) (O0 : Old Z n0 h0)  : MetH l Z EL0 n0 N_jdk_43_m_22 jdk_43_method_22_code 4 (some .int) [] R_rm118 #[.ref q0, .int 65533, .int 0, .int 3] h0 [] (fun vs v h ve => (v = some (.int (-1)) ∧ (h0 = h))) := by
  refine MetH.of #[.val (.ref q0), .val (.int 65533), .val (.int 0), .val (.int 3)] (plainFor_of_name pn_java_lang_StringLatin1) rfl Z0 (fun p e s m below meth c T0 hret hml hnm hSL hs0 X0 => ?_)
  refine kILn X0 d14_0 rfl ?_
  refine kSTAT X0 (gEL G) (argsL := [.int 65533]) (rest := []) (wd G 76 rfl) (wd G 77 rfl) (wd G 34 rfl) (wd G 78 rfl) (by decide) (rm15 G  h0 X0.n O0 ) all0 (lenOf pd__I_Z rfl) rfl 0 rfl (by decide) hml.symm d14_1 (fun v1 T2 h3 vm4 _ w5 q6 C7 C8 X9 => ?_)
  obtain ⟨e11, f12⟩ := q6
  subst e11
  subst f12
  show Go _ _ _ _ _ (mkF _ _ _ [.int 0])
  refine kIFf X9 d14_4 (XT.i0_ne_f (by decide)) ?_
  refine kIC X9 (-1) d14_7 (by decide) ?_
  exact kRETI X9 (gEL G) hret d14_8 (fun ve hve => ⟨rfl, rfl⟩) (by decide)
def R_rm114 : Room := { frames := 2, cells := 0, slots := 0, locals := 28 }
theorem rm114 (G : Glob Z a0 iCS vSI) (i0 i1 i2 : Int32) (q0 q1 : Addr) (kp0 : ClassId) (h0 : Heap) (Z0 : n0 ≤ h0.size) (O0 : Old Z n0 h0) (c_0 : ¬ (255 : Int32) < i0) (c_6 : ¬ i0 < 0) (c_3 : ¬ (65535 : Int32) < i0) (c_1 : ¬ (255 : Int32) < i1) (c_8 : ¬ i1 < 0) (c_4 : ¬ (65535 : Int32) < i1) (c_2 : ¬ (255 : Int32) < i2) (c_10 : ¬ i2 < 0) (c_5 : ¬ (65535 : Int32) < i2) (F_q0_coder : Fld Z h0 q0 "java/lang/String" "coder" "B" (.int 0)) (E_q0 : Exa Z h0 q0 "java/lang/String") (F_q0_value : Fld Z h0 q0 "java/lang/String" "value" "[B" (.ref q1)) (A_q1 : Arv Z h0 q1 kp0 .byte 3 [.int (ownB i0), .int (ownB i1), .int (ownB i2)] (.int 0)) : MetH l Z EL0 n0 N_jdk_42_m_80 jdk_42_method_80_code 3 (some .int) [] R_rm114 #[.ref q0, .int 65533, .int 0] h0 [] (fun vs v h ve => (v = some (.int (-1)) ∧ (h0 = h))) := by
  refine MetH.of #[.val (.ref q0), .val (.int 65533), .val (.int 0)] (plainFor_of_name pn_java_lang_String) rfl Z0 (fun p e s m below meth c T0 hret hml hnm hSL hs0 X0 => ?_)
  refine kALn X0 d10_0 rfl rfl ?_
  refine kVIRT X0 (gEL G) (argsL := []) (rest := []) (wd G 58 rfl) (wd G 59 rfl) (own_nf X0.hZ (own_noinst (wd G 7 rfl))) (wd G 61 rfl) (wd G 60 rfl) (wd G 8 rfl) (wd G 62 rfl) (by decide) E_q0 (rm115 G i0 i1 i2 q0 q1 kp0 h0 X0.n O0 F_q0_coder) all0 (lenOf pd___Z rfl) rfl 0 rfl (by decide) hml.symm d10_1 (fun v1 T2 h3 vm4 _ w5 q6 C7 C8 X9 => ?_)
  obtain ⟨e11, f12⟩ := q6
  subst e11
  subst f12
  show Go _ _ _ _ _ (mkF _ _ _ [.int 1])
  refine kIFf X9 d10_4 (XT.i0_eq_f (by decide)) ?_
  refine kALn X9 d10_7 rfl rfl ?_
  refine kGETF X9 (wd G 26 rfl) Via.refl F_q0_value d10_8 (fun T13 X14 => ?_)
  refine kILn X14 d10_11 rfl ?_
  refine kILn X14 d10_12 rfl ?_
  refine kALn X14 d10_13 rfl rfl ?_
  refine kVIRT X14 (gEL G) (argsL := []) (rest := [.int 0, .int 65533, .ref q1]) (wd G 63 rfl) (wd G 64 rfl) (own_nf X14.hZ (own_noinst (wd G 7 rfl))) (wd G 66 rfl) (wd G 65 rfl) (wd G 8 rfl) (wd G 67 rfl) (by decide) E_q0 (rm116 G i0 i1 i2 q0 q1 kp0 h0 X14.n O0 F_q0_value A_q1 c_0 c_6 c_3 c_1 c_8 c_4 c_2 c_10 c_5 F_q0_coder E_q0) all0 (lenOf pd___I rfl) rfl 3 rfl (by decide) hml.symm d10_14 (fun v15 T16 h17 vm18 _ w19 q20 C21 C22 X23 => ?_)
  obtain ⟨e25, f26⟩ := q20
  subst e25
  subst f26
  show Go _ _ _ _ _ (mkF _ _ _ [.int 3, .int 0, .int 65533, .ref q1])
  refine kSTAT X23 (gEL G) (argsL := [.ref q1, .int 65533, .int 0, .int 3]) (rest := []) (wd G 73 rfl) (wd G 74 rfl) (wd G 34 rfl) (wd G 75 rfl) (by decide) (rm118 G i0 i1 i2 q1 kp0 h0 X23.n O0 ) all0 (lenOf pd___BIII_I rfl) rfl 0 rfl (by decide) hml.symm d10_17 (fun v27 T28 h29 vm30 _ w31 q32 C33 C34 X35 => ?_)
  obtain ⟨e37, f38⟩ := q32
  subst e37
  subst f38
  show Go _ _ _ _ _ (mkF _ _ _ [.int (-1)])
  refine kGOTO X35 36 d10_20 (by decide) ?_
  exact kRETI X35 (gEL G) hret d10_36 (fun ve hve => ⟨rfl, rfl⟩) (by decide)
def R_rm113 : Room := { frames := 3, cells := 0, slots := 0, locals := 42 }
theorem rm113 (G : Glob Z a0 iCS vSI) (i0 i1 i2 : Int32) (q0 q1 : Addr) (kp0 : ClassId) (h0 : Heap) (Z0 : n0 ≤ h0.size) (O0 : Old Z n0 h0) (c_0 : ¬ (255 : Int32) < i0) (c_6 : ¬ i0 < 0) (c_3 : ¬ (65535 : Int32) < i0) (c_1 : ¬ (255 : Int32) < i1) (c_8 : ¬ i1 < 0) (c_4 : ¬ (65535 : Int32) < i1) (c_2 : ¬ (255 : Int32) < i2) (c_10 : ¬ i2 < 0) (c_5 : ¬ (65535 : Int32) < i2) (F_q0_coder : Fld Z h0 q0 "java/lang/String" "coder" "B" (.int 0)) (E_q0 : Exa Z h0 q0 "java/lang/String") (F_q0_value : Fld Z h0 q0 "java/lang/String" "value" "[B" (.ref q1)) (A_q1 : Arv Z h0 q1 kp0 .byte 3 [.int (ownB i0), .int (ownB i1), .int (ownB i2)] (.int 0)) : MetH l Z EL0 n0 N_jdk_42_m_79 jdk_42_method_79_code 2 (some .int) [] R_rm113 #[.ref q0, .int 65533] h0 [] (fun vs v h ve => (v = some (.int (-1)) ∧ (h0 = h))) := by
  refine MetH.of #[.val (.ref q0), .val (.int 65533)] (plainFor_of_name pn_java_lang_String) rfl Z0 (fun p e s m below meth c T0 hret hml hnm hSL hs0 X0 => ?_)
  refine kALn X0 d9_0 rfl rfl ?_
  refine kILn X0 d9_1 rfl ?_
  refine kIC X0 0 d9_2 (by decide) ?_
  refine kVIRT X0 (gEL G) (argsL := [.int 65533, .int 0]) (rest := []) (wd G 53 rfl) (wd G 54 rfl) (own_nf X0.hZ (own_noinst (wd G 7 rfl))) (wd G 56 rfl) (wd G 55 rfl) (wd G 8 rfl) (wd G 57 rfl) (by decide) E_q0 (rm114 G i0 i1 i2 q0 q1 kp0 h0 X0.n O0 c_0 c_6 c_3 c_1 c_8 c_4 c_2 c_10 c_5 F_q0_coder E_q0 F_q0_value A_q1) all0 (lenOf pd__II_I rfl) rfl 0 rfl (by decide) hml.symm d9_3 (fun v1 T2 h3 vm4 _ w5 q6 C7 C8 X9 => ?_)
  obtain ⟨e11, f12⟩ := q6
  subst e11
  subst f12
  show Go _ _ _ _ _ (mkF _ _ _ [.int (-1)])
  exact kRETI X9 (gEL G) hret d9_6 (fun ve hve => ⟨rfl, rfl⟩) (by decide)
def R_rm112 : Room := { frames := 4, cells := 0, slots := 0, locals := 55 }
theorem rm112 (G : Glob Z a0 iCS vSI) (i0 i1 i2 i3 : Int32) (q0 q1 q2 q3 : Addr) (kp0 kp1 : ClassId) (h0 : Heap) (Z0 : n0 ≤ h0.size) (O0 : Old Z n0 h0) (c_0 : ¬ (255 : Int32) < i0) (c_7 : ¬ i0 < 0) (c_4 : ¬ (65535 : Int32) < i0) (c_1 : ¬ (255 : Int32) < i1) (c_9 : ¬ i1 < 0) (c_5 : ¬ (65535 : Int32) < i1) (c_2 : ¬ (255 : Int32) < i2) (c_11 : ¬ i2 < 0) (c_6 : ¬ (65535 : Int32) < i2) (F_q0_coder : Fld Z h0 q0 "java/lang/String" "coder" "B" (.int 0)) (E_q0 : Exa Z h0 q0 "java/lang/String") (F_q0_value : Fld Z h0 q0 "java/lang/String" "value" "[B" (.ref q2)) (A_q2 : Arv Z h0 q2 kp0 .byte 3 [.int (ownB i0), .int (ownB i1), .int (ownB i2)] (.int 0)) : MetH l Z EL0 n0 N_prog_38_m_14 prog_38_method_14_code 2 none [] R_rm112 #[.ref q0, .ref q1] h0 [] (fun vs v h ve => (v = none ∧ (h0 = h))) := by
  refine MetH.of #[.val (.ref q0), .val (.ref q1)] (plainFor_of_name pn_com_example_evoke_evoke_Options) rfl Z0 (fun p e s m below meth c T0 hret hml hnm hSL hs0 X0 => ?_)
  refine kALn X0 d8_0 rfl rfl ?_
  refine kLDCI X0 (wd G 47 rfl) d8_1 ?_
  refine kVIRT X0 (gEL G) (argsL := [.int 65533]) (rest := []) (wd G 48 rfl) (wd G 49 rfl) (own_nf X0.hZ (own_noinst (wd G 7 rfl))) (wd G 51 rfl) (wd G 50 rfl) (wd G 8 rfl) (wd G 52 rfl) (by decide) E_q0 (rm113 G i0 i1 i2 q0 q2 kp0 h0 X0.n O0 c_0 c_7 c_4 c_1 c_9 c_5 c_2 c_11 c_6 F_q0_coder E_q0 F_q0_value A_q2) all0 (lenOf pd__I_I rfl) rfl 0 rfl (by decide) hml.symm d8_3 (fun v1 T2 h3 vm4 _ w5 q6 C7 C8 X9 => ?_)
  obtain ⟨e11, f12⟩ := q6
  subst e11
  subst f12
  show Go _ _ _ _ _ (mkF _ _ _ [.int (-1)])
  refine kIFt X9 29 d8_6 (XT.i0_lt_t (by decide)) (by decide) ?_
  exact kRETV X9 (gEL G) hret d8_29 (fun ve hve => ⟨rfl, rfl⟩) (by decide)
theorem pn_law : plainName x.cls = true := pn_com_example_evoke_evoke_OptionsRequireDecodedPinLaw
theorem rm0 (G : Glob Z a0 iCS vSI) (i0 : Int32) (i1 : Int32) (i2 : Int32) (i3 : Int32) (i4 : Int32) (h0 : Heap) (Z0 : n0 ≤ h0.size) (O0 : Old Z n0 h0) : MetH l Z EL0 n0 x code maxLocals ret tables_1 room_1 #[.int i0, .int i1, .int i2, .int i3, .int i4] h0 [] (fun vs v h ve => v = some (.int 1)) := by
  refine MetH.of #[.val (.int i0), .val (.int i1), .val (.int i2), .val (.int i3), .val (.int i4), .unset, .unset, .unset, .unset, .unset, .unset] (plainFor_of_name pn_law) rfl Z0 (fun p e s m below meth c T0 hret hml hnm hSL hs0 X0 => ?_)
  refine kILn X0 at_0 rfl ?_
  refine kSTAT X0 (gEL G) (argsL := [.int i1]) (rest := []) (wd G 0 rfl) (wd G 1 rfl) (wd G 2 rfl) (wd G 3 rfl) (by decide) (rm1 G i1 h0 X0.n O0 ) all0 (lenOf pd__I_C rfl) rfl 0 rfl (by decide) hml.symm at_1 (fun v1 T2 h3 vm4 _ w5 q6 C7 C8 X9 => ?_)
  obtain ⟨e11, f12⟩ := q6
  subst e11
  subst f12
  show Go _ _ _ _ _ (mkF _ _ _ [.int (ownCh i1)])
  refine kIS X9 #[.val (.int i0), .val (.int i1), .val (.int i2), .val (.int i3), .val (.int i4), .val (.int (ownCh i1)), .unset, .unset, .unset, .unset, .unset] at_4 rfl ?_
  refine kILn X9 at_6 rfl ?_
  refine kSTAT X9 (gEL G) (argsL := [.int i2]) (rest := []) (wd G 0 rfl) (wd G 1 rfl) (wd G 2 rfl) (wd G 3 rfl) (by decide) (rm1 G i2 h0 X9.n O0 ) all0 (lenOf pd__I_C rfl) rfl 0 rfl (by decide) hml.symm at_7 (fun v13 T14 h15 vm16 _ w17 q18 C19 C20 X21 => ?_)
  obtain ⟨e23, f24⟩ := q18
  subst e23
  subst f24
  show Go _ _ _ _ _ (mkF _ _ _ [.int (ownCh i2)])
  refine kIS X21 #[.val (.int i0), .val (.int i1), .val (.int i2), .val (.int i3), .val (.int i4), .val (.int (ownCh i1)), .val (.int (ownCh i2)), .unset, .unset, .unset, .unset] at_10 rfl ?_
  refine kILn X21 at_12 rfl ?_
  refine kSTAT X21 (gEL G) (argsL := [.int i3]) (rest := []) (wd G 0 rfl) (wd G 1 rfl) (wd G 2 rfl) (wd G 3 rfl) (by decide) (rm1 G i3 h0 X21.n O0 ) all0 (lenOf pd__I_C rfl) rfl 0 rfl (by decide) hml.symm at_13 (fun v25 T26 h27 vm28 _ w29 q30 C31 C32 X33 => ?_)
  obtain ⟨e35, f36⟩ := q30
  subst e35
  subst f36
  show Go _ _ _ _ _ (mkF _ _ _ [.int (ownCh i3)])
  refine kIS X33 #[.val (.int i0), .val (.int i1), .val (.int i2), .val (.int i3), .val (.int i4), .val (.int (ownCh i1)), .val (.int (ownCh i2)), .val (.int (ownCh i3)), .unset, .unset, .unset] at_16 rfl ?_
  refine kILn X33 at_18 rfl ?_
  refine kIC X33 3 at_19 (by decide) ?_
  refine kIAND X33 (i0 &&& (3 : Int32)) at_20 rfl ?_
  refine kIS X33 #[.val (.int i0), .val (.int i1), .val (.int i2), .val (.int i3), .val (.int i4), .val (.int (ownCh i1)), .val (.int (ownCh i2)), .val (.int (ownCh i3)), .val (.int (i0 &&& (3 : Int32))), .unset, .unset] at_21 rfl ?_
  rcases own_and3 i0 with hk37 | hk37 | hk37 | hk37
  · rw [hk37]
    clear hk37
    refine kIL X33 at_23 rfl ?_
    refine kIFf X33 at_25 (XT.i0_ne_f (by decide)) ?_
    refine kNEW X33 (wd G 6 rfl) (wd G 7 rfl) (wd G 8 rfl) at_28 (by decide) (by decide) (fun T38 h39 a41 E42 q43 g44 A45 D46 s47 X40 => ?_)
    have g48 : h0.size ≤ a41 := q43 ▸ X33.g0
    have f49 : Fld Z h39 a41 "java/lang/String" "value" "[B" (.null) := D46 (Or.inr (wd G 22 rfl)) (ty := (.array (.byte))) (by decide)
    have f50 : Fld Z h39 a41 "java/lang/String" "coder" "B" (.int 0) := D46 (Or.inr (wd G 23 rfl)) (ty := .byte) (by decide)
    refine kDUP X40 at_31 rfl ?_
    refine kIC X40 0 at_32 (by decide) ?_
    refine kNEWP X40 (wd G 9 rfl) (cap := 0) at_33 (by decide) (by decide) (by decide) (by decide) (by decide) (fun T51 h52 a54 k55 E56 q57 g58 A59 s60 X53 => ?_)
    have n61 : a41 ≠ a54 := Nat.ne_of_lt (Nat.lt_of_lt_of_le (A45.lt) (Nat.le_of_eq q57.symm))
    have g62 : h0.size ≤ a54 := q57 ▸ X40.g0
    have f63 : Arv Z h52 a54 k55 .char 0 [] (.int 0) := A59.pad (pad_rep [] _ 0)
    have f64 := (Exa.ext E56 A45)
    have f65 := (Fld.ext E56 f49)
    have f66 := (Fld.ext E56 f50)
    have f67 := (Old.ext (Old.ext O0 E42) E56)
    have f77 := (Safe.ext E56 X40.C.1 s47)
    refine kSPEC X53 (gEL G) (argsL := [.ref a54]) (rest := [.ref a41]) (wd G 10 rfl) (wd G 11 rfl) (wd G 8 rfl) (wd G 12 rfl) rfl (by decide) (rm2 G a41 a54 k55 h52 X53.n f67 f63 f64 f65 (Ne.symm n61) f66 g44) (allS ⟨(f64.lt), f77⟩ all0) (lenOf pd___C_V rfl) rfl 1 rfl (by decide) hml.symm at_35 (fun v68 T69 h70 vm71 _ w72 q73 C74 C75 X76 => ?_)
    obtain ⟨a79, k80, e81, f82, f83, f84, f85, f86⟩ := q73
    subst e81
    have n87 : a41 ≠ a79 := f83 a41 (f64.lt) (CHr.safe C74 (f64.lt) f77)
    have n88 : a54 ≠ a79 := f83 a54 (f63.lt) (CHr.safe C74 (f63.lt) (Safe.arv X53.hZ.alike f63 (by decide)))
    have n89 : ∀ x, x < h0.size → Safe Z EL0 s.vm h0 x → x ≠ a79 := fun x hx S => f83 x (Nat.lt_of_lt_of_le hx X53.g0) (CHr.safe C74 (Nat.lt_of_lt_of_le hx X53.g0) (CHr.safe (hs0 ▸ X53.C) hx S))
    show Go _ _ _ _ _ (mkF _ _ _ [.ref a41])
    refine kAS X76 #[.val (.int i0), .val (.int i1), .val (.int i2), .val (.int i3), .val (.int i4), .val (.int (ownCh i1)), .val (.int (ownCh i2)), .val (.int (ownCh i3)), .val (.int 0), .val (.ref a41), .unset] at_38 rfl rfl ?_
    refine kGOTO X76 127 at_40 (by decide) ?_
    refine kIL X76 at_127 rfl ?_
    refine kSI X76 255 at_129 (by decide) ?_
    refine kIAND X76 (i4 &&& (255 : Int32)) at_132 rfl ?_
    refine kI2C X76 (i4 &&& (255 : Int32)) at_133 (i2c_mask _) ?_
    have f90 := (Old.keep f67 f82 (allS g44 all0))
    refine kSTAT X76 (gEL G) (argsL := [.int (i4 &&& (255 : Int32))]) (rest := []) (wd G 28 rfl) (wd G 29 rfl) (wd G 8 rfl) (wd G 30 rfl) (by decide) (rm4 G (i4 &&& (255 : Int32)) h70 X76.n f90 (own_mask _).1 (own_mask _).2) all0 (lenOf pd__C_Ljava_lang_String_ rfl) rfl 0 rfl (by decide) hml.symm at_134 (fun v91 T92 h93 vm94 _ w95 q96 C97 C98 X99 => ?_)
    obtain ⟨a101, a102, k103, e104, f105, f106, f107, f108, f109, f110, f111, f112, f113, f114⟩ := q96
    subst e104
    have n115 : a41 ≠ a101 := Nat.ne_of_lt (Nat.lt_of_lt_of_le (f86.lt) f106)
    have f117 := (Arv.keep f63 f82 (ninS (Ne.symm n61) nin0))
    have n116 : a54 ≠ a101 := Nat.ne_of_lt (Nat.lt_of_lt_of_le (f117.lt) f106)
    have n118 : a79 ≠ a101 := Nat.ne_of_lt (Nat.lt_of_lt_of_le (f84.lt) f106)
    have n119 : a41 ≠ a102 := Nat.ne_of_lt (Nat.lt_of_lt_of_le (f86.lt) f107)
    have n120 : a54 ≠ a102 := Nat.ne_of_lt (Nat.lt_of_lt_of_le (f117.lt) f107)
    have n121 : a79 ≠ a102 := Nat.ne_of_lt (Nat.lt_of_lt_of_le (f84.lt) f107)
    have g122 : n0 ≤ a101 := Nat.le_trans X76.n f106
    have g123 : h0.size ≤ a101 := Nat.le_trans X76.g0 f106
    have g124 : n0 ≤ a102 := Nat.le_trans X76.n f107
    have g125 : h0.size ≤ a102 := Nat.le_trans X76.g0 f107
    show Go _ _ _ _ _ (mkF _ _ _ [.ref a101])
    refine kAS X99 #[.val (.int i0), .val (.int i1), .val (.int i2), .val (.int i3), .val (.int i4), .val (.int (ownCh i1)), .val (.int (ownCh i2)), .val (.int (ownCh i3)), .val (.int 0), .val (.ref a41), .val (.ref a101)] at_137 rfl rfl ?_
    refine kAL X99 at_139 rfl rfl ?_
    refine kAL X99 at_141 rfl rfl ?_
    have f126 := (Fld.keep f85 f105 nin0)
    have f127 := (Exa.keep (Exa.keep f64 f82) f105)
    have f128 := (Fld.keep f86 f105 nin0)
    have f129 := (Arv.keep f84 f105 nin0)
    have f130 := (Old.keep f90 f105 all0)
    refine kSTAT X99 (gEL G) (argsL := [.ref a41, .ref a101]) (rest := []) (wd G 43 rfl) (wd G 44 rfl) (wd G 45 rfl) (wd G 46 rfl) (by decide) (rm8 G (i4 &&& (255 : Int32)) a41 a101 a79 a102 k80 k103 h93 X99.n f130 f126 f127 f128 f129) all0 (lenOf pd__Ljava_lang_String_Ljava_lang_String__V rfl) rfl 0 rfl (by decide) hml.symm at_143 (fun v131 T132 h133 vm134 _ w135 q136 C137 C138 X139 => ?_)
    obtain ⟨e141, f142⟩ := q136
    subst e141
    subst f142
    show Go _ _ _ _ _ (mkF _ _ _ [])
    refine kIC X139 1 at_146 (by decide) ?_
    exact kRETZ X139 (gEL G) (t := .boolean) hret (by simp) at_147 (fun _ _ => rfl) (by decide)
  · rw [hk37]
    clear hk37
    refine kIL X33 at_23 rfl ?_
    refine kIFt X33 43 at_25 (XT.i0_ne_t (by decide)) (by decide) ?_
    refine kIL X33 at_43 rfl ?_
    refine kIC X33 1 at_45 (by decide) ?_
    refine kICf X33 at_46 (XT.ii_ne_f (by decide)) ?_
    refine kNEW X33 (wd G 6 rfl) (wd G 7 rfl) (wd G 8 rfl) at_49 (by decide) (by decide) (fun T143 h144 a146 E147 q148 g149 A150 D151 s152 X145 => ?_)
    have g153 : h0.size ≤ a146 := q148 ▸ X33.g0
    have f154 : Fld Z h144 a146 "java/lang/String" "value" "[B" (.null) := D151 (Or.inr (wd G 22 rfl)) (ty := (.array (.byte))) (by decide)
    have f155 : Fld Z h144 a146 "java/lang/String" "coder" "B" (.int 0) := D151 (Or.inr (wd G 23 rfl)) (ty := .byte) (by decide)
    refine kDUP X145 at_52 rfl ?_
    refine kIC X145 1 at_53 (by decide) ?_
    refine kNEWP X145 (wd G 9 rfl) (cap := 1) at_54 (by decide) (by decide) (by decide) (by decide) (by decide) (fun T156 h157 a159 k160 E161 q162 g163 A164 s165 X158 => ?_)
    have n166 : a146 ≠ a159 := Nat.ne_of_lt (Nat.lt_of_lt_of_le (A150.lt) (Nat.le_of_eq q162.symm))
    have g167 : h0.size ≤ a159 := q162 ▸ X145.g0
    have f168 : Arv Z h157 a159 k160 .char 1 [.int 0] (.int 0) := A164.pad (pad_rep [] _ 1)
    refine kDUP X158 at_56 rfl ?_
    refine kIC X158 0 at_57 (by decide) ?_
    refine kIL X158 at_58 rfl ?_
    refine kCASTO X158 f168 (by decide) 0 (ownCh i1) (own_n16 (own_chr _).1 (own_chr _).2.1) (by decide) (by show 0 < 1; decide) g163 (Safe.arv X158.hZ.alike f168 (by decide)) at_60 (fun T169 h170 L172 W173 f174 X171 => ?_)
    have f175 : Arv Z h170 a159 k160 .char 1 [.int (ownCh i1)] (.int 0) := f174
    have f176 := (Exa.wr W173 (Exa.ext E161 A150))
    have f177 := (Fld.other W173 (Fld.ext E161 f155) (Or.inl n166))
    have f178 := (Fld.other W173 (Fld.ext E161 f154) (Or.inl n166))
    have f179 := (Old.wr (Old.ext (Old.ext O0 E147) E161) W173 g163)
    have f189 := (Safe.wr W173 (Safe.arv X158.hZ.alike f168 (by decide)) X158.C.1 (Safe.ext E161 X145.C.1 s152))
    refine kSPEC X171 (gEL G) (argsL := [.ref a159]) (rest := [.ref a146]) (wd G 10 rfl) (wd G 11 rfl) (wd G 8 rfl) (wd G 12 rfl) rfl (by decide) (rm16 G (ownCh i1) a146 a159 k160 h170 X171.n f179 f175 (own_chr _).1 (own_chr _).2.1 f176 f177 f178 g149) (allS ⟨(f176.lt), f189⟩ all0) (lenOf pd___C_V rfl) rfl 1 rfl (by decide) hml.symm at_61 (fun v180 T181 h182 vm183 _ w184 q185 C186 C187 X188 => ?_)
    rcases q185 with o191 | o192
    · obtain ⟨a193, k194, e195, f196, f197, f198, f199, f200, f201, f202⟩ := o191
      subst e195
      have n203 : a146 ≠ a193 := Nat.ne_of_lt (Nat.lt_of_lt_of_le (f176.lt) f198)
      have n204 : a159 ≠ a193 := Nat.ne_of_lt (Nat.lt_of_lt_of_le (f175.lt) f198)
      have g205 : n0 ≤ a193 := Nat.le_trans X171.n f198
      have g206 : h0.size ≤ a193 := Nat.le_trans X171.g0 f198
      show Go _ _ _ _ _ (mkF _ _ _ [.ref a146])
      refine kAS X188 #[.val (.int i0), .val (.int i1), .val (.int i2), .val (.int i3), .val (.int i4), .val (.int (ownCh i1)), .val (.int (ownCh i2)), .val (.int (ownCh i3)), .val (.int 1), .val (.ref a146), .unset] at_64 rfl rfl ?_
      refine kGOTO X188 127 at_66 (by decide) ?_
      refine kIL X188 at_127 rfl ?_
      refine kSI X188 255 at_129 (by decide) ?_
      refine kIAND X188 (i4 &&& (255 : Int32)) at_132 rfl ?_
      refine kI2C X188 (i4 &&& (255 : Int32)) at_133 (i2c_mask _) ?_
      have f207 := (Old.keep f179 f197 (allS g149 all0))
      refine kSTAT X188 (gEL G) (argsL := [.int (i4 &&& (255 : Int32))]) (rest := []) (wd G 28 rfl) (wd G 29 rfl) (wd G 8 rfl) (wd G 30 rfl) (by decide) (rm4 G (i4 &&& (255 : Int32)) h182 X188.n f207 (own_mask _).1 (own_mask _).2) all0 (lenOf pd__C_Ljava_lang_String_ rfl) rfl 0 rfl (by decide) hml.symm at_134 (fun v208 T209 h210 vm211 _ w212 q213 C214 C215 X216 => ?_)
      obtain ⟨a218, a219, k220, e221, f222, f223, f224, f225, f226, f227, f228, f229, f230, f231⟩ := q213
      subst e221
      have n232 : a146 ≠ a218 := Nat.ne_of_lt (Nat.lt_of_lt_of_le (f202.lt) f223)
      have f234 := (Arv.keep f175 f197 (ninS (Ne.symm n166) nin0))
      have n233 : a159 ≠ a218 := Nat.ne_of_lt (Nat.lt_of_lt_of_le (f234.lt) f223)
      have n235 : a193 ≠ a218 := Nat.ne_of_lt (Nat.lt_of_lt_of_le (f199.lt) f223)
      have n236 : a146 ≠ a219 := Nat.ne_of_lt (Nat.lt_of_lt_of_le (f202.lt) f224)
      have n237 : a159 ≠ a219 := Nat.ne_of_lt (Nat.lt_of_lt_of_le (f234.lt) f224)
      have n238 : a193 ≠ a219 := Nat.ne_of_lt (Nat.lt_of_lt_of_le (f199.lt) f224)
      have g239 : n0 ≤ a218 := Nat.le_trans X188.n f223
      have g240 : h0.size ≤ a218 := Nat.le_trans X188.g0 f223
      have g241 : n0 ≤ a219 := Nat.le_trans X188.n f224
      have g242 : h0.size ≤ a219 := Nat.le_trans X188.g0 f224
      show Go _ _ _ _ _ (mkF _ _ _ [.ref a218])
      refine kAS X216 #[.val (.int i0), .val (.int i1), .val (.int i2), .val (.int i3), .val (.int i4), .val (.int (ownCh i1)), .val (.int (ownCh i2)), .val (.int (ownCh i3)), .val (.int 1), .val (.ref a146), .val (.ref a218)] at_137 rfl rfl ?_
      refine kAL X216 at_139 rfl rfl ?_
      refine kAL X216 at_141 rfl rfl ?_
      have f243 := (Fld.keep f201 f222 nin0)
      have f244 := (Exa.keep (Exa.keep f176 f197) f222)
      have f245 := (Fld.keep f202 f222 nin0)
      have f246 := (Arv.keep f199 f222 nin0)
      have f247 := (Old.keep f207 f222 all0)
      refine kSTAT X216 (gEL G) (argsL := [.ref a146, .ref a218]) (rest := []) (wd G 43 rfl) (wd G 44 rfl) (wd G 45 rfl) (wd G 46 rfl) (by decide) (rm27 G (ownCh i1) (i4 &&& (255 : Int32)) a146 a218 a193 a219 k194 k220 h210 X216.n f247 (own_chr _).1 (own_chr _).2.1 f243 f244 f245 f246 (own_chr _).2.2) all0 (lenOf pd__Ljava_lang_String_Ljava_lang_String__V rfl) rfl 0 rfl (by decide) hml.symm at_143 (fun v248 T249 h250 vm251 _ w252 q253 C254 C255 X256 => ?_)
      obtain ⟨e258, f259⟩ := q253
      subst e258
      subst f259
      show Go _ _ _ _ _ (mkF _ _ _ [])
      refine kIC X256 1 at_146 (by decide) ?_
      exact kRETZ X256 (gEL G) (t := .boolean) hret (by simp) at_147 (fun _ _ => rfl) (by decide)
    · obtain ⟨a260, k261, e262, f263, f264, f265, f266, f267, f268, f269⟩ := o192
      subst e262
      have n270 : a146 ≠ a260 := Nat.ne_of_lt (Nat.lt_of_lt_of_le (f176.lt) f265)
      have n271 : a159 ≠ a260 := Nat.ne_of_lt (Nat.lt_of_lt_of_le (f175.lt) f265)
      have g272 : n0 ≤ a260 := Nat.le_trans X171.n f265
      have g273 : h0.size ≤ a260 := Nat.le_trans X171.g0 f265
      show Go _ _ _ _ _ (mkF _ _ _ [.ref a146])
      refine kAS X188 #[.val (.int i0), .val (.int i1), .val (.int i2), .val (.int i3), .val (.int i4), .val (.int (ownCh i1)), .val (.int (ownCh i2)), .val (.int (ownCh i3)), .val (.int 1), .val (.ref a146), .unset] at_64 rfl rfl ?_
      refine kGOTO X188 127 at_66 (by decide) ?_
      refine kIL X188 at_127 rfl ?_
      refine kSI X188 255 at_129 (by decide) ?_
      refine kIAND X188 (i4 &&& (255 : Int32)) at_132 rfl ?_
      refine kI2C X188 (i4 &&& (255 : Int32)) at_133 (i2c_mask _) ?_
      have f274 := (Old.keep f179 f264 (allS g149 all0))
      refine kSTAT X188 (gEL G) (argsL := [.int (i4 &&& (255 : Int32))]) (rest := []) (wd G 28 rfl) (wd G 29 rfl) (wd G 8 rfl) (wd G 30 rfl) (by decide) (rm4 G (i4 &&& (255 : Int32)) h182 X188.n f274 (own_mask _).1 (own_mask _).2) all0 (lenOf pd__C_Ljava_lang_String_ rfl) rfl 0 rfl (by decide) hml.symm at_134 (fun v275 T276 h277 vm278 _ w279 q280 C281 C282 X283 => ?_)
      obtain ⟨a285, a286, k287, e288, f289, f290, f291, f292, f293, f294, f295, f296, f297, f298⟩ := q280
      subst e288
      have n299 : a146 ≠ a285 := Nat.ne_of_lt (Nat.lt_of_lt_of_le (f269.lt) f290)
      have f301 := (Arv.keep f175 f264 (ninS (Ne.symm n166) nin0))
      have n300 : a159 ≠ a285 := Nat.ne_of_lt (Nat.lt_of_lt_of_le (f301.lt) f290)
      have n302 : a260 ≠ a285 := Nat.ne_of_lt (Nat.lt_of_lt_of_le (f266.lt) f290)
      have n303 : a146 ≠ a286 := Nat.ne_of_lt (Nat.lt_of_lt_of_le (f269.lt) f291)
      have n304 : a159 ≠ a286 := Nat.ne_of_lt (Nat.lt_of_lt_of_le (f301.lt) f291)
      have n305 : a260 ≠ a286 := Nat.ne_of_lt (Nat.lt_of_lt_of_le (f266.lt) f291)
      have g306 : n0 ≤ a285 := Nat.le_trans X188.n f290
      have g307 : h0.size ≤ a285 := Nat.le_trans X188.g0 f290
      have g308 : n0 ≤ a286 := Nat.le_trans X188.n f291
      have g309 : h0.size ≤ a286 := Nat.le_trans X188.g0 f291
      show Go _ _ _ _ _ (mkF _ _ _ [.ref a285])
      refine kAS X283 #[.val (.int i0), .val (.int i1), .val (.int i2), .val (.int i3), .val (.int i4), .val (.int (ownCh i1)), .val (.int (ownCh i2)), .val (.int (ownCh i3)), .val (.int 1), .val (.ref a146), .val (.ref a285)] at_137 rfl rfl ?_
      refine kAL X283 at_139 rfl rfl ?_
      refine kAL X283 at_141 rfl rfl ?_
      have f310 := (Fld.keep f268 f289 nin0)
      have f311 := (Exa.keep (Exa.keep f176 f264) f289)
      have f312 := (Fld.keep f269 f289 nin0)
      have f313 := (Arv.keep f266 f289 nin0)
      have f314 := (Old.keep f274 f289 all0)
      refine kSTAT X283 (gEL G) (argsL := [.ref a146, .ref a285]) (rest := []) (wd G 43 rfl) (wd G 44 rfl) (wd G 45 rfl) (wd G 46 rfl) (by decide) (rm42 G (ownCh i1) (i4 &&& (255 : Int32)) a146 a285 a260 a286 k261 k287 h277 X283.n f314 f263 (own_chr _).2.1 (own_chr _).1 f310 f311 f312 f313) all0 (lenOf pd__Ljava_lang_String_Ljava_lang_String__V rfl) rfl 0 rfl (by decide) hml.symm at_143 (fun v315 T316 h317 vm318 _ w319 q320 C321 C322 X323 => ?_)
      obtain ⟨e325, f326⟩ := q320
      subst e325
      subst f326
      show Go _ _ _ _ _ (mkF _ _ _ [])
      refine kIC X323 1 at_146 (by decide) ?_
      exact kRETZ X323 (gEL G) (t := .boolean) hret (by simp) at_147 (fun _ _ => rfl) (by decide)
  · rw [hk37]
    clear hk37
    refine kIL X33 at_23 rfl ?_
    refine kIFt X33 43 at_25 (XT.i0_ne_t (by decide)) (by decide) ?_
    refine kIL X33 at_43 rfl ?_
    refine kIC X33 1 at_45 (by decide) ?_
    refine kICt X33 69 at_46 (XT.ii_ne_t (by decide)) (by decide) ?_
    refine kIL X33 at_69 rfl ?_
    refine kIC X33 2 at_71 (by decide) ?_
    refine kICf X33 at_72 (XT.ii_ne_f (by decide)) ?_
    refine kNEW X33 (wd G 6 rfl) (wd G 7 rfl) (wd G 8 rfl) at_75 (by decide) (by decide) (fun T327 h328 a330 E331 q332 g333 A334 D335 s336 X329 => ?_)
    have g337 : h0.size ≤ a330 := q332 ▸ X33.g0
    have f338 : Fld Z h328 a330 "java/lang/String" "value" "[B" (.null) := D335 (Or.inr (wd G 22 rfl)) (ty := (.array (.byte))) (by decide)
    have f339 : Fld Z h328 a330 "java/lang/String" "coder" "B" (.int 0) := D335 (Or.inr (wd G 23 rfl)) (ty := .byte) (by decide)
    refine kDUP X329 at_78 rfl ?_
    refine kIC X329 2 at_79 (by decide) ?_
    refine kNEWP X329 (wd G 9 rfl) (cap := 2) at_80 (by decide) (by decide) (by decide) (by decide) (by decide) (fun T340 h341 a343 k344 E345 q346 g347 A348 s349 X342 => ?_)
    have n350 : a330 ≠ a343 := Nat.ne_of_lt (Nat.lt_of_lt_of_le (A334.lt) (Nat.le_of_eq q346.symm))
    have g351 : h0.size ≤ a343 := q346 ▸ X329.g0
    have f352 : Arv Z h341 a343 k344 .char 2 [.int 0, .int 0] (.int 0) := A348.pad (pad_rep [] _ 2)
    refine kDUP X342 at_82 rfl ?_
    refine kIC X342 0 at_83 (by decide) ?_
    refine kIL X342 at_84 rfl ?_
    refine kCASTO X342 f352 (by decide) 0 (ownCh i1) (own_n16 (own_chr _).1 (own_chr _).2.1) (by decide) (by show 0 < 2; decide) g347 (Safe.arv X342.hZ.alike f352 (by decide)) at_86 (fun T353 h354 L356 W357 f358 X355 => ?_)
    have f359 : Arv Z h354 a343 k344 .char 2 [.int (ownCh i1), .int 0] (.int 0) := f358
    refine kDUP X355 at_87 rfl ?_
    refine kIC X355 1 at_88 (by decide) ?_
    refine kIL X355 at_89 rfl ?_
    refine kCASTO X355 f359 (by decide) 1 (ownCh i2) (own_n16 (own_chr _).1 (own_chr _).2.1) (by decide) (by show 1 < 2; decide) g347 (Safe.arv X355.hZ.alike f359 (by decide)) at_91 (fun T360 h361 L363 W364 f365 X362 => ?_)
    have f366 : Arv Z h361 a343 k344 .char 2 [.int (ownCh i1), .int (ownCh i2)] (.int 0) := f365
    have f367 := (Exa.wr W364 (Exa.wr W357 (Exa.ext E345 A334)))
    have f368 := (Fld.other W364 (Fld.other W357 (Fld.ext E345 f339) (Or.inl n350)) (Or.inl n350))
    have f369 := (Fld.other W364 (Fld.other W357 (Fld.ext E345 f338) (Or.inl n350)) (Or.inl n350))
    have f370 := (Old.wr (Old.wr (Old.ext (Old.ext O0 E331) E345) W357 g347) W364 g347)
    have f380 := (Safe.wr W364 (Safe.arv X355.hZ.alike f359 (by decide)) X355.C.1 (Safe.wr W357 (Safe.arv X342.hZ.alike f352 (by decide)) X342.C.1 (Safe.ext E345 X329.C.1 s336)))
    refine kSPEC X362 (gEL G) (argsL := [.ref a343]) (rest := [.ref a330]) (wd G 10 rfl) (wd G 11 rfl) (wd G 8 rfl) (wd G 12 rfl) rfl (by decide) (rm49 G (ownCh i1) (ownCh i2) a330 a343 k344 h361 X362.n f370 f366 (own_chr _).1 (own_chr _).2.1 (own_chr _).1 (own_chr _).2.1 f367 f368 f369 g333) (allS ⟨(f367.lt), f380⟩ all0) (lenOf pd___C_V rfl) rfl 1 rfl (by decide) hml.symm at_92 (fun v371 T372 h373 vm374 _ w375 q376 C377 C378 X379 => ?_)
    rcases q376 with o382 | o383 | o384
    · obtain ⟨a385, k386, e387, f388, f389, f390, f391, f392, f393, f394⟩ := o382
      subst e387
      have n395 : a330 ≠ a385 := Nat.ne_of_lt (Nat.lt_of_lt_of_le (f367.lt) f390)
      have n396 : a343 ≠ a385 := Nat.ne_of_lt (Nat.lt_of_lt_of_le (f366.lt) f390)
      have g397 : n0 ≤ a385 := Nat.le_trans X362.n f390
      have g398 : h0.size ≤ a385 := Nat.le_trans X362.g0 f390
      show Go _ _ _ _ _ (mkF _ _ _ [.ref a330])
      refine kAS X379 #[.val (.int i0), .val (.int i1), .val (.int i2), .val (.int i3), .val (.int i4), .val (.int (ownCh i1)), .val (.int (ownCh i2)), .val (.int (ownCh i3)), .val (.int 2), .val (.ref a330), .unset] at_95 rfl rfl ?_
      refine kGOTO X379 127 at_97 (by decide) ?_
      refine kIL X379 at_127 rfl ?_
      refine kSI X379 255 at_129 (by decide) ?_
      refine kIAND X379 (i4 &&& (255 : Int32)) at_132 rfl ?_
      refine kI2C X379 (i4 &&& (255 : Int32)) at_133 (i2c_mask _) ?_
      have f399 := (Old.keep f370 f389 (allS g333 all0))
      refine kSTAT X379 (gEL G) (argsL := [.int (i4 &&& (255 : Int32))]) (rest := []) (wd G 28 rfl) (wd G 29 rfl) (wd G 8 rfl) (wd G 30 rfl) (by decide) (rm4 G (i4 &&& (255 : Int32)) h373 X379.n f399 (own_mask _).1 (own_mask _).2) all0 (lenOf pd__C_Ljava_lang_String_ rfl) rfl 0 rfl (by decide) hml.symm at_134 (fun v400 T401 h402 vm403 _ w404 q405 C406 C407 X408 => ?_)
      obtain ⟨a410, a411, k412, e413, f414, f415, f416, f417, f418, f419, f420, f421, f422, f423⟩ := q405
      subst e413
      have n424 : a330 ≠ a410 := Nat.ne_of_lt (Nat.lt_of_lt_of_le (f394.lt) f415)
      have f426 := (Arv.keep f366 f389 (ninS (Ne.symm n350) nin0))
      have n425 : a343 ≠ a410 := Nat.ne_of_lt (Nat.lt_of_lt_of_le (f426.lt) f415)
      have n427 : a385 ≠ a410 := Nat.ne_of_lt (Nat.lt_of_lt_of_le (f391.lt) f415)
      have n428 : a330 ≠ a411 := Nat.ne_of_lt (Nat.lt_of_lt_of_le (f394.lt) f416)
      have n429 : a343 ≠ a411 := Nat.ne_of_lt (Nat.lt_of_lt_of_le (f426.lt) f416)
      have n430 : a385 ≠ a411 := Nat.ne_of_lt (Nat.lt_of_lt_of_le (f391.lt) f416)
      have g431 : n0 ≤ a410 := Nat.le_trans X379.n f415
      have g432 : h0.size ≤ a410 := Nat.le_trans X379.g0 f415
      have g433 : n0 ≤ a411 := Nat.le_trans X379.n f416
      have g434 : h0.size ≤ a411 := Nat.le_trans X379.g0 f416
      show Go _ _ _ _ _ (mkF _ _ _ [.ref a410])
      refine kAS X408 #[.val (.int i0), .val (.int i1), .val (.int i2), .val (.int i3), .val (.int i4), .val (.int (ownCh i1)), .val (.int (ownCh i2)), .val (.int (ownCh i3)), .val (.int 2), .val (.ref a330), .val (.ref a410)] at_137 rfl rfl ?_
      refine kAL X408 at_139 rfl rfl ?_
      refine kAL X408 at_141 rfl rfl ?_
      have f435 := (Fld.keep f393 f414 nin0)
      have f436 := (Exa.keep (Exa.keep f367 f389) f414)
      have f437 := (Fld.keep f394 f414 nin0)
      have f438 := (Arv.keep f391 f414 nin0)
      have f439 := (Old.keep f399 f414 all0)
      refine kSTAT X408 (gEL G) (argsL := [.ref a330, .ref a410]) (rest := []) (wd G 43 rfl) (wd G 44 rfl) (wd G 45 rfl) (wd G 46 rfl) (by decide) (rm62 G (ownCh i1) (ownCh i2) (i4 &&& (255 : Int32)) a330 a410 a385 a411 k386 k412 h402 X408.n f439 (own_chr _).1 (own_chr _).2.1 (own_chr _).1 (own_chr _).2.1 f435 f436 f437 f438 (own_chr _).2.2 (own_chr _).2.2) all0 (lenOf pd__Ljava_lang_String_Ljava_lang_String__V rfl) rfl 0 rfl (by decide) hml.symm at_143 (fun v440 T441 h442 vm443 _ w444 q445 C446 C447 X448 => ?_)
      obtain ⟨e450, f451⟩ := q445
      subst e450
      subst f451
      show Go _ _ _ _ _ (mkF _ _ _ [])
      refine kIC X448 1 at_146 (by decide) ?_
      exact kRETZ X448 (gEL G) (t := .boolean) hret (by simp) at_147 (fun _ _ => rfl) (by decide)
    · obtain ⟨a452, k453, e454, f455, f456, f457, f458, f459, f460, f461, f462⟩ := o383
      subst e454
      have n463 : a330 ≠ a452 := Nat.ne_of_lt (Nat.lt_of_lt_of_le (f367.lt) f458)
      have n464 : a343 ≠ a452 := Nat.ne_of_lt (Nat.lt_of_lt_of_le (f366.lt) f458)
      have g465 : n0 ≤ a452 := Nat.le_trans X362.n f458
      have g466 : h0.size ≤ a452 := Nat.le_trans X362.g0 f458
      show Go _ _ _ _ _ (mkF _ _ _ [.ref a330])
      refine kAS X379 #[.val (.int i0), .val (.int i1), .val (.int i2), .val (.int i3), .val (.int i4), .val (.int (ownCh i1)), .val (.int (ownCh i2)), .val (.int (ownCh i3)), .val (.int 2), .val (.ref a330), .unset] at_95 rfl rfl ?_
      refine kGOTO X379 127 at_97 (by decide) ?_
      refine kIL X379 at_127 rfl ?_
      refine kSI X379 255 at_129 (by decide) ?_
      refine kIAND X379 (i4 &&& (255 : Int32)) at_132 rfl ?_
      refine kI2C X379 (i4 &&& (255 : Int32)) at_133 (i2c_mask _) ?_
      have f467 := (Old.keep f370 f457 (allS g333 all0))
      refine kSTAT X379 (gEL G) (argsL := [.int (i4 &&& (255 : Int32))]) (rest := []) (wd G 28 rfl) (wd G 29 rfl) (wd G 8 rfl) (wd G 30 rfl) (by decide) (rm4 G (i4 &&& (255 : Int32)) h373 X379.n f467 (own_mask _).1 (own_mask _).2) all0 (lenOf pd__C_Ljava_lang_String_ rfl) rfl 0 rfl (by decide) hml.symm at_134 (fun v468 T469 h470 vm471 _ w472 q473 C474 C475 X476 => ?_)
      obtain ⟨a478, a479, k480, e481, f482, f483, f484, f485, f486, f487, f488, f489, f490, f491⟩ := q473
      subst e481
      have n492 : a330 ≠ a478 := Nat.ne_of_lt (Nat.lt_of_lt_of_le (f462.lt) f483)
      have f494 := (Arv.keep f366 f457 (ninS (Ne.symm n350) nin0))
      have n493 : a343 ≠ a478 := Nat.ne_of_lt (Nat.lt_of_lt_of_le (f494.lt) f483)
      have n495 : a452 ≠ a478 := Nat.ne_of_lt (Nat.lt_of_lt_of_le (f459.lt) f483)
      have n496 : a330 ≠ a479 := Nat.ne_of_lt (Nat.lt_of_lt_of_le (f462.lt) f484)
      have n497 : a343 ≠ a479 := Nat.ne_of_lt (Nat.lt_of_lt_of_le (f494.lt) f484)
      have n498 : a452 ≠ a479 := Nat.ne_of_lt (Nat.lt_of_lt_of_le (f459.lt) f484)
      have g499 : n0 ≤ a478 := Nat.le_trans X379.n f483
      have g500 : h0.size ≤ a478 := Nat.le_trans X379.g0 f483
      have g501 : n0 ≤ a479 := Nat.le_trans X379.n f484
      have g502 : h0.size ≤ a479 := Nat.le_trans X379.g0 f484
      show Go _ _ _ _ _ (mkF _ _ _ [.ref a478])
      refine kAS X476 #[.val (.int i0), .val (.int i1), .val (.int i2), .val (.int i3), .val (.int i4), .val (.int (ownCh i1)), .val (.int (ownCh i2)), .val (.int (ownCh i3)), .val (.int 2), .val (.ref a330), .val (.ref a478)] at_137 rfl rfl ?_
      refine kAL X476 at_139 rfl rfl ?_
      refine kAL X476 at_141 rfl rfl ?_
      have f503 := (Fld.keep f461 f482 nin0)
      have f504 := (Exa.keep (Exa.keep f367 f457) f482)
      have f505 := (Fld.keep f462 f482 nin0)
      have f506 := (Arv.keep f459 f482 nin0)
      have f507 := (Old.keep f467 f482 all0)
      refine kSTAT X476 (gEL G) (argsL := [.ref a330, .ref a478]) (rest := []) (wd G 43 rfl) (wd G 44 rfl) (wd G 45 rfl) (wd G 46 rfl) (by decide) (rm62 G (ownCh i1) (ownCh i2) (i4 &&& (255 : Int32)) a330 a478 a452 a479 k453 k480 h470 X476.n f507 (own_chr _).1 (own_chr _).2.1 (own_chr _).1 (own_chr _).2.1 f503 f504 f505 f506 (own_chr _).2.2 (own_chr _).2.2) all0 (lenOf pd__Ljava_lang_String_Ljava_lang_String__V rfl) rfl 0 rfl (by decide) hml.symm at_143 (fun v508 T509 h510 vm511 _ w512 q513 C514 C515 X516 => ?_)
      obtain ⟨e518, f519⟩ := q513
      subst e518
      subst f519
      show Go _ _ _ _ _ (mkF _ _ _ [])
      refine kIC X516 1 at_146 (by decide) ?_
      exact kRETZ X516 (gEL G) (t := .boolean) hret (by simp) at_147 (fun _ _ => rfl) (by decide)
    · obtain ⟨a520, k521, e522, f523, f524, f525, f526, f527, f528, f529, f530⟩ := o384
      subst e522
      have n531 : a330 ≠ a520 := Nat.ne_of_lt (Nat.lt_of_lt_of_le (f367.lt) f526)
      have n532 : a343 ≠ a520 := Nat.ne_of_lt (Nat.lt_of_lt_of_le (f366.lt) f526)
      have g533 : n0 ≤ a520 := Nat.le_trans X362.n f526
      have g534 : h0.size ≤ a520 := Nat.le_trans X362.g0 f526
      show Go _ _ _ _ _ (mkF _ _ _ [.ref a330])
      refine kAS X379 #[.val (.int i0), .val (.int i1), .val (.int i2), .val (.int i3), .val (.int i4), .val (.int (ownCh i1)), .val (.int (ownCh i2)), .val (.int (ownCh i3)), .val (.int 2), .val (.ref a330), .unset] at_95 rfl rfl ?_
      refine kGOTO X379 127 at_97 (by decide) ?_
      refine kIL X379 at_127 rfl ?_
      refine kSI X379 255 at_129 (by decide) ?_
      refine kIAND X379 (i4 &&& (255 : Int32)) at_132 rfl ?_
      refine kI2C X379 (i4 &&& (255 : Int32)) at_133 (i2c_mask _) ?_
      have f535 := (Old.keep f370 f525 (allS g333 all0))
      refine kSTAT X379 (gEL G) (argsL := [.int (i4 &&& (255 : Int32))]) (rest := []) (wd G 28 rfl) (wd G 29 rfl) (wd G 8 rfl) (wd G 30 rfl) (by decide) (rm4 G (i4 &&& (255 : Int32)) h373 X379.n f535 (own_mask _).1 (own_mask _).2) all0 (lenOf pd__C_Ljava_lang_String_ rfl) rfl 0 rfl (by decide) hml.symm at_134 (fun v536 T537 h538 vm539 _ w540 q541 C542 C543 X544 => ?_)
      obtain ⟨a546, a547, k548, e549, f550, f551, f552, f553, f554, f555, f556, f557, f558, f559⟩ := q541
      subst e549
      have n560 : a330 ≠ a546 := Nat.ne_of_lt (Nat.lt_of_lt_of_le (f530.lt) f551)
      have f562 := (Arv.keep f366 f525 (ninS (Ne.symm n350) nin0))
      have n561 : a343 ≠ a546 := Nat.ne_of_lt (Nat.lt_of_lt_of_le (f562.lt) f551)
      have n563 : a520 ≠ a546 := Nat.ne_of_lt (Nat.lt_of_lt_of_le (f527.lt) f551)
      have n564 : a330 ≠ a547 := Nat.ne_of_lt (Nat.lt_of_lt_of_le (f530.lt) f552)
      have n565 : a343 ≠ a547 := Nat.ne_of_lt (Nat.lt_of_lt_of_le (f562.lt) f552)
      have n566 : a520 ≠ a547 := Nat.ne_of_lt (Nat.lt_of_lt_of_le (f527.lt) f552)
      have g567 : n0 ≤ a546 := Nat.le_trans X379.n f551
      have g568 : h0.size ≤ a546 := Nat.le_trans X379.g0 f551
      have g569 : n0 ≤ a547 := Nat.le_trans X379.n f552
      have g570 : h0.size ≤ a547 := Nat.le_trans X379.g0 f552
      show Go _ _ _ _ _ (mkF _ _ _ [.ref a546])
      refine kAS X544 #[.val (.int i0), .val (.int i1), .val (.int i2), .val (.int i3), .val (.int i4), .val (.int (ownCh i1)), .val (.int (ownCh i2)), .val (.int (ownCh i3)), .val (.int 2), .val (.ref a330), .val (.ref a546)] at_137 rfl rfl ?_
      refine kAL X544 at_139 rfl rfl ?_
      refine kAL X544 at_141 rfl rfl ?_
      have f571 := (Fld.keep f529 f550 nin0)
      have f572 := (Exa.keep (Exa.keep f367 f525) f550)
      have f573 := (Fld.keep f530 f550 nin0)
      have f574 := (Arv.keep f527 f550 nin0)
      have f575 := (Old.keep f535 f550 all0)
      refine kSTAT X544 (gEL G) (argsL := [.ref a330, .ref a546]) (rest := []) (wd G 43 rfl) (wd G 44 rfl) (wd G 45 rfl) (wd G 46 rfl) (by decide) (rm76 G (ownCh i1) (ownCh i2) (i4 &&& (255 : Int32)) a330 a546 a520 a547 k521 k548 h538 X544.n f575 f523 (own_chr _).2.1 (own_chr _).1 f524 (own_chr _).2.1 (own_chr _).1 f571 f572 f573 f574) all0 (lenOf pd__Ljava_lang_String_Ljava_lang_String__V rfl) rfl 0 rfl (by decide) hml.symm at_143 (fun v576 T577 h578 vm579 _ w580 q581 C582 C583 X584 => ?_)
      obtain ⟨e586, f587⟩ := q581
      subst e586
      subst f587
      show Go _ _ _ _ _ (mkF _ _ _ [])
      refine kIC X584 1 at_146 (by decide) ?_
      exact kRETZ X584 (gEL G) (t := .boolean) hret (by simp) at_147 (fun _ _ => rfl) (by decide)
  · rw [hk37]
    clear hk37
    refine kIL X33 at_23 rfl ?_
    refine kIFt X33 43 at_25 (XT.i0_ne_t (by decide)) (by decide) ?_
    refine kIL X33 at_43 rfl ?_
    refine kIC X33 1 at_45 (by decide) ?_
    refine kICt X33 69 at_46 (XT.ii_ne_t (by decide)) (by decide) ?_
    refine kIL X33 at_69 rfl ?_
    refine kIC X33 2 at_71 (by decide) ?_
    refine kICt X33 100 at_72 (XT.ii_ne_t (by decide)) (by decide) ?_
    refine kNEW X33 (wd G 6 rfl) (wd G 7 rfl) (wd G 8 rfl) at_100 (by decide) (by decide) (fun T588 h589 a591 E592 q593 g594 A595 D596 s597 X590 => ?_)
    have g598 : h0.size ≤ a591 := q593 ▸ X33.g0
    have f599 : Fld Z h589 a591 "java/lang/String" "value" "[B" (.null) := D596 (Or.inr (wd G 22 rfl)) (ty := (.array (.byte))) (by decide)
    have f600 : Fld Z h589 a591 "java/lang/String" "coder" "B" (.int 0) := D596 (Or.inr (wd G 23 rfl)) (ty := .byte) (by decide)
    refine kDUP X590 at_103 rfl ?_
    refine kIC X590 3 at_104 (by decide) ?_
    refine kNEWP X590 (wd G 9 rfl) (cap := 3) at_105 (by decide) (by decide) (by decide) (by decide) (by decide) (fun T601 h602 a604 k605 E606 q607 g608 A609 s610 X603 => ?_)
    have n611 : a591 ≠ a604 := Nat.ne_of_lt (Nat.lt_of_lt_of_le (A595.lt) (Nat.le_of_eq q607.symm))
    have g612 : h0.size ≤ a604 := q607 ▸ X590.g0
    have f613 : Arv Z h602 a604 k605 .char 3 [.int 0, .int 0, .int 0] (.int 0) := A609.pad (pad_rep [] _ 3)
    refine kDUP X603 at_107 rfl ?_
    refine kIC X603 0 at_108 (by decide) ?_
    refine kIL X603 at_109 rfl ?_
    refine kCASTO X603 f613 (by decide) 0 (ownCh i1) (own_n16 (own_chr _).1 (own_chr _).2.1) (by decide) (by show 0 < 3; decide) g608 (Safe.arv X603.hZ.alike f613 (by decide)) at_111 (fun T614 h615 L617 W618 f619 X616 => ?_)
    have f620 : Arv Z h615 a604 k605 .char 3 [.int (ownCh i1), .int 0, .int 0] (.int 0) := f619
    refine kDUP X616 at_112 rfl ?_
    refine kIC X616 1 at_113 (by decide) ?_
    refine kIL X616 at_114 rfl ?_
    refine kCASTO X616 f620 (by decide) 1 (ownCh i2) (own_n16 (own_chr _).1 (own_chr _).2.1) (by decide) (by show 1 < 3; decide) g608 (Safe.arv X616.hZ.alike f620 (by decide)) at_116 (fun T621 h622 L624 W625 f626 X623 => ?_)
    have f627 : Arv Z h622 a604 k605 .char 3 [.int (ownCh i1), .int (ownCh i2), .int 0] (.int 0) := f626
    refine kDUP X623 at_117 rfl ?_
    refine kIC X623 2 at_118 (by decide) ?_
    refine kIL X623 at_119 rfl ?_
    refine kCASTO X623 f627 (by decide) 2 (ownCh i3) (own_n16 (own_chr _).1 (own_chr _).2.1) (by decide) (by show 2 < 3; decide) g608 (Safe.arv X623.hZ.alike f627 (by decide)) at_121 (fun T628 h629 L631 W632 f633 X630 => ?_)
    have f634 : Arv Z h629 a604 k605 .char 3 [.int (ownCh i1), .int (ownCh i2), .int (ownCh i3)] (.int 0) := f633
    have f635 := (Exa.wr W632 (Exa.wr W625 (Exa.wr W618 (Exa.ext E606 A595))))
    have f636 := (Fld.other W632 (Fld.other W625 (Fld.other W618 (Fld.ext E606 f600) (Or.inl n611)) (Or.inl n611)) (Or.inl n611))
    have f637 := (Fld.other W632 (Fld.other W625 (Fld.other W618 (Fld.ext E606 f599) (Or.inl n611)) (Or.inl n611)) (Or.inl n611))
    have f638 := (Old.wr (Old.wr (Old.wr (Old.ext (Old.ext O0 E592) E606) W618 g608) W625 g608) W632 g608)
    have f648 := (Safe.wr W632 (Safe.arv X623.hZ.alike f627 (by decide)) X623.C.1 (Safe.wr W625 (Safe.arv X616.hZ.alike f620 (by decide)) X616.C.1 (Safe.wr W618 (Safe.arv X603.hZ.alike f613 (by decide)) X603.C.1 (Safe.ext E606 X590.C.1 s597))))
    refine kSPEC X630 (gEL G) (argsL := [.ref a604]) (rest := [.ref a591]) (wd G 10 rfl) (wd G 11 rfl) (wd G 8 rfl) (wd G 12 rfl) rfl (by decide) (rm83 G (ownCh i1) (ownCh i2) (ownCh i3) a591 a604 k605 h629 X630.n f638 f634 (own_chr _).1 (own_chr _).2.1 (own_chr _).1 (own_chr _).2.1 (own_chr _).1 (own_chr _).2.1 f635 f636 f637 g594) (allS ⟨(f635.lt), f648⟩ all0) (lenOf pd___C_V rfl) rfl 1 rfl (by decide) hml.symm at_122 (fun v639 T640 h641 vm642 _ w643 q644 C645 C646 X647 => ?_)
    rcases q644 with o650 | o651 | o652 | o653
    · obtain ⟨a654, k655, e656, f657, f658, f659, f660, f661, f662, f663⟩ := o650
      subst e656
      have n664 : a591 ≠ a654 := Nat.ne_of_lt (Nat.lt_of_lt_of_le (f635.lt) f659)
      have n665 : a604 ≠ a654 := Nat.ne_of_lt (Nat.lt_of_lt_of_le (f634.lt) f659)
      have g666 : n0 ≤ a654 := Nat.le_trans X630.n f659
      have g667 : h0.size ≤ a654 := Nat.le_trans X630.g0 f659
      show Go _ _ _ _ _ (mkF _ _ _ [.ref a591])
      refine kAS X647 #[.val (.int i0), .val (.int i1), .val (.int i2), .val (.int i3), .val (.int i4), .val (.int (ownCh i1)), .val (.int (ownCh i2)), .val (.int (ownCh i3)), .val (.int 3), .val (.ref a591), .unset] at_125 rfl rfl ?_
      refine kIL X647 at_127 rfl ?_
      refine kSI X647 255 at_129 (by decide) ?_
      refine kIAND X647 (i4 &&& (255 : Int32)) at_132 rfl ?_
      refine kI2C X647 (i4 &&& (255 : Int32)) at_133 (i2c_mask _) ?_
      have f668 := (Old.keep f638 f658 (allS g594 all0))
      refine kSTAT X647 (gEL G) (argsL := [.int (i4 &&& (255 : Int32))]) (rest := []) (wd G 28 rfl) (wd G 29 rfl) (wd G 8 rfl) (wd G 30 rfl) (by decide) (rm4 G (i4 &&& (255 : Int32)) h641 X647.n f668 (own_mask _).1 (own_mask _).2) all0 (lenOf pd__C_Ljava_lang_String_ rfl) rfl 0 rfl (by decide) hml.symm at_134 (fun v669 T670 h671 vm672 _ w673 q674 C675 C676 X677 => ?_)
      obtain ⟨a679, a680, k681, e682, f683, f684, f685, f686, f687, f688, f689, f690, f691, f692⟩ := q674
      subst e682
      have n693 : a591 ≠ a679 := Nat.ne_of_lt (Nat.lt_of_lt_of_le (f663.lt) f684)
      have f695 := (Arv.keep f634 f658 (ninS (Ne.symm n611) nin0))
      have n694 : a604 ≠ a679 := Nat.ne_of_lt (Nat.lt_of_lt_of_le (f695.lt) f684)
      have n696 : a654 ≠ a679 := Nat.ne_of_lt (Nat.lt_of_lt_of_le (f660.lt) f684)
      have n697 : a591 ≠ a680 := Nat.ne_of_lt (Nat.lt_of_lt_of_le (f663.lt) f685)
      have n698 : a604 ≠ a680 := Nat.ne_of_lt (Nat.lt_of_lt_of_le (f695.lt) f685)
      have n699 : a654 ≠ a680 := Nat.ne_of_lt (Nat.lt_of_lt_of_le (f660.lt) f685)
      have g700 : n0 ≤ a679 := Nat.le_trans X647.n f684
      have g701 : h0.size ≤ a679 := Nat.le_trans X647.g0 f684
      have g702 : n0 ≤ a680 := Nat.le_trans X647.n f685
      have g703 : h0.size ≤ a680 := Nat.le_trans X647.g0 f685
      show Go _ _ _ _ _ (mkF _ _ _ [.ref a679])
      refine kAS X677 #[.val (.int i0), .val (.int i1), .val (.int i2), .val (.int i3), .val (.int i4), .val (.int (ownCh i1)), .val (.int (ownCh i2)), .val (.int (ownCh i3)), .val (.int 3), .val (.ref a591), .val (.ref a679)] at_137 rfl rfl ?_
      refine kAL X677 at_139 rfl rfl ?_
      refine kAL X677 at_141 rfl rfl ?_
      have f704 := (Fld.keep f662 f683 nin0)
      have f705 := (Exa.keep (Exa.keep f635 f658) f683)
      have f706 := (Fld.keep f663 f683 nin0)
      have f707 := (Arv.keep f660 f683 nin0)
      have f708 := (Old.keep f668 f683 all0)
      refine kSTAT X677 (gEL G) (argsL := [.ref a591, .ref a679]) (rest := []) (wd G 43 rfl) (wd G 44 rfl) (wd G 45 rfl) (wd G 46 rfl) (by decide) (rm98 G (ownCh i1) (ownCh i2) (ownCh i3) (i4 &&& (255 : Int32)) a591 a679 a654 a680 k655 k681 h671 X677.n f708 (own_chr _).1 (own_chr _).2.1 (own_chr _).1 (own_chr _).2.1 (own_chr _).1 (own_chr _).2.1 f704 f705 f706 f707 (own_chr _).2.2 (own_chr _).2.2 (own_chr _).2.2) all0 (lenOf pd__Ljava_lang_String_Ljava_lang_String__V rfl) rfl 0 rfl (by decide) hml.symm at_143 (fun v709 T710 h711 vm712 _ w713 q714 C715 C716 X717 => ?_)
      obtain ⟨e719, f720⟩ := q714
      subst e719
      subst f720
      show Go _ _ _ _ _ (mkF _ _ _ [])
      refine kIC X717 1 at_146 (by decide) ?_
      exact kRETZ X717 (gEL G) (t := .boolean) hret (by simp) at_147 (fun _ _ => rfl) (by decide)
    · obtain ⟨a721, k722, e723, f724, f725, f726, f727, f728, f729, f730, f731⟩ := o651
      subst e723
      have n732 : a591 ≠ a721 := Nat.ne_of_lt (Nat.lt_of_lt_of_le (f635.lt) f727)
      have n733 : a604 ≠ a721 := Nat.ne_of_lt (Nat.lt_of_lt_of_le (f634.lt) f727)
      have g734 : n0 ≤ a721 := Nat.le_trans X630.n f727
      have g735 : h0.size ≤ a721 := Nat.le_trans X630.g0 f727
      show Go _ _ _ _ _ (mkF _ _ _ [.ref a591])
      refine kAS X647 #[.val (.int i0), .val (.int i1), .val (.int i2), .val (.int i3), .val (.int i4), .val (.int (ownCh i1)), .val (.int (ownCh i2)), .val (.int (ownCh i3)), .val (.int 3), .val (.ref a591), .unset] at_125 rfl rfl ?_
      refine kIL X647 at_127 rfl ?_
      refine kSI X647 255 at_129 (by decide) ?_
      refine kIAND X647 (i4 &&& (255 : Int32)) at_132 rfl ?_
      refine kI2C X647 (i4 &&& (255 : Int32)) at_133 (i2c_mask _) ?_
      have f736 := (Old.keep f638 f726 (allS g594 all0))
      refine kSTAT X647 (gEL G) (argsL := [.int (i4 &&& (255 : Int32))]) (rest := []) (wd G 28 rfl) (wd G 29 rfl) (wd G 8 rfl) (wd G 30 rfl) (by decide) (rm4 G (i4 &&& (255 : Int32)) h641 X647.n f736 (own_mask _).1 (own_mask _).2) all0 (lenOf pd__C_Ljava_lang_String_ rfl) rfl 0 rfl (by decide) hml.symm at_134 (fun v737 T738 h739 vm740 _ w741 q742 C743 C744 X745 => ?_)
      obtain ⟨a747, a748, k749, e750, f751, f752, f753, f754, f755, f756, f757, f758, f759, f760⟩ := q742
      subst e750
      have n761 : a591 ≠ a747 := Nat.ne_of_lt (Nat.lt_of_lt_of_le (f731.lt) f752)
      have f763 := (Arv.keep f634 f726 (ninS (Ne.symm n611) nin0))
      have n762 : a604 ≠ a747 := Nat.ne_of_lt (Nat.lt_of_lt_of_le (f763.lt) f752)
      have n764 : a721 ≠ a747 := Nat.ne_of_lt (Nat.lt_of_lt_of_le (f728.lt) f752)
      have n765 : a591 ≠ a748 := Nat.ne_of_lt (Nat.lt_of_lt_of_le (f731.lt) f753)
      have n766 : a604 ≠ a748 := Nat.ne_of_lt (Nat.lt_of_lt_of_le (f763.lt) f753)
      have n767 : a721 ≠ a748 := Nat.ne_of_lt (Nat.lt_of_lt_of_le (f728.lt) f753)
      have g768 : n0 ≤ a747 := Nat.le_trans X647.n f752
      have g769 : h0.size ≤ a747 := Nat.le_trans X647.g0 f752
      have g770 : n0 ≤ a748 := Nat.le_trans X647.n f753
      have g771 : h0.size ≤ a748 := Nat.le_trans X647.g0 f753
      show Go _ _ _ _ _ (mkF _ _ _ [.ref a747])
      refine kAS X745 #[.val (.int i0), .val (.int i1), .val (.int i2), .val (.int i3), .val (.int i4), .val (.int (ownCh i1)), .val (.int (ownCh i2)), .val (.int (ownCh i3)), .val (.int 3), .val (.ref a591), .val (.ref a747)] at_137 rfl rfl ?_
      refine kAL X745 at_139 rfl rfl ?_
      refine kAL X745 at_141 rfl rfl ?_
      have f772 := (Fld.keep f730 f751 nin0)
      have f773 := (Exa.keep (Exa.keep f635 f726) f751)
      have f774 := (Fld.keep f731 f751 nin0)
      have f775 := (Arv.keep f728 f751 nin0)
      have f776 := (Old.keep f736 f751 all0)
      refine kSTAT X745 (gEL G) (argsL := [.ref a591, .ref a747]) (rest := []) (wd G 43 rfl) (wd G 44 rfl) (wd G 45 rfl) (wd G 46 rfl) (by decide) (rm98 G (ownCh i1) (ownCh i2) (ownCh i3) (i4 &&& (255 : Int32)) a591 a747 a721 a748 k722 k749 h739 X745.n f776 (own_chr _).1 (own_chr _).2.1 (own_chr _).1 (own_chr _).2.1 (own_chr _).1 (own_chr _).2.1 f772 f773 f774 f775 (own_chr _).2.2 (own_chr _).2.2 (own_chr _).2.2) all0 (lenOf pd__Ljava_lang_String_Ljava_lang_String__V rfl) rfl 0 rfl (by decide) hml.symm at_143 (fun v777 T778 h779 vm780 _ w781 q782 C783 C784 X785 => ?_)
      obtain ⟨e787, f788⟩ := q782
      subst e787
      subst f788
      show Go _ _ _ _ _ (mkF _ _ _ [])
      refine kIC X785 1 at_146 (by decide) ?_
      exact kRETZ X785 (gEL G) (t := .boolean) hret (by simp) at_147 (fun _ _ => rfl) (by decide)
    · obtain ⟨a789, k790, e791, f792, f793, f794, f795, f796, f797, f798, f799, f800⟩ := o652
      subst e791
      have n801 : a591 ≠ a789 := Nat.ne_of_lt (Nat.lt_of_lt_of_le (f635.lt) f796)
      have n802 : a604 ≠ a789 := Nat.ne_of_lt (Nat.lt_of_lt_of_le (f634.lt) f796)
      have g803 : n0 ≤ a789 := Nat.le_trans X630.n f796
      have g804 : h0.size ≤ a789 := Nat.le_trans X630.g0 f796
      show Go _ _ _ _ _ (mkF _ _ _ [.ref a591])
      refine kAS X647 #[.val (.int i0), .val (.int i1), .val (.int i2), .val (.int i3), .val (.int i4), .val (.int (ownCh i1)), .val (.int (ownCh i2)), .val (.int (ownCh i3)), .val (.int 3), .val (.ref a591), .unset] at_125 rfl rfl ?_
      refine kIL X647 at_127 rfl ?_
      refine kSI X647 255 at_129 (by decide) ?_
      refine kIAND X647 (i4 &&& (255 : Int32)) at_132 rfl ?_
      refine kI2C X647 (i4 &&& (255 : Int32)) at_133 (i2c_mask _) ?_
      have f805 := (Old.keep f638 f795 (allS g594 all0))
      refine kSTAT X647 (gEL G) (argsL := [.int (i4 &&& (255 : Int32))]) (rest := []) (wd G 28 rfl) (wd G 29 rfl) (wd G 8 rfl) (wd G 30 rfl) (by decide) (rm4 G (i4 &&& (255 : Int32)) h641 X647.n f805 (own_mask _).1 (own_mask _).2) all0 (lenOf pd__C_Ljava_lang_String_ rfl) rfl 0 rfl (by decide) hml.symm at_134 (fun v806 T807 h808 vm809 _ w810 q811 C812 C813 X814 => ?_)
      obtain ⟨a816, a817, k818, e819, f820, f821, f822, f823, f824, f825, f826, f827, f828, f829⟩ := q811
      subst e819
      have n830 : a591 ≠ a816 := Nat.ne_of_lt (Nat.lt_of_lt_of_le (f800.lt) f821)
      have f832 := (Arv.keep f634 f795 (ninS (Ne.symm n611) nin0))
      have n831 : a604 ≠ a816 := Nat.ne_of_lt (Nat.lt_of_lt_of_le (f832.lt) f821)
      have n833 : a789 ≠ a816 := Nat.ne_of_lt (Nat.lt_of_lt_of_le (f797.lt) f821)
      have n834 : a591 ≠ a817 := Nat.ne_of_lt (Nat.lt_of_lt_of_le (f800.lt) f822)
      have n835 : a604 ≠ a817 := Nat.ne_of_lt (Nat.lt_of_lt_of_le (f832.lt) f822)
      have n836 : a789 ≠ a817 := Nat.ne_of_lt (Nat.lt_of_lt_of_le (f797.lt) f822)
      have g837 : n0 ≤ a816 := Nat.le_trans X647.n f821
      have g838 : h0.size ≤ a816 := Nat.le_trans X647.g0 f821
      have g839 : n0 ≤ a817 := Nat.le_trans X647.n f822
      have g840 : h0.size ≤ a817 := Nat.le_trans X647.g0 f822
      show Go _ _ _ _ _ (mkF _ _ _ [.ref a816])
      refine kAS X814 #[.val (.int i0), .val (.int i1), .val (.int i2), .val (.int i3), .val (.int i4), .val (.int (ownCh i1)), .val (.int (ownCh i2)), .val (.int (ownCh i3)), .val (.int 3), .val (.ref a591), .val (.ref a816)] at_137 rfl rfl ?_
      refine kAL X814 at_139 rfl rfl ?_
      refine kAL X814 at_141 rfl rfl ?_
      have f841 := (Fld.keep f799 f820 nin0)
      have f842 := (Exa.keep (Exa.keep f635 f795) f820)
      have f843 := (Fld.keep f800 f820 nin0)
      have f844 := (Arv.keep f797 f820 nin0)
      have f845 := (Old.keep f805 f820 all0)
      refine kSTAT X814 (gEL G) (argsL := [.ref a591, .ref a816]) (rest := []) (wd G 43 rfl) (wd G 44 rfl) (wd G 45 rfl) (wd G 46 rfl) (by decide) (rm98 G (ownCh i1) (ownCh i2) (ownCh i3) (i4 &&& (255 : Int32)) a591 a816 a789 a817 k790 k818 h808 X814.n f845 (own_chr _).1 (own_chr _).2.1 (own_chr _).1 (own_chr _).2.1 (own_chr _).1 (own_chr _).2.1 f841 f842 f843 f844 (own_chr _).2.2 (own_chr _).2.2 (own_chr _).2.2) all0 (lenOf pd__Ljava_lang_String_Ljava_lang_String__V rfl) rfl 0 rfl (by decide) hml.symm at_143 (fun v846 T847 h848 vm849 _ w850 q851 C852 C853 X854 => ?_)
      obtain ⟨e856, f857⟩ := q851
      subst e856
      subst f857
      show Go _ _ _ _ _ (mkF _ _ _ [])
      refine kIC X854 1 at_146 (by decide) ?_
      exact kRETZ X854 (gEL G) (t := .boolean) hret (by simp) at_147 (fun _ _ => rfl) (by decide)
    · obtain ⟨a858, k859, e860, f861, f862, f863, f864, f865, f866, f867, f868, f869⟩ := o653
      subst e860
      have n870 : a591 ≠ a858 := Nat.ne_of_lt (Nat.lt_of_lt_of_le (f635.lt) f865)
      have n871 : a604 ≠ a858 := Nat.ne_of_lt (Nat.lt_of_lt_of_le (f634.lt) f865)
      have g872 : n0 ≤ a858 := Nat.le_trans X630.n f865
      have g873 : h0.size ≤ a858 := Nat.le_trans X630.g0 f865
      show Go _ _ _ _ _ (mkF _ _ _ [.ref a591])
      refine kAS X647 #[.val (.int i0), .val (.int i1), .val (.int i2), .val (.int i3), .val (.int i4), .val (.int (ownCh i1)), .val (.int (ownCh i2)), .val (.int (ownCh i3)), .val (.int 3), .val (.ref a591), .unset] at_125 rfl rfl ?_
      refine kIL X647 at_127 rfl ?_
      refine kSI X647 255 at_129 (by decide) ?_
      refine kIAND X647 (i4 &&& (255 : Int32)) at_132 rfl ?_
      refine kI2C X647 (i4 &&& (255 : Int32)) at_133 (i2c_mask _) ?_
      have f874 := (Old.keep f638 f864 (allS g594 all0))
      refine kSTAT X647 (gEL G) (argsL := [.int (i4 &&& (255 : Int32))]) (rest := []) (wd G 28 rfl) (wd G 29 rfl) (wd G 8 rfl) (wd G 30 rfl) (by decide) (rm4 G (i4 &&& (255 : Int32)) h641 X647.n f874 (own_mask _).1 (own_mask _).2) all0 (lenOf pd__C_Ljava_lang_String_ rfl) rfl 0 rfl (by decide) hml.symm at_134 (fun v875 T876 h877 vm878 _ w879 q880 C881 C882 X883 => ?_)
      obtain ⟨a885, a886, k887, e888, f889, f890, f891, f892, f893, f894, f895, f896, f897, f898⟩ := q880
      subst e888
      have n899 : a591 ≠ a885 := Nat.ne_of_lt (Nat.lt_of_lt_of_le (f869.lt) f890)
      have f901 := (Arv.keep f634 f864 (ninS (Ne.symm n611) nin0))
      have n900 : a604 ≠ a885 := Nat.ne_of_lt (Nat.lt_of_lt_of_le (f901.lt) f890)
      have n902 : a858 ≠ a885 := Nat.ne_of_lt (Nat.lt_of_lt_of_le (f866.lt) f890)
      have n903 : a591 ≠ a886 := Nat.ne_of_lt (Nat.lt_of_lt_of_le (f869.lt) f891)
      have n904 : a604 ≠ a886 := Nat.ne_of_lt (Nat.lt_of_lt_of_le (f901.lt) f891)
      have n905 : a858 ≠ a886 := Nat.ne_of_lt (Nat.lt_of_lt_of_le (f866.lt) f891)
      have g906 : n0 ≤ a885 := Nat.le_trans X647.n f890
      have g907 : h0.size ≤ a885 := Nat.le_trans X647.g0 f890
      have g908 : n0 ≤ a886 := Nat.le_trans X647.n f891
      have g909 : h0.size ≤ a886 := Nat.le_trans X647.g0 f891
      show Go _ _ _ _ _ (mkF _ _ _ [.ref a885])
      refine kAS X883 #[.val (.int i0), .val (.int i1), .val (.int i2), .val (.int i3), .val (.int i4), .val (.int (ownCh i1)), .val (.int (ownCh i2)), .val (.int (ownCh i3)), .val (.int 3), .val (.ref a591), .val (.ref a885)] at_137 rfl rfl ?_
      refine kAL X883 at_139 rfl rfl ?_
      refine kAL X883 at_141 rfl rfl ?_
      have f910 := (Fld.keep f868 f889 nin0)
      have f911 := (Exa.keep (Exa.keep f635 f864) f889)
      have f912 := (Fld.keep f869 f889 nin0)
      have f913 := (Arv.keep f866 f889 nin0)
      have f914 := (Old.keep f874 f889 all0)
      refine kSTAT X883 (gEL G) (argsL := [.ref a591, .ref a885]) (rest := []) (wd G 43 rfl) (wd G 44 rfl) (wd G 45 rfl) (wd G 46 rfl) (by decide) (rm112 G (ownCh i1) (ownCh i2) (ownCh i3) (i4 &&& (255 : Int32)) a591 a885 a858 a886 k859 k887 h877 X883.n f914 f861 (own_chr _).2.1 (own_chr _).1 f862 (own_chr _).2.1 (own_chr _).1 f863 (own_chr _).2.1 (own_chr _).1 f910 f911 f912 f913) all0 (lenOf pd__Ljava_lang_String_Ljava_lang_String__V rfl) rfl 0 rfl (by decide) hml.symm at_143 (fun v915 T916 h917 vm918 _ w919 q920 C921 C922 X923 => ?_)
      obtain ⟨e925, f926⟩ := q920
      subst e925
      subst f926
      show Go _ _ _ _ _ (mkF _ _ _ [])
      refine kIC X923 1 at_146 (by decide) ?_
      exact kRETZ X923 (gEL G) (t := .boolean) hret (by simp) at_147 (fun _ _ => rfl) (by decide)
end OwnC
theorem comes_1 {Post : Tables → Env → Array Value → State → Outcome → State → Prop} (hpost : ∀ tb e args s v u, (limb_1_1.after args s (.returned v) u = true ∧ limb_1_2.after args s (.returned v) u = true ∧ True) → ReturnedEndW s (.returned v) u (Jvm.fieldLocs frame_1_writes args s ++ Jvm.arrayLocs frame_1_arrays args s ++ Jvm.staticLocs frame_1_statics s) 24 1152 → Post tb e args s (.returned v) u) :
    ArmFor flags0 classFile x code maxLocals ret World_1 tables_1 room_1 Calls_1 rest_1 Pre_1 Post := by
  intro l hfl _ _ p e ha hc hk s m args below hf hA hF happ hP
  obtain ⟨hcalls, hrest, hpre⟩ := hP
  obtain ⟨-, -, -, hnamed, -, -, -, hat⟩ := (Spec.applies_iff hf).mp happ
  obtain ⟨hg, hn⟩ := and_e (Cond.before_iff.mp (show (Jvm.Cond.and given_1 narrow_1).before args s = true from hpre))
  obtain ⟨h1, hg⟩ := and_e hg
  obtain ⟨w0, w1, w2, w3, w4, rfl⟩ : ∃ w0 w1 w2 w3 w4 : Value, args = #[w0, w1, w2, w3, w4] := by
    have hs : args.size = 5 := by simpa [Cond.value, given_1] using h1
    obtain ⟨L⟩ := args
    match L, hs with
    | [w0, w1, w2, w3, w4], _ => exact ⟨w0, w1, w2, w3, w4, rfl⟩
  obtain ⟨hg0, hg⟩ := and_e hg
  obtain ⟨i0, ei0⟩ := is_v hg0
  obtain rfl : w0 = (.int i0) := Option.some.inj ei0
  obtain ⟨hg1, hg⟩ := and_e hg
  obtain ⟨i1, ei1⟩ := is_v hg1
  obtain rfl : w1 = (.int i1) := Option.some.inj ei1
  obtain ⟨hg2, hg⟩ := and_e hg
  obtain ⟨i2, ei2⟩ := is_v hg2
  obtain rfl : w2 = (.int i2) := Option.some.inj ei2
  obtain ⟨hg3, hg⟩ := and_e hg
  obtain ⟨i3, ei3⟩ := is_v hg3
  obtain rfl : w3 = (.int i3) := Option.some.inj ei3
  have hg4 := hg
  obtain ⟨i4, ei4⟩ := is_v hg4
  obtain rfl : w4 = (.int i4) := Option.some.inj ei4
  have hw := fun d (hd : d ∈ tables_1) => atoms_spec (ws := Jvm.Cond.code x code maxLocals ret :: tables_1) hat d (List.mem_cons_of_mem _ hd)
  have hfit : Fit s := fun {y c} hc i hi => by
    obtain ⟨ha, rfl⟩ := Array.getElem?_eq_some_iff.mp hc
    have q := List.all_eq_true.mp ((Array.all_eq_true_iff_forall_mem.mp hF) _ (Array.getElem_mem ha)) i (List.mem_range.mpr hi)
    simpa [Array.getElem?_eq_getElem hi] using q
  obtain ⟨hsets, hown0⟩ := atoms_of _ (rest_1_c_eq ▸ (show rest_1_c.before _ s = true from hrest))
  have wk : ∀ (k : Nat) {d : Jvm.Cond}, tables_1[k]? = some d → d.before _ s = true := fun k d h => hw d (List.mem_of_getElem? h)
  have rk : ∀ (k : Nat) {d : Jvm.Cond}, jdkStatics_1[k]? = some d → d.before _ s = true := fun k d h => hsets d (List.mem_of_getElem? h)
  have wS : ∀ a ∈ Bundle.stringAtoms, a.before _ s = true := fun a hm => by
    simp only [Bundle.stringAtoms, List.mem_cons, List.not_mem_nil, or_false] at hm
    rcases hm with rfl | rfl | rfl | rfl | rfl | rfl | rfl
    · exact (wk 8 rfl)
    · exact (wk 7 rfl)
    · exact (wk 21 rfl)
    · exact (wk 22 rfl)
    · exact (wk 23 rfl)
    · exact (wk 24 rfl)
    · exact (wk 25 rfl)
  have hEL : EW s _ EL0 := (EW.cons (wk 20 rfl) (by decide) EW.nil)
  have hh : ∀ p ∈ EL0, Jvm.Lit.constHeld s p.1 p.2 := fun p hp => hcalls.1 p (by revert hp; revert p; decide)
  have hC : CHv s EL0 s.vm s.heap := CHv.start hEL hh (rk 2 rfl) (wk 21 rfl) (wk 7 rfl)
  obtain ⟨iCS, eCS⟩ := is_v (Cond.before_iff.mp (rk 1 rfl))
  have S_CS := Sta.start eCS (Or.inl (rk 0 rfl))
  have n_CS : ¬ iCS = 0 := gotF (Cond.eq_ints eCS (Term.int_eval 0)) (not_v (Cond.before_iff.mp (rk 2 rfl)))
  obtain ⟨vSI, eSI, r_SI⟩ := isR_v (Cond.before_iff.mp (rk 8 rfl))
  have S_SI := Sta.start eSI (Or.inl (rk 7 rfl))
  have S_AD := Sta.start (Cond.eq_int (rk 12 rfl) (Term.int_eval 1)) (Or.inl (rk 11 rfl))
  have S_HI := Sta.start (Cond.eq_int (rk 15 rfl) (Term.int_eval 0)) (Or.inl (rk 14 rfl))
  have S_LO := Sta.start (Cond.eq_int (rk 18 rfl) (Term.int_eval 8)) (Or.inl (rk 17 rfl))
  have G : Glob s _ iCS vSI := ⟨hw, hEL, wS, S_CS, n_CS, S_SI, r_SI, S_AD, S_HI, S_LO⟩
  obtain ⟨n, o, h1, h2, h3, _, L, rfl, ⟨N, rfl⟩, hCr, hq⟩ := rm0 G i0 i1 i2 i3 i4 s.heap (Nat.le_refl _) (Old.start s) p e ha hc hk s m _ below hf ((Spec.applies_iff_loose hf).mp happ).1 ⟨rfl, State.Warmed39.refl s, rfl, hC, all0⟩ trivial
  refine ⟨n, _, h1, h2, h3, hpost _ _ _ _ _ _ ⟨Cond.after_iff.mpr rfl, Cond.after_iff.mpr (eq_i res_at (Term.int_eval (1)) rfl), trivial⟩ ⟨hq.1, hq.2.1, hq.2.2.1, (hq.2.2.2.sift fun y hy => Or.inr (N y hy)).mono (by decide) (by decide)⟩⟩
theorem main_1_1 : Claimed_1_1 := comes_1 fun _ _ _ _ _ _ h hF => ⟨h.1, hF⟩
theorem main_1_2 : Claimed_1_2 := comes_1 fun _ _ _ _ _ _ h hF => ⟨h.2.1, hF⟩
end Jvm.Pilot.@@N@@
namespace Jvm.Pilot.@@N@@
open Jvm Jvm.ClassFile Sem Op Lib Jvm.Free Jvm.Stand Jvm.Pilot.@@N@@.Jvm.D
/-! MADE BY PROGRAM (witnessworld.py) out of the Statement's table words and the real class files: 21 classes; the members and pool entries that the words name. The judged class is class 1, her method 1. -/
namespace start1
open Jvm.ClassFile
def u (s : String) : CpInfo := .utf8 (stringToUtf16 s)
/-- a pool by its gaps: so many unusable entries, then the entry; so many at the end -/
def gap : Nat → List CpInfo → List CpInfo
  | 0, r => r
  | n + 1, r => .unusable :: gap n r
def poolList (es : List (Nat × CpInfo)) (last : Nat) : List CpInfo := es.foldr (fun e r => gap e.1 (e.2 :: r)) (gap last [])
def pool (es : List (Nat × CpInfo)) (last : Nat) : Array CpInfo := ⟨poolList es last⟩
def fileOf (pool : Array CpInfo) (this : Nat) (attrs : Array Attribute := #[]) (ms : Array MethodInfo := #[]) (fl : Nat := 33) (sup : Nat := 0) (ifs : Array Nat := #[]) (fds : Array FieldInfo := #[]) : ClassFile where
  minorVersion := 0
  majorVersion := 65
  constantPool := pool
  accessFlags := fl
  thisClass := this
  superClass := sup
  interfaces := ifs
  fields := fds
  methods := ms
  attributes := attrs
def plain (name : String) (sup : Option ClassId) : Class where
  name := name
  kind := .ordinary
  loader := none
  accessFlags := 33
  super := sup
  interfaces := #[]
  cf := none
  fields := #[]
  methods := #[]
  instanceTypes := #[]
  staticTypes := #[]
  resolved := #[]
  callSites := []
  init := .initialized
  statics := none
  mirror := none

def pool0 : Array CpInfo := pool [(5, u "<init>"), (0, u "()V"), (1, .class_ 10), (1, u "java/lang/Object")] 113

def k0c0 : Code := { maxStack := 0, maxLocals := 1, code := object_method_1_code, exceptionTable := #[], attributes := #[] }
def k0m0 : Method := { name := "<init>", desc := "()V", sig := { parameters := [], returnType := none }, accessFlags := 1, code := some k0c0 }
/-- java/lang/Object -/
def k0 : Class := { plain "java/lang/Object" none with
  accessFlags := 33
  interfaces := #[]
  cf := some (fileOf pool0 8 #[] #[{ accessFlags := 1, nameIndex := 5, descriptorIndex := 6, attributes := #[] }] 33 0 #[] #[])
  fields := #[]
  methods := #[k0m0]
  instanceTypes := #[]
  staticTypes := #[]
  resolved := Array.replicate 124 none
  statics := none }

def pool1 : Array CpInfo := pool [(2, .class_ 4), (1, u "java/lang/Object"), (0, u "<init>"), (0, u "()V"), (0, .methodref 8 9), (0, .class_ 10), (0, .nameAndType 11 12), (0, u "com/example/evoke/evoke/OptionsRequireDecodedPinLaw"), (0, u "ch"), (0, u "(I)C"), (0, .class_ 14), (0, u "java/lang/String"), (0, .methodref 13 16), (0, .nameAndType 5 17), (0, u "([C)V"), (0, .methodref 13 19), (0, .nameAndType 20 21), (0, u "valueOf"), (0, u "(C)Ljava/lang/String;"), (0, .methodref 23 24), (0, .class_ 25), (0, .nameAndType 26 27), (0, u "com/example/evoke/evoke/Options"), (0, u "requireDecoded"), (0, u "(Ljava/lang/String;Ljava/lang/String;)V"), (0, .integer 65535), (0, .integer 65533), (2, u "law"), (0, u "(IIIII)Z")] 6

def k1m0 : Method := { name := "<init>", desc := "()V", sig := { parameters := [], returnType := none }, accessFlags := 1, code := none }
def k1c1 : Code := { maxStack := 6, maxLocals := 11, code := code, exceptionTable := #[], attributes := #[] }
def k1m1 : Method := { name := "law", desc := "(IIIII)Z", sig := { parameters := [.int, .int, .int, .int, .int], returnType := some .boolean }, accessFlags := 9, code := some k1c1 }
def k1c2 : Code := { maxStack := 2, maxLocals := 2, code := method_3_code, exceptionTable := #[], attributes := #[] }
def k1m2 : Method := { name := "ch", desc := "(I)C", sig := { parameters := [.int], returnType := some .char }, accessFlags := 10, code := some k1c2 }
/-- com/example/evoke/evoke/OptionsRequireDecodedPinLaw -/
def k1 : Class := { plain "com/example/evoke/evoke/OptionsRequireDecodedPinLaw" (some 0) with
  accessFlags := 49
  interfaces := #[]
  cf := some (fileOf pool1 8 #[] #[{ accessFlags := 1, nameIndex := 5, descriptorIndex := 6, attributes := #[] }, { accessFlags := 9, nameIndex := 32, descriptorIndex := 33, attributes := #[] }, { accessFlags := 10, nameIndex := 11, descriptorIndex := 12, attributes := #[] }] 49 2 #[] #[])
  fields := #[]
  methods := #[k1m0, k1m1, k1m2]
  instanceTypes := #[]
  staticTypes := #[]
  resolved := Array.replicate 40 none
  statics := none }

def pool2 : Array CpInfo := pool [(1, .class_ 2), (0, u "java/io/Serializable"), (0, .class_ 4), (0, u "java/lang/Object")] 2

/-- java/io/Serializable -/
def k2 : Class := { plain "java/io/Serializable" (some 0) with
  accessFlags := 1537
  interfaces := #[]
  cf := some (fileOf pool2 1 #[] #[] 1537 3 #[] #[])
  fields := #[]
  methods := #[]
  instanceTypes := #[]
  staticTypes := #[]
  resolved := Array.replicate 7 none
  statics := none }

def pool3 : Array CpInfo := pool [(1, .class_ 2), (0, u "java/lang/Comparable"), (0, .class_ 4), (0, u "java/lang/Object")] 7

/-- java/lang/Comparable -/
def k3 : Class := { plain "java/lang/Comparable" (some 0) with
  accessFlags := 1537
  interfaces := #[]
  cf := some (fileOf pool3 1 #[] #[] 1537 3 #[] #[])
  fields := #[]
  methods := #[]
  instanceTypes := #[]
  staticTypes := #[]
  resolved := Array.replicate 12 none
  statics := none }

def pool4 : Array CpInfo := pool [(2, .class_ 4), (1, u "java/lang/CharSequence"), (42, .class_ 48), (0, u "java/lang/CharSequence$1CodePointIterator"), (10, .class_ 60), (0, u "java/lang/CharSequence$1CharIterator"), (5, .class_ 67), (0, u "java/lang/Object")] 63

/-- java/lang/CharSequence -/
def k4 : Class := { plain "java/lang/CharSequence" (some 0) with
  accessFlags := 1537
  interfaces := #[]
  cf := some (fileOf pool4 2 #[.nestMembers #[47, 59]] #[] 1537 66 #[] #[])
  fields := #[]
  methods := #[]
  instanceTypes := #[]
  staticTypes := #[]
  resolved := Array.replicate 131 none
  statics := none }

def pool5 : Array CpInfo := pool [(1, .class_ 2), (0, u "java/lang/constant/Constable"), (0, .class_ 4), (0, u "java/lang/Object")] 6

/-- java/lang/constant/Constable -/
def k5 : Class := { plain "java/lang/constant/Constable" (some 0) with
  accessFlags := 1537
  interfaces := #[]
  cf := some (fileOf pool5 1 #[] #[] 1537 3 #[] #[])
  fields := #[]
  methods := #[]
  instanceTypes := #[]
  staticTypes := #[]
  resolved := Array.replicate 11 none
  statics := none }

def pool6 : Array CpInfo := pool [(1, .class_ 2), (0, u "java/lang/constant/ConstantDesc"), (0, .class_ 4), (0, u "java/lang/Object")] 32

/-- java/lang/constant/ConstantDesc -/
def k6 : Class := { plain "java/lang/constant/ConstantDesc" (some 0) with
  accessFlags := 1537
  interfaces := #[]
  cf := some (fileOf pool6 1 #[] #[] 1537 3 #[] #[])
  fields := #[]
  methods := #[]
  instanceTypes := #[]
  staticTypes := #[]
  resolved := Array.replicate 37 none
  statics := none }

def pool7 : Array CpInfo := pool [(1, .methodref 2 3), (0, .class_ 4), (0, .nameAndType 5 6), (0, u "java/lang/Object"), (0, u "<init>"), (0, u "()V"), (0, .string 8), (0, u ""), (0, .fieldref 10 11), (0, .class_ 12), (0, .nameAndType 13 14), (0, u "java/lang/String"), (0, u "value"), (0, u "[B"), (0, .fieldref 10 16), (0, .nameAndType 17 18), (0, u "coder"), (0, u "B"), (2, u "hash"), (0, u "I"), (2, u "hashIsZero"), (0, u "Z"), (0, .methodref 10 28), (0, .nameAndType 5 29), (0, u "([CIILjava/lang/Void;)V"), (8, .fieldref 10 39), (0, .nameAndType 40 26), (0, u "COMPACT_STRINGS"), (1, .class_ 44), (1, u "java/lang/StringUTF16"), (0, u "compress"), (1, .methodref 42 48), (0, .nameAndType 49 50), (0, u "coderFromArrayLen"), (0, u "([BI)B"), (2, u "toBytes"), (53, .class_ 109), (1, u "java/lang/StringLatin1"), (32, u "()Z"), (34, .methodref 42 178), (0, .nameAndType 45 179), (0, u "([CII)[B"), (29, .methodref 10 210), (0, .nameAndType 5 211), (0, u "([BB)V"), (122, u "()I"), (0, .methodref 10 336), (0, .nameAndType 17 337), (0, u "()B"), (31, u "(C)Z"), (122, .methodref 10 493), (0, .nameAndType 494 142), (0, u "isLatin1"), (10, .methodref 10 506), (0, .nameAndType 507 334), (0, u "length"), (5, u "checkFromToIndex"), (9, u "checkBoundsBeginEnd"), (0, u "(III)V"), (50, .class_ 576), (0, u "java/lang/CharSequence"), (22, u "CASE_INSENSITIVE_ORDER"), (0, u "Ljava/util/Comparator;"), (32, .methodref 10 634), (0, .nameAndType 635 636), (0, u "indexOf"), (0, u "(II)I"), (0, .methodref 107 638), (0, .nameAndType 635 639), (0, u "([BIII)I"), (0, .methodref 42 638), (124, u "(I)I"), (16, u "valueOf"), (0, u "(C)Ljava/lang/String;"), (226, u "([C)V"), (4, .methodref 107 1016), (0, .nameAndType 1017 369), (0, u "canEncode"), (0, .methodref 107 1019), (0, .nameAndType 53 1020), (0, u "(C)[B"), (32, .fieldref 1054 1055), (0, .class_ 1056), (0, .nameAndType 1057 1058), (0, u "jdk/internal/util/Preconditions"), (0, u "SIOOBE_FORMATTER"), (0, u "Ljava/util/function/BiFunction;"), (3, .methodref 1054 1063), (0, .nameAndType 513 1064), (0, u "(IIILjava/util/function/BiFunction;)I"), (36, u "serialPersistentFields"), (0, u "[Ljava/io/ObjectStreamField;"), (0, .class_ 1104), (0, u "java/lang/String$CaseInsensitiveComparator"), (1, .class_ 1107), (0, u "java/io/Serializable"), (0, .class_ 1109), (0, u "java/lang/Comparable"), (0, .class_ 1111), (0, u "java/lang/constant/Constable"), (0, .class_ 1113), (0, u "java/lang/constant/ConstantDesc"), (2, u "serialVersionUID"), (0, u "J"), (3, u "REPL"), (0, u "C"), (2, u "LATIN1"), (1, u "UTF16")] 323

def k7m0 : Method := { name := "<init>", desc := "()V", sig := { parameters := [], returnType := none }, accessFlags := 1, code := none }
def k7c1 : Code := { maxStack := 5, maxLocals := 2, code := jdk_42_method_3_code, exceptionTable := #[], attributes := #[] }
def k7m1 : Method := { name := "<init>", desc := "([C)V", sig := { parameters := [(.array .char)], returnType := none }, accessFlags := 1, code := some k7c1 }
def k7c2 : Code := { maxStack := 2, maxLocals := 1, code := jdk_42_method_54_code, exceptionTable := #[], attributes := #[] }
def k7m2 : Method := { name := "length", desc := "()I", sig := { parameters := [], returnType := some .int }, accessFlags := 1, code := some k7c2 }
def k7c3 : Code := { maxStack := 3, maxLocals := 2, code := jdk_42_method_79_code, exceptionTable := #[], attributes := #[] }
def k7m3 : Method := { name := "indexOf", desc := "(I)I", sig := { parameters := [.int], returnType := some .int }, accessFlags := 1, code := some k7c3 }
def k7c4 : Code := { maxStack := 4, maxLocals := 3, code := jdk_42_method_80_code, exceptionTable := #[], attributes := #[] }
def k7m4 : Method := { name := "indexOf", desc := "(II)I", sig := { parameters := [.int, .int], returnType := some .int }, accessFlags := 1, code := some k7c4 }
def k7c5 : Code := { maxStack := 4, maxLocals := 1, code := jdk_42_method_139_code, exceptionTable := #[], attributes := #[] }
def k7m5 : Method := { name := "valueOf", desc := "(C)Ljava/lang/String;", sig := { parameters := [.char], returnType := some (.object "java/lang/String") }, accessFlags := 9, code := some k7c5 }
def k7c6 : Code := { maxStack := 4, maxLocals := 6, code := jdk_42_method_149_code, exceptionTable := #[], attributes := #[] }
def k7m6 : Method := { name := "<init>", desc := "([CIILjava/lang/Void;)V", sig := { parameters := [(.array .char), .int, .int, (.object "java/lang/Void")], returnType := none }, accessFlags := 2, code := some k7c6 }
def k7c7 : Code := { maxStack := 2, maxLocals := 3, code := jdk_42_method_151_code, exceptionTable := #[], attributes := #[] }
def k7m7 : Method := { name := "<init>", desc := "([BB)V", sig := { parameters := [(.array .byte), .byte], returnType := none }, accessFlags := 0, code := some k7c7 }
def k7c8 : Code := { maxStack := 1, maxLocals := 1, code := jdk_42_method_152_code, exceptionTable := #[], attributes := #[] }
def k7m8 : Method := { name := "coder", desc := "()B", sig := { parameters := [], returnType := some .byte }, accessFlags := 0, code := some k7c8 }
def k7c9 : Code := { maxStack := 1, maxLocals := 1, code := jdk_42_method_154_code, exceptionTable := #[], attributes := #[] }
def k7m9 : Method := { name := "isLatin1", desc := "()Z", sig := { parameters := [], returnType := some .boolean }, accessFlags := 0, code := some k7c9 }
def k7c10 : Code := { maxStack := 4, maxLocals := 3, code := jdk_42_method_158_code, exceptionTable := #[], attributes := #[] }
def k7m10 : Method := { name := "checkBoundsBeginEnd", desc := "(III)V", sig := { parameters := [.int, .int, .int], returnType := none }, accessFlags := 8, code := some k7c10 }
/-- java/lang/String -/
def k7 : Class := { plain "java/lang/String" (some 0) with
  accessFlags := 49
  interfaces := #[2, 3, 4, 5, 6]
  cf := some (fileOf pool7 10 #[.nestMembers #[1103]] #[{ accessFlags := 1, nameIndex := 5, descriptorIndex := 6, attributes := #[] }, { accessFlags := 1, nameIndex := 5, descriptorIndex := 1010, attributes := #[] }, { accessFlags := 1, nameIndex := 507, descriptorIndex := 334, attributes := #[] }, { accessFlags := 1, nameIndex := 635, descriptorIndex := 765, attributes := #[] }, { accessFlags := 1, nameIndex := 635, descriptorIndex := 636, attributes := #[] }, { accessFlags := 9, nameIndex := 782, descriptorIndex := 783, attributes := #[] }, { accessFlags := 2, nameIndex := 5, descriptorIndex := 29, attributes := #[] }, { accessFlags := 0, nameIndex := 5, descriptorIndex := 211, attributes := #[] }, { accessFlags := 0, nameIndex := 17, descriptorIndex := 337, attributes := #[] }, { accessFlags := 0, nameIndex := 494, descriptorIndex := 142, attributes := #[] }, { accessFlags := 8, nameIndex := 523, descriptorIndex := 524, attributes := #[] }] 49 2 #[1106, 1108, 575, 1110, 1112] #[{ accessFlags := 18, nameIndex := 13, descriptorIndex := 14, attributes := #[] }, { accessFlags := 18, nameIndex := 17, descriptorIndex := 18, attributes := #[] }, { accessFlags := 2, nameIndex := 21, descriptorIndex := 22, attributes := #[] }, { accessFlags := 2, nameIndex := 25, descriptorIndex := 26, attributes := #[] }, { accessFlags := 26, nameIndex := 1116, descriptorIndex := 1117, attributes := #[] }, { accessFlags := 24, nameIndex := 40, descriptorIndex := 26, attributes := #[] }, { accessFlags := 26, nameIndex := 1101, descriptorIndex := 1102, attributes := #[] }, { accessFlags := 26, nameIndex := 1121, descriptorIndex := 1122, attributes := #[] }, { accessFlags := 25, nameIndex := 599, descriptorIndex := 600, attributes := #[] }, { accessFlags := 24, nameIndex := 1125, descriptorIndex := 18, attributes := #[] }, { accessFlags := 24, nameIndex := 1127, descriptorIndex := 18, attributes := #[] }])
  fields := #[{ name := "value", type := (.array .byte), accessFlags := 18, slot := 0, constantValue := 0 }, { name := "coder", type := .byte, accessFlags := 18, slot := 1, constantValue := 0 }, { name := "hash", type := .int, accessFlags := 2, slot := 2, constantValue := 0 }, { name := "hashIsZero", type := .boolean, accessFlags := 2, slot := 3, constantValue := 0 }, { name := "serialVersionUID", type := .long, accessFlags := 26, slot := 0, constantValue := 0 }, { name := "COMPACT_STRINGS", type := .boolean, accessFlags := 24, slot := 1, constantValue := 0 }, { name := "serialPersistentFields", type := (.array (.object "java/io/ObjectStreamField")), accessFlags := 26, slot := 2, constantValue := 0 }, { name := "REPL", type := .char, accessFlags := 26, slot := 3, constantValue := 0 }, { name := "CASE_INSENSITIVE_ORDER", type := (.object "java/util/Comparator"), accessFlags := 25, slot := 4, constantValue := 0 }, { name := "LATIN1", type := .byte, accessFlags := 24, slot := 5, constantValue := 0 }, { name := "UTF16", type := .byte, accessFlags := 24, slot := 6, constantValue := 0 }]
  methods := #[k7m0, k7m1, k7m2, k7m3, k7m4, k7m5, k7m6, k7m7, k7m8, k7m9, k7m10]
  instanceTypes := #[(.array .byte), .byte, .int, .boolean]
  staticTypes := #[.long, .boolean, (.array (.object "java/io/ObjectStreamField")), .char, (.object "java/util/Comparator"), .byte, .byte]
  resolved := Array.replicate 1451 none
  statics := some 0 }

def pool8 : Array CpInfo := pool [(4, .class_ 6), (1, u "java/lang/Object"), (0, u "<init>"), (0, u "()V"), (5, .class_ 16), (1, u "java/lang/StringLatin1"), (71, .methodref 14 89), (0, .nameAndType 90 91), (0, u "canEncode"), (0, u "(I)Z"), (6, u "([BIII)I"), (2, u "indexOf"), (3, u "(C)Z"), (15, u "$assertionsDisabled"), (0, u "Z"), (98, .class_ 223), (1, u "java/lang/StringLatin1$LinesSpliterator"), (156, u "toBytes"), (1, u "(C)[B"), (7, .class_ 391), (0, u "java/lang/StringLatin1$CharsSpliterator")] 3

def k8m0 : Method := { name := "<init>", desc := "()V", sig := { parameters := [], returnType := none }, accessFlags := 0, code := none }
def k8c1 : Code := { maxStack := 2, maxLocals := 1, code := jdk_43_method_3_code, exceptionTable := #[], attributes := #[] }
def k8m1 : Method := { name := "canEncode", desc := "(C)Z", sig := { parameters := [.char], returnType := some .boolean }, accessFlags := 9, code := some k8c1 }
def k8c2 : Code := { maxStack := 2, maxLocals := 1, code := jdk_43_method_4_code, exceptionTable := #[], attributes := #[] }
def k8m2 : Method := { name := "canEncode", desc := "(I)Z", sig := { parameters := [.int], returnType := some .boolean }, accessFlags := 9, code := some k8c2 }
def k8c3 : Code := { maxStack := 4, maxLocals := 4, code := jdk_43_method_22_code, exceptionTable := #[], attributes := #[] }
def k8m3 : Method := { name := "indexOf", desc := "([BIII)I", sig := { parameters := [(.array .byte), .int, .int, .int], returnType := some .int }, accessFlags := 9, code := some k8c3 }
def k8c4 : Code := { maxStack := 4, maxLocals := 1, code := jdk_43_method_46_code, exceptionTable := #[], attributes := #[] }
def k8m4 : Method := { name := "toBytes", desc := "(C)[B", sig := { parameters := [.char], returnType := some (.array .byte) }, accessFlags := 9, code := some k8c4 }
/-- java/lang/StringLatin1 -/
def k8 : Class := { plain "java/lang/StringLatin1" (some 0) with
  accessFlags := 48
  interfaces := #[]
  cf := some (fileOf pool8 14 #[.nestMembers #[390, 221]] #[{ accessFlags := 0, nameIndex := 7, descriptorIndex := 8, attributes := #[] }, { accessFlags := 9, nameIndex := 90, descriptorIndex := 105, attributes := #[] }, { accessFlags := 9, nameIndex := 90, descriptorIndex := 91, attributes := #[] }, { accessFlags := 9, nameIndex := 101, descriptorIndex := 98, attributes := #[] }, { accessFlags := 9, nameIndex := 380, descriptorIndex := 382, attributes := #[] }] 48 4 #[] #[{ accessFlags := 4120, nameIndex := 121, descriptorIndex := 122, attributes := #[] }])
  fields := #[{ name := "$assertionsDisabled", type := .boolean, accessFlags := 4120, slot := 0, constantValue := 0 }]
  methods := #[k8m0, k8m1, k8m2, k8m3, k8m4]
  instanceTypes := #[]
  staticTypes := #[.boolean]
  resolved := Array.replicate 395 none
  statics := none }

def pool9 : Array CpInfo := pool [(2, .class_ 4), (1, u "java/lang/Object"), (3, .class_ 10), (1, u "com/example/evoke/evoke/Options"), (0, u "values"), (0, u "Ljava/util/Map;"), (2, u "flags"), (0, u "Ljava/util/Set;"), (2, u "operands"), (0, u "Ljava/util/List;"), (36, .class_ 58), (0, u "java/lang/String"), (90, u "requireDecoded"), (0, u "(Ljava/lang/String;Ljava/lang/String;)V"), (34, .integer 65533), (0, .methodref 57 187), (0, .nameAndType 188 189), (0, u "indexOf"), (0, u "(I)I"), (57, u "TRUST"), (0, u "Ljava/lang/String;"), (1, u "OPTION_PREFIX"), (0, u "FILE_NAME_ENCODING"), (0, u "UNDECODED_BYTE"), (0, u "C")] 75

def k9c0 : Code := { maxStack := 4, maxLocals := 2, code := prog_38_method_14_code, exceptionTable := #[], attributes := #[] }
def k9m0 : Method := { name := "requireDecoded", desc := "(Ljava/lang/String;Ljava/lang/String;)V", sig := { parameters := [(.object "java/lang/String"), (.object "java/lang/String")], returnType := none }, accessFlags := 8, code := some k9c0 }
/-- com/example/evoke/evoke/Options -/
def k9 : Class := { plain "com/example/evoke/evoke/Options" (some 0) with
  accessFlags := 48
  interfaces := #[]
  cf := some (fileOf pool9 8 #[] #[{ accessFlags := 8, nameIndex := 149, descriptorIndex := 150, attributes := #[] }] 48 2 #[] #[{ accessFlags := 24, nameIndex := 247, descriptorIndex := 248, attributes := #[] }, { accessFlags := 26, nameIndex := 250, descriptorIndex := 248, attributes := #[] }, { accessFlags := 26, nameIndex := 251, descriptorIndex := 248, attributes := #[] }, { accessFlags := 26, nameIndex := 252, descriptorIndex := 253, attributes := #[] }, { accessFlags := 18, nameIndex := 11, descriptorIndex := 12, attributes := #[] }, { accessFlags := 18, nameIndex := 15, descriptorIndex := 16, attributes := #[] }, { accessFlags := 18, nameIndex := 19, descriptorIndex := 20, attributes := #[] }])
  fields := #[{ name := "TRUST", type := (.object "java/lang/String"), accessFlags := 24, slot := 0, constantValue := 0 }, { name := "OPTION_PREFIX", type := (.object "java/lang/String"), accessFlags := 26, slot := 1, constantValue := 0 }, { name := "FILE_NAME_ENCODING", type := (.object "java/lang/String"), accessFlags := 26, slot := 2, constantValue := 0 }, { name := "UNDECODED_BYTE", type := .char, accessFlags := 26, slot := 3, constantValue := 0 }, { name := "values", type := (.object "java/util/Map"), accessFlags := 18, slot := 0, constantValue := 0 }, { name := "flags", type := (.object "java/util/Set"), accessFlags := 18, slot := 1, constantValue := 0 }, { name := "operands", type := (.object "java/util/List"), accessFlags := 18, slot := 2, constantValue := 0 }]
  methods := #[k9m0]
  instanceTypes := #[(.object "java/util/Map"), (.object "java/util/Set"), (.object "java/util/List")]
  staticTypes := #[(.object "java/lang/String"), (.object "java/lang/String"), (.object "java/lang/String"), .char]
  resolved := Array.replicate 329 none
  statics := none }

def pool10 : Array CpInfo := pool [(3, .class_ 4), (0, u "java/lang/String"), (1, .class_ 8), (1, u "java/lang/Object"), (0, u "<init>"), (0, u "()V"), (0, .methodref 12 13), (0, .class_ 14), (0, .nameAndType 15 16), (0, u "java/lang/StringUTF16"), (0, u "newBytesLength"), (0, u "(I)I"), (3, .integer 1073741823), (23, .fieldref 12 45), (0, .nameAndType 46 47), (0, u "$assertionsDisabled"), (0, u "Z"), (0, .methodref 12 49), (0, .nameAndType 50 51), (0, u "length"), (0, u "([B)I"), (7, .fieldref 12 60), (0, .nameAndType 61 62), (0, u "HI_BYTE_SHIFT"), (0, u "I"), (0, .fieldref 12 64), (0, .nameAndType 65 62), (0, u "LO_BYTE_SHIFT"), (5, .methodref 12 72), (0, .nameAndType 73 74), (0, u "getChar"), (0, u "([BI)C"), (21, .methodref 12 97), (0, .nameAndType 98 99), (0, u "checkBoundsBeginEnd"), (0, u "(II[B)V"), (7, .methodref 12 108), (0, .nameAndType 109 110), (0, u "newBytesFor"), (0, u "(I)[B"), (0, .methodref 12 112), (0, .nameAndType 113 114), (0, u "putChar"), (0, u "([BII)V"), (0, .methodref 12 116), (0, .nameAndType 117 118), (0, u "compress"), (0, u "([CI[BII)I"), (0, .methodref 12 120), (0, .nameAndType 121 122), (0, u "toBytes"), (0, u "([CII)[B"), (60, .methodref 184 185), (0, .class_ 186), (0, .nameAndType 187 188), (0, u "java/lang/Math"), (0, u "min"), (0, u "(II)I"), (35, .methodref 184 225), (0, .nameAndType 226 188), (0, u "max"), (0, .integer 65536), (0, .methodref 12 229), (0, .nameAndType 230 231), (0, u "indexOfChar"), (0, u "([BIII)I"), (9, .methodref 3 242), (0, .nameAndType 98 243), (0, u "(III)V"), (0, .methodref 12 245), (0, .nameAndType 246 231), (0, u "indexOfCharUnsafe"), (14, u "coderFromArrayLen"), (0, u "([BI)B"), (5, u "indexOf"), (100, .class_ 371), (1, u "java/lang/StringUTF16$LinesSpliterator"), (58, u "MAX_LENGTH"), (196, .class_ 628), (0, u "java/lang/StringUTF16$CodePointsSpliterator"), (0, .class_ 630), (0, u "java/lang/StringUTF16$CharsSpliterator")] 4

def k10m0 : Method := { name := "<init>", desc := "()V", sig := { parameters := [], returnType := none }, accessFlags := 0, code := none }
def k10c1 : Code := { maxStack := 1, maxLocals := 1, code := jdk_52_method_2_code, exceptionTable := #[], attributes := #[] }
def k10m1 : Method := { name := "newBytesFor", desc := "(I)[B", sig := { parameters := [.int], returnType := some (.array .byte) }, accessFlags := 9, code := some k10c1 }
def k10c2 : Code := { maxStack := 4, maxLocals := 1, code := jdk_52_method_3_code, exceptionTable := #[], attributes := #[] }
def k10m2 : Method := { name := "newBytesLength", desc := "(I)I", sig := { parameters := [.int], returnType := some .int }, accessFlags := 9, code := some k10c2 }
def k10c3 : Code := { maxStack := 4, maxLocals := 3, code := jdk_52_method_4_code, exceptionTable := #[], attributes := #[] }
def k10m3 : Method := { name := "putChar", desc := "([BII)V", sig := { parameters := [(.array .byte), .int, .int], returnType := none }, accessFlags := 8, code := some k10c3 }
def k10c4 : Code := { maxStack := 3, maxLocals := 2, code := jdk_52_method_5_code, exceptionTable := #[], attributes := #[] }
def k10m4 : Method := { name := "getChar", desc := "([BI)C", sig := { parameters := [(.array .byte), .int], returnType := some .char }, accessFlags := 8, code := some k10c4 }
def k10c5 : Code := { maxStack := 2, maxLocals := 1, code := jdk_52_method_6_code, exceptionTable := #[], attributes := #[] }
def k10m5 : Method := { name := "length", desc := "([B)I", sig := { parameters := [(.array .byte)], returnType := some .int }, accessFlags := 9, code := some k10c5 }
def k10c6 : Code := { maxStack := 4, maxLocals := 5, code := jdk_52_method_14_code, exceptionTable := #[], attributes := #[] }
def k10m6 : Method := { name := "toBytes", desc := "([CII)[B", sig := { parameters := [(.array .char), .int, .int], returnType := some (.array .byte) }, accessFlags := 9, code := some k10c6 }
def k10c7 : Code := { maxStack := 2, maxLocals := 2, code := jdk_52_method_15_code, exceptionTable := #[], attributes := #[] }
def k10m7 : Method := { name := "coderFromArrayLen", desc := "([BI)B", sig := { parameters := [(.array .byte), .int], returnType := some .byte }, accessFlags := 8, code := some k10c7 }
def k10c8 : Code := { maxStack := 5, maxLocals := 6, code := jdk_52_method_16_code, exceptionTable := #[], attributes := #[] }
def k10m8 : Method := { name := "compress", desc := "([CII)[B", sig := { parameters := [(.array .char), .int, .int], returnType := some (.array .byte) }, accessFlags := 9, code := some k10c8 }
def k10c9 : Code := { maxStack := 3, maxLocals := 7, code := jdk_52_method_21_code, exceptionTable := #[], attributes := #[] }
def k10m9 : Method := { name := "compress", desc := "([CI[BII)I", sig := { parameters := [(.array .char), .int, (.array .byte), .int, .int], returnType := some .int }, accessFlags := 9, code := some k10c9 }
def k10c10 : Code := { maxStack := 4, maxLocals := 4, code := jdk_52_method_40_code, exceptionTable := #[], attributes := #[] }
def k10m10 : Method := { name := "indexOf", desc := "([BIII)I", sig := { parameters := [(.array .byte), .int, .int, .int], returnType := some .int }, accessFlags := 9, code := some k10c10 }
def k10c11 : Code := { maxStack := 4, maxLocals := 4, code := jdk_52_method_47_code, exceptionTable := #[], attributes := #[] }
def k10m11 : Method := { name := "indexOfChar", desc := "([BIII)I", sig := { parameters := [(.array .byte), .int, .int, .int], returnType := some .int }, accessFlags := 10, code := some k10c11 }
def k10c12 : Code := { maxStack := 2, maxLocals := 5, code := jdk_52_method_48_code, exceptionTable := #[], attributes := #[] }
def k10m12 : Method := { name := "indexOfCharUnsafe", desc := "([BIII)I", sig := { parameters := [(.array .byte), .int, .int, .int], returnType := some .int }, accessFlags := 10, code := some k10c12 }
def k10c13 : Code := { maxStack := 3, maxLocals := 3, code := jdk_52_method_93_code, exceptionTable := #[], attributes := #[] }
def k10m13 : Method := { name := "checkBoundsBeginEnd", desc := "(II[B)V", sig := { parameters := [.int, .int, (.array .byte)], returnType := none }, accessFlags := 9, code := some k10c13 }
/-- java/lang/StringUTF16 -/
def k10 : Class := { plain "java/lang/StringUTF16" (some 0) with
  accessFlags := 48
  interfaces := #[]
  cf := some (fileOf pool10 12 #[.nestMembers #[627, 629, 369]] #[{ accessFlags := 0, nameIndex := 9, descriptorIndex := 10, attributes := #[] }, { accessFlags := 9, nameIndex := 109, descriptorIndex := 110, attributes := #[] }, { accessFlags := 9, nameIndex := 15, descriptorIndex := 16, attributes := #[] }, { accessFlags := 8, nameIndex := 113, descriptorIndex := 114, attributes := #[] }, { accessFlags := 8, nameIndex := 73, descriptorIndex := 74, attributes := #[] }, { accessFlags := 9, nameIndex := 50, descriptorIndex := 51, attributes := #[] }, { accessFlags := 9, nameIndex := 121, descriptorIndex := 122, attributes := #[] }, { accessFlags := 8, nameIndex := 261, descriptorIndex := 262, attributes := #[] }, { accessFlags := 9, nameIndex := 117, descriptorIndex := 122, attributes := #[] }, { accessFlags := 9, nameIndex := 117, descriptorIndex := 118, attributes := #[] }, { accessFlags := 9, nameIndex := 268, descriptorIndex := 231, attributes := #[] }, { accessFlags := 10, nameIndex := 230, descriptorIndex := 231, attributes := #[] }, { accessFlags := 10, nameIndex := 246, descriptorIndex := 231, attributes := #[] }, { accessFlags := 9, nameIndex := 98, descriptorIndex := 99, attributes := #[] }] 48 6 #[] #[{ accessFlags := 26, nameIndex := 61, descriptorIndex := 62, attributes := #[] }, { accessFlags := 26, nameIndex := 65, descriptorIndex := 62, attributes := #[] }, { accessFlags := 24, nameIndex := 430, descriptorIndex := 62, attributes := #[] }, { accessFlags := 4120, nameIndex := 46, descriptorIndex := 47, attributes := #[] }])
  fields := #[{ name := "HI_BYTE_SHIFT", type := .int, accessFlags := 26, slot := 0, constantValue := 0 }, { name := "LO_BYTE_SHIFT", type := .int, accessFlags := 26, slot := 1, constantValue := 0 }, { name := "MAX_LENGTH", type := .int, accessFlags := 24, slot := 2, constantValue := 0 }, { name := "$assertionsDisabled", type := .boolean, accessFlags := 4120, slot := 3, constantValue := 0 }]
  methods := #[k10m0, k10m1, k10m2, k10m3, k10m4, k10m5, k10m6, k10m7, k10m8, k10m9, k10m10, k10m11, k10m12, k10m13]
  instanceTypes := #[]
  staticTypes := #[.int, .int, .int, .boolean]
  resolved := Array.replicate 635 none
  statics := some 1 }

def pool11 : Array CpInfo := pool [(1, .class_ 2), (0, u "java/lang/Math"), (1, .class_ 6), (1, u "java/lang/Object"), (0, u "<init>"), (0, u "()V"), (89, .class_ 100), (1, u "java/lang/Math$RandomNumberGeneratorHolder"), (71, u "negativeZeroFloatBits"), (0, u "J"), (2, u "negativeZeroDoubleBits"), (21, u "max"), (2, u "min"), (43, u "$assertionsDisabled"), (0, u "Z"), (88, u "(II)I"), (2, u "twoToTheDoubleScaleDown"), (0, u "D"), (4, u "twoToTheDoubleScaleUp"), (9, u "E"), (3, u "PI"), (2, u "TAU"), (2, u "DEGREES_TO_RADIANS"), (0, u "RADIANS_TO_DEGREES")] 94

def k11m0 : Method := { name := "<init>", desc := "()V", sig := { parameters := [], returnType := none }, accessFlags := 2, code := none }
def k11c1 : Code := { maxStack := 2, maxLocals := 2, code := jdk_29_method_65_code, exceptionTable := #[], attributes := #[] }
def k11m1 : Method := { name := "max", desc := "(II)I", sig := { parameters := [.int, .int], returnType := some .int }, accessFlags := 9, code := some k11c1 }
def k11c2 : Code := { maxStack := 2, maxLocals := 2, code := jdk_29_method_69_code, exceptionTable := #[], attributes := #[] }
def k11m2 : Method := { name := "min", desc := "(II)I", sig := { parameters := [.int, .int], returnType := some .int }, accessFlags := 9, code := some k11c2 }
/-- java/lang/Math -/
def k11 : Class := { plain "java/lang/Math" (some 0) with
  accessFlags := 49
  interfaces := #[]
  cf := some (fileOf pool11 1 #[.nestMembers #[98]] #[{ accessFlags := 2, nameIndex := 7, descriptorIndex := 8, attributes := #[] }, { accessFlags := 9, nameIndex := 198, descriptorIndex := 335, attributes := #[] }, { accessFlags := 9, nameIndex := 201, descriptorIndex := 335, attributes := #[] }] 49 4 #[] #[{ accessFlags := 25, nameIndex := 354, descriptorIndex := 339, attributes := #[] }, { accessFlags := 25, nameIndex := 358, descriptorIndex := 339, attributes := #[] }, { accessFlags := 25, nameIndex := 361, descriptorIndex := 339, attributes := #[] }, { accessFlags := 26, nameIndex := 364, descriptorIndex := 339, attributes := #[] }, { accessFlags := 26, nameIndex := 365, descriptorIndex := 339, attributes := #[] }, { accessFlags := 26, nameIndex := 172, descriptorIndex := 173, attributes := #[] }, { accessFlags := 26, nameIndex := 176, descriptorIndex := 173, attributes := #[] }, { accessFlags := 8, nameIndex := 344, descriptorIndex := 339, attributes := #[] }, { accessFlags := 8, nameIndex := 338, descriptorIndex := 339, attributes := #[] }, { accessFlags := 4120, nameIndex := 245, descriptorIndex := 246, attributes := #[] }])
  fields := #[{ name := "E", type := .double, accessFlags := 25, slot := 0, constantValue := 0 }, { name := "PI", type := .double, accessFlags := 25, slot := 1, constantValue := 0 }, { name := "TAU", type := .double, accessFlags := 25, slot := 2, constantValue := 0 }, { name := "DEGREES_TO_RADIANS", type := .double, accessFlags := 26, slot := 3, constantValue := 0 }, { name := "RADIANS_TO_DEGREES", type := .double, accessFlags := 26, slot := 4, constantValue := 0 }, { name := "negativeZeroFloatBits", type := .long, accessFlags := 26, slot := 5, constantValue := 0 }, { name := "negativeZeroDoubleBits", type := .long, accessFlags := 26, slot := 6, constantValue := 0 }, { name := "twoToTheDoubleScaleUp", type := .double, accessFlags := 8, slot := 7, constantValue := 0 }, { name := "twoToTheDoubleScaleDown", type := .double, accessFlags := 8, slot := 8, constantValue := 0 }, { name := "$assertionsDisabled", type := .boolean, accessFlags := 4120, slot := 9, constantValue := 0 }]
  methods := #[k11m0, k11m1, k11m2]
  instanceTypes := #[]
  staticTypes := #[.double, .double, .double, .double, .double, .long, .long, .double, .double, .boolean]
  resolved := Array.replicate 460 none
  statics := none }

def pool12 : Array CpInfo := pool [(2, .class_ 4), (1, u "java/lang/Object"), (0, u "<init>"), (0, u "()V"), (17, .class_ 26), (1, u "jdk/internal/util/Preconditions"), (20, u "checkFromToIndex"), (7, .class_ 56), (0, u "jdk/internal/util/Preconditions$4"), (57, .class_ 115), (0, u "jdk/internal/util/Preconditions$1"), (7, u "SIOOBE_FORMATTER"), (0, u "Ljava/util/function/BiFunction;"), (0, .class_ 126), (0, u "jdk/internal/util/Preconditions$2"), (3, u "AIOOBE_FORMATTER"), (0, .class_ 132), (0, u "jdk/internal/util/Preconditions$3"), (3, u "IOOBE_FORMATTER"), (46, u "(IIILjava/util/function/BiFunction;)I")] 10

def k12m0 : Method := { name := "<init>", desc := "()V", sig := { parameters := [], returnType := none }, accessFlags := 1, code := none }
def k12c1 : Code := { maxStack := 4, maxLocals := 4, code := jdk_41_method_12_code, exceptionTable := #[], attributes := #[] }
def k12m1 : Method := { name := "checkFromToIndex", desc := "(IIILjava/util/function/BiFunction;)I", sig := { parameters := [.int, .int, .int, (.object "java/util/function/BiFunction")], returnType := some .int }, accessFlags := 9, code := some k12c1 }
/-- jdk/internal/util/Preconditions -/
def k12 : Class := { plain "jdk/internal/util/Preconditions" (some 0) with
  accessFlags := 33
  interfaces := #[]
  cf := some (fileOf pool12 24 #[.nestMembers #[55, 131, 125, 114]] #[{ accessFlags := 1, nameIndex := 5, descriptorIndex := 6, attributes := #[] }, { accessFlags := 9, nameIndex := 47, descriptorIndex := 183, attributes := #[] }] 33 2 #[] #[{ accessFlags := 25, nameIndex := 123, descriptorIndex := 124, attributes := #[] }, { accessFlags := 25, nameIndex := 130, descriptorIndex := 124, attributes := #[] }, { accessFlags := 25, nameIndex := 136, descriptorIndex := 124, attributes := #[] }])
  fields := #[{ name := "SIOOBE_FORMATTER", type := (.object "java/util/function/BiFunction"), accessFlags := 25, slot := 0, constantValue := 0 }, { name := "AIOOBE_FORMATTER", type := (.object "java/util/function/BiFunction"), accessFlags := 25, slot := 1, constantValue := 0 }, { name := "IOOBE_FORMATTER", type := (.object "java/util/function/BiFunction"), accessFlags := 25, slot := 2, constantValue := 0 }]
  methods := #[k12m0, k12m1]
  instanceTypes := #[]
  staticTypes := #[(.object "java/util/function/BiFunction"), (.object "java/util/function/BiFunction"), (.object "java/util/function/BiFunction")]
  resolved := Array.replicate 194 none
  statics := some 2 }

def pool13 : Array CpInfo := pool [(9, u "<init>"), (6, .class_ 18), (1, u "java/lang/Object"), (0, u "()V"), (1, .class_ 23), (1, u "jdk/internal/util/ArraysSupport"), (0, u "LOG2_ARRAY_LONG_INDEX_SCALE"), (0, u "I"), (2, u "U"), (0, u "Ljdk/internal/misc/Unsafe;"), (8, u "BIG_ENDIAN"), (0, u "Z"), (8, u "LOG2_BYTE_BIT_SIZE"), (4, u "LOG2_ARRAY_INT_INDEX_SCALE"), (54, u "JLA"), (0, u "Ljdk/internal/access/JavaLangAccess;"), (11, u "LOG2_ARRAY_BOOLEAN_INDEX_SCALE"), (9, u "LOG2_ARRAY_BYTE_INDEX_SCALE"), (5, u "LOG2_ARRAY_CHAR_INDEX_SCALE"), (5, u "LOG2_ARRAY_SHORT_INDEX_SCALE"), (18, u "LOG2_ARRAY_FLOAT_INDEX_SCALE"), (24, u "LOG2_ARRAY_DOUBLE_INDEX_SCALE"), (89, u "T_BOOLEAN"), (2, u "T_CHAR"), (1, u "T_FLOAT"), (1, u "T_DOUBLE"), (1, u "T_BYTE"), (1, u "T_SHORT"), (1, u "T_INT"), (1, u "T_LONG"), (1, u "SOFT_MAX_ARRAY_LENGTH")] 83

def k13m0 : Method := { name := "<init>", desc := "()V", sig := { parameters := [], returnType := none }, accessFlags := 2, code := none }
/-- jdk/internal/util/ArraysSupport -/
def k13 : Class := { plain "jdk/internal/util/ArraysSupport" (some 0) with
  accessFlags := 33
  interfaces := #[]
  cf := some (fileOf pool13 21 #[] #[{ accessFlags := 2, nameIndex := 9, descriptorIndex := 19, attributes := #[] }] 33 16 #[] #[{ accessFlags := 24, nameIndex := 28, descriptorIndex := 29, attributes := #[] }, { accessFlags := 26, nameIndex := 38, descriptorIndex := 39, attributes := #[] }, { accessFlags := 25, nameIndex := 121, descriptorIndex := 25, attributes := #[] }, { accessFlags := 25, nameIndex := 131, descriptorIndex := 25, attributes := #[] }, { accessFlags := 25, nameIndex := 137, descriptorIndex := 25, attributes := #[] }, { accessFlags := 25, nameIndex := 143, descriptorIndex := 25, attributes := #[] }, { accessFlags := 25, nameIndex := 53, descriptorIndex := 25, attributes := #[] }, { accessFlags := 25, nameIndex := 24, descriptorIndex := 25, attributes := #[] }, { accessFlags := 25, nameIndex := 162, descriptorIndex := 25, attributes := #[] }, { accessFlags := 25, nameIndex := 187, descriptorIndex := 25, attributes := #[] }, { accessFlags := 26, nameIndex := 48, descriptorIndex := 25, attributes := #[] }, { accessFlags := 25, nameIndex := 277, descriptorIndex := 25, attributes := #[] }, { accessFlags := 25, nameIndex := 280, descriptorIndex := 25, attributes := #[] }, { accessFlags := 25, nameIndex := 282, descriptorIndex := 25, attributes := #[] }, { accessFlags := 25, nameIndex := 284, descriptorIndex := 25, attributes := #[] }, { accessFlags := 25, nameIndex := 286, descriptorIndex := 25, attributes := #[] }, { accessFlags := 25, nameIndex := 288, descriptorIndex := 25, attributes := #[] }, { accessFlags := 25, nameIndex := 290, descriptorIndex := 25, attributes := #[] }, { accessFlags := 25, nameIndex := 292, descriptorIndex := 25, attributes := #[] }, { accessFlags := 26, nameIndex := 108, descriptorIndex := 109, attributes := #[] }, { accessFlags := 25, nameIndex := 294, descriptorIndex := 25, attributes := #[] }])
  fields := #[{ name := "U", type := (.object "jdk/internal/misc/Unsafe"), accessFlags := 24, slot := 0, constantValue := 0 }, { name := "BIG_ENDIAN", type := .boolean, accessFlags := 26, slot := 1, constantValue := 0 }, { name := "LOG2_ARRAY_BOOLEAN_INDEX_SCALE", type := .int, accessFlags := 25, slot := 2, constantValue := 0 }, { name := "LOG2_ARRAY_BYTE_INDEX_SCALE", type := .int, accessFlags := 25, slot := 3, constantValue := 0 }, { name := "LOG2_ARRAY_CHAR_INDEX_SCALE", type := .int, accessFlags := 25, slot := 4, constantValue := 0 }, { name := "LOG2_ARRAY_SHORT_INDEX_SCALE", type := .int, accessFlags := 25, slot := 5, constantValue := 0 }, { name := "LOG2_ARRAY_INT_INDEX_SCALE", type := .int, accessFlags := 25, slot := 6, constantValue := 0 }, { name := "LOG2_ARRAY_LONG_INDEX_SCALE", type := .int, accessFlags := 25, slot := 7, constantValue := 0 }, { name := "LOG2_ARRAY_FLOAT_INDEX_SCALE", type := .int, accessFlags := 25, slot := 8, constantValue := 0 }, { name := "LOG2_ARRAY_DOUBLE_INDEX_SCALE", type := .int, accessFlags := 25, slot := 9, constantValue := 0 }, { name := "LOG2_BYTE_BIT_SIZE", type := .int, accessFlags := 26, slot := 10, constantValue := 0 }, { name := "T_BOOLEAN", type := .int, accessFlags := 25, slot := 11, constantValue := 0 }, { name := "T_CHAR", type := .int, accessFlags := 25, slot := 12, constantValue := 0 }, { name := "T_FLOAT", type := .int, accessFlags := 25, slot := 13, constantValue := 0 }, { name := "T_DOUBLE", type := .int, accessFlags := 25, slot := 14, constantValue := 0 }, { name := "T_BYTE", type := .int, accessFlags := 25, slot := 15, constantValue := 0 }, { name := "T_SHORT", type := .int, accessFlags := 25, slot := 16, constantValue := 0 }, { name := "T_INT", type := .int, accessFlags := 25, slot := 17, constantValue := 0 }, { name := "T_LONG", type := .int, accessFlags := 25, slot := 18, constantValue := 0 }, { name := "JLA", type := (.object "jdk/internal/access/JavaLangAccess"), accessFlags := 26, slot := 19, constantValue := 0 }, { name := "SOFT_MAX_ARRAY_LENGTH", type := .int, accessFlags := 25, slot := 20, constantValue := 0 }]
  methods := #[k13m0]
  instanceTypes := #[]
  staticTypes := #[(.object "jdk/internal/misc/Unsafe"), .boolean, .int, .int, .int, .int, .int, .int, .int, .int, .int, .int, .int, .int, .int, .int, .int, .int, .int, (.object "jdk/internal/access/JavaLangAccess"), .int]
  resolved := Array.replicate 378 none
  statics := none }

def pool14 : Array CpInfo := pool [(1, u "java/lang/Cloneable"), (0, .class_ 1), (0, u "java/lang/Object"), (0, .class_ 3)] 3

/-- java/lang/Cloneable -/
def k14 : Class := { plain "java/lang/Cloneable" (some 0) with
  accessFlags := 1537
  interfaces := #[]
  cf := some (fileOf pool14 2 #[] #[] 1537 4 #[] #[])
  fields := #[]
  methods := #[]
  instanceTypes := #[]
  staticTypes := #[]
  resolved := Array.replicate 8 none
  statics := none }

/-- the primitive byte -/
def k15 : Class := { plain "byte" none with kind := .primitive 'B', accessFlags := 0x411 }
/-- [B -/
def k16 : Class := { plain "[B" (some 0) with kind := .array 15 .byte, interfaces := #[14, 2], accessFlags := 1041 }

/-- the primitive char -/
def k17 : Class := { plain "char" none with kind := .primitive 'C', accessFlags := 0x411 }
/-- [C -/
def k18 : Class := { plain "[C" (some 0) with kind := .array 17 .char, interfaces := #[14, 2], accessFlags := 1041 }

/-- the primitive int -/
def k19 : Class := { plain "int" none with kind := .primitive 'I', accessFlags := 0x411 }
/-- [I -/
def k20 : Class := { plain "[I" (some 0) with kind := .array 19 .int, interfaces := #[14, 2], accessFlags := 1041 }

def heap : Heap := #[{ cls := 7, slots := #[.long 0, .int 1, .null, .int 0, .null, .int 0, .int 0], vm := .statics 7 },
  { cls := 10, slots := #[.int 0, .int 8, .int 0, .int 1], vm := .statics 10 },
  { cls := 12, slots := #[.null, .null, .null], vm := .statics 12 }]
def classes : Array Class := #[k0, k1, k2, k3, k4, k5, k6, k7, k8, k9, k10, k11, k12, k13, k14, k15, k16, k17, k18, k19, k20]
def interned : List (Array UInt16 × Addr) := []
def slotsUsed : Nat := 14
def theMethod : MethodId := ⟨1, 1⟩
def args0 : Array Value := #[.int 2, .int 300, .int 66, .int 67, .int 65]
def aboutOver (below : List Frame) : State where
  vm := { classes := classes, interned := interned.toArray }
  heap := heap
  slotsUsed := slotsUsed
  threads := #[{ frames := .invoking theMethod args0 :: below }]
def below0 : List Frame := [.native { method := ⟨0, 0⟩, args := #[] }]
def about1 : State := aboutOver below0
def p0 : Program := .bare "" "" ""
def e0 : Env := launch0.env 0 0 0
theorem w_frames : about1.frames = Frame.invoking theMethod args0 :: below0 := rfl
set_option maxRecDepth 65536 in
theorem w_args : argsFit about1.vm theMethod args0 = true := by decide +kernel
set_option maxRecDepth 65536 in
theorem w_heap : heapFits about1 = true := by decide +kernel
set_option maxRecDepth 65536 in
theorem w_runnable : about1.curStatus? = some .runnable := by decide +kernel
set_option maxRecDepth 65536 in
theorem w_alone : about1.alone = true := by decide +kernel
set_option maxRecDepth 65536 in
theorem w_named : about1.methodNamed? x = some theMethod := by decide +kernel
set_option maxRecDepth 65536 in
theorem w_hears : about1.hears theMethod below0 = true := by decide +kernel
set_option maxRecDepth 65536 in
theorem w_ripe : about1.ripe theMethod args0 below0 = true := by decide +kernel
theorem w_running : about1.status = .running := rfl
set_option maxRecDepth 65536 in
theorem w_room : about1.hasRoom e0.platform room_1 = true :=
  launch0.hasRoom_least _ room_1 (by decide +kernel) (by decide +kernel) (by decide +kernel) (by decide +kernel) (by decide +kernel) (by decide +kernel)
theorem allAtoms_all (ts : List Jvm.Cond) (a : Array Jvm.Value) (st : Jvm.State) : (allAtoms ts).before a st = ts.all (fun c => c.before a st) := by
  induction ts with
  | nil => rfl
  | cons c t ih =>
    show (Jvm.Cond.and c (allAtoms t)).before a st = _
    rw [Jvm.Cond.before_and, ih, List.all_cons]
def words1 : List Jvm.Cond := Jvm.Cond.code x code maxLocals ret :: tables_1
/-- a 'code' word, met by the world's own term for the bytes: nothing is compared byte by byte -/
theorem code_word {y : MethodName} {bytes : ByteArray} {mx : Nat} {rt : Option FieldType} {a : Array Value} {s : State} {m : MethodId} {meth : Method} {c : Code} (h1 : s.methodNamed? y = some m) (h2 : s.vm.method? m = some meth) (h3 : meth.code = some c) (h4 : c.code = bytes)
    (h5 : (c.maxLocals == mx && c.exceptionTable.isEmpty && decide (c.maxStack ≤ mostOperands) && decide (meth.sig.returnType = rt) && !meth.locks && decide (parseMethodDescriptor y.desc = some meth.sig)) = true) : (Jvm.Cond.code y bytes mx rt).before a s = true := by
  simp only [Bool.and_eq_true, beq_iff_eq, Bool.not_eq_true', decide_eq_true_eq] at h5
  obtain ⟨⟨⟨⟨⟨g1, g2⟩, g3⟩, g4⟩, g5⟩, g6⟩ := h5
  simp [Cond.before, Cond.holds, Cond.value, h1, h2, h3, h4, g1, g2, g3, g4, g5, g6]
def isCode : Jvm.Cond → Bool
  | .code _ _ _ _ => true
  | _ => false
theorem all_split {L : List Jvm.Cond} {P : Jvm.Cond → Bool} (h1 : L.all (fun c => isCode c || P c) = true) (h2 : ∀ c ∈ L.filter isCode, P c = true) : L.all P = true := by
  refine List.all_eq_true.mpr fun c hc => ?_
  have h := List.all_eq_true.mp h1 c hc
  rcases Bool.eq_false_or_eq_true (isCode c) with hi | hi
  · exact h2 c (List.mem_filter.mpr ⟨hc, hi⟩)
  · simpa [hi] using h
set_option maxRecDepth 65536 in
theorem w_c0 : (Jvm.Cond.code x code maxLocals ret).before args0 about1 = true := code_word (m := ⟨1, 1⟩) (meth := k1m1) (c := k1c1) (by decide +kernel) rfl rfl rfl (by decide +kernel)
set_option maxRecDepth 65536 in
theorem w_c1 : (Jvm.Cond.code ({ cls := "com/example/evoke/evoke/OptionsRequireDecodedPinLaw", name := "ch", desc := "(I)C" } : Jvm.MethodName) method_3_code (2 : Nat) (Option.some Jvm.ClassFile.FieldType.char)).before args0 about1 = true := code_word (m := ⟨1, 2⟩) (meth := k1m2) (c := k1c2) (by decide +kernel) rfl rfl rfl (by decide +kernel)
set_option maxRecDepth 65536 in
theorem w_c2 : (Jvm.Cond.code ({ cls := "java/lang/String", name := "<init>", desc := "([C)V" } : Jvm.MethodName) jdk_42_method_3_code (2 : Nat) (Option.none : Option Jvm.ClassFile.FieldType)).before args0 about1 = true := code_word (m := ⟨7, 1⟩) (meth := k7m1) (c := k7c1) (by decide +kernel) rfl rfl rfl (by decide +kernel)
set_option maxRecDepth 65536 in
theorem w_c3 : (Jvm.Cond.code ({ cls := "java/lang/String", name := "<init>", desc := "([CIILjava/lang/Void;)V" } : Jvm.MethodName) jdk_42_method_149_code (6 : Nat) (Option.none : Option Jvm.ClassFile.FieldType)).before args0 about1 = true := code_word (m := ⟨7, 6⟩) (meth := k7m6) (c := k7c6) (by decide +kernel) rfl rfl rfl (by decide +kernel)
set_option maxRecDepth 65536 in
theorem w_c4 : (Jvm.Cond.code ({ cls := "java/lang/Object", name := "<init>", desc := "()V" } : Jvm.MethodName) object_method_1_code (1 : Nat) (Option.none : Option Jvm.ClassFile.FieldType)).before args0 about1 = true := code_word (m := ⟨0, 0⟩) (meth := k0m0) (c := k0c0) (by decide +kernel) rfl rfl rfl (by decide +kernel)
set_option maxRecDepth 65536 in
theorem w_c5 : (Jvm.Cond.code ({ cls := "java/lang/String", name := "valueOf", desc := "(C)Ljava/lang/String;" } : Jvm.MethodName) jdk_42_method_139_code (1 : Nat) (Option.some (Jvm.ClassFile.FieldType.object "java/lang/String"))).before args0 about1 = true := code_word (m := ⟨7, 5⟩) (meth := k7m5) (c := k7c5) (by decide +kernel) rfl rfl rfl (by decide +kernel)
set_option maxRecDepth 65536 in
theorem w_c6 : (Jvm.Cond.code ({ cls := "java/lang/StringLatin1", name := "canEncode", desc := "(C)Z" } : Jvm.MethodName) jdk_43_method_3_code (1 : Nat) (Option.some Jvm.ClassFile.FieldType.boolean)).before args0 about1 = true := code_word (m := ⟨8, 1⟩) (meth := k8m1) (c := k8c1) (by decide +kernel) rfl rfl rfl (by decide +kernel)
set_option maxRecDepth 65536 in
theorem w_c7 : (Jvm.Cond.code ({ cls := "java/lang/StringLatin1", name := "toBytes", desc := "(C)[B" } : Jvm.MethodName) jdk_43_method_46_code (1 : Nat) (Option.some (Jvm.ClassFile.FieldType.array Jvm.ClassFile.FieldType.byte))).before args0 about1 = true := code_word (m := ⟨8, 4⟩) (meth := k8m4) (c := k8c4) (by decide +kernel) rfl rfl rfl (by decide +kernel)
set_option maxRecDepth 65536 in
theorem w_c8 : (Jvm.Cond.code ({ cls := "java/lang/String", name := "<init>", desc := "([BB)V" } : Jvm.MethodName) jdk_42_method_151_code (3 : Nat) (Option.none : Option Jvm.ClassFile.FieldType)).before args0 about1 = true := code_word (m := ⟨7, 7⟩) (meth := k7m7) (c := k7c7) (by decide +kernel) rfl rfl rfl (by decide +kernel)
set_option maxRecDepth 65536 in
theorem w_c9 : (Jvm.Cond.code ({ cls := "com/example/evoke/evoke/Options", name := "requireDecoded", desc := "(Ljava/lang/String;Ljava/lang/String;)V" } : Jvm.MethodName) prog_38_method_14_code (2 : Nat) (Option.none : Option Jvm.ClassFile.FieldType)).before args0 about1 = true := code_word (m := ⟨9, 0⟩) (meth := k9m0) (c := k9c0) (by decide +kernel) rfl rfl rfl (by decide +kernel)
set_option maxRecDepth 65536 in
theorem w_c10 : (Jvm.Cond.code ({ cls := "java/lang/String", name := "indexOf", desc := "(I)I" } : Jvm.MethodName) jdk_42_method_79_code (2 : Nat) (Option.some Jvm.ClassFile.FieldType.int)).before args0 about1 = true := code_word (m := ⟨7, 3⟩) (meth := k7m3) (c := k7c3) (by decide +kernel) rfl rfl rfl (by decide +kernel)
set_option maxRecDepth 65536 in
theorem w_c11 : (Jvm.Cond.code ({ cls := "java/lang/String", name := "indexOf", desc := "(II)I" } : Jvm.MethodName) jdk_42_method_80_code (3 : Nat) (Option.some Jvm.ClassFile.FieldType.int)).before args0 about1 = true := code_word (m := ⟨7, 4⟩) (meth := k7m4) (c := k7c4) (by decide +kernel) rfl rfl rfl (by decide +kernel)
set_option maxRecDepth 65536 in
theorem w_c12 : (Jvm.Cond.code ({ cls := "java/lang/String", name := "isLatin1", desc := "()Z" } : Jvm.MethodName) jdk_42_method_154_code (1 : Nat) (Option.some Jvm.ClassFile.FieldType.boolean)).before args0 about1 = true := code_word (m := ⟨7, 9⟩) (meth := k7m9) (c := k7c9) (by decide +kernel) rfl rfl rfl (by decide +kernel)
set_option maxRecDepth 65536 in
theorem w_c13 : (Jvm.Cond.code ({ cls := "java/lang/String", name := "length", desc := "()I" } : Jvm.MethodName) jdk_42_method_54_code (1 : Nat) (Option.some Jvm.ClassFile.FieldType.int)).before args0 about1 = true := code_word (m := ⟨7, 2⟩) (meth := k7m2) (c := k7c2) (by decide +kernel) rfl rfl rfl (by decide +kernel)
set_option maxRecDepth 65536 in
theorem w_c14 : (Jvm.Cond.code ({ cls := "java/lang/String", name := "coder", desc := "()B" } : Jvm.MethodName) jdk_42_method_152_code (1 : Nat) (Option.some Jvm.ClassFile.FieldType.byte)).before args0 about1 = true := code_word (m := ⟨7, 8⟩) (meth := k7m8) (c := k7c8) (by decide +kernel) rfl rfl rfl (by decide +kernel)
set_option maxRecDepth 65536 in
theorem w_c15 : (Jvm.Cond.code ({ cls := "java/lang/StringLatin1", name := "indexOf", desc := "([BIII)I" } : Jvm.MethodName) jdk_43_method_22_code (4 : Nat) (Option.some Jvm.ClassFile.FieldType.int)).before args0 about1 = true := code_word (m := ⟨8, 3⟩) (meth := k8m3) (c := k8c3) (by decide +kernel) rfl rfl rfl (by decide +kernel)
set_option maxRecDepth 65536 in
theorem w_c16 : (Jvm.Cond.code ({ cls := "java/lang/StringLatin1", name := "canEncode", desc := "(I)Z" } : Jvm.MethodName) jdk_43_method_4_code (1 : Nat) (Option.some Jvm.ClassFile.FieldType.boolean)).before args0 about1 = true := code_word (m := ⟨8, 2⟩) (meth := k8m2) (c := k8c2) (by decide +kernel) rfl rfl rfl (by decide +kernel)
set_option maxRecDepth 65536 in
theorem w_c17 : (Jvm.Cond.code ({ cls := "java/lang/StringUTF16", name := "compress", desc := "([CII)[B" } : Jvm.MethodName) jdk_52_method_16_code (6 : Nat) (Option.some (Jvm.ClassFile.FieldType.array Jvm.ClassFile.FieldType.byte))).before args0 about1 = true := code_word (m := ⟨10, 8⟩) (meth := k10m8) (c := k10c8) (by decide +kernel) rfl rfl rfl (by decide +kernel)
set_option maxRecDepth 65536 in
theorem w_c18 : (Jvm.Cond.code ({ cls := "java/lang/StringUTF16", name := "compress", desc := "([CI[BII)I" } : Jvm.MethodName) jdk_52_method_21_code (7 : Nat) (Option.some Jvm.ClassFile.FieldType.int)).before args0 about1 = true := code_word (m := ⟨10, 9⟩) (meth := k10m9) (c := k10c9) (by decide +kernel) rfl rfl rfl (by decide +kernel)
set_option maxRecDepth 65536 in
theorem w_c19 : (Jvm.Cond.code ({ cls := "java/lang/StringUTF16", name := "coderFromArrayLen", desc := "([BI)B" } : Jvm.MethodName) jdk_52_method_15_code (2 : Nat) (Option.some Jvm.ClassFile.FieldType.byte)).before args0 about1 = true := code_word (m := ⟨10, 7⟩) (meth := k10m7) (c := k10c7) (by decide +kernel) rfl rfl rfl (by decide +kernel)
set_option maxRecDepth 65536 in
theorem w_c20 : (Jvm.Cond.code ({ cls := "java/lang/StringUTF16", name := "toBytes", desc := "([CII)[B" } : Jvm.MethodName) jdk_52_method_14_code (5 : Nat) (Option.some (Jvm.ClassFile.FieldType.array Jvm.ClassFile.FieldType.byte))).before args0 about1 = true := code_word (m := ⟨10, 6⟩) (meth := k10m6) (c := k10c6) (by decide +kernel) rfl rfl rfl (by decide +kernel)
set_option maxRecDepth 65536 in
theorem w_c21 : (Jvm.Cond.code ({ cls := "java/lang/StringUTF16", name := "newBytesFor", desc := "(I)[B" } : Jvm.MethodName) jdk_52_method_2_code (1 : Nat) (Option.some (Jvm.ClassFile.FieldType.array Jvm.ClassFile.FieldType.byte))).before args0 about1 = true := code_word (m := ⟨10, 1⟩) (meth := k10m1) (c := k10c1) (by decide +kernel) rfl rfl rfl (by decide +kernel)
set_option maxRecDepth 65536 in
theorem w_c22 : (Jvm.Cond.code ({ cls := "java/lang/StringUTF16", name := "newBytesLength", desc := "(I)I" } : Jvm.MethodName) jdk_52_method_3_code (1 : Nat) (Option.some Jvm.ClassFile.FieldType.int)).before args0 about1 = true := code_word (m := ⟨10, 2⟩) (meth := k10m2) (c := k10c2) (by decide +kernel) rfl rfl rfl (by decide +kernel)
set_option maxRecDepth 65536 in
theorem w_c23 : (Jvm.Cond.code ({ cls := "java/lang/StringUTF16", name := "putChar", desc := "([BII)V" } : Jvm.MethodName) jdk_52_method_4_code (3 : Nat) (Option.none : Option Jvm.ClassFile.FieldType)).before args0 about1 = true := code_word (m := ⟨10, 3⟩) (meth := k10m3) (c := k10c3) (by decide +kernel) rfl rfl rfl (by decide +kernel)
set_option maxRecDepth 65536 in
theorem w_c24 : (Jvm.Cond.code ({ cls := "java/lang/StringUTF16", name := "getChar", desc := "([BI)C" } : Jvm.MethodName) jdk_52_method_5_code (2 : Nat) (Option.some Jvm.ClassFile.FieldType.char)).before args0 about1 = true := code_word (m := ⟨10, 4⟩) (meth := k10m4) (c := k10c4) (by decide +kernel) rfl rfl rfl (by decide +kernel)
set_option maxRecDepth 65536 in
theorem w_c25 : (Jvm.Cond.code ({ cls := "java/lang/StringUTF16", name := "indexOf", desc := "([BIII)I" } : Jvm.MethodName) jdk_52_method_40_code (4 : Nat) (Option.some Jvm.ClassFile.FieldType.int)).before args0 about1 = true := code_word (m := ⟨10, 10⟩) (meth := k10m10) (c := k10c10) (by decide +kernel) rfl rfl rfl (by decide +kernel)
set_option maxRecDepth 65536 in
theorem w_c26 : (Jvm.Cond.code ({ cls := "java/lang/Math", name := "max", desc := "(II)I" } : Jvm.MethodName) jdk_29_method_65_code (2 : Nat) (Option.some Jvm.ClassFile.FieldType.int)).before args0 about1 = true := code_word (m := ⟨11, 1⟩) (meth := k11m1) (c := k11c1) (by decide +kernel) rfl rfl rfl (by decide +kernel)
set_option maxRecDepth 65536 in
theorem w_c27 : (Jvm.Cond.code ({ cls := "java/lang/Math", name := "min", desc := "(II)I" } : Jvm.MethodName) jdk_29_method_69_code (2 : Nat) (Option.some Jvm.ClassFile.FieldType.int)).before args0 about1 = true := code_word (m := ⟨11, 2⟩) (meth := k11m2) (c := k11c2) (by decide +kernel) rfl rfl rfl (by decide +kernel)
set_option maxRecDepth 65536 in
theorem w_c28 : (Jvm.Cond.code ({ cls := "java/lang/StringUTF16", name := "indexOfChar", desc := "([BIII)I" } : Jvm.MethodName) jdk_52_method_47_code (4 : Nat) (Option.some Jvm.ClassFile.FieldType.int)).before args0 about1 = true := code_word (m := ⟨10, 11⟩) (meth := k10m11) (c := k10c11) (by decide +kernel) rfl rfl rfl (by decide +kernel)
set_option maxRecDepth 65536 in
theorem w_c29 : (Jvm.Cond.code ({ cls := "java/lang/StringUTF16", name := "checkBoundsBeginEnd", desc := "(II[B)V" } : Jvm.MethodName) jdk_52_method_93_code (3 : Nat) (Option.none : Option Jvm.ClassFile.FieldType)).before args0 about1 = true := code_word (m := ⟨10, 13⟩) (meth := k10m13) (c := k10c13) (by decide +kernel) rfl rfl rfl (by decide +kernel)
set_option maxRecDepth 65536 in
theorem w_c30 : (Jvm.Cond.code ({ cls := "java/lang/StringUTF16", name := "length", desc := "([B)I" } : Jvm.MethodName) jdk_52_method_6_code (1 : Nat) (Option.some Jvm.ClassFile.FieldType.int)).before args0 about1 = true := code_word (m := ⟨10, 5⟩) (meth := k10m5) (c := k10c5) (by decide +kernel) rfl rfl rfl (by decide +kernel)
set_option maxRecDepth 65536 in
theorem w_c31 : (Jvm.Cond.code ({ cls := "java/lang/String", name := "checkBoundsBeginEnd", desc := "(III)V" } : Jvm.MethodName) jdk_42_method_158_code (3 : Nat) (Option.none : Option Jvm.ClassFile.FieldType)).before args0 about1 = true := code_word (m := ⟨7, 10⟩) (meth := k7m10) (c := k7c10) (by decide +kernel) rfl rfl rfl (by decide +kernel)
set_option maxRecDepth 65536 in
theorem w_c32 : (Jvm.Cond.code ({ cls := "jdk/internal/util/Preconditions", name := "checkFromToIndex", desc := "(IIILjava/util/function/BiFunction;)I" } : Jvm.MethodName) jdk_41_method_12_code (4 : Nat) (Option.some Jvm.ClassFile.FieldType.int)).before args0 about1 = true := code_word (m := ⟨12, 1⟩) (meth := k12m1) (c := k12c1) (by decide +kernel) rfl rfl rfl (by decide +kernel)
set_option maxRecDepth 65536 in
theorem w_c33 : (Jvm.Cond.code ({ cls := "java/lang/StringUTF16", name := "indexOfCharUnsafe", desc := "([BIII)I" } : Jvm.MethodName) jdk_52_method_48_code (5 : Nat) (Option.some Jvm.ClassFile.FieldType.int)).before args0 about1 = true := code_word (m := ⟨10, 12⟩) (meth := k10m12) (c := k10c12) (by decide +kernel) rfl rfl rfl (by decide +kernel)
def codes1 : List Jvm.Cond := [Jvm.Cond.code x code maxLocals ret, Jvm.Cond.code ({ cls := "com/example/evoke/evoke/OptionsRequireDecodedPinLaw", name := "ch", desc := "(I)C" } : Jvm.MethodName) method_3_code (2 : Nat) (Option.some Jvm.ClassFile.FieldType.char), Jvm.Cond.code ({ cls := "java/lang/String", name := "<init>", desc := "([C)V" } : Jvm.MethodName) jdk_42_method_3_code (2 : Nat) (Option.none : Option Jvm.ClassFile.FieldType), Jvm.Cond.code ({ cls := "java/lang/String", name := "<init>", desc := "([CIILjava/lang/Void;)V" } : Jvm.MethodName) jdk_42_method_149_code (6 : Nat) (Option.none : Option Jvm.ClassFile.FieldType), Jvm.Cond.code ({ cls := "java/lang/Object", name := "<init>", desc := "()V" } : Jvm.MethodName) object_method_1_code (1 : Nat) (Option.none : Option Jvm.ClassFile.FieldType), Jvm.Cond.code ({ cls := "java/lang/String", name := "valueOf", desc := "(C)Ljava/lang/String;" } : Jvm.MethodName) jdk_42_method_139_code (1 : Nat) (Option.some (Jvm.ClassFile.FieldType.object "java/lang/String")), Jvm.Cond.code ({ cls := "java/lang/StringLatin1", name := "canEncode", desc := "(C)Z" } : Jvm.MethodName) jdk_43_method_3_code (1 : Nat) (Option.some Jvm.ClassFile.FieldType.boolean), Jvm.Cond.code ({ cls := "java/lang/StringLatin1", name := "toBytes", desc := "(C)[B" } : Jvm.MethodName) jdk_43_method_46_code (1 : Nat) (Option.some (Jvm.ClassFile.FieldType.array Jvm.ClassFile.FieldType.byte)), Jvm.Cond.code ({ cls := "java/lang/String", name := "<init>", desc := "([BB)V" } : Jvm.MethodName) jdk_42_method_151_code (3 : Nat) (Option.none : Option Jvm.ClassFile.FieldType), Jvm.Cond.code ({ cls := "com/example/evoke/evoke/Options", name := "requireDecoded", desc := "(Ljava/lang/String;Ljava/lang/String;)V" } : Jvm.MethodName) prog_38_method_14_code (2 : Nat) (Option.none : Option Jvm.ClassFile.FieldType), Jvm.Cond.code ({ cls := "java/lang/String", name := "indexOf", desc := "(I)I" } : Jvm.MethodName) jdk_42_method_79_code (2 : Nat) (Option.some Jvm.ClassFile.FieldType.int), Jvm.Cond.code ({ cls := "java/lang/String", name := "indexOf", desc := "(II)I" } : Jvm.MethodName) jdk_42_method_80_code (3 : Nat) (Option.some Jvm.ClassFile.FieldType.int), Jvm.Cond.code ({ cls := "java/lang/String", name := "isLatin1", desc := "()Z" } : Jvm.MethodName) jdk_42_method_154_code (1 : Nat) (Option.some Jvm.ClassFile.FieldType.boolean), Jvm.Cond.code ({ cls := "java/lang/String", name := "length", desc := "()I" } : Jvm.MethodName) jdk_42_method_54_code (1 : Nat) (Option.some Jvm.ClassFile.FieldType.int), Jvm.Cond.code ({ cls := "java/lang/String", name := "coder", desc := "()B" } : Jvm.MethodName) jdk_42_method_152_code (1 : Nat) (Option.some Jvm.ClassFile.FieldType.byte), Jvm.Cond.code ({ cls := "java/lang/StringLatin1", name := "indexOf", desc := "([BIII)I" } : Jvm.MethodName) jdk_43_method_22_code (4 : Nat) (Option.some Jvm.ClassFile.FieldType.int), Jvm.Cond.code ({ cls := "java/lang/StringLatin1", name := "canEncode", desc := "(I)Z" } : Jvm.MethodName) jdk_43_method_4_code (1 : Nat) (Option.some Jvm.ClassFile.FieldType.boolean), Jvm.Cond.code ({ cls := "java/lang/StringUTF16", name := "compress", desc := "([CII)[B" } : Jvm.MethodName) jdk_52_method_16_code (6 : Nat) (Option.some (Jvm.ClassFile.FieldType.array Jvm.ClassFile.FieldType.byte)), Jvm.Cond.code ({ cls := "java/lang/StringUTF16", name := "compress", desc := "([CI[BII)I" } : Jvm.MethodName) jdk_52_method_21_code (7 : Nat) (Option.some Jvm.ClassFile.FieldType.int), Jvm.Cond.code ({ cls := "java/lang/StringUTF16", name := "coderFromArrayLen", desc := "([BI)B" } : Jvm.MethodName) jdk_52_method_15_code (2 : Nat) (Option.some Jvm.ClassFile.FieldType.byte), Jvm.Cond.code ({ cls := "java/lang/StringUTF16", name := "toBytes", desc := "([CII)[B" } : Jvm.MethodName) jdk_52_method_14_code (5 : Nat) (Option.some (Jvm.ClassFile.FieldType.array Jvm.ClassFile.FieldType.byte)), Jvm.Cond.code ({ cls := "java/lang/StringUTF16", name := "newBytesFor", desc := "(I)[B" } : Jvm.MethodName) jdk_52_method_2_code (1 : Nat) (Option.some (Jvm.ClassFile.FieldType.array Jvm.ClassFile.FieldType.byte)), Jvm.Cond.code ({ cls := "java/lang/StringUTF16", name := "newBytesLength", desc := "(I)I" } : Jvm.MethodName) jdk_52_method_3_code (1 : Nat) (Option.some Jvm.ClassFile.FieldType.int), Jvm.Cond.code ({ cls := "java/lang/StringUTF16", name := "putChar", desc := "([BII)V" } : Jvm.MethodName) jdk_52_method_4_code (3 : Nat) (Option.none : Option Jvm.ClassFile.FieldType), Jvm.Cond.code ({ cls := "java/lang/StringUTF16", name := "getChar", desc := "([BI)C" } : Jvm.MethodName) jdk_52_method_5_code (2 : Nat) (Option.some Jvm.ClassFile.FieldType.char), Jvm.Cond.code ({ cls := "java/lang/StringUTF16", name := "indexOf", desc := "([BIII)I" } : Jvm.MethodName) jdk_52_method_40_code (4 : Nat) (Option.some Jvm.ClassFile.FieldType.int), Jvm.Cond.code ({ cls := "java/lang/Math", name := "max", desc := "(II)I" } : Jvm.MethodName) jdk_29_method_65_code (2 : Nat) (Option.some Jvm.ClassFile.FieldType.int), Jvm.Cond.code ({ cls := "java/lang/Math", name := "min", desc := "(II)I" } : Jvm.MethodName) jdk_29_method_69_code (2 : Nat) (Option.some Jvm.ClassFile.FieldType.int), Jvm.Cond.code ({ cls := "java/lang/StringUTF16", name := "indexOfChar", desc := "([BIII)I" } : Jvm.MethodName) jdk_52_method_47_code (4 : Nat) (Option.some Jvm.ClassFile.FieldType.int), Jvm.Cond.code ({ cls := "java/lang/StringUTF16", name := "checkBoundsBeginEnd", desc := "(II[B)V" } : Jvm.MethodName) jdk_52_method_93_code (3 : Nat) (Option.none : Option Jvm.ClassFile.FieldType), Jvm.Cond.code ({ cls := "java/lang/StringUTF16", name := "length", desc := "([B)I" } : Jvm.MethodName) jdk_52_method_6_code (1 : Nat) (Option.some Jvm.ClassFile.FieldType.int), Jvm.Cond.code ({ cls := "java/lang/String", name := "checkBoundsBeginEnd", desc := "(III)V" } : Jvm.MethodName) jdk_42_method_158_code (3 : Nat) (Option.none : Option Jvm.ClassFile.FieldType), Jvm.Cond.code ({ cls := "jdk/internal/util/Preconditions", name := "checkFromToIndex", desc := "(IIILjava/util/function/BiFunction;)I" } : Jvm.MethodName) jdk_41_method_12_code (4 : Nat) (Option.some Jvm.ClassFile.FieldType.int), Jvm.Cond.code ({ cls := "java/lang/StringUTF16", name := "indexOfCharUnsafe", desc := "([BIII)I" } : Jvm.MethodName) jdk_52_method_48_code (5 : Nat) (Option.some Jvm.ClassFile.FieldType.int)]
set_option maxRecDepth 65536 in
theorem codes_eq : words1.filter isCode = codes1 := rfl
theorem w_codes : ∀ c ∈ words1.filter isCode, c.before args0 about1 = true := by
  rw [codes_eq]
  intro c hc
  simp only [codes1, List.mem_cons, List.not_mem_nil, or_false] at hc
  rcases hc with rfl | rfl | rfl | rfl | rfl | rfl | rfl | rfl | rfl | rfl | rfl | rfl | rfl | rfl | rfl | rfl | rfl | rfl | rfl | rfl | rfl | rfl | rfl | rfl | rfl | rfl | rfl | rfl | rfl | rfl | rfl | rfl | rfl | rfl
  · exact w_c0
  · exact w_c1
  · exact w_c2
  · exact w_c3
  · exact w_c4
  · exact w_c5
  · exact w_c6
  · exact w_c7
  · exact w_c8
  · exact w_c9
  · exact w_c10
  · exact w_c11
  · exact w_c12
  · exact w_c13
  · exact w_c14
  · exact w_c15
  · exact w_c16
  · exact w_c17
  · exact w_c18
  · exact w_c19
  · exact w_c20
  · exact w_c21
  · exact w_c22
  · exact w_c23
  · exact w_c24
  · exact w_c25
  · exact w_c26
  · exact w_c27
  · exact w_c28
  · exact w_c29
  · exact w_c30
  · exact w_c31
  · exact w_c32
  · exact w_c33
set_option maxRecDepth 65536 in
theorem w_t1 : (words1.take 24).all (fun c => isCode c || c.before args0 about1) = true := by decide +kernel
set_option maxRecDepth 65536 in
theorem w_t2 : ((words1.drop 24).take 24).all (fun c => isCode c || c.before args0 about1) = true := by decide +kernel
set_option maxRecDepth 65536 in
theorem w_t3 : (((words1.drop 24).drop 24).take 24).all (fun c => isCode c || c.before args0 about1) = true := by decide +kernel
set_option maxRecDepth 65536 in
theorem w_t4 : ((((words1.drop 24).drop 24).drop 24).take 24).all (fun c => isCode c || c.before args0 about1) = true := by decide +kernel
set_option maxRecDepth 65536 in
theorem w_t5 : (((((words1.drop 24).drop 24).drop 24).drop 24).take 24).all (fun c => isCode c || c.before args0 about1) = true := by decide +kernel
set_option maxRecDepth 65536 in
theorem w_t6 : (((((words1.drop 24).drop 24).drop 24).drop 24).drop 24).all (fun c => isCode c || c.before args0 about1) = true := by decide +kernel
theorem w_tables : (allAtoms (Jvm.Cond.code x code maxLocals ret :: tables_1)).before args0 about1 = true := by
  rw [allAtoms_all]
  show words1.all (fun c => c.before args0 about1) = true
  refine all_split ?_ w_codes
  rw [← List.take_append_drop 24 words1, List.all_append, w_t1, ← List.take_append_drop 24 (words1.drop 24), List.all_append, w_t2, ← List.take_append_drop 24 ((words1.drop 24).drop 24), List.all_append, w_t3, ← List.take_append_drop 24 (((words1.drop 24).drop 24).drop 24), List.all_append, w_t4, ← List.take_append_drop 24 ((((words1.drop 24).drop 24).drop 24).drop 24), List.all_append, w_t5, w_t6]
  rfl
set_option maxRecDepth 65536 in
theorem w_rest : rest_1_c.before args0 about1 = true := by decide +kernel
set_option maxRecDepth 65536 in
theorem w_case : (Jvm.Cond.and given_1 narrow_1).before args0 about1 = true := by decide +kernel
set_option maxRecDepth 65536 in
theorem w_consts : constsHeld consts_1 about1 := Jvm.Lit.constsHeldB_iff.mp (by decide +kernel)
theorem w_applies : (headSpec (Jvm.Cond.code x code maxLocals ret :: tables_1) room_1).applies x e0.platform about1 = true :=
  (Spec.applies_iff w_frames).mpr ⟨w_running, w_runnable, w_alone, w_named, w_hears, w_ripe, w_room, w_tables⟩
theorem atStart : AtStart classFile x code maxLocals ret World_1 tables_1 room_1 Calls_1 rest_1 Pre_1 launch0 p0 e0 about1 theMethod args0 below0 :=
  ⟨lists_1, trivial, launch0.admits_env _ _ _, launch0.least_env, fairChoices_fair.cas, fairChoices_fair.clock, w_frames, w_args, w_heap, w_applies, ⟨w_consts, trivial⟩, w_rest, w_case⟩
end start1
theorem witness_1 : WitnessClaimed_1 := ⟨start1.p0, start1.e0, start1.about1, start1.theMethod, start1.args0, start1.below0, start1.atStart⟩
end Jvm.Pilot.@@N@@
