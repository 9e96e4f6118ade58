import JvmDerived
import JvmDerived.Pilot.@@N@@Statement
import JvmDerived.Pilot.@@N@@Code
set_option linter.unusedVariables false
set_option linter.unusedSimpArgs false
set_option maxRecDepth 65536
set_option maxHeartbeats 40000000
namespace Jvm.Pilot.@@N@@
open Jvm Jvm.ClassFile Sem Op Lib Jvm.Free Jvm.Stand Jvm.LawKit Jvm.RoadKit Bundle Jvm.Pilot.@@N@@.Jvm.D
section OwnGo
variable {p : Program} {l : Launch} {e : Env} {R : Room} {s : State} {m : MethodId} {args : Array Value} {below : List Frame} {meth : Method} {c : Code} {T T' : State} {locs : List Loc} {cells slots : Nat} {g g' : JFrame} {F : State → Outcome → Prop} {Q : Option Value → Heap → List Loc → Prop} {ck sk : Nat}
/-- from this place the run ends, and F holds at the end -/
def Go (p : Program) (e : Env) (below : List Frame) (F : State → Outcome → Prop) (T : State) (g : JFrame) : Prop :=
  ∃ t o, Steps p.tables e below (T.setTop g) t ∧ t.status = .running ∧ Ended t below o ∧ F t o
def FinN (s : State) (Q : Option Value → Heap → List Loc → Prop) (ck sk : Nat) (t : State) (o : Outcome) : Prop :=
  ∃ v L, o = .returned v ∧ Q v t.heap L ∧ FrameEnd s o t L ck sk
theorem Go.by (h : ∀ target, Steps p.tables e below (T'.setTop g') target → Steps p.tables e below (T.setTop g) target) (k : Go p e below F T' g') : Go p e below F T g := by
  obtain ⟨t, o, h1, h2⟩ := k; exact ⟨t, o, h _ h1, h2⟩
theorem Go.call (h : Steps p.tables e below (T.setTop g) (T'.setTop g')) (k : Go p e below F T' g') : Go p e below F T g := by
  obtain ⟨t, o, h1, h2⟩ := k; exact ⟨t, o, h.trans h1, h2⟩
theorem Go.join (T' : State) (g' : JFrame) (h : Go p e below F T' g' → Go p e below F T g) (k : Go p e below F T' g') : Go p e below F T g := h k
theorem Go.done (X : Stand p l e R s m args below meth c T locs cells slots) {v : Option Value} (hv : meth.sig.returnType = none → v = none) (hlocks : meth.locks = false)
    (st : ∀ fs, (∀ (f : JFrame) (acts : List Action), f.method = m → f.locked = none → f.entered = [] → (doReturn e (T.setTop f) acts v).1 = T.setFrames fs) → Steps p.tables e below (T.setTop g) (T.setFrames fs))
    (hQ : Q v T.heap locs) (hc : cells ≤ ck) (hs : slots ≤ sk) : Go p e below (FinN s Q ck sk) T g := by
  obtain ⟨fs, hr, hrun, hended, hW, hsame⟩ := X.leave hv hlocks
  exact ⟨_, _, st fs hr, hrun, hended, v, locs, rfl, hQ, ⟨_, rfl⟩, hW, hsame.mono hc hs⟩
theorem Go.retZ (X : Stand p l e R s m args below meth c T locs cells slots) (hx : p.tables.exec = Jvm.exec) (hlocks : meth.locks = false) {pc : Nat} {Ls : Array Slot} {z : Int32} {t : FieldType} {rest : List Value} (hret : meth.sig.returnType = some t) (ht : t = .boolean ∨ t = .byte ∨ t = .char ∨ t = .short)
    (hd : decode c.code pc = .ok (.ireturn, 1)) (hQ : Q (some (.int (nar t z))) T.heap locs) (hc : cells ≤ ck) (hs : slots ≤ sk) : Go p e below (FinN s Q ck sk) T (mkF m pc Ls (.int z :: rest)) :=
  Go.done X (fun h => by rw [hret] at h; cases h) hlocks (fun fs hr => retN X hx hret ht hd hr) hQ hc hs
theorem Go.retO (X : Stand p l e R s m args below meth c T locs cells slots) (hx : p.tables.exec = Jvm.exec) (hlocks : meth.locks = false) {pc : Nat} {Ls : Array Slot} {w : Value} {t : FieldType} {i : Instr} {rest : List Value} (hret : meth.sig.returnType = some t) (hn : narrow t w = w)
    (hi : (i = .ireturn ∧ (t = .int ∨ t = .boolean ∨ t = .byte ∨ t = .char ∨ t = .short) ∧ ∃ z, w = .int z) ∨ (i = .lreturn ∧ t = .long ∧ ∃ z, w = .long z) ∨ (i = .dreturn ∧ t = .double ∧ ∃ z, w = .double z) ∨ (i = .freturn ∧ t = .float ∧ ∃ z, w = .float z) ∨ (i = .areturn ∧ t.isReference = true ∧ w.isRef = true))
    (hd : decode c.code pc = .ok (i, 1)) (hQ : Q (some w) T.heap locs) (hc : cells ≤ ck) (hs : slots ≤ sk) : Go p e below (FinN s Q ck sk) T (mkF m pc Ls (w :: rest)) :=
  Go.done X (fun h => by rw [hret] at h; cases h) hlocks (fun fs hr => retOut X hx hret hn hi hd hr) hQ hc hs
theorem Go.retI (X : Stand p l e R s m args below meth c T locs cells slots) (hx : p.tables.exec = Jvm.exec) (hlocks : meth.locks = false) {pc : Nat} {Ls : Array Slot} {z : Int32} {rest : List Value} (hret : meth.sig.returnType = some .int)
    (hd : decode c.code pc = .ok (.ireturn, 1)) (hQ : Q (some (.int z)) T.heap locs) (hc : cells ≤ ck) (hs : slots ≤ sk) : Go p e below (FinN s Q ck sk) T (mkF m pc Ls (.int z :: rest)) :=
  Go.retO X hx hlocks hret rfl (Or.inl ⟨rfl, Or.inl rfl, _, rfl⟩) hd hQ hc hs
theorem Go.retA (X : Stand p l e R s m args below meth c T locs cells slots) (hx : p.tables.exec = Jvm.exec) (hlocks : meth.locks = false) {pc : Nat} {Ls : Array Slot} {w : Value} {t : FieldType} {rest : List Value} (hret : meth.sig.returnType = some t) (ht : t.isReference = true) (hw : w.isRef = true)
    (hd : decode c.code pc = .ok (.areturn, 1)) (hQ : Q (some w) T.heap locs) (hc : cells ≤ ck) (hs : slots ≤ sk) : Go p e below (FinN s Q ck sk) T (mkF m pc Ls (w :: rest)) :=
  Go.retO X hx hlocks hret (by cases w <;> cases t <;> first | rfl | (cases hw; done) | (cases ht; done)) (Or.inr (Or.inr (Or.inr (Or.inr ⟨rfl, ht, hw⟩)))) hd hQ hc hs
theorem Go.retV (X : Stand p l e R s m args below meth c T locs cells slots) (hx : p.tables.exec = Jvm.exec) (hlocks : meth.locks = false) {pc : Nat} {Ls : Array Slot} (hret : meth.sig.returnType = none)
    (hd : decode c.code pc = .ok (.return_, 1)) (hQ : Q none T.heap locs) (hc : cells ≤ ck) (hs : slots ≤ sk) : Go p e below (FinN s Q ck sk) T (mkF m pc Ls []) :=
  Go.done X (fun _ => rfl) hlocks (fun fs hr => X.returnOut hx hret hd hr) hQ hc hs
end OwnGo
theorem own_modN (n : Nat) (N : Int32) (hN : N.toInt = (n : Int)) (hn : 0 < n) (hb : n < 2147483648) (i : Int32) : ∃ k : Fin n, (i &&& (2147483647 : Int32)) % N = Int32.ofInt k.1 := by
  have h1 := (c_and i (2147483647 : Int32) (by decide)).1
  have h2 := (c_irem (i &&& (2147483647 : Int32)) N n hN).1 h1
  have h3 := Int.emod_lt_of_pos (i &&& (2147483647 : Int32)).toInt (show (0 : Int) < (n : Int) by omega)
  have h4 := Int.emod_nonneg (i &&& (2147483647 : Int32)).toInt (show (n : Int) ≠ 0 by omega)
  refine ⟨⟨((i &&& (2147483647 : Int32)).toInt % (n : Int)).toNat, by omega⟩, ?_⟩
  rw [← Int32.toInt_inj, h2, Int32.toInt_ofInt]
  show _ = Int.bmod (((((i &&& (2147483647 : Int32)).toInt % (n : Int)).toNat : Nat) : Int)) _
  rw [Int.toNat_of_nonneg h4, show Int32.size = 4294967296 from rfl, Int.bmod_eq_of_le (by omega) (by omega)]
theorem own_safe0 {Z : State} {vm : Vm} {h : Heap} {x : Addr} : Safe Z [] vm h x := fun ⟨_, hp, _⟩ => nomatch hp
theorem own_rne {a b : Addr} (h : a ≠ b) : ¬ ((.ref a : Value) = (.ref b : Value)) := fun e => h (Value.ref.inj e)
theorem own_sto {Z : State} {h : Heap} {a y : Addr} {k : ClassId} {ty : FieldType} {z : Int32} {vs : List Value} {dv : Value} {C : String} (f : Arv Z h a k ty z vs dv) (O : Ovr Z k C) (I : Ins Z h y C true) : Sto Z h a (.ref y) := by
  obtain ⟨cl, A, q1, -⟩ := f
  exact Sto.ofV A q1 O I
def ownLay : List Value → List Slot
  | [] => []
  | v :: vs => if v.category = 2 then .val v :: .second :: ownLay vs else .val v :: ownLay vs
theorem own_lay (L : List Value) (acc : Array Slot) : L.foldl (fun acc v => if v.category = 2 then (acc.push (.val v)).push .second else acc.push (.val v)) acc = acc ++ (ownLay L).toArray := by
  induction L generalizing acc with
  | nil => simp [ownLay]
  | cons v vs ih =>
    rw [List.foldl_cons, ih]
    show _ = acc ++ (if v.category = 2 then Slot.val v :: Slot.second :: ownLay vs else Slot.val v :: ownLay vs).toArray
    split <;> simp
theorem own_entry (m : MethodId) (L : List Value) (n : Nat) : entryFrame m L.toArray n = mkF m 0 (ownLay L ++ List.replicate (n - (ownLay L).length) Slot.unset).toArray [] := by
  unfold entryFrame argsToLocals mkF
  simp [own_lay]
theorem own_ref {v : Value} (h : v.isRef = true) {P : Value → Prop} (h1 : P .null) (h2 : ∀ a, P (.ref a)) : P v := by
  cases v <;> first | exact h1 | exact h2 _ | cases h
theorem own_decl {Z : State} {a0 : Array Value} {y : MethodName} {bytes : ByteArray} {maxL : Nat} {ret : Option FieldType} (w : (Cond.instanceMethod y).before a0 Z = true) (wc : (Cond.code y bytes maxL ret).before a0 Z = true) : (Cond.declares y).before a0 Z = true := by
  obtain ⟨mk, meth, hn, hm, hst, hab⟩ := Cond.instanceMethod_spec w
  obtain ⟨meth', c, hm', -, -, -, -, -, -, hsig⟩ := Cond.code_spec hn wc
  cases hm.symm.trans hm'
  simp [Cond.before, Cond.holds, Cond.value, hn, hm, hst, hsig]
def NoFace (Z : State) (C : String) : Prop := ∃ c k, Z.vm.findClass C = some c ∧ Z.vm.classes[c]? = some k ∧ k.isInterface = false
theorem own_noface {Z : State} {a0 : Array Value} {C : String} {y z : MethodName} (w : (Cond.selects C y z).before a0 Z = true) {K : String} (hK : z.cls = K) : NoFace Z K := by
  subst hK
  obtain ⟨c2, r2, m2, q1, q2, q3, q4, kP, hkP, hkPi⟩ := Cond.selects_spec w
  exact ⟨m2.cls, kP, findClass_of_methodNamed q3, hkP, hkPi⟩
theorem own_nosup {Z : State} {a0 : Array Value} {C S : String} (w : (Cond.superclass C S).before a0 Z = true) : NoFace Z C := by
  obtain ⟨c, hc⟩ := found_sup w
  obtain ⟨p, k, kp, h1, h2, h3, h4, h5, -, h7⟩ := Cond.superclass_spec hc w
  exact ⟨c, k, hc, h2, h7⟩
theorem own_noinst {Z : State} {a0 : Array Value} {C : String} {n : Nat} (w : (Cond.instantiable C n).before a0 Z = true) : NoFace Z C := by
  obtain ⟨c, k, h1, h2, h3, h4⟩ := Cond.instantiable_spec w
  refine ⟨c, k, h1, h2, ?_⟩
  simp [Cond.before, Cond.holds, Cond.value, h1, h2] at w
  simp_all
theorem own_nf {Z s : State} {vm0 : Vm} {y : MethodName} (hZ : Z.Warmed39 vm0) (h : NoFace Z y.cls) : NotFace (s.setVm vm0) y := fun r0 h0 => by
  obtain ⟨c, k, h1, h2, h3⟩ := h
  have hc : vm0.findClass y.cls = some r0.cls := findClass_of_methodNamed h0
  rw [hZ.alike.findClass] at hc
  cases h1.symm.trans hc
  obtain ⟨k', q1, q2⟩ := hZ.alike.2.2 _ _ h2
  refine ⟨k', q1, ?_⟩
  have : k'.isInterface = k.isInterface := by rw [q2]; rfl
  rw [this]; exact h3
theorem own_same {Z : State} {a0 : Array Value} {y : MethodName} (w : (Cond.instanceMethod y).before a0 Z = true) (h : NoFace Z y.cls) (hy : y.cls ≠ "java/lang/invoke/MethodHandle" ∧ y.cls ≠ "java/lang/invoke/VarHandle") : (Cond.sameMethod y.cls y.cls y.name y.desc).before a0 Z = true := by
  obtain ⟨mk, meth, hn, hm, hst, hab⟩ := Cond.instanceMethod_spec w
  obtain ⟨c, k, h1, h2, h3⟩ := h
  have hf := State.methodFound?_of_named hn hy
  have hn' : Z.methodNamed? ⟨y.cls, y.name, y.desc⟩ = some mk := hn
  simp [Cond.before, Cond.holds, Cond.value, h1, hf, hn', h2, h3]
section OwnKit
variable {p : Program} {l : Launch} {e : Env} {R : Room} {s : State} {m : MethodId} {args : Array Value} {below : List Frame} {meth : Method} {c : Code} {T : State} {locs : List Loc} {cells slots : Nat} {F : State → Outcome → Prop} {bs : ByteArray} {own : String} {Z : State} {EL : List (String × Nat)} {n0 : Nat} {h0 h : Heap} {vm0 : Vm} {a0 : Array Value} {pc : Nat} {Ls : Array Slot} {st : List Value}
/-- where a walk stands: the tables may have grown by literals; the constants of EL are held -/
def Sit (p : Program) (l : Launch) (e : Env) (R : Room) (s : State) (m : MethodId) (args : Array Value) (below : List Frame) (meth : Method) (c : Code) (bs : ByteArray) (own : String) (Z : State) (EL : List (String × Nat)) (n0 : Nat) (h0 : Heap) (T : State) (h : Heap) (vm0 : Vm) (locs : List Loc) (cells slots : Nat) : Prop :=
  Stand p l e R (s.setVm vm0) m args below meth c T locs cells slots ∧ T.heap = h ∧ (∃ k0, s.Since vm0 k0 ∧ k0 ≤ h.size) ∧ Z.Warmed39 vm0 ∧ vm0.findClass own = some m.cls ∧ Fr n0 locs ∧ CHr Z EL s.vm s.heap vm0 h ∧ n0 ≤ h.size ∧ p.tables.exec = Jvm.exec ∧ c.code = bs ∧ meth.locks = false ∧ h0.size ≤ h.size
theorem Sit.hh (X : Sit p l e R s m args below meth c bs own Z EL n0 h0 T h vm0 locs cells slots) : T.heap = h := X.2.1
theorem Sit.hZ (X : Sit p l e R s m args below meth c bs own Z EL n0 h0 T h vm0 locs cells slots) : Z.Warmed39 vm0 := X.2.2.2.1
theorem Sit.hown (X : Sit p l e R s m args below meth c bs own Z EL n0 h0 T h vm0 locs cells slots) : vm0.findClass own = some m.cls := X.2.2.2.2.1
theorem Sit.N (X : Sit p l e R s m args below meth c bs own Z EL n0 h0 T h vm0 locs cells slots) : Fr n0 locs := X.2.2.2.2.2.1
theorem Sit.C (X : Sit p l e R s m args below meth c bs own Z EL n0 h0 T h vm0 locs cells slots) : CHr Z EL s.vm s.heap vm0 h := X.2.2.2.2.2.2.1
theorem Sit.n (X : Sit p l e R s m args below meth c bs own Z EL n0 h0 T h vm0 locs cells slots) : n0 ≤ h.size := X.2.2.2.2.2.2.2.1
theorem Sit.hx (X : Sit p l e R s m args below meth c bs own Z EL n0 h0 T h vm0 locs cells slots) : p.tables.exec = Jvm.exec := X.2.2.2.2.2.2.2.2.1
theorem Sit.hby (X : Sit p l e R s m args below meth c bs own Z EL n0 h0 T h vm0 locs cells slots) : c.code = bs := X.2.2.2.2.2.2.2.2.2.1
theorem Sit.hlk (X : Sit p l e R s m args below meth c bs own Z EL n0 h0 T h vm0 locs cells slots) : meth.locks = false := X.2.2.2.2.2.2.2.2.2.2.1
theorem Sit.g0 (X : Sit p l e R s m args below meth c bs own Z EL n0 h0 T h vm0 locs cells slots) : h0.size ≤ h.size := X.2.2.2.2.2.2.2.2.2.2.2
theorem Sit.mk2 (X : Sit p l e R s m args below meth c bs own Z EL n0 h0 T h vm0 locs cells slots) {T' : State} {h' : Heap} {vm1 : Vm} {locs' : List Loc} {cells' slots' k1 : Nat} (Y : Stand p l e R (s.setVm vm1) m args below meth c T' locs' cells' slots') (eh : T'.heap = h') (hS : s.Since vm1 k1) (hk : k1 ≤ h'.size) (hZ : Z.Warmed39 vm1) (ho : vm1.findClass own = some m.cls) (N : Fr n0 locs') (C : CHr Z EL vm0 h vm1 h') :
    Sit p l e R s m args below meth c bs own Z EL n0 h0 T' h' vm1 locs' cells' slots' :=
  ⟨Y, eh, ⟨k1, hS, hk⟩, hZ, ho, N, X.C.trans C, Nat.le_trans X.n C.2.1, X.hx, X.hby, X.hlk, Nat.le_trans X.g0 C.2.1⟩
theorem Sit.mk1 (X : Sit p l e R s m args below meth c bs own Z EL n0 h0 T h vm0 locs cells slots) {T' : State} {h' : Heap} {locs' : List Loc} {cells' slots' : Nat} (Y : Stand p l e R (s.setVm vm0) m args below meth c T' locs' cells' slots') (eh : T'.heap = h') (N : Fr n0 locs') (C : CHr Z EL vm0 h vm0 h') :
    Sit p l e R s m args below meth c bs own Z EL n0 h0 T' h' vm0 locs' cells' slots' := by
  obtain ⟨k0, hS, hk⟩ := X.2.2.1
  exact X.mk2 Y eh hS (Nat.le_trans hk C.2.1) X.hZ X.hown N C
theorem Sit.mk0 (X : Sit p l e R s m args below meth c bs own Z EL n0 h0 T h vm0 locs cells slots) {T' : State} {locs' : List Loc} {cells' slots' : Nat} (Y : Stand p l e R (s.setVm vm0) m args below meth c T' locs' cells' slots') (eh : T'.heap = h) (N : Fr n0 locs') : Sit p l e R s m args below meth c bs own Z EL n0 h0 T' h vm0 locs' cells' slots' :=
  X.mk1 Y eh N (CHr.refl X.C.1)
/-- the end -/
def FinH (Z : State) (EL : List (String × Nat)) (n0 : Nat) (s : State) (Q : Vm → Option Value → Heap → Vm → Prop) (ck sk : Nat) (t : State) (o : Outcome) : Prop :=
  ∃ v L, o = .returned v ∧ (Fr n0 L ∧ Q s.vm v t.heap t.vm) ∧ CHr Z EL s.vm s.heap t.vm t.heap ∧ ReturnedEndW s o t L ck sk
/-- a body's contract -/
def MetH (l : Launch) (Z : State) (EL : List (String × Nat)) (n0 : Nat) (y : MethodName) (bytes : ByteArray) (maxL : Nat) (ret : Option FieldType) (ws : List Jvm.Cond) (rm : Room) (as' : Array Value) (h0 : Heap) (SL : List Addr) (Q : Vm → Option Value → Heap → Vm → Prop) : Prop :=
  MetFree l y (head1 (Jvm.Cond.code y bytes maxL ret :: ws) rm) (fun a U => a = as' ∧ Z.Warmed39 U.vm ∧ U.heap = h0 ∧ CHv Z EL U.vm h0 ∧ ∀ x ∈ SL, Safe Z EL U.vm h0 x) (fun _ _ _ _ _ => True) (fun _ U o U' => ∃ v L, o = .returned v ∧ (Fr n0 L ∧ Q U.vm v U'.heap U'.vm) ∧ CHr Z EL U.vm U.heap U'.vm U'.heap ∧ ReturnedEndW U o U' L rm.cells rm.slots)
theorem MetH.of {l : Launch} {Z : State} {EL : List (String × Nat)} {y : MethodName} {bytes : ByteArray} {maxL : Nat} {ret : Option FieldType} {ws : List Jvm.Cond} {rm : Room} {L : List Value} {h0 : Heap} {SL : List Addr} {Q : Vm → Option Value → Heap → Vm → Prop} {n0 : Nat} (Ms : Array Slot)
    (pn : plainFor y = true) (ef : Ms = (ownLay L ++ List.replicate (maxL - (ownLay L).length) Slot.unset).toArray) (Z0 : n0 ≤ h0.size)
    (body : ∀ p e s m below meth c T, meth.sig.returnType = ret → c.maxLocals = maxL → meth.name = y.name → (∀ x ∈ SL, Safe Z EL s.vm h0 x) → s.heap = h0 → Sit p l e rm s m L.toArray below meth c bytes y.cls Z EL n0 h0 T h0 s.vm [] 0 0 → Go p e below (FinH Z EL n0 s Q rm.cells rm.slots) T (mkF m 0 Ms [])) :
    MetH l Z EL n0 y bytes maxL ret ws rm L.toArray h0 SL Q := by
  refine MetFree.of_bodySF pn hisR ?_
  intro p e s m args below meth c s₁ Bd hml0 hP hK
  obtain ⟨rfl, hZ, hh, hC, hSL⟩ := hP
  have X0 := Stand.of_body Bd
  have e0 : s₁.heap = h0 := by rw [← hh, Bd.state]; rfl
  have G := body p e s m below meth c s₁ Bd.returns hml0 (name_of_methodNamed Bd.named Bd.method).1 hSL hh
    ⟨X0, e0, ⟨0, (State.WarmedH.refl s).since 0, Nat.zero_le _⟩, hZ, findClass_of_methodNamed Bd.named, Fr.nil n0, by subst hh; exact CHr.refl hC, Z0, Bd.exec, Bd.bytes, Bd.notSynchronized, Nat.le_refl _⟩
  rw [ef, ← own_entry m L maxL] at G
  exact G
/-- the contract pays a call -/
theorem backX {y : MethodName} {bytes : ByteArray} {maxL : Nat} {ret : Option FieldType} {rm : Room} {len W : Nat} {as' : Array Value} {SL : List Addr} {Q : Vm → Option Value → Heap → Vm → Prop}
    (hM : MetH l Z EL n0 y bytes maxL ret [] rm as' h SL Q) (hZ : Z.Warmed39 vm0) (wc : (Cond.code y bytes maxL ret).before a0 Z = true) (wz : (Cond.initialized y.cls).before a0 Z = true) (hf : rm.frames + 1 ≤ R.frames) (hl : W + (maxL + 11) + rm.locals ≤ R.locals) (hEL : EW Z a0 EL) (H : CHv Z EL vm0 h) (hS : ∀ x ∈ SL, x < h.size ∧ Safe Z EL vm0 h x) :
    BackS l R p e below (s.setVm vm0) args y len W (fun A a => a = as' ∧ A.U.heap = h ∧ A.cells + rm.cells ≤ R.cells ∧ A.slots + rm.slots ≤ R.slots)
      (fun A _ v B => ∃ L vs, (Fr n0 L ∧ Q vs v B.U.heap B.U.vm) ∧ CHr Z EL vm0 h vs h ∧ B.locs = A.locs ++ L ∧ B.cells = A.cells + rm.cells ∧ B.slots = A.slots + rm.slots ∧ CHr Z EL vm0 h B.U.vm B.U.heap) :=
  BackS.of_freeW (bytes := bytes) (maxL := maxL) (ret := ret) (E := fun _ first o t L k n => k = rm.cells ∧ n = rm.slots ∧ (∃ v, o = .returned v ∧ (Fr n0 L ∧ Q first.vm v t.heap t.vm)) ∧ CHr Z EL first.vm first.heap t.vm t.heap) hM hf hl
    (fun m meth c A a Y hp => have hU : Z.Warmed39 A.U.vm := wtrans (s := s.setVm vm0) hZ Y.warmed
      ⟨by show (Jvm.Cond.and _ .tt).before a A.U = true; rw [Cond.before_and, mv hU wc]; rfl, mv hU wc, mv hU wz, hp.2.2.1, hp.2.2.2⟩)
    (fun m meth c A a g mk Y hp => ⟨hp.1, wtrans (s := s.setVm vm0) hZ Y.warmed, hp.2.1, (CHv.at Y hZ hEL H).1, fun x hx => by have A' := CHv.at Y hZ hEL H; exact CHr.safe A' (hS x hx).1 (hS x hx).2⟩) (fun _ _ _ _ _ _ _ _ _ => trivial)
    (fun _ _ _ _ ⟨v, L, h1, h2, h3, h4⟩ => ⟨L, _, _, h4, rfl, rfl, ⟨v, h1, h2⟩, h3⟩)
    (fun m meth c A a g mk v t L k n Y hp _ _ ⟨e1, e2, ⟨v', e3, e4⟩, e5⟩ => by
      cases e3; subst e1 e2
      refine ⟨L, A.U.vm, e4, CHv.at Y hZ hEL H, rfl, rfl, rfl, (CHv.at Y hZ hEL H).trans ?_⟩
      rw [← hp.2.1]; exact e5)
theorem kDONE (X : Sit p l e R s m args below meth c bs own Z EL n0 h0 T h vm0 locs cells slots) (hEL : EW Z a0 EL) {Q : Vm → Option Value → Heap → Vm → Prop} {ck sk : Nat} {g : JFrame} {v : Option Value} (hv : meth.sig.returnType = none → v = none)
    (st : ∀ fs, (∀ (f : JFrame) (acts : List Action), f.method = m → f.locked = none → f.entered = [] → (doReturn e (T.setTop f) acts v).1 = T.setFrames fs) → Steps p.tables e below (T.setTop g) (T.setFrames fs))
    (hQ : ∀ ve, CHr Z EL vm0 h ve h → Q s.vm v h ve) (hcs : cells ≤ ck ∧ slots ≤ sk) : Go p e below (FinH Z EL n0 s Q ck sk) T g := by
  obtain ⟨k0, hS, hk⟩ := X.2.2.1
  obtain ⟨fs, hr, hrun, hended, hW, hsame⟩ := X.1.leave hv X.hlk
  obtain ⟨a, b, c'⟩ := hS.ended (U := T.setFrames fs) hW (by show k0 ≤ T.heap.size; rw [X.hh]; exact hk) hsame
  refine ⟨_, _, st fs hr, hrun, hended, v, locs, rfl, ?_, ?_, ⟨v, rfl⟩, a, b, c'.mono hcs.1 hcs.2⟩
  · show Fr n0 locs ∧ Q s.vm v T.heap T.vm
    rw [X.hh]; exact ⟨X.N, hQ _ (CHv.at X.1 X.hZ hEL X.C.1)⟩
  · show CHr Z EL s.vm s.heap T.vm T.heap
    rw [X.hh]
    exact X.C.trans (CHv.at X.1 X.hZ hEL X.C.1)
theorem kRETV (X : Sit p l e R s m args below meth c bs own Z EL n0 h0 T h vm0 locs cells slots) (hEL : EW Z a0 EL) {Q : Vm → Option Value → Heap → Vm → Prop} {ck sk : Nat} (hret : meth.sig.returnType = none) (hd : decode bs pc = .ok (.return_, 1)) (hQ : ∀ ve, CHr Z EL vm0 h ve h → Q s.vm none h ve) (hcs : cells ≤ ck ∧ slots ≤ sk) : Go p e below (FinH Z EL n0 s Q ck sk) T (mkF m pc Ls []) :=
  kDONE X hEL (fun _ => rfl) (fun fs hr => X.1.returnOut X.hx hret (hb X.hby hd) hr) hQ hcs
theorem kRETZ (X : Sit p l e R s m args below meth c bs own Z EL n0 h0 T h vm0 locs cells slots) (hEL : EW Z a0 EL) {Q : Vm → Option Value → Heap → Vm → Prop} {ck sk : Nat} {z : Int32} {t : FieldType} (hret : meth.sig.returnType = some t) (ht : t = .boolean ∨ t = .byte ∨ t = .char ∨ t = .short) (hd : decode bs pc = .ok (.ireturn, 1)) (hQ : ∀ ve, CHr Z EL vm0 h ve h → Q s.vm (some (.int (nar t z))) h ve) (hcs : cells ≤ ck ∧ slots ≤ sk) : Go p e below (FinH Z EL n0 s Q ck sk) T (mkF m pc Ls (.int z :: st)) :=
  kDONE X hEL (fun h => by rw [hret] at h; cases h) (fun fs hr => retN X.1 X.hx hret ht (hb X.hby hd) hr) hQ hcs
theorem kRETI (X : Sit p l e R s m args below meth c bs own Z EL n0 h0 T h vm0 locs cells slots) (hEL : EW Z a0 EL) {Q : Vm → Option Value → Heap → Vm → Prop} {ck sk : Nat} {z : Int32} (hret : meth.sig.returnType = some .int) (hd : decode bs pc = .ok (.ireturn, 1)) (hQ : ∀ ve, CHr Z EL vm0 h ve h → Q s.vm (some (.int z)) h ve) (hcs : cells ≤ ck ∧ slots ≤ sk) : Go p e below (FinH Z EL n0 s Q ck sk) T (mkF m pc Ls (.int z :: st)) :=
  kDONE X hEL (fun h => by rw [hret] at h; cases h) (fun fs hr => retOut X.1 X.hx hret rfl (Or.inl ⟨rfl, Or.inl rfl, _, rfl⟩) (hb X.hby hd) hr) hQ hcs
theorem kRETA (X : Sit p l e R s m args below meth c bs own Z EL n0 h0 T h vm0 locs cells slots) (hEL : EW Z a0 EL) {Q : Vm → Option Value → Heap → Vm → Prop} {ck sk : Nat} {w : Value} {t : FieldType} (hret : meth.sig.returnType = some t) (ht : t.isReference = true) (hw : w.isRef = true) (hd : decode bs pc = .ok (.areturn, 1)) (hQ : ∀ ve, CHr Z EL vm0 h ve h → Q s.vm (some w) h ve) (hcs : cells ≤ ck ∧ slots ≤ sk) : Go p e below (FinH Z EL n0 s Q ck sk) T (mkF m pc Ls (w :: st)) :=
  kDONE X hEL (fun h => by rw [hret] at h; cases h) (fun fs hr => retOut X.1 X.hx hret (by cases w <;> cases t <;> first | rfl | (cases hw; done) | (cases ht; done)) (Or.inr (Or.inr (Or.inr (Or.inr ⟨rfl, ht, hw⟩)))) (hb X.hby hd) hr) hQ hcs
theorem kILn (X : Sit p l e R s m args below meth c bs own Z EL n0 h0 T h vm0 locs cells slots) {k : Fin 4} {v : Int32} (hd : decode bs pc = .ok (.iload_n k, 1)) (hl : Ls[k.val]? = some (.val (.int v))) (q : Go p e below F T (mkF m (pc + 1) Ls (.int v :: st))) : Go p e below F T (mkF m pc Ls st) :=
  Go.by (fun _ r => XS.iloadN X.1.here X.hx rfl (hb X.hby hd) hl r) q
theorem kLLn (X : Sit p l e R s m args below meth c bs own Z EL n0 h0 T h vm0 locs cells slots) {k : Fin 4} {v : Int64} (hd : decode bs pc = .ok (.lload_n k, 1)) (hl : Ls[k.val]? = some (.val (.long v))) (q : Go p e below F T (mkF m (pc + 1) Ls (.long v :: st))) : Go p e below F T (mkF m pc Ls st) :=
  Go.by (fun _ r => XT.lloadN X.1.here X.hx rfl (hb X.hby hd) hl r) q
theorem kALn (X : Sit p l e R s m args below meth c bs own Z EL n0 h0 T h vm0 locs cells slots) {k : Fin 4} {v : Value} (hd : decode bs pc = .ok (.aload_n k, 1)) (hl : Ls[k.val]? = some (.val v)) (hv : v.isRef = true) (q : Go p e below F T (mkF m (pc + 1) Ls (v :: st))) : Go p e below F T (mkF m pc Ls st) :=
  Go.by (fun _ r => XS.aloadN X.1.here X.hx rfl (hb X.hby hd) hl hv r) q
theorem kISn (X : Sit p l e R s m args below meth c bs own Z EL n0 h0 T h vm0 locs cells slots) {k : Fin 4} {v : Int32} (Ms : Array Slot) (hd : decode bs pc = .ok (.istore_n k, 1)) (hl : storeLocals Ls k.val (.int v) = some Ms) (q : Go p e below F T (mkF m (pc + 1) Ms st)) : Go p e below F T (mkF m pc Ls (.int v :: st)) :=
  Go.by (fun _ r => XS.istoreN X.1.here X.hx rfl (hb X.hby hd) rfl hl r) q
theorem kLSn (X : Sit p l e R s m args below meth c bs own Z EL n0 h0 T h vm0 locs cells slots) {k : Fin 4} {v : Int64} (Ms : Array Slot) (hd : decode bs pc = .ok (.lstore_n k, 1)) (hl : storeLocals Ls k.val (.long v) = some Ms) (q : Go p e below F T (mkF m (pc + 1) Ms st)) : Go p e below F T (mkF m pc Ls (.long v :: st)) :=
  Go.by (fun _ r => XT.lstoreN X.1.here X.hx rfl (hb X.hby hd) rfl hl r) q
theorem kASn (X : Sit p l e R s m args below meth c bs own Z EL n0 h0 T h vm0 locs cells slots) {k : Fin 4} {v : Value} (Ms : Array Slot) (hd : decode bs pc = .ok (.astore_n k, 1)) (hv : v.isRef = true) (hl : storeLocals Ls k.val v = some Ms) (q : Go p e below F T (mkF m (pc + 1) Ms st)) : Go p e below F T (mkF m pc Ls (v :: st)) :=
  Go.by (fun _ r => XS.astoreN X.1.here X.hx rfl (hb X.hby hd) rfl hv hl r) q
theorem kIL (X : Sit p l e R s m args below meth c bs own Z EL n0 h0 T h vm0 locs cells slots) {k : Nat} {v : Int32} (hd : decode bs pc = .ok (.iload k, 2)) (hl : Ls[k]? = some (.val (.int v))) (q : Go p e below F T (mkF m (pc + 2) Ls (.int v :: st))) : Go p e below F T (mkF m pc Ls st) :=
  Go.by (fun _ r => XS.iload X.1.here X.hx rfl (hb X.hby hd) hl r) q
theorem kLL (X : Sit p l e R s m args below meth c bs own Z EL n0 h0 T h vm0 locs cells slots) {k : Nat} {v : Int64} (hd : decode bs pc = .ok (.lload k, 2)) (hl : Ls[k]? = some (.val (.long v))) (q : Go p e below F T (mkF m (pc + 2) Ls (.long v :: st))) : Go p e below F T (mkF m pc Ls st) :=
  Go.by (fun _ r => XT.lload X.1.here X.hx rfl (hb X.hby hd) hl r) q
theorem kAL (X : Sit p l e R s m args below meth c bs own Z EL n0 h0 T h vm0 locs cells slots) {k : Nat} {v : Value} (hd : decode bs pc = .ok (.aload k, 2)) (hl : Ls[k]? = some (.val v)) (hv : v.isRef = true) (q : Go p e below F T (mkF m (pc + 2) Ls (v :: st))) : Go p e below F T (mkF m pc Ls st) :=
  Go.by (fun _ r => XS.aload X.1.here X.hx rfl (hb X.hby hd) hl hv r) q
theorem kIS (X : Sit p l e R s m args below meth c bs own Z EL n0 h0 T h vm0 locs cells slots) {k : Nat} {v : Int32} (Ms : Array Slot) (hd : decode bs pc = .ok (.istore k, 2)) (hl : storeLocals Ls k (.int v) = some Ms) (q : Go p e below F T (mkF m (pc + 2) Ms st)) : Go p e below F T (mkF m pc Ls (.int v :: st)) :=
  Go.by (fun _ r => XS.istore X.1.here X.hx rfl (hb X.hby hd) rfl hl r) q
theorem kLS (X : Sit p l e R s m args below meth c bs own Z EL n0 h0 T h vm0 locs cells slots) {k : Nat} {v : Int64} (Ms : Array Slot) (hd : decode bs pc = .ok (.lstore k, 2)) (hl : storeLocals Ls k (.long v) = some Ms) (q : Go p e below F T (mkF m (pc + 2) Ms st)) : Go p e below F T (mkF m pc Ls (.long v :: st)) :=
  Go.by (fun _ r => XT.lstore X.1.here X.hx rfl (hb X.hby hd) rfl hl r) q
theorem kAS (X : Sit p l e R s m args below meth c bs own Z EL n0 h0 T h vm0 locs cells slots) {k : Nat} {v : Value} (Ms : Array Slot) (hd : decode bs pc = .ok (.astore k, 2)) (hv : v.isRef = true) (hl : storeLocals Ls k v = some Ms) (q : Go p e below F T (mkF m (pc + 2) Ms st)) : Go p e below F T (mkF m pc Ls (v :: st)) :=
  Go.by (fun _ r => XS.astore X.1.here X.hx rfl (hb X.hby hd) rfl hv hl r) q
theorem kIC (X : Sit p l e R s m args below meth c bs own Z EL n0 h0 T h vm0 locs cells slots) {i : Int} (v : Int32) (hd : decode bs pc = .ok (.iconst i, 1)) (hv : Int32.ofInt i = v) (q : Go p e below F T (mkF m (pc + 1) Ls (.int v :: st))) : Go p e below F T (mkF m pc Ls st) :=
  Go.by (fun _ r => XT.iconstV X.1.here X.hx rfl v (hb X.hby hd) hv r) q
theorem kBI (X : Sit p l e R s m args below meth c bs own Z EL n0 h0 T h vm0 locs cells slots) {i : Int} (v : Int32) (hd : decode bs pc = .ok (.bipush i, 2)) (hv : (Int8.ofInt i).toInt32 = v) (q : Go p e below F T (mkF m (pc + 2) Ls (.int v :: st))) : Go p e below F T (mkF m pc Ls st) :=
  Go.by (fun _ r => XT.bipushV X.1.here X.hx rfl v (hb X.hby hd) hv r) q
theorem kSI (X : Sit p l e R s m args below meth c bs own Z EL n0 h0 T h vm0 locs cells slots) {i : Int} (v : Int32) (hd : decode bs pc = .ok (.sipush i, 3)) (hv : (Int16.ofInt i).toInt32 = v) (q : Go p e below F T (mkF m (pc + 3) Ls (.int v :: st))) : Go p e below F T (mkF m pc Ls st) :=
  Go.by (fun _ r => XT.sipushV X.1.here X.hx rfl v (hb X.hby hd) hv r) q
theorem kLC (X : Sit p l e R s m args below meth c bs own Z EL n0 h0 T h vm0 locs cells slots) {k : Fin 2} (v : Int64) (hd : decode bs pc = .ok (.lconst k, 1)) (hv : Int64.ofNat k = v) (q : Go p e below F T (mkF m (pc + 1) Ls (.long v :: st))) : Go p e below F T (mkF m pc Ls st) :=
  Go.by (fun _ r => XT.lconstV X.1.here X.hx rfl v (hb X.hby hd) hv r) q
theorem kNULL (X : Sit p l e R s m args below meth c bs own Z EL n0 h0 T h vm0 locs cells slots)  (hd : decode bs pc = .ok (.aconst_null, 1)) (q : Go p e below F T (mkF m (pc + 1) Ls (.null :: st))) : Go p e below F T (mkF m pc Ls st) :=
  Go.by (fun _ r => XS.aconstNull X.1.here X.hx rfl (hb X.hby hd) r) q
theorem kIADD (X : Sit p l e R s m args below meth c bs own Z EL n0 h0 T h vm0 locs cells slots) {x y : Int32} (z : Int32) (hd : decode bs pc = .ok (.iadd, 1)) (hz : x + y = z) (q : Go p e below F T (mkF m (pc + 1) Ls (.int z :: st))) : Go p e below F T (mkF m pc Ls (.int y :: .int x :: st)) :=
  Go.by (fun _ r => XS.iadd X.1.here X.hx rfl (hb X.hby hd) rfl (hz ▸ r)) q
theorem kISUB (X : Sit p l e R s m args below meth c bs own Z EL n0 h0 T h vm0 locs cells slots) {x y : Int32} (z : Int32) (hd : decode bs pc = .ok (.isub, 1)) (hz : x - y = z) (q : Go p e below F T (mkF m (pc + 1) Ls (.int z :: st))) : Go p e below F T (mkF m pc Ls (.int y :: .int x :: st)) :=
  Go.by (fun _ r => XS.isub X.1.here X.hx rfl (hb X.hby hd) rfl (hz ▸ r)) q
theorem kIMUL (X : Sit p l e R s m args below meth c bs own Z EL n0 h0 T h vm0 locs cells slots) {x y : Int32} (z : Int32) (hd : decode bs pc = .ok (.imul, 1)) (hz : x * y = z) (q : Go p e below F T (mkF m (pc + 1) Ls (.int z :: st))) : Go p e below F T (mkF m pc Ls (.int y :: .int x :: st)) :=
  Go.by (fun _ r => XS.imul X.1.here X.hx rfl (hb X.hby hd) rfl (hz ▸ r)) q
theorem kIAND (X : Sit p l e R s m args below meth c bs own Z EL n0 h0 T h vm0 locs cells slots) {x y : Int32} (z : Int32) (hd : decode bs pc = .ok (.iand, 1)) (hz : x &&& y = z) (q : Go p e below F T (mkF m (pc + 1) Ls (.int z :: st))) : Go p e below F T (mkF m pc Ls (.int y :: .int x :: st)) :=
  Go.by (fun _ r => XS.iand X.1.here X.hx rfl (hb X.hby hd) rfl (hz ▸ r)) q
theorem kIOR (X : Sit p l e R s m args below meth c bs own Z EL n0 h0 T h vm0 locs cells slots) {x y : Int32} (z : Int32) (hd : decode bs pc = .ok (.ior, 1)) (hz : x ||| y = z) (q : Go p e below F T (mkF m (pc + 1) Ls (.int z :: st))) : Go p e below F T (mkF m pc Ls (.int y :: .int x :: st)) :=
  Go.by (fun _ r => XT.ior X.1.here X.hx rfl (hb X.hby hd) rfl (hz ▸ r)) q
theorem kIXOR (X : Sit p l e R s m args below meth c bs own Z EL n0 h0 T h vm0 locs cells slots) {x y : Int32} (z : Int32) (hd : decode bs pc = .ok (.ixor, 1)) (hz : x ^^^ y = z) (q : Go p e below F T (mkF m (pc + 1) Ls (.int z :: st))) : Go p e below F T (mkF m pc Ls (.int y :: .int x :: st)) :=
  Go.by (fun _ r => XT.ixor X.1.here X.hx rfl (hb X.hby hd) rfl (hz ▸ r)) q
theorem kISHL (X : Sit p l e R s m args below meth c bs own Z EL n0 h0 T h vm0 locs cells slots) {x y : Int32} (z : Int32) (hd : decode bs pc = .ok (.ishl, 1)) (hz : x <<< (y &&& 31) = z) (q : Go p e below F T (mkF m (pc + 1) Ls (.int z :: st))) : Go p e below F T (mkF m pc Ls (.int y :: .int x :: st)) :=
  Go.by (fun _ r => XT.ishl X.1.here X.hx rfl (hb X.hby hd) rfl (hz ▸ r)) q
theorem kISHR (X : Sit p l e R s m args below meth c bs own Z EL n0 h0 T h vm0 locs cells slots) {x y : Int32} (z : Int32) (hd : decode bs pc = .ok (.ishr, 1)) (hz : x >>> (y &&& 31) = z) (q : Go p e below F T (mkF m (pc + 1) Ls (.int z :: st))) : Go p e below F T (mkF m pc Ls (.int y :: .int x :: st)) :=
  Go.by (fun _ r => XT.ishr X.1.here X.hx rfl (hb X.hby hd) rfl (hz ▸ r)) q
theorem kIUSHR (X : Sit p l e R s m args below meth c bs own Z EL n0 h0 T h vm0 locs cells slots) {x y : Int32} (z : Int32) (hd : decode bs pc = .ok (.iushr, 1)) (hz : XT.ushr x y = z) (q : Go p e below F T (mkF m (pc + 1) Ls (.int z :: st))) : Go p e below F T (mkF m pc Ls (.int y :: .int x :: st)) :=
  Go.by (fun _ r => XT.iushr X.1.here X.hx rfl (hb X.hby hd) rfl (hz ▸ r)) q
theorem kIREM (X : Sit p l e R s m args below meth c bs own Z EL n0 h0 T h vm0 locs cells slots) {x y : Int32} (z : Int32) (hd : decode bs pc = .ok (.irem, 1)) (hy : y ≠ 0) (hz : x % y = z) (q : Go p e below F T (mkF m (pc + 1) Ls (.int z :: st))) : Go p e below F T (mkF m pc Ls (.int y :: .int x :: st)) :=
  Go.by (fun _ r => iremM X.1 X.hx rfl (hb X.hby hd) rfl hy (hz ▸ r)) q
theorem kI2C (X : Sit p l e R s m args below meth c bs own Z EL n0 h0 T h vm0 locs cells slots) {x : Int32} (z : Int32) (hd : decode bs pc = .ok (.i2c, 1)) (hz : x.toUInt32.toUInt16.toUInt32.toInt32 = z) (q : Go p e below F T (mkF m (pc + 1) Ls (.int z :: st))) : Go p e below F T (mkF m pc Ls (.int x :: st)) :=
  Go.by (fun _ r => XT.i2c X.1.here X.hx rfl (hb X.hby hd) rfl (hz ▸ r)) q
theorem kI2B (X : Sit p l e R s m args below meth c bs own Z EL n0 h0 T h vm0 locs cells slots) {x : Int32} (z : Int32) (hd : decode bs pc = .ok (.i2b, 1)) (hz : x.toInt8.toInt32 = z) (q : Go p e below F T (mkF m (pc + 1) Ls (.int z :: st))) : Go p e below F T (mkF m pc Ls (.int x :: st)) :=
  Go.by (fun _ r => XT.i2b X.1.here X.hx rfl (hb X.hby hd) rfl (hz ▸ r)) q
theorem kI2L (X : Sit p l e R s m args below meth c bs own Z EL n0 h0 T h vm0 locs cells slots) {x : Int32} (hd : decode bs pc = .ok (.i2l, 1)) (q : Go p e below F T (mkF m (pc + 1) Ls (.long x.toInt64 :: st))) : Go p e below F T (mkF m pc Ls (.int x :: st)) :=
  Go.by (fun _ r => XT.i2l X.1.here X.hx rfl (hb X.hby hd) rfl r) q
theorem kDUP (X : Sit p l e R s m args below meth c bs own Z EL n0 h0 T h vm0 locs cells slots) {x : Value} (hd : decode bs pc = .ok (.dup, 1)) (hc : x.category = 1) (q : Go p e below F T (mkF m (pc + 1) Ls (x :: x :: st))) : Go p e below F T (mkF m pc Ls (x :: st)) :=
  Go.by (fun _ r => XS.dup X.1.here X.hx rfl (hb X.hby hd) rfl hc r) q
theorem kDUPX (X : Sit p l e R s m args below meth c bs own Z EL n0 h0 T h vm0 locs cells slots) {x y : Value} (hd : decode bs pc = .ok (.dup_x1, 1)) (hc : x.category = 1) (hc2 : y.category = 1) (q : Go p e below F T (mkF m (pc + 1) Ls (x :: y :: x :: st))) : Go p e below F T (mkF m pc Ls (x :: y :: st)) :=
  Go.by (fun _ r => XT.dupX1 X.1.here X.hx rfl (hb X.hby hd) rfl hc hc2 r) q
theorem kPOP (X : Sit p l e R s m args below meth c bs own Z EL n0 h0 T h vm0 locs cells slots) {x : Value} (hd : decode bs pc = .ok (.pop, 1)) (hc : x.category = 1) (q : Go p e below F T (mkF m (pc + 1) Ls st)) : Go p e below F T (mkF m pc Ls (x :: st)) :=
  Go.by (fun _ r => XT.pop X.1.here X.hx rfl (hb X.hby hd) rfl hc r) q
theorem kIINC (X : Sit p l e R s m args below meth c bs own Z EL n0 h0 T h vm0 locs cells slots) {k : Nat} {i : Int} {x : Int32} (v z : Int32) (Ms : Array Slot) (hd : decode bs pc = .ok (.iinc k i, 3)) (hv : Int32.ofInt i = v) (hl : Ls[k]? = some (.val (.int x))) (hz : x + v = z) (hl2 : storeLocals Ls k (.int z) = some Ms) (q : Go p e below F T (mkF m (pc + 3) Ms st)) : Go p e below F T (mkF m pc Ls st) :=
  Go.by (fun _ r => XT.iincV X.1.here X.hx rfl v (hb X.hby hd) hv hl (hz ▸ hl2) r) q
theorem kGOTO (X : Sit p l e R s m args below meth c bs own Z EL n0 h0 T h vm0 locs cells slots)  {o : Int} (pc2 : Nat) (hd : decode bs pc = .ok (.goto o, 3))  (ho : 0 ≤ (pc : Int) + o ∧ ((pc : Int) + o).toNat = pc2) (q : Go p e below F T (mkF m pc2 Ls st)) : Go p e below F T (mkF m pc Ls st) :=
  Go.by (fun _ r => XS.goto X.1.here X.hx rfl (pc0 := pc) (pc' := pc2) rfl (hb X.hby hd)  ho.1 ho.2 r) q
theorem kIFt (X : Sit p l e R s m args below meth c bs own Z EL n0 h0 T h vm0 locs cells slots) {cd : ClassFile.Cond} {x : Int32} {o : Int} (pc2 : Nat) (hd : decode bs pc = .ok (.ifCond cd o, 3)) (hc : ifCond.holds cd x = true) (ho : 0 ≤ (pc : Int) + o ∧ ((pc : Int) + o).toNat = pc2) (q : Go p e below F T (mkF m pc2 Ls st)) : Go p e below F T (mkF m pc Ls (.int x :: st)) :=
  Go.by (fun _ r => XS.ifYes X.1.here X.hx rfl (pc0 := pc) (pc' := pc2) rfl (hb X.hby hd) rfl hc ho.1 ho.2 r) q
theorem kICt (X : Sit p l e R s m args below meth c bs own Z EL n0 h0 T h vm0 locs cells slots) {cd : ClassFile.Cond} {x y : Int32} {o : Int} (pc2 : Nat) (hd : decode bs pc = .ok (.if_icmp cd o, 3)) (hc : if_icmp.holds cd x y = true) (ho : 0 ≤ (pc : Int) + o ∧ ((pc : Int) + o).toNat = pc2) (q : Go p e below F T (mkF m pc2 Ls st)) : Go p e below F T (mkF m pc Ls (.int y :: .int x :: st)) :=
  Go.by (fun _ r => XS.icmpYes X.1.here X.hx rfl (pc0 := pc) (pc' := pc2) rfl (hb X.hby hd) rfl hc ho.1 ho.2 r) q
theorem kACt (X : Sit p l e R s m args below meth c bs own Z EL n0 h0 T h vm0 locs cells slots) {cd : ClassFile.ACond} {x y : Value} {o : Int} (pc2 : Nat) (hd : decode bs pc = .ok (.if_acmp cd o, 3)) (hx1 : x.isRef = true) (hy1 : y.isRef = true) (hc : XT.acmp cd x y = true) (ho : 0 ≤ (pc : Int) + o ∧ ((pc : Int) + o).toNat = pc2) (q : Go p e below F T (mkF m pc2 Ls st)) : Go p e below F T (mkF m pc Ls (y :: x :: st)) :=
  Go.by (fun _ r => XT.acmpYes X.1.here X.hx rfl (pc0 := pc) (pc' := pc2) rfl (hb X.hby hd) rfl hx1 hy1 hc ho.1 ho.2 r) q
theorem kNUt (X : Sit p l e R s m args below meth c bs own Z EL n0 h0 T h vm0 locs cells slots)  {o : Int} (pc2 : Nat) (hd : decode bs pc = .ok (.ifnull o, 3))  (ho : 0 ≤ (pc : Int) + o ∧ ((pc : Int) + o).toNat = pc2) (q : Go p e below F T (mkF m pc2 Ls st)) : Go p e below F T (mkF m pc Ls (.null :: st)) :=
  Go.by (fun _ r => XS.ifnullYes X.1.here X.hx rfl (pc0 := pc) (pc' := pc2) rfl (hb X.hby hd) rfl ho.1 ho.2 r) q
theorem kNNt (X : Sit p l e R s m args below meth c bs own Z EL n0 h0 T h vm0 locs cells slots) {b : Addr} {o : Int} (pc2 : Nat) (hd : decode bs pc = .ok (.ifnonnull o, 3))  (ho : 0 ≤ (pc : Int) + o ∧ ((pc : Int) + o).toNat = pc2) (q : Go p e below F T (mkF m pc2 Ls st)) : Go p e below F T (mkF m pc Ls (.ref b :: st)) :=
  Go.by (fun _ r => XT.ifnonnullYes X.1.here X.hx rfl (pc0 := pc) (pc' := pc2) rfl (hb X.hby hd) rfl ho.1 ho.2 r) q
theorem kIFf (X : Sit p l e R s m args below meth c bs own Z EL n0 h0 T h vm0 locs cells slots) {cd : ClassFile.Cond} {x : Int32} {o : Int} (hd : decode bs pc = .ok (.ifCond cd o, 3)) (hc : ifCond.holds cd x = false) (q : Go p e below F T (mkF m (pc + 3) Ls st)) : Go p e below F T (mkF m pc Ls (.int x :: st)) :=
  Go.by (fun _ r => XS.ifNo X.1.here X.hx rfl (hb X.hby hd) rfl hc r) q
theorem kICf (X : Sit p l e R s m args below meth c bs own Z EL n0 h0 T h vm0 locs cells slots) {cd : ClassFile.Cond} {x y : Int32} {o : Int} (hd : decode bs pc = .ok (.if_icmp cd o, 3)) (hc : if_icmp.holds cd x y = false) (q : Go p e below F T (mkF m (pc + 3) Ls st)) : Go p e below F T (mkF m pc Ls (.int y :: .int x :: st)) :=
  Go.by (fun _ r => XS.icmpNo X.1.here X.hx rfl (hb X.hby hd) rfl hc r) q
theorem kACf (X : Sit p l e R s m args below meth c bs own Z EL n0 h0 T h vm0 locs cells slots) {cd : ClassFile.ACond} {x y : Value} {o : Int} (hd : decode bs pc = .ok (.if_acmp cd o, 3)) (hx1 : x.isRef = true) (hy1 : y.isRef = true) (hc : XT.acmp cd x y = false) (q : Go p e below F T (mkF m (pc + 3) Ls st)) : Go p e below F T (mkF m pc Ls (y :: x :: st)) :=
  Go.by (fun _ r => XT.acmpNo X.1.here X.hx rfl (hb X.hby hd) rfl hx1 hy1 hc r) q
theorem kNUf (X : Sit p l e R s m args below meth c bs own Z EL n0 h0 T h vm0 locs cells slots) {b : Addr} {o : Int} (hd : decode bs pc = .ok (.ifnull o, 3)) (q : Go p e below F T (mkF m (pc + 3) Ls st)) : Go p e below F T (mkF m pc Ls (.ref b :: st)) :=
  Go.by (fun _ r => XS.ifnullNo X.1.here X.hx rfl (hb X.hby hd) rfl r) q
theorem kNNf (X : Sit p l e R s m args below meth c bs own Z EL n0 h0 T h vm0 locs cells slots) {o : Int} (hd : decode bs pc = .ok (.ifnonnull o, 3)) (q : Go p e below F T (mkF m (pc + 3) Ls st)) : Go p e below F T (mkF m pc Ls (.null :: st)) :=
  Go.by (fun _ r => XT.ifnonnullNo X.1.here X.hx rfl (hb X.hby hd) rfl r) q
theorem kLDCI (X : Sit p l e R s m args below meth c bs own Z EL n0 h0 T h vm0 locs cells slots) {i : Nat} {v : Int32} (w : (Cond.constant own i v).before a0 Z = true) (hd : decode bs pc = .ok (.ldc i, 2)) (q : Go p e below F T (mkF m (pc + 2) Ls (.int v :: st))) : Go p e below F T (mkF m pc Ls st) :=
  Go.by (fun _ r => X.1.ldcI X.hx X.hown (mvT (s := s.setVm vm0) X.hZ w) rfl (hb X.hby hd) r) q
theorem kGETS (X : Sit p l e R s m args below meth c bs own Z EL n0 h0 T h vm0 locs cells slots) {R0 O n d : String} {i : Nat} {v : Value} (w : (Cond.fieldLink own i R0 n d).before a0 Z = true) (via : Via Z R0 O n d) (f : Sta Z h O n d v) (hd : decode bs pc = .ok (.getstatic i, 3))
    (q : ∀ T', Sit p l e R s m args below meth c bs own Z EL n0 h0 T' h vm0 locs cells slots → Go p e below F T' (mkF m (pc + 3) Ls (v :: st))) : Go p e below F T (mkF m pc Ls st) := by
  obtain ⟨T', Y, e', stp⟩ := getS X.1 X.hx X.hZ X.hown (host := "") w via X.hh f (g := mkF m pc Ls st) rfl (hb X.hby hd)
  exact Go.by stp (q T' (X.mk0 Y e' X.N))
theorem kGETF (X : Sit p l e R s m args below meth c bs own Z EL n0 h0 T h vm0 locs cells slots) {R0 O n d : String} {i : Nat} {a : Addr} {v : Value} (w : (Cond.fieldLink own i R0 n d).before a0 Z = true) (via : Via Z R0 O n d) (f : Fld Z h a O n d v) (hd : decode bs pc = .ok (.getfield i, 3))
    (q : ∀ T', Sit p l e R s m args below meth c bs own Z EL n0 h0 T' h vm0 locs cells slots → Go p e below F T' (mkF m (pc + 3) Ls (v :: st))) : Go p e below F T (mkF m pc Ls (.ref a :: st)) := by
  obtain ⟨T', Y, e', stp⟩ := getF X.1 X.hx X.hZ X.hown (host := "") (Or.inl w) via X.hh f (g := mkF m pc Ls (.ref a :: st)) rfl rfl (hb X.hby hd)
  exact Go.by stp (q T' (X.mk0 Y e' X.N))
theorem kPUTF (X : Sit p l e R s m args below meth c bs own Z EL n0 h0 T h vm0 locs cells slots) {R0 O n d C : String} {i kk : Nat} {ty : FieldType} {a : Addr} {v old : Value} (w : (Cond.fieldLink own i R0 n d).before a0 Z = true) (via : Via Z R0 O n d) (f : Fld Z h a O n d old) (E : Exa Z h a C) (L : (Cond.lays C O n d).before a0 Z = true ∨ ((Cond.laysFinal C O n d).before a0 Z = true ∧ own = O ∧ meth.name = "<init>")) (wi : (Cond.instantiable C kk).before a0 Z = true)
    (hty : parseFieldDescriptor d = some ty) (hn : narrow ty v = v) (hf : fits ty v = true) (ga : n0 ≤ a) (S : Safe Z EL vm0 h a) (hd : decode bs pc = .ok (.putfield i, 3))
    (q : ∀ T' h' locs', Wr h h' a (Jvm.RoadKit.slotOf Z O n d) v → Sit p l e R s m args below meth c bs own Z EL n0 h0 T' h' vm0 locs' cells slots → Go p e below F T' (mkF m (pc + 3) Ls st)) : Go p e below F T (mkF m pc Ls (v :: .ref a :: st)) := by
  obtain ⟨T', h', Y, e', W, stp⟩ := putF X.1 X.hx X.hZ X.hown (host := "") (Or.inl w) via X.hh f E L wi hty hn hf (g := mkF m pc Ls (v :: .ref a :: st)) rfl rfl (hb X.hby hd)
  exact Go.by stp (q T' h' _ W (X.mk1 Y e' (Fr.snoc Y X.N ga) (CHr.wr W S X.C.1)))
theorem kNEW (X : Sit p l e R s m args below meth c bs own Z EL n0 h0 T h vm0 locs cells slots) {C : String} {i n : Nat} (w : (Cond.classLink own i C).before a0 Z = true) (wi : (Cond.instantiable C n).before a0 Z = true) (wz : (Cond.initialized C).before a0 Z = true) (hd : decode bs pc = .ok (.new i, 3)) (hc : cells + 1 ≤ R.cells) (hl : slots + n ≤ R.slots)
    (q : ∀ T' h' a, Ext h h' → a = h.size → n0 ≤ a → Exa Z h' a C → (∀ {O nm d : String} {ty : FieldType}, Laid Z a0 C O nm d → parseFieldDescriptor d = some ty → Fld Z h' a O nm d (defaultValue ty)) → Safe Z EL vm0 h' a → Sit p l e R s m args below meth c bs own Z EL n0 h0 T' h' vm0 locs (cells + 1) (slots + n) → Go p e below F T' (mkF m (pc + 3) Ls (.ref a :: st))) : Go p e below F T (mkF m pc Ls st) := by
  obtain ⟨T', h', Y, e', E, A, D, -, stp⟩ := newO X.1 X.hx X.hZ X.hown w wi wz X.hh (g := mkF m pc Ls st) rfl (hb X.hby hd) hc hl
  exact Go.by stp (q T' h' h.size E rfl X.n A D (Safe.ext E X.C.1 (Safe.new (Nat.le_refl _))) (X.mk1 Y e' X.N (CHr.ext E X.C.1)))
theorem kNEWP (X : Sit p l e R s m args below meth c bs own Z EL n0 h0 T h vm0 locs cells slots) {aty : ArrayType} (w : (Cond.arrayClass (newarray.typeOf aty)).before a0 Z = true) {n : Int32} {cap : Nat} (hd : decode bs pc = .ok (.newarray aty, 2)) (hn : ¬ n < 0) (hcap : n.toNatClampNeg ≤ cap) (hb8 : cap * 8 ≤ 536870912) (hc : cells + 1 ≤ R.cells) (hl : slots + cap ≤ R.slots)
    (q : ∀ T' h' a k, Ext h h' → a = h.size → n0 ≤ a → Arv Z h' a k (newarray.typeOf aty) n [] (defaultValue (newarray.typeOf aty)) → Safe Z EL vm0 h' a → Sit p l e R s m args below meth c bs own Z EL n0 h0 T' h' vm0 locs (cells + 1) (slots + cap) → Go p e below F T' (mkF m (pc + 2) Ls (.ref a :: st))) : Go p e below F T (mkF m pc Ls (.int n :: st)) := by
  obtain ⟨T', h', k, Y, e', E, A, stp⟩ := newP X.1 X.hx X.hZ w X.hh (g := mkF m pc Ls (.int n :: st)) rfl (hb X.hby hd) rfl hn hcap hb8 hc hl
  exact Go.by stp (q T' h' h.size k E rfl X.n (Arv.new A hn) (Safe.ext E X.C.1 (Safe.new (Nat.le_refl _))) (X.mk1 Y e' X.N (CHr.ext E X.C.1)))
theorem kNEWR (X : Sit p l e R s m args below meth c bs own Z EL n0 h0 T h vm0 locs cells slots) {C : String} {i : Nat} (w1 : (Cond.classLink own i C).before a0 Z = true) (w2 : (Cond.arrayOver (.object C)).before a0 Z = true) {n : Int32} {cap : Nat} (hd : decode bs pc = .ok (.anewarray i, 3)) (hn : ¬ n < 0) (hcap : n.toNatClampNeg ≤ cap) (hb8 : cap * 8 ≤ 536870912) (hc : cells + 1 ≤ R.cells) (hl : slots + cap ≤ R.slots)
    (q : ∀ T' h' a k, Ext h h' → a = h.size → n0 ≤ a → Arv Z h' a k (.object C) n [] .null → Ovr Z k C → Safe Z EL vm0 h' a → Sit p l e R s m args below meth c bs own Z EL n0 h0 T' h' vm0 locs (cells + 1) (slots + cap) → Go p e below F T' (mkF m (pc + 3) Ls (.ref a :: st))) : Go p e below F T (mkF m pc Ls (.int n :: st)) := by
  obtain ⟨T', h', k, Y, e', E, A, O, stp⟩ := newR X.1 X.hx X.hZ X.hown w1 w2 X.hh (g := mkF m pc Ls (.int n :: st)) rfl (hb X.hby hd) rfl hn hcap hb8 hc hl
  exact Go.by stp (q T' h' h.size k E rfl X.n (Arv.new A hn) O (Safe.ext E X.C.1 (Safe.new (Nat.le_refl _))) (X.mk1 Y e' X.N (CHr.ext E X.C.1)))
theorem kAASTO (X : Sit p l e R s m args below meth c bs own Z EL n0 h0 T h vm0 locs cells slots) {a : Addr} {v : Value} {k : ClassId} {ty : FieldType} {z j : Int32} {vs : List Value} {dv : Value} (f : Arv Z h a k ty z vs dv) (hty : ty.isReference = true) (I : Sto Z h a v) (hvr : v.isRef = true) (hj : ¬ j < 0 ∧ j < z) (i : Nat) (hi : j.toNatClampNeg = i) (hl : i < vs.length) (ga : n0 ≤ a) (S : Safe Z EL vm0 h a) (hd : decode bs pc = .ok (.aastore, 1))
    (q : ∀ T' h' locs', Wr h h' a j.toNatClampNeg v → Arv Z h' a k ty z (vs.set i v) dv → Sit p l e R s m args below meth c bs own Z EL n0 h0 T' h' vm0 locs' cells slots → Go p e below F T' (mkF m (pc + 1) Ls st)) : Go p e below F T (mkF m pc Ls (v :: .int j :: .ref a :: st)) := by
  obtain ⟨cl, A, q1, S', q3, H, G⟩ := f
  obtain ⟨T', h', Y, e', W, stp⟩ := stR X.1 X.hx X.hZ X.hh A (inb_of S' hj) hty I (g := mkF m pc Ls (v :: .int j :: .ref a :: st)) rfl rfl (hb X.hby hd)
  exact Go.by stp (q T' h' _ W (Arv.set A q1 S' q3 H G (by cases v <;> first | (cases hvr; done) | (cases ty <;> first | rfl | (cases hty; done))) W i hi hl) (X.mk1 Y e' (Fr.snoc Y X.N ga) (CHr.wr W S X.C.1)))
theorem kCASTO (X : Sit p l e R s m args below meth c bs own Z EL n0 h0 T h vm0 locs cells slots) {a : Addr} {x : Int32} {k : ClassId} {z j : Int32} {vs : List Value} {dv : Value} (f : Arv Z h a k .char z vs dv) (hj : ¬ j < 0 ∧ j < z) (i : Nat) (y : Int32) (hy : nar .char x = y) (hi : j.toNatClampNeg = i) (hl : i < vs.length) (ga : n0 ≤ a) (S : Safe Z EL vm0 h a) (hd : decode bs pc = .ok (.castore, 1))
    (q : ∀ T' h' locs', Wr h h' a j.toNatClampNeg (.int y) → Arv Z h' a k .char z (vs.set i (.int y)) dv → Sit p l e R s m args below meth c bs own Z EL n0 h0 T' h' vm0 locs' cells slots → Go p e below F T' (mkF m (pc + 1) Ls st)) : Go p e below F T (mkF m pc Ls (.int x :: .int j :: .ref a :: st)) := by
  subst hy
  obtain ⟨cl, A, q1, S', q3, H, G⟩ := f
  obtain ⟨T', h', Y, e', W, stp⟩ := stC X.1 X.hx X.hZ X.hh A (inb_of S' hj) (g := mkF m pc Ls (.int x :: .int j :: .ref a :: st)) rfl rfl (hb X.hby hd)
  exact Go.by stp (q T' h' _ W (Arv.set A q1 S' q3 H G (fits_nar_char x) W i hi hl) (X.mk1 Y e' (Fr.snoc Y X.N ga) (CHr.wr W S X.C.1)))
theorem kBASTO (X : Sit p l e R s m args below meth c bs own Z EL n0 h0 T h vm0 locs cells slots) {a : Addr} {x : Int32} {k : ClassId} {z j : Int32} {vs : List Value} {dv : Value} (f : Arv Z h a k .byte z vs dv) (hj : ¬ j < 0 ∧ j < z) (i : Nat) (y : Int32) (hy : nar .byte x = y) (hi : j.toNatClampNeg = i) (hl : i < vs.length) (ga : n0 ≤ a) (S : Safe Z EL vm0 h a) (hd : decode bs pc = .ok (.bastore, 1))
    (q : ∀ T' h' locs', Wr h h' a j.toNatClampNeg (.int y) → Arv Z h' a k .byte z (vs.set i (.int y)) dv → Sit p l e R s m args below meth c bs own Z EL n0 h0 T' h' vm0 locs' cells slots → Go p e below F T' (mkF m (pc + 1) Ls st)) : Go p e below F T (mkF m pc Ls (.int x :: .int j :: .ref a :: st)) := by
  subst hy
  obtain ⟨cl, A, q1, S', q3, H, G⟩ := f
  obtain ⟨T', h', Y, e', W, stp⟩ := stB X.1 X.hx X.hZ X.hh A (inb_of S' hj) (g := mkF m pc Ls (.int x :: .int j :: .ref a :: st)) rfl rfl (hb X.hby hd)
  exact Go.by stp (q T' h' _ W (Arv.set A q1 S' q3 H G (fits_nar_byte x) W i hi hl) (X.mk1 Y e' (Fr.snoc Y X.N ga) (CHr.wr W S X.C.1)))
theorem kLEN (X : Sit p l e R s m args below meth c bs own Z EL n0 h0 T h vm0 locs cells slots) {a : Addr} {k : ClassId} {ty : FieldType} {z : Int32} {vs : List Value} {dv : Value} (f : Arv Z h a k ty z vs dv) (hd : decode bs pc = .ok (.arraylength, 1)) (q : Go p e below F T (mkF m (pc + 1) Ls (.int z :: st))) : Go p e below F T (mkF m pc Ls (.ref a :: st)) := by
  obtain ⟨cl, A, q1, S', q3, H, G⟩ := f
  refine Go.by (fun _ r => X.1.arraylength X.hx (by rw [X.hh]; exact A.1) (State.isArrayOf_alike X.hZ.alike A.2.1) (g := mkF m pc Ls (.ref a :: st)) rfl rfl (hb X.hby hd) _ ?_) q
  rw [len_of S' q3]; exact r
theorem kAALD (X : Sit p l e R s m args below meth c bs own Z EL n0 h0 T h vm0 locs cells slots) {a : Addr} {k : ClassId} {ty : FieldType} {z j : Int32} {vs : List Value} {dv : Value} (v : Value) (f : Arv Z h a k ty z vs dv) (hty : ty.isReference = true) (hj : ¬ j < 0 ∧ j < z) (hv : vs.getD j.toNatClampNeg dv = v) (hd : decode bs pc = .ok (.aaload, 1)) (q : Go p e below F T (mkF m (pc + 1) Ls (v :: st))) : Go p e below F T (mkF m pc Ls (.int j :: .ref a :: st)) := by
  obtain ⟨cl, A, q1, S', q3, H, G⟩ := f
  exact Go.by (X.1.aaload X.hx (by rw [X.hh]; exact A.1) (State.isArrayOf_alike X.hZ.alike A.2.1) hty A.2.2 (inb_of S' hj) (H.at (inb_of S' hj) hv) (g := mkF m pc Ls (.int j :: .ref a :: st)) rfl rfl (hb X.hby hd)) q
theorem kCALD (X : Sit p l e R s m args below meth c bs own Z EL n0 h0 T h vm0 locs cells slots) {a : Addr} {k : ClassId} {z j : Int32} {vs : List Value} {dv : Value} (v : Value) (f : Arv Z h a k .char z vs dv) (hj : ¬ j < 0 ∧ j < z) (hv : vs.getD j.toNatClampNeg dv = v) (hd : decode bs pc = .ok (.caload, 1)) (q : Go p e below F T (mkF m (pc + 1) Ls (v :: st))) : Go p e below F T (mkF m pc Ls (.int j :: .ref a :: st)) := by
  obtain ⟨cl, A, q1, S', q3, H, G⟩ := f
  exact Go.by (X.1.caload X.hx (by rw [X.hh]; exact A.1) (State.isArrayOf_alike X.hZ.alike A.2.1) A.2.2 (inb_of S' hj) (H.at (inb_of S' hj) hv) (g := mkF m pc Ls (.int j :: .ref a :: st)) rfl rfl (hb X.hby hd)) q
theorem kBALD (X : Sit p l e R s m args below meth c bs own Z EL n0 h0 T h vm0 locs cells slots) {a : Addr} {k : ClassId} {z j : Int32} {vs : List Value} {dv : Value} (v : Value) (f : Arv Z h a k .byte z vs dv) (hj : ¬ j < 0 ∧ j < z) (hv : vs.getD j.toNatClampNeg dv = v) (hd : decode bs pc = .ok (.baload, 1)) (q : Go p e below F T (mkF m (pc + 1) Ls (v :: st))) : Go p e below F T (mkF m pc Ls (.int j :: .ref a :: st)) := by
  obtain ⟨cl, A, q1, S', q3, H, G⟩ := f
  exact Go.by (X.1.baloadBytes X.hx (by rw [X.hh]; exact A.1) (State.isArrayOf_alike X.hZ.alike A.2.1) A.2.2 (inb_of S' hj) (H.at (inb_of S' hj) hv) (g := mkF m pc Ls (.int j :: .ref a :: st)) rfl rfl (hb X.hby hd)) q
theorem kIALD (X : Sit p l e R s m args below meth c bs own Z EL n0 h0 T h vm0 locs cells slots) {a : Addr} {k : ClassId} {z j : Int32} {vs : List Value} {dv : Value} (v : Value) (f : Arv Z h a k .int z vs dv) (hj : ¬ j < 0 ∧ j < z) (hv : vs.getD j.toNatClampNeg dv = v) (hd : decode bs pc = .ok (.iaload, 1)) (q : Go p e below F T (mkF m (pc + 1) Ls (v :: st))) : Go p e below F T (mkF m pc Ls (.int j :: .ref a :: st)) := by
  obtain ⟨cl, A, q1, S', q3, H, G⟩ := f
  exact Go.by (X.1.iaload X.hx (by rw [X.hh]; exact A.1) (State.isArrayOf_alike X.hZ.alike A.2.1) A.2.2 (inb_of S' hj) (H.at (inb_of S' hj) hv) (g := mkF m pc Ls (.int j :: .ref a :: st)) rfl rfl (hb X.hby hd)) q
theorem kLALD (X : Sit p l e R s m args below meth c bs own Z EL n0 h0 T h vm0 locs cells slots) {a : Addr} {k : ClassId} {z j : Int32} {vs : List Value} {dv : Value} (v : Value) (f : Arv Z h a k .long z vs dv) (hj : ¬ j < 0 ∧ j < z) (hv : vs.getD j.toNatClampNeg dv = v) (hd : decode bs pc = .ok (.laload, 1)) (q : Go p e below F T (mkF m (pc + 1) Ls (v :: st))) : Go p e below F T (mkF m pc Ls (.int j :: .ref a :: st)) := by
  obtain ⟨cl, A, q1, S', q3, H, G⟩ := f
  exact Go.by (X.1.laload X.hx (by rw [X.hh]; exact A.1) (State.isArrayOf_alike X.hZ.alike A.2.1) A.2.2 (inb_of S' hj) (H.at (inb_of S' hj) hv) (g := mkF m pc Ls (.int j :: .ref a :: st)) rfl rfl (hb X.hby hd)) q
theorem kINIT (X : Sit p l e R s m args below meth c bs own Z EL n0 h0 T h vm0 locs cells slots) {i : Nat} {a : Addr} (w1 : (Cond.methodLink own i ⟨"java/lang/Object", "<init>", "()V"⟩).before a0 Z = true) (w2 : (Cond.instanceMethod ⟨"java/lang/Object", "<init>", "()V"⟩).before a0 Z = true) (w3 : (Cond.code ⟨"java/lang/Object", "<init>", "()V"⟩ object_method_1_code 1 none).before a0 Z = true)
    (hsz : Ls.size = c.maxLocals) (hd : decode bs pc = .ok (.invokespecial i, 3)) (hf : 1 ≤ R.frames) (W : Nat) (hW : (st.map fun v => v.category).sum ≤ W) (hl : W + 12 ≤ R.locals) (q : ∀ T', Sit p l e R s m args below meth c bs own Z EL n0 h0 T' h vm0 locs cells slots → Go p e below F T' (mkF m (pc + 3) Ls st)) : Go p e below F T (mkF m pc Ls (.ref a :: st)) := by
  obtain ⟨T', Y, e', stp⟩ := initO X.1 X.hx X.hZ X.hown w1 w2 w3 X.hh (g := mkF m pc Ls (.ref a :: st)) rfl hsz rfl (hb X.hby hd) hf (W := W) (by show 2 * 0 + _ ≤ _; simpa using hW) (by omega)
  exact Go.by stp (q T' (X.mk0 Y e' X.N))
theorem kCAST (X : Sit p l e R s m args below meth c bs own Z EL n0 h0 T h vm0 locs cells slots) {K : String} {i : Nat} {a : Addr} (w : (Cond.classLink own i K).before a0 Z = true) (f : Ins Z h a K true) (hd : decode bs pc = .ok (.checkcast i, 3)) (q : ∀ T', Sit p l e R s m args below meth c bs own Z EL n0 h0 T' h vm0 locs cells slots → Go p e below F T' (mkF m (pc + 3) Ls (.ref a :: st))) : Go p e below F T (mkF m pc Ls (.ref a :: st)) := by
  obtain ⟨T', Y, e', stp⟩ := castY X.1 X.hx X.hZ X.hown w X.hh f (g := mkF m pc Ls (.ref a :: st)) rfl rfl (hb X.hby hd)
  exact Go.by stp (q T' (X.mk0 Y e' X.N))
theorem kINSY (X : Sit p l e R s m args below meth c bs own Z EL n0 h0 T h vm0 locs cells slots) {K : String} {i : Nat} {a : Addr} (w : (Cond.classLink own i K).before a0 Z = true) (f : Ins Z h a K true) (hd : decode bs pc = .ok (.instanceof i, 3)) (q : ∀ T', Sit p l e R s m args below meth c bs own Z EL n0 h0 T' h vm0 locs cells slots → Go p e below F T' (mkF m (pc + 3) Ls (.int 1 :: st))) : Go p e below F T (mkF m pc Ls (.ref a :: st)) := by
  obtain ⟨T', Y, e', stp⟩ := instY X.1 X.hx X.hZ X.hown w X.hh f (g := mkF m pc Ls (.ref a :: st)) rfl rfl (hb X.hby hd)
  exact Go.by stp (q T' (X.mk0 Y e' X.N))
theorem kLDCS (X : Sit p l e R s m args below meth c bs own Z EL n0 h0 T h vm0 locs cells slots) {text : String} {i : Nat} (hEL : EW Z a0 EL) (w : (Cond.stringLink own i text).before a0 Z = true) (wS : ∀ a ∈ Bundle.stringAtoms, a.before a0 Z = true) (hd : decode bs pc = .ok (.ldc i, 2)) {n : Nat} (hn : 4 * text.toList.length ≤ n) (hbig : n ≤ 536870912) (hc : cells + 2 ≤ R.cells) (hl : slots + (n + 4) ≤ R.slots)
    (q : ∀ T' h' vm1 a, Ext h h' → CHr Z EL vm0 h vm1 h' → Sit p l e R s m args below meth c bs own Z EL n0 h0 T' h' vm1 locs (cells + 2) (slots + (n + 4)) → Go p e below F T' (mkF m (pc + 2) Ls (.ref a :: st))) : Go p e below F T (mkF m pc Ls st) := by
  obtain ⟨k0, hS, hk⟩ := X.2.2.1
  obtain ⟨a, T', h', k1, Y, e', E, hS', hk', hZ', ho', hC, -, stp⟩ := ldcOH X.1 X.hx X.hZ X.hown w wS X.hh hS hk hEL X.C.1 (g := mkF m pc Ls st) rfl (hb X.hby hd) hn hbig hc hl
  exact Go.by stp (q T' h' _ a E hC (X.mk2 Y e' hS' hk' hZ' ho' X.N hC))
theorem kLDCT (X : Sit p l e R s m args below meth c bs own Z EL n0 h0 T h vm0 locs cells slots) {text : String} {i : Nat} (hEL : EW Z a0 EL) (w : (Cond.stringLink own i text).before a0 Z = true) (wS : ∀ a ∈ Bundle.stringAtoms, a.before a0 Z = true) (hmem : (own, i) ∈ EL) {vs : List Value} {z : Int32} (ht : (∀ c ∈ text.toList, c.toNat < 256) ∧ text.toList.map (fun c => Value.int (Jvm.Lit.byteI c.toNat.toUInt16)) = vs) (hz : ¬ z < 0) (hlz : z.toNatClampNeg = vs.length)
    (hd : decode bs pc = .ok (.ldc i, 2)) {n : Nat} (hn : 4 * text.toList.length ≤ n) (hbig : n ≤ 536870912) (hc : cells + 2 ≤ R.cells) (hl : slots + (n + 4) ≤ R.slots)
    (q : ∀ T' h' vm1 a b k, Ext h h' → CHr Z EL vm0 h vm1 h' → Exa Z h' a "java/lang/String" → Fld Z h' a "java/lang/String" "coder" "B" (.int 0) → Fld Z h' a "java/lang/String" "value" "[B" (.ref b) → Arv Z h' b k .byte z vs (.int 0) → (∀ x, Safe Z EL vm1 h' x → x ≠ a ∧ x ≠ b) → Sit p l e R s m args below meth c bs own Z EL n0 h0 T' h' vm1 locs (cells + 2) (slots + (n + 4)) → Go p e below F T' (mkF m (pc + 2) Ls (.ref a :: st))) : Go p e below F T (mkF m pc Ls st) := by
  obtain ⟨k0, hS, hk⟩ := X.2.2.1
  obtain ⟨a, T', h', k1, b, k, Y, e', E, hS', hk', hZ', ho', x1, x2, x3, x4, -, -, hC, -, hne, stp⟩ := ldcCH X.1 X.hx X.hZ X.hown w wS X.hh hS hk hEL hmem X.C.1 ht hz hlz (g := mkF m pc Ls st) rfl (hb X.hby hd) hn hbig hc hl
  exact Go.by stp (q T' h' _ a b k E hC x1 x2 x3 x4 hne (X.mk2 Y e' hS' hk' hZ' ho' X.N hC))
theorem kINSN (X : Sit p l e R s m args below meth c bs own Z EL n0 h0 T h vm0 locs cells slots) {K C : String} {i : Nat} {a : Addr} (w : (Cond.classLink own i K).before a0 Z = true) (E : Exa Z h a C) (f : ∃ c t, Z.vm.findClass C = some c ∧ Z.vm.findClass K = some t ∧ Z.vm.assignable c t = false) (hd : decode bs pc = .ok (.instanceof i, 3)) (q : ∀ T', Sit p l e R s m args below meth c bs own Z EL n0 h0 T' h vm0 locs cells slots → Go p e below F T' (mkF m (pc + 3) Ls (.int 0 :: st))) : Go p e below F T (mkF m pc Ls (.ref a :: st)) := by
  obtain ⟨T', Y, e', stp⟩ := instNo X.1 X.hx X.hZ X.hown w X.hh E f (g := mkF m pc Ls (.ref a :: st)) rfl rfl (hb X.hby hd)
  exact Go.by stp (q T' (X.mk0 Y e' X.N))
theorem kINSN0 (X : Sit p l e R s m args below meth c bs own Z EL n0 h0 T h vm0 locs cells slots) {i : Nat} (hd : decode bs pc = .ok (.instanceof i, 3)) (q : Go p e below F T (mkF m (pc + 3) Ls (.int 0 :: st))) : Go p e below F T (mkF m pc Ls (.null :: st)) :=
  Go.by (X.1.instanceofNull X.hx (g := mkF m pc Ls (.null :: st)) rfl rfl (hb X.hby hd)) q
theorem own_fitC {Z : State} {h : Heap} {a : Addr} {cl : Cell} {ty : FieldType} {vs : List Value} {dv : Value} (A : Arr Z h a cl ty) (H : Has cl vs dv) (G : ∀ i, i < cl.slots.size → fits ty (vs.getD i dv) = true) : FitC Z cl := fun i v hv => by
  obtain ⟨hi, -⟩ := Array.getElem?_eq_some_iff.mp hv
  have e := H i hi
  rw [hv] at e
  cases e
  obtain ⟨hs, k, hk, comp, hkind⟩ := A.2.1
  have g := G i hi
  simp [State.fitsSlot, State.slotType?, hk, hkind]
  simpa using g
theorem kCLONE (X : Sit p l e R s m args below meth c bs own Z EL n0 h0 T h vm0 locs cells slots) {ad : String} {i : Nat} {a : Addr} {k : ClassId} {ty : FieldType} {z : Int32} {vs : List Value} {dv : Value} (w1 : (Cond.methodLink own i ⟨ad, "clone", "()Ljava/lang/Object;"⟩).before a0 Z = true) (w2 : (Cond.sameMethod ad "java/lang/Object" "clone" "()Ljava/lang/Object;").before a0 Z = true) (w3 : (Cond.native ⟨"java/lang/Object", "clone", "()Ljava/lang/Object;"⟩).before a0 Z = true)
    (w4 : (Cond.instanceMethod ⟨"java/lang/Object", "clone", "()Ljava/lang/Object;"⟩).before a0 Z = true) (w5 : (Cond.selects ad ⟨ad, "clone", "()Ljava/lang/Object;"⟩ ⟨"java/lang/Object", "clone", "()Ljava/lang/Object;"⟩).before a0 Z = true) (w6 : (Cond.castable ad "java/lang/Cloneable").before a0 Z = true)
    (f : Arv Z h a k ty z vs dv) (E : Exa Z h a ad) (hsz : Ls.size = c.maxLocals) (hd : decode bs pc = .ok (.invokevirtual i, 3)) (hf : 1 ≤ R.frames) (W cap : Nat) (hW : (st.map fun v => v.category).sum ≤ W) (hl : W + 14 ≤ R.locals) (hcap : z.toNatClampNeg ≤ cap) (hc : cells + 1 ≤ R.cells) (hsl : slots + cap ≤ R.slots)
    (q : ∀ T' h' b, Ext h h' → b = h.size → n0 ≤ b → Arv Z h' b k ty z vs dv → Exa Z h' b ad → Safe Z EL vm0 h' b → Sit p l e R s m args below meth c bs own Z EL n0 h0 T' h' vm0 locs (cells + 1) (slots + cap) → Go p e below F T' (mkF m (pc + 3) Ls (.ref b :: st))) : Go p e below F T (mkF m pc Ls (.ref a :: st)) := by
  obtain ⟨cl, A, q1, S', q3, H, G⟩ := f
  obtain ⟨T', h', Y, e', Ex, A', E', stp⟩ := cloneA X.1 X.hx X.hZ X.hown w1 w2 w3 w4 w5 w6 X.hh A E (own_fitC A H G) (g := mkF m pc Ls (.ref a :: st)) rfl hsz rfl (hb X.hby hd) hf (W := W) (cap := cap) (by show 2 * 0 + _ ≤ _; simpa using hW) hl (by rw [S']; exact hcap) hc hsl
  exact Go.by stp (q T' h' h.size Ex rfl X.n ⟨_, A', q1, S', q3, H, G⟩ E' (Safe.ext Ex X.C.1 (Safe.new (Nat.le_refl _))) (X.mk1 Y e' X.N (CHr.ext Ex X.C.1)))
theorem kSTAT (X : Sit p l e R s m args below meth c bs own Z EL n0 h0 T h vm0 locs cells slots) (hEL : EW Z a0 EL) {i : Nat} {y : MethodName} {rm : Room} {SL : List Addr} {Q : Vm → Option Value → Heap → Vm → Prop} {bytes : ByteArray} {maxL : Nat} {ret : Option FieldType} {argsL rest stk : List Value} (w1 : (Cond.methodLink own i y).before a0 Z = true) (w2 : (Cond.static y).before a0 Z = true) (wz : (Cond.initialized y.cls).before a0 Z = true) (wc : (Cond.code y bytes maxL ret).before a0 Z = true) (hy : y.cls ≠ "java/lang/invoke/MethodHandle" ∧ y.cls ≠ "java/lang/invoke/VarHandle") (M : MetH l Z EL n0 y bytes maxL ret [] rm argsL.toArray h SL Q) (hSL : ∀ x ∈ SL, x < h.size ∧ Safe Z EL vm0 h x) (hlen : ∀ sig, parseMethodDescriptor y.desc = some sig → argsL.length = sig.parameters.length) (hst : stk = argsL.reverse ++ rest) (W : Nat) (hW : (rest.map fun v => v.category).sum = W) (hr : (rm.frames + 1 ≤ R.frames ∧ W + (maxL + 11) + rm.locals ≤ R.locals) ∧ cells + rm.cells ≤ R.cells ∧ slots + rm.slots ≤ R.slots) (hsz : Ls.size = c.maxLocals) (hd : decode bs pc = .ok (.invokestatic i, 3))
    (q : ∀ v T' h' vm1 locs' vs, Q vs v h' vm1 → CHr Z EL vm0 h vs h → CHr Z EL vm0 h vm1 h' → Sit p l e R s m args below meth c bs own Z EL n0 h0 T' h' vm1 locs' (cells + rm.cells) (slots + rm.slots) → Go p e below F T' (mkF m (pc + 3) Ls (v.toList ++ rest))) : Go p e below F T (mkF m pc Ls stk) := by
  obtain ⟨v, vm₁, ⟨U, L, k, n⟩, -, Y, hS1, hgr, ⟨Lc, vs, hQ, hCs, l1, y1, z1, hC⟩, stp⟩ := callSS X.1 X.hx (y := y) X.hown (mvT (s := s.setVm vm0) X.hZ w1) (mvT (s := s.setVm vm0) X.hZ w2) (mvT (s := s.setVm vm0) X.hZ wz) (mvT (s := s.setVm vm0) X.hZ wc) hy (backX (W := W) M X.hZ wc wz hr.1.1 hr.1.2 hEL X.C.1 hSL) (g := mkF m pc Ls stk) rfl hsz (argsL := argsL) (rest := rest) hlen hst (by show 2 * 0 + _ ≤ _; simpa using Nat.le_of_eq hW) (hb X.hby hd) (fun _ _ => ⟨rfl, X.hh, hr.2.1, hr.2.2⟩)
  dsimp only [Pt.U, Pt.locs, Pt.cells, Pt.slots] at Y hS1 hgr l1 y1 z1 stp hQ hC hCs
  subst l1 y1 z1
  obtain ⟨k0, hS, hk⟩ := X.2.2.1
  have hS2 := hS.trans hS1 (Nat.le_trans hk (by rw [← X.hh]; exact hgr))
  exact Go.call stp (q v U U.heap _ _ vs hQ.2 hCs hC (X.mk2 Y rfl hS2 (Nat.le_refl _) (State.Warmed39.trans (t := s.setVm vm0) X.hZ hS1.1) ((hS1.1.alike.findClass _ _).trans X.hown) (Fr.app X.N hQ.1) hC))
theorem kSPEC (X : Sit p l e R s m args below meth c bs own Z EL n0 h0 T h vm0 locs cells slots) (hEL : EW Z a0 EL) {i : Nat} {y : MethodName} {a : Addr} {rm : Room} {SL : List Addr} {Q : Vm → Option Value → Heap → Vm → Prop} {bytes : ByteArray} {maxL : Nat} {argsL rest stk : List Value} (w1 : (Cond.methodLink own i y).before a0 Z = true) (w2 : (Cond.instanceMethod y).before a0 Z = true) (wz : (Cond.initialized y.cls).before a0 Z = true) (wc : (Cond.code y bytes maxL none).before a0 Z = true) (hy1 : y.name = "<init>") (hy : y.cls ≠ "java/lang/invoke/MethodHandle" ∧ y.cls ≠ "java/lang/invoke/VarHandle") (M : MetH l Z EL n0 y bytes maxL none [] rm (.ref a :: argsL).toArray h SL Q) (hSL : ∀ x ∈ SL, x < h.size ∧ Safe Z EL vm0 h x) (hlen : ∀ sig, parseMethodDescriptor y.desc = some sig → argsL.length = sig.parameters.length) (hst : stk = argsL.reverse ++ .ref a :: rest) (W : Nat) (hW : (rest.map fun v => v.category).sum = W) (hr : (rm.frames + 1 ≤ R.frames ∧ W + (maxL + 11) + rm.locals ≤ R.locals) ∧ cells + rm.cells ≤ R.cells ∧ slots + rm.slots ≤ R.slots) (hsz : Ls.size = c.maxLocals) (hd : decode bs pc = .ok (.invokespecial i, 3))
    (q : ∀ v T' h' vm1 locs' vs, Q vs v h' vm1 → CHr Z EL vm0 h vs h → CHr Z EL vm0 h vm1 h' → Sit p l e R s m args below meth c bs own Z EL n0 h0 T' h' vm1 locs' (cells + rm.cells) (slots + rm.slots) → Go p e below F T' (mkF m (pc + 3) Ls (v.toList ++ rest))) : Go p e below F T (mkF m pc Ls stk) := by
  obtain ⟨v, vm₁, ⟨U, L, k, n⟩, -, Y, hS1, hgr, ⟨Lc, vs, hQ, hCs, l1, y1, z1, hC⟩, stp⟩ := X.1.specialBackS X.hx (y := y) hy1 X.hown (mvT (s := s.setVm vm0) X.hZ w1) (mvT (s := s.setVm vm0) X.hZ w2) (mvT (s := s.setVm vm0) X.hZ wc) hy (backX (W := W) M X.hZ wc wz hr.1.1 hr.1.2 hEL X.C.1 hSL) (g := mkF m pc Ls stk) rfl hsz (Steps.refl _) (a := a) (argsL := argsL) (rest := rest) hlen hst (by show 2 * 0 + _ ≤ _; simpa using Nat.le_of_eq hW) (hb X.hby hd) (fun _ _ => ⟨rfl, X.hh, hr.2.1, hr.2.2⟩)
  dsimp only [Pt.U, Pt.locs, Pt.cells, Pt.slots] at Y hS1 hgr l1 y1 z1 stp hQ hC hCs
  subst l1 y1 z1
  obtain ⟨k0, hS, hk⟩ := X.2.2.1
  have hS2 := hS.trans hS1 (Nat.le_trans hk (by rw [← X.hh]; exact hgr))
  exact Go.call stp (q v U U.heap _ _ vs hQ.2 hCs hC (X.mk2 Y rfl hS2 (Nat.le_refl _) (State.Warmed39.trans (t := s.setVm vm0) X.hZ hS1.1) ((hS1.1.alike.findClass _ _).trans X.hown) (Fr.app X.N hQ.1) hC))
theorem kVIRT (X : Sit p l e R s m args below meth c bs own Z EL n0 h0 T h vm0 locs cells slots) (hEL : EW Z a0 EL) {i : Nat} {y z : MethodName} {a : Addr} {C : String} {rm : Room} {SL : List Addr} {Q : Vm → Option Value → Heap → Vm → Prop} {bytes : ByteArray} {maxL : Nat} {ret : Option FieldType} {argsL rest stk : List Value} (w1 : (Cond.methodLink own i y).before a0 Z = true) (w2 : (Cond.declares y).before a0 Z = true) (nf : NotFace (s.setVm vm0) y) (w3 : (Cond.selects C y z).before a0 Z = true) (w4 : (Cond.instanceMethod z).before a0 Z = true) (wz : (Cond.initialized z.cls).before a0 Z = true) (wc : (Cond.code z bytes maxL ret).before a0 Z = true) (hy : y.cls ≠ "java/lang/invoke/MethodHandle" ∧ y.cls ≠ "java/lang/invoke/VarHandle") (E : Exa Z h a C) (M : MetH l Z EL n0 z bytes maxL ret [] rm (.ref a :: argsL).toArray h SL Q) (hSL : ∀ x ∈ SL, x < h.size ∧ Safe Z EL vm0 h x) (hlen : ∀ sig, parseMethodDescriptor y.desc = some sig → argsL.length = sig.parameters.length) (hst : stk = argsL.reverse ++ .ref a :: rest) (W : Nat) (hW : (rest.map fun v => v.category).sum = W) (hr : (rm.frames + 1 ≤ R.frames ∧ W + (maxL + 11) + rm.locals ≤ R.locals) ∧ cells + rm.cells ≤ R.cells ∧ slots + rm.slots ≤ R.slots) (hsz : Ls.size = c.maxLocals) (hd : decode bs pc = .ok (.invokevirtual i, 3))
    (q : ∀ v T' h' vm1 locs' vs, Q vs v h' vm1 → CHr Z EL vm0 h vs h → CHr Z EL vm0 h vm1 h' → Sit p l e R s m args below meth c bs own Z EL n0 h0 T' h' vm1 locs' (cells + rm.cells) (slots + rm.slots) → Go p e below F T' (mkF m (pc + 3) Ls (v.toList ++ rest))) : Go p e below F T (mkF m pc Ls stk) := by
  obtain ⟨cB, kB, qa, qb, qc⟩ := isOf (s := s.setVm vm0) X.hZ X.hh E
  obtain ⟨v, vm₁, ⟨U, L, k, n⟩, -, Y, hS1, hgr, ⟨Lc, vs, hQ, hCs, l1, y1, z1, hC⟩, stp⟩ := X.1.virtualBackS X.hx (y := y) (z := z) X.hown (mvT (s := s.setVm vm0) X.hZ w1) (mvT (s := s.setVm vm0) X.hZ w2) nf (mvT (s := s.setVm vm0) X.hZ w3) (mvT (s := s.setVm vm0) X.hZ w4) hy (backX (W := W) M X.hZ wc wz hr.1.1 hr.1.2 hEL X.C.1 hSL) qa qc (g := mkF m pc Ls stk) rfl hsz (Steps.refl _) (argsL := argsL) (rest := rest) hlen hst (by show 2 * 0 + _ ≤ _; simpa using Nat.le_of_eq hW) (hb X.hby hd) (fun _ _ => ⟨rfl, X.hh, hr.2.1, hr.2.2⟩)
  dsimp only [Pt.U, Pt.locs, Pt.cells, Pt.slots] at Y hS1 hgr l1 y1 z1 stp hQ hC hCs
  subst l1 y1 z1
  obtain ⟨k0, hS, hk⟩ := X.2.2.1
  have hS2 := hS.trans hS1 (Nat.le_trans hk (by rw [← X.hh]; exact hgr))
  exact Go.call stp (q v U U.heap _ _ vs hQ.2 hCs hC (X.mk2 Y rfl hS2 (Nat.le_refl _) (State.Warmed39.trans (t := s.setVm vm0) X.hZ hS1.1) ((hS1.1.alike.findClass _ _).trans X.hown) (Fr.app X.N hQ.1) hC))
theorem kPRIV (X : Sit p l e R s m args below meth c bs own Z EL n0 h0 T h vm0 locs cells slots) (hEL : EW Z a0 EL) {i : Nat} {y : MethodName} {a : Addr} {C : String} {rm : Room} {SL : List Addr} {Q : Vm → Option Value → Heap → Vm → Prop} {bytes : ByteArray} {maxL : Nat} {ret : Option FieldType} {argsL rest stk : List Value} (w1 : (Cond.methodLink own i y).before a0 Z = true) (w2 : (Cond.instanceMethod y).before a0 Z = true) (w3 : (Cond.selects y.cls y y).before a0 Z = true) (w4 : (Cond.privateMethod y).before a0 Z = true) (wz : (Cond.initialized y.cls).before a0 Z = true) (wc : (Cond.code y bytes maxL ret).before a0 Z = true) (hy : y.cls ≠ "java/lang/invoke/MethodHandle" ∧ y.cls ≠ "java/lang/invoke/VarHandle") (E : Exa Z h a C) (M : MetH l Z EL n0 y bytes maxL ret [] rm (.ref a :: argsL).toArray h SL Q) (hSL : ∀ x ∈ SL, x < h.size ∧ Safe Z EL vm0 h x) (hlen : ∀ sig, parseMethodDescriptor y.desc = some sig → argsL.length = sig.parameters.length) (hst : stk = argsL.reverse ++ .ref a :: rest) (W : Nat) (hW : (rest.map fun v => v.category).sum = W) (hr : (rm.frames + 1 ≤ R.frames ∧ W + (maxL + 11) + rm.locals ≤ R.locals) ∧ cells + rm.cells ≤ R.cells ∧ slots + rm.slots ≤ R.slots) (hsz : Ls.size = c.maxLocals) (hd : decode bs pc = .ok (.invokevirtual i, 3))
    (q : ∀ v T' h' vm1 locs' vs, Q vs v h' vm1 → CHr Z EL vm0 h vs h → CHr Z EL vm0 h vm1 h' → Sit p l e R s m args below meth c bs own Z EL n0 h0 T' h' vm1 locs' (cells + rm.cells) (slots + rm.slots) → Go p e below F T' (mkF m (pc + 3) Ls (v.toList ++ rest))) : Go p e below F T (mkF m pc Ls stk) := by
  obtain ⟨cE, hE1, hE2⟩ := Exa.cell E
  obtain ⟨v, vm₁, ⟨U, L, k, n⟩, -, Y, hS1, hgr, ⟨Lc, vs, hQ, hCs, l1, y1, z1, hC⟩, stp⟩ := X.1.privateBackS X.hx (y := y) X.hown (mvT (s := s.setVm vm0) X.hZ w1) (mvT (s := s.setVm vm0) X.hZ w2) (mvT (s := s.setVm vm0) X.hZ w3) (Cond.privateMethod_at (args := args) (mvP (s := s.setVm vm0) X.hZ w4)) (mvT (s := s.setVm vm0) X.hZ wc) hy (backX (W := W) M X.hZ wc wz hr.1.1 hr.1.2 hEL X.C.1 hSL) (g := mkF m pc Ls stk) rfl hsz (Steps.refl _) (a := a) (by rw [X.hh]; exact hE1) hE2 (argsL := argsL) (rest := rest) hlen hst (by show 2 * 0 + _ ≤ _; simpa using Nat.le_of_eq hW) (hb X.hby hd) (fun _ _ => ⟨rfl, X.hh, hr.2.1, hr.2.2⟩)
  dsimp only [Pt.U, Pt.locs, Pt.cells, Pt.slots] at Y hS1 hgr l1 y1 z1 stp hQ hC hCs
  subst l1 y1 z1
  obtain ⟨k0, hS, hk⟩ := X.2.2.1
  have hS2 := hS.trans hS1 (Nat.le_trans hk (by rw [← X.hh]; exact hgr))
  exact Go.call stp (q v U U.heap _ _ vs hQ.2 hCs hC (X.mk2 Y rfl hS2 (Nat.le_refl _) (State.Warmed39.trans (t := s.setVm vm0) X.hZ hS1.1) ((hS1.1.alike.findClass _ _).trans X.hown) (Fr.app X.N hQ.1) hC))
theorem kFACE (X : Sit p l e R s m args below meth c bs own Z EL n0 h0 T h vm0 locs cells slots) (hEL : EW Z a0 EL) {i cnt : Nat} {y z : MethodName} {a : Addr} {C : String} {rm : Room} {SL : List Addr} {Q : Vm → Option Value → Heap → Vm → Prop} {bytes : ByteArray} {maxL : Nat} {ret : Option FieldType} {argsL rest stk : List Value} (w1 : (Cond.methodLink own i y).before a0 Z = true) (w2 : (Cond.declares y).before a0 Z = true) (w3 : (Cond.interfaceMethod y.cls y.cls y.name y.desc).before a0 Z = true) (k3 : ((Cond.interfaceMethod y.cls y.cls y.name y.desc).onTables && (Cond.interfaceMethod y.cls y.cls y.name y.desc).keepsFace) = true) (w4 : (Cond.selects C y z).before a0 Z = true) (w5 : (Cond.instanceMethod z).before a0 Z = true) (w6 : (Cond.publicMethod z).before a0 Z = true) (w7 : (Cond.unhidden C y.name y.desc).before a0 Z = true) (w8 : (Cond.castable C y.cls).before a0 Z = true) (wz : (Cond.initialized z.cls).before a0 Z = true) (wc : (Cond.code z bytes maxL ret).before a0 Z = true) (hy : y.cls ≠ "java/lang/invoke/MethodHandle" ∧ y.cls ≠ "java/lang/invoke/VarHandle") (E : Exa Z h a C) (M : MetH l Z EL n0 z bytes maxL ret [] rm (.ref a :: argsL).toArray h SL Q) (hSL : ∀ x ∈ SL, x < h.size ∧ Safe Z EL vm0 h x) (hlen : ∀ sig, parseMethodDescriptor y.desc = some sig → argsL.length = sig.parameters.length) (hst : stk = argsL.reverse ++ .ref a :: rest) (W : Nat) (hW : (rest.map fun v => v.category).sum = W) (hr : (rm.frames + 1 ≤ R.frames ∧ W + (maxL + 11) + rm.locals ≤ R.locals) ∧ cells + rm.cells ≤ R.cells ∧ slots + rm.slots ≤ R.slots) (hsz : Ls.size = c.maxLocals) (hd : decode bs pc = .ok (.invokeinterface i cnt, 5))
    (q : ∀ v T' h' vm1 locs' vs, Q vs v h' vm1 → CHr Z EL vm0 h vs h → CHr Z EL vm0 h vm1 h' → Sit p l e R s m args below meth c bs own Z EL n0 h0 T' h' vm1 locs' (cells + rm.cells) (slots + rm.slots) → Go p e below F T' (mkF m (pc + 5) Ls (v.toList ++ rest))) : Go p e below F T (mkF m pc Ls stk) := by
  obtain ⟨cB, kB, qa, qb, qc⟩ := isOf (s := s.setVm vm0) X.hZ X.hh E
  obtain ⟨v, vm₁, ⟨U, L, k, n⟩, -, Y, hS1, hgr, ⟨Lc, vs, hQ, hCs, l1, y1, z1, hC⟩, stp⟩ := X.1.interfaceBackS X.hx (xi := y) (y := z) X.hown (mvT (s := s.setVm vm0) X.hZ w1) (mvT (s := s.setVm vm0) X.hZ w2) (mvT (s := s.setVm vm0) X.hZ w3 k3) (mvT (s := s.setVm vm0) X.hZ w4) (mvT (s := s.setVm vm0) X.hZ w5) (mvT (s := s.setVm vm0) X.hZ w6) (mvT (s := s.setVm vm0) X.hZ w7) (mvT (s := s.setVm vm0) X.hZ w8) hy (backX (W := W) M X.hZ wc wz hr.1.1 hr.1.2 hEL X.C.1 hSL) qa qb qc (g := mkF m pc Ls stk) rfl hsz (Steps.refl _) (argsL := argsL) (rest := rest) hlen hst (by show 2 * 0 + _ ≤ _; simpa using Nat.le_of_eq hW) (hb X.hby hd) (fun _ _ => ⟨rfl, X.hh, hr.2.1, hr.2.2⟩)
  dsimp only [Pt.U, Pt.locs, Pt.cells, Pt.slots] at Y hS1 hgr l1 y1 z1 stp hQ hC hCs
  subst l1 y1 z1
  obtain ⟨k0, hS, hk⟩ := X.2.2.1
  have hS2 := hS.trans hS1 (Nat.le_trans hk (by rw [← X.hh]; exact hgr))
  exact Go.call stp (q v U U.heap _ _ vs hQ.2 hCs hC (X.mk2 Y rfl hS2 (Nat.le_refl _) (State.Warmed39.trans (t := s.setVm vm0) X.hZ hS1.1) ((hS1.1.alike.findClass _ _).trans X.hown) (Fr.app X.N hQ.1) hC))
theorem kSUP (X : Sit p l e R s m args below meth c bs own Z EL n0 h0 T h vm0 locs cells slots) (hEL : EW Z a0 EL) {i : Nat} {y : MethodName} {a : Addr} {K : String} {rm : Room} {SL : List Addr} {Q : Vm → Option Value → Heap → Vm → Prop} {bytes : ByteArray} {maxL : Nat} {ret : Option FieldType} {argsL rest stk : List Value} (w1 : (Cond.methodLink own i y).before a0 Z = true) (w2 : (Cond.sameMethod y.cls y.cls y.name y.desc).before a0 Z = true) (w3 : (Cond.instanceMethod y).before a0 Z = true) (w4 : (Cond.superclass own y.cls).before a0 Z = true) (hn : y.name ≠ "<init>") (wz : (Cond.initialized y.cls).before a0 Z = true) (wc : (Cond.code y bytes maxL ret).before a0 Z = true) (E : Ins Z h a K true) (M : MetH l Z EL n0 y bytes maxL ret [] rm (.ref a :: argsL).toArray h SL Q) (hSL : ∀ x ∈ SL, x < h.size ∧ Safe Z EL vm0 h x) (hlen : ∀ sig, parseMethodDescriptor y.desc = some sig → argsL.length = sig.parameters.length) (hst : stk = argsL.reverse ++ .ref a :: rest) (W : Nat) (hW : (rest.map fun v => v.category).sum = W) (hr : (rm.frames + 1 ≤ R.frames ∧ W + (maxL + 11) + rm.locals ≤ R.locals) ∧ cells + rm.cells ≤ R.cells ∧ slots + rm.slots ≤ R.slots) (hsz : Ls.size = c.maxLocals) (hd : decode bs pc = .ok (.invokespecial i, 3))
    (q : ∀ v T' h' vm1 locs' vs, Q vs v h' vm1 → CHr Z EL vm0 h vs h → CHr Z EL vm0 h vm1 h' → Sit p l e R s m args below meth c bs own Z EL n0 h0 T' h' vm1 locs' (cells + rm.cells) (slots + rm.slots) → Go p e below F T' (mkF m (pc + 3) Ls (v.toList ++ rest))) : Go p e below F T (mkF m pc Ls stk) := by
  obtain ⟨v, vm₁, ⟨U, L, k, n⟩, -, Y, hS1, hgr, ⟨Lc, vs, hQ, hCs, l1, y1, z1, hC⟩, stp⟩ := superBackS X.1 X.hx (s := s.setVm vm0) X.hZ X.hown w1 w2 w3 w4 hn (backX (W := W) M X.hZ wc wz hr.1.1 hr.1.2 hEL X.C.1 hSL) X.hh E (g := mkF m pc Ls stk) rfl hsz wc (argsL := argsL) (rest := rest) hlen hst (by show 2 * 0 + _ ≤ _; simpa using Nat.le_of_eq hW) (hb X.hby hd) (fun _ _ => ⟨rfl, X.hh, hr.2.1, hr.2.2⟩)
  dsimp only [Pt.U, Pt.locs, Pt.cells, Pt.slots] at Y hS1 hgr l1 y1 z1 stp hQ hC hCs
  subst l1 y1 z1
  obtain ⟨k0, hS, hk⟩ := X.2.2.1
  have hS2 := hS.trans hS1 (Nat.le_trans hk (by rw [← X.hh]; exact hgr))
  exact Go.call stp (q v U U.heap _ _ vs hQ.2 hCs hC (X.mk2 Y rfl hS2 (Nat.le_refl _) (State.Warmed39.trans (t := s.setVm vm0) X.hZ hS1.1) ((hS1.1.alike.findClass _ _).trans X.hown) (Fr.app X.N hQ.1) hC))
theorem kCPA (X : Sit p l e R s m args below meth c bs own Z EL n0 h0 T h vm0 locs cells slots) {i : Nat} {a b : Addr} {k k' : ClassId} {ty ty' : FieldType} {z z' sp dp nn : Int32} {vs vd us : List Value} {dv dd : Value} (w1 : (Cond.methodLink own i Jvm.Stand.acN).before a0 Z = true) (w2 : (Cond.native Jvm.Stand.acN).before a0 Z = true) (w3 : (Cond.static Jvm.Stand.acN).before a0 Z = true) (w4 : (Cond.initialized "java/lang/System").before a0 Z = true)
    (A : Arv Z h a k ty z vs dv) (B : Arv Z h b k' ty' z' vd dd) (hty : (ty = ty' ∧ refKind ty = false) ∨ (refKind ty = true ∧ refKind ty' = true ∧ StoL Z h b us)) (hi : (¬ sp < 0) ∧ (¬ dp < 0) ∧ (¬ nn < 0) ∧ sp.toNatClampNeg + nn.toNatClampNeg ≤ z.toNatClampNeg ∧ dp.toNatClampNeg + nn.toNatClampNeg ≤ z'.toNatClampNeg)
    (hus : us = (List.range nn.toNatClampNeg).map fun i => vs.getD (sp.toNatClampNeg + i) dv) (hl : dp.toNatClampNeg + nn.toNatClampNeg ≤ vd.length) (ge : n0 ≤ b) (S : Safe Z EL vm0 h b) (hsz : Ls.size = c.maxLocals) (hd : decode bs pc = .ok (.invokestatic i, 3)) (hf : 1 ≤ R.frames) (W : Nat) (hW : (st.map fun v => v.category).sum ≤ W) (hlo : W + (nativeFrameWords "java/lang/System" "arraycopy" 5 + 11) ≤ R.locals)
    (q : ∀ T' h' locs', Keep h h' [b] → CHr Z EL vm0 h vm0 h' → Arv Z h' b k' ty' z' (vd.take dp.toNatClampNeg ++ us ++ vd.drop (dp.toNatClampNeg + nn.toNatClampNeg)) dd → Sit p l e R s m args below meth c bs own Z EL n0 h0 T' h' vm0 locs' cells slots → Go p e below F T' (mkF m (pc + 3) Ls st)) : Go p e below F T (mkF m pc Ls (.int nn :: .int dp :: .ref b :: .int sp :: .ref a :: st)) := by
  obtain ⟨T', h', L, Y, e', N, K, A', stp⟩ := cpA X.1 X.hx X.hZ X.hown w1 w2 w3 w4 X.hh A B hty hi.1 hi.2.1 hi.2.2.1 hi.2.2.2.1 hi.2.2.2.2 hus hl X.N ge (g := mkF m pc Ls (.int nn :: .int dp :: .ref b :: .int sp :: .ref a :: st)) rfl hsz rfl (hb X.hby hd) hf (W := W) (by show 2 * 0 + _ ≤ _; simpa using hW) hlo
  have hC := CHr.keep K (sfS S sf0) X.C.1
  exact Go.by stp (q T' h' L K hC A' (X.mk1 Y e' N hC))
end OwnKit
theorem own_cc {b c : Int32} (h : (b &&& (255 : Int32)) = c) : c.toUInt32.toUInt16.toUInt32.toInt32 = c := by
  subst h; exact i2c_mask _
theorem own_ncc {b c : Int32} (h : (b &&& (255 : Int32)) = c) : nar .char c = c := own_cc h
def ownB (c : Int32) : Int32 := c.toInt8.toInt32
theorem own_nb (c : Int32) : nar .byte (ownB c) = ownB c := by
  simp [nar, ownB]
theorem own_nc {c : Int32} (h1 : ¬ (255 : Int32) < c) (h2 : ¬ c < 0) : nar .char c = c := by
  have e1 : (255 : Int32).toInt = 255 := by decide
  have e2 : (0 : Int32).toInt = 0 := by decide
  rw [Int32.lt_iff_toInt_lt, e1] at h1
  rw [Int32.lt_iff_toInt_lt, e2] at h2
  have q := c_i2c c
  show c.toUInt32.toUInt16.toUInt32.toInt32 = c
  rw [← Int32.toInt_inj]
  omega
theorem own_mask (x : Int32) : ¬ (255 : Int32) < (x &&& (255 : Int32)) ∧ ¬ (x &&& (255 : Int32)) < 0 := by
  have e1 : (255 : Int32).toInt = 255 := by decide
  have e2 : (0 : Int32).toInt = 0 := by decide
  have q := c_and x (255 : Int32) (by decide)
  rw [Int32.lt_iff_toInt_lt, Int32.lt_iff_toInt_lt, e1, e2]
  omega
theorem own_b8 {c : Int32} (h1 : ¬ (255 : Int32) < c) (h2 : ¬ c < 0) : (ownB c).toInt = if c.toInt < 128 then c.toInt else c.toInt - 256 := by
  have e1 : (255 : Int32).toInt = 255 := by decide
  have e2 : (0 : Int32).toInt = 0 := by decide
  rw [Int32.lt_iff_toInt_lt, e1] at h1
  rw [Int32.lt_iff_toInt_lt, e2] at h2
  have q := c_i2b c
  unfold ownB
  split <;> omega
theorem own_rt {c : Int32} (h1 : ¬ (255 : Int32) < c) (h2 : ¬ c < 0) : (ownB c &&& (255 : Int32)) = c := by
  have q := own_b8 h1 h2
  have e1 : (255 : Int32).toInt = 255 := by decide
  have e2 : (0 : Int32).toInt = 0 := by decide
  rw [Int32.lt_iff_toInt_lt, e1] at h1
  rw [Int32.lt_iff_toInt_lt, e2] at h2
  have m := c_mask (ownB c) (255 : Int32) 8 (by decide) (by decide)
  rw [← Int32.toInt_inj, m, q]
  split <;> omega
theorem own_and3 (i : Int32) : i &&& (3 : Int32) = 0 ∨ i &&& (3 : Int32) = 1 ∨ i &&& (3 : Int32) = 2 ∨ i &&& (3 : Int32) = 3 := by
  have h1 := c_and i (3 : Int32) (by decide)
  have e3 : (3 : Int32).toInt = 3 := by decide
  have e2 : (2 : Int32).toInt = 2 := by decide
  have e1 : (1 : Int32).toInt = 1 := by decide
  have e0 : (0 : Int32).toInt = 0 := by decide
  rw [← Int32.toInt_inj, ← Int32.toInt_inj, ← Int32.toInt_inj, ← Int32.toInt_inj, e0, e1, e2]
  omega
theorem own_m3 (i : Int32) : (i &&& (255 : Int32)) % (3 : Int32) = 0 ∨ (i &&& (255 : Int32)) % (3 : Int32) = 1 ∨ (i &&& (255 : Int32)) % (3 : Int32) = 2 := by
  have h1 := (c_and i (255 : Int32) (by decide)).1
  have h2 := (c_irem (i &&& (255 : Int32)) 3 3 (by decide)).1 h1
  have e2 : (2 : Int32).toInt = 2 := by decide
  have e1 : (1 : Int32).toInt = 1 := by decide
  have e0 : (0 : Int32).toInt = 0 := by decide
  rw [← Int32.toInt_inj, ← Int32.toInt_inj, ← Int32.toInt_inj, e0, e1, e2]
  omega
def EL0 : List (String × Nat) := [("java/lang/String", 7), ("com/example/tight_calculus/tightcalculus/Component", 69), ("com/example/tight_calculus/tightcalculus/Component", 71)]
def Glob (Z : State) (a0 : Array Value) (iCS : Int32) (vSI : Value) : Prop := (∀ d ∈ tables_1, d.before a0 Z = true) ∧ EW Z a0 EL0 ∧ (∀ a ∈ Bundle.stringAtoms, a.before a0 Z = true) ∧ (Sta Z Z.heap "java/lang/String" "COMPACT_STRINGS" "Z" (.int iCS)) ∧ (¬ iCS = 0) ∧ (Sta Z Z.heap "jdk/internal/util/Preconditions" "SIOOBE_FORMATTER" "Ljava/util/function/BiFunction;" vSI) ∧ (vSI.isRef = true)
section OwnGlob
variable {Z : State} {a0 : Array Value} {iCS : Int32} {vSI : Value}
theorem wd (G : Glob Z a0 iCS vSI) (k : Nat) {d : Jvm.Cond} (h : tables_1[k]? = some d) : d.before a0 Z = true := G.1 d (List.mem_of_getElem? h)
theorem gEL (G : Glob Z a0 iCS vSI) : EW Z a0 EL0 := G.2.1
theorem gSA (G : Glob Z a0 iCS vSI) : ∀ a ∈ Bundle.stringAtoms, a.before a0 Z = true := G.2.2.1
theorem S_CS (G : Glob Z a0 iCS vSI) : Sta Z Z.heap "java/lang/String" "COMPACT_STRINGS" "Z" (.int iCS) := G.2.2.2.1
theorem n_CS (G : Glob Z a0 iCS vSI) : ¬ iCS = 0 := G.2.2.2.2.1
theorem S_SI (G : Glob Z a0 iCS vSI) : Sta Z Z.heap "jdk/internal/util/Preconditions" "SIOOBE_FORMATTER" "Ljava/util/function/BiFunction;" vSI := G.2.2.2.2.2.1
theorem r_SI (G : Glob Z a0 iCS vSI) : vSI.isRef = true := G.2.2.2.2.2.2
end OwnGlob
section OwnC
variable {l : Launch} {Z : State} {a0 : Array Value} {n0 : Nat} {iCS : Int32} {vSI : Value}
theorem pn_java_lang_String : plainName "java/lang/String" = true := by first | (simp [plainName, overriddenIn]; done) | decide +kernel
theorem d0_0 : decode jdk_42_method_3_code 0 = .ok (.aload_n 0, 1) := by decide +kernel
theorem d0_1 : decode jdk_42_method_3_code 1 = .ok (.aload_n 1, 1) := by decide +kernel
theorem d0_2 : decode jdk_42_method_3_code 2 = .ok (.iconst 0, 1) := by decide +kernel
theorem d0_3 : decode jdk_42_method_3_code 3 = .ok (.aload_n 1, 1) := by decide +kernel
theorem d0_4 : decode jdk_42_method_3_code 4 = .ok (.arraylength, 1) := by decide +kernel
theorem d0_5 : decode jdk_42_method_3_code 5 = .ok (.aconst_null, 1) := by decide +kernel
theorem d0_6 : decode jdk_42_method_3_code 6 = .ok (.invokespecial 27, 3) := by decide +kernel
theorem d1_0 : decode jdk_42_method_149_code 0 = .ok (.aload_n 0, 1) := by decide +kernel
theorem d1_1 : decode jdk_42_method_149_code 1 = .ok (.invokespecial 1, 3) := by decide +kernel
theorem d1_4 : decode jdk_42_method_149_code 4 = .ok (.iload_n 3, 1) := by decide +kernel
theorem d1_5 : decode jdk_42_method_149_code 5 = .ok (.ifCond .ne 22, 3) := by decide +kernel
theorem d1_8 : decode jdk_42_method_149_code 8 = .ok (.aload_n 0, 1) := by decide +kernel
theorem d1_9 : decode jdk_42_method_149_code 9 = .ok (.ldc 7, 2) := by decide +kernel
theorem d1_11 : decode jdk_42_method_149_code 11 = .ok (.getfield 9, 3) := by decide +kernel
theorem d1_14 : decode jdk_42_method_149_code 14 = .ok (.putfield 9, 3) := by decide +kernel
theorem d1_17 : decode jdk_42_method_149_code 17 = .ok (.aload_n 0, 1) := by decide +kernel
theorem d1_18 : decode jdk_42_method_149_code 18 = .ok (.ldc 7, 2) := by decide +kernel
theorem d1_20 : decode jdk_42_method_149_code 20 = .ok (.getfield 15, 3) := by decide +kernel
theorem d1_23 : decode jdk_42_method_149_code 23 = .ok (.putfield 15, 3) := by decide +kernel
theorem d1_26 : decode jdk_42_method_149_code 26 = .ok (.return_, 1) := by decide +kernel
def N_jdk_42_m_149 : MethodName := ⟨"java/lang/String", "<init>", "([CIILjava/lang/Void;)V"⟩
def R_rm2 : Room := { frames := 1, cells := 4, slots := 8, locals := 12 }
theorem rm2 (G : Glob Z a0 iCS vSI) (q0 q1 : Addr) (kp0 : ClassId) (h0 : Heap) (Z0 : n0 ≤ h0.size) (O0 : Old Z n0 h0) (E_q0 : Exa Z h0 q0 "java/lang/String") (A_q1 : Arv Z h0 q1 kp0 .char 0 [] (.int 0)) (F_q0_value : Fld Z h0 q0 "java/lang/String" "value" "[B" (.null)) (d_q1_q0 : q1 ≠ q0) (F_q0_coder : Fld Z h0 q0 "java/lang/String" "coder" "B" (.int 0)) (g_q0 : n0 ≤ q0) : MetH l Z EL0 n0 N_jdk_42_m_149 jdk_42_method_149_code 6 none [] R_rm2 #[.ref q0, .ref q1, .int 0, .int 0, .null] h0 [q0] (fun vs v h ve => (∃ (x0 : Addr), ∃ (z0 : ClassId), v = none ∧ (Keep h0 h [q0]) ∧ (∀ x, x < h0.size → Safe Z EL0 vs h0 x → x ≠ x0) ∧ (Arv Z h x0 z0 .byte 0 [] (.int 0)) ∧ (Fld Z h q0 "java/lang/String" "coder" "B" (.int 0)) ∧ (Fld Z h q0 "java/lang/String" "value" "[B" (.ref x0)))) := by
  refine MetH.of #[.val (.ref q0), .val (.ref q1), .val (.int 0), .val (.int 0), .val .null, .unset] (plainFor_of_name pn_java_lang_String) rfl Z0 (fun p e s m below meth c T0 hret hml hnm hSL hs0 X0 => ?_)
  have S_q0 := hSL q0 (List.mem_of_getElem? (i := 0) rfl)
  refine kALn X0 d1_0 rfl rfl ?_
  refine kINIT X0 (wd G 11 rfl) (wd G 12 rfl) (wd G 13 rfl) hml.symm d1_1 (by decide) 0 (Nat.le_of_eq rfl) (by decide) (fun T1 X2 => ?_)
  refine kILn X2 d1_4 rfl ?_
  refine kIFf X2 d1_5 (XT.i0_ne_f (by decide)) ?_
  refine kALn X2 d1_8 rfl rfl ?_
  refine kLDCT X2 (gEL G) (wd G 171 rfl) (gSA G) (by decide) (text := "") (vs := []) (z := 0) (by decide) (by decide) (by decide) d1_9 (n := 0) (by decide) (by decide) (by decide) (by decide) (fun T3 h4 vm6 a7 b8 k9 E10 C11 f12 f13 f14 f15 n16 X5 => ?_)
  have f17 := (CHr.safe C11 (E_q0.lt) S_q0)
  have n18 := (n16 q0 f17).1
  have n19 := (n16 q0 f17).2
  have f20 := (Arv.ext A_q1 E10)
  have n21 := (n16 q1 (Safe.arv X5.hZ.alike f20 (by decide))).1
  have n22 := (n16 q1 (Safe.arv X5.hZ.alike f20 (by decide))).2
  have n23 : ∀ x, x < h0.size → Safe Z EL0 s.vm h0 x → x ≠ b8 := fun x hx S => (n16 x (CHr.safe (hs0 ▸ X5.C) hx S)).2
  refine kGETF X5 (wd G 28 rfl) Via.refl f14 d1_11 (fun T24 X25 => ?_)
  have f26 := (Fld.ext E10 F_q0_value)
  have f27 := (Exa.ext E10 E_q0)
  refine kPUTF X25 (wd G 28 rfl) Via.refl f26 f27 (Or.inr ⟨(wd G 29 rfl), rfl, hnm⟩) (wd G 2 rfl) (ty := (.array (.byte))) (by decide) rfl rfl g_q0 f17 d1_14 (fun T28 h29 L32 W31 X30 => ?_)
  have f33 := Fld.same W31 f26
  refine kALn X30 d1_17 rfl rfl ?_
  refine kLDCT X30 (gEL G) (wd G 171 rfl) (gSA G) (by decide) (text := "") (vs := []) (z := 0) (by decide) (by decide) (by decide) d1_18 (n := 0) (by decide) (by decide) (by decide) (by decide) (fun T34 h35 vm37 a38 b39 k40 E41 C42 f43 f44 f45 f46 n47 X36 => ?_)
  have f48 := (CHr.safe C42 (f33.lt) (Safe.wr W31 f17 X25.C.1 f17))
  have n49 := (n47 q0 f48).1
  have n50 := (n47 q0 f48).2
  have f51 := (Arv.ext (Arv.other f20 W31 d_q1_q0) E41)
  have n52 := (n47 q1 (Safe.arv X36.hZ.alike f51 (by decide))).1
  have n53 := (n47 q1 (Safe.arv X36.hZ.alike f51 (by decide))).2
  have n54 : ∀ x, x < h0.size → Safe Z EL0 s.vm h0 x → x ≠ b39 := fun x hx S => (n47 x (CHr.safe (hs0 ▸ X36.C) hx S)).2
  refine kGETF X36 (wd G 26 rfl) Via.refl f44 d1_20 (fun T55 X56 => ?_)
  have f57 := (Fld.ext E41 (Fld.other W31 (Fld.ext E10 F_q0_coder) (Or.inr (slot_ne (Or.inr (wd G 27 rfl)) (Or.inr (wd G 29 rfl)) (by decide) (by decide : parseFieldDescriptor "B" = some .byte) (by decide : parseFieldDescriptor "[B" = some (.array (.byte)))))))
  have f58 := (Exa.ext E41 (Exa.wr W31 f27))
  refine kPUTF X56 (wd G 26 rfl) Via.refl f57 f58 (Or.inr ⟨(wd G 27 rfl), rfl, hnm⟩) (wd G 2 rfl) (ty := .byte) (by decide) (by decide) (by decide) g_q0 f48 d1_23 (fun T59 h60 L63 W62 X61 => ?_)
  have f64 := Fld.same W62 f57
  have K65 : Keep h0 h60 [q0] := (Keep.wr (Keep.ext (Keep.wr (Keep.ext (Keep.refl h0 [q0]) E10) W31 (Or.inl (List.mem_of_getElem? (i := 0) rfl))) E41) W62 (Or.inl (List.mem_of_getElem? (i := 0) rfl)))
  have f66 := (Arv.other (Arv.ext (Arv.other f15 W31 (Ne.symm n19)) E41) W62 (Ne.symm n19))
  have f67 := (Fld.other W62 (Fld.ext E41 f33) (Or.inr (slot_ne (Or.inr (wd G 29 rfl)) (Or.inr (wd G 27 rfl)) (by decide) (by decide : parseFieldDescriptor "[B" = some (.array (.byte))) (by decide : parseFieldDescriptor "B" = some .byte))))
  exact kRETV X61 (gEL G) hret d1_26 (fun ve hve => ⟨b8, k9, rfl, K65, n23, f66, f64, f67⟩) (by decide)
theorem pd___CIILjava_lang_Void__V : parseMethodDescriptor "([CIILjava/lang/Void;)V" = some ⟨[.array (.char), .int, .int, .object "java/lang/Void"], none⟩ := by decide +kernel
theorem d0_9 : decode jdk_42_method_3_code 9 = .ok (.return_, 1) := by decide +kernel
def N_jdk_42_m_3 : MethodName := ⟨"java/lang/String", "<init>", "([C)V"⟩
def R_rm1 : Room := { frames := 2, cells := 4, slots := 8, locals := 29 }
theorem rm1 (G : Glob Z a0 iCS vSI) (q0 q1 : Addr) (kp0 : ClassId) (h0 : Heap) (Z0 : n0 ≤ h0.size) (O0 : Old Z n0 h0) (A_q1 : Arv Z h0 q1 kp0 .char 0 [] (.int 0)) (E_q0 : Exa Z h0 q0 "java/lang/String") (F_q0_value : Fld Z h0 q0 "java/lang/String" "value" "[B" (.null)) (d_q1_q0 : q1 ≠ q0) (F_q0_coder : Fld Z h0 q0 "java/lang/String" "coder" "B" (.int 0)) (g_q0 : n0 ≤ q0) : MetH l Z EL0 n0 N_jdk_42_m_3 jdk_42_method_3_code 2 none [] R_rm1 #[.ref q0, .ref q1] h0 [q0] (fun vs v h ve => (∃ (x0 : Addr), ∃ (z0 : ClassId), v = none ∧ (Keep h0 h [q0]) ∧ (∀ x, x < h0.size → Safe Z EL0 vs h0 x → x ≠ x0) ∧ (Arv Z h x0 z0 .byte 0 [] (.int 0)) ∧ (Fld Z h q0 "java/lang/String" "coder" "B" (.int 0)) ∧ (Fld Z h q0 "java/lang/String" "value" "[B" (.ref x0)))) := by
  refine MetH.of #[.val (.ref q0), .val (.ref q1)] (plainFor_of_name pn_java_lang_String) rfl Z0 (fun p e s m below meth c T0 hret hml hnm hSL hs0 X0 => ?_)
  have S_q0 := hSL q0 (List.mem_of_getElem? (i := 0) rfl)
  refine kALn X0 d0_0 rfl rfl ?_
  refine kALn X0 d0_1 rfl rfl ?_
  refine kIC X0 0 d0_2 (by decide) ?_
  refine kALn X0 d0_3 rfl rfl ?_
  refine kLEN X0 A_q1 d0_4 ?_
  refine kNULL X0 d0_5 ?_
  refine kSPEC X0 (gEL G) (argsL := [.ref q1, .int 0, .int 0, .null]) (rest := []) (wd G 7 rfl) (wd G 8 rfl) (wd G 3 rfl) (wd G 10 rfl) rfl (by decide) (rm2 G q0 q1 kp0 h0 X0.n O0 E_q0 A_q1 F_q0_value d_q1_q0 F_q0_coder g_q0) (allS ⟨(E_q0.lt), S_q0⟩ all0) (lenOf pd___CIILjava_lang_Void__V rfl) rfl 0 rfl (by decide) hml.symm d0_6 (fun v1 T2 h3 vm4 _ w5 q6 C7 C8 X9 => ?_)
  obtain ⟨a11, k12, e13, f14, f15, f16, f17, f18⟩ := q6
  subst e13
  have n19 : q0 ≠ a11 := f15 q0 (E_q0.lt) (CHr.safe C7 (E_q0.lt) S_q0)
  have n20 : q1 ≠ a11 := f15 q1 (A_q1.lt) (CHr.safe C7 (A_q1.lt) (Safe.arv X0.hZ.alike A_q1 (by decide)))
  have n21 : ∀ x, x < h0.size → Safe Z EL0 s.vm h0 x → x ≠ a11 := fun x hx S => f15 x (Nat.lt_of_lt_of_le hx X0.g0) (CHr.safe C7 (Nat.lt_of_lt_of_le hx X0.g0) (CHr.safe (hs0 ▸ X0.C) hx S))
  show Go _ _ _ _ _ (mkF _ _ _ [])
  have K22 : Keep h0 h3 [q0] := (Keep.trans (Keep.refl h0 [q0]) f14 (allS (Or.inl (List.mem_of_getElem? (i := 0) rfl)) all0))
  exact kRETV X9 (gEL G) hret d0_9 (fun ve hve => ⟨a11, k12, rfl, K22, n21, f16, f17, f18⟩) (by decide)
theorem pn_java_lang_AbstractStringBuilder : plainName "java/lang/AbstractStringBuilder" = true := by first | (simp [plainName, overriddenIn]; done) | decide +kernel
theorem pd___C_V : parseMethodDescriptor "([C)V" = some ⟨[.array (.char)], none⟩ := by decide +kernel
theorem d6_0 : decode prog_3_method_8_code 0 = .ok (.new 62, 3) := by decide +kernel
theorem d6_3 : decode prog_3_method_8_code 3 = .ok (.dup, 1) := by decide +kernel
theorem d6_4 : decode prog_3_method_8_code 4 = .ok (.invokespecial 64, 3) := by decide +kernel
theorem d7_0 : decode jdk_67_method_1_code 0 = .ok (.aload_n 0, 1) := by decide +kernel
theorem d7_1 : decode jdk_67_method_1_code 1 = .ok (.bipush 16, 2) := by decide +kernel
theorem d7_3 : decode jdk_67_method_1_code 3 = .ok (.invokespecial 1, 3) := by decide +kernel
theorem d8_0 : decode jdk_68_method_2_code 0 = .ok (.aload_n 0, 1) := by decide +kernel
theorem d8_1 : decode jdk_68_method_2_code 1 = .ok (.invokespecial 3, 3) := by decide +kernel
theorem d8_4 : decode jdk_68_method_2_code 4 = .ok (.getstatic 18, 3) := by decide +kernel
theorem d8_7 : decode jdk_68_method_2_code 7 = .ok (.ifCond .eq 18, 3) := by decide +kernel
theorem d8_10 : decode jdk_68_method_2_code 10 = .ok (.aload_n 0, 1) := by decide +kernel
theorem d8_11 : decode jdk_68_method_2_code 11 = .ok (.iload_n 1, 1) := by decide +kernel
theorem d8_12 : decode jdk_68_method_2_code 12 = .ok (.newarray .byte, 2) := by decide +kernel
theorem d8_14 : decode jdk_68_method_2_code 14 = .ok (.putfield 15, 3) := by decide +kernel
theorem d8_17 : decode jdk_68_method_2_code 17 = .ok (.aload_n 0, 1) := by decide +kernel
theorem d8_18 : decode jdk_68_method_2_code 18 = .ok (.iconst 0, 1) := by decide +kernel
theorem d8_19 : decode jdk_68_method_2_code 19 = .ok (.putfield 22, 3) := by decide +kernel
theorem d8_22 : decode jdk_68_method_2_code 22 = .ok (.goto 16, 3) := by decide +kernel
theorem d8_38 : decode jdk_68_method_2_code 38 = .ok (.return_, 1) := by decide +kernel
def N_jdk_68_m_2 : MethodName := ⟨"java/lang/AbstractStringBuilder", "<init>", "(I)V"⟩
def R_rm5 : Room := { frames := 1, cells := 1, slots := 16, locals := 12 }
theorem rm5 (G : Glob Z a0 iCS vSI) (q0 : Addr) (h0 : Heap) (Z0 : n0 ≤ h0.size) (O0 : Old Z n0 h0) (E_q0 : Exa Z h0 q0 "java/lang/StringBuilder") (F_q0_value : Fld Z h0 q0 "java/lang/AbstractStringBuilder" "value" "[B" (.null)) (F_q0_coder : Fld Z h0 q0 "java/lang/AbstractStringBuilder" "coder" "B" (.int 0)) (F_q0_count : Fld Z h0 q0 "java/lang/AbstractStringBuilder" "count" "I" (.int 0)) (g_q0 : n0 ≤ q0) : MetH l Z EL0 n0 N_jdk_68_m_2 jdk_68_method_2_code 2 none [] R_rm5 #[.ref q0, .int 16] h0 [] (fun vs v h ve => (∃ (x0 : Addr), ∃ (z0 : ClassId), v = none ∧ (Keep h0 h [q0]) ∧ (h0.size ≤ x0) ∧ (Arv Z h x0 z0 .byte 16 [.int 0, .int 0, .int 0, .int 0, .int 0, .int 0, .int 0, .int 0, .int 0, .int 0, .int 0, .int 0, .int 0, .int 0, .int 0, .int 0] (.int 0)) ∧ (Safe Z EL0 ve h x0) ∧ (Fld Z h q0 "java/lang/AbstractStringBuilder" "coder" "B" (.int 0)) ∧ (Fld Z h q0 "java/lang/AbstractStringBuilder" "count" "I" (.int 0)) ∧ (Fld Z h q0 "java/lang/AbstractStringBuilder" "value" "[B" (.ref x0)))) := by
  refine MetH.of #[.val (.ref q0), .val (.int 16)] (plainFor_of_name pn_java_lang_AbstractStringBuilder) rfl Z0 (fun p e s m below meth c T0 hret hml hnm hSL hs0 X0 => ?_)
  refine kALn X0 d8_0 rfl rfl ?_
  refine kINIT X0 (wd G 46 rfl) (wd G 12 rfl) (wd G 13 rfl) hml.symm d8_1 (by decide) 0 (Nat.le_of_eq rfl) (by decide) (fun T1 X2 => ?_)
  refine kGETS X2 (wd G 47 rfl) Via.refl (Sta.ext O0.2 (S_CS G)) d8_4 (fun T3 X4 => ?_)
  refine kIFf X4 d8_7 (XT.i0_eq_f (n_CS G)) ?_
  refine kALn X4 d8_10 rfl rfl ?_
  refine kILn X4 d8_11 rfl ?_
  refine kNEWP X4 (wd G 19 rfl) (cap := 16) d8_12 (by decide) (by decide) (by decide) (by decide) (by decide) (fun T5 h6 a8 k9 E10 q11 g12 A13 s14 X7 => ?_)
  have n15 : q0 ≠ a8 := Nat.ne_of_lt (Nat.lt_of_lt_of_le (E_q0.lt) (Nat.le_of_eq q11.symm))
  have g16 : h0.size ≤ a8 := q11 ▸ X4.g0
  have f17 : Arv Z h6 a8 k9 .byte 16 [.int 0, .int 0, .int 0, .int 0, .int 0, .int 0, .int 0, .int 0, .int 0, .int 0, .int 0, .int 0, .int 0, .int 0, .int 0, .int 0] (.int 0) := A13.pad (pad_rep [] _ 16)
  have f18 := (Fld.ext E10 F_q0_value)
  have f19 := (Exa.ext E10 E_q0)
  refine kPUTF X7 (wd G 48 rfl) Via.refl f18 f19 (Or.inl (wd G 49 rfl)) (wd G 35 rfl) (ty := (.array (.byte))) (by decide) rfl rfl g_q0 (Safe.exa X7.hZ.alike f19 (by decide) (by decide)) d8_14 (fun T20 h21 L24 W23 X22 => ?_)
  have f25 := Fld.same W23 f18
  refine kALn X22 d8_17 rfl rfl ?_
  refine kIC X22 0 d8_18 (by decide) ?_
  have f26 := (Fld.other W23 (Fld.ext E10 F_q0_coder) (Or.inr (slot_ne (Or.inl (wd G 51 rfl)) (Or.inl (wd G 49 rfl)) (by decide) (by decide : parseFieldDescriptor "B" = some .byte) (by decide : parseFieldDescriptor "[B" = some (.array (.byte))))))
  have f27 := (Exa.wr W23 f19)
  refine kPUTF X22 (wd G 50 rfl) Via.refl f26 f27 (Or.inl (wd G 51 rfl)) (wd G 35 rfl) (ty := .byte) (by decide) (by decide) (by decide) g_q0 (Safe.exa X22.hZ.alike f27 (by decide) (by decide)) d8_19 (fun T28 h29 L32 W31 X30 => ?_)
  have f33 := Fld.same W31 f26
  refine kGOTO X30 38 d8_22 (by decide) ?_
  have K34 : Keep h0 h29 [q0] := (Keep.wr (Keep.wr (Keep.ext (Keep.refl h0 [q0]) E10) W23 (Or.inl (List.mem_of_getElem? (i := 0) rfl))) W31 (Or.inl (List.mem_of_getElem? (i := 0) rfl)))
  have f35 := (Arv.other (Arv.other f17 W23 (Ne.symm n15)) W31 (Ne.symm n15))
  have f36 := (Safe.wr W31 (Safe.exa X22.hZ.alike f27 (by decide) (by decide)) X22.C.1 (Safe.wr W23 (Safe.exa X7.hZ.alike f19 (by decide) (by decide)) X7.C.1 s14))
  have f37 := (Fld.other W31 (Fld.other W23 (Fld.ext E10 F_q0_count) (Or.inr (slot_ne (Or.inl (wd G 73 rfl)) (Or.inl (wd G 49 rfl)) (by decide) (by decide : parseFieldDescriptor "I" = some .int) (by decide : parseFieldDescriptor "[B" = some (.array (.byte)))))) (Or.inr (slot_ne (Or.inl (wd G 73 rfl)) (Or.inl (wd G 51 rfl)) (by decide) (by decide : parseFieldDescriptor "I" = some .int) (by decide : parseFieldDescriptor "B" = some .byte))))
  have f38 := (Fld.other W31 f25 (Or.inr (slot_ne (Or.inl (wd G 49 rfl)) (Or.inl (wd G 51 rfl)) (by decide) (by decide : parseFieldDescriptor "[B" = some (.array (.byte))) (by decide : parseFieldDescriptor "B" = some .byte))))
  exact kRETV X30 (gEL G) hret d8_38 (fun ve hve => ⟨a8, k9, rfl, K34, g16, f35, (CHr.safe hve (f35.lt) f36), f33, f37, f38⟩) (by decide)
theorem pn_java_lang_StringBuilder : plainName "java/lang/StringBuilder" = true := by first | (simp [plainName, overriddenIn]; done) | decide +kernel
theorem pd__I_V : parseMethodDescriptor "(I)V" = some ⟨[.int], none⟩ := by decide +kernel
theorem d7_6 : decode jdk_67_method_1_code 6 = .ok (.return_, 1) := by decide +kernel
def N_jdk_67_m_1 : MethodName := ⟨"java/lang/StringBuilder", "<init>", "()V"⟩
def R_rm4 : Room := { frames := 2, cells := 1, slots := 16, locals := 25 }
theorem rm4 (G : Glob Z a0 iCS vSI) (q0 : Addr) (h0 : Heap) (Z0 : n0 ≤ h0.size) (O0 : Old Z n0 h0) (E_q0 : Exa Z h0 q0 "java/lang/StringBuilder") (F_q0_value : Fld Z h0 q0 "java/lang/AbstractStringBuilder" "value" "[B" (.null)) (F_q0_coder : Fld Z h0 q0 "java/lang/AbstractStringBuilder" "coder" "B" (.int 0)) (F_q0_count : Fld Z h0 q0 "java/lang/AbstractStringBuilder" "count" "I" (.int 0)) (g_q0 : n0 ≤ q0) : MetH l Z EL0 n0 N_jdk_67_m_1 jdk_67_method_1_code 1 none [] R_rm4 #[.ref q0] h0 [] (fun vs v h ve => (∃ (x0 : Addr), ∃ (z0 : ClassId), v = none ∧ (Keep h0 h [q0]) ∧ (h0.size ≤ x0) ∧ (Arv Z h x0 z0 .byte 16 [.int 0, .int 0, .int 0, .int 0, .int 0, .int 0, .int 0, .int 0, .int 0, .int 0, .int 0, .int 0, .int 0, .int 0, .int 0, .int 0] (.int 0)) ∧ (Safe Z EL0 ve h x0) ∧ (Fld Z h q0 "java/lang/AbstractStringBuilder" "coder" "B" (.int 0)) ∧ (Fld Z h q0 "java/lang/AbstractStringBuilder" "count" "I" (.int 0)) ∧ (Fld Z h q0 "java/lang/AbstractStringBuilder" "value" "[B" (.ref x0)))) := by
  refine MetH.of #[.val (.ref q0)] (plainFor_of_name pn_java_lang_StringBuilder) rfl Z0 (fun p e s m below meth c T0 hret hml hnm hSL hs0 X0 => ?_)
  refine kALn X0 d7_0 rfl rfl ?_
  refine kBI X0 16 d7_1 (by decide) ?_
  refine kSPEC X0 (gEL G) (argsL := [.int 16]) (rest := []) (wd G 40 rfl) (wd G 41 rfl) (wd G 44 rfl) (wd G 45 rfl) rfl (by decide) (rm5 G q0 h0 X0.n O0 E_q0 F_q0_value F_q0_coder F_q0_count g_q0) all0 (lenOf pd__I_V rfl) rfl 0 rfl (by decide) hml.symm d7_3 (fun v1 T2 h3 vm4 _ w5 q6 C7 C8 X9 => ?_)
  obtain ⟨a11, k12, e13, f14, f15, f16, f17, f18, f19, f20⟩ := q6
  subst e13
  have n21 : q0 ≠ a11 := Nat.ne_of_lt (Nat.lt_of_lt_of_le (E_q0.lt) f15)
  have g22 : n0 ≤ a11 := Nat.le_trans X0.n f15
  have g23 : h0.size ≤ a11 := Nat.le_trans X0.g0 f15
  show Go _ _ _ _ _ (mkF _ _ _ [])
  have K24 : Keep h0 h3 [q0] := (Keep.trans (Keep.refl h0 [q0]) f14 (allS (Or.inl (List.mem_of_getElem? (i := 0) rfl)) all0))
  exact kRETV X9 (gEL G) hret d7_6 (fun ve hve => ⟨a11, k12, rfl, K24, g23, f16, (CHr.safe hve (f16.lt) f17), f18, f19, f20⟩) (by decide)
theorem pd___V : parseMethodDescriptor "()V" = some ⟨[], none⟩ := by decide +kernel
theorem d6_7 : decode prog_3_method_8_code 7 = .ok (.aload_n 0, 1) := by decide +kernel
theorem d6_8 : decode prog_3_method_8_code 8 = .ok (.invokevirtual 65, 3) := by decide +kernel
theorem d9_0 : decode jdk_67_method_7_code 0 = .ok (.aload_n 0, 1) := by decide +kernel
theorem d9_1 : decode jdk_67_method_7_code 1 = .ok (.aload_n 1, 1) := by decide +kernel
theorem d9_2 : decode jdk_67_method_7_code 2 = .ok (.invokespecial 29, 3) := by decide +kernel
theorem d10_0 : decode jdk_68_method_22_code 0 = .ok (.aload_n 1, 1) := by decide +kernel
theorem d10_1 : decode jdk_68_method_22_code 1 = .ok (.ifnonnull 8, 3) := by decide +kernel
theorem d10_9 : decode jdk_68_method_22_code 9 = .ok (.aload_n 1, 1) := by decide +kernel
theorem d10_10 : decode jdk_68_method_22_code 10 = .ok (.invokevirtual 32, 3) := by decide +kernel
theorem d11_0 : decode jdk_42_method_54_code 0 = .ok (.aload_n 0, 1) := by decide +kernel
theorem d11_1 : decode jdk_42_method_54_code 1 = .ok (.getfield 9, 3) := by decide +kernel
theorem d11_4 : decode jdk_42_method_54_code 4 = .ok (.arraylength, 1) := by decide +kernel
theorem d11_5 : decode jdk_42_method_54_code 5 = .ok (.aload_n 0, 1) := by decide +kernel
theorem d11_6 : decode jdk_42_method_54_code 6 = .ok (.invokevirtual 335, 3) := by decide +kernel
theorem d12_0 : decode jdk_42_method_152_code 0 = .ok (.getstatic 38, 3) := by decide +kernel
theorem d12_3 : decode jdk_42_method_152_code 3 = .ok (.ifCond .eq 10, 3) := by decide +kernel
theorem d12_6 : decode jdk_42_method_152_code 6 = .ok (.aload_n 0, 1) := by decide +kernel
theorem d12_7 : decode jdk_42_method_152_code 7 = .ok (.getfield 15, 3) := by decide +kernel
theorem d12_10 : decode jdk_42_method_152_code 10 = .ok (.goto 4, 3) := by decide +kernel
theorem d12_14 : decode jdk_42_method_152_code 14 = .ok (.ireturn, 1) := by decide +kernel
def N_jdk_42_m_152 : MethodName := ⟨"java/lang/String", "coder", "()B"⟩
def R_rm9 : Room := { frames := 0, cells := 0, slots := 0, locals := 0 }
theorem rm9 (G : Glob Z a0 iCS vSI) (q0 q1 : Addr) (kp0 : ClassId) (h0 : Heap) (Z0 : n0 ≤ h0.size) (O0 : Old Z n0 h0) (F_q0_coder : Fld Z h0 q0 "java/lang/String" "coder" "B" (.int 0)) : MetH l Z EL0 n0 N_jdk_42_m_152 jdk_42_method_152_code 1 (some .byte) [] R_rm9 #[.ref q0] h0 [] (fun vs v h ve => (v = some (.int 0) ∧ (h0 = h))) := by
  refine MetH.of #[.val (.ref q0)] (plainFor_of_name pn_java_lang_String) rfl Z0 (fun p e s m below meth c T0 hret hml hnm hSL hs0 X0 => ?_)
  refine kGETS X0 (wd G 14 rfl) Via.refl (Sta.ext O0.2 (S_CS G)) d12_0 (fun T1 X2 => ?_)
  refine kIFf X2 d12_3 (XT.i0_eq_f (n_CS G)) ?_
  refine kALn X2 d12_6 rfl rfl ?_
  refine kGETF X2 (wd G 26 rfl) Via.refl F_q0_coder d12_7 (fun T3 X4 => ?_)
  refine kGOTO X4 14 d12_10 (by decide) ?_
  exact kRETZ X4 (gEL G) (t := .byte) hret (by simp) d12_14 (fun ve hve => ⟨rfl, rfl⟩) (by decide)
theorem pd___B : parseMethodDescriptor "()B" = some ⟨[], some .byte⟩ := by decide +kernel
theorem d11_9 : decode jdk_42_method_54_code 9 = .ok (.ishr, 1) := by decide +kernel
theorem d11_10 : decode jdk_42_method_54_code 10 = .ok (.ireturn, 1) := by decide +kernel
def N_jdk_42_m_54 : MethodName := ⟨"java/lang/String", "length", "()I"⟩
def R_rm8 : Room := { frames := 1, cells := 0, slots := 0, locals := 13 }
theorem rm8 (G : Glob Z a0 iCS vSI) (q0 q1 : Addr) (kp0 : ClassId) (h0 : Heap) (Z0 : n0 ≤ h0.size) (O0 : Old Z n0 h0) (F_q0_value : Fld Z h0 q0 "java/lang/String" "value" "[B" (.ref q1)) (A_q1 : Arv Z h0 q1 kp0 .byte 0 [] (.int 0)) (F_q0_coder : Fld Z h0 q0 "java/lang/String" "coder" "B" (.int 0)) (E_q0 : Exa Z h0 q0 "java/lang/String") : MetH l Z EL0 n0 N_jdk_42_m_54 jdk_42_method_54_code 1 (some .int) [] R_rm8 #[.ref q0] h0 [] (fun vs v h ve => (v = some (.int 0) ∧ (h0 = h))) := by
  refine MetH.of #[.val (.ref q0)] (plainFor_of_name pn_java_lang_String) rfl Z0 (fun p e s m below meth c T0 hret hml hnm hSL hs0 X0 => ?_)
  refine kALn X0 d11_0 rfl rfl ?_
  refine kGETF X0 (wd G 28 rfl) Via.refl F_q0_value d11_1 (fun T1 X2 => ?_)
  refine kLEN X2 A_q1 d11_4 ?_
  refine kALn X2 d11_5 rfl rfl ?_
  refine kVIRT X2 (gEL G) (argsL := []) (rest := [.int 0]) (wd G 67 rfl) (wd G 68 rfl) (own_nf X2.hZ (own_noinst (wd G 2 rfl))) (wd G 70 rfl) (wd G 69 rfl) (wd G 3 rfl) (wd G 71 rfl) (by decide) E_q0 (rm9 G q0 q1 kp0 h0 X2.n O0 F_q0_coder) all0 (lenOf pd___B rfl) rfl 1 rfl (by decide) hml.symm d11_6 (fun v3 T4 h5 vm6 _ w7 q8 C9 C10 X11 => ?_)
  obtain ⟨e13, f14⟩ := q8
  subst e13
  subst f14
  show Go _ _ _ _ _ (mkF _ _ _ [.int 0, .int 0])
  refine kISHR X11 0 d11_9 (by decide) ?_
  exact kRETI X11 (gEL G) hret d11_10 (fun ve hve => ⟨rfl, rfl⟩) (by decide)
theorem pd___I : parseMethodDescriptor "()I" = some ⟨[], some .int⟩ := by decide +kernel
theorem d10_13 : decode jdk_68_method_22_code 13 = .ok (.istore_n 2, 1) := by decide +kernel
theorem d10_14 : decode jdk_68_method_22_code 14 = .ok (.aload_n 0, 1) := by decide +kernel
theorem d10_15 : decode jdk_68_method_22_code 15 = .ok (.aload_n 0, 1) := by decide +kernel
theorem d10_16 : decode jdk_68_method_22_code 16 = .ok (.getfield 79, 3) := by decide +kernel
theorem d10_19 : decode jdk_68_method_22_code 19 = .ok (.iload_n 2, 1) := by decide +kernel
theorem d10_20 : decode jdk_68_method_22_code 20 = .ok (.iadd, 1) := by decide +kernel
theorem d10_21 : decode jdk_68_method_22_code 21 = .ok (.invokevirtual 100, 3) := by decide +kernel
theorem d13_0 : decode jdk_68_method_9_code 0 = .ok (.aload_n 0, 1) := by decide +kernel
theorem d13_1 : decode jdk_68_method_9_code 1 = .ok (.getfield 15, 3) := by decide +kernel
theorem d13_4 : decode jdk_68_method_9_code 4 = .ok (.arraylength, 1) := by decide +kernel
theorem d13_5 : decode jdk_68_method_9_code 5 = .ok (.aload_n 0, 1) := by decide +kernel
theorem d13_6 : decode jdk_68_method_9_code 6 = .ok (.getfield 22, 3) := by decide +kernel
theorem d13_9 : decode jdk_68_method_9_code 9 = .ok (.ishr, 1) := by decide +kernel
theorem d13_10 : decode jdk_68_method_9_code 10 = .ok (.istore_n 2, 1) := by decide +kernel
theorem d13_11 : decode jdk_68_method_9_code 11 = .ok (.iload_n 1, 1) := by decide +kernel
theorem d13_12 : decode jdk_68_method_9_code 12 = .ok (.iload_n 2, 1) := by decide +kernel
theorem d13_13 : decode jdk_68_method_9_code 13 = .ok (.isub, 1) := by decide +kernel
theorem d13_14 : decode jdk_68_method_9_code 14 = .ok (.ifCond .le 24, 3) := by decide +kernel
theorem d13_38 : decode jdk_68_method_9_code 38 = .ok (.return_, 1) := by decide +kernel
def N_jdk_68_m_9 : MethodName := ⟨"java/lang/AbstractStringBuilder", "ensureCapacityInternal", "(I)V"⟩
def R_rm10 : Room := { frames := 0, cells := 0, slots := 0, locals := 0 }
theorem rm10 (G : Glob Z a0 iCS vSI) (q0 q1 : Addr) (kp0 : ClassId) (h0 : Heap) (Z0 : n0 ≤ h0.size) (O0 : Old Z n0 h0) (F_q0_value : Fld Z h0 q0 "java/lang/AbstractStringBuilder" "value" "[B" (.ref q1)) (A_q1 : Arv Z h0 q1 kp0 .byte 16 [.int 0, .int 0, .int 0, .int 0, .int 0, .int 0, .int 0, .int 0, .int 0, .int 0, .int 0, .int 0, .int 0, .int 0, .int 0, .int 0] (.int 0)) (F_q0_coder : Fld Z h0 q0 "java/lang/AbstractStringBuilder" "coder" "B" (.int 0)) : MetH l Z EL0 n0 N_jdk_68_m_9 jdk_68_method_9_code 3 none [] R_rm10 #[.ref q0, .int 0] h0 [] (fun vs v h ve => (v = none ∧ (h0 = h))) := by
  refine MetH.of #[.val (.ref q0), .val (.int 0), .unset] (plainFor_of_name pn_java_lang_AbstractStringBuilder) rfl Z0 (fun p e s m below meth c T0 hret hml hnm hSL hs0 X0 => ?_)
  refine kALn X0 d13_0 rfl rfl ?_
  refine kGETF X0 (wd G 48 rfl) Via.refl F_q0_value d13_1 (fun T1 X2 => ?_)
  refine kLEN X2 A_q1 d13_4 ?_
  refine kALn X2 d13_5 rfl rfl ?_
  refine kGETF X2 (wd G 50 rfl) Via.refl F_q0_coder d13_6 (fun T3 X4 => ?_)
  refine kISHR X4 16 d13_9 (by decide) ?_
  refine kISn X4 #[.val (.ref q0), .val (.int 0), .val (.int 16)] d13_10 rfl ?_
  refine kILn X4 d13_11 rfl ?_
  refine kILn X4 d13_12 rfl ?_
  refine kISUB X4 (-16) d13_13 (by decide) ?_
  refine kIFt X4 38 d13_14 (XT.i0_le_t (by decide)) (by decide) ?_
  exact kRETV X4 (gEL G) hret d13_38 (fun ve hve => ⟨rfl, rfl⟩) (by decide)
theorem d10_24 : decode jdk_68_method_22_code 24 = .ok (.aload_n 0, 1) := by decide +kernel
theorem d10_25 : decode jdk_68_method_22_code 25 = .ok (.aload_n 0, 1) := by decide +kernel
theorem d10_26 : decode jdk_68_method_22_code 26 = .ok (.getfield 79, 3) := by decide +kernel
theorem d10_29 : decode jdk_68_method_22_code 29 = .ok (.aload_n 1, 1) := by decide +kernel
theorem d10_30 : decode jdk_68_method_22_code 30 = .ok (.invokevirtual 208, 3) := by decide +kernel
theorem d14_0 : decode jdk_68_method_73_code 0 = .ok (.aload_n 0, 1) := by decide +kernel
theorem d14_1 : decode jdk_68_method_73_code 1 = .ok (.aload_n 2, 1) := by decide +kernel
theorem d14_2 : decode jdk_68_method_73_code 2 = .ok (.invokevirtual 397, 3) := by decide +kernel
theorem d15_0 : decode jdk_68_method_71_code 0 = .ok (.getstatic 18, 3) := by decide +kernel
theorem d15_3 : decode jdk_68_method_71_code 3 = .ok (.ifCond .eq 18, 3) := by decide +kernel
theorem d15_6 : decode jdk_68_method_71_code 6 = .ok (.aload_n 0, 1) := by decide +kernel
theorem d15_7 : decode jdk_68_method_71_code 7 = .ok (.getfield 22, 3) := by decide +kernel
theorem d15_10 : decode jdk_68_method_71_code 10 = .ok (.aload_n 1, 1) := by decide +kernel
theorem d15_11 : decode jdk_68_method_71_code 11 = .ok (.invokevirtual 40, 3) := by decide +kernel
theorem d15_14 : decode jdk_68_method_71_code 14 = .ok (.if_icmp .eq 7, 3) := by decide +kernel
theorem d15_21 : decode jdk_68_method_71_code 21 = .ok (.return_, 1) := by decide +kernel
def N_jdk_68_m_71 : MethodName := ⟨"java/lang/AbstractStringBuilder", "inflateIfNeededFor", "(Ljava/lang/String;)V"⟩
def R_rm12 : Room := { frames := 1, cells := 0, slots := 0, locals := 13 }
theorem rm12 (G : Glob Z a0 iCS vSI) (q0 q1 q2 q3 : Addr) (kp0 kp1 : ClassId) (h0 : Heap) (Z0 : n0 ≤ h0.size) (O0 : Old Z n0 h0) (F_q0_coder : Fld Z h0 q0 "java/lang/AbstractStringBuilder" "coder" "B" (.int 0)) (F_q1_coder : Fld Z h0 q1 "java/lang/String" "coder" "B" (.int 0)) (E_q1 : Exa Z h0 q1 "java/lang/String") : MetH l Z EL0 n0 N_jdk_68_m_71 jdk_68_method_71_code 2 none [] R_rm12 #[.ref q0, .ref q1] h0 [] (fun vs v h ve => (v = none ∧ (h0 = h))) := by
  refine MetH.of #[.val (.ref q0), .val (.ref q1)] (plainFor_of_name pn_java_lang_AbstractStringBuilder) rfl Z0 (fun p e s m below meth c T0 hret hml hnm hSL hs0 X0 => ?_)
  refine kGETS X0 (wd G 47 rfl) Via.refl (Sta.ext O0.2 (S_CS G)) d15_0 (fun T1 X2 => ?_)
  refine kIFf X2 d15_3 (XT.i0_eq_f (n_CS G)) ?_
  refine kALn X2 d15_6 rfl rfl ?_
  refine kGETF X2 (wd G 50 rfl) Via.refl F_q0_coder d15_7 (fun T3 X4 => ?_)
  refine kALn X4 d15_10 rfl rfl ?_
  refine kVIRT X4 (gEL G) (argsL := []) (rest := [.int 0]) (wd G 89 rfl) (wd G 68 rfl) (own_nf X4.hZ (own_noinst (wd G 2 rfl))) (wd G 70 rfl) (wd G 69 rfl) (wd G 3 rfl) (wd G 71 rfl) (by decide) E_q1 (rm9 G q1 q3 kp1 h0 X4.n O0 F_q1_coder) all0 (lenOf pd___B rfl) rfl 1 rfl (by decide) hml.symm d15_11 (fun v5 T6 h7 vm8 _ w9 q10 C11 C12 X13 => ?_)
  obtain ⟨e15, f16⟩ := q10
  subst e15
  subst f16
  show Go _ _ _ _ _ (mkF _ _ _ [.int 0, .int 0])
  refine kICt X13 21 d15_14 (XT.ii_eq_t (by decide)) (by decide) ?_
  exact kRETV X13 (gEL G) hret d15_21 (fun ve hve => ⟨rfl, rfl⟩) (by decide)
theorem pd__Ljava_lang_String__V : parseMethodDescriptor "(Ljava/lang/String;)V" = some ⟨[.object "java/lang/String"], none⟩ := by decide +kernel
theorem d14_5 : decode jdk_68_method_73_code 5 = .ok (.aload_n 2, 1) := by decide +kernel
theorem d14_6 : decode jdk_68_method_73_code 6 = .ok (.aload_n 0, 1) := by decide +kernel
theorem d14_7 : decode jdk_68_method_73_code 7 = .ok (.getfield 15, 3) := by decide +kernel
theorem d14_10 : decode jdk_68_method_73_code 10 = .ok (.iload_n 1, 1) := by decide +kernel
theorem d14_11 : decode jdk_68_method_73_code 11 = .ok (.aload_n 0, 1) := by decide +kernel
theorem d14_12 : decode jdk_68_method_73_code 12 = .ok (.getfield 22, 3) := by decide +kernel
theorem d14_15 : decode jdk_68_method_73_code 15 = .ok (.invokevirtual 399, 3) := by decide +kernel
theorem d16_0 : decode jdk_42_method_147_code 0 = .ok (.aload_n 0, 1) := by decide +kernel
theorem d16_1 : decode jdk_42_method_147_code 1 = .ok (.invokevirtual 335, 3) := by decide +kernel
theorem d16_4 : decode jdk_42_method_147_code 4 = .ok (.iload_n 3, 1) := by decide +kernel
theorem d16_5 : decode jdk_42_method_147_code 5 = .ok (.if_icmp .ne 23, 3) := by decide +kernel
theorem d16_8 : decode jdk_42_method_147_code 8 = .ok (.aload_n 0, 1) := by decide +kernel
theorem d16_9 : decode jdk_42_method_147_code 9 = .ok (.getfield 9, 3) := by decide +kernel
theorem d16_12 : decode jdk_42_method_147_code 12 = .ok (.iconst 0, 1) := by decide +kernel
theorem d16_13 : decode jdk_42_method_147_code 13 = .ok (.aload_n 1, 1) := by decide +kernel
theorem d16_14 : decode jdk_42_method_147_code 14 = .ok (.iload_n 2, 1) := by decide +kernel
theorem d16_15 : decode jdk_42_method_147_code 15 = .ok (.iload_n 3, 1) := by decide +kernel
theorem d16_16 : decode jdk_42_method_147_code 16 = .ok (.ishl, 1) := by decide +kernel
theorem d16_17 : decode jdk_42_method_147_code 17 = .ok (.aload_n 0, 1) := by decide +kernel
theorem d16_18 : decode jdk_42_method_147_code 18 = .ok (.getfield 9, 3) := by decide +kernel
theorem d16_21 : decode jdk_42_method_147_code 21 = .ok (.arraylength, 1) := by decide +kernel
theorem d16_22 : decode jdk_42_method_147_code 22 = .ok (.invokestatic 212, 3) := by decide +kernel
theorem d16_25 : decode jdk_42_method_147_code 25 = .ok (.goto 18, 3) := by decide +kernel
theorem d16_43 : decode jdk_42_method_147_code 43 = .ok (.return_, 1) := by decide +kernel
def N_jdk_42_m_147 : MethodName := ⟨"java/lang/String", "getBytes", "([BIB)V"⟩
def R_rm13 : Room := { frames := 1, cells := 0, slots := 0, locals := 18 }
theorem rm13 (G : Glob Z a0 iCS vSI) (q0 q1 q2 : Addr) (kp0 kp1 : ClassId) (h0 : Heap) (Z0 : n0 ≤ h0.size) (O0 : Old Z n0 h0) (F_q0_coder : Fld Z h0 q0 "java/lang/String" "coder" "B" (.int 0)) (E_q0 : Exa Z h0 q0 "java/lang/String") (F_q0_value : Fld Z h0 q0 "java/lang/String" "value" "[B" (.ref q2)) (A_q2 : Arv Z h0 q2 kp1 .byte 0 [] (.int 0)) (A_q1 : Arv Z h0 q1 kp0 .byte 16 [.int 0, .int 0, .int 0, .int 0, .int 0, .int 0, .int 0, .int 0, .int 0, .int 0, .int 0, .int 0, .int 0, .int 0, .int 0, .int 0] (.int 0)) (g_q1 : n0 ≤ q1) : MetH l Z EL0 n0 N_jdk_42_m_147 jdk_42_method_147_code 4 none [] R_rm13 #[.ref q0, .ref q1, .int 0, .int 0] h0 [q1] (fun vs v h ve => (v = none ∧ (Keep h0 h [q1]) ∧ (Arv Z h q1 kp0 .byte 16 [.int 0, .int 0, .int 0, .int 0, .int 0, .int 0, .int 0, .int 0, .int 0, .int 0, .int 0, .int 0, .int 0, .int 0, .int 0, .int 0] (.int 0)))) := by
  refine MetH.of #[.val (.ref q0), .val (.ref q1), .val (.int 0), .val (.int 0)] (plainFor_of_name pn_java_lang_String) rfl Z0 (fun p e s m below meth c T0 hret hml hnm hSL hs0 X0 => ?_)
  have S_q1 := hSL q1 (List.mem_of_getElem? (i := 0) rfl)
  refine kALn X0 d16_0 rfl rfl ?_
  refine kVIRT X0 (gEL G) (argsL := []) (rest := []) (wd G 67 rfl) (wd G 68 rfl) (own_nf X0.hZ (own_noinst (wd G 2 rfl))) (wd G 70 rfl) (wd G 69 rfl) (wd G 3 rfl) (wd G 71 rfl) (by decide) E_q0 (rm9 G q0 q2 kp1 h0 X0.n O0 F_q0_coder) all0 (lenOf pd___B rfl) rfl 0 rfl (by decide) hml.symm d16_1 (fun v1 T2 h3 vm4 _ w5 q6 C7 C8 X9 => ?_)
  obtain ⟨e11, f12⟩ := q6
  subst e11
  subst f12
  show Go _ _ _ _ _ (mkF _ _ _ [.int 0])
  refine kILn X9 d16_4 rfl ?_
  refine kICf X9 d16_5 (XT.ii_ne_f (by decide)) ?_
  refine kALn X9 d16_8 rfl rfl ?_
  refine kGETF X9 (wd G 28 rfl) Via.refl F_q0_value d16_9 (fun T13 X14 => ?_)
  refine kIC X14 0 d16_12 (by decide) ?_
  refine kALn X14 d16_13 rfl rfl ?_
  refine kILn X14 d16_14 rfl ?_
  refine kILn X14 d16_15 rfl ?_
  refine kISHL X14 0 d16_16 (by decide) ?_
  refine kALn X14 d16_17 rfl rfl ?_
  refine kGETF X14 (wd G 28 rfl) Via.refl F_q0_value d16_18 (fun T15 X16 => ?_)
  refine kLEN X16 A_q2 d16_21 ?_
  have f17 := (CHr.safe C8 (A_q1.lt) S_q1)
  refine kCPA X16 (wd G 95 rfl) (wd G 98 rfl) (wd G 96 rfl) (wd G 97 rfl) A_q2 A_q1 (Or.inl ⟨rfl, rfl⟩) (us := []) (by decide) rfl (by show 0 ≤ 16; decide) g_q1 f17 hml.symm d16_22 (by decide) 0 (Nat.le_of_eq rfl) (by decide) (fun T18 h19 L21 K22 C23 f24 X20 => ?_)
  have f25 : Arv Z h19 q1 kp0 .byte 16 [.int 0, .int 0, .int 0, .int 0, .int 0, .int 0, .int 0, .int 0, .int 0, .int 0, .int 0, .int 0, .int 0, .int 0, .int 0, .int 0] (.int 0) := f24
  refine kGOTO X20 43 d16_25 (by decide) ?_
  have K26 : Keep h0 h19 [q1] := (Keep.trans (Keep.refl h0 [q1]) K22 (allS (Or.inl (List.mem_of_getElem? (i := 0) rfl)) all0))
  exact kRETV X20 (gEL G) hret d16_43 (fun ve hve => ⟨rfl, K26, f25⟩) (by decide)
theorem pd___BIB_V : parseMethodDescriptor "([BIB)V" = some ⟨[.array (.byte), .int, .byte], none⟩ := by decide +kernel
theorem d14_18 : decode jdk_68_method_73_code 18 = .ok (.return_, 1) := by decide +kernel
def N_jdk_68_m_73 : MethodName := ⟨"java/lang/AbstractStringBuilder", "putStringAt", "(ILjava/lang/String;)V"⟩
def R_rm11 : Room := { frames := 2, cells := 0, slots := 0, locals := 33 }
theorem rm11 (G : Glob Z a0 iCS vSI) (q0 q1 q2 q3 : Addr) (kp0 kp1 : ClassId) (h0 : Heap) (Z0 : n0 ≤ h0.size) (O0 : Old Z n0 h0) (F_q0_coder : Fld Z h0 q0 "java/lang/AbstractStringBuilder" "coder" "B" (.int 0)) (F_q1_coder : Fld Z h0 q1 "java/lang/String" "coder" "B" (.int 0)) (E_q1 : Exa Z h0 q1 "java/lang/String") (E_q0 : Exa Z h0 q0 "java/lang/StringBuilder") (F_q0_value : Fld Z h0 q0 "java/lang/AbstractStringBuilder" "value" "[B" (.ref q2)) (F_q1_value : Fld Z h0 q1 "java/lang/String" "value" "[B" (.ref q3)) (A_q3 : Arv Z h0 q3 kp1 .byte 0 [] (.int 0)) (A_q2 : Arv Z h0 q2 kp0 .byte 16 [.int 0, .int 0, .int 0, .int 0, .int 0, .int 0, .int 0, .int 0, .int 0, .int 0, .int 0, .int 0, .int 0, .int 0, .int 0, .int 0] (.int 0)) (g_q2 : n0 ≤ q2) : MetH l Z EL0 n0 N_jdk_68_m_73 jdk_68_method_73_code 3 none [] R_rm11 #[.ref q0, .int 0, .ref q1] h0 [q2] (fun vs v h ve => (v = none ∧ (Keep h0 h [q2]) ∧ (Arv Z h q2 kp0 .byte 16 [.int 0, .int 0, .int 0, .int 0, .int 0, .int 0, .int 0, .int 0, .int 0, .int 0, .int 0, .int 0, .int 0, .int 0, .int 0, .int 0] (.int 0)))) := by
  refine MetH.of #[.val (.ref q0), .val (.int 0), .val (.ref q1)] (plainFor_of_name pn_java_lang_AbstractStringBuilder) rfl Z0 (fun p e s m below meth c T0 hret hml hnm hSL hs0 X0 => ?_)
  have S_q2 := hSL q2 (List.mem_of_getElem? (i := 0) rfl)
  refine kALn X0 d14_0 rfl rfl ?_
  refine kALn X0 d14_1 rfl rfl ?_
  refine kVIRT X0 (gEL G) (argsL := [.ref q1]) (rest := []) (wd G 84 rfl) (own_decl (wd G 85 rfl) (wd G 88 rfl)) (own_nf X0.hZ (own_noface (wd G 77 rfl) rfl)) (wd G 87 rfl) (wd G 85 rfl) (wd G 44 rfl) (wd G 88 rfl) (by decide) E_q0 (rm12 G q0 q1 q2 q3 kp0 kp1 h0 X0.n O0 F_q0_coder F_q1_coder E_q1) all0 (lenOf pd__Ljava_lang_String__V rfl) rfl 0 rfl (by decide) hml.symm d14_2 (fun v1 T2 h3 vm4 _ w5 q6 C7 C8 X9 => ?_)
  obtain ⟨e11, f12⟩ := q6
  subst e11
  subst f12
  show Go _ _ _ _ _ (mkF _ _ _ [])
  refine kALn X9 d14_5 rfl rfl ?_
  refine kALn X9 d14_6 rfl rfl ?_
  refine kGETF X9 (wd G 48 rfl) Via.refl F_q0_value d14_7 (fun T13 X14 => ?_)
  refine kILn X14 d14_10 rfl ?_
  refine kALn X14 d14_11 rfl rfl ?_
  refine kGETF X14 (wd G 50 rfl) Via.refl F_q0_coder d14_12 (fun T15 X16 => ?_)
  have f26 := (CHr.safe C8 (A_q2.lt) S_q2)
  refine kVIRT X16 (gEL G) (argsL := [.ref q2, .int 0, .int 0]) (rest := []) (wd G 90 rfl) (wd G 91 rfl) (own_nf X16.hZ (own_noinst (wd G 2 rfl))) (wd G 93 rfl) (wd G 92 rfl) (wd G 3 rfl) (wd G 94 rfl) (by decide) E_q1 (rm13 G q1 q2 q3 kp0 kp1 h0 X16.n O0 F_q1_coder E_q1 F_q1_value A_q3 A_q2 g_q2) (allS ⟨(A_q2.lt), f26⟩ all0) (lenOf pd___BIB_V rfl) rfl 0 rfl (by decide) hml.symm d14_15 (fun v17 T18 h19 vm20 _ w21 q22 C23 C24 X25 => ?_)
  obtain ⟨e28, f29, f30⟩ := q22
  subst e28
  show Go _ _ _ _ _ (mkF _ _ _ [])
  have K31 : Keep h0 h19 [q2] := (Keep.trans (Keep.refl h0 [q2]) f29 (allS (Or.inl (List.mem_of_getElem? (i := 0) rfl)) all0))
  exact kRETV X25 (gEL G) hret d14_18 (fun ve hve => ⟨rfl, K31, f30⟩) (by decide)
theorem pd__ILjava_lang_String__V : parseMethodDescriptor "(ILjava/lang/String;)V" = some ⟨[.int, .object "java/lang/String"], none⟩ := by decide +kernel
theorem d10_33 : decode jdk_68_method_22_code 33 = .ok (.aload_n 0, 1) := by decide +kernel
theorem d10_34 : decode jdk_68_method_22_code 34 = .ok (.dup, 1) := by decide +kernel
theorem d10_35 : decode jdk_68_method_22_code 35 = .ok (.getfield 79, 3) := by decide +kernel
theorem d10_38 : decode jdk_68_method_22_code 38 = .ok (.iload_n 2, 1) := by decide +kernel
theorem d10_39 : decode jdk_68_method_22_code 39 = .ok (.iadd, 1) := by decide +kernel
theorem d10_40 : decode jdk_68_method_22_code 40 = .ok (.putfield 79, 3) := by decide +kernel
theorem d10_43 : decode jdk_68_method_22_code 43 = .ok (.aload_n 0, 1) := by decide +kernel
theorem d10_44 : decode jdk_68_method_22_code 44 = .ok (.areturn, 1) := by decide +kernel
def N_jdk_68_m_22 : MethodName := ⟨"java/lang/AbstractStringBuilder", "append", "(Ljava/lang/String;)Ljava/lang/AbstractStringBuilder;"⟩
def R_rm7 : Room := { frames := 3, cells := 0, slots := 0, locals := 47 }
theorem rm7 (G : Glob Z a0 iCS vSI) (q0 q1 q2 q3 : Addr) (kp0 kp1 : ClassId) (h0 : Heap) (Z0 : n0 ≤ h0.size) (O0 : Old Z n0 h0) (F_q1_value : Fld Z h0 q1 "java/lang/String" "value" "[B" (.ref q3)) (A_q3 : Arv Z h0 q3 kp1 .byte 0 [] (.int 0)) (F_q1_coder : Fld Z h0 q1 "java/lang/String" "coder" "B" (.int 0)) (E_q1 : Exa Z h0 q1 "java/lang/String") (F_q0_count : Fld Z h0 q0 "java/lang/AbstractStringBuilder" "count" "I" (.int 0)) (F_q0_value : Fld Z h0 q0 "java/lang/AbstractStringBuilder" "value" "[B" (.ref q2)) (A_q2 : Arv Z h0 q2 kp0 .byte 16 [.int 0, .int 0, .int 0, .int 0, .int 0, .int 0, .int 0, .int 0, .int 0, .int 0, .int 0, .int 0, .int 0, .int 0, .int 0, .int 0] (.int 0)) (F_q0_coder : Fld Z h0 q0 "java/lang/AbstractStringBuilder" "coder" "B" (.int 0)) (E_q0 : Exa Z h0 q0 "java/lang/StringBuilder") (d_q0_q2 : q0 ≠ q2) (g_q0 : n0 ≤ q0) (g_q2 : n0 ≤ q2) : MetH l Z EL0 n0 N_jdk_68_m_22 jdk_68_method_22_code 3 (some (.object "java/lang/AbstractStringBuilder")) [] R_rm7 #[.ref q0, .ref q1] h0 [q2] (fun vs v h ve => (v = some (.ref q0) ∧ (Keep h0 h [q2, q0]) ∧ (Arv Z h q2 kp0 .byte 16 [.int 0, .int 0, .int 0, .int 0, .int 0, .int 0, .int 0, .int 0, .int 0, .int 0, .int 0, .int 0, .int 0, .int 0, .int 0, .int 0] (.int 0)) ∧ (Fld Z h q0 "java/lang/AbstractStringBuilder" "coder" "B" (.int 0)) ∧ (Fld Z h q0 "java/lang/AbstractStringBuilder" "count" "I" (.int 0)) ∧ (Fld Z h q0 "java/lang/AbstractStringBuilder" "value" "[B" (.ref q2)))) := by
  refine MetH.of #[.val (.ref q0), .val (.ref q1), .unset] (plainFor_of_name pn_java_lang_AbstractStringBuilder) rfl Z0 (fun p e s m below meth c T0 hret hml hnm hSL hs0 X0 => ?_)
  have S_q2 := hSL q2 (List.mem_of_getElem? (i := 0) rfl)
  refine kALn X0 d10_0 rfl rfl ?_
  refine kNNt X0 9 d10_1 (by decide) ?_
  refine kALn X0 d10_9 rfl rfl ?_
  refine kVIRT X0 (gEL G) (argsL := []) (rest := []) (wd G 62 rfl) (wd G 63 rfl) (own_nf X0.hZ (own_noinst (wd G 2 rfl))) (wd G 65 rfl) (wd G 64 rfl) (wd G 3 rfl) (wd G 66 rfl) (by decide) E_q1 (rm8 G q1 q3 kp1 h0 X0.n O0 F_q1_value A_q3 F_q1_coder E_q1) all0 (lenOf pd___I rfl) rfl 0 rfl (by decide) hml.symm d10_10 (fun v1 T2 h3 vm4 _ w5 q6 C7 C8 X9 => ?_)
  obtain ⟨e11, f12⟩ := q6
  subst e11
  subst f12
  show Go _ _ _ _ _ (mkF _ _ _ [.int 0])
  refine kISn X9 #[.val (.ref q0), .val (.ref q1), .val (.int 0)] d10_13 rfl ?_
  refine kALn X9 d10_14 rfl rfl ?_
  refine kALn X9 d10_15 rfl rfl ?_
  refine kGETF X9 (wd G 72 rfl) Via.refl F_q0_count d10_16 (fun T13 X14 => ?_)
  refine kILn X14 d10_19 rfl ?_
  refine kIADD X14 0 d10_20 (by decide) ?_
  refine kVIRT X14 (gEL G) (argsL := [.int 0]) (rest := []) (wd G 74 rfl) (own_decl (wd G 75 rfl) (wd G 78 rfl)) (own_nf X14.hZ (own_noface (wd G 77 rfl) rfl)) (wd G 77 rfl) (wd G 75 rfl) (wd G 44 rfl) (wd G 78 rfl) (by decide) E_q0 (rm10 G q0 q2 kp0 h0 X14.n O0 F_q0_value A_q2 F_q0_coder) all0 (lenOf pd__I_V rfl) rfl 0 rfl (by decide) hml.symm d10_21 (fun v15 T16 h17 vm18 _ w19 q20 C21 C22 X23 => ?_)
  obtain ⟨e25, f26⟩ := q20
  subst e25
  subst f26
  show Go _ _ _ _ _ (mkF _ _ _ [])
  refine kALn X23 d10_24 rfl rfl ?_
  refine kALn X23 d10_25 rfl rfl ?_
  refine kGETF X23 (wd G 72 rfl) Via.refl F_q0_count d10_26 (fun T27 X28 => ?_)
  refine kALn X28 d10_29 rfl rfl ?_
  have f38 := (CHr.safe C22 (A_q2.lt) (CHr.safe C8 (A_q2.lt) S_q2))
  refine kVIRT X28 (gEL G) (argsL := [.int 0, .ref q1]) (rest := []) (wd G 79 rfl) (own_decl (wd G 80 rfl) (wd G 83 rfl)) (own_nf X28.hZ (own_noface (wd G 77 rfl) rfl)) (wd G 82 rfl) (wd G 80 rfl) (wd G 44 rfl) (wd G 83 rfl) (by decide) E_q0 (rm11 G q0 q1 q2 q3 kp0 kp1 h0 X28.n O0 F_q0_coder F_q1_coder E_q1 E_q0 F_q0_value F_q1_value A_q3 A_q2 g_q2) (allS ⟨(A_q2.lt), f38⟩ all0) (lenOf pd__ILjava_lang_String__V rfl) rfl 0 rfl (by decide) hml.symm d10_30 (fun v29 T30 h31 vm32 _ w33 q34 C35 C36 X37 => ?_)
  obtain ⟨e40, f41, f42⟩ := q34
  subst e40
  show Go _ _ _ _ _ (mkF _ _ _ [])
  refine kALn X37 d10_33 rfl rfl ?_
  refine kDUP X37 d10_34 rfl ?_
  have f43 := (Fld.keep F_q0_count f41 (ninS d_q0_q2 nin0))
  refine kGETF X37 (wd G 72 rfl) Via.refl f43 d10_35 (fun T44 X45 => ?_)
  refine kILn X45 d10_38 rfl ?_
  refine kIADD X45 0 d10_39 (by decide) ?_
  have f46 := (Exa.keep E_q0 f41)
  refine kPUTF X45 (wd G 72 rfl) Via.refl f43 f46 (Or.inl (wd G 73 rfl)) (wd G 35 rfl) (ty := .int) (by decide) rfl rfl g_q0 (Safe.exa X45.hZ.alike f46 (by decide) (by decide)) d10_40 (fun T47 h48 L51 W50 X49 => ?_)
  have f52 := Fld.same W50 f43
  refine kALn X49 d10_43 rfl rfl ?_
  have K53 : Keep h0 h48 [q2, q0] := (Keep.wr (Keep.trans (Keep.refl h0 [q2, q0]) f41 (allS (Or.inl (List.mem_of_getElem? (i := 0) rfl)) all0)) W50 (Or.inl (List.mem_of_getElem? (i := 1) rfl)))
  have f54 := (Arv.other f42 W50 (Ne.symm d_q0_q2))
  have f55 := (Fld.other W50 (Fld.keep F_q0_coder f41 (ninS d_q0_q2 nin0)) (Or.inr (slot_ne (Or.inl (wd G 51 rfl)) (Or.inl (wd G 73 rfl)) (by decide) (by decide : parseFieldDescriptor "B" = some .byte) (by decide : parseFieldDescriptor "I" = some .int))))
  have f56 := (Fld.other W50 (Fld.keep F_q0_value f41 (ninS d_q0_q2 nin0)) (Or.inr (slot_ne (Or.inl (wd G 49 rfl)) (Or.inl (wd G 73 rfl)) (by decide) (by decide : parseFieldDescriptor "[B" = some (.array (.byte))) (by decide : parseFieldDescriptor "I" = some .int))))
  exact kRETA X49 (gEL G) hret rfl rfl d10_44 (fun ve hve => ⟨rfl, K53, f54, f55, f52, f56⟩) (by decide)
theorem pd__Ljava_lang_String__Ljava_lang_AbstractStringBuilder_ : parseMethodDescriptor "(Ljava/lang/String;)Ljava/lang/AbstractStringBuilder;" = some ⟨[.object "java/lang/String"], some (.object "java/lang/AbstractStringBuilder")⟩ := by decide +kernel
theorem d9_5 : decode jdk_67_method_7_code 5 = .ok (.pop, 1) := by decide +kernel
theorem d9_6 : decode jdk_67_method_7_code 6 = .ok (.aload_n 0, 1) := by decide +kernel
theorem d9_7 : decode jdk_67_method_7_code 7 = .ok (.areturn, 1) := by decide +kernel
def N_jdk_67_m_7 : MethodName := ⟨"java/lang/StringBuilder", "append", "(Ljava/lang/String;)Ljava/lang/StringBuilder;"⟩
def R_rm6 : Room := { frames := 4, cells := 0, slots := 0, locals := 61 }
theorem rm6 (G : Glob Z a0 iCS vSI) (q0 q1 q2 q3 : Addr) (kp0 kp1 : ClassId) (h0 : Heap) (Z0 : n0 ≤ h0.size) (O0 : Old Z n0 h0) (F_q1_value : Fld Z h0 q1 "java/lang/String" "value" "[B" (.ref q3)) (A_q3 : Arv Z h0 q3 kp1 .byte 0 [] (.int 0)) (F_q1_coder : Fld Z h0 q1 "java/lang/String" "coder" "B" (.int 0)) (E_q1 : Exa Z h0 q1 "java/lang/String") (F_q0_count : Fld Z h0 q0 "java/lang/AbstractStringBuilder" "count" "I" (.int 0)) (F_q0_value : Fld Z h0 q0 "java/lang/AbstractStringBuilder" "value" "[B" (.ref q2)) (A_q2 : Arv Z h0 q2 kp0 .byte 16 [.int 0, .int 0, .int 0, .int 0, .int 0, .int 0, .int 0, .int 0, .int 0, .int 0, .int 0, .int 0, .int 0, .int 0, .int 0, .int 0] (.int 0)) (F_q0_coder : Fld Z h0 q0 "java/lang/AbstractStringBuilder" "coder" "B" (.int 0)) (E_q0 : Exa Z h0 q0 "java/lang/StringBuilder") (d_q0_q2 : q0 ≠ q2) (g_q0 : n0 ≤ q0) (g_q2 : n0 ≤ q2) : MetH l Z EL0 n0 N_jdk_67_m_7 jdk_67_method_7_code 2 (some (.object "java/lang/StringBuilder")) [] R_rm6 #[.ref q0, .ref q1] h0 [q2] (fun vs v h ve => (v = some (.ref q0) ∧ (Keep h0 h [q2, q0]) ∧ (Arv Z h q2 kp0 .byte 16 [.int 0, .int 0, .int 0, .int 0, .int 0, .int 0, .int 0, .int 0, .int 0, .int 0, .int 0, .int 0, .int 0, .int 0, .int 0, .int 0] (.int 0)) ∧ (Fld Z h q0 "java/lang/AbstractStringBuilder" "coder" "B" (.int 0)) ∧ (Fld Z h q0 "java/lang/AbstractStringBuilder" "count" "I" (.int 0)) ∧ (Fld Z h q0 "java/lang/AbstractStringBuilder" "value" "[B" (.ref q2)))) := by
  refine MetH.of #[.val (.ref q0), .val (.ref q1)] (plainFor_of_name pn_java_lang_StringBuilder) rfl Z0 (fun p e s m below meth c T0 hret hml hnm hSL hs0 X0 => ?_)
  have S_q2 := hSL q2 (List.mem_of_getElem? (i := 0) rfl)
  refine kALn X0 d9_0 rfl rfl ?_
  refine kALn X0 d9_1 rfl rfl ?_
  refine kSUP X0 (gEL G) (argsL := [.ref q1]) (rest := []) (wd G 57 rfl) (own_same (wd G 58 rfl) (own_noface (wd G 77 rfl) rfl) (by decide)) (wd G 58 rfl) (wd G 59 rfl) (by decide) (wd G 44 rfl) (wd G 61 rfl) (Ins.of_exa E_q0 (wd G 43 rfl)) (rm7 G q0 q1 q2 q3 kp0 kp1 h0 X0.n O0 F_q1_value A_q3 F_q1_coder E_q1 F_q0_count F_q0_value A_q2 F_q0_coder E_q0 d_q0_q2 g_q0 g_q2) (allS ⟨(A_q2.lt), S_q2⟩ all0) (lenOf pd__Ljava_lang_String__Ljava_lang_AbstractStringBuilder_ rfl) rfl 0 rfl (by decide) hml.symm d9_2 (fun v1 T2 h3 vm4 _ w5 q6 C7 C8 X9 => ?_)
  obtain ⟨e11, f12, f13, f14, f15, f16⟩ := q6
  subst e11
  show Go _ _ _ _ _ (mkF _ _ _ [.ref q0])
  refine kPOP X9 d9_5 rfl ?_
  refine kALn X9 d9_6 rfl rfl ?_
  have K17 : Keep h0 h3 [q2, q0] := (Keep.trans (Keep.refl h0 [q2, q0]) f12 (allS (Or.inl (List.mem_of_getElem? (i := 0) rfl)) (allS (Or.inl (List.mem_of_getElem? (i := 1) rfl)) all0)))
  exact kRETA X9 (gEL G) hret rfl rfl d9_7 (fun ve hve => ⟨rfl, K17, f13, f14, f15, f16⟩) (by decide)
theorem pd__Ljava_lang_String__Ljava_lang_StringBuilder_ : parseMethodDescriptor "(Ljava/lang/String;)Ljava/lang/StringBuilder;" = some ⟨[.object "java/lang/String"], some (.object "java/lang/StringBuilder")⟩ := by decide +kernel
theorem d6_11 : decode prog_3_method_8_code 11 = .ok (.iload_n 1, 1) := by decide +kernel
theorem d6_12 : decode prog_3_method_8_code 12 = .ok (.ifCond .eq 8, 3) := by decide +kernel
theorem d6_20 : decode prog_3_method_8_code 20 = .ok (.ldc 71, 2) := by decide +kernel
theorem d6_22 : decode prog_3_method_8_code 22 = .ok (.invokevirtual 65, 3) := by decide +kernel
def R_rm17 : Room := { frames := 0, cells := 0, slots := 0, locals := 0 }
theorem rm17 (G : Glob Z a0 iCS vSI) (q0 q1 : Addr) (kp0 : ClassId) (h0 : Heap) (Z0 : n0 ≤ h0.size) (O0 : Old Z n0 h0) (F_q0_coder : Fld Z h0 q0 "java/lang/String" "coder" "B" (.int 0)) : MetH l Z EL0 n0 N_jdk_42_m_152 jdk_42_method_152_code 1 (some .byte) [] R_rm17 #[.ref q0] h0 [] (fun vs v h ve => (v = some (.int 0) ∧ (h0 = h))) := by
  refine MetH.of #[.val (.ref q0)] (plainFor_of_name pn_java_lang_String) rfl Z0 (fun p e s m below meth c T0 hret hml hnm hSL hs0 X0 => ?_)
  refine kGETS X0 (wd G 14 rfl) Via.refl (Sta.ext O0.2 (S_CS G)) d12_0 (fun T1 X2 => ?_)
  refine kIFf X2 d12_3 (XT.i0_eq_f (n_CS G)) ?_
  refine kALn X2 d12_6 rfl rfl ?_
  refine kGETF X2 (wd G 26 rfl) Via.refl F_q0_coder d12_7 (fun T3 X4 => ?_)
  refine kGOTO X4 14 d12_10 (by decide) ?_
  exact kRETZ X4 (gEL G) (t := .byte) hret (by simp) d12_14 (fun ve hve => ⟨rfl, rfl⟩) (by decide)
def R_rm16 : Room := { frames := 1, cells := 0, slots := 0, locals := 13 }
theorem rm16 (G : Glob Z a0 iCS vSI) (q0 q1 : Addr) (kp0 : ClassId) (h0 : Heap) (Z0 : n0 ≤ h0.size) (O0 : Old Z n0 h0) (F_q0_value : Fld Z h0 q0 "java/lang/String" "value" "[B" (.ref q1)) (A_q1 : Arv Z h0 q1 kp0 .byte 6 [.int 46, .int 108, .int 111, .int 119, .int 101, .int 114] (.int 0)) (F_q0_coder : Fld Z h0 q0 "java/lang/String" "coder" "B" (.int 0)) (E_q0 : Exa Z h0 q0 "java/lang/String") : MetH l Z EL0 n0 N_jdk_42_m_54 jdk_42_method_54_code 1 (some .int) [] R_rm16 #[.ref q0] h0 [] (fun vs v h ve => (v = some (.int 6) ∧ (h0 = h))) := by
  refine MetH.of #[.val (.ref q0)] (plainFor_of_name pn_java_lang_String) rfl Z0 (fun p e s m below meth c T0 hret hml hnm hSL hs0 X0 => ?_)
  refine kALn X0 d11_0 rfl rfl ?_
  refine kGETF X0 (wd G 28 rfl) Via.refl F_q0_value d11_1 (fun T1 X2 => ?_)
  refine kLEN X2 A_q1 d11_4 ?_
  refine kALn X2 d11_5 rfl rfl ?_
  refine kVIRT X2 (gEL G) (argsL := []) (rest := [.int 6]) (wd G 67 rfl) (wd G 68 rfl) (own_nf X2.hZ (own_noinst (wd G 2 rfl))) (wd G 70 rfl) (wd G 69 rfl) (wd G 3 rfl) (wd G 71 rfl) (by decide) E_q0 (rm17 G q0 q1 kp0 h0 X2.n O0 F_q0_coder) all0 (lenOf pd___B rfl) rfl 1 rfl (by decide) hml.symm d11_6 (fun v3 T4 h5 vm6 _ w7 q8 C9 C10 X11 => ?_)
  obtain ⟨e13, f14⟩ := q8
  subst e13
  subst f14
  show Go _ _ _ _ _ (mkF _ _ _ [.int 0, .int 6])
  refine kISHR X11 6 d11_9 (by decide) ?_
  exact kRETI X11 (gEL G) hret d11_10 (fun ve hve => ⟨rfl, rfl⟩) (by decide)
def R_rm18 : Room := { frames := 0, cells := 0, slots := 0, locals := 0 }
theorem rm18 (G : Glob Z a0 iCS vSI) (q0 q1 : Addr) (kp0 : ClassId) (h0 : Heap) (Z0 : n0 ≤ h0.size) (O0 : Old Z n0 h0) (F_q0_value : Fld Z h0 q0 "java/lang/AbstractStringBuilder" "value" "[B" (.ref q1)) (A_q1 : Arv Z h0 q1 kp0 .byte 16 [.int 0, .int 0, .int 0, .int 0, .int 0, .int 0, .int 0, .int 0, .int 0, .int 0, .int 0, .int 0, .int 0, .int 0, .int 0, .int 0] (.int 0)) (F_q0_coder : Fld Z h0 q0 "java/lang/AbstractStringBuilder" "coder" "B" (.int 0)) : MetH l Z EL0 n0 N_jdk_68_m_9 jdk_68_method_9_code 3 none [] R_rm18 #[.ref q0, .int 6] h0 [] (fun vs v h ve => (v = none ∧ (h0 = h))) := by
  refine MetH.of #[.val (.ref q0), .val (.int 6), .unset] (plainFor_of_name pn_java_lang_AbstractStringBuilder) rfl Z0 (fun p e s m below meth c T0 hret hml hnm hSL hs0 X0 => ?_)
  refine kALn X0 d13_0 rfl rfl ?_
  refine kGETF X0 (wd G 48 rfl) Via.refl F_q0_value d13_1 (fun T1 X2 => ?_)
  refine kLEN X2 A_q1 d13_4 ?_
  refine kALn X2 d13_5 rfl rfl ?_
  refine kGETF X2 (wd G 50 rfl) Via.refl F_q0_coder d13_6 (fun T3 X4 => ?_)
  refine kISHR X4 16 d13_9 (by decide) ?_
  refine kISn X4 #[.val (.ref q0), .val (.int 6), .val (.int 16)] d13_10 rfl ?_
  refine kILn X4 d13_11 rfl ?_
  refine kILn X4 d13_12 rfl ?_
  refine kISUB X4 (-10) d13_13 (by decide) ?_
  refine kIFt X4 38 d13_14 (XT.i0_le_t (by decide)) (by decide) ?_
  exact kRETV X4 (gEL G) hret d13_38 (fun ve hve => ⟨rfl, rfl⟩) (by decide)
def R_rm20 : Room := { frames := 1, cells := 0, slots := 0, locals := 13 }
theorem rm20 (G : Glob Z a0 iCS vSI) (q0 q1 q2 q3 : Addr) (kp0 kp1 : ClassId) (h0 : Heap) (Z0 : n0 ≤ h0.size) (O0 : Old Z n0 h0) (F_q0_coder : Fld Z h0 q0 "java/lang/AbstractStringBuilder" "coder" "B" (.int 0)) (F_q1_coder : Fld Z h0 q1 "java/lang/String" "coder" "B" (.int 0)) (E_q1 : Exa Z h0 q1 "java/lang/String") : MetH l Z EL0 n0 N_jdk_68_m_71 jdk_68_method_71_code 2 none [] R_rm20 #[.ref q0, .ref q1] h0 [] (fun vs v h ve => (v = none ∧ (h0 = h))) := by
  refine MetH.of #[.val (.ref q0), .val (.ref q1)] (plainFor_of_name pn_java_lang_AbstractStringBuilder) rfl Z0 (fun p e s m below meth c T0 hret hml hnm hSL hs0 X0 => ?_)
  refine kGETS X0 (wd G 47 rfl) Via.refl (Sta.ext O0.2 (S_CS G)) d15_0 (fun T1 X2 => ?_)
  refine kIFf X2 d15_3 (XT.i0_eq_f (n_CS G)) ?_
  refine kALn X2 d15_6 rfl rfl ?_
  refine kGETF X2 (wd G 50 rfl) Via.refl F_q0_coder d15_7 (fun T3 X4 => ?_)
  refine kALn X4 d15_10 rfl rfl ?_
  refine kVIRT X4 (gEL G) (argsL := []) (rest := [.int 0]) (wd G 89 rfl) (wd G 68 rfl) (own_nf X4.hZ (own_noinst (wd G 2 rfl))) (wd G 70 rfl) (wd G 69 rfl) (wd G 3 rfl) (wd G 71 rfl) (by decide) E_q1 (rm17 G q1 q3 kp1 h0 X4.n O0 F_q1_coder) all0 (lenOf pd___B rfl) rfl 1 rfl (by decide) hml.symm d15_11 (fun v5 T6 h7 vm8 _ w9 q10 C11 C12 X13 => ?_)
  obtain ⟨e15, f16⟩ := q10
  subst e15
  subst f16
  show Go _ _ _ _ _ (mkF _ _ _ [.int 0, .int 0])
  refine kICt X13 21 d15_14 (XT.ii_eq_t (by decide)) (by decide) ?_
  exact kRETV X13 (gEL G) hret d15_21 (fun ve hve => ⟨rfl, rfl⟩) (by decide)
def R_rm21 : Room := { frames := 1, cells := 0, slots := 0, locals := 18 }
theorem rm21 (G : Glob Z a0 iCS vSI) (q0 q1 q2 : Addr) (kp0 kp1 : ClassId) (h0 : Heap) (Z0 : n0 ≤ h0.size) (O0 : Old Z n0 h0) (F_q0_coder : Fld Z h0 q0 "java/lang/String" "coder" "B" (.int 0)) (E_q0 : Exa Z h0 q0 "java/lang/String") (F_q0_value : Fld Z h0 q0 "java/lang/String" "value" "[B" (.ref q2)) (A_q2 : Arv Z h0 q2 kp1 .byte 6 [.int 46, .int 108, .int 111, .int 119, .int 101, .int 114] (.int 0)) (A_q1 : Arv Z h0 q1 kp0 .byte 16 [.int 0, .int 0, .int 0, .int 0, .int 0, .int 0, .int 0, .int 0, .int 0, .int 0, .int 0, .int 0, .int 0, .int 0, .int 0, .int 0] (.int 0)) (g_q1 : n0 ≤ q1) : MetH l Z EL0 n0 N_jdk_42_m_147 jdk_42_method_147_code 4 none [] R_rm21 #[.ref q0, .ref q1, .int 0, .int 0] h0 [q1] (fun vs v h ve => (v = none ∧ (Keep h0 h [q1]) ∧ (Arv Z h q1 kp0 .byte 16 [.int 46, .int 108, .int 111, .int 119, .int 101, .int 114, .int 0, .int 0, .int 0, .int 0, .int 0, .int 0, .int 0, .int 0, .int 0, .int 0] (.int 0)))) := by
  refine MetH.of #[.val (.ref q0), .val (.ref q1), .val (.int 0), .val (.int 0)] (plainFor_of_name pn_java_lang_String) rfl Z0 (fun p e s m below meth c T0 hret hml hnm hSL hs0 X0 => ?_)
  have S_q1 := hSL q1 (List.mem_of_getElem? (i := 0) rfl)
  refine kALn X0 d16_0 rfl rfl ?_
  refine kVIRT X0 (gEL G) (argsL := []) (rest := []) (wd G 67 rfl) (wd G 68 rfl) (own_nf X0.hZ (own_noinst (wd G 2 rfl))) (wd G 70 rfl) (wd G 69 rfl) (wd G 3 rfl) (wd G 71 rfl) (by decide) E_q0 (rm17 G q0 q2 kp1 h0 X0.n O0 F_q0_coder) all0 (lenOf pd___B rfl) rfl 0 rfl (by decide) hml.symm d16_1 (fun v1 T2 h3 vm4 _ w5 q6 C7 C8 X9 => ?_)
  obtain ⟨e11, f12⟩ := q6
  subst e11
  subst f12
  show Go _ _ _ _ _ (mkF _ _ _ [.int 0])
  refine kILn X9 d16_4 rfl ?_
  refine kICf X9 d16_5 (XT.ii_ne_f (by decide)) ?_
  refine kALn X9 d16_8 rfl rfl ?_
  refine kGETF X9 (wd G 28 rfl) Via.refl F_q0_value d16_9 (fun T13 X14 => ?_)
  refine kIC X14 0 d16_12 (by decide) ?_
  refine kALn X14 d16_13 rfl rfl ?_
  refine kILn X14 d16_14 rfl ?_
  refine kILn X14 d16_15 rfl ?_
  refine kISHL X14 0 d16_16 (by decide) ?_
  refine kALn X14 d16_17 rfl rfl ?_
  refine kGETF X14 (wd G 28 rfl) Via.refl F_q0_value d16_18 (fun T15 X16 => ?_)
  refine kLEN X16 A_q2 d16_21 ?_
  have f17 := (CHr.safe C8 (A_q1.lt) S_q1)
  refine kCPA X16 (wd G 95 rfl) (wd G 98 rfl) (wd G 96 rfl) (wd G 97 rfl) A_q2 A_q1 (Or.inl ⟨rfl, rfl⟩) (us := [.int 46, .int 108, .int 111, .int 119, .int 101, .int 114]) (by decide) rfl (by show 6 ≤ 16; decide) g_q1 f17 hml.symm d16_22 (by decide) 0 (Nat.le_of_eq rfl) (by decide) (fun T18 h19 L21 K22 C23 f24 X20 => ?_)
  have f25 : Arv Z h19 q1 kp0 .byte 16 [.int 46, .int 108, .int 111, .int 119, .int 101, .int 114, .int 0, .int 0, .int 0, .int 0, .int 0, .int 0, .int 0, .int 0, .int 0, .int 0] (.int 0) := f24
  refine kGOTO X20 43 d16_25 (by decide) ?_
  have K26 : Keep h0 h19 [q1] := (Keep.trans (Keep.refl h0 [q1]) K22 (allS (Or.inl (List.mem_of_getElem? (i := 0) rfl)) all0))
  exact kRETV X20 (gEL G) hret d16_43 (fun ve hve => ⟨rfl, K26, f25⟩) (by decide)
def R_rm19 : Room := { frames := 2, cells := 0, slots := 0, locals := 33 }
theorem rm19 (G : Glob Z a0 iCS vSI) (q0 q1 q2 q3 : Addr) (kp0 kp1 : ClassId) (h0 : Heap) (Z0 : n0 ≤ h0.size) (O0 : Old Z n0 h0) (F_q0_coder : Fld Z h0 q0 "java/lang/AbstractStringBuilder" "coder" "B" (.int 0)) (F_q1_coder : Fld Z h0 q1 "java/lang/String" "coder" "B" (.int 0)) (E_q1 : Exa Z h0 q1 "java/lang/String") (E_q0 : Exa Z h0 q0 "java/lang/StringBuilder") (F_q0_value : Fld Z h0 q0 "java/lang/AbstractStringBuilder" "value" "[B" (.ref q2)) (F_q1_value : Fld Z h0 q1 "java/lang/String" "value" "[B" (.ref q3)) (A_q3 : Arv Z h0 q3 kp1 .byte 6 [.int 46, .int 108, .int 111, .int 119, .int 101, .int 114] (.int 0)) (A_q2 : Arv Z h0 q2 kp0 .byte 16 [.int 0, .int 0, .int 0, .int 0, .int 0, .int 0, .int 0, .int 0, .int 0, .int 0, .int 0, .int 0, .int 0, .int 0, .int 0, .int 0] (.int 0)) (g_q2 : n0 ≤ q2) : MetH l Z EL0 n0 N_jdk_68_m_73 jdk_68_method_73_code 3 none [] R_rm19 #[.ref q0, .int 0, .ref q1] h0 [q2] (fun vs v h ve => (v = none ∧ (Keep h0 h [q2]) ∧ (Arv Z h q2 kp0 .byte 16 [.int 46, .int 108, .int 111, .int 119, .int 101, .int 114, .int 0, .int 0, .int 0, .int 0, .int 0, .int 0, .int 0, .int 0, .int 0, .int 0] (.int 0)))) := by
  refine MetH.of #[.val (.ref q0), .val (.int 0), .val (.ref q1)] (plainFor_of_name pn_java_lang_AbstractStringBuilder) rfl Z0 (fun p e s m below meth c T0 hret hml hnm hSL hs0 X0 => ?_)
  have S_q2 := hSL q2 (List.mem_of_getElem? (i := 0) rfl)
  refine kALn X0 d14_0 rfl rfl ?_
  refine kALn X0 d14_1 rfl rfl ?_
  refine kVIRT X0 (gEL G) (argsL := [.ref q1]) (rest := []) (wd G 84 rfl) (own_decl (wd G 85 rfl) (wd G 88 rfl)) (own_nf X0.hZ (own_noface (wd G 77 rfl) rfl)) (wd G 87 rfl) (wd G 85 rfl) (wd G 44 rfl) (wd G 88 rfl) (by decide) E_q0 (rm20 G q0 q1 q2 q3 kp0 kp1 h0 X0.n O0 F_q0_coder F_q1_coder E_q1) all0 (lenOf pd__Ljava_lang_String__V rfl) rfl 0 rfl (by decide) hml.symm d14_2 (fun v1 T2 h3 vm4 _ w5 q6 C7 C8 X9 => ?_)
  obtain ⟨e11, f12⟩ := q6
  subst e11
  subst f12
  show Go _ _ _ _ _ (mkF _ _ _ [])
  refine kALn X9 d14_5 rfl rfl ?_
  refine kALn X9 d14_6 rfl rfl ?_
  refine kGETF X9 (wd G 48 rfl) Via.refl F_q0_value d14_7 (fun T13 X14 => ?_)
  refine kILn X14 d14_10 rfl ?_
  refine kALn X14 d14_11 rfl rfl ?_
  refine kGETF X14 (wd G 50 rfl) Via.refl F_q0_coder d14_12 (fun T15 X16 => ?_)
  have f26 := (CHr.safe C8 (A_q2.lt) S_q2)
  refine kVIRT X16 (gEL G) (argsL := [.ref q2, .int 0, .int 0]) (rest := []) (wd G 90 rfl) (wd G 91 rfl) (own_nf X16.hZ (own_noinst (wd G 2 rfl))) (wd G 93 rfl) (wd G 92 rfl) (wd G 3 rfl) (wd G 94 rfl) (by decide) E_q1 (rm21 G q1 q2 q3 kp0 kp1 h0 X16.n O0 F_q1_coder E_q1 F_q1_value A_q3 A_q2 g_q2) (allS ⟨(A_q2.lt), f26⟩ all0) (lenOf pd___BIB_V rfl) rfl 0 rfl (by decide) hml.symm d14_15 (fun v17 T18 h19 vm20 _ w21 q22 C23 C24 X25 => ?_)
  obtain ⟨e28, f29, f30⟩ := q22
  subst e28
  show Go _ _ _ _ _ (mkF _ _ _ [])
  have K31 : Keep h0 h19 [q2] := (Keep.trans (Keep.refl h0 [q2]) f29 (allS (Or.inl (List.mem_of_getElem? (i := 0) rfl)) all0))
  exact kRETV X25 (gEL G) hret d14_18 (fun ve hve => ⟨rfl, K31, f30⟩) (by decide)
def R_rm15 : Room := { frames := 3, cells := 0, slots := 0, locals := 47 }
theorem rm15 (G : Glob Z a0 iCS vSI) (q0 q1 q2 q3 : Addr) (kp0 kp1 : ClassId) (h0 : Heap) (Z0 : n0 ≤ h0.size) (O0 : Old Z n0 h0) (F_q1_value : Fld Z h0 q1 "java/lang/String" "value" "[B" (.ref q3)) (A_q3 : Arv Z h0 q3 kp1 .byte 6 [.int 46, .int 108, .int 111, .int 119, .int 101, .int 114] (.int 0)) (F_q1_coder : Fld Z h0 q1 "java/lang/String" "coder" "B" (.int 0)) (E_q1 : Exa Z h0 q1 "java/lang/String") (F_q0_count : Fld Z h0 q0 "java/lang/AbstractStringBuilder" "count" "I" (.int 0)) (F_q0_value : Fld Z h0 q0 "java/lang/AbstractStringBuilder" "value" "[B" (.ref q2)) (A_q2 : Arv Z h0 q2 kp0 .byte 16 [.int 0, .int 0, .int 0, .int 0, .int 0, .int 0, .int 0, .int 0, .int 0, .int 0, .int 0, .int 0, .int 0, .int 0, .int 0, .int 0] (.int 0)) (F_q0_coder : Fld Z h0 q0 "java/lang/AbstractStringBuilder" "coder" "B" (.int 0)) (E_q0 : Exa Z h0 q0 "java/lang/StringBuilder") (d_q0_q2 : q0 ≠ q2) (g_q0 : n0 ≤ q0) (g_q2 : n0 ≤ q2) : MetH l Z EL0 n0 N_jdk_68_m_22 jdk_68_method_22_code 3 (some (.object "java/lang/AbstractStringBuilder")) [] R_rm15 #[.ref q0, .ref q1] h0 [q2] (fun vs v h ve => (v = some (.ref q0) ∧ (Keep h0 h [q2, q0]) ∧ (Arv Z h q2 kp0 .byte 16 [.int 46, .int 108, .int 111, .int 119, .int 101, .int 114, .int 0, .int 0, .int 0, .int 0, .int 0, .int 0, .int 0, .int 0, .int 0, .int 0] (.int 0)) ∧ (Fld Z h q0 "java/lang/AbstractStringBuilder" "coder" "B" (.int 0)) ∧ (Fld Z h q0 "java/lang/AbstractStringBuilder" "count" "I" (.int 6)) ∧ (Fld Z h q0 "java/lang/AbstractStringBuilder" "value" "[B" (.ref q2)))) := by
  refine MetH.of #[.val (.ref q0), .val (.ref q1), .unset] (plainFor_of_name pn_java_lang_AbstractStringBuilder) rfl Z0 (fun p e s m below meth c T0 hret hml hnm hSL hs0 X0 => ?_)
  have S_q2 := hSL q2 (List.mem_of_getElem? (i := 0) rfl)
  refine kALn X0 d10_0 rfl rfl ?_
  refine kNNt X0 9 d10_1 (by decide) ?_
  refine kALn X0 d10_9 rfl rfl ?_
  refine kVIRT X0 (gEL G) (argsL := []) (rest := []) (wd G 62 rfl) (wd G 63 rfl) (own_nf X0.hZ (own_noinst (wd G 2 rfl))) (wd G 65 rfl) (wd G 64 rfl) (wd G 3 rfl) (wd G 66 rfl) (by decide) E_q1 (rm16 G q1 q3 kp1 h0 X0.n O0 F_q1_value A_q3 F_q1_coder E_q1) all0 (lenOf pd___I rfl) rfl 0 rfl (by decide) hml.symm d10_10 (fun v1 T2 h3 vm4 _ w5 q6 C7 C8 X9 => ?_)
  obtain ⟨e11, f12⟩ := q6
  subst e11
  subst f12
  show Go _ _ _ _ _ (mkF _ _ _ [.int 6])
  refine kISn X9 #[.val (.ref q0), .val (.ref q1), .val (.int 6)] d10_13 rfl ?_
  refine kALn X9 d10_14 rfl rfl ?_
  refine kALn X9 d10_15 rfl rfl ?_
  refine kGETF X9 (wd G 72 rfl) Via.refl F_q0_count d10_16 (fun T13 X14 => ?_)
  refine kILn X14 d10_19 rfl ?_
  refine kIADD X14 6 d10_20 (by decide) ?_
  refine kVIRT X14 (gEL G) (argsL := [.int 6]) (rest := []) (wd G 74 rfl) (own_decl (wd G 75 rfl) (wd G 78 rfl)) (own_nf X14.hZ (own_noface (wd G 77 rfl) rfl)) (wd G 77 rfl) (wd G 75 rfl) (wd G 44 rfl) (wd G 78 rfl) (by decide) E_q0 (rm18 G q0 q2 kp0 h0 X14.n O0 F_q0_value A_q2 F_q0_coder) all0 (lenOf pd__I_V rfl) rfl 0 rfl (by decide) hml.symm d10_21 (fun v15 T16 h17 vm18 _ w19 q20 C21 C22 X23 => ?_)
  obtain ⟨e25, f26⟩ := q20
  subst e25
  subst f26
  show Go _ _ _ _ _ (mkF _ _ _ [])
  refine kALn X23 d10_24 rfl rfl ?_
  refine kALn X23 d10_25 rfl rfl ?_
  refine kGETF X23 (wd G 72 rfl) Via.refl F_q0_count d10_26 (fun T27 X28 => ?_)
  refine kALn X28 d10_29 rfl rfl ?_
  have f38 := (CHr.safe C22 (A_q2.lt) (CHr.safe C8 (A_q2.lt) S_q2))
  refine kVIRT X28 (gEL G) (argsL := [.int 0, .ref q1]) (rest := []) (wd G 79 rfl) (own_decl (wd G 80 rfl) (wd G 83 rfl)) (own_nf X28.hZ (own_noface (wd G 77 rfl) rfl)) (wd G 82 rfl) (wd G 80 rfl) (wd G 44 rfl) (wd G 83 rfl) (by decide) E_q0 (rm19 G q0 q1 q2 q3 kp0 kp1 h0 X28.n O0 F_q0_coder F_q1_coder E_q1 E_q0 F_q0_value F_q1_value A_q3 A_q2 g_q2) (allS ⟨(A_q2.lt), f38⟩ all0) (lenOf pd__ILjava_lang_String__V rfl) rfl 0 rfl (by decide) hml.symm d10_30 (fun v29 T30 h31 vm32 _ w33 q34 C35 C36 X37 => ?_)
  obtain ⟨e40, f41, f42⟩ := q34
  subst e40
  show Go _ _ _ _ _ (mkF _ _ _ [])
  refine kALn X37 d10_33 rfl rfl ?_
  refine kDUP X37 d10_34 rfl ?_
  have f43 := (Fld.keep F_q0_count f41 (ninS d_q0_q2 nin0))
  refine kGETF X37 (wd G 72 rfl) Via.refl f43 d10_35 (fun T44 X45 => ?_)
  refine kILn X45 d10_38 rfl ?_
  refine kIADD X45 6 d10_39 (by decide) ?_
  have f46 := (Exa.keep E_q0 f41)
  refine kPUTF X45 (wd G 72 rfl) Via.refl f43 f46 (Or.inl (wd G 73 rfl)) (wd G 35 rfl) (ty := .int) (by decide) rfl rfl g_q0 (Safe.exa X45.hZ.alike f46 (by decide) (by decide)) d10_40 (fun T47 h48 L51 W50 X49 => ?_)
  have f52 := Fld.same W50 f43
  refine kALn X49 d10_43 rfl rfl ?_
  have K53 : Keep h0 h48 [q2, q0] := (Keep.wr (Keep.trans (Keep.refl h0 [q2, q0]) f41 (allS (Or.inl (List.mem_of_getElem? (i := 0) rfl)) all0)) W50 (Or.inl (List.mem_of_getElem? (i := 1) rfl)))
  have f54 := (Arv.other f42 W50 (Ne.symm d_q0_q2))
  have f55 := (Fld.other W50 (Fld.keep F_q0_coder f41 (ninS d_q0_q2 nin0)) (Or.inr (slot_ne (Or.inl (wd G 51 rfl)) (Or.inl (wd G 73 rfl)) (by decide) (by decide : parseFieldDescriptor "B" = some .byte) (by decide : parseFieldDescriptor "I" = some .int))))
  have f56 := (Fld.other W50 (Fld.keep F_q0_value f41 (ninS d_q0_q2 nin0)) (Or.inr (slot_ne (Or.inl (wd G 49 rfl)) (Or.inl (wd G 73 rfl)) (by decide) (by decide : parseFieldDescriptor "[B" = some (.array (.byte))) (by decide : parseFieldDescriptor "I" = some .int))))
  exact kRETA X49 (gEL G) hret rfl rfl d10_44 (fun ve hve => ⟨rfl, K53, f54, f55, f52, f56⟩) (by decide)
def R_rm14 : Room := { frames := 4, cells := 0, slots := 0, locals := 61 }
theorem rm14 (G : Glob Z a0 iCS vSI) (q0 q1 q2 q3 : Addr) (kp0 kp1 : ClassId) (h0 : Heap) (Z0 : n0 ≤ h0.size) (O0 : Old Z n0 h0) (F_q1_value : Fld Z h0 q1 "java/lang/String" "value" "[B" (.ref q3)) (A_q3 : Arv Z h0 q3 kp1 .byte 6 [.int 46, .int 108, .int 111, .int 119, .int 101, .int 114] (.int 0)) (F_q1_coder : Fld Z h0 q1 "java/lang/String" "coder" "B" (.int 0)) (E_q1 : Exa Z h0 q1 "java/lang/String") (F_q0_count : Fld Z h0 q0 "java/lang/AbstractStringBuilder" "count" "I" (.int 0)) (F_q0_value : Fld Z h0 q0 "java/lang/AbstractStringBuilder" "value" "[B" (.ref q2)) (A_q2 : Arv Z h0 q2 kp0 .byte 16 [.int 0, .int 0, .int 0, .int 0, .int 0, .int 0, .int 0, .int 0, .int 0, .int 0, .int 0, .int 0, .int 0, .int 0, .int 0, .int 0] (.int 0)) (F_q0_coder : Fld Z h0 q0 "java/lang/AbstractStringBuilder" "coder" "B" (.int 0)) (E_q0 : Exa Z h0 q0 "java/lang/StringBuilder") (d_q0_q2 : q0 ≠ q2) (g_q0 : n0 ≤ q0) (g_q2 : n0 ≤ q2) : MetH l Z EL0 n0 N_jdk_67_m_7 jdk_67_method_7_code 2 (some (.object "java/lang/StringBuilder")) [] R_rm14 #[.ref q0, .ref q1] h0 [q2] (fun vs v h ve => (v = some (.ref q0) ∧ (Keep h0 h [q2, q0]) ∧ (Arv Z h q2 kp0 .byte 16 [.int 46, .int 108, .int 111, .int 119, .int 101, .int 114, .int 0, .int 0, .int 0, .int 0, .int 0, .int 0, .int 0, .int 0, .int 0, .int 0] (.int 0)) ∧ (Fld Z h q0 "java/lang/AbstractStringBuilder" "coder" "B" (.int 0)) ∧ (Fld Z h q0 "java/lang/AbstractStringBuilder" "count" "I" (.int 6)) ∧ (Fld Z h q0 "java/lang/AbstractStringBuilder" "value" "[B" (.ref q2)))) := by
  refine MetH.of #[.val (.ref q0), .val (.ref q1)] (plainFor_of_name pn_java_lang_StringBuilder) rfl Z0 (fun p e s m below meth c T0 hret hml hnm hSL hs0 X0 => ?_)
  have S_q2 := hSL q2 (List.mem_of_getElem? (i := 0) rfl)
  refine kALn X0 d9_0 rfl rfl ?_
  refine kALn X0 d9_1 rfl rfl ?_
  refine kSUP X0 (gEL G) (argsL := [.ref q1]) (rest := []) (wd G 57 rfl) (own_same (wd G 58 rfl) (own_noface (wd G 77 rfl) rfl) (by decide)) (wd G 58 rfl) (wd G 59 rfl) (by decide) (wd G 44 rfl) (wd G 61 rfl) (Ins.of_exa E_q0 (wd G 43 rfl)) (rm15 G q0 q1 q2 q3 kp0 kp1 h0 X0.n O0 F_q1_value A_q3 F_q1_coder E_q1 F_q0_count F_q0_value A_q2 F_q0_coder E_q0 d_q0_q2 g_q0 g_q2) (allS ⟨(A_q2.lt), S_q2⟩ all0) (lenOf pd__Ljava_lang_String__Ljava_lang_AbstractStringBuilder_ rfl) rfl 0 rfl (by decide) hml.symm d9_2 (fun v1 T2 h3 vm4 _ w5 q6 C7 C8 X9 => ?_)
  obtain ⟨e11, f12, f13, f14, f15, f16⟩ := q6
  subst e11
  show Go _ _ _ _ _ (mkF _ _ _ [.ref q0])
  refine kPOP X9 d9_5 rfl ?_
  refine kALn X9 d9_6 rfl rfl ?_
  have K17 : Keep h0 h3 [q2, q0] := (Keep.trans (Keep.refl h0 [q2, q0]) f12 (allS (Or.inl (List.mem_of_getElem? (i := 0) rfl)) (allS (Or.inl (List.mem_of_getElem? (i := 1) rfl)) all0)))
  exact kRETA X9 (gEL G) hret rfl rfl d9_7 (fun ve hve => ⟨rfl, K17, f13, f14, f15, f16⟩) (by decide)
theorem d6_25 : decode prog_3_method_8_code 25 = .ok (.invokevirtual 73, 3) := by decide +kernel
theorem d17_0 : decode jdk_67_method_42_code 0 = .ok (.new 18, 3) := by decide +kernel
theorem d17_3 : decode jdk_67_method_42_code 3 = .ok (.dup, 1) := by decide +kernel
theorem d17_4 : decode jdk_67_method_42_code 4 = .ok (.aload_n 0, 1) := by decide +kernel
theorem d17_5 : decode jdk_67_method_42_code 5 = .ok (.invokespecial 137, 3) := by decide +kernel
theorem d18_0 : decode jdk_42_method_53_code 0 = .ok (.aload_n 0, 1) := by decide +kernel
theorem d18_1 : decode jdk_42_method_53_code 1 = .ok (.aload_n 1, 1) := by decide +kernel
theorem d18_2 : decode jdk_42_method_53_code 2 = .ok (.aconst_null, 1) := by decide +kernel
theorem d18_3 : decode jdk_42_method_53_code 3 = .ok (.invokespecial 489, 3) := by decide +kernel
theorem d19_0 : decode jdk_42_method_150_code 0 = .ok (.aload_n 0, 1) := by decide +kernel
theorem d19_1 : decode jdk_42_method_150_code 1 = .ok (.invokespecial 1, 3) := by decide +kernel
theorem d19_4 : decode jdk_42_method_150_code 4 = .ok (.aload_n 1, 1) := by decide +kernel
theorem d19_5 : decode jdk_42_method_150_code 5 = .ok (.invokevirtual 552, 3) := by decide +kernel
theorem d20_0 : decode jdk_68_method_64_code 0 = .ok (.aload_n 0, 1) := by decide +kernel
theorem d20_1 : decode jdk_68_method_64_code 1 = .ok (.getfield 15, 3) := by decide +kernel
theorem d20_4 : decode jdk_68_method_64_code 4 = .ok (.areturn, 1) := by decide +kernel
def N_jdk_68_m_64 : MethodName := ⟨"java/lang/AbstractStringBuilder", "getValue", "()[B"⟩
def R_rm25 : Room := { frames := 0, cells := 0, slots := 0, locals := 0 }
theorem rm25 (G : Glob Z a0 iCS vSI) (q0 q1 : Addr) (kp0 : ClassId) (h0 : Heap) (Z0 : n0 ≤ h0.size) (O0 : Old Z n0 h0) (F_q0_value : Fld Z h0 q0 "java/lang/AbstractStringBuilder" "value" "[B" (.ref q1)) : MetH l Z EL0 n0 N_jdk_68_m_64 jdk_68_method_64_code 1 (some (.array (.byte))) [] R_rm25 #[.ref q0] h0 [] (fun vs v h ve => (v = some (.ref q1) ∧ (h0 = h))) := by
  refine MetH.of #[.val (.ref q0)] (plainFor_of_name pn_java_lang_AbstractStringBuilder) rfl Z0 (fun p e s m below meth c T0 hret hml hnm hSL hs0 X0 => ?_)
  refine kALn X0 d20_0 rfl rfl ?_
  refine kGETF X0 (wd G 48 rfl) Via.refl F_q0_value d20_1 (fun T1 X2 => ?_)
  exact kRETA X2 (gEL G) hret rfl rfl d20_4 (fun ve hve => ⟨rfl, rfl⟩) (by decide)
theorem pd____B : parseMethodDescriptor "()[B" = some ⟨[], some (.array (.byte))⟩ := by decide +kernel
theorem d19_8 : decode jdk_42_method_150_code 8 = .ok (.astore_n 3, 1) := by decide +kernel
theorem d19_9 : decode jdk_42_method_150_code 9 = .ok (.aload_n 1, 1) := by decide +kernel
theorem d19_10 : decode jdk_42_method_150_code 10 = .ok (.invokevirtual 549, 3) := by decide +kernel
theorem d21_0 : decode jdk_67_method_93_code 0 = .ok (.aload_n 0, 1) := by decide +kernel
theorem d21_1 : decode jdk_67_method_93_code 1 = .ok (.invokespecial 343, 3) := by decide +kernel
theorem d22_0 : decode jdk_68_method_6_code 0 = .ok (.aload_n 0, 1) := by decide +kernel
theorem d22_1 : decode jdk_68_method_6_code 1 = .ok (.getfield 79, 3) := by decide +kernel
theorem d22_4 : decode jdk_68_method_6_code 4 = .ok (.ireturn, 1) := by decide +kernel
def N_jdk_68_m_6 : MethodName := ⟨"java/lang/AbstractStringBuilder", "length", "()I"⟩
def R_rm27 : Room := { frames := 0, cells := 0, slots := 0, locals := 0 }
theorem rm27 (G : Glob Z a0 iCS vSI) (q0 q1 : Addr) (kp0 : ClassId) (h0 : Heap) (Z0 : n0 ≤ h0.size) (O0 : Old Z n0 h0) (F_q0_count : Fld Z h0 q0 "java/lang/AbstractStringBuilder" "count" "I" (.int 6)) : MetH l Z EL0 n0 N_jdk_68_m_6 jdk_68_method_6_code 1 (some .int) [] R_rm27 #[.ref q0] h0 [] (fun vs v h ve => (v = some (.int 6) ∧ (h0 = h))) := by
  refine MetH.of #[.val (.ref q0)] (plainFor_of_name pn_java_lang_AbstractStringBuilder) rfl Z0 (fun p e s m below meth c T0 hret hml hnm hSL hs0 X0 => ?_)
  refine kALn X0 d22_0 rfl rfl ?_
  refine kGETF X0 (wd G 72 rfl) Via.refl F_q0_count d22_1 (fun T1 X2 => ?_)
  exact kRETI X2 (gEL G) hret d22_4 (fun ve hve => ⟨rfl, rfl⟩) (by decide)
theorem d21_4 : decode jdk_67_method_93_code 4 = .ok (.ireturn, 1) := by decide +kernel
def N_jdk_67_m_93 : MethodName := ⟨"java/lang/StringBuilder", "length", "()I"⟩
def R_rm26 : Room := { frames := 1, cells := 0, slots := 0, locals := 12 }
theorem rm26 (G : Glob Z a0 iCS vSI) (q0 q1 : Addr) (kp0 : ClassId) (h0 : Heap) (Z0 : n0 ≤ h0.size) (O0 : Old Z n0 h0) (F_q0_count : Fld Z h0 q0 "java/lang/AbstractStringBuilder" "count" "I" (.int 6)) (E_q0 : Exa Z h0 q0 "java/lang/StringBuilder") : MetH l Z EL0 n0 N_jdk_67_m_93 jdk_67_method_93_code 1 (some .int) [] R_rm26 #[.ref q0] h0 [] (fun vs v h ve => (v = some (.int 6) ∧ (h0 = h))) := by
  refine MetH.of #[.val (.ref q0)] (plainFor_of_name pn_java_lang_StringBuilder) rfl Z0 (fun p e s m below meth c T0 hret hml hnm hSL hs0 X0 => ?_)
  refine kALn X0 d21_0 rfl rfl ?_
  refine kSUP X0 (gEL G) (argsL := []) (rest := []) (wd G 125 rfl) (own_same (wd G 121 rfl) (own_noface (wd G 77 rfl) rfl) (by decide)) (wd G 121 rfl) (wd G 59 rfl) (by decide) (wd G 44 rfl) (wd G 126 rfl) (Ins.of_exa E_q0 (wd G 43 rfl)) (rm27 G q0 q1 kp0 h0 X0.n O0 F_q0_count) all0 (lenOf pd___I rfl) rfl 0 rfl (by decide) hml.symm d21_1 (fun v1 T2 h3 vm4 _ w5 q6 C7 C8 X9 => ?_)
  obtain ⟨e11, f12⟩ := q6
  subst e11
  subst f12
  show Go _ _ _ _ _ (mkF _ _ _ [.int 6])
  exact kRETI X9 (gEL G) hret d21_4 (fun ve hve => ⟨rfl, rfl⟩) (by decide)
theorem d19_13 : decode jdk_42_method_150_code 13 = .ok (.istore 4, 2) := by decide +kernel
theorem d19_15 : decode jdk_42_method_150_code 15 = .ok (.aload_n 1, 1) := by decide +kernel
theorem d19_16 : decode jdk_42_method_150_code 16 = .ok (.invokevirtual 1047, 3) := by decide +kernel
theorem d23_0 : decode jdk_68_method_68_code 0 = .ok (.getstatic 18, 3) := by decide +kernel
theorem d23_3 : decode jdk_68_method_68_code 3 = .ok (.ifCond .eq 14, 3) := by decide +kernel
theorem d23_6 : decode jdk_68_method_68_code 6 = .ok (.aload_n 0, 1) := by decide +kernel
theorem d23_7 : decode jdk_68_method_68_code 7 = .ok (.getfield 22, 3) := by decide +kernel
theorem d23_10 : decode jdk_68_method_68_code 10 = .ok (.ifCond .ne 7, 3) := by decide +kernel
theorem d23_13 : decode jdk_68_method_68_code 13 = .ok (.iconst 1, 1) := by decide +kernel
theorem d23_14 : decode jdk_68_method_68_code 14 = .ok (.goto 4, 3) := by decide +kernel
theorem d23_18 : decode jdk_68_method_68_code 18 = .ok (.ireturn, 1) := by decide +kernel
def N_jdk_68_m_68 : MethodName := ⟨"java/lang/AbstractStringBuilder", "isLatin1", "()Z"⟩
def R_rm28 : Room := { frames := 0, cells := 0, slots := 0, locals := 0 }
theorem rm28 (G : Glob Z a0 iCS vSI) (q0 q1 : Addr) (kp0 : ClassId) (h0 : Heap) (Z0 : n0 ≤ h0.size) (O0 : Old Z n0 h0) (F_q0_coder : Fld Z h0 q0 "java/lang/AbstractStringBuilder" "coder" "B" (.int 0)) : MetH l Z EL0 n0 N_jdk_68_m_68 jdk_68_method_68_code 1 (some .boolean) [] R_rm28 #[.ref q0] h0 [] (fun vs v h ve => (v = some (.int 1) ∧ (h0 = h))) := by
  refine MetH.of #[.val (.ref q0)] (plainFor_of_name pn_java_lang_AbstractStringBuilder) rfl Z0 (fun p e s m below meth c T0 hret hml hnm hSL hs0 X0 => ?_)
  refine kGETS X0 (wd G 47 rfl) Via.refl (Sta.ext O0.2 (S_CS G)) d23_0 (fun T1 X2 => ?_)
  refine kIFf X2 d23_3 (XT.i0_eq_f (n_CS G)) ?_
  refine kALn X2 d23_6 rfl rfl ?_
  refine kGETF X2 (wd G 50 rfl) Via.refl F_q0_coder d23_7 (fun T3 X4 => ?_)
  refine kIFf X4 d23_10 (XT.i0_ne_f (by decide)) ?_
  refine kIC X4 1 d23_13 (by decide) ?_
  refine kGOTO X4 18 d23_14 (by decide) ?_
  exact kRETZ X4 (gEL G) (t := .boolean) hret (by simp) d23_18 (fun ve hve => ⟨rfl, rfl⟩) (by decide)
theorem pn_java_util_Arrays : plainName "java/util/Arrays" = true := by first | (simp [plainName, overriddenIn]; done) | decide +kernel
theorem pd___Z : parseMethodDescriptor "()Z" = some ⟨[], some .boolean⟩ := by decide +kernel
theorem d19_19 : decode jdk_42_method_150_code 19 = .ok (.ifCond .eq 22, 3) := by decide +kernel
theorem d19_22 : decode jdk_42_method_150_code 22 = .ok (.aload_n 0, 1) := by decide +kernel
theorem d19_23 : decode jdk_42_method_150_code 23 = .ok (.iconst 0, 1) := by decide +kernel
theorem d19_24 : decode jdk_42_method_150_code 24 = .ok (.putfield 15, 3) := by decide +kernel
theorem d19_27 : decode jdk_42_method_150_code 27 = .ok (.aload_n 0, 1) := by decide +kernel
theorem d19_28 : decode jdk_42_method_150_code 28 = .ok (.aload_n 3, 1) := by decide +kernel
theorem d19_29 : decode jdk_42_method_150_code 29 = .ok (.iconst 0, 1) := by decide +kernel
theorem d19_30 : decode jdk_42_method_150_code 30 = .ok (.iload 4, 2) := by decide +kernel
theorem d19_32 : decode jdk_42_method_150_code 32 = .ok (.invokestatic 54, 3) := by decide +kernel
theorem d24_0 : decode jdk_65_method_132_code 0 = .ok (.iload_n 1, 1) := by decide +kernel
theorem d24_1 : decode jdk_65_method_132_code 1 = .ok (.ifCond .ne 9, 3) := by decide +kernel
theorem d24_4 : decode jdk_65_method_132_code 4 = .ok (.iload_n 2, 1) := by decide +kernel
theorem d24_5 : decode jdk_65_method_132_code 5 = .ok (.aload_n 0, 1) := by decide +kernel
theorem d24_6 : decode jdk_65_method_132_code 6 = .ok (.arraylength, 1) := by decide +kernel
theorem d24_7 : decode jdk_65_method_132_code 7 = .ok (.if_icmp .eq 10, 3) := by decide +kernel
theorem d24_10 : decode jdk_65_method_132_code 10 = .ok (.aload_n 0, 1) := by decide +kernel
theorem d24_11 : decode jdk_65_method_132_code 11 = .ok (.iload_n 1, 1) := by decide +kernel
theorem d24_12 : decode jdk_65_method_132_code 12 = .ok (.iload_n 2, 1) := by decide +kernel
theorem d24_13 : decode jdk_65_method_132_code 13 = .ok (.invokestatic 339, 3) := by decide +kernel
theorem d25_0 : decode jdk_65_method_133_code 0 = .ok (.iload_n 1, 1) := by decide +kernel
theorem d25_1 : decode jdk_65_method_133_code 1 = .ok (.iload_n 2, 1) := by decide +kernel
theorem d25_2 : decode jdk_65_method_133_code 2 = .ok (.invokestatic 343, 3) := by decide +kernel
theorem d26_0 : decode jdk_65_method_131_code 0 = .ok (.iload_n 1, 1) := by decide +kernel
theorem d26_1 : decode jdk_65_method_131_code 1 = .ok (.iload_n 0, 1) := by decide +kernel
theorem d26_2 : decode jdk_65_method_131_code 2 = .ok (.if_icmp .ge 35, 3) := by decide +kernel
theorem d26_37 : decode jdk_65_method_131_code 37 = .ok (.return_, 1) := by decide +kernel
def N_jdk_65_m_131 : MethodName := ⟨"java/util/Arrays", "checkLength", "(II)V"⟩
def R_rm31 : Room := { frames := 0, cells := 0, slots := 0, locals := 0 }
theorem rm31 (G : Glob Z a0 iCS vSI)  (h0 : Heap) (Z0 : n0 ≤ h0.size) (O0 : Old Z n0 h0)  : MetH l Z EL0 n0 N_jdk_65_m_131 jdk_65_method_131_code 2 none [] R_rm31 #[.int 0, .int 6] h0 [] (fun vs v h ve => (v = none ∧ (h0 = h))) := by
  refine MetH.of #[.val (.int 0), .val (.int 6)] (plainFor_of_name pn_java_util_Arrays) rfl Z0 (fun p e s m below meth c T0 hret hml hnm hSL hs0 X0 => ?_)
  refine kILn X0 d26_0 rfl ?_
  refine kILn X0 d26_1 rfl ?_
  refine kICt X0 37 d26_2 (XT.ii_ge_t (by decide)) (by decide) ?_
  exact kRETV X0 (gEL G) hret d26_37 (fun ve hve => ⟨rfl, rfl⟩) (by decide)
theorem pf_java_lang_Math_min : plainFor ⟨"java/lang/Math", "min", "(II)I"⟩ = true := by decide +kernel
theorem pd__II_V : parseMethodDescriptor "(II)V" = some ⟨[.int, .int], none⟩ := by decide +kernel
theorem d25_5 : decode jdk_65_method_133_code 5 = .ok (.iload_n 2, 1) := by decide +kernel
theorem d25_6 : decode jdk_65_method_133_code 6 = .ok (.iload_n 1, 1) := by decide +kernel
theorem d25_7 : decode jdk_65_method_133_code 7 = .ok (.isub, 1) := by decide +kernel
theorem d25_8 : decode jdk_65_method_133_code 8 = .ok (.istore_n 3, 1) := by decide +kernel
theorem d25_9 : decode jdk_65_method_133_code 9 = .ok (.iload_n 3, 1) := by decide +kernel
theorem d25_10 : decode jdk_65_method_133_code 10 = .ok (.newarray .byte, 2) := by decide +kernel
theorem d25_12 : decode jdk_65_method_133_code 12 = .ok (.astore 4, 2) := by decide +kernel
theorem d25_14 : decode jdk_65_method_133_code 14 = .ok (.aload_n 0, 1) := by decide +kernel
theorem d25_15 : decode jdk_65_method_133_code 15 = .ok (.iload_n 1, 1) := by decide +kernel
theorem d25_16 : decode jdk_65_method_133_code 16 = .ok (.aload 4, 2) := by decide +kernel
theorem d25_18 : decode jdk_65_method_133_code 18 = .ok (.iconst 0, 1) := by decide +kernel
theorem d25_19 : decode jdk_65_method_133_code 19 = .ok (.aload_n 0, 1) := by decide +kernel
theorem d25_20 : decode jdk_65_method_133_code 20 = .ok (.arraylength, 1) := by decide +kernel
theorem d25_21 : decode jdk_65_method_133_code 21 = .ok (.iload_n 1, 1) := by decide +kernel
theorem d25_22 : decode jdk_65_method_133_code 22 = .ok (.isub, 1) := by decide +kernel
theorem d25_23 : decode jdk_65_method_133_code 23 = .ok (.iload_n 3, 1) := by decide +kernel
theorem d25_24 : decode jdk_65_method_133_code 24 = .ok (.invokestatic 304, 3) := by decide +kernel
theorem d27_0 : decode jdk_29_method_69_code 0 = .ok (.iload_n 0, 1) := by decide +kernel
theorem d27_1 : decode jdk_29_method_69_code 1 = .ok (.iload_n 1, 1) := by decide +kernel
theorem d27_2 : decode jdk_29_method_69_code 2 = .ok (.if_icmp .gt 7, 3) := by decide +kernel
theorem d27_9 : decode jdk_29_method_69_code 9 = .ok (.iload_n 1, 1) := by decide +kernel
theorem d27_10 : decode jdk_29_method_69_code 10 = .ok (.ireturn, 1) := by decide +kernel
def N_jdk_29_m_69 : MethodName := ⟨"java/lang/Math", "min", "(II)I"⟩
def R_rm32 : Room := { frames := 0, cells := 0, slots := 0, locals := 0 }
theorem rm32 (G : Glob Z a0 iCS vSI)  (h0 : Heap) (Z0 : n0 ≤ h0.size) (O0 : Old Z n0 h0)  : MetH l Z EL0 n0 N_jdk_29_m_69 jdk_29_method_69_code 2 (some .int) [] R_rm32 #[.int 16, .int 6] h0 [] (fun vs v h ve => (v = some (.int 6) ∧ (h0 = h))) := by
  refine MetH.of #[.val (.int 16), .val (.int 6)] pf_java_lang_Math_min rfl Z0 (fun p e s m below meth c T0 hret hml hnm hSL hs0 X0 => ?_)
  refine kILn X0 d27_0 rfl ?_
  refine kILn X0 d27_1 rfl ?_
  refine kICt X0 9 d27_2 (XT.ii_gt_t (by decide)) (by decide) ?_
  refine kILn X0 d27_9 rfl ?_
  exact kRETI X0 (gEL G) hret d27_10 (fun ve hve => ⟨rfl, rfl⟩) (by decide)
theorem pd__II_I : parseMethodDescriptor "(II)I" = some ⟨[.int, .int], some .int⟩ := by decide +kernel
theorem d25_27 : decode jdk_65_method_133_code 27 = .ok (.invokestatic 150, 3) := by decide +kernel
theorem d25_30 : decode jdk_65_method_133_code 30 = .ok (.aload 4, 2) := by decide +kernel
theorem d25_32 : decode jdk_65_method_133_code 32 = .ok (.areturn, 1) := by decide +kernel
def N_jdk_65_m_133 : MethodName := ⟨"java/util/Arrays", "copyOfRangeByte", "([BII)[B"⟩
def R_rm30 : Room := { frames := 1, cells := 1, slots := 6, locals := 18 }
theorem rm30 (G : Glob Z a0 iCS vSI) (q0 : Addr) (kp0 : ClassId) (h0 : Heap) (Z0 : n0 ≤ h0.size) (O0 : Old Z n0 h0) (A_q0 : Arv Z h0 q0 kp0 .byte 16 [.int 46, .int 108, .int 111, .int 119, .int 101, .int 114, .int 0, .int 0, .int 0, .int 0, .int 0, .int 0, .int 0, .int 0, .int 0, .int 0] (.int 0)) : MetH l Z EL0 n0 N_jdk_65_m_133 jdk_65_method_133_code 5 (some (.array (.byte))) [] R_rm30 #[.ref q0, .int 0, .int 6] h0 [] (fun vs v h ve => (∃ (x0 : Addr), ∃ (z0 : ClassId), v = some (.ref x0) ∧ (Keep h0 h []) ∧ (h0.size ≤ x0) ∧ (Arv Z h x0 z0 .byte 6 [.int 46, .int 108, .int 111, .int 119, .int 101, .int 114] (.int 0)) ∧ (Safe Z EL0 ve h x0))) := by
  refine MetH.of #[.val (.ref q0), .val (.int 0), .val (.int 6), .unset, .unset] (plainFor_of_name pn_java_util_Arrays) rfl Z0 (fun p e s m below meth c T0 hret hml hnm hSL hs0 X0 => ?_)
  refine kILn X0 d25_0 rfl ?_
  refine kILn X0 d25_1 rfl ?_
  refine kSTAT X0 (gEL G) (argsL := [.int 0, .int 6]) (rest := []) (wd G 139 rfl) (wd G 140 rfl) (wd G 134 rfl) (wd G 141 rfl) (by decide) (rm31 G  h0 X0.n O0 ) all0 (lenOf pd__II_V rfl) rfl 0 rfl (by decide) hml.symm d25_2 (fun v1 T2 h3 vm4 _ w5 q6 C7 C8 X9 => ?_)
  obtain ⟨e11, f12⟩ := q6
  subst e11
  subst f12
  show Go _ _ _ _ _ (mkF _ _ _ [])
  refine kILn X9 d25_5 rfl ?_
  refine kILn X9 d25_6 rfl ?_
  refine kISUB X9 6 d25_7 (by decide) ?_
  refine kISn X9 #[.val (.ref q0), .val (.int 0), .val (.int 6), .val (.int 6), .unset] d25_8 rfl ?_
  refine kILn X9 d25_9 rfl ?_
  refine kNEWP X9 (wd G 19 rfl) (cap := 6) d25_10 (by decide) (by decide) (by decide) (by decide) (by decide) (fun T13 h14 a16 k17 E18 q19 g20 A21 s22 X15 => ?_)
  have n23 : q0 ≠ a16 := Nat.ne_of_lt (Nat.lt_of_lt_of_le (A_q0.lt) (Nat.le_of_eq q19.symm))
  have g24 : h0.size ≤ a16 := q19 ▸ X9.g0
  have f25 : Arv Z h14 a16 k17 .byte 6 [.int 0, .int 0, .int 0, .int 0, .int 0, .int 0] (.int 0) := A21.pad (pad_rep [] _ 6)
  refine kAS X15 #[.val (.ref q0), .val (.int 0), .val (.int 6), .val (.int 6), .val (.ref a16)] d25_12 rfl rfl ?_
  refine kALn X15 d25_14 rfl rfl ?_
  refine kILn X15 d25_15 rfl ?_
  refine kAL X15 d25_16 rfl rfl ?_
  refine kIC X15 0 d25_18 (by decide) ?_
  refine kALn X15 d25_19 rfl rfl ?_
  have f26 := (Arv.ext A_q0 E18)
  refine kLEN X15 f26 d25_20 ?_
  refine kILn X15 d25_21 rfl ?_
  refine kISUB X15 16 d25_22 (by decide) ?_
  refine kILn X15 d25_23 rfl ?_
  have f27 := (Old.ext O0 E18)
  refine kSTAT X15 (gEL G) (argsL := [.int 16, .int 6]) (rest := [.int 0, .ref a16, .int 0, .ref q0]) (wd G 142 rfl) (wd G 143 rfl) (wd G 144 rfl) (wd G 145 rfl) (by decide) (rm32 G  h14 X15.n f27 ) all0 (lenOf pd__II_I rfl) rfl 4 rfl (by decide) hml.symm d25_24 (fun v28 T29 h30 vm31 _ w32 q33 C34 C35 X36 => ?_)
  obtain ⟨e38, f39⟩ := q33
  subst e38
  subst f39
  show Go _ _ _ _ _ (mkF _ _ _ [.int 6, .int 0, .ref a16, .int 0, .ref q0])
  have f40 := (CHr.safe C35 (f25.lt) s22)
  refine kCPA X36 (wd G 146 rfl) (wd G 98 rfl) (wd G 96 rfl) (wd G 97 rfl) f26 f25 (Or.inl ⟨rfl, rfl⟩) (us := [.int 46, .int 108, .int 111, .int 119, .int 101, .int 114]) (by decide) rfl (by show 6 ≤ 6; decide) g20 f40 hml.symm d25_27 (by decide) 0 (Nat.le_of_eq rfl) (by decide) (fun T41 h42 L44 K45 C46 f47 X43 => ?_)
  have f48 : Arv Z h42 a16 k17 .byte 6 [.int 46, .int 108, .int 111, .int 119, .int 101, .int 114] (.int 0) := f47
  refine kAL X43 d25_30 rfl rfl ?_
  have K49 : Keep h0 h42 [] := (Keep.trans (Keep.ext (Keep.refl h0 []) E18) K45 (allS (Or.inr g24) all0))
  have f50 := (CHr.safe C46 (f25.lt) f40)
  exact kRETA X43 (gEL G) hret rfl rfl d25_32 (fun ve hve => ⟨a16, k17, rfl, K49, g24, f48, (CHr.safe hve (f48.lt) f50)⟩) (by decide)
theorem pd___BII__B : parseMethodDescriptor "([BII)[B" = some ⟨[.array (.byte), .int, .int], some (.array (.byte))⟩ := by decide +kernel
theorem d24_16 : decode jdk_65_method_132_code 16 = .ok (.areturn, 1) := by decide +kernel
def N_jdk_65_m_132 : MethodName := ⟨"java/util/Arrays", "copyOfRange", "([BII)[B"⟩
def R_rm29 : Room := { frames := 2, cells := 1, slots := 6, locals := 34 }
theorem rm29 (G : Glob Z a0 iCS vSI) (q0 : Addr) (kp0 : ClassId) (h0 : Heap) (Z0 : n0 ≤ h0.size) (O0 : Old Z n0 h0) (A_q0 : Arv Z h0 q0 kp0 .byte 16 [.int 46, .int 108, .int 111, .int 119, .int 101, .int 114, .int 0, .int 0, .int 0, .int 0, .int 0, .int 0, .int 0, .int 0, .int 0, .int 0] (.int 0)) : MetH l Z EL0 n0 N_jdk_65_m_132 jdk_65_method_132_code 3 (some (.array (.byte))) [] R_rm29 #[.ref q0, .int 0, .int 6] h0 [] (fun vs v h ve => (∃ (x0 : Addr), ∃ (z0 : ClassId), v = some (.ref x0) ∧ (Keep h0 h []) ∧ (h0.size ≤ x0) ∧ (Arv Z h x0 z0 .byte 6 [.int 46, .int 108, .int 111, .int 119, .int 101, .int 114] (.int 0)) ∧ (Safe Z EL0 ve h x0))) := by
  refine MetH.of #[.val (.ref q0), .val (.int 0), .val (.int 6)] (plainFor_of_name pn_java_util_Arrays) rfl Z0 (fun p e s m below meth c T0 hret hml hnm hSL hs0 X0 => ?_)
  refine kILn X0 d24_0 rfl ?_
  refine kIFf X0 d24_1 (XT.i0_ne_f (by decide)) ?_
  refine kILn X0 d24_4 rfl ?_
  refine kALn X0 d24_5 rfl rfl ?_
  refine kLEN X0 A_q0 d24_6 ?_
  refine kICf X0 d24_7 (XT.ii_eq_f (by decide)) ?_
  refine kALn X0 d24_10 rfl rfl ?_
  refine kILn X0 d24_11 rfl ?_
  refine kILn X0 d24_12 rfl ?_
  refine kSTAT X0 (gEL G) (argsL := [.ref q0, .int 0, .int 6]) (rest := []) (wd G 136 rfl) (wd G 137 rfl) (wd G 134 rfl) (wd G 138 rfl) (by decide) (rm30 G q0 kp0 h0 X0.n O0 A_q0) all0 (lenOf pd___BII__B rfl) rfl 0 rfl (by decide) hml.symm d24_13 (fun v1 T2 h3 vm4 _ w5 q6 C7 C8 X9 => ?_)
  obtain ⟨a11, k12, e13, f14, f15, f16, f17⟩ := q6
  subst e13
  have n18 : q0 ≠ a11 := Nat.ne_of_lt (Nat.lt_of_lt_of_le (A_q0.lt) f15)
  have g19 : n0 ≤ a11 := Nat.le_trans X0.n f15
  have g20 : h0.size ≤ a11 := Nat.le_trans X0.g0 f15
  show Go _ _ _ _ _ (mkF _ _ _ [.ref a11])
  have K21 : Keep h0 h3 [] := (Keep.trans (Keep.refl h0 []) f14 all0)
  exact kRETA X9 (gEL G) hret rfl rfl d24_16 (fun ve hve => ⟨a11, k12, rfl, K21, g20, f16, (CHr.safe hve (f16.lt) f17)⟩) (by decide)
theorem d19_35 : decode jdk_42_method_150_code 35 = .ok (.putfield 9, 3) := by decide +kernel
theorem d19_38 : decode jdk_42_method_150_code 38 = .ok (.goto 59, 3) := by decide +kernel
theorem d19_97 : decode jdk_42_method_150_code 97 = .ok (.return_, 1) := by decide +kernel
def N_jdk_42_m_150 : MethodName := ⟨"java/lang/String", "<init>", "(Ljava/lang/AbstractStringBuilder;Ljava/lang/Void;)V"⟩
def R_rm24 : Room := { frames := 3, cells := 1, slots := 6, locals := 49 }
theorem rm24 (G : Glob Z a0 iCS vSI) (q0 q1 q2 : Addr) (kp0 : ClassId) (h0 : Heap) (Z0 : n0 ≤ h0.size) (O0 : Old Z n0 h0) (F_q1_value : Fld Z h0 q1 "java/lang/AbstractStringBuilder" "value" "[B" (.ref q2)) (E_q1 : Exa Z h0 q1 "java/lang/StringBuilder") (F_q1_count : Fld Z h0 q1 "java/lang/AbstractStringBuilder" "count" "I" (.int 6)) (F_q1_coder : Fld Z h0 q1 "java/lang/AbstractStringBuilder" "coder" "B" (.int 0)) (F_q0_coder : Fld Z h0 q0 "java/lang/String" "coder" "B" (.int 0)) (E_q0 : Exa Z h0 q0 "java/lang/String") (F_q0_value : Fld Z h0 q0 "java/lang/String" "value" "[B" (.null)) (A_q2 : Arv Z h0 q2 kp0 .byte 16 [.int 46, .int 108, .int 111, .int 119, .int 101, .int 114, .int 0, .int 0, .int 0, .int 0, .int 0, .int 0, .int 0, .int 0, .int 0, .int 0] (.int 0)) (d_q2_q0 : q2 ≠ q0) (g_q0 : n0 ≤ q0) : MetH l Z EL0 n0 N_jdk_42_m_150 jdk_42_method_150_code 5 none [] R_rm24 #[.ref q0, .ref q1, .null] h0 [q0] (fun vs v h ve => (∃ (x0 : Addr), ∃ (z0 : ClassId), v = none ∧ (Keep h0 h [q0]) ∧ (h0.size ≤ x0) ∧ (Arv Z h x0 z0 .byte 6 [.int 46, .int 108, .int 111, .int 119, .int 101, .int 114] (.int 0)) ∧ (Safe Z EL0 ve h x0) ∧ (Fld Z h q0 "java/lang/String" "coder" "B" (.int 0)) ∧ (Fld Z h q0 "java/lang/String" "value" "[B" (.ref x0)))) := by
  refine MetH.of #[.val (.ref q0), .val (.ref q1), .val .null, .unset, .unset] (plainFor_of_name pn_java_lang_String) rfl Z0 (fun p e s m below meth c T0 hret hml hnm hSL hs0 X0 => ?_)
  have S_q0 := hSL q0 (List.mem_of_getElem? (i := 0) rfl)
  refine kALn X0 d19_0 rfl rfl ?_
  refine kINIT X0 (wd G 11 rfl) (wd G 12 rfl) (wd G 13 rfl) hml.symm d19_1 (by decide) 0 (Nat.le_of_eq rfl) (by decide) (fun T1 X2 => ?_)
  refine kALn X2 d19_4 rfl rfl ?_
  refine kVIRT X2 (gEL G) (argsL := []) (rest := []) (wd G 114 rfl) (wd G 115 rfl) (own_nf X2.hZ (own_noface (wd G 77 rfl) rfl)) (wd G 117 rfl) (wd G 116 rfl) (wd G 44 rfl) (wd G 118 rfl) (by decide) E_q1 (rm25 G q1 q2 kp0 h0 X2.n O0 F_q1_value) all0 (lenOf pd____B rfl) rfl 0 rfl (by decide) hml.symm d19_5 (fun v3 T4 h5 vm6 _ w7 q8 C9 C10 X11 => ?_)
  obtain ⟨e13, f14⟩ := q8
  subst e13
  subst f14
  show Go _ _ _ _ _ (mkF _ _ _ [.ref q2])
  refine kASn X11 #[.val (.ref q0), .val (.ref q1), .val .null, .val (.ref q2), .unset] d19_8 rfl rfl ?_
  refine kALn X11 d19_9 rfl rfl ?_
  refine kVIRT X11 (gEL G) (argsL := []) (rest := []) (wd G 119 rfl) (wd G 120 rfl) (own_nf X11.hZ (own_noface (wd G 77 rfl) rfl)) (wd G 122 rfl) (wd G 123 rfl) (wd G 36 rfl) (wd G 124 rfl) (by decide) E_q1 (rm26 G q1 q2 kp0 h0 X11.n O0 F_q1_count E_q1) all0 (lenOf pd___I rfl) rfl 0 rfl (by decide) hml.symm d19_10 (fun v15 T16 h17 vm18 _ w19 q20 C21 C22 X23 => ?_)
  obtain ⟨e25, f26⟩ := q20
  subst e25
  subst f26
  show Go _ _ _ _ _ (mkF _ _ _ [.int 6])
  refine kIS X23 #[.val (.ref q0), .val (.ref q1), .val .null, .val (.ref q2), .val (.int 6)] d19_13 rfl ?_
  refine kALn X23 d19_15 rfl rfl ?_
  refine kVIRT X23 (gEL G) (argsL := []) (rest := []) (wd G 127 rfl) (wd G 128 rfl) (own_nf X23.hZ (own_noface (wd G 77 rfl) rfl)) (wd G 130 rfl) (wd G 129 rfl) (wd G 44 rfl) (wd G 131 rfl) (by decide) E_q1 (rm28 G q1 q2 kp0 h0 X23.n O0 F_q1_coder) all0 (lenOf pd___Z rfl) rfl 0 rfl (by decide) hml.symm d19_16 (fun v27 T28 h29 vm30 _ w31 q32 C33 C34 X35 => ?_)
  obtain ⟨e37, f38⟩ := q32
  subst e37
  subst f38
  show Go _ _ _ _ _ (mkF _ _ _ [.int 1])
  refine kIFf X35 d19_19 (XT.i0_eq_f (by decide)) ?_
  refine kALn X35 d19_22 rfl rfl ?_
  refine kIC X35 0 d19_23 (by decide) ?_
  have f39 := (CHr.safe C34 (F_q0_value.lt) (CHr.safe C22 (F_q0_value.lt) (CHr.safe C10 (F_q0_value.lt) S_q0)))
  refine kPUTF X35 (wd G 26 rfl) Via.refl F_q0_coder E_q0 (Or.inr ⟨(wd G 27 rfl), rfl, hnm⟩) (wd G 2 rfl) (ty := .byte) (by decide) (by decide) (by decide) g_q0 f39 d19_24 (fun T40 h41 L44 W43 X42 => ?_)
  have f45 := Fld.same W43 F_q0_coder
  refine kALn X42 d19_27 rfl rfl ?_
  refine kALn X42 d19_28 rfl rfl ?_
  refine kIC X42 0 d19_29 (by decide) ?_
  refine kIL X42 d19_30 rfl ?_
  have f46 := (Arv.other A_q2 W43 d_q2_q0)
  have f47 := (Old.wr O0 W43 g_q0)
  refine kSTAT X42 (gEL G) (argsL := [.ref q2, .int 0, .int 6]) (rest := [.ref q0]) (wd G 132 rfl) (wd G 133 rfl) (wd G 134 rfl) (wd G 135 rfl) (by decide) (rm29 G q2 kp0 h41 X42.n f47 f46) all0 (lenOf pd___BII__B rfl) rfl 1 rfl (by decide) hml.symm d19_32 (fun v48 T49 h50 vm51 _ w52 q53 C54 C55 X56 => ?_)
  obtain ⟨a58, k59, e60, f61, f62, f63, f64⟩ := q53
  subst e60
  have n65 : q0 ≠ a58 := Nat.ne_of_lt (Nat.lt_of_lt_of_le (f45.lt) f62)
  have f67 := (Exa.wr W43 E_q1)
  have n66 : q1 ≠ a58 := Nat.ne_of_lt (Nat.lt_of_lt_of_le (f67.lt) f62)
  have n68 : q2 ≠ a58 := Nat.ne_of_lt (Nat.lt_of_lt_of_le (f46.lt) f62)
  have g69 : n0 ≤ a58 := Nat.le_trans X42.n f62
  have g70 : h0.size ≤ a58 := Nat.le_trans X42.g0 f62
  show Go _ _ _ _ _ (mkF _ _ _ [.ref a58, .ref q0])
  have f71 := (Fld.keep (Fld.other W43 F_q0_value (Or.inr (slot_ne (Or.inr (wd G 29 rfl)) (Or.inr (wd G 27 rfl)) (by decide) (by decide : parseFieldDescriptor "[B" = some (.array (.byte))) (by decide : parseFieldDescriptor "B" = some .byte)))) f61 nin0)
  have f72 := (Exa.keep (Exa.wr W43 E_q0) f61)
  have f73 := (CHr.safe C55 (f45.lt) (Safe.wr W43 f39 X35.C.1 f39))
  refine kPUTF X56 (wd G 28 rfl) Via.refl f71 f72 (Or.inr ⟨(wd G 29 rfl), rfl, hnm⟩) (wd G 2 rfl) (ty := (.array (.byte))) (by decide) rfl rfl g_q0 f73 d19_35 (fun T74 h75 L78 W77 X76 => ?_)
  have f79 := Fld.same W77 f71
  refine kGOTO X76 97 d19_38 (by decide) ?_
  have K80 : Keep h0 h75 [q0] := (Keep.wr (Keep.trans (Keep.wr (Keep.refl h0 [q0]) W43 (Or.inl (List.mem_of_getElem? (i := 0) rfl))) f61 all0) W77 (Or.inl (List.mem_of_getElem? (i := 0) rfl)))
  have f81 := (Arv.other f63 W77 (Ne.symm n65))
  have f82 := (Safe.wr W77 f73 X56.C.1 f64)
  have f83 := (Fld.other W77 (Fld.keep f45 f61 nin0) (Or.inr (slot_ne (Or.inr (wd G 27 rfl)) (Or.inr (wd G 29 rfl)) (by decide) (by decide : parseFieldDescriptor "B" = some .byte) (by decide : parseFieldDescriptor "[B" = some (.array (.byte))))))
  exact kRETV X76 (gEL G) hret d19_97 (fun ve hve => ⟨a58, k59, rfl, K80, g70, f81, (CHr.safe hve (f81.lt) f82), f83, f79⟩) (by decide)
theorem pd__Ljava_lang_AbstractStringBuilder_Ljava_lang_Void__V : parseMethodDescriptor "(Ljava/lang/AbstractStringBuilder;Ljava/lang/Void;)V" = some ⟨[.object "java/lang/AbstractStringBuilder", .object "java/lang/Void"], none⟩ := by decide +kernel
theorem d18_6 : decode jdk_42_method_53_code 6 = .ok (.return_, 1) := by decide +kernel
def N_jdk_42_m_53 : MethodName := ⟨"java/lang/String", "<init>", "(Ljava/lang/StringBuilder;)V"⟩
def R_rm23 : Room := { frames := 4, cells := 1, slots := 6, locals := 65 }
theorem rm23 (G : Glob Z a0 iCS vSI) (q0 q1 q2 : Addr) (kp0 : ClassId) (h0 : Heap) (Z0 : n0 ≤ h0.size) (O0 : Old Z n0 h0) (F_q1_value : Fld Z h0 q1 "java/lang/AbstractStringBuilder" "value" "[B" (.ref q2)) (E_q1 : Exa Z h0 q1 "java/lang/StringBuilder") (F_q1_count : Fld Z h0 q1 "java/lang/AbstractStringBuilder" "count" "I" (.int 6)) (F_q1_coder : Fld Z h0 q1 "java/lang/AbstractStringBuilder" "coder" "B" (.int 0)) (F_q0_coder : Fld Z h0 q0 "java/lang/String" "coder" "B" (.int 0)) (E_q0 : Exa Z h0 q0 "java/lang/String") (F_q0_value : Fld Z h0 q0 "java/lang/String" "value" "[B" (.null)) (A_q2 : Arv Z h0 q2 kp0 .byte 16 [.int 46, .int 108, .int 111, .int 119, .int 101, .int 114, .int 0, .int 0, .int 0, .int 0, .int 0, .int 0, .int 0, .int 0, .int 0, .int 0] (.int 0)) (d_q2_q0 : q2 ≠ q0) (g_q0 : n0 ≤ q0) : MetH l Z EL0 n0 N_jdk_42_m_53 jdk_42_method_53_code 2 none [] R_rm23 #[.ref q0, .ref q1] h0 [q0] (fun vs v h ve => (∃ (x0 : Addr), ∃ (z0 : ClassId), v = none ∧ (Keep h0 h [q0]) ∧ (h0.size ≤ x0) ∧ (Arv Z h x0 z0 .byte 6 [.int 46, .int 108, .int 111, .int 119, .int 101, .int 114] (.int 0)) ∧ (Safe Z EL0 ve h x0) ∧ (Fld Z h q0 "java/lang/String" "coder" "B" (.int 0)) ∧ (Fld Z h q0 "java/lang/String" "value" "[B" (.ref x0)))) := by
  refine MetH.of #[.val (.ref q0), .val (.ref q1)] (plainFor_of_name pn_java_lang_String) rfl Z0 (fun p e s m below meth c T0 hret hml hnm hSL hs0 X0 => ?_)
  have S_q0 := hSL q0 (List.mem_of_getElem? (i := 0) rfl)
  refine kALn X0 d18_0 rfl rfl ?_
  refine kALn X0 d18_1 rfl rfl ?_
  refine kNULL X0 d18_2 ?_
  refine kSPEC X0 (gEL G) (argsL := [.ref q1, .null]) (rest := []) (wd G 111 rfl) (wd G 112 rfl) (wd G 3 rfl) (wd G 113 rfl) rfl (by decide) (rm24 G q0 q1 q2 kp0 h0 X0.n O0 F_q1_value E_q1 F_q1_count F_q1_coder F_q0_coder E_q0 F_q0_value A_q2 d_q2_q0 g_q0) (allS ⟨(E_q0.lt), S_q0⟩ all0) (lenOf pd__Ljava_lang_AbstractStringBuilder_Ljava_lang_Void__V rfl) rfl 0 rfl (by decide) hml.symm d18_3 (fun v1 T2 h3 vm4 _ w5 q6 C7 C8 X9 => ?_)
  obtain ⟨a11, k12, e13, f14, f15, f16, f17, f18, f19⟩ := q6
  subst e13
  have n20 : q0 ≠ a11 := Nat.ne_of_lt (Nat.lt_of_lt_of_le (E_q0.lt) f15)
  have n21 : q1 ≠ a11 := Nat.ne_of_lt (Nat.lt_of_lt_of_le (E_q1.lt) f15)
  have n22 : q2 ≠ a11 := Nat.ne_of_lt (Nat.lt_of_lt_of_le (A_q2.lt) f15)
  have g23 : n0 ≤ a11 := Nat.le_trans X0.n f15
  have g24 : h0.size ≤ a11 := Nat.le_trans X0.g0 f15
  show Go _ _ _ _ _ (mkF _ _ _ [])
  have K25 : Keep h0 h3 [q0] := (Keep.trans (Keep.refl h0 [q0]) f14 (allS (Or.inl (List.mem_of_getElem? (i := 0) rfl)) all0))
  exact kRETV X9 (gEL G) hret d18_6 (fun ve hve => ⟨a11, k12, rfl, K25, g24, f16, (CHr.safe hve (f16.lt) f17), f18, f19⟩) (by decide)
theorem pd__Ljava_lang_StringBuilder__V : parseMethodDescriptor "(Ljava/lang/StringBuilder;)V" = some ⟨[.object "java/lang/StringBuilder"], none⟩ := by decide +kernel
theorem d17_8 : decode jdk_67_method_42_code 8 = .ok (.areturn, 1) := by decide +kernel
def N_jdk_67_m_42 : MethodName := ⟨"java/lang/StringBuilder", "toString", "()Ljava/lang/String;"⟩
def R_rm22 : Room := { frames := 5, cells := 2, slots := 10, locals := 79 }
theorem rm22 (G : Glob Z a0 iCS vSI) (q0 q1 : Addr) (kp0 : ClassId) (h0 : Heap) (Z0 : n0 ≤ h0.size) (O0 : Old Z n0 h0) (E_q0 : Exa Z h0 q0 "java/lang/StringBuilder") (A_q1 : Arv Z h0 q1 kp0 .byte 16 [.int 46, .int 108, .int 111, .int 119, .int 101, .int 114, .int 0, .int 0, .int 0, .int 0, .int 0, .int 0, .int 0, .int 0, .int 0, .int 0] (.int 0)) (F_q0_value : Fld Z h0 q0 "java/lang/AbstractStringBuilder" "value" "[B" (.ref q1)) (F_q0_count : Fld Z h0 q0 "java/lang/AbstractStringBuilder" "count" "I" (.int 6)) (F_q0_coder : Fld Z h0 q0 "java/lang/AbstractStringBuilder" "coder" "B" (.int 0)) : MetH l Z EL0 n0 N_jdk_67_m_42 jdk_67_method_42_code 1 (some (.object "java/lang/String")) [] R_rm22 #[.ref q0] h0 [] (fun vs v h ve => (∃ (x0 : Addr), ∃ (x1 : Addr), ∃ (z0 : ClassId), v = some (.ref x0) ∧ (Keep h0 h []) ∧ (h0.size ≤ x0) ∧ (h0.size ≤ x1) ∧ (x0 ≠ x1) ∧ (Exa Z h x0 "java/lang/String") ∧ (Fld Z h x0 "java/lang/String" "coder" "B" (.int 0)) ∧ (Fld Z h x0 "java/lang/String" "value" "[B" (.ref x1)) ∧ (Safe Z EL0 ve h x0) ∧ (Arv Z h x1 z0 .byte 6 [.int 46, .int 108, .int 111, .int 119, .int 101, .int 114] (.int 0)) ∧ (Safe Z EL0 ve h x1))) := by
  refine MetH.of #[.val (.ref q0)] (plainFor_of_name pn_java_lang_StringBuilder) rfl Z0 (fun p e s m below meth c T0 hret hml hnm hSL hs0 X0 => ?_)
  refine kNEW X0 (wd G 107 rfl) (wd G 2 rfl) (wd G 3 rfl) d17_0 (by decide) (by decide) (fun T1 h2 a4 E5 q6 g7 A8 D9 s10 X3 => ?_)
  have n11 : q0 ≠ a4 := Nat.ne_of_lt (Nat.lt_of_lt_of_le (E_q0.lt) (Nat.le_of_eq q6.symm))
  have n12 : q1 ≠ a4 := Nat.ne_of_lt (Nat.lt_of_lt_of_le (A_q1.lt) (Nat.le_of_eq q6.symm))
  have g13 : h0.size ≤ a4 := q6 ▸ X0.g0
  have f14 : Fld Z h2 a4 "java/lang/String" "coder" "B" (.int 0) := D9 (Or.inr (wd G 27 rfl)) (ty := .byte) (by decide)
  have f15 : Fld Z h2 a4 "java/lang/String" "value" "[B" (.null) := D9 (Or.inr (wd G 29 rfl)) (ty := (.array (.byte))) (by decide)
  refine kDUP X3 d17_3 rfl ?_
  refine kALn X3 d17_4 rfl rfl ?_
  have f16 := (Fld.ext E5 F_q0_value)
  have f17 := (Exa.ext E5 E_q0)
  have f18 := (Fld.ext E5 F_q0_count)
  have f19 := (Fld.ext E5 F_q0_coder)
  have f20 := (Arv.ext A_q1 E5)
  have f21 := (Old.ext O0 E5)
  refine kSPEC X3 (gEL G) (argsL := [.ref q0]) (rest := [.ref a4]) (wd G 108 rfl) (wd G 109 rfl) (wd G 3 rfl) (wd G 110 rfl) rfl (by decide) (rm23 G a4 q0 q1 kp0 h2 X3.n f21 f16 f17 f18 f19 f14 A8 f15 f20 n12 g7) (allS ⟨(A8.lt), s10⟩ all0) (lenOf pd__Ljava_lang_StringBuilder__V rfl) rfl 1 rfl (by decide) hml.symm d17_5 (fun v22 T23 h24 vm25 _ w26 q27 C28 C29 X30 => ?_)
  obtain ⟨a32, k33, e34, f35, f36, f37, f38, f39, f40⟩ := q27
  subst e34
  have n41 : q0 ≠ a32 := Nat.ne_of_lt (Nat.lt_of_lt_of_le (f17.lt) f36)
  have n42 : q1 ≠ a32 := Nat.ne_of_lt (Nat.lt_of_lt_of_le (f20.lt) f36)
  have n43 : a4 ≠ a32 := Nat.ne_of_lt (Nat.lt_of_lt_of_le (A8.lt) f36)
  have g44 : n0 ≤ a32 := Nat.le_trans X3.n f36
  have g45 : h0.size ≤ a32 := Nat.le_trans X3.g0 f36
  show Go _ _ _ _ _ (mkF _ _ _ [.ref a4])
  have K46 : Keep h0 h24 [] := (Keep.trans (Keep.ext (Keep.refl h0 []) E5) f35 (allS (Or.inr g13) all0))
  have f47 := (Exa.keep A8 f35)
  have f48 := (CHr.safe C29 (f14.lt) s10)
  exact kRETA X30 (gEL G) hret rfl rfl d17_8 (fun ve hve => ⟨a4, a32, k33, rfl, K46, g13, g45, n43, f47, f39, f40, (CHr.safe hve (f47.lt) f48), f37, (CHr.safe hve (f37.lt) f38)⟩) (by decide)
theorem pn_com_example_tight_calculus_tightcalculus_Component : plainName "com/example/tight_calculus/tightcalculus/Component" = true := by first | (simp [plainName, overriddenIn]; done) | decide +kernel
theorem pd___Ljava_lang_String_ : parseMethodDescriptor "()Ljava/lang/String;" = some ⟨[], some (.object "java/lang/String")⟩ := by decide +kernel
theorem d6_28 : decode prog_3_method_8_code 28 = .ok (.areturn, 1) := by decide +kernel
def N_prog_3_m_8 : MethodName := ⟨"com/example/tight_calculus/tightcalculus/Component", "curveName", "(Ljava/lang/String;Z)Ljava/lang/String;"⟩
def R_rm3 : Room := { frames := 6, cells := 6, slots := 58, locals := 91 }
theorem rm3 (G : Glob Z a0 iCS vSI) (q0 q1 : Addr) (kp0 : ClassId) (h0 : Heap) (Z0 : n0 ≤ h0.size) (O0 : Old Z n0 h0) (E_q0 : Exa Z h0 q0 "java/lang/String") (A_q1 : Arv Z h0 q1 kp0 .byte 0 [] (.int 0)) (F_q0_value : Fld Z h0 q0 "java/lang/String" "value" "[B" (.ref q1)) (F_q0_coder : Fld Z h0 q0 "java/lang/String" "coder" "B" (.int 0)) : MetH l Z EL0 n0 N_prog_3_m_8 prog_3_method_8_code 2 (some (.object "java/lang/String")) [] R_rm3 #[.ref q0, .int 0] h0 [q0] (fun vs v h ve => (∃ (x0 : Addr), ∃ (x1 : Addr), ∃ (z0 : ClassId), v = some (.ref x0) ∧ (Keep h0 h []) ∧ (h0.size ≤ x0) ∧ (h0.size ≤ x1) ∧ (x0 ≠ x1) ∧ (Exa Z h x0 "java/lang/String") ∧ (Fld Z h x0 "java/lang/String" "coder" "B" (.int 0)) ∧ (Fld Z h x0 "java/lang/String" "value" "[B" (.ref x1)) ∧ (Safe Z EL0 ve h x0) ∧ (Arv Z h x1 z0 .byte 6 [.int 46, .int 108, .int 111, .int 119, .int 101, .int 114] (.int 0)) ∧ (Safe Z EL0 ve h x1))) := by
  refine MetH.of #[.val (.ref q0), .val (.int 0)] (plainFor_of_name pn_com_example_tight_calculus_tightcalculus_Component) rfl Z0 (fun p e s m below meth c T0 hret hml hnm hSL hs0 X0 => ?_)
  have S_q0 := hSL q0 (List.mem_of_getElem? (i := 0) rfl)
  refine kNEW X0 (wd G 34 rfl) (wd G 35 rfl) (wd G 36 rfl) d6_0 (by decide) (by decide) (fun T1 h2 a4 E5 q6 g7 A8 D9 s10 X3 => ?_)
  have n11 : q0 ≠ a4 := Nat.ne_of_lt (Nat.lt_of_lt_of_le (E_q0.lt) (Nat.le_of_eq q6.symm))
  have n12 : q1 ≠ a4 := Nat.ne_of_lt (Nat.lt_of_lt_of_le (A_q1.lt) (Nat.le_of_eq q6.symm))
  have g13 : h0.size ≤ a4 := q6 ▸ X0.g0
  have f14 : Fld Z h2 a4 "java/lang/AbstractStringBuilder" "value" "[B" (.null) := D9 (Or.inl (wd G 49 rfl)) (ty := (.array (.byte))) (by decide)
  have f15 : Fld Z h2 a4 "java/lang/AbstractStringBuilder" "coder" "B" (.int 0) := D9 (Or.inl (wd G 51 rfl)) (ty := .byte) (by decide)
  have f16 : Fld Z h2 a4 "java/lang/AbstractStringBuilder" "count" "I" (.int 0) := D9 (Or.inl (wd G 73 rfl)) (ty := .int) (by decide)
  refine kDUP X3 d6_3 rfl ?_
  have f17 := (Old.ext O0 E5)
  refine kSPEC X3 (gEL G) (argsL := []) (rest := [.ref a4]) (wd G 37 rfl) (wd G 38 rfl) (wd G 36 rfl) (wd G 39 rfl) rfl (by decide) (rm4 G a4 h2 X3.n f17 A8 f14 f15 f16 g7) all0 (lenOf pd___V rfl) rfl 1 rfl (by decide) hml.symm d6_4 (fun v18 T19 h20 vm21 _ w22 q23 C24 C25 X26 => ?_)
  obtain ⟨a28, k29, e30, f31, f32, f33, f34, f35, f36, f37⟩ := q23
  subst e30
  have f39 := (Exa.ext E5 E_q0)
  have n38 : q0 ≠ a28 := Nat.ne_of_lt (Nat.lt_of_lt_of_le (f39.lt) f32)
  have f41 := (Arv.ext A_q1 E5)
  have n40 : q1 ≠ a28 := Nat.ne_of_lt (Nat.lt_of_lt_of_le (f41.lt) f32)
  have n42 : a4 ≠ a28 := Nat.ne_of_lt (Nat.lt_of_lt_of_le (A8.lt) f32)
  have g43 : n0 ≤ a28 := Nat.le_trans X3.n f32
  have g44 : h0.size ≤ a28 := Nat.le_trans X3.g0 f32
  show Go _ _ _ _ _ (mkF _ _ _ [.ref a4])
  refine kALn X26 d6_7 rfl rfl ?_
  have f45 := (Fld.keep (Fld.ext E5 F_q0_value) f31 (ninS n11 nin0))
  have f46 := (Arv.keep f41 f31 (ninS n12 nin0))
  have f47 := (Fld.keep (Fld.ext E5 F_q0_coder) f31 (ninS n11 nin0))
  have f48 := (Exa.keep f39 f31)
  have f49 := (Exa.keep A8 f31)
  have f50 := (Old.keep f17 f31 (allS g7 all0))
  refine kVIRT X26 (gEL G) (argsL := [.ref q0]) (rest := []) (wd G 52 rfl) (wd G 53 rfl) (own_nf X26.hZ (own_noinst (wd G 35 rfl))) (wd G 55 rfl) (wd G 54 rfl) (wd G 36 rfl) (wd G 56 rfl) (by decide) f49 (rm6 G a4 q0 a28 q1 k29 kp0 h20 X26.n f50 f45 f46 f47 f48 f36 f37 f33 f35 f49 n42 g7 g43) (allS ⟨(f33.lt), f34⟩ all0) (lenOf pd__Ljava_lang_String__Ljava_lang_StringBuilder_ rfl) rfl 0 rfl (by decide) hml.symm d6_8 (fun v51 T52 h53 vm54 _ w55 q56 C57 C58 X59 => ?_)
  obtain ⟨e61, f62, f63, f64, f65, f66⟩ := q56
  subst e61
  show Go _ _ _ _ _ (mkF _ _ _ [.ref a4])
  refine kILn X59 d6_11 rfl ?_
  refine kIFt X59 20 d6_12 (XT.i0_eq_t (by decide)) (by decide) ?_
  refine kLDCT X59 (gEL G) (wd G 99 rfl) (gSA G) (by decide) (text := ".lower") (vs := [.int 46, .int 108, .int 111, .int 119, .int 101, .int 114]) (z := 6) (by decide) (by decide) (by decide) d6_20 (n := 24) (by decide) (by decide) (by decide) (by decide) (fun T67 h68 vm70 a71 b72 k73 E74 C75 f76 f77 f78 f79 n80 X69 => ?_)
  have f81 := (CHr.safe C75 ((Exa.keep f48 f62)).lt (CHr.safe C58 (f48.lt) (CHr.safe C25 (f39.lt) (Safe.ext E5 X0.C.1 S_q0))))
  have n82 := (n80 q0 f81).1
  have n83 := (n80 q0 f81).2
  have f84 := (Exa.ext E74 (Exa.keep f49 f62))
  have n85 := (n80 a4 (Safe.exa X69.hZ.alike f84 (by decide) (by decide))).1
  have n86 := (n80 a4 (Safe.exa X69.hZ.alike f84 (by decide) (by decide))).2
  have f87 := (CHr.safe C75 (f63.lt) (CHr.safe C58 (f33.lt) f34))
  have n88 := (n80 a28 f87).1
  have n89 := (n80 a28 f87).2
  have n90 : ∀ x, x < h0.size → Safe Z EL0 s.vm h0 x → x ≠ b72 := fun x hx S => (n80 x (CHr.safe (hs0 ▸ X69.C) hx S)).2
  have f91 := (Fld.ext E74 f65)
  have f92 := (Fld.ext E74 f66)
  have f93 := (Arv.ext f63 E74)
  have f94 := (Fld.ext E74 f64)
  have f95 := (Old.ext (Old.keep f50 f62 (allS g43 (allS g7 all0))) E74)
  refine kVIRT X69 (gEL G) (argsL := [.ref a71]) (rest := []) (wd G 52 rfl) (wd G 53 rfl) (own_nf X69.hZ (own_noinst (wd G 35 rfl))) (wd G 55 rfl) (wd G 54 rfl) (wd G 36 rfl) (wd G 56 rfl) (by decide) f84 (rm14 G a4 a71 a28 b72 k29 k73 h68 X69.n f95 f78 f79 f77 f76 f91 f92 f93 f94 f84 n42 g7 g43) (allS ⟨(f93.lt), f87⟩ all0) (lenOf pd__Ljava_lang_String__Ljava_lang_StringBuilder_ rfl) rfl 0 rfl (by decide) hml.symm d6_22 (fun v96 T97 h98 vm99 _ w100 q101 C102 C103 X104 => ?_)
  obtain ⟨e106, f107, f108, f109, f110, f111⟩ := q101
  subst e106
  show Go _ _ _ _ _ (mkF _ _ _ [.ref a4])
  have f112 := (Exa.keep f84 f107)
  have f113 := (Old.keep f95 f107 (allS g43 (allS g7 all0)))
  refine kVIRT X104 (gEL G) (argsL := []) (rest := []) (wd G 102 rfl) (wd G 103 rfl) (own_nf X104.hZ (own_noinst (wd G 35 rfl))) (wd G 105 rfl) (wd G 104 rfl) (wd G 36 rfl) (wd G 106 rfl) (by decide) f112 (rm22 G a4 a28 k29 h98 X104.n f113 f112 f108 f111 f110 f109) all0 (lenOf pd___Ljava_lang_String_ rfl) rfl 0 rfl (by decide) hml.symm d6_25 (fun v114 T115 h116 vm117 _ w118 q119 C120 C121 X122 => ?_)
  obtain ⟨a124, a125, k126, e127, f128, f129, f130, f131, f132, f133, f134, f135, f136, f137⟩ := q119
  subst e127
  have f139 := (Exa.keep (Exa.ext E74 (Exa.keep f48 f62)) f107)
  have n138 : q0 ≠ a124 := Nat.ne_of_lt (Nat.lt_of_lt_of_le (f139.lt) f129)
  have f141 := (Arv.keep (Arv.ext (Arv.keep f46 f62 (ninS n40 (ninS n12 nin0))) E74) f107 (ninS n40 (ninS n12 nin0)))
  have n140 : q1 ≠ a124 := Nat.ne_of_lt (Nat.lt_of_lt_of_le (f141.lt) f129)
  have n142 : a4 ≠ a124 := Nat.ne_of_lt (Nat.lt_of_lt_of_le (f112.lt) f129)
  have n143 : a28 ≠ a124 := Nat.ne_of_lt (Nat.lt_of_lt_of_le (f108.lt) f129)
  have f145 := (Exa.keep f76 f107)
  have n144 : a71 ≠ a124 := Nat.ne_of_lt (Nat.lt_of_lt_of_le (f145.lt) f129)
  have f147 := (Arv.keep f79 f107 (ninS (Ne.symm n89) (ninS (Ne.symm n86) nin0)))
  have n146 : b72 ≠ a124 := Nat.ne_of_lt (Nat.lt_of_lt_of_le (f147.lt) f129)
  have n148 : q0 ≠ a125 := Nat.ne_of_lt (Nat.lt_of_lt_of_le (f139.lt) f130)
  have n149 : q1 ≠ a125 := Nat.ne_of_lt (Nat.lt_of_lt_of_le (f141.lt) f130)
  have n150 : a4 ≠ a125 := Nat.ne_of_lt (Nat.lt_of_lt_of_le (f112.lt) f130)
  have n151 : a28 ≠ a125 := Nat.ne_of_lt (Nat.lt_of_lt_of_le (f108.lt) f130)
  have n152 : a71 ≠ a125 := Nat.ne_of_lt (Nat.lt_of_lt_of_le (f145.lt) f130)
  have n153 : b72 ≠ a125 := Nat.ne_of_lt (Nat.lt_of_lt_of_le (f147.lt) f130)
  have g154 : n0 ≤ a124 := Nat.le_trans X104.n f129
  have g155 : h0.size ≤ a124 := Nat.le_trans X104.g0 f129
  have g156 : n0 ≤ a125 := Nat.le_trans X104.n f130
  have g157 : h0.size ≤ a125 := Nat.le_trans X104.g0 f130
  show Go _ _ _ _ _ (mkF _ _ _ [.ref a124])
  have K158 : Keep h0 h116 [] := (Keep.trans (Keep.trans (Keep.ext (Keep.trans (Keep.trans (Keep.ext (Keep.refl h0 []) E5) f31 (allS (Or.inr g13) all0)) f62 (allS (Or.inr g44) (allS (Or.inr g13) all0))) E74) f107 (allS (Or.inr g44) (allS (Or.inr g13) all0))) f128 all0)
  exact kRETA X122 (gEL G) hret rfl rfl d6_28 (fun ve hve => ⟨a124, a125, k126, rfl, K158, g155, g157, f131, f132, f133, f134, (CHr.safe hve (f132.lt) f135), f136, (CHr.safe hve (f136.lt) f137)⟩) (by decide)
theorem pd__Ljava_lang_String_Z_Ljava_lang_String_ : parseMethodDescriptor "(Ljava/lang/String;Z)Ljava/lang/String;" = some ⟨[.object "java/lang/String", .boolean], some (.object "java/lang/String")⟩ := by decide +kernel
def R_rm34 : Room := { frames := 0, cells := 0, slots := 0, locals := 0 }
theorem rm34 (G : Glob Z a0 iCS vSI) (q0 q1 : Addr) (kp0 : ClassId) (h0 : Heap) (Z0 : n0 ≤ h0.size) (O0 : Old Z n0 h0) (F_q0_coder : Fld Z h0 q0 "java/lang/String" "coder" "B" (.int 0)) : MetH l Z EL0 n0 N_jdk_42_m_152 jdk_42_method_152_code 1 (some .byte) [] R_rm34 #[.ref q0] h0 [] (fun vs v h ve => (v = some (.int 0) ∧ (h0 = h))) := by
  refine MetH.of #[.val (.ref q0)] (plainFor_of_name pn_java_lang_String) rfl Z0 (fun p e s m below meth c T0 hret hml hnm hSL hs0 X0 => ?_)
  refine kGETS X0 (wd G 14 rfl) Via.refl (Sta.ext O0.2 (S_CS G)) d12_0 (fun T1 X2 => ?_)
  refine kIFf X2 d12_3 (XT.i0_eq_f (n_CS G)) ?_
  refine kALn X2 d12_6 rfl rfl ?_
  refine kGETF X2 (wd G 26 rfl) Via.refl F_q0_coder d12_7 (fun T3 X4 => ?_)
  refine kGOTO X4 14 d12_10 (by decide) ?_
  exact kRETZ X4 (gEL G) (t := .byte) hret (by simp) d12_14 (fun ve hve => ⟨rfl, rfl⟩) (by decide)
def R_rm33 : Room := { frames := 1, cells := 0, slots := 0, locals := 13 }
theorem rm33 (G : Glob Z a0 iCS vSI) (q0 q1 : Addr) (kp0 : ClassId) (h0 : Heap) (Z0 : n0 ≤ h0.size) (O0 : Old Z n0 h0) (F_q0_value : Fld Z h0 q0 "java/lang/String" "value" "[B" (.ref q1)) (A_q1 : Arv Z h0 q1 kp0 .byte 6 [.int 46, .int 108, .int 111, .int 119, .int 101, .int 114] (.int 0)) (F_q0_coder : Fld Z h0 q0 "java/lang/String" "coder" "B" (.int 0)) (E_q0 : Exa Z h0 q0 "java/lang/String") : MetH l Z EL0 n0 N_jdk_42_m_54 jdk_42_method_54_code 1 (some .int) [] R_rm33 #[.ref q0] h0 [] (fun vs v h ve => (v = some (.int 6) ∧ (h0 = h))) := by
  refine MetH.of #[.val (.ref q0)] (plainFor_of_name pn_java_lang_String) rfl Z0 (fun p e s m below meth c T0 hret hml hnm hSL hs0 X0 => ?_)
  refine kALn X0 d11_0 rfl rfl ?_
  refine kGETF X0 (wd G 28 rfl) Via.refl F_q0_value d11_1 (fun T1 X2 => ?_)
  refine kLEN X2 A_q1 d11_4 ?_
  refine kALn X2 d11_5 rfl rfl ?_
  refine kVIRT X2 (gEL G) (argsL := []) (rest := [.int 6]) (wd G 67 rfl) (wd G 68 rfl) (own_nf X2.hZ (own_noinst (wd G 2 rfl))) (wd G 70 rfl) (wd G 69 rfl) (wd G 3 rfl) (wd G 71 rfl) (by decide) E_q0 (rm34 G q0 q1 kp0 h0 X2.n O0 F_q0_coder) all0 (lenOf pd___B rfl) rfl 1 rfl (by decide) hml.symm d11_6 (fun v3 T4 h5 vm6 _ w7 q8 C9 C10 X11 => ?_)
  obtain ⟨e13, f14⟩ := q8
  subst e13
  subst f14
  show Go _ _ _ _ _ (mkF _ _ _ [.int 0, .int 6])
  refine kISHR X11 6 d11_9 (by decide) ?_
  exact kRETI X11 (gEL G) hret d11_10 (fun ve hve => ⟨rfl, rfl⟩) (by decide)
theorem d28_0 : decode jdk_42_method_56_code 0 = .ok (.aload_n 0, 1) := by decide +kernel
theorem d28_1 : decode jdk_42_method_56_code 1 = .ok (.invokevirtual 492, 3) := by decide +kernel
theorem d29_0 : decode jdk_42_method_154_code 0 = .ok (.getstatic 38, 3) := by decide +kernel
theorem d29_3 : decode jdk_42_method_154_code 3 = .ok (.ifCond .eq 14, 3) := by decide +kernel
theorem d29_6 : decode jdk_42_method_154_code 6 = .ok (.aload_n 0, 1) := by decide +kernel
theorem d29_7 : decode jdk_42_method_154_code 7 = .ok (.getfield 15, 3) := by decide +kernel
theorem d29_10 : decode jdk_42_method_154_code 10 = .ok (.ifCond .ne 7, 3) := by decide +kernel
theorem d29_13 : decode jdk_42_method_154_code 13 = .ok (.iconst 1, 1) := by decide +kernel
theorem d29_14 : decode jdk_42_method_154_code 14 = .ok (.goto 4, 3) := by decide +kernel
theorem d29_18 : decode jdk_42_method_154_code 18 = .ok (.ireturn, 1) := by decide +kernel
def N_jdk_42_m_154 : MethodName := ⟨"java/lang/String", "isLatin1", "()Z"⟩
def R_rm35 : Room := { frames := 0, cells := 0, slots := 0, locals := 0 }
theorem rm35 (G : Glob Z a0 iCS vSI) (i0 : Int32) (q0 q1 : Addr) (kp0 : ClassId) (L0 : List Value) (h0 : Heap) (Z0 : n0 ≤ h0.size) (O0 : Old Z n0 h0) (F_q0_coder : Fld Z h0 q0 "java/lang/String" "coder" "B" (.int 0)) : MetH l Z EL0 n0 N_jdk_42_m_154 jdk_42_method_154_code 1 (some .boolean) [] R_rm35 #[.ref q0] h0 [] (fun vs v h ve => (v = some (.int 1) ∧ (h0 = h))) := by
  refine MetH.of #[.val (.ref q0)] (plainFor_of_name pn_java_lang_String) rfl Z0 (fun p e s m below meth c T0 hret hml hnm hSL hs0 X0 => ?_)
  refine kGETS X0 (wd G 14 rfl) Via.refl (Sta.ext O0.2 (S_CS G)) d29_0 (fun T1 X2 => ?_)
  refine kIFf X2 d29_3 (XT.i0_eq_f (n_CS G)) ?_
  refine kALn X2 d29_6 rfl rfl ?_
  refine kGETF X2 (wd G 26 rfl) Via.refl F_q0_coder d29_7 (fun T3 X4 => ?_)
  refine kIFf X4 d29_10 (XT.i0_ne_f (by decide)) ?_
  refine kIC X4 1 d29_13 (by decide) ?_
  refine kGOTO X4 18 d29_14 (by decide) ?_
  exact kRETZ X4 (gEL G) (t := .boolean) hret (by simp) d29_18 (fun ve hve => ⟨rfl, rfl⟩) (by decide)
theorem pn_jdk_internal_util_Preconditions : plainName "jdk/internal/util/Preconditions" = true := by first | (simp [plainName, overriddenIn]; done) | decide +kernel
theorem d28_4 : decode jdk_42_method_56_code 4 = .ok (.ifCond .eq 12, 3) := by decide +kernel
theorem d28_7 : decode jdk_42_method_56_code 7 = .ok (.aload_n 0, 1) := by decide +kernel
theorem d28_8 : decode jdk_42_method_56_code 8 = .ok (.getfield 9, 3) := by decide +kernel
theorem d28_11 : decode jdk_42_method_56_code 11 = .ok (.iload_n 1, 1) := by decide +kernel
theorem d28_12 : decode jdk_42_method_56_code 12 = .ok (.invokestatic 495, 3) := by decide +kernel
theorem d30_0 : decode jdk_43_method_2_code 0 = .ok (.iload_n 1, 1) := by decide +kernel
theorem d30_1 : decode jdk_43_method_2_code 1 = .ok (.aload_n 0, 1) := by decide +kernel
theorem d30_2 : decode jdk_43_method_2_code 2 = .ok (.arraylength, 1) := by decide +kernel
theorem d30_3 : decode jdk_43_method_2_code 3 = .ok (.invokestatic 9, 3) := by decide +kernel
theorem d31_0 : decode jdk_42_method_155_code 0 = .ok (.iload_n 0, 1) := by decide +kernel
theorem d31_1 : decode jdk_42_method_155_code 1 = .ok (.iload_n 1, 1) := by decide +kernel
theorem d31_2 : decode jdk_42_method_155_code 2 = .ok (.getstatic 1053, 3) := by decide +kernel
theorem d31_5 : decode jdk_42_method_155_code 5 = .ok (.invokestatic 1059, 3) := by decide +kernel
theorem d32_0 : decode jdk_41_method_11_code 0 = .ok (.iload_n 0, 1) := by decide +kernel
theorem d32_1 : decode jdk_41_method_11_code 1 = .ok (.ifCond .lt 8, 3) := by decide +kernel
theorem d32_4 : decode jdk_41_method_11_code 4 = .ok (.iload_n 0, 1) := by decide +kernel
theorem d32_5 : decode jdk_41_method_11_code 5 = .ok (.iload_n 1, 1) := by decide +kernel
theorem d32_6 : decode jdk_41_method_11_code 6 = .ok (.if_icmp .lt 10, 3) := by decide +kernel
theorem d32_16 : decode jdk_41_method_11_code 16 = .ok (.iload_n 0, 1) := by decide +kernel
theorem d32_17 : decode jdk_41_method_11_code 17 = .ok (.ireturn, 1) := by decide +kernel
def N_jdk_41_m_11 : MethodName := ⟨"jdk/internal/util/Preconditions", "checkIndex", "(IILjava/util/function/BiFunction;)I"⟩
def R_gm_jdk_internal_util_Preconditions_checkIndex : Room := { frames := 0, cells := 0, slots := 0, locals := 0 }
theorem gm_jdk_internal_util_Preconditions_checkIndex (G : Glob Z a0 iCS vSI) (i0 i1 : Int32) (h0 : Heap) (Z0 : n0 ≤ h0.size) (O0 : Old Z n0 h0) (c_0 : ¬ i0 < 0) (c_1 : i0 < i1) : MetH l Z EL0 n0 N_jdk_41_m_11 jdk_41_method_11_code 3 (some .int) [] R_gm_jdk_internal_util_Preconditions_checkIndex #[.int i0, .int i1, vSI] h0 [] (fun vs v h ve => (v = some (.int i0) ∧ (h0 = h))) := by
  refine MetH.of #[.val (.int i0), .val (.int i1), .val (vSI)] (plainFor_of_name pn_jdk_internal_util_Preconditions) (own_ref (P := fun v => (#[.val (.int i0), .val (.int i1), .val (v)] : Array Slot) = (ownLay [.int i0, .int i1, v] ++ List.replicate (3 - (ownLay [.int i0, .int i1, v]).length) Slot.unset).toArray) (r_SI G) rfl (fun _ => rfl)) Z0 (fun p e s m below meth c T0 hret hml hnm hSL hs0 X0 => ?_)
  refine kILn X0 d32_0 rfl ?_
  refine kIFf X0 d32_1 (XT.i0_lt_f c_0) ?_
  refine kILn X0 d32_4 rfl ?_
  refine kILn X0 d32_5 rfl ?_
  refine kICt X0 16 d32_6 (XT.ii_lt_t c_1) (by decide) ?_
  refine kILn X0 d32_16 rfl ?_
  exact kRETI X0 (gEL G) hret d32_17 (fun ve hve => ⟨rfl, rfl⟩) (by decide)
theorem pd__IILjava_util_function_BiFunction__I : parseMethodDescriptor "(IILjava/util/function/BiFunction;)I" = some ⟨[.int, .int, .object "java/util/function/BiFunction"], some .int⟩ := by decide +kernel
theorem d31_8 : decode jdk_42_method_155_code 8 = .ok (.pop, 1) := by decide +kernel
theorem d31_9 : decode jdk_42_method_155_code 9 = .ok (.return_, 1) := by decide +kernel
def N_jdk_42_m_155 : MethodName := ⟨"java/lang/String", "checkIndex", "(II)V"⟩
def R_gm_java_lang_String_checkIndex : Room := { frames := 1, cells := 0, slots := 0, locals := 14 }
theorem gm_java_lang_String_checkIndex (G : Glob Z a0 iCS vSI) (i0 i1 : Int32) (h0 : Heap) (Z0 : n0 ≤ h0.size) (O0 : Old Z n0 h0) (c_0 : ¬ i0 < 0) (c_1 : i0 < i1) : MetH l Z EL0 n0 N_jdk_42_m_155 jdk_42_method_155_code 2 none [] R_gm_java_lang_String_checkIndex #[.int i0, .int i1] h0 [] (fun vs v h ve => (v = none ∧ (h0 = h))) := by
  refine MetH.of #[.val (.int i0), .val (.int i1)] (plainFor_of_name pn_java_lang_String) rfl Z0 (fun p e s m below meth c T0 hret hml hnm hSL hs0 X0 => ?_)
  refine kILn X0 d31_0 rfl ?_
  refine kILn X0 d31_1 rfl ?_
  refine kGETS X0 (wd G 165 rfl) Via.refl (Sta.ext O0.2 (S_SI G)) d31_2 (fun T1 X2 => ?_)
  refine kSTAT X2 (gEL G) (argsL := [.int i0, .int i1, vSI]) (rest := []) (wd G 167 rfl) (wd G 168 rfl) (wd G 166 rfl) (wd G 169 rfl) (by decide) (gm_jdk_internal_util_Preconditions_checkIndex G i0 i1 h0 X2.n O0 c_0 c_1) all0 (lenOf pd__IILjava_util_function_BiFunction__I rfl) rfl 0 rfl (by decide) hml.symm d31_5 (fun v3 T4 h5 vm6 _ w7 q8 C9 C10 X11 => ?_)
  obtain ⟨e13, f14⟩ := q8
  subst e13
  subst f14
  show Go _ _ _ _ _ (mkF _ _ _ [.int i0])
  refine kPOP X11 d31_8 rfl ?_
  exact kRETV X11 (gEL G) hret d31_9 (fun ve hve => ⟨rfl, rfl⟩) (by decide)
theorem pn_java_lang_StringLatin1 : plainName "java/lang/StringLatin1" = true := by first | (simp [plainName, overriddenIn]; done) | decide +kernel
theorem d30_6 : decode jdk_43_method_2_code 6 = .ok (.aload_n 0, 1) := by decide +kernel
theorem d30_7 : decode jdk_43_method_2_code 7 = .ok (.iload_n 1, 1) := by decide +kernel
theorem d30_8 : decode jdk_43_method_2_code 8 = .ok (.baload, 1) := by decide +kernel
theorem d30_9 : decode jdk_43_method_2_code 9 = .ok (.sipush 255, 3) := by decide +kernel
theorem d30_12 : decode jdk_43_method_2_code 12 = .ok (.iand, 1) := by decide +kernel
theorem d30_13 : decode jdk_43_method_2_code 13 = .ok (.i2c, 1) := by decide +kernel
theorem d30_14 : decode jdk_43_method_2_code 14 = .ok (.ireturn, 1) := by decide +kernel
def N_jdk_43_m_2 : MethodName := ⟨"java/lang/StringLatin1", "charAt", "([BI)C"⟩
def R_gm_ca1 : Room := { frames := 2, cells := 0, slots := 0, locals := 27 }
theorem gm_ca1 (G : Glob Z a0 iCS vSI) (i0 i1 bb cc : Int32) (L0 : List Value) (q0 : Addr) (kp0 : ClassId) (h0 : Heap) (Z0 : n0 ≤ h0.size) (O0 : Old Z n0 h0) (hv : L0.getD i0.toNatClampNeg (.int 0) = .int bb) (hcc : (bb &&& (255 : Int32)) = cc) (A_q0 : Arv Z h0 q0 kp0 .byte i1 L0 (.int 0)) (c_0 : ¬ i0 < 0) (c_1 : i0 < i1) : MetH l Z EL0 n0 N_jdk_43_m_2 jdk_43_method_2_code 2 (some .char) [] R_gm_ca1 #[.ref q0, .int i0] h0 [] (fun vs v h ve => (v = some (.int cc) ∧ (h0 = h))) := by
  refine MetH.of #[.val (.ref q0), .val (.int i0)] (plainFor_of_name pn_java_lang_StringLatin1) rfl Z0 (fun p e s m below meth c T0 hret hml hnm hSL hs0 X0 => ?_)
  refine kILn X0 d30_0 rfl ?_
  refine kALn X0 d30_1 rfl rfl ?_
  refine kLEN X0 A_q0 d30_2 ?_
  refine kSTAT X0 (gEL G) (argsL := [.int i0, .int i1]) (rest := []) (wd G 162 rfl) (wd G 163 rfl) (wd G 3 rfl) (wd G 164 rfl) (by decide) (gm_java_lang_String_checkIndex G i0 i1 h0 X0.n O0 c_0 c_1) all0 (lenOf pd__II_V rfl) rfl 0 rfl (by decide) hml.symm d30_3 (fun v1 T2 h3 vm4 _ w5 q6 C7 C8 X9 => ?_)
  obtain ⟨e11, f12⟩ := q6
  subst e11
  subst f12
  show Go _ _ _ _ _ (mkF _ _ _ [])
  refine kALn X9 d30_6 rfl rfl ?_
  refine kILn X9 d30_7 rfl ?_
  refine kBALD X9 (.int bb) A_q0 ⟨c_0, c_1⟩ hv d30_8 ?_
  refine kSI X9 255 d30_9 (by decide) ?_
  refine kIAND X9 cc d30_12 hcc ?_
  refine kI2C X9 cc d30_13 (own_cc hcc) ?_
  exact kRETZ X9 (gEL G) (t := .char) hret (by simp) d30_14 (fun ve hve => ⟨(by rw [own_ncc hcc]), rfl⟩) (by decide)
theorem pd___BI_C : parseMethodDescriptor "([BI)C" = some ⟨[.array (.byte), .int], some .char⟩ := by decide +kernel
theorem d28_15 : decode jdk_42_method_56_code 15 = .ok (.ireturn, 1) := by decide +kernel
def N_jdk_42_m_56 : MethodName := ⟨"java/lang/String", "charAt", "(I)C"⟩
def R_gm_ca2 : Room := { frames := 3, cells := 0, slots := 0, locals := 40 }
theorem gm_ca2 (G : Glob Z a0 iCS vSI) (i0 i1 bb cc : Int32) (L0 : List Value) (q0 q1 : Addr) (kp0 : ClassId) (h0 : Heap) (Z0 : n0 ≤ h0.size) (O0 : Old Z n0 h0) (hv : L0.getD i0.toNatClampNeg (.int 0) = .int bb) (hcc : (bb &&& (255 : Int32)) = cc) (F_q0_coder : Fld Z h0 q0 "java/lang/String" "coder" "B" (.int 0)) (E_q0 : Exa Z h0 q0 "java/lang/String") (F_q0_value : Fld Z h0 q0 "java/lang/String" "value" "[B" (.ref q1)) (A_q1 : Arv Z h0 q1 kp0 .byte i1 L0 (.int 0)) (c_0 : ¬ i0 < 0) (c_1 : i0 < i1) : MetH l Z EL0 n0 N_jdk_42_m_56 jdk_42_method_56_code 2 (some .char) [] R_gm_ca2 #[.ref q0, .int i0] h0 [] (fun vs v h ve => (v = some (.int cc) ∧ (h0 = h))) := by
  refine MetH.of #[.val (.ref q0), .val (.int i0)] (plainFor_of_name pn_java_lang_String) rfl Z0 (fun p e s m below meth c T0 hret hml hnm hSL hs0 X0 => ?_)
  refine kALn X0 d28_0 rfl rfl ?_
  refine kVIRT X0 (gEL G) (argsL := []) (rest := []) (wd G 153 rfl) (wd G 154 rfl) (own_nf X0.hZ (own_noinst (wd G 2 rfl))) (wd G 156 rfl) (wd G 155 rfl) (wd G 3 rfl) (wd G 157 rfl) (by decide) E_q0 (rm35 G i1 q0 q1 kp0 L0 h0 X0.n O0 F_q0_coder) all0 (lenOf pd___Z rfl) rfl 0 rfl (by decide) hml.symm d28_1 (fun v1 T2 h3 vm4 _ w5 q6 C7 C8 X9 => ?_)
  obtain ⟨e11, f12⟩ := q6
  subst e11
  subst f12
  show Go _ _ _ _ _ (mkF _ _ _ [.int 1])
  refine kIFf X9 d28_4 (XT.i0_eq_f (by decide)) ?_
  refine kALn X9 d28_7 rfl rfl ?_
  refine kGETF X9 (wd G 28 rfl) Via.refl F_q0_value d28_8 (fun T13 X14 => ?_)
  refine kILn X14 d28_11 rfl ?_
  refine kSTAT X14 (gEL G) (argsL := [.ref q1, .int i0]) (rest := []) (wd G 158 rfl) (wd G 159 rfl) (wd G 160 rfl) (wd G 161 rfl) (by decide) (gm_ca1 G i0 i1 bb cc L0 q1 kp0 h0 X14.n O0 hv hcc A_q1 c_0 c_1) all0 (lenOf pd___BI_C rfl) rfl 0 rfl (by decide) hml.symm d28_12 (fun v15 T16 h17 vm18 _ w19 q20 C21 C22 X23 => ?_)
  obtain ⟨e25, f26⟩ := q20
  subst e25
  subst f26
  show Go _ _ _ _ _ (mkF _ _ _ [.int cc])
  exact kRETZ X23 (gEL G) (t := .char) hret (by simp) d28_15 (fun ve hve => ⟨(by rw [own_ncc hcc]), rfl⟩) (by decide)
theorem pd__I_C : parseMethodDescriptor "(I)C" = some ⟨[.int], some .char⟩ := by decide +kernel
theorem d6_15 : decode prog_3_method_8_code 15 = .ok (.ldc 69, 2) := by decide +kernel
theorem d6_17 : decode prog_3_method_8_code 17 = .ok (.goto 5, 3) := by decide +kernel
def R_rm40 : Room := { frames := 0, cells := 0, slots := 0, locals := 0 }
theorem rm40 (G : Glob Z a0 iCS vSI) (q0 q1 : Addr) (kp0 : ClassId) (h0 : Heap) (Z0 : n0 ≤ h0.size) (O0 : Old Z n0 h0) (F_q0_coder : Fld Z h0 q0 "java/lang/String" "coder" "B" (.int 0)) : MetH l Z EL0 n0 N_jdk_42_m_152 jdk_42_method_152_code 1 (some .byte) [] R_rm40 #[.ref q0] h0 [] (fun vs v h ve => (v = some (.int 0) ∧ (h0 = h))) := by
  refine MetH.of #[.val (.ref q0)] (plainFor_of_name pn_java_lang_String) rfl Z0 (fun p e s m below meth c T0 hret hml hnm hSL hs0 X0 => ?_)
  refine kGETS X0 (wd G 14 rfl) Via.refl (Sta.ext O0.2 (S_CS G)) d12_0 (fun T1 X2 => ?_)
  refine kIFf X2 d12_3 (XT.i0_eq_f (n_CS G)) ?_
  refine kALn X2 d12_6 rfl rfl ?_
  refine kGETF X2 (wd G 26 rfl) Via.refl F_q0_coder d12_7 (fun T3 X4 => ?_)
  refine kGOTO X4 14 d12_10 (by decide) ?_
  exact kRETZ X4 (gEL G) (t := .byte) hret (by simp) d12_14 (fun ve hve => ⟨rfl, rfl⟩) (by decide)
def R_rm39 : Room := { frames := 1, cells := 0, slots := 0, locals := 13 }
theorem rm39 (G : Glob Z a0 iCS vSI) (q0 q1 : Addr) (kp0 : ClassId) (h0 : Heap) (Z0 : n0 ≤ h0.size) (O0 : Old Z n0 h0) (F_q0_value : Fld Z h0 q0 "java/lang/String" "value" "[B" (.ref q1)) (A_q1 : Arv Z h0 q1 kp0 .byte 6 [.int 46, .int 117, .int 112, .int 112, .int 101, .int 114] (.int 0)) (F_q0_coder : Fld Z h0 q0 "java/lang/String" "coder" "B" (.int 0)) (E_q0 : Exa Z h0 q0 "java/lang/String") : MetH l Z EL0 n0 N_jdk_42_m_54 jdk_42_method_54_code 1 (some .int) [] R_rm39 #[.ref q0] h0 [] (fun vs v h ve => (v = some (.int 6) ∧ (h0 = h))) := by
  refine MetH.of #[.val (.ref q0)] (plainFor_of_name pn_java_lang_String) rfl Z0 (fun p e s m below meth c T0 hret hml hnm hSL hs0 X0 => ?_)
  refine kALn X0 d11_0 rfl rfl ?_
  refine kGETF X0 (wd G 28 rfl) Via.refl F_q0_value d11_1 (fun T1 X2 => ?_)
  refine kLEN X2 A_q1 d11_4 ?_
  refine kALn X2 d11_5 rfl rfl ?_
  refine kVIRT X2 (gEL G) (argsL := []) (rest := [.int 6]) (wd G 67 rfl) (wd G 68 rfl) (own_nf X2.hZ (own_noinst (wd G 2 rfl))) (wd G 70 rfl) (wd G 69 rfl) (wd G 3 rfl) (wd G 71 rfl) (by decide) E_q0 (rm40 G q0 q1 kp0 h0 X2.n O0 F_q0_coder) all0 (lenOf pd___B rfl) rfl 1 rfl (by decide) hml.symm d11_6 (fun v3 T4 h5 vm6 _ w7 q8 C9 C10 X11 => ?_)
  obtain ⟨e13, f14⟩ := q8
  subst e13
  subst f14
  show Go _ _ _ _ _ (mkF _ _ _ [.int 0, .int 6])
  refine kISHR X11 6 d11_9 (by decide) ?_
  exact kRETI X11 (gEL G) hret d11_10 (fun ve hve => ⟨rfl, rfl⟩) (by decide)
def R_rm42 : Room := { frames := 1, cells := 0, slots := 0, locals := 13 }
theorem rm42 (G : Glob Z a0 iCS vSI) (q0 q1 q2 q3 : Addr) (kp0 kp1 : ClassId) (h0 : Heap) (Z0 : n0 ≤ h0.size) (O0 : Old Z n0 h0) (F_q0_coder : Fld Z h0 q0 "java/lang/AbstractStringBuilder" "coder" "B" (.int 0)) (F_q1_coder : Fld Z h0 q1 "java/lang/String" "coder" "B" (.int 0)) (E_q1 : Exa Z h0 q1 "java/lang/String") : MetH l Z EL0 n0 N_jdk_68_m_71 jdk_68_method_71_code 2 none [] R_rm42 #[.ref q0, .ref q1] h0 [] (fun vs v h ve => (v = none ∧ (h0 = h))) := by
  refine MetH.of #[.val (.ref q0), .val (.ref q1)] (plainFor_of_name pn_java_lang_AbstractStringBuilder) rfl Z0 (fun p e s m below meth c T0 hret hml hnm hSL hs0 X0 => ?_)
  refine kGETS X0 (wd G 47 rfl) Via.refl (Sta.ext O0.2 (S_CS G)) d15_0 (fun T1 X2 => ?_)
  refine kIFf X2 d15_3 (XT.i0_eq_f (n_CS G)) ?_
  refine kALn X2 d15_6 rfl rfl ?_
  refine kGETF X2 (wd G 50 rfl) Via.refl F_q0_coder d15_7 (fun T3 X4 => ?_)
  refine kALn X4 d15_10 rfl rfl ?_
  refine kVIRT X4 (gEL G) (argsL := []) (rest := [.int 0]) (wd G 89 rfl) (wd G 68 rfl) (own_nf X4.hZ (own_noinst (wd G 2 rfl))) (wd G 70 rfl) (wd G 69 rfl) (wd G 3 rfl) (wd G 71 rfl) (by decide) E_q1 (rm40 G q1 q3 kp1 h0 X4.n O0 F_q1_coder) all0 (lenOf pd___B rfl) rfl 1 rfl (by decide) hml.symm d15_11 (fun v5 T6 h7 vm8 _ w9 q10 C11 C12 X13 => ?_)
  obtain ⟨e15, f16⟩ := q10
  subst e15
  subst f16
  show Go _ _ _ _ _ (mkF _ _ _ [.int 0, .int 0])
  refine kICt X13 21 d15_14 (XT.ii_eq_t (by decide)) (by decide) ?_
  exact kRETV X13 (gEL G) hret d15_21 (fun ve hve => ⟨rfl, rfl⟩) (by decide)
def R_rm43 : Room := { frames := 1, cells := 0, slots := 0, locals := 18 }
theorem rm43 (G : Glob Z a0 iCS vSI) (q0 q1 q2 : Addr) (kp0 kp1 : ClassId) (h0 : Heap) (Z0 : n0 ≤ h0.size) (O0 : Old Z n0 h0) (F_q0_coder : Fld Z h0 q0 "java/lang/String" "coder" "B" (.int 0)) (E_q0 : Exa Z h0 q0 "java/lang/String") (F_q0_value : Fld Z h0 q0 "java/lang/String" "value" "[B" (.ref q2)) (A_q2 : Arv Z h0 q2 kp1 .byte 6 [.int 46, .int 117, .int 112, .int 112, .int 101, .int 114] (.int 0)) (A_q1 : Arv Z h0 q1 kp0 .byte 16 [.int 0, .int 0, .int 0, .int 0, .int 0, .int 0, .int 0, .int 0, .int 0, .int 0, .int 0, .int 0, .int 0, .int 0, .int 0, .int 0] (.int 0)) (g_q1 : n0 ≤ q1) : MetH l Z EL0 n0 N_jdk_42_m_147 jdk_42_method_147_code 4 none [] R_rm43 #[.ref q0, .ref q1, .int 0, .int 0] h0 [q1] (fun vs v h ve => (v = none ∧ (Keep h0 h [q1]) ∧ (Arv Z h q1 kp0 .byte 16 [.int 46, .int 117, .int 112, .int 112, .int 101, .int 114, .int 0, .int 0, .int 0, .int 0, .int 0, .int 0, .int 0, .int 0, .int 0, .int 0] (.int 0)))) := by
  refine MetH.of #[.val (.ref q0), .val (.ref q1), .val (.int 0), .val (.int 0)] (plainFor_of_name pn_java_lang_String) rfl Z0 (fun p e s m below meth c T0 hret hml hnm hSL hs0 X0 => ?_)
  have S_q1 := hSL q1 (List.mem_of_getElem? (i := 0) rfl)
  refine kALn X0 d16_0 rfl rfl ?_
  refine kVIRT X0 (gEL G) (argsL := []) (rest := []) (wd G 67 rfl) (wd G 68 rfl) (own_nf X0.hZ (own_noinst (wd G 2 rfl))) (wd G 70 rfl) (wd G 69 rfl) (wd G 3 rfl) (wd G 71 rfl) (by decide) E_q0 (rm40 G q0 q2 kp1 h0 X0.n O0 F_q0_coder) all0 (lenOf pd___B rfl) rfl 0 rfl (by decide) hml.symm d16_1 (fun v1 T2 h3 vm4 _ w5 q6 C7 C8 X9 => ?_)
  obtain ⟨e11, f12⟩ := q6
  subst e11
  subst f12
  show Go _ _ _ _ _ (mkF _ _ _ [.int 0])
  refine kILn X9 d16_4 rfl ?_
  refine kICf X9 d16_5 (XT.ii_ne_f (by decide)) ?_
  refine kALn X9 d16_8 rfl rfl ?_
  refine kGETF X9 (wd G 28 rfl) Via.refl F_q0_value d16_9 (fun T13 X14 => ?_)
  refine kIC X14 0 d16_12 (by decide) ?_
  refine kALn X14 d16_13 rfl rfl ?_
  refine kILn X14 d16_14 rfl ?_
  refine kILn X14 d16_15 rfl ?_
  refine kISHL X14 0 d16_16 (by decide) ?_
  refine kALn X14 d16_17 rfl rfl ?_
  refine kGETF X14 (wd G 28 rfl) Via.refl F_q0_value d16_18 (fun T15 X16 => ?_)
  refine kLEN X16 A_q2 d16_21 ?_
  have f17 := (CHr.safe C8 (A_q1.lt) S_q1)
  refine kCPA X16 (wd G 95 rfl) (wd G 98 rfl) (wd G 96 rfl) (wd G 97 rfl) A_q2 A_q1 (Or.inl ⟨rfl, rfl⟩) (us := [.int 46, .int 117, .int 112, .int 112, .int 101, .int 114]) (by decide) rfl (by show 6 ≤ 16; decide) g_q1 f17 hml.symm d16_22 (by decide) 0 (Nat.le_of_eq rfl) (by decide) (fun T18 h19 L21 K22 C23 f24 X20 => ?_)
  have f25 : Arv Z h19 q1 kp0 .byte 16 [.int 46, .int 117, .int 112, .int 112, .int 101, .int 114, .int 0, .int 0, .int 0, .int 0, .int 0, .int 0, .int 0, .int 0, .int 0, .int 0] (.int 0) := f24
  refine kGOTO X20 43 d16_25 (by decide) ?_
  have K26 : Keep h0 h19 [q1] := (Keep.trans (Keep.refl h0 [q1]) K22 (allS (Or.inl (List.mem_of_getElem? (i := 0) rfl)) all0))
  exact kRETV X20 (gEL G) hret d16_43 (fun ve hve => ⟨rfl, K26, f25⟩) (by decide)
def R_rm41 : Room := { frames := 2, cells := 0, slots := 0, locals := 33 }
theorem rm41 (G : Glob Z a0 iCS vSI) (q0 q1 q2 q3 : Addr) (kp0 kp1 : ClassId) (h0 : Heap) (Z0 : n0 ≤ h0.size) (O0 : Old Z n0 h0) (F_q0_coder : Fld Z h0 q0 "java/lang/AbstractStringBuilder" "coder" "B" (.int 0)) (F_q1_coder : Fld Z h0 q1 "java/lang/String" "coder" "B" (.int 0)) (E_q1 : Exa Z h0 q1 "java/lang/String") (E_q0 : Exa Z h0 q0 "java/lang/StringBuilder") (F_q0_value : Fld Z h0 q0 "java/lang/AbstractStringBuilder" "value" "[B" (.ref q2)) (F_q1_value : Fld Z h0 q1 "java/lang/String" "value" "[B" (.ref q3)) (A_q3 : Arv Z h0 q3 kp1 .byte 6 [.int 46, .int 117, .int 112, .int 112, .int 101, .int 114] (.int 0)) (A_q2 : Arv Z h0 q2 kp0 .byte 16 [.int 0, .int 0, .int 0, .int 0, .int 0, .int 0, .int 0, .int 0, .int 0, .int 0, .int 0, .int 0, .int 0, .int 0, .int 0, .int 0] (.int 0)) (g_q2 : n0 ≤ q2) : MetH l Z EL0 n0 N_jdk_68_m_73 jdk_68_method_73_code 3 none [] R_rm41 #[.ref q0, .int 0, .ref q1] h0 [q2] (fun vs v h ve => (v = none ∧ (Keep h0 h [q2]) ∧ (Arv Z h q2 kp0 .byte 16 [.int 46, .int 117, .int 112, .int 112, .int 101, .int 114, .int 0, .int 0, .int 0, .int 0, .int 0, .int 0, .int 0, .int 0, .int 0, .int 0] (.int 0)))) := by
  refine MetH.of #[.val (.ref q0), .val (.int 0), .val (.ref q1)] (plainFor_of_name pn_java_lang_AbstractStringBuilder) rfl Z0 (fun p e s m below meth c T0 hret hml hnm hSL hs0 X0 => ?_)
  have S_q2 := hSL q2 (List.mem_of_getElem? (i := 0) rfl)
  refine kALn X0 d14_0 rfl rfl ?_
  refine kALn X0 d14_1 rfl rfl ?_
  refine kVIRT X0 (gEL G) (argsL := [.ref q1]) (rest := []) (wd G 84 rfl) (own_decl (wd G 85 rfl) (wd G 88 rfl)) (own_nf X0.hZ (own_noface (wd G 77 rfl) rfl)) (wd G 87 rfl) (wd G 85 rfl) (wd G 44 rfl) (wd G 88 rfl) (by decide) E_q0 (rm42 G q0 q1 q2 q3 kp0 kp1 h0 X0.n O0 F_q0_coder F_q1_coder E_q1) all0 (lenOf pd__Ljava_lang_String__V rfl) rfl 0 rfl (by decide) hml.symm d14_2 (fun v1 T2 h3 vm4 _ w5 q6 C7 C8 X9 => ?_)
  obtain ⟨e11, f12⟩ := q6
  subst e11
  subst f12
  show Go _ _ _ _ _ (mkF _ _ _ [])
  refine kALn X9 d14_5 rfl rfl ?_
  refine kALn X9 d14_6 rfl rfl ?_
  refine kGETF X9 (wd G 48 rfl) Via.refl F_q0_value d14_7 (fun T13 X14 => ?_)
  refine kILn X14 d14_10 rfl ?_
  refine kALn X14 d14_11 rfl rfl ?_
  refine kGETF X14 (wd G 50 rfl) Via.refl F_q0_coder d14_12 (fun T15 X16 => ?_)
  have f26 := (CHr.safe C8 (A_q2.lt) S_q2)
  refine kVIRT X16 (gEL G) (argsL := [.ref q2, .int 0, .int 0]) (rest := []) (wd G 90 rfl) (wd G 91 rfl) (own_nf X16.hZ (own_noinst (wd G 2 rfl))) (wd G 93 rfl) (wd G 92 rfl) (wd G 3 rfl) (wd G 94 rfl) (by decide) E_q1 (rm43 G q1 q2 q3 kp0 kp1 h0 X16.n O0 F_q1_coder E_q1 F_q1_value A_q3 A_q2 g_q2) (allS ⟨(A_q2.lt), f26⟩ all0) (lenOf pd___BIB_V rfl) rfl 0 rfl (by decide) hml.symm d14_15 (fun v17 T18 h19 vm20 _ w21 q22 C23 C24 X25 => ?_)
  obtain ⟨e28, f29, f30⟩ := q22
  subst e28
  show Go _ _ _ _ _ (mkF _ _ _ [])
  have K31 : Keep h0 h19 [q2] := (Keep.trans (Keep.refl h0 [q2]) f29 (allS (Or.inl (List.mem_of_getElem? (i := 0) rfl)) all0))
  exact kRETV X25 (gEL G) hret d14_18 (fun ve hve => ⟨rfl, K31, f30⟩) (by decide)
def R_rm38 : Room := { frames := 3, cells := 0, slots := 0, locals := 47 }
theorem rm38 (G : Glob Z a0 iCS vSI) (q0 q1 q2 q3 : Addr) (kp0 kp1 : ClassId) (h0 : Heap) (Z0 : n0 ≤ h0.size) (O0 : Old Z n0 h0) (F_q1_value : Fld Z h0 q1 "java/lang/String" "value" "[B" (.ref q3)) (A_q3 : Arv Z h0 q3 kp1 .byte 6 [.int 46, .int 117, .int 112, .int 112, .int 101, .int 114] (.int 0)) (F_q1_coder : Fld Z h0 q1 "java/lang/String" "coder" "B" (.int 0)) (E_q1 : Exa Z h0 q1 "java/lang/String") (F_q0_count : Fld Z h0 q0 "java/lang/AbstractStringBuilder" "count" "I" (.int 0)) (F_q0_value : Fld Z h0 q0 "java/lang/AbstractStringBuilder" "value" "[B" (.ref q2)) (A_q2 : Arv Z h0 q2 kp0 .byte 16 [.int 0, .int 0, .int 0, .int 0, .int 0, .int 0, .int 0, .int 0, .int 0, .int 0, .int 0, .int 0, .int 0, .int 0, .int 0, .int 0] (.int 0)) (F_q0_coder : Fld Z h0 q0 "java/lang/AbstractStringBuilder" "coder" "B" (.int 0)) (E_q0 : Exa Z h0 q0 "java/lang/StringBuilder") (d_q0_q2 : q0 ≠ q2) (g_q0 : n0 ≤ q0) (g_q2 : n0 ≤ q2) : MetH l Z EL0 n0 N_jdk_68_m_22 jdk_68_method_22_code 3 (some (.object "java/lang/AbstractStringBuilder")) [] R_rm38 #[.ref q0, .ref q1] h0 [q2] (fun vs v h ve => (v = some (.ref q0) ∧ (Keep h0 h [q2, q0]) ∧ (Arv Z h q2 kp0 .byte 16 [.int 46, .int 117, .int 112, .int 112, .int 101, .int 114, .int 0, .int 0, .int 0, .int 0, .int 0, .int 0, .int 0, .int 0, .int 0, .int 0] (.int 0)) ∧ (Fld Z h q0 "java/lang/AbstractStringBuilder" "coder" "B" (.int 0)) ∧ (Fld Z h q0 "java/lang/AbstractStringBuilder" "count" "I" (.int 6)) ∧ (Fld Z h q0 "java/lang/AbstractStringBuilder" "value" "[B" (.ref q2)))) := by
  refine MetH.of #[.val (.ref q0), .val (.ref q1), .unset] (plainFor_of_name pn_java_lang_AbstractStringBuilder) rfl Z0 (fun p e s m below meth c T0 hret hml hnm hSL hs0 X0 => ?_)
  have S_q2 := hSL q2 (List.mem_of_getElem? (i := 0) rfl)
  refine kALn X0 d10_0 rfl rfl ?_
  refine kNNt X0 9 d10_1 (by decide) ?_
  refine kALn X0 d10_9 rfl rfl ?_
  refine kVIRT X0 (gEL G) (argsL := []) (rest := []) (wd G 62 rfl) (wd G 63 rfl) (own_nf X0.hZ (own_noinst (wd G 2 rfl))) (wd G 65 rfl) (wd G 64 rfl) (wd G 3 rfl) (wd G 66 rfl) (by decide) E_q1 (rm39 G q1 q3 kp1 h0 X0.n O0 F_q1_value A_q3 F_q1_coder E_q1) all0 (lenOf pd___I rfl) rfl 0 rfl (by decide) hml.symm d10_10 (fun v1 T2 h3 vm4 _ w5 q6 C7 C8 X9 => ?_)
  obtain ⟨e11, f12⟩ := q6
  subst e11
  subst f12
  show Go _ _ _ _ _ (mkF _ _ _ [.int 6])
  refine kISn X9 #[.val (.ref q0), .val (.ref q1), .val (.int 6)] d10_13 rfl ?_
  refine kALn X9 d10_14 rfl rfl ?_
  refine kALn X9 d10_15 rfl rfl ?_
  refine kGETF X9 (wd G 72 rfl) Via.refl F_q0_count d10_16 (fun T13 X14 => ?_)
  refine kILn X14 d10_19 rfl ?_
  refine kIADD X14 6 d10_20 (by decide) ?_
  refine kVIRT X14 (gEL G) (argsL := [.int 6]) (rest := []) (wd G 74 rfl) (own_decl (wd G 75 rfl) (wd G 78 rfl)) (own_nf X14.hZ (own_noface (wd G 77 rfl) rfl)) (wd G 77 rfl) (wd G 75 rfl) (wd G 44 rfl) (wd G 78 rfl) (by decide) E_q0 (rm18 G q0 q2 kp0 h0 X14.n O0 F_q0_value A_q2 F_q0_coder) all0 (lenOf pd__I_V rfl) rfl 0 rfl (by decide) hml.symm d10_21 (fun v15 T16 h17 vm18 _ w19 q20 C21 C22 X23 => ?_)
  obtain ⟨e25, f26⟩ := q20
  subst e25
  subst f26
  show Go _ _ _ _ _ (mkF _ _ _ [])
  refine kALn X23 d10_24 rfl rfl ?_
  refine kALn X23 d10_25 rfl rfl ?_
  refine kGETF X23 (wd G 72 rfl) Via.refl F_q0_count d10_26 (fun T27 X28 => ?_)
  refine kALn X28 d10_29 rfl rfl ?_
  have f38 := (CHr.safe C22 (A_q2.lt) (CHr.safe C8 (A_q2.lt) S_q2))
  refine kVIRT X28 (gEL G) (argsL := [.int 0, .ref q1]) (rest := []) (wd G 79 rfl) (own_decl (wd G 80 rfl) (wd G 83 rfl)) (own_nf X28.hZ (own_noface (wd G 77 rfl) rfl)) (wd G 82 rfl) (wd G 80 rfl) (wd G 44 rfl) (wd G 83 rfl) (by decide) E_q0 (rm41 G q0 q1 q2 q3 kp0 kp1 h0 X28.n O0 F_q0_coder F_q1_coder E_q1 E_q0 F_q0_value F_q1_value A_q3 A_q2 g_q2) (allS ⟨(A_q2.lt), f38⟩ all0) (lenOf pd__ILjava_lang_String__V rfl) rfl 0 rfl (by decide) hml.symm d10_30 (fun v29 T30 h31 vm32 _ w33 q34 C35 C36 X37 => ?_)
  obtain ⟨e40, f41, f42⟩ := q34
  subst e40
  show Go _ _ _ _ _ (mkF _ _ _ [])
  refine kALn X37 d10_33 rfl rfl ?_
  refine kDUP X37 d10_34 rfl ?_
  have f43 := (Fld.keep F_q0_count f41 (ninS d_q0_q2 nin0))
  refine kGETF X37 (wd G 72 rfl) Via.refl f43 d10_35 (fun T44 X45 => ?_)
  refine kILn X45 d10_38 rfl ?_
  refine kIADD X45 6 d10_39 (by decide) ?_
  have f46 := (Exa.keep E_q0 f41)
  refine kPUTF X45 (wd G 72 rfl) Via.refl f43 f46 (Or.inl (wd G 73 rfl)) (wd G 35 rfl) (ty := .int) (by decide) rfl rfl g_q0 (Safe.exa X45.hZ.alike f46 (by decide) (by decide)) d10_40 (fun T47 h48 L51 W50 X49 => ?_)
  have f52 := Fld.same W50 f43
  refine kALn X49 d10_43 rfl rfl ?_
  have K53 : Keep h0 h48 [q2, q0] := (Keep.wr (Keep.trans (Keep.refl h0 [q2, q0]) f41 (allS (Or.inl (List.mem_of_getElem? (i := 0) rfl)) all0)) W50 (Or.inl (List.mem_of_getElem? (i := 1) rfl)))
  have f54 := (Arv.other f42 W50 (Ne.symm d_q0_q2))
  have f55 := (Fld.other W50 (Fld.keep F_q0_coder f41 (ninS d_q0_q2 nin0)) (Or.inr (slot_ne (Or.inl (wd G 51 rfl)) (Or.inl (wd G 73 rfl)) (by decide) (by decide : parseFieldDescriptor "B" = some .byte) (by decide : parseFieldDescriptor "I" = some .int))))
  have f56 := (Fld.other W50 (Fld.keep F_q0_value f41 (ninS d_q0_q2 nin0)) (Or.inr (slot_ne (Or.inl (wd G 49 rfl)) (Or.inl (wd G 73 rfl)) (by decide) (by decide : parseFieldDescriptor "[B" = some (.array (.byte))) (by decide : parseFieldDescriptor "I" = some .int))))
  exact kRETA X49 (gEL G) hret rfl rfl d10_44 (fun ve hve => ⟨rfl, K53, f54, f55, f52, f56⟩) (by decide)
def R_rm37 : Room := { frames := 4, cells := 0, slots := 0, locals := 61 }
theorem rm37 (G : Glob Z a0 iCS vSI) (q0 q1 q2 q3 : Addr) (kp0 kp1 : ClassId) (h0 : Heap) (Z0 : n0 ≤ h0.size) (O0 : Old Z n0 h0) (F_q1_value : Fld Z h0 q1 "java/lang/String" "value" "[B" (.ref q3)) (A_q3 : Arv Z h0 q3 kp1 .byte 6 [.int 46, .int 117, .int 112, .int 112, .int 101, .int 114] (.int 0)) (F_q1_coder : Fld Z h0 q1 "java/lang/String" "coder" "B" (.int 0)) (E_q1 : Exa Z h0 q1 "java/lang/String") (F_q0_count : Fld Z h0 q0 "java/lang/AbstractStringBuilder" "count" "I" (.int 0)) (F_q0_value : Fld Z h0 q0 "java/lang/AbstractStringBuilder" "value" "[B" (.ref q2)) (A_q2 : Arv Z h0 q2 kp0 .byte 16 [.int 0, .int 0, .int 0, .int 0, .int 0, .int 0, .int 0, .int 0, .int 0, .int 0, .int 0, .int 0, .int 0, .int 0, .int 0, .int 0] (.int 0)) (F_q0_coder : Fld Z h0 q0 "java/lang/AbstractStringBuilder" "coder" "B" (.int 0)) (E_q0 : Exa Z h0 q0 "java/lang/StringBuilder") (d_q0_q2 : q0 ≠ q2) (g_q0 : n0 ≤ q0) (g_q2 : n0 ≤ q2) : MetH l Z EL0 n0 N_jdk_67_m_7 jdk_67_method_7_code 2 (some (.object "java/lang/StringBuilder")) [] R_rm37 #[.ref q0, .ref q1] h0 [q2] (fun vs v h ve => (v = some (.ref q0) ∧ (Keep h0 h [q2, q0]) ∧ (Arv Z h q2 kp0 .byte 16 [.int 46, .int 117, .int 112, .int 112, .int 101, .int 114, .int 0, .int 0, .int 0, .int 0, .int 0, .int 0, .int 0, .int 0, .int 0, .int 0] (.int 0)) ∧ (Fld Z h q0 "java/lang/AbstractStringBuilder" "coder" "B" (.int 0)) ∧ (Fld Z h q0 "java/lang/AbstractStringBuilder" "count" "I" (.int 6)) ∧ (Fld Z h q0 "java/lang/AbstractStringBuilder" "value" "[B" (.ref q2)))) := by
  refine MetH.of #[.val (.ref q0), .val (.ref q1)] (plainFor_of_name pn_java_lang_StringBuilder) rfl Z0 (fun p e s m below meth c T0 hret hml hnm hSL hs0 X0 => ?_)
  have S_q2 := hSL q2 (List.mem_of_getElem? (i := 0) rfl)
  refine kALn X0 d9_0 rfl rfl ?_
  refine kALn X0 d9_1 rfl rfl ?_
  refine kSUP X0 (gEL G) (argsL := [.ref q1]) (rest := []) (wd G 57 rfl) (own_same (wd G 58 rfl) (own_noface (wd G 77 rfl) rfl) (by decide)) (wd G 58 rfl) (wd G 59 rfl) (by decide) (wd G 44 rfl) (wd G 61 rfl) (Ins.of_exa E_q0 (wd G 43 rfl)) (rm38 G q0 q1 q2 q3 kp0 kp1 h0 X0.n O0 F_q1_value A_q3 F_q1_coder E_q1 F_q0_count F_q0_value A_q2 F_q0_coder E_q0 d_q0_q2 g_q0 g_q2) (allS ⟨(A_q2.lt), S_q2⟩ all0) (lenOf pd__Ljava_lang_String__Ljava_lang_AbstractStringBuilder_ rfl) rfl 0 rfl (by decide) hml.symm d9_2 (fun v1 T2 h3 vm4 _ w5 q6 C7 C8 X9 => ?_)
  obtain ⟨e11, f12, f13, f14, f15, f16⟩ := q6
  subst e11
  show Go _ _ _ _ _ (mkF _ _ _ [.ref q0])
  refine kPOP X9 d9_5 rfl ?_
  refine kALn X9 d9_6 rfl rfl ?_
  have K17 : Keep h0 h3 [q2, q0] := (Keep.trans (Keep.refl h0 [q2, q0]) f12 (allS (Or.inl (List.mem_of_getElem? (i := 0) rfl)) (allS (Or.inl (List.mem_of_getElem? (i := 1) rfl)) all0)))
  exact kRETA X9 (gEL G) hret rfl rfl d9_7 (fun ve hve => ⟨rfl, K17, f13, f14, f15, f16⟩) (by decide)
def R_rm47 : Room := { frames := 0, cells := 0, slots := 0, locals := 0 }
theorem rm47 (G : Glob Z a0 iCS vSI) (q0 q1 : Addr) (kp0 : ClassId) (h0 : Heap) (Z0 : n0 ≤ h0.size) (O0 : Old Z n0 h0) (F_q0_value : Fld Z h0 q0 "java/lang/AbstractStringBuilder" "value" "[B" (.ref q1)) : MetH l Z EL0 n0 N_jdk_68_m_64 jdk_68_method_64_code 1 (some (.array (.byte))) [] R_rm47 #[.ref q0] h0 [] (fun vs v h ve => (v = some (.ref q1) ∧ (h0 = h))) := by
  refine MetH.of #[.val (.ref q0)] (plainFor_of_name pn_java_lang_AbstractStringBuilder) rfl Z0 (fun p e s m below meth c T0 hret hml hnm hSL hs0 X0 => ?_)
  refine kALn X0 d20_0 rfl rfl ?_
  refine kGETF X0 (wd G 48 rfl) Via.refl F_q0_value d20_1 (fun T1 X2 => ?_)
  exact kRETA X2 (gEL G) hret rfl rfl d20_4 (fun ve hve => ⟨rfl, rfl⟩) (by decide)
def R_rm49 : Room := { frames := 0, cells := 0, slots := 0, locals := 0 }
theorem rm49 (G : Glob Z a0 iCS vSI) (q0 q1 : Addr) (kp0 : ClassId) (h0 : Heap) (Z0 : n0 ≤ h0.size) (O0 : Old Z n0 h0) (F_q0_count : Fld Z h0 q0 "java/lang/AbstractStringBuilder" "count" "I" (.int 6)) : MetH l Z EL0 n0 N_jdk_68_m_6 jdk_68_method_6_code 1 (some .int) [] R_rm49 #[.ref q0] h0 [] (fun vs v h ve => (v = some (.int 6) ∧ (h0 = h))) := by
  refine MetH.of #[.val (.ref q0)] (plainFor_of_name pn_java_lang_AbstractStringBuilder) rfl Z0 (fun p e s m below meth c T0 hret hml hnm hSL hs0 X0 => ?_)
  refine kALn X0 d22_0 rfl rfl ?_
  refine kGETF X0 (wd G 72 rfl) Via.refl F_q0_count d22_1 (fun T1 X2 => ?_)
  exact kRETI X2 (gEL G) hret d22_4 (fun ve hve => ⟨rfl, rfl⟩) (by decide)
def R_rm48 : Room := { frames := 1, cells := 0, slots := 0, locals := 12 }
theorem rm48 (G : Glob Z a0 iCS vSI) (q0 q1 : Addr) (kp0 : ClassId) (h0 : Heap) (Z0 : n0 ≤ h0.size) (O0 : Old Z n0 h0) (F_q0_count : Fld Z h0 q0 "java/lang/AbstractStringBuilder" "count" "I" (.int 6)) (E_q0 : Exa Z h0 q0 "java/lang/StringBuilder") : MetH l Z EL0 n0 N_jdk_67_m_93 jdk_67_method_93_code 1 (some .int) [] R_rm48 #[.ref q0] h0 [] (fun vs v h ve => (v = some (.int 6) ∧ (h0 = h))) := by
  refine MetH.of #[.val (.ref q0)] (plainFor_of_name pn_java_lang_StringBuilder) rfl Z0 (fun p e s m below meth c T0 hret hml hnm hSL hs0 X0 => ?_)
  refine kALn X0 d21_0 rfl rfl ?_
  refine kSUP X0 (gEL G) (argsL := []) (rest := []) (wd G 125 rfl) (own_same (wd G 121 rfl) (own_noface (wd G 77 rfl) rfl) (by decide)) (wd G 121 rfl) (wd G 59 rfl) (by decide) (wd G 44 rfl) (wd G 126 rfl) (Ins.of_exa E_q0 (wd G 43 rfl)) (rm49 G q0 q1 kp0 h0 X0.n O0 F_q0_count) all0 (lenOf pd___I rfl) rfl 0 rfl (by decide) hml.symm d21_1 (fun v1 T2 h3 vm4 _ w5 q6 C7 C8 X9 => ?_)
  obtain ⟨e11, f12⟩ := q6
  subst e11
  subst f12
  show Go _ _ _ _ _ (mkF _ _ _ [.int 6])
  exact kRETI X9 (gEL G) hret d21_4 (fun ve hve => ⟨rfl, rfl⟩) (by decide)
def R_rm50 : Room := { frames := 0, cells := 0, slots := 0, locals := 0 }
theorem rm50 (G : Glob Z a0 iCS vSI) (q0 q1 : Addr) (kp0 : ClassId) (h0 : Heap) (Z0 : n0 ≤ h0.size) (O0 : Old Z n0 h0) (F_q0_coder : Fld Z h0 q0 "java/lang/AbstractStringBuilder" "coder" "B" (.int 0)) : MetH l Z EL0 n0 N_jdk_68_m_68 jdk_68_method_68_code 1 (some .boolean) [] R_rm50 #[.ref q0] h0 [] (fun vs v h ve => (v = some (.int 1) ∧ (h0 = h))) := by
  refine MetH.of #[.val (.ref q0)] (plainFor_of_name pn_java_lang_AbstractStringBuilder) rfl Z0 (fun p e s m below meth c T0 hret hml hnm hSL hs0 X0 => ?_)
  refine kGETS X0 (wd G 47 rfl) Via.refl (Sta.ext O0.2 (S_CS G)) d23_0 (fun T1 X2 => ?_)
  refine kIFf X2 d23_3 (XT.i0_eq_f (n_CS G)) ?_
  refine kALn X2 d23_6 rfl rfl ?_
  refine kGETF X2 (wd G 50 rfl) Via.refl F_q0_coder d23_7 (fun T3 X4 => ?_)
  refine kIFf X4 d23_10 (XT.i0_ne_f (by decide)) ?_
  refine kIC X4 1 d23_13 (by decide) ?_
  refine kGOTO X4 18 d23_14 (by decide) ?_
  exact kRETZ X4 (gEL G) (t := .boolean) hret (by simp) d23_18 (fun ve hve => ⟨rfl, rfl⟩) (by decide)
def R_rm52 : Room := { frames := 1, cells := 1, slots := 6, locals := 18 }
theorem rm52 (G : Glob Z a0 iCS vSI) (q0 : Addr) (kp0 : ClassId) (h0 : Heap) (Z0 : n0 ≤ h0.size) (O0 : Old Z n0 h0) (A_q0 : Arv Z h0 q0 kp0 .byte 16 [.int 46, .int 117, .int 112, .int 112, .int 101, .int 114, .int 0, .int 0, .int 0, .int 0, .int 0, .int 0, .int 0, .int 0, .int 0, .int 0] (.int 0)) : MetH l Z EL0 n0 N_jdk_65_m_133 jdk_65_method_133_code 5 (some (.array (.byte))) [] R_rm52 #[.ref q0, .int 0, .int 6] h0 [] (fun vs v h ve => (∃ (x0 : Addr), ∃ (z0 : ClassId), v = some (.ref x0) ∧ (Keep h0 h []) ∧ (h0.size ≤ x0) ∧ (Arv Z h x0 z0 .byte 6 [.int 46, .int 117, .int 112, .int 112, .int 101, .int 114] (.int 0)) ∧ (Safe Z EL0 ve h x0))) := by
  refine MetH.of #[.val (.ref q0), .val (.int 0), .val (.int 6), .unset, .unset] (plainFor_of_name pn_java_util_Arrays) rfl Z0 (fun p e s m below meth c T0 hret hml hnm hSL hs0 X0 => ?_)
  refine kILn X0 d25_0 rfl ?_
  refine kILn X0 d25_1 rfl ?_
  refine kSTAT X0 (gEL G) (argsL := [.int 0, .int 6]) (rest := []) (wd G 139 rfl) (wd G 140 rfl) (wd G 134 rfl) (wd G 141 rfl) (by decide) (rm31 G  h0 X0.n O0 ) all0 (lenOf pd__II_V rfl) rfl 0 rfl (by decide) hml.symm d25_2 (fun v1 T2 h3 vm4 _ w5 q6 C7 C8 X9 => ?_)
  obtain ⟨e11, f12⟩ := q6
  subst e11
  subst f12
  show Go _ _ _ _ _ (mkF _ _ _ [])
  refine kILn X9 d25_5 rfl ?_
  refine kILn X9 d25_6 rfl ?_
  refine kISUB X9 6 d25_7 (by decide) ?_
  refine kISn X9 #[.val (.ref q0), .val (.int 0), .val (.int 6), .val (.int 6), .unset] d25_8 rfl ?_
  refine kILn X9 d25_9 rfl ?_
  refine kNEWP X9 (wd G 19 rfl) (cap := 6) d25_10 (by decide) (by decide) (by decide) (by decide) (by decide) (fun T13 h14 a16 k17 E18 q19 g20 A21 s22 X15 => ?_)
  have n23 : q0 ≠ a16 := Nat.ne_of_lt (Nat.lt_of_lt_of_le (A_q0.lt) (Nat.le_of_eq q19.symm))
  have g24 : h0.size ≤ a16 := q19 ▸ X9.g0
  have f25 : Arv Z h14 a16 k17 .byte 6 [.int 0, .int 0, .int 0, .int 0, .int 0, .int 0] (.int 0) := A21.pad (pad_rep [] _ 6)
  refine kAS X15 #[.val (.ref q0), .val (.int 0), .val (.int 6), .val (.int 6), .val (.ref a16)] d25_12 rfl rfl ?_
  refine kALn X15 d25_14 rfl rfl ?_
  refine kILn X15 d25_15 rfl ?_
  refine kAL X15 d25_16 rfl rfl ?_
  refine kIC X15 0 d25_18 (by decide) ?_
  refine kALn X15 d25_19 rfl rfl ?_
  have f26 := (Arv.ext A_q0 E18)
  refine kLEN X15 f26 d25_20 ?_
  refine kILn X15 d25_21 rfl ?_
  refine kISUB X15 16 d25_22 (by decide) ?_
  refine kILn X15 d25_23 rfl ?_
  have f27 := (Old.ext O0 E18)
  refine kSTAT X15 (gEL G) (argsL := [.int 16, .int 6]) (rest := [.int 0, .ref a16, .int 0, .ref q0]) (wd G 142 rfl) (wd G 143 rfl) (wd G 144 rfl) (wd G 145 rfl) (by decide) (rm32 G  h14 X15.n f27 ) all0 (lenOf pd__II_I rfl) rfl 4 rfl (by decide) hml.symm d25_24 (fun v28 T29 h30 vm31 _ w32 q33 C34 C35 X36 => ?_)
  obtain ⟨e38, f39⟩ := q33
  subst e38
  subst f39
  show Go _ _ _ _ _ (mkF _ _ _ [.int 6, .int 0, .ref a16, .int 0, .ref q0])
  have f40 := (CHr.safe C35 (f25.lt) s22)
  refine kCPA X36 (wd G 146 rfl) (wd G 98 rfl) (wd G 96 rfl) (wd G 97 rfl) f26 f25 (Or.inl ⟨rfl, rfl⟩) (us := [.int 46, .int 117, .int 112, .int 112, .int 101, .int 114]) (by decide) rfl (by show 6 ≤ 6; decide) g20 f40 hml.symm d25_27 (by decide) 0 (Nat.le_of_eq rfl) (by decide) (fun T41 h42 L44 K45 C46 f47 X43 => ?_)
  have f48 : Arv Z h42 a16 k17 .byte 6 [.int 46, .int 117, .int 112, .int 112, .int 101, .int 114] (.int 0) := f47
  refine kAL X43 d25_30 rfl rfl ?_
  have K49 : Keep h0 h42 [] := (Keep.trans (Keep.ext (Keep.refl h0 []) E18) K45 (allS (Or.inr g24) all0))
  have f50 := (CHr.safe C46 (f25.lt) f40)
  exact kRETA X43 (gEL G) hret rfl rfl d25_32 (fun ve hve => ⟨a16, k17, rfl, K49, g24, f48, (CHr.safe hve (f48.lt) f50)⟩) (by decide)
def R_rm51 : Room := { frames := 2, cells := 1, slots := 6, locals := 34 }
theorem rm51 (G : Glob Z a0 iCS vSI) (q0 : Addr) (kp0 : ClassId) (h0 : Heap) (Z0 : n0 ≤ h0.size) (O0 : Old Z n0 h0) (A_q0 : Arv Z h0 q0 kp0 .byte 16 [.int 46, .int 117, .int 112, .int 112, .int 101, .int 114, .int 0, .int 0, .int 0, .int 0, .int 0, .int 0, .int 0, .int 0, .int 0, .int 0] (.int 0)) : MetH l Z EL0 n0 N_jdk_65_m_132 jdk_65_method_132_code 3 (some (.array (.byte))) [] R_rm51 #[.ref q0, .int 0, .int 6] h0 [] (fun vs v h ve => (∃ (x0 : Addr), ∃ (z0 : ClassId), v = some (.ref x0) ∧ (Keep h0 h []) ∧ (h0.size ≤ x0) ∧ (Arv Z h x0 z0 .byte 6 [.int 46, .int 117, .int 112, .int 112, .int 101, .int 114] (.int 0)) ∧ (Safe Z EL0 ve h x0))) := by
  refine MetH.of #[.val (.ref q0), .val (.int 0), .val (.int 6)] (plainFor_of_name pn_java_util_Arrays) rfl Z0 (fun p e s m below meth c T0 hret hml hnm hSL hs0 X0 => ?_)
  refine kILn X0 d24_0 rfl ?_
  refine kIFf X0 d24_1 (XT.i0_ne_f (by decide)) ?_
  refine kILn X0 d24_4 rfl ?_
  refine kALn X0 d24_5 rfl rfl ?_
  refine kLEN X0 A_q0 d24_6 ?_
  refine kICf X0 d24_7 (XT.ii_eq_f (by decide)) ?_
  refine kALn X0 d24_10 rfl rfl ?_
  refine kILn X0 d24_11 rfl ?_
  refine kILn X0 d24_12 rfl ?_
  refine kSTAT X0 (gEL G) (argsL := [.ref q0, .int 0, .int 6]) (rest := []) (wd G 136 rfl) (wd G 137 rfl) (wd G 134 rfl) (wd G 138 rfl) (by decide) (rm52 G q0 kp0 h0 X0.n O0 A_q0) all0 (lenOf pd___BII__B rfl) rfl 0 rfl (by decide) hml.symm d24_13 (fun v1 T2 h3 vm4 _ w5 q6 C7 C8 X9 => ?_)
  obtain ⟨a11, k12, e13, f14, f15, f16, f17⟩ := q6
  subst e13
  have n18 : q0 ≠ a11 := Nat.ne_of_lt (Nat.lt_of_lt_of_le (A_q0.lt) f15)
  have g19 : n0 ≤ a11 := Nat.le_trans X0.n f15
  have g20 : h0.size ≤ a11 := Nat.le_trans X0.g0 f15
  show Go _ _ _ _ _ (mkF _ _ _ [.ref a11])
  have K21 : Keep h0 h3 [] := (Keep.trans (Keep.refl h0 []) f14 all0)
  exact kRETA X9 (gEL G) hret rfl rfl d24_16 (fun ve hve => ⟨a11, k12, rfl, K21, g20, f16, (CHr.safe hve (f16.lt) f17)⟩) (by decide)
def R_rm46 : Room := { frames := 3, cells := 1, slots := 6, locals := 49 }
theorem rm46 (G : Glob Z a0 iCS vSI) (q0 q1 q2 : Addr) (kp0 : ClassId) (h0 : Heap) (Z0 : n0 ≤ h0.size) (O0 : Old Z n0 h0) (F_q1_value : Fld Z h0 q1 "java/lang/AbstractStringBuilder" "value" "[B" (.ref q2)) (E_q1 : Exa Z h0 q1 "java/lang/StringBuilder") (F_q1_count : Fld Z h0 q1 "java/lang/AbstractStringBuilder" "count" "I" (.int 6)) (F_q1_coder : Fld Z h0 q1 "java/lang/AbstractStringBuilder" "coder" "B" (.int 0)) (F_q0_coder : Fld Z h0 q0 "java/lang/String" "coder" "B" (.int 0)) (E_q0 : Exa Z h0 q0 "java/lang/String") (F_q0_value : Fld Z h0 q0 "java/lang/String" "value" "[B" (.null)) (A_q2 : Arv Z h0 q2 kp0 .byte 16 [.int 46, .int 117, .int 112, .int 112, .int 101, .int 114, .int 0, .int 0, .int 0, .int 0, .int 0, .int 0, .int 0, .int 0, .int 0, .int 0] (.int 0)) (d_q2_q0 : q2 ≠ q0) (g_q0 : n0 ≤ q0) : MetH l Z EL0 n0 N_jdk_42_m_150 jdk_42_method_150_code 5 none [] R_rm46 #[.ref q0, .ref q1, .null] h0 [q0] (fun vs v h ve => (∃ (x0 : Addr), ∃ (z0 : ClassId), v = none ∧ (Keep h0 h [q0]) ∧ (h0.size ≤ x0) ∧ (Arv Z h x0 z0 .byte 6 [.int 46, .int 117, .int 112, .int 112, .int 101, .int 114] (.int 0)) ∧ (Safe Z EL0 ve h x0) ∧ (Fld Z h q0 "java/lang/String" "coder" "B" (.int 0)) ∧ (Fld Z h q0 "java/lang/String" "value" "[B" (.ref x0)))) := by
  refine MetH.of #[.val (.ref q0), .val (.ref q1), .val .null, .unset, .unset] (plainFor_of_name pn_java_lang_String) rfl Z0 (fun p e s m below meth c T0 hret hml hnm hSL hs0 X0 => ?_)
  have S_q0 := hSL q0 (List.mem_of_getElem? (i := 0) rfl)
  refine kALn X0 d19_0 rfl rfl ?_
  refine kINIT X0 (wd G 11 rfl) (wd G 12 rfl) (wd G 13 rfl) hml.symm d19_1 (by decide) 0 (Nat.le_of_eq rfl) (by decide) (fun T1 X2 => ?_)
  refine kALn X2 d19_4 rfl rfl ?_
  refine kVIRT X2 (gEL G) (argsL := []) (rest := []) (wd G 114 rfl) (wd G 115 rfl) (own_nf X2.hZ (own_noface (wd G 77 rfl) rfl)) (wd G 117 rfl) (wd G 116 rfl) (wd G 44 rfl) (wd G 118 rfl) (by decide) E_q1 (rm47 G q1 q2 kp0 h0 X2.n O0 F_q1_value) all0 (lenOf pd____B rfl) rfl 0 rfl (by decide) hml.symm d19_5 (fun v3 T4 h5 vm6 _ w7 q8 C9 C10 X11 => ?_)
  obtain ⟨e13, f14⟩ := q8
  subst e13
  subst f14
  show Go _ _ _ _ _ (mkF _ _ _ [.ref q2])
  refine kASn X11 #[.val (.ref q0), .val (.ref q1), .val .null, .val (.ref q2), .unset] d19_8 rfl rfl ?_
  refine kALn X11 d19_9 rfl rfl ?_
  refine kVIRT X11 (gEL G) (argsL := []) (rest := []) (wd G 119 rfl) (wd G 120 rfl) (own_nf X11.hZ (own_noface (wd G 77 rfl) rfl)) (wd G 122 rfl) (wd G 123 rfl) (wd G 36 rfl) (wd G 124 rfl) (by decide) E_q1 (rm48 G q1 q2 kp0 h0 X11.n O0 F_q1_count E_q1) all0 (lenOf pd___I rfl) rfl 0 rfl (by decide) hml.symm d19_10 (fun v15 T16 h17 vm18 _ w19 q20 C21 C22 X23 => ?_)
  obtain ⟨e25, f26⟩ := q20
  subst e25
  subst f26
  show Go _ _ _ _ _ (mkF _ _ _ [.int 6])
  refine kIS X23 #[.val (.ref q0), .val (.ref q1), .val .null, .val (.ref q2), .val (.int 6)] d19_13 rfl ?_
  refine kALn X23 d19_15 rfl rfl ?_
  refine kVIRT X23 (gEL G) (argsL := []) (rest := []) (wd G 127 rfl) (wd G 128 rfl) (own_nf X23.hZ (own_noface (wd G 77 rfl) rfl)) (wd G 130 rfl) (wd G 129 rfl) (wd G 44 rfl) (wd G 131 rfl) (by decide) E_q1 (rm50 G q1 q2 kp0 h0 X23.n O0 F_q1_coder) all0 (lenOf pd___Z rfl) rfl 0 rfl (by decide) hml.symm d19_16 (fun v27 T28 h29 vm30 _ w31 q32 C33 C34 X35 => ?_)
  obtain ⟨e37, f38⟩ := q32
  subst e37
  subst f38
  show Go _ _ _ _ _ (mkF _ _ _ [.int 1])
  refine kIFf X35 d19_19 (XT.i0_eq_f (by decide)) ?_
  refine kALn X35 d19_22 rfl rfl ?_
  refine kIC X35 0 d19_23 (by decide) ?_
  have f39 := (CHr.safe C34 (F_q0_value.lt) (CHr.safe C22 (F_q0_value.lt) (CHr.safe C10 (F_q0_value.lt) S_q0)))
  refine kPUTF X35 (wd G 26 rfl) Via.refl F_q0_coder E_q0 (Or.inr ⟨(wd G 27 rfl), rfl, hnm⟩) (wd G 2 rfl) (ty := .byte) (by decide) (by decide) (by decide) g_q0 f39 d19_24 (fun T40 h41 L44 W43 X42 => ?_)
  have f45 := Fld.same W43 F_q0_coder
  refine kALn X42 d19_27 rfl rfl ?_
  refine kALn X42 d19_28 rfl rfl ?_
  refine kIC X42 0 d19_29 (by decide) ?_
  refine kIL X42 d19_30 rfl ?_
  have f46 := (Arv.other A_q2 W43 d_q2_q0)
  have f47 := (Old.wr O0 W43 g_q0)
  refine kSTAT X42 (gEL G) (argsL := [.ref q2, .int 0, .int 6]) (rest := [.ref q0]) (wd G 132 rfl) (wd G 133 rfl) (wd G 134 rfl) (wd G 135 rfl) (by decide) (rm51 G q2 kp0 h41 X42.n f47 f46) all0 (lenOf pd___BII__B rfl) rfl 1 rfl (by decide) hml.symm d19_32 (fun v48 T49 h50 vm51 _ w52 q53 C54 C55 X56 => ?_)
  obtain ⟨a58, k59, e60, f61, f62, f63, f64⟩ := q53
  subst e60
  have n65 : q0 ≠ a58 := Nat.ne_of_lt (Nat.lt_of_lt_of_le (f45.lt) f62)
  have f67 := (Exa.wr W43 E_q1)
  have n66 : q1 ≠ a58 := Nat.ne_of_lt (Nat.lt_of_lt_of_le (f67.lt) f62)
  have n68 : q2 ≠ a58 := Nat.ne_of_lt (Nat.lt_of_lt_of_le (f46.lt) f62)
  have g69 : n0 ≤ a58 := Nat.le_trans X42.n f62
  have g70 : h0.size ≤ a58 := Nat.le_trans X42.g0 f62
  show Go _ _ _ _ _ (mkF _ _ _ [.ref a58, .ref q0])
  have f71 := (Fld.keep (Fld.other W43 F_q0_value (Or.inr (slot_ne (Or.inr (wd G 29 rfl)) (Or.inr (wd G 27 rfl)) (by decide) (by decide : parseFieldDescriptor "[B" = some (.array (.byte))) (by decide : parseFieldDescriptor "B" = some .byte)))) f61 nin0)
  have f72 := (Exa.keep (Exa.wr W43 E_q0) f61)
  have f73 := (CHr.safe C55 (f45.lt) (Safe.wr W43 f39 X35.C.1 f39))
  refine kPUTF X56 (wd G 28 rfl) Via.refl f71 f72 (Or.inr ⟨(wd G 29 rfl), rfl, hnm⟩) (wd G 2 rfl) (ty := (.array (.byte))) (by decide) rfl rfl g_q0 f73 d19_35 (fun T74 h75 L78 W77 X76 => ?_)
  have f79 := Fld.same W77 f71
  refine kGOTO X76 97 d19_38 (by decide) ?_
  have K80 : Keep h0 h75 [q0] := (Keep.wr (Keep.trans (Keep.wr (Keep.refl h0 [q0]) W43 (Or.inl (List.mem_of_getElem? (i := 0) rfl))) f61 all0) W77 (Or.inl (List.mem_of_getElem? (i := 0) rfl)))
  have f81 := (Arv.other f63 W77 (Ne.symm n65))
  have f82 := (Safe.wr W77 f73 X56.C.1 f64)
  have f83 := (Fld.other W77 (Fld.keep f45 f61 nin0) (Or.inr (slot_ne (Or.inr (wd G 27 rfl)) (Or.inr (wd G 29 rfl)) (by decide) (by decide : parseFieldDescriptor "B" = some .byte) (by decide : parseFieldDescriptor "[B" = some (.array (.byte))))))
  exact kRETV X76 (gEL G) hret d19_97 (fun ve hve => ⟨a58, k59, rfl, K80, g70, f81, (CHr.safe hve (f81.lt) f82), f83, f79⟩) (by decide)
def R_rm45 : Room := { frames := 4, cells := 1, slots := 6, locals := 65 }
theorem rm45 (G : Glob Z a0 iCS vSI) (q0 q1 q2 : Addr) (kp0 : ClassId) (h0 : Heap) (Z0 : n0 ≤ h0.size) (O0 : Old Z n0 h0) (F_q1_value : Fld Z h0 q1 "java/lang/AbstractStringBuilder" "value" "[B" (.ref q2)) (E_q1 : Exa Z h0 q1 "java/lang/StringBuilder") (F_q1_count : Fld Z h0 q1 "java/lang/AbstractStringBuilder" "count" "I" (.int 6)) (F_q1_coder : Fld Z h0 q1 "java/lang/AbstractStringBuilder" "coder" "B" (.int 0)) (F_q0_coder : Fld Z h0 q0 "java/lang/String" "coder" "B" (.int 0)) (E_q0 : Exa Z h0 q0 "java/lang/String") (F_q0_value : Fld Z h0 q0 "java/lang/String" "value" "[B" (.null)) (A_q2 : Arv Z h0 q2 kp0 .byte 16 [.int 46, .int 117, .int 112, .int 112, .int 101, .int 114, .int 0, .int 0, .int 0, .int 0, .int 0, .int 0, .int 0, .int 0, .int 0, .int 0] (.int 0)) (d_q2_q0 : q2 ≠ q0) (g_q0 : n0 ≤ q0) : MetH l Z EL0 n0 N_jdk_42_m_53 jdk_42_method_53_code 2 none [] R_rm45 #[.ref q0, .ref q1] h0 [q0] (fun vs v h ve => (∃ (x0 : Addr), ∃ (z0 : ClassId), v = none ∧ (Keep h0 h [q0]) ∧ (h0.size ≤ x0) ∧ (Arv Z h x0 z0 .byte 6 [.int 46, .int 117, .int 112, .int 112, .int 101, .int 114] (.int 0)) ∧ (Safe Z EL0 ve h x0) ∧ (Fld Z h q0 "java/lang/String" "coder" "B" (.int 0)) ∧ (Fld Z h q0 "java/lang/String" "value" "[B" (.ref x0)))) := by
  refine MetH.of #[.val (.ref q0), .val (.ref q1)] (plainFor_of_name pn_java_lang_String) rfl Z0 (fun p e s m below meth c T0 hret hml hnm hSL hs0 X0 => ?_)
  have S_q0 := hSL q0 (List.mem_of_getElem? (i := 0) rfl)
  refine kALn X0 d18_0 rfl rfl ?_
  refine kALn X0 d18_1 rfl rfl ?_
  refine kNULL X0 d18_2 ?_
  refine kSPEC X0 (gEL G) (argsL := [.ref q1, .null]) (rest := []) (wd G 111 rfl) (wd G 112 rfl) (wd G 3 rfl) (wd G 113 rfl) rfl (by decide) (rm46 G q0 q1 q2 kp0 h0 X0.n O0 F_q1_value E_q1 F_q1_count F_q1_coder F_q0_coder E_q0 F_q0_value A_q2 d_q2_q0 g_q0) (allS ⟨(E_q0.lt), S_q0⟩ all0) (lenOf pd__Ljava_lang_AbstractStringBuilder_Ljava_lang_Void__V rfl) rfl 0 rfl (by decide) hml.symm d18_3 (fun v1 T2 h3 vm4 _ w5 q6 C7 C8 X9 => ?_)
  obtain ⟨a11, k12, e13, f14, f15, f16, f17, f18, f19⟩ := q6
  subst e13
  have n20 : q0 ≠ a11 := Nat.ne_of_lt (Nat.lt_of_lt_of_le (E_q0.lt) f15)
  have n21 : q1 ≠ a11 := Nat.ne_of_lt (Nat.lt_of_lt_of_le (E_q1.lt) f15)
  have n22 : q2 ≠ a11 := Nat.ne_of_lt (Nat.lt_of_lt_of_le (A_q2.lt) f15)
  have g23 : n0 ≤ a11 := Nat.le_trans X0.n f15
  have g24 : h0.size ≤ a11 := Nat.le_trans X0.g0 f15
  show Go _ _ _ _ _ (mkF _ _ _ [])
  have K25 : Keep h0 h3 [q0] := (Keep.trans (Keep.refl h0 [q0]) f14 (allS (Or.inl (List.mem_of_getElem? (i := 0) rfl)) all0))
  exact kRETV X9 (gEL G) hret d18_6 (fun ve hve => ⟨a11, k12, rfl, K25, g24, f16, (CHr.safe hve (f16.lt) f17), f18, f19⟩) (by decide)
def R_rm44 : Room := { frames := 5, cells := 2, slots := 10, locals := 79 }
theorem rm44 (G : Glob Z a0 iCS vSI) (q0 q1 : Addr) (kp0 : ClassId) (h0 : Heap) (Z0 : n0 ≤ h0.size) (O0 : Old Z n0 h0) (E_q0 : Exa Z h0 q0 "java/lang/StringBuilder") (A_q1 : Arv Z h0 q1 kp0 .byte 16 [.int 46, .int 117, .int 112, .int 112, .int 101, .int 114, .int 0, .int 0, .int 0, .int 0, .int 0, .int 0, .int 0, .int 0, .int 0, .int 0] (.int 0)) (F_q0_value : Fld Z h0 q0 "java/lang/AbstractStringBuilder" "value" "[B" (.ref q1)) (F_q0_count : Fld Z h0 q0 "java/lang/AbstractStringBuilder" "count" "I" (.int 6)) (F_q0_coder : Fld Z h0 q0 "java/lang/AbstractStringBuilder" "coder" "B" (.int 0)) : MetH l Z EL0 n0 N_jdk_67_m_42 jdk_67_method_42_code 1 (some (.object "java/lang/String")) [] R_rm44 #[.ref q0] h0 [] (fun vs v h ve => (∃ (x0 : Addr), ∃ (x1 : Addr), ∃ (z0 : ClassId), v = some (.ref x0) ∧ (Keep h0 h []) ∧ (h0.size ≤ x0) ∧ (h0.size ≤ x1) ∧ (x0 ≠ x1) ∧ (Exa Z h x0 "java/lang/String") ∧ (Fld Z h x0 "java/lang/String" "coder" "B" (.int 0)) ∧ (Fld Z h x0 "java/lang/String" "value" "[B" (.ref x1)) ∧ (Safe Z EL0 ve h x0) ∧ (Arv Z h x1 z0 .byte 6 [.int 46, .int 117, .int 112, .int 112, .int 101, .int 114] (.int 0)) ∧ (Safe Z EL0 ve h x1))) := by
  refine MetH.of #[.val (.ref q0)] (plainFor_of_name pn_java_lang_StringBuilder) rfl Z0 (fun p e s m below meth c T0 hret hml hnm hSL hs0 X0 => ?_)
  refine kNEW X0 (wd G 107 rfl) (wd G 2 rfl) (wd G 3 rfl) d17_0 (by decide) (by decide) (fun T1 h2 a4 E5 q6 g7 A8 D9 s10 X3 => ?_)
  have n11 : q0 ≠ a4 := Nat.ne_of_lt (Nat.lt_of_lt_of_le (E_q0.lt) (Nat.le_of_eq q6.symm))
  have n12 : q1 ≠ a4 := Nat.ne_of_lt (Nat.lt_of_lt_of_le (A_q1.lt) (Nat.le_of_eq q6.symm))
  have g13 : h0.size ≤ a4 := q6 ▸ X0.g0
  have f14 : Fld Z h2 a4 "java/lang/String" "coder" "B" (.int 0) := D9 (Or.inr (wd G 27 rfl)) (ty := .byte) (by decide)
  have f15 : Fld Z h2 a4 "java/lang/String" "value" "[B" (.null) := D9 (Or.inr (wd G 29 rfl)) (ty := (.array (.byte))) (by decide)
  refine kDUP X3 d17_3 rfl ?_
  refine kALn X3 d17_4 rfl rfl ?_
  have f16 := (Fld.ext E5 F_q0_value)
  have f17 := (Exa.ext E5 E_q0)
  have f18 := (Fld.ext E5 F_q0_count)
  have f19 := (Fld.ext E5 F_q0_coder)
  have f20 := (Arv.ext A_q1 E5)
  have f21 := (Old.ext O0 E5)
  refine kSPEC X3 (gEL G) (argsL := [.ref q0]) (rest := [.ref a4]) (wd G 108 rfl) (wd G 109 rfl) (wd G 3 rfl) (wd G 110 rfl) rfl (by decide) (rm45 G a4 q0 q1 kp0 h2 X3.n f21 f16 f17 f18 f19 f14 A8 f15 f20 n12 g7) (allS ⟨(A8.lt), s10⟩ all0) (lenOf pd__Ljava_lang_StringBuilder__V rfl) rfl 1 rfl (by decide) hml.symm d17_5 (fun v22 T23 h24 vm25 _ w26 q27 C28 C29 X30 => ?_)
  obtain ⟨a32, k33, e34, f35, f36, f37, f38, f39, f40⟩ := q27
  subst e34
  have n41 : q0 ≠ a32 := Nat.ne_of_lt (Nat.lt_of_lt_of_le (f17.lt) f36)
  have n42 : q1 ≠ a32 := Nat.ne_of_lt (Nat.lt_of_lt_of_le (f20.lt) f36)
  have n43 : a4 ≠ a32 := Nat.ne_of_lt (Nat.lt_of_lt_of_le (A8.lt) f36)
  have g44 : n0 ≤ a32 := Nat.le_trans X3.n f36
  have g45 : h0.size ≤ a32 := Nat.le_trans X3.g0 f36
  show Go _ _ _ _ _ (mkF _ _ _ [.ref a4])
  have K46 : Keep h0 h24 [] := (Keep.trans (Keep.ext (Keep.refl h0 []) E5) f35 (allS (Or.inr g13) all0))
  have f47 := (Exa.keep A8 f35)
  have f48 := (CHr.safe C29 (f14.lt) s10)
  exact kRETA X30 (gEL G) hret rfl rfl d17_8 (fun ve hve => ⟨a4, a32, k33, rfl, K46, g13, g45, n43, f47, f39, f40, (CHr.safe hve (f47.lt) f48), f37, (CHr.safe hve (f37.lt) f38)⟩) (by decide)
def R_rm36 : Room := { frames := 6, cells := 6, slots := 58, locals := 91 }
theorem rm36 (G : Glob Z a0 iCS vSI) (q0 q1 : Addr) (kp0 : ClassId) (h0 : Heap) (Z0 : n0 ≤ h0.size) (O0 : Old Z n0 h0) (E_q0 : Exa Z h0 q0 "java/lang/String") (A_q1 : Arv Z h0 q1 kp0 .byte 0 [] (.int 0)) (F_q0_value : Fld Z h0 q0 "java/lang/String" "value" "[B" (.ref q1)) (F_q0_coder : Fld Z h0 q0 "java/lang/String" "coder" "B" (.int 0)) : MetH l Z EL0 n0 N_prog_3_m_8 prog_3_method_8_code 2 (some (.object "java/lang/String")) [] R_rm36 #[.ref q0, .int 1] h0 [q0] (fun vs v h ve => (∃ (x0 : Addr), ∃ (x1 : Addr), ∃ (z0 : ClassId), v = some (.ref x0) ∧ (Keep h0 h []) ∧ (h0.size ≤ x0) ∧ (h0.size ≤ x1) ∧ (x0 ≠ x1) ∧ (Exa Z h x0 "java/lang/String") ∧ (Fld Z h x0 "java/lang/String" "coder" "B" (.int 0)) ∧ (Fld Z h x0 "java/lang/String" "value" "[B" (.ref x1)) ∧ (Safe Z EL0 ve h x0) ∧ (Arv Z h x1 z0 .byte 6 [.int 46, .int 117, .int 112, .int 112, .int 101, .int 114] (.int 0)) ∧ (Safe Z EL0 ve h x1))) := by
  refine MetH.of #[.val (.ref q0), .val (.int 1)] (plainFor_of_name pn_com_example_tight_calculus_tightcalculus_Component) rfl Z0 (fun p e s m below meth c T0 hret hml hnm hSL hs0 X0 => ?_)
  have S_q0 := hSL q0 (List.mem_of_getElem? (i := 0) rfl)
  refine kNEW X0 (wd G 34 rfl) (wd G 35 rfl) (wd G 36 rfl) d6_0 (by decide) (by decide) (fun T1 h2 a4 E5 q6 g7 A8 D9 s10 X3 => ?_)
  have n11 : q0 ≠ a4 := Nat.ne_of_lt (Nat.lt_of_lt_of_le (E_q0.lt) (Nat.le_of_eq q6.symm))
  have n12 : q1 ≠ a4 := Nat.ne_of_lt (Nat.lt_of_lt_of_le (A_q1.lt) (Nat.le_of_eq q6.symm))
  have g13 : h0.size ≤ a4 := q6 ▸ X0.g0
  have f14 : Fld Z h2 a4 "java/lang/AbstractStringBuilder" "value" "[B" (.null) := D9 (Or.inl (wd G 49 rfl)) (ty := (.array (.byte))) (by decide)
  have f15 : Fld Z h2 a4 "java/lang/AbstractStringBuilder" "coder" "B" (.int 0) := D9 (Or.inl (wd G 51 rfl)) (ty := .byte) (by decide)
  have f16 : Fld Z h2 a4 "java/lang/AbstractStringBuilder" "count" "I" (.int 0) := D9 (Or.inl (wd G 73 rfl)) (ty := .int) (by decide)
  refine kDUP X3 d6_3 rfl ?_
  have f17 := (Old.ext O0 E5)
  refine kSPEC X3 (gEL G) (argsL := []) (rest := [.ref a4]) (wd G 37 rfl) (wd G 38 rfl) (wd G 36 rfl) (wd G 39 rfl) rfl (by decide) (rm4 G a4 h2 X3.n f17 A8 f14 f15 f16 g7) all0 (lenOf pd___V rfl) rfl 1 rfl (by decide) hml.symm d6_4 (fun v18 T19 h20 vm21 _ w22 q23 C24 C25 X26 => ?_)
  obtain ⟨a28, k29, e30, f31, f32, f33, f34, f35, f36, f37⟩ := q23
  subst e30
  have f39 := (Exa.ext E5 E_q0)
  have n38 : q0 ≠ a28 := Nat.ne_of_lt (Nat.lt_of_lt_of_le (f39.lt) f32)
  have f41 := (Arv.ext A_q1 E5)
  have n40 : q1 ≠ a28 := Nat.ne_of_lt (Nat.lt_of_lt_of_le (f41.lt) f32)
  have n42 : a4 ≠ a28 := Nat.ne_of_lt (Nat.lt_of_lt_of_le (A8.lt) f32)
  have g43 : n0 ≤ a28 := Nat.le_trans X3.n f32
  have g44 : h0.size ≤ a28 := Nat.le_trans X3.g0 f32
  show Go _ _ _ _ _ (mkF _ _ _ [.ref a4])
  refine kALn X26 d6_7 rfl rfl ?_
  have f45 := (Fld.keep (Fld.ext E5 F_q0_value) f31 (ninS n11 nin0))
  have f46 := (Arv.keep f41 f31 (ninS n12 nin0))
  have f47 := (Fld.keep (Fld.ext E5 F_q0_coder) f31 (ninS n11 nin0))
  have f48 := (Exa.keep f39 f31)
  have f49 := (Exa.keep A8 f31)
  have f50 := (Old.keep f17 f31 (allS g7 all0))
  refine kVIRT X26 (gEL G) (argsL := [.ref q0]) (rest := []) (wd G 52 rfl) (wd G 53 rfl) (own_nf X26.hZ (own_noinst (wd G 35 rfl))) (wd G 55 rfl) (wd G 54 rfl) (wd G 36 rfl) (wd G 56 rfl) (by decide) f49 (rm6 G a4 q0 a28 q1 k29 kp0 h20 X26.n f50 f45 f46 f47 f48 f36 f37 f33 f35 f49 n42 g7 g43) (allS ⟨(f33.lt), f34⟩ all0) (lenOf pd__Ljava_lang_String__Ljava_lang_StringBuilder_ rfl) rfl 0 rfl (by decide) hml.symm d6_8 (fun v51 T52 h53 vm54 _ w55 q56 C57 C58 X59 => ?_)
  obtain ⟨e61, f62, f63, f64, f65, f66⟩ := q56
  subst e61
  show Go _ _ _ _ _ (mkF _ _ _ [.ref a4])
  refine kILn X59 d6_11 rfl ?_
  refine kIFf X59 d6_12 (XT.i0_eq_f (by decide)) ?_
  refine kLDCT X59 (gEL G) (wd G 170 rfl) (gSA G) (by decide) (text := ".upper") (vs := [.int 46, .int 117, .int 112, .int 112, .int 101, .int 114]) (z := 6) (by decide) (by decide) (by decide) d6_15 (n := 24) (by decide) (by decide) (by decide) (by decide) (fun T67 h68 vm70 a71 b72 k73 E74 C75 f76 f77 f78 f79 n80 X69 => ?_)
  have f81 := (CHr.safe C75 ((Exa.keep f48 f62)).lt (CHr.safe C58 (f48.lt) (CHr.safe C25 (f39.lt) (Safe.ext E5 X0.C.1 S_q0))))
  have n82 := (n80 q0 f81).1
  have n83 := (n80 q0 f81).2
  have f84 := (Exa.ext E74 (Exa.keep f49 f62))
  have n85 := (n80 a4 (Safe.exa X69.hZ.alike f84 (by decide) (by decide))).1
  have n86 := (n80 a4 (Safe.exa X69.hZ.alike f84 (by decide) (by decide))).2
  have f87 := (CHr.safe C75 (f63.lt) (CHr.safe C58 (f33.lt) f34))
  have n88 := (n80 a28 f87).1
  have n89 := (n80 a28 f87).2
  have n90 : ∀ x, x < h0.size → Safe Z EL0 s.vm h0 x → x ≠ b72 := fun x hx S => (n80 x (CHr.safe (hs0 ▸ X69.C) hx S)).2
  refine kGOTO X69 22 d6_17 (by decide) ?_
  have f91 := (Fld.ext E74 f65)
  have f92 := (Fld.ext E74 f66)
  have f93 := (Arv.ext f63 E74)
  have f94 := (Fld.ext E74 f64)
  have f95 := (Old.ext (Old.keep f50 f62 (allS g43 (allS g7 all0))) E74)
  refine kVIRT X69 (gEL G) (argsL := [.ref a71]) (rest := []) (wd G 52 rfl) (wd G 53 rfl) (own_nf X69.hZ (own_noinst (wd G 35 rfl))) (wd G 55 rfl) (wd G 54 rfl) (wd G 36 rfl) (wd G 56 rfl) (by decide) f84 (rm37 G a4 a71 a28 b72 k29 k73 h68 X69.n f95 f78 f79 f77 f76 f91 f92 f93 f94 f84 n42 g7 g43) (allS ⟨(f93.lt), f87⟩ all0) (lenOf pd__Ljava_lang_String__Ljava_lang_StringBuilder_ rfl) rfl 0 rfl (by decide) hml.symm d6_22 (fun v96 T97 h98 vm99 _ w100 q101 C102 C103 X104 => ?_)
  obtain ⟨e106, f107, f108, f109, f110, f111⟩ := q101
  subst e106
  show Go _ _ _ _ _ (mkF _ _ _ [.ref a4])
  have f112 := (Exa.keep f84 f107)
  have f113 := (Old.keep f95 f107 (allS g43 (allS g7 all0)))
  refine kVIRT X104 (gEL G) (argsL := []) (rest := []) (wd G 102 rfl) (wd G 103 rfl) (own_nf X104.hZ (own_noinst (wd G 35 rfl))) (wd G 105 rfl) (wd G 104 rfl) (wd G 36 rfl) (wd G 106 rfl) (by decide) f112 (rm44 G a4 a28 k29 h98 X104.n f113 f112 f108 f111 f110 f109) all0 (lenOf pd___Ljava_lang_String_ rfl) rfl 0 rfl (by decide) hml.symm d6_25 (fun v114 T115 h116 vm117 _ w118 q119 C120 C121 X122 => ?_)
  obtain ⟨a124, a125, k126, e127, f128, f129, f130, f131, f132, f133, f134, f135, f136, f137⟩ := q119
  subst e127
  have f139 := (Exa.keep (Exa.ext E74 (Exa.keep f48 f62)) f107)
  have n138 : q0 ≠ a124 := Nat.ne_of_lt (Nat.lt_of_lt_of_le (f139.lt) f129)
  have f141 := (Arv.keep (Arv.ext (Arv.keep f46 f62 (ninS n40 (ninS n12 nin0))) E74) f107 (ninS n40 (ninS n12 nin0)))
  have n140 : q1 ≠ a124 := Nat.ne_of_lt (Nat.lt_of_lt_of_le (f141.lt) f129)
  have n142 : a4 ≠ a124 := Nat.ne_of_lt (Nat.lt_of_lt_of_le (f112.lt) f129)
  have n143 : a28 ≠ a124 := Nat.ne_of_lt (Nat.lt_of_lt_of_le (f108.lt) f129)
  have f145 := (Exa.keep f76 f107)
  have n144 : a71 ≠ a124 := Nat.ne_of_lt (Nat.lt_of_lt_of_le (f145.lt) f129)
  have f147 := (Arv.keep f79 f107 (ninS (Ne.symm n89) (ninS (Ne.symm n86) nin0)))
  have n146 : b72 ≠ a124 := Nat.ne_of_lt (Nat.lt_of_lt_of_le (f147.lt) f129)
  have n148 : q0 ≠ a125 := Nat.ne_of_lt (Nat.lt_of_lt_of_le (f139.lt) f130)
  have n149 : q1 ≠ a125 := Nat.ne_of_lt (Nat.lt_of_lt_of_le (f141.lt) f130)
  have n150 : a4 ≠ a125 := Nat.ne_of_lt (Nat.lt_of_lt_of_le (f112.lt) f130)
  have n151 : a28 ≠ a125 := Nat.ne_of_lt (Nat.lt_of_lt_of_le (f108.lt) f130)
  have n152 : a71 ≠ a125 := Nat.ne_of_lt (Nat.lt_of_lt_of_le (f145.lt) f130)
  have n153 : b72 ≠ a125 := Nat.ne_of_lt (Nat.lt_of_lt_of_le (f147.lt) f130)
  have g154 : n0 ≤ a124 := Nat.le_trans X104.n f129
  have g155 : h0.size ≤ a124 := Nat.le_trans X104.g0 f129
  have g156 : n0 ≤ a125 := Nat.le_trans X104.n f130
  have g157 : h0.size ≤ a125 := Nat.le_trans X104.g0 f130
  show Go _ _ _ _ _ (mkF _ _ _ [.ref a124])
  have K158 : Keep h0 h116 [] := (Keep.trans (Keep.trans (Keep.ext (Keep.trans (Keep.trans (Keep.ext (Keep.refl h0 []) E5) f31 (allS (Or.inr g13) all0)) f62 (allS (Or.inr g44) (allS (Or.inr g13) all0))) E74) f107 (allS (Or.inr g44) (allS (Or.inr g13) all0))) f128 all0)
  exact kRETA X122 (gEL G) hret rfl rfl d6_28 (fun ve hve => ⟨a124, a125, k126, rfl, K158, g155, g157, f131, f132, f133, f134, (CHr.safe hve (f132.lt) f135), f136, (CHr.safe hve (f136.lt) f137)⟩) (by decide)
def R_rm54 : Room := { frames := 0, cells := 0, slots := 0, locals := 0 }
theorem rm54 (G : Glob Z a0 iCS vSI) (q0 q1 : Addr) (kp0 : ClassId) (h0 : Heap) (Z0 : n0 ≤ h0.size) (O0 : Old Z n0 h0) (F_q0_coder : Fld Z h0 q0 "java/lang/String" "coder" "B" (.int 0)) : MetH l Z EL0 n0 N_jdk_42_m_152 jdk_42_method_152_code 1 (some .byte) [] R_rm54 #[.ref q0] h0 [] (fun vs v h ve => (v = some (.int 0) ∧ (h0 = h))) := by
  refine MetH.of #[.val (.ref q0)] (plainFor_of_name pn_java_lang_String) rfl Z0 (fun p e s m below meth c T0 hret hml hnm hSL hs0 X0 => ?_)
  refine kGETS X0 (wd G 14 rfl) Via.refl (Sta.ext O0.2 (S_CS G)) d12_0 (fun T1 X2 => ?_)
  refine kIFf X2 d12_3 (XT.i0_eq_f (n_CS G)) ?_
  refine kALn X2 d12_6 rfl rfl ?_
  refine kGETF X2 (wd G 26 rfl) Via.refl F_q0_coder d12_7 (fun T3 X4 => ?_)
  refine kGOTO X4 14 d12_10 (by decide) ?_
  exact kRETZ X4 (gEL G) (t := .byte) hret (by simp) d12_14 (fun ve hve => ⟨rfl, rfl⟩) (by decide)
def R_rm53 : Room := { frames := 1, cells := 0, slots := 0, locals := 13 }
theorem rm53 (G : Glob Z a0 iCS vSI) (q0 q1 : Addr) (kp0 : ClassId) (h0 : Heap) (Z0 : n0 ≤ h0.size) (O0 : Old Z n0 h0) (F_q0_value : Fld Z h0 q0 "java/lang/String" "value" "[B" (.ref q1)) (A_q1 : Arv Z h0 q1 kp0 .byte 6 [.int 46, .int 117, .int 112, .int 112, .int 101, .int 114] (.int 0)) (F_q0_coder : Fld Z h0 q0 "java/lang/String" "coder" "B" (.int 0)) (E_q0 : Exa Z h0 q0 "java/lang/String") : MetH l Z EL0 n0 N_jdk_42_m_54 jdk_42_method_54_code 1 (some .int) [] R_rm53 #[.ref q0] h0 [] (fun vs v h ve => (v = some (.int 6) ∧ (h0 = h))) := by
  refine MetH.of #[.val (.ref q0)] (plainFor_of_name pn_java_lang_String) rfl Z0 (fun p e s m below meth c T0 hret hml hnm hSL hs0 X0 => ?_)
  refine kALn X0 d11_0 rfl rfl ?_
  refine kGETF X0 (wd G 28 rfl) Via.refl F_q0_value d11_1 (fun T1 X2 => ?_)
  refine kLEN X2 A_q1 d11_4 ?_
  refine kALn X2 d11_5 rfl rfl ?_
  refine kVIRT X2 (gEL G) (argsL := []) (rest := [.int 6]) (wd G 67 rfl) (wd G 68 rfl) (own_nf X2.hZ (own_noinst (wd G 2 rfl))) (wd G 70 rfl) (wd G 69 rfl) (wd G 3 rfl) (wd G 71 rfl) (by decide) E_q0 (rm54 G q0 q1 kp0 h0 X2.n O0 F_q0_coder) all0 (lenOf pd___B rfl) rfl 1 rfl (by decide) hml.symm d11_6 (fun v3 T4 h5 vm6 _ w7 q8 C9 C10 X11 => ?_)
  obtain ⟨e13, f14⟩ := q8
  subst e13
  subst f14
  show Go _ _ _ _ _ (mkF _ _ _ [.int 0, .int 6])
  refine kISHR X11 6 d11_9 (by decide) ?_
  exact kRETI X11 (gEL G) hret d11_10 (fun ve hve => ⟨rfl, rfl⟩) (by decide)
theorem pn_java_lang_StringUTF16 : plainName "java/lang/StringUTF16" = true := by first | (simp [plainName, overriddenIn]; done) | decide +kernel
theorem d1_27 : decode jdk_42_method_149_code 27 = .ok (.getstatic 38, 3) := by decide +kernel
theorem d1_30 : decode jdk_42_method_149_code 30 = .ok (.ifCond .eq 28, 3) := by decide +kernel
theorem d1_33 : decode jdk_42_method_149_code 33 = .ok (.aload_n 1, 1) := by decide +kernel
theorem d1_34 : decode jdk_42_method_149_code 34 = .ok (.iload_n 2, 1) := by decide +kernel
theorem d1_35 : decode jdk_42_method_149_code 35 = .ok (.iload_n 3, 1) := by decide +kernel
theorem d1_36 : decode jdk_42_method_149_code 36 = .ok (.invokestatic 177, 3) := by decide +kernel
theorem d3_0 : decode jdk_52_method_16_code 0 = .ok (.iload_n 2, 1) := by decide +kernel
theorem d3_1 : decode jdk_52_method_16_code 1 = .ok (.newarray .byte, 2) := by decide +kernel
theorem d3_3 : decode jdk_52_method_16_code 3 = .ok (.astore_n 3, 1) := by decide +kernel
theorem d3_4 : decode jdk_52_method_16_code 4 = .ok (.aload_n 0, 1) := by decide +kernel
theorem d3_5 : decode jdk_52_method_16_code 5 = .ok (.iload_n 1, 1) := by decide +kernel
theorem d3_6 : decode jdk_52_method_16_code 6 = .ok (.aload_n 3, 1) := by decide +kernel
theorem d3_7 : decode jdk_52_method_16_code 7 = .ok (.iconst 0, 1) := by decide +kernel
theorem d3_8 : decode jdk_52_method_16_code 8 = .ok (.iload_n 2, 1) := by decide +kernel
theorem d3_9 : decode jdk_52_method_16_code 9 = .ok (.invokestatic 115, 3) := by decide +kernel
theorem d4_0 : decode jdk_52_method_21_code 0 = .ok (.iconst 0, 1) := by decide +kernel
theorem d4_1 : decode jdk_52_method_21_code 1 = .ok (.istore 5, 2) := by decide +kernel
theorem d4_3 : decode jdk_52_method_21_code 3 = .ok (.iload 5, 2) := by decide +kernel
theorem d4_5 : decode jdk_52_method_21_code 5 = .ok (.iload 4, 2) := by decide +kernel
theorem d4_7 : decode jdk_52_method_21_code 7 = .ok (.if_icmp .ge 37, 3) := by decide +kernel
theorem d4_10 : decode jdk_52_method_21_code 10 = .ok (.aload_n 0, 1) := by decide +kernel
theorem d4_11 : decode jdk_52_method_21_code 11 = .ok (.iload_n 1, 1) := by decide +kernel
theorem d4_12 : decode jdk_52_method_21_code 12 = .ok (.caload, 1) := by decide +kernel
theorem d4_13 : decode jdk_52_method_21_code 13 = .ok (.istore 6, 2) := by decide +kernel
theorem d4_15 : decode jdk_52_method_21_code 15 = .ok (.iload 6, 2) := by decide +kernel
theorem d4_17 : decode jdk_52_method_21_code 17 = .ok (.sipush 255, 3) := by decide +kernel
theorem d4_20 : decode jdk_52_method_21_code 20 = .ok (.if_icmp .le 6, 3) := by decide +kernel
theorem d4_26 : decode jdk_52_method_21_code 26 = .ok (.aload_n 2, 1) := by decide +kernel
theorem d4_27 : decode jdk_52_method_21_code 27 = .ok (.iload_n 3, 1) := by decide +kernel
theorem d4_28 : decode jdk_52_method_21_code 28 = .ok (.iload 6, 2) := by decide +kernel
theorem d4_30 : decode jdk_52_method_21_code 30 = .ok (.i2b, 1) := by decide +kernel
theorem d4_31 : decode jdk_52_method_21_code 31 = .ok (.bastore, 1) := by decide +kernel
theorem d4_32 : decode jdk_52_method_21_code 32 = .ok (.iinc 1 1, 3) := by decide +kernel
theorem d4_35 : decode jdk_52_method_21_code 35 = .ok (.iinc 3 1, 3) := by decide +kernel
theorem d4_38 : decode jdk_52_method_21_code 38 = .ok (.iinc 5 1, 3) := by decide +kernel
theorem d4_41 : decode jdk_52_method_21_code 41 = .ok (.goto (-38), 3) := by decide +kernel
theorem d4_44 : decode jdk_52_method_21_code 44 = .ok (.iload 4, 2) := by decide +kernel
theorem d4_46 : decode jdk_52_method_21_code 46 = .ok (.ireturn, 1) := by decide +kernel
def N_jdk_52_m_21 : MethodName := ⟨"java/lang/StringUTF16", "compress", "([CI[BII)I"⟩
def R_rm58 : Room := { frames := 0, cells := 0, slots := 0, locals := 0 }
theorem rm58 (G : Glob Z a0 iCS vSI) (i0 : Int32) (q0 q1 : Addr) (kp0 kp1 : ClassId) (h0 : Heap) (Z0 : n0 ≤ h0.size) (O0 : Old Z n0 h0) (A_q0 : Arv Z h0 q0 kp0 .char 1 [.int i0] (.int 0)) (c_0 : ¬ (255 : Int32) < i0) (A_q1 : Arv Z h0 q1 kp1 .byte 1 [.int 0] (.int 0)) (g_q1 : n0 ≤ q1) : MetH l Z EL0 n0 N_jdk_52_m_21 jdk_52_method_21_code 7 (some .int) [] R_rm58 #[.ref q0, .int 0, .ref q1, .int 0, .int 1] h0 [q1] (fun vs v h ve => (v = some (.int 1) ∧ (Keep h0 h [q1]) ∧ (Arv Z h q1 kp1 .byte 1 [.int (ownB i0)] (.int 0)))) := by
  refine MetH.of #[.val (.ref q0), .val (.int 0), .val (.ref q1), .val (.int 0), .val (.int 1), .unset, .unset] (plainFor_of_name pn_java_lang_StringUTF16) rfl Z0 (fun p e s m below meth c T0 hret hml hnm hSL hs0 X0 => ?_)
  have S_q1 := hSL q1 (List.mem_of_getElem? (i := 0) rfl)
  refine kIC X0 0 d4_0 (by decide) ?_
  refine kIS X0 #[.val (.ref q0), .val (.int 0), .val (.ref q1), .val (.int 0), .val (.int 1), .val (.int 0), .unset] d4_1 rfl ?_
  refine kIL X0 d4_3 rfl ?_
  refine kIL X0 d4_5 rfl ?_
  refine kICf X0 d4_7 (XT.ii_ge_f (by decide)) ?_
  refine kALn X0 d4_10 rfl rfl ?_
  refine kILn X0 d4_11 rfl ?_
  refine kCALD X0 (.int i0) A_q0 (by decide) rfl d4_12 ?_
  refine kIS X0 #[.val (.ref q0), .val (.int 0), .val (.ref q1), .val (.int 0), .val (.int 1), .val (.int 0), .val (.int i0)] d4_13 rfl ?_
  refine kIL X0 d4_15 rfl ?_
  refine kSI X0 255 d4_17 (by decide) ?_
  refine kICt X0 26 d4_20 (XT.ii_le_t c_0) (by decide) ?_
  refine kALn X0 d4_26 rfl rfl ?_
  refine kILn X0 d4_27 rfl ?_
  refine kIL X0 d4_28 rfl ?_
  refine kI2B X0 (ownB i0) d4_30 rfl ?_
  refine kBASTO X0 A_q1 (by decide) 0 (ownB i0) (own_nb _) (by decide) (by show 0 < 1; decide) g_q1 S_q1 d4_31 (fun T1 h2 L4 W5 f6 X3 => ?_)
  have f7 : Arv Z h2 q1 kp1 .byte 1 [.int (ownB i0)] (.int 0) := f6
  refine kIINC X3 (1 : Int32) (1 : Int32) #[.val (.ref q0), .val (.int 1), .val (.ref q1), .val (.int 0), .val (.int 1), .val (.int 0), .val (.int i0)] d4_32 (by decide) rfl (by decide) rfl ?_
  refine kIINC X3 (1 : Int32) (1 : Int32) #[.val (.ref q0), .val (.int 1), .val (.ref q1), .val (.int 1), .val (.int 1), .val (.int 0), .val (.int i0)] d4_35 (by decide) rfl (by decide) rfl ?_
  refine kIINC X3 (1 : Int32) (1 : Int32) #[.val (.ref q0), .val (.int 1), .val (.ref q1), .val (.int 1), .val (.int 1), .val (.int 1), .val (.int i0)] d4_38 (by decide) rfl (by decide) rfl ?_
  refine kGOTO X3 3 d4_41 (by decide) ?_
  refine kIL X3 d4_3 rfl ?_
  refine kIL X3 d4_5 rfl ?_
  refine kICt X3 44 d4_7 (XT.ii_ge_t (by decide)) (by decide) ?_
  refine kIL X3 d4_44 rfl ?_
  have K8 : Keep h0 h2 [q1] := (Keep.wr (Keep.refl h0 [q1]) W5 (Or.inl (List.mem_of_getElem? (i := 0) rfl)))
  exact kRETI X3 (gEL G) hret d4_46 (fun ve hve => ⟨rfl, K8, f7⟩) (by decide)
theorem pd___CI_BII_I : parseMethodDescriptor "([CI[BII)I" = some ⟨[.array (.char), .int, .array (.byte), .int, .int], some .int⟩ := by decide +kernel
theorem d3_12 : decode jdk_52_method_16_code 12 = .ok (.istore 4, 2) := by decide +kernel
theorem d3_14 : decode jdk_52_method_16_code 14 = .ok (.iload 4, 2) := by decide +kernel
theorem d3_16 : decode jdk_52_method_16_code 16 = .ok (.iload_n 2, 1) := by decide +kernel
theorem d3_17 : decode jdk_52_method_16_code 17 = .ok (.if_icmp .eq 40, 3) := by decide +kernel
theorem d3_57 : decode jdk_52_method_16_code 57 = .ok (.aload_n 3, 1) := by decide +kernel
theorem d3_58 : decode jdk_52_method_16_code 58 = .ok (.areturn, 1) := by decide +kernel
def N_jdk_52_m_16 : MethodName := ⟨"java/lang/StringUTF16", "compress", "([CII)[B"⟩
def R_rm57 : Room := { frames := 1, cells := 1, slots := 1, locals := 18 }
theorem rm57 (G : Glob Z a0 iCS vSI) (i0 : Int32) (q0 : Addr) (kp0 : ClassId) (h0 : Heap) (Z0 : n0 ≤ h0.size) (O0 : Old Z n0 h0) (A_q0 : Arv Z h0 q0 kp0 .char 1 [.int i0] (.int 0)) (c_0 : ¬ (255 : Int32) < i0) (c_1 : ¬ i0 < 0) : MetH l Z EL0 n0 N_jdk_52_m_16 jdk_52_method_16_code 6 (some (.array (.byte))) [] R_rm57 #[.ref q0, .int 0, .int 1] h0 [] (fun vs v h ve => (∃ (x0 : Addr), ∃ (z0 : ClassId), v = some (.ref x0) ∧ (Keep h0 h []) ∧ (h0.size ≤ x0) ∧ (Arv Z h x0 z0 .byte 1 [.int (ownB i0)] (.int 0)) ∧ (Safe Z EL0 ve h x0))) := by
  refine MetH.of #[.val (.ref q0), .val (.int 0), .val (.int 1), .unset, .unset, .unset] (plainFor_of_name pn_java_lang_StringUTF16) rfl Z0 (fun p e s m below meth c T0 hret hml hnm hSL hs0 X0 => ?_)
  refine kILn X0 d3_0 rfl ?_
  refine kNEWP X0 (wd G 19 rfl) (cap := 1) d3_1 (by decide) (by decide) (by decide) (by decide) (by decide) (fun T1 h2 a4 k5 E6 q7 g8 A9 s10 X3 => ?_)
  have n11 : q0 ≠ a4 := Nat.ne_of_lt (Nat.lt_of_lt_of_le (A_q0.lt) (Nat.le_of_eq q7.symm))
  have g12 : h0.size ≤ a4 := q7 ▸ X0.g0
  have f13 : Arv Z h2 a4 k5 .byte 1 [.int 0] (.int 0) := A9.pad (pad_rep [] _ 1)
  refine kASn X3 #[.val (.ref q0), .val (.int 0), .val (.int 1), .val (.ref a4), .unset, .unset] d3_3 rfl rfl ?_
  refine kALn X3 d3_4 rfl rfl ?_
  refine kILn X3 d3_5 rfl ?_
  refine kALn X3 d3_6 rfl rfl ?_
  refine kIC X3 0 d3_7 (by decide) ?_
  refine kILn X3 d3_8 rfl ?_
  have f14 := (Arv.ext A_q0 E6)
  have f15 := (Old.ext O0 E6)
  refine kSTAT X3 (gEL G) (argsL := [.ref q0, .int 0, .ref a4, .int 0, .int 1]) (rest := []) (wd G 20 rfl) (wd G 21 rfl) (wd G 17 rfl) (wd G 22 rfl) (by decide) (rm58 G i0 q0 a4 kp0 k5 h2 X3.n f15 f14 c_0 f13 g8) (allS ⟨(f13.lt), s10⟩ all0) (lenOf pd___CI_BII_I rfl) rfl 0 rfl (by decide) hml.symm d3_9 (fun v16 T17 h18 vm19 _ w20 q21 C22 C23 X24 => ?_)
  obtain ⟨e26, f27, f28⟩ := q21
  subst e26
  show Go _ _ _ _ _ (mkF _ _ _ [.int 1])
  refine kIS X24 #[.val (.ref q0), .val (.int 0), .val (.int 1), .val (.ref a4), .val (.int 1), .unset] d3_12 rfl ?_
  refine kIL X24 d3_14 rfl ?_
  refine kILn X24 d3_16 rfl ?_
  refine kICt X24 57 d3_17 (XT.ii_eq_t (by decide)) (by decide) ?_
  refine kALn X24 d3_57 rfl rfl ?_
  have K29 : Keep h0 h18 [] := (Keep.trans (Keep.ext (Keep.refl h0 []) E6) f27 (allS (Or.inr g12) all0))
  have f30 := (CHr.safe C23 (f13.lt) s10)
  exact kRETA X24 (gEL G) hret rfl rfl d3_58 (fun ve hve => ⟨a4, k5, rfl, K29, g12, f28, (CHr.safe hve (f28.lt) f30)⟩) (by decide)
theorem pd___CII__B : parseMethodDescriptor "([CII)[B" = some ⟨[.array (.char), .int, .int], some (.array (.byte))⟩ := by decide +kernel
theorem d1_39 : decode jdk_42_method_149_code 39 = .ok (.astore 5, 2) := by decide +kernel
theorem d1_41 : decode jdk_42_method_149_code 41 = .ok (.aload_n 0, 1) := by decide +kernel
theorem d1_42 : decode jdk_42_method_149_code 42 = .ok (.aload 5, 2) := by decide +kernel
theorem d1_44 : decode jdk_42_method_149_code 44 = .ok (.iload_n 3, 1) := by decide +kernel
theorem d1_45 : decode jdk_42_method_149_code 45 = .ok (.invokestatic 47, 3) := by decide +kernel
theorem d5_0 : decode jdk_52_method_15_code 0 = .ok (.iload_n 1, 1) := by decide +kernel
theorem d5_1 : decode jdk_52_method_15_code 1 = .ok (.aload_n 0, 1) := by decide +kernel
theorem d5_2 : decode jdk_52_method_15_code 2 = .ok (.arraylength, 1) := by decide +kernel
theorem d5_3 : decode jdk_52_method_15_code 3 = .ok (.isub, 1) := by decide +kernel
theorem d5_4 : decode jdk_52_method_15_code 4 = .ok (.bipush 31, 2) := by decide +kernel
theorem d5_6 : decode jdk_52_method_15_code 6 = .ok (.iushr, 1) := by decide +kernel
theorem d5_7 : decode jdk_52_method_15_code 7 = .ok (.i2b, 1) := by decide +kernel
theorem d5_8 : decode jdk_52_method_15_code 8 = .ok (.ireturn, 1) := by decide +kernel
def N_jdk_52_m_15 : MethodName := ⟨"java/lang/StringUTF16", "coderFromArrayLen", "([BI)B"⟩
def R_rm59 : Room := { frames := 0, cells := 0, slots := 0, locals := 0 }
theorem rm59 (G : Glob Z a0 iCS vSI) (i0 : Int32) (q0 : Addr) (kp0 : ClassId) (h0 : Heap) (Z0 : n0 ≤ h0.size) (O0 : Old Z n0 h0) (A_q0 : Arv Z h0 q0 kp0 .byte 1 [.int i0] (.int 0)) : MetH l Z EL0 n0 N_jdk_52_m_15 jdk_52_method_15_code 2 (some .byte) [] R_rm59 #[.ref q0, .int 1] h0 [] (fun vs v h ve => (v = some (.int 0) ∧ (h0 = h))) := by
  refine MetH.of #[.val (.ref q0), .val (.int 1)] (plainFor_of_name pn_java_lang_StringUTF16) rfl Z0 (fun p e s m below meth c T0 hret hml hnm hSL hs0 X0 => ?_)
  refine kILn X0 d5_0 rfl ?_
  refine kALn X0 d5_1 rfl rfl ?_
  refine kLEN X0 A_q0 d5_2 ?_
  refine kISUB X0 0 d5_3 (by decide) ?_
  refine kBI X0 31 d5_4 (by decide) ?_
  refine kIUSHR X0 0 d5_6 (by decide) ?_
  refine kI2B X0 (0 : Int32) d5_7 (by decide) ?_
  exact kRETZ X0 (gEL G) (t := .byte) hret (by simp) d5_8 (fun ve hve => ⟨rfl, rfl⟩) (by decide)
theorem pd___BI_B : parseMethodDescriptor "([BI)B" = some ⟨[.array (.byte), .int], some .byte⟩ := by decide +kernel
theorem d1_48 : decode jdk_42_method_149_code 48 = .ok (.putfield 15, 3) := by decide +kernel
theorem d1_51 : decode jdk_42_method_149_code 51 = .ok (.aload_n 0, 1) := by decide +kernel
theorem d1_52 : decode jdk_42_method_149_code 52 = .ok (.aload 5, 2) := by decide +kernel
theorem d1_54 : decode jdk_42_method_149_code 54 = .ok (.putfield 9, 3) := by decide +kernel
theorem d1_57 : decode jdk_42_method_149_code 57 = .ok (.return_, 1) := by decide +kernel
def R_rm56 : Room := { frames := 2, cells := 1, slots := 1, locals := 35 }
theorem rm56 (G : Glob Z a0 iCS vSI) (i0 : Int32) (q0 q1 : Addr) (kp0 : ClassId) (h0 : Heap) (Z0 : n0 ≤ h0.size) (O0 : Old Z n0 h0) (c_0 : ¬ (255 : Int32) < i0) (c_1 : ¬ i0 < 0) (A_q1 : Arv Z h0 q1 kp0 .char 1 [.int i0] (.int 0)) (E_q0 : Exa Z h0 q0 "java/lang/String") (F_q0_coder : Fld Z h0 q0 "java/lang/String" "coder" "B" (.int 0)) (F_q0_value : Fld Z h0 q0 "java/lang/String" "value" "[B" (.null)) (g_q0 : n0 ≤ q0) : MetH l Z EL0 n0 N_jdk_42_m_149 jdk_42_method_149_code 6 none [] R_rm56 #[.ref q0, .ref q1, .int 0, .int 1, .null] h0 [q0] (fun vs v h ve => (∃ (x0 : Addr), ∃ (z0 : ClassId), v = none ∧ (Keep h0 h [q0]) ∧ (h0.size ≤ x0) ∧ (Arv Z h x0 z0 .byte 1 [.int (ownB i0)] (.int 0)) ∧ (Safe Z EL0 ve h x0) ∧ (Fld Z h q0 "java/lang/String" "coder" "B" (.int 0)) ∧ (Fld Z h q0 "java/lang/String" "value" "[B" (.ref x0)))) := by
  refine MetH.of #[.val (.ref q0), .val (.ref q1), .val (.int 0), .val (.int 1), .val .null, .unset] (plainFor_of_name pn_java_lang_String) rfl Z0 (fun p e s m below meth c T0 hret hml hnm hSL hs0 X0 => ?_)
  have S_q0 := hSL q0 (List.mem_of_getElem? (i := 0) rfl)
  refine kALn X0 d1_0 rfl rfl ?_
  refine kINIT X0 (wd G 11 rfl) (wd G 12 rfl) (wd G 13 rfl) hml.symm d1_1 (by decide) 0 (Nat.le_of_eq rfl) (by decide) (fun T1 X2 => ?_)
  refine kILn X2 d1_4 rfl ?_
  refine kIFt X2 27 d1_5 (XT.i0_ne_t (by decide)) (by decide) ?_
  refine kGETS X2 (wd G 14 rfl) Via.refl (Sta.ext O0.2 (S_CS G)) d1_27 (fun T3 X4 => ?_)
  refine kIFf X4 d1_30 (XT.i0_eq_f (n_CS G)) ?_
  refine kALn X4 d1_33 rfl rfl ?_
  refine kILn X4 d1_34 rfl ?_
  refine kILn X4 d1_35 rfl ?_
  refine kSTAT X4 (gEL G) (argsL := [.ref q1, .int 0, .int 1]) (rest := []) (wd G 15 rfl) (wd G 16 rfl) (wd G 17 rfl) (wd G 18 rfl) (by decide) (rm57 G i0 q1 kp0 h0 X4.n O0 A_q1 c_0 c_1) all0 (lenOf pd___CII__B rfl) rfl 0 rfl (by decide) hml.symm d1_36 (fun v5 T6 h7 vm8 _ w9 q10 C11 C12 X13 => ?_)
  obtain ⟨a15, k16, e17, f18, f19, f20, f21⟩ := q10
  subst e17
  have n22 : q0 ≠ a15 := Nat.ne_of_lt (Nat.lt_of_lt_of_le (E_q0.lt) f19)
  have n23 : q1 ≠ a15 := Nat.ne_of_lt (Nat.lt_of_lt_of_le (A_q1.lt) f19)
  have g24 : n0 ≤ a15 := Nat.le_trans X4.n f19
  have g25 : h0.size ≤ a15 := Nat.le_trans X4.g0 f19
  show Go _ _ _ _ _ (mkF _ _ _ [.ref a15])
  refine kAS X13 #[.val (.ref q0), .val (.ref q1), .val (.int 0), .val (.int 1), .val .null, .val (.ref a15)] d1_39 rfl rfl ?_
  refine kALn X13 d1_41 rfl rfl ?_
  refine kAL X13 d1_42 rfl rfl ?_
  refine kILn X13 d1_44 rfl ?_
  have f26 := (Old.keep O0 f18 all0)
  refine kSTAT X13 (gEL G) (argsL := [.ref a15, .int 1]) (rest := [.ref q0]) (wd G 23 rfl) (wd G 24 rfl) (wd G 17 rfl) (wd G 25 rfl) (by decide) (rm59 G (ownB i0) a15 k16 h7 X13.n f26 f20) all0 (lenOf pd___BI_B rfl) rfl 1 rfl (by decide) hml.symm d1_45 (fun v27 T28 h29 vm30 _ w31 q32 C33 C34 X35 => ?_)
  obtain ⟨e37, f38⟩ := q32
  subst e37
  subst f38
  show Go _ _ _ _ _ (mkF _ _ _ [.int 0, .ref q0])
  have f39 := (Fld.keep F_q0_coder f18 nin0)
  have f40 := (Exa.keep E_q0 f18)
  have f41 := (CHr.safe C34 ((Fld.keep F_q0_value f18 nin0)).lt (CHr.safe C12 (F_q0_value.lt) S_q0))
  refine kPUTF X35 (wd G 26 rfl) Via.refl f39 f40 (Or.inr ⟨(wd G 27 rfl), rfl, hnm⟩) (wd G 2 rfl) (ty := .byte) (by decide) (by decide) (by decide) g_q0 f41 d1_48 (fun T42 h43 L46 W45 X44 => ?_)
  have f47 := Fld.same W45 f39
  refine kALn X44 d1_51 rfl rfl ?_
  refine kAL X44 d1_52 rfl rfl ?_
  have f48 := (Fld.other W45 (Fld.keep F_q0_value f18 nin0) (Or.inr (slot_ne (Or.inr (wd G 29 rfl)) (Or.inr (wd G 27 rfl)) (by decide) (by decide : parseFieldDescriptor "[B" = some (.array (.byte))) (by decide : parseFieldDescriptor "B" = some .byte))))
  have f49 := (Exa.wr W45 f40)
  have f50 := (Safe.wr W45 f41 X35.C.1 f41)
  refine kPUTF X44 (wd G 28 rfl) Via.refl f48 f49 (Or.inr ⟨(wd G 29 rfl), rfl, hnm⟩) (wd G 2 rfl) (ty := (.array (.byte))) (by decide) rfl rfl g_q0 f50 d1_54 (fun T51 h52 L55 W54 X53 => ?_)
  have f56 := Fld.same W54 f48
  have K57 : Keep h0 h52 [q0] := (Keep.wr (Keep.wr (Keep.trans (Keep.refl h0 [q0]) f18 all0) W45 (Or.inl (List.mem_of_getElem? (i := 0) rfl))) W54 (Or.inl (List.mem_of_getElem? (i := 0) rfl)))
  have f58 := (Arv.other (Arv.other f20 W45 (Ne.symm n22)) W54 (Ne.symm n22))
  have f59 := (Safe.wr W54 f50 X44.C.1 (Safe.wr W45 f41 X35.C.1 (CHr.safe C34 (f20.lt) f21)))
  have f60 := (Fld.other W54 f47 (Or.inr (slot_ne (Or.inr (wd G 27 rfl)) (Or.inr (wd G 29 rfl)) (by decide) (by decide : parseFieldDescriptor "B" = some .byte) (by decide : parseFieldDescriptor "[B" = some (.array (.byte))))))
  exact kRETV X53 (gEL G) hret d1_57 (fun ve hve => ⟨a15, k16, rfl, K57, g25, f58, (CHr.safe hve (f58.lt) f59), f60, f56⟩) (by decide)
def R_rm55 : Room := { frames := 3, cells := 1, slots := 1, locals := 52 }
theorem rm55 (G : Glob Z a0 iCS vSI) (i0 : Int32) (q0 q1 : Addr) (kp0 : ClassId) (h0 : Heap) (Z0 : n0 ≤ h0.size) (O0 : Old Z n0 h0) (A_q1 : Arv Z h0 q1 kp0 .char 1 [.int i0] (.int 0)) (c_0 : ¬ (255 : Int32) < i0) (c_1 : ¬ i0 < 0) (E_q0 : Exa Z h0 q0 "java/lang/String") (F_q0_coder : Fld Z h0 q0 "java/lang/String" "coder" "B" (.int 0)) (F_q0_value : Fld Z h0 q0 "java/lang/String" "value" "[B" (.null)) (g_q0 : n0 ≤ q0) : MetH l Z EL0 n0 N_jdk_42_m_3 jdk_42_method_3_code 2 none [] R_rm55 #[.ref q0, .ref q1] h0 [q0] (fun vs v h ve => (∃ (x0 : Addr), ∃ (z0 : ClassId), v = none ∧ (Keep h0 h [q0]) ∧ (h0.size ≤ x0) ∧ (Arv Z h x0 z0 .byte 1 [.int (ownB i0)] (.int 0)) ∧ (Safe Z EL0 ve h x0) ∧ (Fld Z h q0 "java/lang/String" "coder" "B" (.int 0)) ∧ (Fld Z h q0 "java/lang/String" "value" "[B" (.ref x0)))) := by
  refine MetH.of #[.val (.ref q0), .val (.ref q1)] (plainFor_of_name pn_java_lang_String) rfl Z0 (fun p e s m below meth c T0 hret hml hnm hSL hs0 X0 => ?_)
  have S_q0 := hSL q0 (List.mem_of_getElem? (i := 0) rfl)
  refine kALn X0 d0_0 rfl rfl ?_
  refine kALn X0 d0_1 rfl rfl ?_
  refine kIC X0 0 d0_2 (by decide) ?_
  refine kALn X0 d0_3 rfl rfl ?_
  refine kLEN X0 A_q1 d0_4 ?_
  refine kNULL X0 d0_5 ?_
  refine kSPEC X0 (gEL G) (argsL := [.ref q1, .int 0, .int 1, .null]) (rest := []) (wd G 7 rfl) (wd G 8 rfl) (wd G 3 rfl) (wd G 10 rfl) rfl (by decide) (rm56 G i0 q0 q1 kp0 h0 X0.n O0 c_0 c_1 A_q1 E_q0 F_q0_coder F_q0_value g_q0) (allS ⟨(E_q0.lt), S_q0⟩ all0) (lenOf pd___CIILjava_lang_Void__V rfl) rfl 0 rfl (by decide) hml.symm d0_6 (fun v1 T2 h3 vm4 _ w5 q6 C7 C8 X9 => ?_)
  obtain ⟨a11, k12, e13, f14, f15, f16, f17, f18, f19⟩ := q6
  subst e13
  have n20 : q0 ≠ a11 := Nat.ne_of_lt (Nat.lt_of_lt_of_le (E_q0.lt) f15)
  have n21 : q1 ≠ a11 := Nat.ne_of_lt (Nat.lt_of_lt_of_le (A_q1.lt) f15)
  have g22 : n0 ≤ a11 := Nat.le_trans X0.n f15
  have g23 : h0.size ≤ a11 := Nat.le_trans X0.g0 f15
  show Go _ _ _ _ _ (mkF _ _ _ [])
  have K24 : Keep h0 h3 [q0] := (Keep.trans (Keep.refl h0 [q0]) f14 (allS (Or.inl (List.mem_of_getElem? (i := 0) rfl)) all0))
  exact kRETV X9 (gEL G) hret d0_9 (fun ve hve => ⟨a11, k12, rfl, K24, g23, f16, (CHr.safe hve (f16.lt) f17), f18, f19⟩) (by decide)
def R_rm64 : Room := { frames := 0, cells := 0, slots := 0, locals := 0 }
theorem rm64 (G : Glob Z a0 iCS vSI) (i0 : Int32) (q0 q1 : Addr) (kp0 : ClassId) (h0 : Heap) (Z0 : n0 ≤ h0.size) (O0 : Old Z n0 h0) (F_q0_coder : Fld Z h0 q0 "java/lang/String" "coder" "B" (.int 0)) : MetH l Z EL0 n0 N_jdk_42_m_152 jdk_42_method_152_code 1 (some .byte) [] R_rm64 #[.ref q0] h0 [] (fun vs v h ve => (v = some (.int 0) ∧ (h0 = h))) := by
  refine MetH.of #[.val (.ref q0)] (plainFor_of_name pn_java_lang_String) rfl Z0 (fun p e s m below meth c T0 hret hml hnm hSL hs0 X0 => ?_)
  refine kGETS X0 (wd G 14 rfl) Via.refl (Sta.ext O0.2 (S_CS G)) d12_0 (fun T1 X2 => ?_)
  refine kIFf X2 d12_3 (XT.i0_eq_f (n_CS G)) ?_
  refine kALn X2 d12_6 rfl rfl ?_
  refine kGETF X2 (wd G 26 rfl) Via.refl F_q0_coder d12_7 (fun T3 X4 => ?_)
  refine kGOTO X4 14 d12_10 (by decide) ?_
  exact kRETZ X4 (gEL G) (t := .byte) hret (by simp) d12_14 (fun ve hve => ⟨rfl, rfl⟩) (by decide)
def R_rm63 : Room := { frames := 1, cells := 0, slots := 0, locals := 13 }
theorem rm63 (G : Glob Z a0 iCS vSI) (i0 : Int32) (q0 q1 : Addr) (kp0 : ClassId) (h0 : Heap) (Z0 : n0 ≤ h0.size) (O0 : Old Z n0 h0) (F_q0_value : Fld Z h0 q0 "java/lang/String" "value" "[B" (.ref q1)) (A_q1 : Arv Z h0 q1 kp0 .byte 1 [.int i0] (.int 0)) (F_q0_coder : Fld Z h0 q0 "java/lang/String" "coder" "B" (.int 0)) (E_q0 : Exa Z h0 q0 "java/lang/String") : MetH l Z EL0 n0 N_jdk_42_m_54 jdk_42_method_54_code 1 (some .int) [] R_rm63 #[.ref q0] h0 [] (fun vs v h ve => (v = some (.int 1) ∧ (h0 = h))) := by
  refine MetH.of #[.val (.ref q0)] (plainFor_of_name pn_java_lang_String) rfl Z0 (fun p e s m below meth c T0 hret hml hnm hSL hs0 X0 => ?_)
  refine kALn X0 d11_0 rfl rfl ?_
  refine kGETF X0 (wd G 28 rfl) Via.refl F_q0_value d11_1 (fun T1 X2 => ?_)
  refine kLEN X2 A_q1 d11_4 ?_
  refine kALn X2 d11_5 rfl rfl ?_
  refine kVIRT X2 (gEL G) (argsL := []) (rest := [.int 1]) (wd G 67 rfl) (wd G 68 rfl) (own_nf X2.hZ (own_noinst (wd G 2 rfl))) (wd G 70 rfl) (wd G 69 rfl) (wd G 3 rfl) (wd G 71 rfl) (by decide) E_q0 (rm64 G i0 q0 q1 kp0 h0 X2.n O0 F_q0_coder) all0 (lenOf pd___B rfl) rfl 1 rfl (by decide) hml.symm d11_6 (fun v3 T4 h5 vm6 _ w7 q8 C9 C10 X11 => ?_)
  obtain ⟨e13, f14⟩ := q8
  subst e13
  subst f14
  show Go _ _ _ _ _ (mkF _ _ _ [.int 0, .int 1])
  refine kISHR X11 1 d11_9 (by decide) ?_
  exact kRETI X11 (gEL G) hret d11_10 (fun ve hve => ⟨rfl, rfl⟩) (by decide)
def R_rm65 : Room := { frames := 0, cells := 0, slots := 0, locals := 0 }
theorem rm65 (G : Glob Z a0 iCS vSI) (q0 q1 : Addr) (kp0 : ClassId) (h0 : Heap) (Z0 : n0 ≤ h0.size) (O0 : Old Z n0 h0) (F_q0_value : Fld Z h0 q0 "java/lang/AbstractStringBuilder" "value" "[B" (.ref q1)) (A_q1 : Arv Z h0 q1 kp0 .byte 16 [.int 0, .int 0, .int 0, .int 0, .int 0, .int 0, .int 0, .int 0, .int 0, .int 0, .int 0, .int 0, .int 0, .int 0, .int 0, .int 0] (.int 0)) (F_q0_coder : Fld Z h0 q0 "java/lang/AbstractStringBuilder" "coder" "B" (.int 0)) : MetH l Z EL0 n0 N_jdk_68_m_9 jdk_68_method_9_code 3 none [] R_rm65 #[.ref q0, .int 1] h0 [] (fun vs v h ve => (v = none ∧ (h0 = h))) := by
  refine MetH.of #[.val (.ref q0), .val (.int 1), .unset] (plainFor_of_name pn_java_lang_AbstractStringBuilder) rfl Z0 (fun p e s m below meth c T0 hret hml hnm hSL hs0 X0 => ?_)
  refine kALn X0 d13_0 rfl rfl ?_
  refine kGETF X0 (wd G 48 rfl) Via.refl F_q0_value d13_1 (fun T1 X2 => ?_)
  refine kLEN X2 A_q1 d13_4 ?_
  refine kALn X2 d13_5 rfl rfl ?_
  refine kGETF X2 (wd G 50 rfl) Via.refl F_q0_coder d13_6 (fun T3 X4 => ?_)
  refine kISHR X4 16 d13_9 (by decide) ?_
  refine kISn X4 #[.val (.ref q0), .val (.int 1), .val (.int 16)] d13_10 rfl ?_
  refine kILn X4 d13_11 rfl ?_
  refine kILn X4 d13_12 rfl ?_
  refine kISUB X4 (-15) d13_13 (by decide) ?_
  refine kIFt X4 38 d13_14 (XT.i0_le_t (by decide)) (by decide) ?_
  exact kRETV X4 (gEL G) hret d13_38 (fun ve hve => ⟨rfl, rfl⟩) (by decide)
def R_rm67 : Room := { frames := 1, cells := 0, slots := 0, locals := 13 }
theorem rm67 (G : Glob Z a0 iCS vSI) (i0 : Int32) (q0 q1 q2 q3 : Addr) (kp0 kp1 : ClassId) (h0 : Heap) (Z0 : n0 ≤ h0.size) (O0 : Old Z n0 h0) (F_q0_coder : Fld Z h0 q0 "java/lang/AbstractStringBuilder" "coder" "B" (.int 0)) (F_q1_coder : Fld Z h0 q1 "java/lang/String" "coder" "B" (.int 0)) (E_q1 : Exa Z h0 q1 "java/lang/String") : MetH l Z EL0 n0 N_jdk_68_m_71 jdk_68_method_71_code 2 none [] R_rm67 #[.ref q0, .ref q1] h0 [] (fun vs v h ve => (v = none ∧ (h0 = h))) := by
  refine MetH.of #[.val (.ref q0), .val (.ref q1)] (plainFor_of_name pn_java_lang_AbstractStringBuilder) rfl Z0 (fun p e s m below meth c T0 hret hml hnm hSL hs0 X0 => ?_)
  refine kGETS X0 (wd G 47 rfl) Via.refl (Sta.ext O0.2 (S_CS G)) d15_0 (fun T1 X2 => ?_)
  refine kIFf X2 d15_3 (XT.i0_eq_f (n_CS G)) ?_
  refine kALn X2 d15_6 rfl rfl ?_
  refine kGETF X2 (wd G 50 rfl) Via.refl F_q0_coder d15_7 (fun T3 X4 => ?_)
  refine kALn X4 d15_10 rfl rfl ?_
  refine kVIRT X4 (gEL G) (argsL := []) (rest := [.int 0]) (wd G 89 rfl) (wd G 68 rfl) (own_nf X4.hZ (own_noinst (wd G 2 rfl))) (wd G 70 rfl) (wd G 69 rfl) (wd G 3 rfl) (wd G 71 rfl) (by decide) E_q1 (rm64 G i0 q1 q3 kp1 h0 X4.n O0 F_q1_coder) all0 (lenOf pd___B rfl) rfl 1 rfl (by decide) hml.symm d15_11 (fun v5 T6 h7 vm8 _ w9 q10 C11 C12 X13 => ?_)
  obtain ⟨e15, f16⟩ := q10
  subst e15
  subst f16
  show Go _ _ _ _ _ (mkF _ _ _ [.int 0, .int 0])
  refine kICt X13 21 d15_14 (XT.ii_eq_t (by decide)) (by decide) ?_
  exact kRETV X13 (gEL G) hret d15_21 (fun ve hve => ⟨rfl, rfl⟩) (by decide)
def R_rm68 : Room := { frames := 1, cells := 0, slots := 0, locals := 18 }
theorem rm68 (G : Glob Z a0 iCS vSI) (i0 : Int32) (q0 q1 q2 : Addr) (kp0 kp1 : ClassId) (h0 : Heap) (Z0 : n0 ≤ h0.size) (O0 : Old Z n0 h0) (F_q0_coder : Fld Z h0 q0 "java/lang/String" "coder" "B" (.int 0)) (E_q0 : Exa Z h0 q0 "java/lang/String") (F_q0_value : Fld Z h0 q0 "java/lang/String" "value" "[B" (.ref q2)) (A_q2 : Arv Z h0 q2 kp1 .byte 1 [.int i0] (.int 0)) (A_q1 : Arv Z h0 q1 kp0 .byte 16 [.int 0, .int 0, .int 0, .int 0, .int 0, .int 0, .int 0, .int 0, .int 0, .int 0, .int 0, .int 0, .int 0, .int 0, .int 0, .int 0] (.int 0)) (g_q1 : n0 ≤ q1) : MetH l Z EL0 n0 N_jdk_42_m_147 jdk_42_method_147_code 4 none [] R_rm68 #[.ref q0, .ref q1, .int 0, .int 0] h0 [q1] (fun vs v h ve => (v = none ∧ (Keep h0 h [q1]) ∧ (Arv Z h q1 kp0 .byte 16 [.int i0, .int 0, .int 0, .int 0, .int 0, .int 0, .int 0, .int 0, .int 0, .int 0, .int 0, .int 0, .int 0, .int 0, .int 0, .int 0] (.int 0)))) := by
  refine MetH.of #[.val (.ref q0), .val (.ref q1), .val (.int 0), .val (.int 0)] (plainFor_of_name pn_java_lang_String) rfl Z0 (fun p e s m below meth c T0 hret hml hnm hSL hs0 X0 => ?_)
  have S_q1 := hSL q1 (List.mem_of_getElem? (i := 0) rfl)
  refine kALn X0 d16_0 rfl rfl ?_
  refine kVIRT X0 (gEL G) (argsL := []) (rest := []) (wd G 67 rfl) (wd G 68 rfl) (own_nf X0.hZ (own_noinst (wd G 2 rfl))) (wd G 70 rfl) (wd G 69 rfl) (wd G 3 rfl) (wd G 71 rfl) (by decide) E_q0 (rm64 G i0 q0 q2 kp1 h0 X0.n O0 F_q0_coder) all0 (lenOf pd___B rfl) rfl 0 rfl (by decide) hml.symm d16_1 (fun v1 T2 h3 vm4 _ w5 q6 C7 C8 X9 => ?_)
  obtain ⟨e11, f12⟩ := q6
  subst e11
  subst f12
  show Go _ _ _ _ _ (mkF _ _ _ [.int 0])
  refine kILn X9 d16_4 rfl ?_
  refine kICf X9 d16_5 (XT.ii_ne_f (by decide)) ?_
  refine kALn X9 d16_8 rfl rfl ?_
  refine kGETF X9 (wd G 28 rfl) Via.refl F_q0_value d16_9 (fun T13 X14 => ?_)
  refine kIC X14 0 d16_12 (by decide) ?_
  refine kALn X14 d16_13 rfl rfl ?_
  refine kILn X14 d16_14 rfl ?_
  refine kILn X14 d16_15 rfl ?_
  refine kISHL X14 0 d16_16 (by decide) ?_
  refine kALn X14 d16_17 rfl rfl ?_
  refine kGETF X14 (wd G 28 rfl) Via.refl F_q0_value d16_18 (fun T15 X16 => ?_)
  refine kLEN X16 A_q2 d16_21 ?_
  have f17 := (CHr.safe C8 (A_q1.lt) S_q1)
  refine kCPA X16 (wd G 95 rfl) (wd G 98 rfl) (wd G 96 rfl) (wd G 97 rfl) A_q2 A_q1 (Or.inl ⟨rfl, rfl⟩) (us := [.int i0]) (by decide) rfl (by show 1 ≤ 16; decide) g_q1 f17 hml.symm d16_22 (by decide) 0 (Nat.le_of_eq rfl) (by decide) (fun T18 h19 L21 K22 C23 f24 X20 => ?_)
  have f25 : Arv Z h19 q1 kp0 .byte 16 [.int i0, .int 0, .int 0, .int 0, .int 0, .int 0, .int 0, .int 0, .int 0, .int 0, .int 0, .int 0, .int 0, .int 0, .int 0, .int 0] (.int 0) := f24
  refine kGOTO X20 43 d16_25 (by decide) ?_
  have K26 : Keep h0 h19 [q1] := (Keep.trans (Keep.refl h0 [q1]) K22 (allS (Or.inl (List.mem_of_getElem? (i := 0) rfl)) all0))
  exact kRETV X20 (gEL G) hret d16_43 (fun ve hve => ⟨rfl, K26, f25⟩) (by decide)
def R_rm66 : Room := { frames := 2, cells := 0, slots := 0, locals := 33 }
theorem rm66 (G : Glob Z a0 iCS vSI) (i0 : Int32) (q0 q1 q2 q3 : Addr) (kp0 kp1 : ClassId) (h0 : Heap) (Z0 : n0 ≤ h0.size) (O0 : Old Z n0 h0) (F_q0_coder : Fld Z h0 q0 "java/lang/AbstractStringBuilder" "coder" "B" (.int 0)) (F_q1_coder : Fld Z h0 q1 "java/lang/String" "coder" "B" (.int 0)) (E_q1 : Exa Z h0 q1 "java/lang/String") (E_q0 : Exa Z h0 q0 "java/lang/StringBuilder") (F_q0_value : Fld Z h0 q0 "java/lang/AbstractStringBuilder" "value" "[B" (.ref q2)) (F_q1_value : Fld Z h0 q1 "java/lang/String" "value" "[B" (.ref q3)) (A_q3 : Arv Z h0 q3 kp1 .byte 1 [.int i0] (.int 0)) (A_q2 : Arv Z h0 q2 kp0 .byte 16 [.int 0, .int 0, .int 0, .int 0, .int 0, .int 0, .int 0, .int 0, .int 0, .int 0, .int 0, .int 0, .int 0, .int 0, .int 0, .int 0] (.int 0)) (g_q2 : n0 ≤ q2) : MetH l Z EL0 n0 N_jdk_68_m_73 jdk_68_method_73_code 3 none [] R_rm66 #[.ref q0, .int 0, .ref q1] h0 [q2] (fun vs v h ve => (v = none ∧ (Keep h0 h [q2]) ∧ (Arv Z h q2 kp0 .byte 16 [.int i0, .int 0, .int 0, .int 0, .int 0, .int 0, .int 0, .int 0, .int 0, .int 0, .int 0, .int 0, .int 0, .int 0, .int 0, .int 0] (.int 0)))) := by
  refine MetH.of #[.val (.ref q0), .val (.int 0), .val (.ref q1)] (plainFor_of_name pn_java_lang_AbstractStringBuilder) rfl Z0 (fun p e s m below meth c T0 hret hml hnm hSL hs0 X0 => ?_)
  have S_q2 := hSL q2 (List.mem_of_getElem? (i := 0) rfl)
  refine kALn X0 d14_0 rfl rfl ?_
  refine kALn X0 d14_1 rfl rfl ?_
  refine kVIRT X0 (gEL G) (argsL := [.ref q1]) (rest := []) (wd G 84 rfl) (own_decl (wd G 85 rfl) (wd G 88 rfl)) (own_nf X0.hZ (own_noface (wd G 77 rfl) rfl)) (wd G 87 rfl) (wd G 85 rfl) (wd G 44 rfl) (wd G 88 rfl) (by decide) E_q0 (rm67 G i0 q0 q1 q2 q3 kp0 kp1 h0 X0.n O0 F_q0_coder F_q1_coder E_q1) all0 (lenOf pd__Ljava_lang_String__V rfl) rfl 0 rfl (by decide) hml.symm d14_2 (fun v1 T2 h3 vm4 _ w5 q6 C7 C8 X9 => ?_)
  obtain ⟨e11, f12⟩ := q6
  subst e11
  subst f12
  show Go _ _ _ _ _ (mkF _ _ _ [])
  refine kALn X9 d14_5 rfl rfl ?_
  refine kALn X9 d14_6 rfl rfl ?_
  refine kGETF X9 (wd G 48 rfl) Via.refl F_q0_value d14_7 (fun T13 X14 => ?_)
  refine kILn X14 d14_10 rfl ?_
  refine kALn X14 d14_11 rfl rfl ?_
  refine kGETF X14 (wd G 50 rfl) Via.refl F_q0_coder d14_12 (fun T15 X16 => ?_)
  have f26 := (CHr.safe C8 (A_q2.lt) S_q2)
  refine kVIRT X16 (gEL G) (argsL := [.ref q2, .int 0, .int 0]) (rest := []) (wd G 90 rfl) (wd G 91 rfl) (own_nf X16.hZ (own_noinst (wd G 2 rfl))) (wd G 93 rfl) (wd G 92 rfl) (wd G 3 rfl) (wd G 94 rfl) (by decide) E_q1 (rm68 G i0 q1 q2 q3 kp0 kp1 h0 X16.n O0 F_q1_coder E_q1 F_q1_value A_q3 A_q2 g_q2) (allS ⟨(A_q2.lt), f26⟩ all0) (lenOf pd___BIB_V rfl) rfl 0 rfl (by decide) hml.symm d14_15 (fun v17 T18 h19 vm20 _ w21 q22 C23 C24 X25 => ?_)
  obtain ⟨e28, f29, f30⟩ := q22
  subst e28
  show Go _ _ _ _ _ (mkF _ _ _ [])
  have K31 : Keep h0 h19 [q2] := (Keep.trans (Keep.refl h0 [q2]) f29 (allS (Or.inl (List.mem_of_getElem? (i := 0) rfl)) all0))
  exact kRETV X25 (gEL G) hret d14_18 (fun ve hve => ⟨rfl, K31, f30⟩) (by decide)
def R_rm62 : Room := { frames := 3, cells := 0, slots := 0, locals := 47 }
theorem rm62 (G : Glob Z a0 iCS vSI) (i0 : Int32) (q0 q1 q2 q3 : Addr) (kp0 kp1 : ClassId) (h0 : Heap) (Z0 : n0 ≤ h0.size) (O0 : Old Z n0 h0) (F_q1_value : Fld Z h0 q1 "java/lang/String" "value" "[B" (.ref q3)) (A_q3 : Arv Z h0 q3 kp1 .byte 1 [.int i0] (.int 0)) (F_q1_coder : Fld Z h0 q1 "java/lang/String" "coder" "B" (.int 0)) (E_q1 : Exa Z h0 q1 "java/lang/String") (F_q0_count : Fld Z h0 q0 "java/lang/AbstractStringBuilder" "count" "I" (.int 0)) (F_q0_value : Fld Z h0 q0 "java/lang/AbstractStringBuilder" "value" "[B" (.ref q2)) (A_q2 : Arv Z h0 q2 kp0 .byte 16 [.int 0, .int 0, .int 0, .int 0, .int 0, .int 0, .int 0, .int 0, .int 0, .int 0, .int 0, .int 0, .int 0, .int 0, .int 0, .int 0] (.int 0)) (F_q0_coder : Fld Z h0 q0 "java/lang/AbstractStringBuilder" "coder" "B" (.int 0)) (E_q0 : Exa Z h0 q0 "java/lang/StringBuilder") (d_q0_q2 : q0 ≠ q2) (g_q0 : n0 ≤ q0) (g_q2 : n0 ≤ q2) : MetH l Z EL0 n0 N_jdk_68_m_22 jdk_68_method_22_code 3 (some (.object "java/lang/AbstractStringBuilder")) [] R_rm62 #[.ref q0, .ref q1] h0 [q2] (fun vs v h ve => (v = some (.ref q0) ∧ (Keep h0 h [q2, q0]) ∧ (Arv Z h q2 kp0 .byte 16 [.int i0, .int 0, .int 0, .int 0, .int 0, .int 0, .int 0, .int 0, .int 0, .int 0, .int 0, .int 0, .int 0, .int 0, .int 0, .int 0] (.int 0)) ∧ (Fld Z h q0 "java/lang/AbstractStringBuilder" "coder" "B" (.int 0)) ∧ (Fld Z h q0 "java/lang/AbstractStringBuilder" "count" "I" (.int 1)) ∧ (Fld Z h q0 "java/lang/AbstractStringBuilder" "value" "[B" (.ref q2)))) := by
  refine MetH.of #[.val (.ref q0), .val (.ref q1), .unset] (plainFor_of_name pn_java_lang_AbstractStringBuilder) rfl Z0 (fun p e s m below meth c T0 hret hml hnm hSL hs0 X0 => ?_)
  have S_q2 := hSL q2 (List.mem_of_getElem? (i := 0) rfl)
  refine kALn X0 d10_0 rfl rfl ?_
  refine kNNt X0 9 d10_1 (by decide) ?_
  refine kALn X0 d10_9 rfl rfl ?_
  refine kVIRT X0 (gEL G) (argsL := []) (rest := []) (wd G 62 rfl) (wd G 63 rfl) (own_nf X0.hZ (own_noinst (wd G 2 rfl))) (wd G 65 rfl) (wd G 64 rfl) (wd G 3 rfl) (wd G 66 rfl) (by decide) E_q1 (rm63 G i0 q1 q3 kp1 h0 X0.n O0 F_q1_value A_q3 F_q1_coder E_q1) all0 (lenOf pd___I rfl) rfl 0 rfl (by decide) hml.symm d10_10 (fun v1 T2 h3 vm4 _ w5 q6 C7 C8 X9 => ?_)
  obtain ⟨e11, f12⟩ := q6
  subst e11
  subst f12
  show Go _ _ _ _ _ (mkF _ _ _ [.int 1])
  refine kISn X9 #[.val (.ref q0), .val (.ref q1), .val (.int 1)] d10_13 rfl ?_
  refine kALn X9 d10_14 rfl rfl ?_
  refine kALn X9 d10_15 rfl rfl ?_
  refine kGETF X9 (wd G 72 rfl) Via.refl F_q0_count d10_16 (fun T13 X14 => ?_)
  refine kILn X14 d10_19 rfl ?_
  refine kIADD X14 1 d10_20 (by decide) ?_
  refine kVIRT X14 (gEL G) (argsL := [.int 1]) (rest := []) (wd G 74 rfl) (own_decl (wd G 75 rfl) (wd G 78 rfl)) (own_nf X14.hZ (own_noface (wd G 77 rfl) rfl)) (wd G 77 rfl) (wd G 75 rfl) (wd G 44 rfl) (wd G 78 rfl) (by decide) E_q0 (rm65 G q0 q2 kp0 h0 X14.n O0 F_q0_value A_q2 F_q0_coder) all0 (lenOf pd__I_V rfl) rfl 0 rfl (by decide) hml.symm d10_21 (fun v15 T16 h17 vm18 _ w19 q20 C21 C22 X23 => ?_)
  obtain ⟨e25, f26⟩ := q20
  subst e25
  subst f26
  show Go _ _ _ _ _ (mkF _ _ _ [])
  refine kALn X23 d10_24 rfl rfl ?_
  refine kALn X23 d10_25 rfl rfl ?_
  refine kGETF X23 (wd G 72 rfl) Via.refl F_q0_count d10_26 (fun T27 X28 => ?_)
  refine kALn X28 d10_29 rfl rfl ?_
  have f38 := (CHr.safe C22 (A_q2.lt) (CHr.safe C8 (A_q2.lt) S_q2))
  refine kVIRT X28 (gEL G) (argsL := [.int 0, .ref q1]) (rest := []) (wd G 79 rfl) (own_decl (wd G 80 rfl) (wd G 83 rfl)) (own_nf X28.hZ (own_noface (wd G 77 rfl) rfl)) (wd G 82 rfl) (wd G 80 rfl) (wd G 44 rfl) (wd G 83 rfl) (by decide) E_q0 (rm66 G i0 q0 q1 q2 q3 kp0 kp1 h0 X28.n O0 F_q0_coder F_q1_coder E_q1 E_q0 F_q0_value F_q1_value A_q3 A_q2 g_q2) (allS ⟨(A_q2.lt), f38⟩ all0) (lenOf pd__ILjava_lang_String__V rfl) rfl 0 rfl (by decide) hml.symm d10_30 (fun v29 T30 h31 vm32 _ w33 q34 C35 C36 X37 => ?_)
  obtain ⟨e40, f41, f42⟩ := q34
  subst e40
  show Go _ _ _ _ _ (mkF _ _ _ [])
  refine kALn X37 d10_33 rfl rfl ?_
  refine kDUP X37 d10_34 rfl ?_
  have f43 := (Fld.keep F_q0_count f41 (ninS d_q0_q2 nin0))
  refine kGETF X37 (wd G 72 rfl) Via.refl f43 d10_35 (fun T44 X45 => ?_)
  refine kILn X45 d10_38 rfl ?_
  refine kIADD X45 1 d10_39 (by decide) ?_
  have f46 := (Exa.keep E_q0 f41)
  refine kPUTF X45 (wd G 72 rfl) Via.refl f43 f46 (Or.inl (wd G 73 rfl)) (wd G 35 rfl) (ty := .int) (by decide) rfl rfl g_q0 (Safe.exa X45.hZ.alike f46 (by decide) (by decide)) d10_40 (fun T47 h48 L51 W50 X49 => ?_)
  have f52 := Fld.same W50 f43
  refine kALn X49 d10_43 rfl rfl ?_
  have K53 : Keep h0 h48 [q2, q0] := (Keep.wr (Keep.trans (Keep.refl h0 [q2, q0]) f41 (allS (Or.inl (List.mem_of_getElem? (i := 0) rfl)) all0)) W50 (Or.inl (List.mem_of_getElem? (i := 1) rfl)))
  have f54 := (Arv.other f42 W50 (Ne.symm d_q0_q2))
  have f55 := (Fld.other W50 (Fld.keep F_q0_coder f41 (ninS d_q0_q2 nin0)) (Or.inr (slot_ne (Or.inl (wd G 51 rfl)) (Or.inl (wd G 73 rfl)) (by decide) (by decide : parseFieldDescriptor "B" = some .byte) (by decide : parseFieldDescriptor "I" = some .int))))
  have f56 := (Fld.other W50 (Fld.keep F_q0_value f41 (ninS d_q0_q2 nin0)) (Or.inr (slot_ne (Or.inl (wd G 49 rfl)) (Or.inl (wd G 73 rfl)) (by decide) (by decide : parseFieldDescriptor "[B" = some (.array (.byte))) (by decide : parseFieldDescriptor "I" = some .int))))
  exact kRETA X49 (gEL G) hret rfl rfl d10_44 (fun ve hve => ⟨rfl, K53, f54, f55, f52, f56⟩) (by decide)
def R_rm61 : Room := { frames := 4, cells := 0, slots := 0, locals := 61 }
theorem rm61 (G : Glob Z a0 iCS vSI) (i0 : Int32) (q0 q1 q2 q3 : Addr) (kp0 kp1 : ClassId) (h0 : Heap) (Z0 : n0 ≤ h0.size) (O0 : Old Z n0 h0) (F_q1_value : Fld Z h0 q1 "java/lang/String" "value" "[B" (.ref q3)) (A_q3 : Arv Z h0 q3 kp1 .byte 1 [.int i0] (.int 0)) (F_q1_coder : Fld Z h0 q1 "java/lang/String" "coder" "B" (.int 0)) (E_q1 : Exa Z h0 q1 "java/lang/String") (F_q0_count : Fld Z h0 q0 "java/lang/AbstractStringBuilder" "count" "I" (.int 0)) (F_q0_value : Fld Z h0 q0 "java/lang/AbstractStringBuilder" "value" "[B" (.ref q2)) (A_q2 : Arv Z h0 q2 kp0 .byte 16 [.int 0, .int 0, .int 0, .int 0, .int 0, .int 0, .int 0, .int 0, .int 0, .int 0, .int 0, .int 0, .int 0, .int 0, .int 0, .int 0] (.int 0)) (F_q0_coder : Fld Z h0 q0 "java/lang/AbstractStringBuilder" "coder" "B" (.int 0)) (E_q0 : Exa Z h0 q0 "java/lang/StringBuilder") (d_q0_q2 : q0 ≠ q2) (g_q0 : n0 ≤ q0) (g_q2 : n0 ≤ q2) : MetH l Z EL0 n0 N_jdk_67_m_7 jdk_67_method_7_code 2 (some (.object "java/lang/StringBuilder")) [] R_rm61 #[.ref q0, .ref q1] h0 [q2] (fun vs v h ve => (v = some (.ref q0) ∧ (Keep h0 h [q2, q0]) ∧ (Arv Z h q2 kp0 .byte 16 [.int i0, .int 0, .int 0, .int 0, .int 0, .int 0, .int 0, .int 0, .int 0, .int 0, .int 0, .int 0, .int 0, .int 0, .int 0, .int 0] (.int 0)) ∧ (Fld Z h q0 "java/lang/AbstractStringBuilder" "coder" "B" (.int 0)) ∧ (Fld Z h q0 "java/lang/AbstractStringBuilder" "count" "I" (.int 1)) ∧ (Fld Z h q0 "java/lang/AbstractStringBuilder" "value" "[B" (.ref q2)))) := by
  refine MetH.of #[.val (.ref q0), .val (.ref q1)] (plainFor_of_name pn_java_lang_StringBuilder) rfl Z0 (fun p e s m below meth c T0 hret hml hnm hSL hs0 X0 => ?_)
  have S_q2 := hSL q2 (List.mem_of_getElem? (i := 0) rfl)
  refine kALn X0 d9_0 rfl rfl ?_
  refine kALn X0 d9_1 rfl rfl ?_
  refine kSUP X0 (gEL G) (argsL := [.ref q1]) (rest := []) (wd G 57 rfl) (own_same (wd G 58 rfl) (own_noface (wd G 77 rfl) rfl) (by decide)) (wd G 58 rfl) (wd G 59 rfl) (by decide) (wd G 44 rfl) (wd G 61 rfl) (Ins.of_exa E_q0 (wd G 43 rfl)) (rm62 G i0 q0 q1 q2 q3 kp0 kp1 h0 X0.n O0 F_q1_value A_q3 F_q1_coder E_q1 F_q0_count F_q0_value A_q2 F_q0_coder E_q0 d_q0_q2 g_q0 g_q2) (allS ⟨(A_q2.lt), S_q2⟩ all0) (lenOf pd__Ljava_lang_String__Ljava_lang_AbstractStringBuilder_ rfl) rfl 0 rfl (by decide) hml.symm d9_2 (fun v1 T2 h3 vm4 _ w5 q6 C7 C8 X9 => ?_)
  obtain ⟨e11, f12, f13, f14, f15, f16⟩ := q6
  subst e11
  show Go _ _ _ _ _ (mkF _ _ _ [.ref q0])
  refine kPOP X9 d9_5 rfl ?_
  refine kALn X9 d9_6 rfl rfl ?_
  have K17 : Keep h0 h3 [q2, q0] := (Keep.trans (Keep.refl h0 [q2, q0]) f12 (allS (Or.inl (List.mem_of_getElem? (i := 0) rfl)) (allS (Or.inl (List.mem_of_getElem? (i := 1) rfl)) all0)))
  exact kRETA X9 (gEL G) hret rfl rfl d9_7 (fun ve hve => ⟨rfl, K17, f13, f14, f15, f16⟩) (by decide)
def R_rm71 : Room := { frames := 0, cells := 0, slots := 0, locals := 0 }
theorem rm71 (G : Glob Z a0 iCS vSI) (i0 : Int32) (q0 q1 : Addr) (kp0 : ClassId) (h0 : Heap) (Z0 : n0 ≤ h0.size) (O0 : Old Z n0 h0) (F_q0_value : Fld Z h0 q0 "java/lang/AbstractStringBuilder" "value" "[B" (.ref q1)) (A_q1 : Arv Z h0 q1 kp0 .byte 16 [.int i0, .int 0, .int 0, .int 0, .int 0, .int 0, .int 0, .int 0, .int 0, .int 0, .int 0, .int 0, .int 0, .int 0, .int 0, .int 0] (.int 0)) (F_q0_coder : Fld Z h0 q0 "java/lang/AbstractStringBuilder" "coder" "B" (.int 0)) : MetH l Z EL0 n0 N_jdk_68_m_9 jdk_68_method_9_code 3 none [] R_rm71 #[.ref q0, .int 7] h0 [] (fun vs v h ve => (v = none ∧ (h0 = h))) := by
  refine MetH.of #[.val (.ref q0), .val (.int 7), .unset] (plainFor_of_name pn_java_lang_AbstractStringBuilder) rfl Z0 (fun p e s m below meth c T0 hret hml hnm hSL hs0 X0 => ?_)
  refine kALn X0 d13_0 rfl rfl ?_
  refine kGETF X0 (wd G 48 rfl) Via.refl F_q0_value d13_1 (fun T1 X2 => ?_)
  refine kLEN X2 A_q1 d13_4 ?_
  refine kALn X2 d13_5 rfl rfl ?_
  refine kGETF X2 (wd G 50 rfl) Via.refl F_q0_coder d13_6 (fun T3 X4 => ?_)
  refine kISHR X4 16 d13_9 (by decide) ?_
  refine kISn X4 #[.val (.ref q0), .val (.int 7), .val (.int 16)] d13_10 rfl ?_
  refine kILn X4 d13_11 rfl ?_
  refine kILn X4 d13_12 rfl ?_
  refine kISUB X4 (-9) d13_13 (by decide) ?_
  refine kIFt X4 38 d13_14 (XT.i0_le_t (by decide)) (by decide) ?_
  exact kRETV X4 (gEL G) hret d13_38 (fun ve hve => ⟨rfl, rfl⟩) (by decide)
def R_rm73 : Room := { frames := 1, cells := 0, slots := 0, locals := 13 }
theorem rm73 (G : Glob Z a0 iCS vSI) (i0 : Int32) (q0 q1 q2 q3 : Addr) (kp0 kp1 : ClassId) (h0 : Heap) (Z0 : n0 ≤ h0.size) (O0 : Old Z n0 h0) (F_q0_coder : Fld Z h0 q0 "java/lang/AbstractStringBuilder" "coder" "B" (.int 0)) (F_q1_coder : Fld Z h0 q1 "java/lang/String" "coder" "B" (.int 0)) (E_q1 : Exa Z h0 q1 "java/lang/String") : MetH l Z EL0 n0 N_jdk_68_m_71 jdk_68_method_71_code 2 none [] R_rm73 #[.ref q0, .ref q1] h0 [] (fun vs v h ve => (v = none ∧ (h0 = h))) := by
  refine MetH.of #[.val (.ref q0), .val (.ref q1)] (plainFor_of_name pn_java_lang_AbstractStringBuilder) rfl Z0 (fun p e s m below meth c T0 hret hml hnm hSL hs0 X0 => ?_)
  refine kGETS X0 (wd G 47 rfl) Via.refl (Sta.ext O0.2 (S_CS G)) d15_0 (fun T1 X2 => ?_)
  refine kIFf X2 d15_3 (XT.i0_eq_f (n_CS G)) ?_
  refine kALn X2 d15_6 rfl rfl ?_
  refine kGETF X2 (wd G 50 rfl) Via.refl F_q0_coder d15_7 (fun T3 X4 => ?_)
  refine kALn X4 d15_10 rfl rfl ?_
  refine kVIRT X4 (gEL G) (argsL := []) (rest := [.int 0]) (wd G 89 rfl) (wd G 68 rfl) (own_nf X4.hZ (own_noinst (wd G 2 rfl))) (wd G 70 rfl) (wd G 69 rfl) (wd G 3 rfl) (wd G 71 rfl) (by decide) E_q1 (rm17 G q1 q3 kp1 h0 X4.n O0 F_q1_coder) all0 (lenOf pd___B rfl) rfl 1 rfl (by decide) hml.symm d15_11 (fun v5 T6 h7 vm8 _ w9 q10 C11 C12 X13 => ?_)
  obtain ⟨e15, f16⟩ := q10
  subst e15
  subst f16
  show Go _ _ _ _ _ (mkF _ _ _ [.int 0, .int 0])
  refine kICt X13 21 d15_14 (XT.ii_eq_t (by decide)) (by decide) ?_
  exact kRETV X13 (gEL G) hret d15_21 (fun ve hve => ⟨rfl, rfl⟩) (by decide)
def R_rm74 : Room := { frames := 1, cells := 0, slots := 0, locals := 18 }
theorem rm74 (G : Glob Z a0 iCS vSI) (i0 : Int32) (q0 q1 q2 : Addr) (kp0 kp1 : ClassId) (h0 : Heap) (Z0 : n0 ≤ h0.size) (O0 : Old Z n0 h0) (F_q0_coder : Fld Z h0 q0 "java/lang/String" "coder" "B" (.int 0)) (E_q0 : Exa Z h0 q0 "java/lang/String") (F_q0_value : Fld Z h0 q0 "java/lang/String" "value" "[B" (.ref q2)) (A_q2 : Arv Z h0 q2 kp1 .byte 6 [.int 46, .int 108, .int 111, .int 119, .int 101, .int 114] (.int 0)) (A_q1 : Arv Z h0 q1 kp0 .byte 16 [.int i0, .int 0, .int 0, .int 0, .int 0, .int 0, .int 0, .int 0, .int 0, .int 0, .int 0, .int 0, .int 0, .int 0, .int 0, .int 0] (.int 0)) (g_q1 : n0 ≤ q1) : MetH l Z EL0 n0 N_jdk_42_m_147 jdk_42_method_147_code 4 none [] R_rm74 #[.ref q0, .ref q1, .int 1, .int 0] h0 [q1] (fun vs v h ve => (v = none ∧ (Keep h0 h [q1]) ∧ (Arv Z h q1 kp0 .byte 16 [.int i0, .int 46, .int 108, .int 111, .int 119, .int 101, .int 114, .int 0, .int 0, .int 0, .int 0, .int 0, .int 0, .int 0, .int 0, .int 0] (.int 0)))) := by
  refine MetH.of #[.val (.ref q0), .val (.ref q1), .val (.int 1), .val (.int 0)] (plainFor_of_name pn_java_lang_String) rfl Z0 (fun p e s m below meth c T0 hret hml hnm hSL hs0 X0 => ?_)
  have S_q1 := hSL q1 (List.mem_of_getElem? (i := 0) rfl)
  refine kALn X0 d16_0 rfl rfl ?_
  refine kVIRT X0 (gEL G) (argsL := []) (rest := []) (wd G 67 rfl) (wd G 68 rfl) (own_nf X0.hZ (own_noinst (wd G 2 rfl))) (wd G 70 rfl) (wd G 69 rfl) (wd G 3 rfl) (wd G 71 rfl) (by decide) E_q0 (rm17 G q0 q2 kp1 h0 X0.n O0 F_q0_coder) all0 (lenOf pd___B rfl) rfl 0 rfl (by decide) hml.symm d16_1 (fun v1 T2 h3 vm4 _ w5 q6 C7 C8 X9 => ?_)
  obtain ⟨e11, f12⟩ := q6
  subst e11
  subst f12
  show Go _ _ _ _ _ (mkF _ _ _ [.int 0])
  refine kILn X9 d16_4 rfl ?_
  refine kICf X9 d16_5 (XT.ii_ne_f (by decide)) ?_
  refine kALn X9 d16_8 rfl rfl ?_
  refine kGETF X9 (wd G 28 rfl) Via.refl F_q0_value d16_9 (fun T13 X14 => ?_)
  refine kIC X14 0 d16_12 (by decide) ?_
  refine kALn X14 d16_13 rfl rfl ?_
  refine kILn X14 d16_14 rfl ?_
  refine kILn X14 d16_15 rfl ?_
  refine kISHL X14 1 d16_16 (by decide) ?_
  refine kALn X14 d16_17 rfl rfl ?_
  refine kGETF X14 (wd G 28 rfl) Via.refl F_q0_value d16_18 (fun T15 X16 => ?_)
  refine kLEN X16 A_q2 d16_21 ?_
  have f17 := (CHr.safe C8 (A_q1.lt) S_q1)
  refine kCPA X16 (wd G 95 rfl) (wd G 98 rfl) (wd G 96 rfl) (wd G 97 rfl) A_q2 A_q1 (Or.inl ⟨rfl, rfl⟩) (us := [.int 46, .int 108, .int 111, .int 119, .int 101, .int 114]) (by decide) rfl (by show 7 ≤ 16; decide) g_q1 f17 hml.symm d16_22 (by decide) 0 (Nat.le_of_eq rfl) (by decide) (fun T18 h19 L21 K22 C23 f24 X20 => ?_)
  have f25 : Arv Z h19 q1 kp0 .byte 16 [.int i0, .int 46, .int 108, .int 111, .int 119, .int 101, .int 114, .int 0, .int 0, .int 0, .int 0, .int 0, .int 0, .int 0, .int 0, .int 0] (.int 0) := f24
  refine kGOTO X20 43 d16_25 (by decide) ?_
  have K26 : Keep h0 h19 [q1] := (Keep.trans (Keep.refl h0 [q1]) K22 (allS (Or.inl (List.mem_of_getElem? (i := 0) rfl)) all0))
  exact kRETV X20 (gEL G) hret d16_43 (fun ve hve => ⟨rfl, K26, f25⟩) (by decide)
def R_rm72 : Room := { frames := 2, cells := 0, slots := 0, locals := 33 }
theorem rm72 (G : Glob Z a0 iCS vSI) (i0 : Int32) (q0 q1 q2 q3 : Addr) (kp0 kp1 : ClassId) (h0 : Heap) (Z0 : n0 ≤ h0.size) (O0 : Old Z n0 h0) (F_q0_coder : Fld Z h0 q0 "java/lang/AbstractStringBuilder" "coder" "B" (.int 0)) (F_q1_coder : Fld Z h0 q1 "java/lang/String" "coder" "B" (.int 0)) (E_q1 : Exa Z h0 q1 "java/lang/String") (E_q0 : Exa Z h0 q0 "java/lang/StringBuilder") (F_q0_value : Fld Z h0 q0 "java/lang/AbstractStringBuilder" "value" "[B" (.ref q2)) (F_q1_value : Fld Z h0 q1 "java/lang/String" "value" "[B" (.ref q3)) (A_q3 : Arv Z h0 q3 kp1 .byte 6 [.int 46, .int 108, .int 111, .int 119, .int 101, .int 114] (.int 0)) (A_q2 : Arv Z h0 q2 kp0 .byte 16 [.int i0, .int 0, .int 0, .int 0, .int 0, .int 0, .int 0, .int 0, .int 0, .int 0, .int 0, .int 0, .int 0, .int 0, .int 0, .int 0] (.int 0)) (g_q2 : n0 ≤ q2) : MetH l Z EL0 n0 N_jdk_68_m_73 jdk_68_method_73_code 3 none [] R_rm72 #[.ref q0, .int 1, .ref q1] h0 [q2] (fun vs v h ve => (v = none ∧ (Keep h0 h [q2]) ∧ (Arv Z h q2 kp0 .byte 16 [.int i0, .int 46, .int 108, .int 111, .int 119, .int 101, .int 114, .int 0, .int 0, .int 0, .int 0, .int 0, .int 0, .int 0, .int 0, .int 0] (.int 0)))) := by
  refine MetH.of #[.val (.ref q0), .val (.int 1), .val (.ref q1)] (plainFor_of_name pn_java_lang_AbstractStringBuilder) rfl Z0 (fun p e s m below meth c T0 hret hml hnm hSL hs0 X0 => ?_)
  have S_q2 := hSL q2 (List.mem_of_getElem? (i := 0) rfl)
  refine kALn X0 d14_0 rfl rfl ?_
  refine kALn X0 d14_1 rfl rfl ?_
  refine kVIRT X0 (gEL G) (argsL := [.ref q1]) (rest := []) (wd G 84 rfl) (own_decl (wd G 85 rfl) (wd G 88 rfl)) (own_nf X0.hZ (own_noface (wd G 77 rfl) rfl)) (wd G 87 rfl) (wd G 85 rfl) (wd G 44 rfl) (wd G 88 rfl) (by decide) E_q0 (rm73 G i0 q0 q1 q2 q3 kp0 kp1 h0 X0.n O0 F_q0_coder F_q1_coder E_q1) all0 (lenOf pd__Ljava_lang_String__V rfl) rfl 0 rfl (by decide) hml.symm d14_2 (fun v1 T2 h3 vm4 _ w5 q6 C7 C8 X9 => ?_)
  obtain ⟨e11, f12⟩ := q6
  subst e11
  subst f12
  show Go _ _ _ _ _ (mkF _ _ _ [])
  refine kALn X9 d14_5 rfl rfl ?_
  refine kALn X9 d14_6 rfl rfl ?_
  refine kGETF X9 (wd G 48 rfl) Via.refl F_q0_value d14_7 (fun T13 X14 => ?_)
  refine kILn X14 d14_10 rfl ?_
  refine kALn X14 d14_11 rfl rfl ?_
  refine kGETF X14 (wd G 50 rfl) Via.refl F_q0_coder d14_12 (fun T15 X16 => ?_)
  have f26 := (CHr.safe C8 (A_q2.lt) S_q2)
  refine kVIRT X16 (gEL G) (argsL := [.ref q2, .int 1, .int 0]) (rest := []) (wd G 90 rfl) (wd G 91 rfl) (own_nf X16.hZ (own_noinst (wd G 2 rfl))) (wd G 93 rfl) (wd G 92 rfl) (wd G 3 rfl) (wd G 94 rfl) (by decide) E_q1 (rm74 G i0 q1 q2 q3 kp0 kp1 h0 X16.n O0 F_q1_coder E_q1 F_q1_value A_q3 A_q2 g_q2) (allS ⟨(A_q2.lt), f26⟩ all0) (lenOf pd___BIB_V rfl) rfl 0 rfl (by decide) hml.symm d14_15 (fun v17 T18 h19 vm20 _ w21 q22 C23 C24 X25 => ?_)
  obtain ⟨e28, f29, f30⟩ := q22
  subst e28
  show Go _ _ _ _ _ (mkF _ _ _ [])
  have K31 : Keep h0 h19 [q2] := (Keep.trans (Keep.refl h0 [q2]) f29 (allS (Or.inl (List.mem_of_getElem? (i := 0) rfl)) all0))
  exact kRETV X25 (gEL G) hret d14_18 (fun ve hve => ⟨rfl, K31, f30⟩) (by decide)
def R_rm70 : Room := { frames := 3, cells := 0, slots := 0, locals := 47 }
theorem rm70 (G : Glob Z a0 iCS vSI) (i0 : Int32) (q0 q1 q2 q3 : Addr) (kp0 kp1 : ClassId) (h0 : Heap) (Z0 : n0 ≤ h0.size) (O0 : Old Z n0 h0) (F_q1_value : Fld Z h0 q1 "java/lang/String" "value" "[B" (.ref q3)) (A_q3 : Arv Z h0 q3 kp1 .byte 6 [.int 46, .int 108, .int 111, .int 119, .int 101, .int 114] (.int 0)) (F_q1_coder : Fld Z h0 q1 "java/lang/String" "coder" "B" (.int 0)) (E_q1 : Exa Z h0 q1 "java/lang/String") (F_q0_count : Fld Z h0 q0 "java/lang/AbstractStringBuilder" "count" "I" (.int 1)) (F_q0_value : Fld Z h0 q0 "java/lang/AbstractStringBuilder" "value" "[B" (.ref q2)) (A_q2 : Arv Z h0 q2 kp0 .byte 16 [.int i0, .int 0, .int 0, .int 0, .int 0, .int 0, .int 0, .int 0, .int 0, .int 0, .int 0, .int 0, .int 0, .int 0, .int 0, .int 0] (.int 0)) (F_q0_coder : Fld Z h0 q0 "java/lang/AbstractStringBuilder" "coder" "B" (.int 0)) (E_q0 : Exa Z h0 q0 "java/lang/StringBuilder") (d_q0_q2 : q0 ≠ q2) (g_q0 : n0 ≤ q0) (g_q2 : n0 ≤ q2) : MetH l Z EL0 n0 N_jdk_68_m_22 jdk_68_method_22_code 3 (some (.object "java/lang/AbstractStringBuilder")) [] R_rm70 #[.ref q0, .ref q1] h0 [q2] (fun vs v h ve => (v = some (.ref q0) ∧ (Keep h0 h [q2, q0]) ∧ (Arv Z h q2 kp0 .byte 16 [.int i0, .int 46, .int 108, .int 111, .int 119, .int 101, .int 114, .int 0, .int 0, .int 0, .int 0, .int 0, .int 0, .int 0, .int 0, .int 0] (.int 0)) ∧ (Fld Z h q0 "java/lang/AbstractStringBuilder" "coder" "B" (.int 0)) ∧ (Fld Z h q0 "java/lang/AbstractStringBuilder" "count" "I" (.int 7)) ∧ (Fld Z h q0 "java/lang/AbstractStringBuilder" "value" "[B" (.ref q2)))) := by
  refine MetH.of #[.val (.ref q0), .val (.ref q1), .unset] (plainFor_of_name pn_java_lang_AbstractStringBuilder) rfl Z0 (fun p e s m below meth c T0 hret hml hnm hSL hs0 X0 => ?_)
  have S_q2 := hSL q2 (List.mem_of_getElem? (i := 0) rfl)
  refine kALn X0 d10_0 rfl rfl ?_
  refine kNNt X0 9 d10_1 (by decide) ?_
  refine kALn X0 d10_9 rfl rfl ?_
  refine kVIRT X0 (gEL G) (argsL := []) (rest := []) (wd G 62 rfl) (wd G 63 rfl) (own_nf X0.hZ (own_noinst (wd G 2 rfl))) (wd G 65 rfl) (wd G 64 rfl) (wd G 3 rfl) (wd G 66 rfl) (by decide) E_q1 (rm16 G q1 q3 kp1 h0 X0.n O0 F_q1_value A_q3 F_q1_coder E_q1) all0 (lenOf pd___I rfl) rfl 0 rfl (by decide) hml.symm d10_10 (fun v1 T2 h3 vm4 _ w5 q6 C7 C8 X9 => ?_)
  obtain ⟨e11, f12⟩ := q6
  subst e11
  subst f12
  show Go _ _ _ _ _ (mkF _ _ _ [.int 6])
  refine kISn X9 #[.val (.ref q0), .val (.ref q1), .val (.int 6)] d10_13 rfl ?_
  refine kALn X9 d10_14 rfl rfl ?_
  refine kALn X9 d10_15 rfl rfl ?_
  refine kGETF X9 (wd G 72 rfl) Via.refl F_q0_count d10_16 (fun T13 X14 => ?_)
  refine kILn X14 d10_19 rfl ?_
  refine kIADD X14 7 d10_20 (by decide) ?_
  refine kVIRT X14 (gEL G) (argsL := [.int 7]) (rest := []) (wd G 74 rfl) (own_decl (wd G 75 rfl) (wd G 78 rfl)) (own_nf X14.hZ (own_noface (wd G 77 rfl) rfl)) (wd G 77 rfl) (wd G 75 rfl) (wd G 44 rfl) (wd G 78 rfl) (by decide) E_q0 (rm71 G i0 q0 q2 kp0 h0 X14.n O0 F_q0_value A_q2 F_q0_coder) all0 (lenOf pd__I_V rfl) rfl 0 rfl (by decide) hml.symm d10_21 (fun v15 T16 h17 vm18 _ w19 q20 C21 C22 X23 => ?_)
  obtain ⟨e25, f26⟩ := q20
  subst e25
  subst f26
  show Go _ _ _ _ _ (mkF _ _ _ [])
  refine kALn X23 d10_24 rfl rfl ?_
  refine kALn X23 d10_25 rfl rfl ?_
  refine kGETF X23 (wd G 72 rfl) Via.refl F_q0_count d10_26 (fun T27 X28 => ?_)
  refine kALn X28 d10_29 rfl rfl ?_
  have f38 := (CHr.safe C22 (A_q2.lt) (CHr.safe C8 (A_q2.lt) S_q2))
  refine kVIRT X28 (gEL G) (argsL := [.int 1, .ref q1]) (rest := []) (wd G 79 rfl) (own_decl (wd G 80 rfl) (wd G 83 rfl)) (own_nf X28.hZ (own_noface (wd G 77 rfl) rfl)) (wd G 82 rfl) (wd G 80 rfl) (wd G 44 rfl) (wd G 83 rfl) (by decide) E_q0 (rm72 G i0 q0 q1 q2 q3 kp0 kp1 h0 X28.n O0 F_q0_coder F_q1_coder E_q1 E_q0 F_q0_value F_q1_value A_q3 A_q2 g_q2) (allS ⟨(A_q2.lt), f38⟩ all0) (lenOf pd__ILjava_lang_String__V rfl) rfl 0 rfl (by decide) hml.symm d10_30 (fun v29 T30 h31 vm32 _ w33 q34 C35 C36 X37 => ?_)
  obtain ⟨e40, f41, f42⟩ := q34
  subst e40
  show Go _ _ _ _ _ (mkF _ _ _ [])
  refine kALn X37 d10_33 rfl rfl ?_
  refine kDUP X37 d10_34 rfl ?_
  have f43 := (Fld.keep F_q0_count f41 (ninS d_q0_q2 nin0))
  refine kGETF X37 (wd G 72 rfl) Via.refl f43 d10_35 (fun T44 X45 => ?_)
  refine kILn X45 d10_38 rfl ?_
  refine kIADD X45 7 d10_39 (by decide) ?_
  have f46 := (Exa.keep E_q0 f41)
  refine kPUTF X45 (wd G 72 rfl) Via.refl f43 f46 (Or.inl (wd G 73 rfl)) (wd G 35 rfl) (ty := .int) (by decide) rfl rfl g_q0 (Safe.exa X45.hZ.alike f46 (by decide) (by decide)) d10_40 (fun T47 h48 L51 W50 X49 => ?_)
  have f52 := Fld.same W50 f43
  refine kALn X49 d10_43 rfl rfl ?_
  have K53 : Keep h0 h48 [q2, q0] := (Keep.wr (Keep.trans (Keep.refl h0 [q2, q0]) f41 (allS (Or.inl (List.mem_of_getElem? (i := 0) rfl)) all0)) W50 (Or.inl (List.mem_of_getElem? (i := 1) rfl)))
  have f54 := (Arv.other f42 W50 (Ne.symm d_q0_q2))
  have f55 := (Fld.other W50 (Fld.keep F_q0_coder f41 (ninS d_q0_q2 nin0)) (Or.inr (slot_ne (Or.inl (wd G 51 rfl)) (Or.inl (wd G 73 rfl)) (by decide) (by decide : parseFieldDescriptor "B" = some .byte) (by decide : parseFieldDescriptor "I" = some .int))))
  have f56 := (Fld.other W50 (Fld.keep F_q0_value f41 (ninS d_q0_q2 nin0)) (Or.inr (slot_ne (Or.inl (wd G 49 rfl)) (Or.inl (wd G 73 rfl)) (by decide) (by decide : parseFieldDescriptor "[B" = some (.array (.byte))) (by decide : parseFieldDescriptor "I" = some .int))))
  exact kRETA X49 (gEL G) hret rfl rfl d10_44 (fun ve hve => ⟨rfl, K53, f54, f55, f52, f56⟩) (by decide)
def R_rm69 : Room := { frames := 4, cells := 0, slots := 0, locals := 61 }
theorem rm69 (G : Glob Z a0 iCS vSI) (i0 : Int32) (q0 q1 q2 q3 : Addr) (kp0 kp1 : ClassId) (h0 : Heap) (Z0 : n0 ≤ h0.size) (O0 : Old Z n0 h0) (F_q1_value : Fld Z h0 q1 "java/lang/String" "value" "[B" (.ref q3)) (A_q3 : Arv Z h0 q3 kp1 .byte 6 [.int 46, .int 108, .int 111, .int 119, .int 101, .int 114] (.int 0)) (F_q1_coder : Fld Z h0 q1 "java/lang/String" "coder" "B" (.int 0)) (E_q1 : Exa Z h0 q1 "java/lang/String") (F_q0_count : Fld Z h0 q0 "java/lang/AbstractStringBuilder" "count" "I" (.int 1)) (F_q0_value : Fld Z h0 q0 "java/lang/AbstractStringBuilder" "value" "[B" (.ref q2)) (A_q2 : Arv Z h0 q2 kp0 .byte 16 [.int i0, .int 0, .int 0, .int 0, .int 0, .int 0, .int 0, .int 0, .int 0, .int 0, .int 0, .int 0, .int 0, .int 0, .int 0, .int 0] (.int 0)) (F_q0_coder : Fld Z h0 q0 "java/lang/AbstractStringBuilder" "coder" "B" (.int 0)) (E_q0 : Exa Z h0 q0 "java/lang/StringBuilder") (d_q0_q2 : q0 ≠ q2) (g_q0 : n0 ≤ q0) (g_q2 : n0 ≤ q2) : MetH l Z EL0 n0 N_jdk_67_m_7 jdk_67_method_7_code 2 (some (.object "java/lang/StringBuilder")) [] R_rm69 #[.ref q0, .ref q1] h0 [q2] (fun vs v h ve => (v = some (.ref q0) ∧ (Keep h0 h [q2, q0]) ∧ (Arv Z h q2 kp0 .byte 16 [.int i0, .int 46, .int 108, .int 111, .int 119, .int 101, .int 114, .int 0, .int 0, .int 0, .int 0, .int 0, .int 0, .int 0, .int 0, .int 0] (.int 0)) ∧ (Fld Z h q0 "java/lang/AbstractStringBuilder" "coder" "B" (.int 0)) ∧ (Fld Z h q0 "java/lang/AbstractStringBuilder" "count" "I" (.int 7)) ∧ (Fld Z h q0 "java/lang/AbstractStringBuilder" "value" "[B" (.ref q2)))) := by
  refine MetH.of #[.val (.ref q0), .val (.ref q1)] (plainFor_of_name pn_java_lang_StringBuilder) rfl Z0 (fun p e s m below meth c T0 hret hml hnm hSL hs0 X0 => ?_)
  have S_q2 := hSL q2 (List.mem_of_getElem? (i := 0) rfl)
  refine kALn X0 d9_0 rfl rfl ?_
  refine kALn X0 d9_1 rfl rfl ?_
  refine kSUP X0 (gEL G) (argsL := [.ref q1]) (rest := []) (wd G 57 rfl) (own_same (wd G 58 rfl) (own_noface (wd G 77 rfl) rfl) (by decide)) (wd G 58 rfl) (wd G 59 rfl) (by decide) (wd G 44 rfl) (wd G 61 rfl) (Ins.of_exa E_q0 (wd G 43 rfl)) (rm70 G i0 q0 q1 q2 q3 kp0 kp1 h0 X0.n O0 F_q1_value A_q3 F_q1_coder E_q1 F_q0_count F_q0_value A_q2 F_q0_coder E_q0 d_q0_q2 g_q0 g_q2) (allS ⟨(A_q2.lt), S_q2⟩ all0) (lenOf pd__Ljava_lang_String__Ljava_lang_AbstractStringBuilder_ rfl) rfl 0 rfl (by decide) hml.symm d9_2 (fun v1 T2 h3 vm4 _ w5 q6 C7 C8 X9 => ?_)
  obtain ⟨e11, f12, f13, f14, f15, f16⟩ := q6
  subst e11
  show Go _ _ _ _ _ (mkF _ _ _ [.ref q0])
  refine kPOP X9 d9_5 rfl ?_
  refine kALn X9 d9_6 rfl rfl ?_
  have K17 : Keep h0 h3 [q2, q0] := (Keep.trans (Keep.refl h0 [q2, q0]) f12 (allS (Or.inl (List.mem_of_getElem? (i := 0) rfl)) (allS (Or.inl (List.mem_of_getElem? (i := 1) rfl)) all0)))
  exact kRETA X9 (gEL G) hret rfl rfl d9_7 (fun ve hve => ⟨rfl, K17, f13, f14, f15, f16⟩) (by decide)
def R_rm78 : Room := { frames := 0, cells := 0, slots := 0, locals := 0 }
theorem rm78 (G : Glob Z a0 iCS vSI) (i0 : Int32) (q0 q1 : Addr) (kp0 : ClassId) (h0 : Heap) (Z0 : n0 ≤ h0.size) (O0 : Old Z n0 h0) (F_q0_value : Fld Z h0 q0 "java/lang/AbstractStringBuilder" "value" "[B" (.ref q1)) : MetH l Z EL0 n0 N_jdk_68_m_64 jdk_68_method_64_code 1 (some (.array (.byte))) [] R_rm78 #[.ref q0] h0 [] (fun vs v h ve => (v = some (.ref q1) ∧ (h0 = h))) := by
  refine MetH.of #[.val (.ref q0)] (plainFor_of_name pn_java_lang_AbstractStringBuilder) rfl Z0 (fun p e s m below meth c T0 hret hml hnm hSL hs0 X0 => ?_)
  refine kALn X0 d20_0 rfl rfl ?_
  refine kGETF X0 (wd G 48 rfl) Via.refl F_q0_value d20_1 (fun T1 X2 => ?_)
  exact kRETA X2 (gEL G) hret rfl rfl d20_4 (fun ve hve => ⟨rfl, rfl⟩) (by decide)
def R_rm80 : Room := { frames := 0, cells := 0, slots := 0, locals := 0 }
theorem rm80 (G : Glob Z a0 iCS vSI) (i0 : Int32) (q0 q1 : Addr) (kp0 : ClassId) (h0 : Heap) (Z0 : n0 ≤ h0.size) (O0 : Old Z n0 h0) (F_q0_count : Fld Z h0 q0 "java/lang/AbstractStringBuilder" "count" "I" (.int 7)) : MetH l Z EL0 n0 N_jdk_68_m_6 jdk_68_method_6_code 1 (some .int) [] R_rm80 #[.ref q0] h0 [] (fun vs v h ve => (v = some (.int 7) ∧ (h0 = h))) := by
  refine MetH.of #[.val (.ref q0)] (plainFor_of_name pn_java_lang_AbstractStringBuilder) rfl Z0 (fun p e s m below meth c T0 hret hml hnm hSL hs0 X0 => ?_)
  refine kALn X0 d22_0 rfl rfl ?_
  refine kGETF X0 (wd G 72 rfl) Via.refl F_q0_count d22_1 (fun T1 X2 => ?_)
  exact kRETI X2 (gEL G) hret d22_4 (fun ve hve => ⟨rfl, rfl⟩) (by decide)
def R_rm79 : Room := { frames := 1, cells := 0, slots := 0, locals := 12 }
theorem rm79 (G : Glob Z a0 iCS vSI) (i0 : Int32) (q0 q1 : Addr) (kp0 : ClassId) (h0 : Heap) (Z0 : n0 ≤ h0.size) (O0 : Old Z n0 h0) (F_q0_count : Fld Z h0 q0 "java/lang/AbstractStringBuilder" "count" "I" (.int 7)) (E_q0 : Exa Z h0 q0 "java/lang/StringBuilder") : MetH l Z EL0 n0 N_jdk_67_m_93 jdk_67_method_93_code 1 (some .int) [] R_rm79 #[.ref q0] h0 [] (fun vs v h ve => (v = some (.int 7) ∧ (h0 = h))) := by
  refine MetH.of #[.val (.ref q0)] (plainFor_of_name pn_java_lang_StringBuilder) rfl Z0 (fun p e s m below meth c T0 hret hml hnm hSL hs0 X0 => ?_)
  refine kALn X0 d21_0 rfl rfl ?_
  refine kSUP X0 (gEL G) (argsL := []) (rest := []) (wd G 125 rfl) (own_same (wd G 121 rfl) (own_noface (wd G 77 rfl) rfl) (by decide)) (wd G 121 rfl) (wd G 59 rfl) (by decide) (wd G 44 rfl) (wd G 126 rfl) (Ins.of_exa E_q0 (wd G 43 rfl)) (rm80 G i0 q0 q1 kp0 h0 X0.n O0 F_q0_count) all0 (lenOf pd___I rfl) rfl 0 rfl (by decide) hml.symm d21_1 (fun v1 T2 h3 vm4 _ w5 q6 C7 C8 X9 => ?_)
  obtain ⟨e11, f12⟩ := q6
  subst e11
  subst f12
  show Go _ _ _ _ _ (mkF _ _ _ [.int 7])
  exact kRETI X9 (gEL G) hret d21_4 (fun ve hve => ⟨rfl, rfl⟩) (by decide)
def R_rm81 : Room := { frames := 0, cells := 0, slots := 0, locals := 0 }
theorem rm81 (G : Glob Z a0 iCS vSI) (i0 : Int32) (q0 q1 : Addr) (kp0 : ClassId) (h0 : Heap) (Z0 : n0 ≤ h0.size) (O0 : Old Z n0 h0) (F_q0_coder : Fld Z h0 q0 "java/lang/AbstractStringBuilder" "coder" "B" (.int 0)) : MetH l Z EL0 n0 N_jdk_68_m_68 jdk_68_method_68_code 1 (some .boolean) [] R_rm81 #[.ref q0] h0 [] (fun vs v h ve => (v = some (.int 1) ∧ (h0 = h))) := by
  refine MetH.of #[.val (.ref q0)] (plainFor_of_name pn_java_lang_AbstractStringBuilder) rfl Z0 (fun p e s m below meth c T0 hret hml hnm hSL hs0 X0 => ?_)
  refine kGETS X0 (wd G 47 rfl) Via.refl (Sta.ext O0.2 (S_CS G)) d23_0 (fun T1 X2 => ?_)
  refine kIFf X2 d23_3 (XT.i0_eq_f (n_CS G)) ?_
  refine kALn X2 d23_6 rfl rfl ?_
  refine kGETF X2 (wd G 50 rfl) Via.refl F_q0_coder d23_7 (fun T3 X4 => ?_)
  refine kIFf X4 d23_10 (XT.i0_ne_f (by decide)) ?_
  refine kIC X4 1 d23_13 (by decide) ?_
  refine kGOTO X4 18 d23_14 (by decide) ?_
  exact kRETZ X4 (gEL G) (t := .boolean) hret (by simp) d23_18 (fun ve hve => ⟨rfl, rfl⟩) (by decide)
def R_rm84 : Room := { frames := 0, cells := 0, slots := 0, locals := 0 }
theorem rm84 (G : Glob Z a0 iCS vSI)  (h0 : Heap) (Z0 : n0 ≤ h0.size) (O0 : Old Z n0 h0)  : MetH l Z EL0 n0 N_jdk_65_m_131 jdk_65_method_131_code 2 none [] R_rm84 #[.int 0, .int 7] h0 [] (fun vs v h ve => (v = none ∧ (h0 = h))) := by
  refine MetH.of #[.val (.int 0), .val (.int 7)] (plainFor_of_name pn_java_util_Arrays) rfl Z0 (fun p e s m below meth c T0 hret hml hnm hSL hs0 X0 => ?_)
  refine kILn X0 d26_0 rfl ?_
  refine kILn X0 d26_1 rfl ?_
  refine kICt X0 37 d26_2 (XT.ii_ge_t (by decide)) (by decide) ?_
  exact kRETV X0 (gEL G) hret d26_37 (fun ve hve => ⟨rfl, rfl⟩) (by decide)
def R_rm85 : Room := { frames := 0, cells := 0, slots := 0, locals := 0 }
theorem rm85 (G : Glob Z a0 iCS vSI)  (h0 : Heap) (Z0 : n0 ≤ h0.size) (O0 : Old Z n0 h0)  : MetH l Z EL0 n0 N_jdk_29_m_69 jdk_29_method_69_code 2 (some .int) [] R_rm85 #[.int 16, .int 7] h0 [] (fun vs v h ve => (v = some (.int 7) ∧ (h0 = h))) := by
  refine MetH.of #[.val (.int 16), .val (.int 7)] pf_java_lang_Math_min rfl Z0 (fun p e s m below meth c T0 hret hml hnm hSL hs0 X0 => ?_)
  refine kILn X0 d27_0 rfl ?_
  refine kILn X0 d27_1 rfl ?_
  refine kICt X0 9 d27_2 (XT.ii_gt_t (by decide)) (by decide) ?_
  refine kILn X0 d27_9 rfl ?_
  exact kRETI X0 (gEL G) hret d27_10 (fun ve hve => ⟨rfl, rfl⟩) (by decide)
def R_rm83 : Room := { frames := 1, cells := 1, slots := 7, locals := 18 }
theorem rm83 (G : Glob Z a0 iCS vSI) (i0 : Int32) (q0 : Addr) (kp0 : ClassId) (h0 : Heap) (Z0 : n0 ≤ h0.size) (O0 : Old Z n0 h0) (A_q0 : Arv Z h0 q0 kp0 .byte 16 [.int i0, .int 46, .int 108, .int 111, .int 119, .int 101, .int 114, .int 0, .int 0, .int 0, .int 0, .int 0, .int 0, .int 0, .int 0, .int 0] (.int 0)) : MetH l Z EL0 n0 N_jdk_65_m_133 jdk_65_method_133_code 5 (some (.array (.byte))) [] R_rm83 #[.ref q0, .int 0, .int 7] h0 [] (fun vs v h ve => (∃ (x0 : Addr), ∃ (z0 : ClassId), v = some (.ref x0) ∧ (Keep h0 h []) ∧ (h0.size ≤ x0) ∧ (Arv Z h x0 z0 .byte 7 [.int i0, .int 46, .int 108, .int 111, .int 119, .int 101, .int 114] (.int 0)) ∧ (Safe Z EL0 ve h x0))) := by
  refine MetH.of #[.val (.ref q0), .val (.int 0), .val (.int 7), .unset, .unset] (plainFor_of_name pn_java_util_Arrays) rfl Z0 (fun p e s m below meth c T0 hret hml hnm hSL hs0 X0 => ?_)
  refine kILn X0 d25_0 rfl ?_
  refine kILn X0 d25_1 rfl ?_
  refine kSTAT X0 (gEL G) (argsL := [.int 0, .int 7]) (rest := []) (wd G 139 rfl) (wd G 140 rfl) (wd G 134 rfl) (wd G 141 rfl) (by decide) (rm84 G  h0 X0.n O0 ) all0 (lenOf pd__II_V rfl) rfl 0 rfl (by decide) hml.symm d25_2 (fun v1 T2 h3 vm4 _ w5 q6 C7 C8 X9 => ?_)
  obtain ⟨e11, f12⟩ := q6
  subst e11
  subst f12
  show Go _ _ _ _ _ (mkF _ _ _ [])
  refine kILn X9 d25_5 rfl ?_
  refine kILn X9 d25_6 rfl ?_
  refine kISUB X9 7 d25_7 (by decide) ?_
  refine kISn X9 #[.val (.ref q0), .val (.int 0), .val (.int 7), .val (.int 7), .unset] d25_8 rfl ?_
  refine kILn X9 d25_9 rfl ?_
  refine kNEWP X9 (wd G 19 rfl) (cap := 7) d25_10 (by decide) (by decide) (by decide) (by decide) (by decide) (fun T13 h14 a16 k17 E18 q19 g20 A21 s22 X15 => ?_)
  have n23 : q0 ≠ a16 := Nat.ne_of_lt (Nat.lt_of_lt_of_le (A_q0.lt) (Nat.le_of_eq q19.symm))
  have g24 : h0.size ≤ a16 := q19 ▸ X9.g0
  have f25 : Arv Z h14 a16 k17 .byte 7 [.int 0, .int 0, .int 0, .int 0, .int 0, .int 0, .int 0] (.int 0) := A21.pad (pad_rep [] _ 7)
  refine kAS X15 #[.val (.ref q0), .val (.int 0), .val (.int 7), .val (.int 7), .val (.ref a16)] d25_12 rfl rfl ?_
  refine kALn X15 d25_14 rfl rfl ?_
  refine kILn X15 d25_15 rfl ?_
  refine kAL X15 d25_16 rfl rfl ?_
  refine kIC X15 0 d25_18 (by decide) ?_
  refine kALn X15 d25_19 rfl rfl ?_
  have f26 := (Arv.ext A_q0 E18)
  refine kLEN X15 f26 d25_20 ?_
  refine kILn X15 d25_21 rfl ?_
  refine kISUB X15 16 d25_22 (by decide) ?_
  refine kILn X15 d25_23 rfl ?_
  have f27 := (Old.ext O0 E18)
  refine kSTAT X15 (gEL G) (argsL := [.int 16, .int 7]) (rest := [.int 0, .ref a16, .int 0, .ref q0]) (wd G 142 rfl) (wd G 143 rfl) (wd G 144 rfl) (wd G 145 rfl) (by decide) (rm85 G  h14 X15.n f27 ) all0 (lenOf pd__II_I rfl) rfl 4 rfl (by decide) hml.symm d25_24 (fun v28 T29 h30 vm31 _ w32 q33 C34 C35 X36 => ?_)
  obtain ⟨e38, f39⟩ := q33
  subst e38
  subst f39
  show Go _ _ _ _ _ (mkF _ _ _ [.int 7, .int 0, .ref a16, .int 0, .ref q0])
  have f40 := (CHr.safe C35 (f25.lt) s22)
  refine kCPA X36 (wd G 146 rfl) (wd G 98 rfl) (wd G 96 rfl) (wd G 97 rfl) f26 f25 (Or.inl ⟨rfl, rfl⟩) (us := [.int i0, .int 46, .int 108, .int 111, .int 119, .int 101, .int 114]) (by decide) rfl (by show 7 ≤ 7; decide) g20 f40 hml.symm d25_27 (by decide) 0 (Nat.le_of_eq rfl) (by decide) (fun T41 h42 L44 K45 C46 f47 X43 => ?_)
  have f48 : Arv Z h42 a16 k17 .byte 7 [.int i0, .int 46, .int 108, .int 111, .int 119, .int 101, .int 114] (.int 0) := f47
  refine kAL X43 d25_30 rfl rfl ?_
  have K49 : Keep h0 h42 [] := (Keep.trans (Keep.ext (Keep.refl h0 []) E18) K45 (allS (Or.inr g24) all0))
  have f50 := (CHr.safe C46 (f25.lt) f40)
  exact kRETA X43 (gEL G) hret rfl rfl d25_32 (fun ve hve => ⟨a16, k17, rfl, K49, g24, f48, (CHr.safe hve (f48.lt) f50)⟩) (by decide)
def R_rm82 : Room := { frames := 2, cells := 1, slots := 7, locals := 34 }
theorem rm82 (G : Glob Z a0 iCS vSI) (i0 : Int32) (q0 : Addr) (kp0 : ClassId) (h0 : Heap) (Z0 : n0 ≤ h0.size) (O0 : Old Z n0 h0) (A_q0 : Arv Z h0 q0 kp0 .byte 16 [.int i0, .int 46, .int 108, .int 111, .int 119, .int 101, .int 114, .int 0, .int 0, .int 0, .int 0, .int 0, .int 0, .int 0, .int 0, .int 0] (.int 0)) : MetH l Z EL0 n0 N_jdk_65_m_132 jdk_65_method_132_code 3 (some (.array (.byte))) [] R_rm82 #[.ref q0, .int 0, .int 7] h0 [] (fun vs v h ve => (∃ (x0 : Addr), ∃ (z0 : ClassId), v = some (.ref x0) ∧ (Keep h0 h []) ∧ (h0.size ≤ x0) ∧ (Arv Z h x0 z0 .byte 7 [.int i0, .int 46, .int 108, .int 111, .int 119, .int 101, .int 114] (.int 0)) ∧ (Safe Z EL0 ve h x0))) := by
  refine MetH.of #[.val (.ref q0), .val (.int 0), .val (.int 7)] (plainFor_of_name pn_java_util_Arrays) rfl Z0 (fun p e s m below meth c T0 hret hml hnm hSL hs0 X0 => ?_)
  refine kILn X0 d24_0 rfl ?_
  refine kIFf X0 d24_1 (XT.i0_ne_f (by decide)) ?_
  refine kILn X0 d24_4 rfl ?_
  refine kALn X0 d24_5 rfl rfl ?_
  refine kLEN X0 A_q0 d24_6 ?_
  refine kICf X0 d24_7 (XT.ii_eq_f (by decide)) ?_
  refine kALn X0 d24_10 rfl rfl ?_
  refine kILn X0 d24_11 rfl ?_
  refine kILn X0 d24_12 rfl ?_
  refine kSTAT X0 (gEL G) (argsL := [.ref q0, .int 0, .int 7]) (rest := []) (wd G 136 rfl) (wd G 137 rfl) (wd G 134 rfl) (wd G 138 rfl) (by decide) (rm83 G i0 q0 kp0 h0 X0.n O0 A_q0) all0 (lenOf pd___BII__B rfl) rfl 0 rfl (by decide) hml.symm d24_13 (fun v1 T2 h3 vm4 _ w5 q6 C7 C8 X9 => ?_)
  obtain ⟨a11, k12, e13, f14, f15, f16, f17⟩ := q6
  subst e13
  have n18 : q0 ≠ a11 := Nat.ne_of_lt (Nat.lt_of_lt_of_le (A_q0.lt) f15)
  have g19 : n0 ≤ a11 := Nat.le_trans X0.n f15
  have g20 : h0.size ≤ a11 := Nat.le_trans X0.g0 f15
  show Go _ _ _ _ _ (mkF _ _ _ [.ref a11])
  have K21 : Keep h0 h3 [] := (Keep.trans (Keep.refl h0 []) f14 all0)
  exact kRETA X9 (gEL G) hret rfl rfl d24_16 (fun ve hve => ⟨a11, k12, rfl, K21, g20, f16, (CHr.safe hve (f16.lt) f17)⟩) (by decide)
def R_rm77 : Room := { frames := 3, cells := 1, slots := 7, locals := 49 }
theorem rm77 (G : Glob Z a0 iCS vSI) (i0 : Int32) (q0 q1 q2 : Addr) (kp0 : ClassId) (h0 : Heap) (Z0 : n0 ≤ h0.size) (O0 : Old Z n0 h0) (F_q1_value : Fld Z h0 q1 "java/lang/AbstractStringBuilder" "value" "[B" (.ref q2)) (E_q1 : Exa Z h0 q1 "java/lang/StringBuilder") (F_q1_count : Fld Z h0 q1 "java/lang/AbstractStringBuilder" "count" "I" (.int 7)) (F_q1_coder : Fld Z h0 q1 "java/lang/AbstractStringBuilder" "coder" "B" (.int 0)) (F_q0_coder : Fld Z h0 q0 "java/lang/String" "coder" "B" (.int 0)) (E_q0 : Exa Z h0 q0 "java/lang/String") (F_q0_value : Fld Z h0 q0 "java/lang/String" "value" "[B" (.null)) (A_q2 : Arv Z h0 q2 kp0 .byte 16 [.int i0, .int 46, .int 108, .int 111, .int 119, .int 101, .int 114, .int 0, .int 0, .int 0, .int 0, .int 0, .int 0, .int 0, .int 0, .int 0] (.int 0)) (d_q2_q0 : q2 ≠ q0) (g_q0 : n0 ≤ q0) : MetH l Z EL0 n0 N_jdk_42_m_150 jdk_42_method_150_code 5 none [] R_rm77 #[.ref q0, .ref q1, .null] h0 [q0] (fun vs v h ve => (∃ (x0 : Addr), ∃ (z0 : ClassId), v = none ∧ (Keep h0 h [q0]) ∧ (h0.size ≤ x0) ∧ (Arv Z h x0 z0 .byte 7 [.int i0, .int 46, .int 108, .int 111, .int 119, .int 101, .int 114] (.int 0)) ∧ (Safe Z EL0 ve h x0) ∧ (Fld Z h q0 "java/lang/String" "coder" "B" (.int 0)) ∧ (Fld Z h q0 "java/lang/String" "value" "[B" (.ref x0)))) := by
  refine MetH.of #[.val (.ref q0), .val (.ref q1), .val .null, .unset, .unset] (plainFor_of_name pn_java_lang_String) rfl Z0 (fun p e s m below meth c T0 hret hml hnm hSL hs0 X0 => ?_)
  have S_q0 := hSL q0 (List.mem_of_getElem? (i := 0) rfl)
  refine kALn X0 d19_0 rfl rfl ?_
  refine kINIT X0 (wd G 11 rfl) (wd G 12 rfl) (wd G 13 rfl) hml.symm d19_1 (by decide) 0 (Nat.le_of_eq rfl) (by decide) (fun T1 X2 => ?_)
  refine kALn X2 d19_4 rfl rfl ?_
  refine kVIRT X2 (gEL G) (argsL := []) (rest := []) (wd G 114 rfl) (wd G 115 rfl) (own_nf X2.hZ (own_noface (wd G 77 rfl) rfl)) (wd G 117 rfl) (wd G 116 rfl) (wd G 44 rfl) (wd G 118 rfl) (by decide) E_q1 (rm78 G i0 q1 q2 kp0 h0 X2.n O0 F_q1_value) all0 (lenOf pd____B rfl) rfl 0 rfl (by decide) hml.symm d19_5 (fun v3 T4 h5 vm6 _ w7 q8 C9 C10 X11 => ?_)
  obtain ⟨e13, f14⟩ := q8
  subst e13
  subst f14
  show Go _ _ _ _ _ (mkF _ _ _ [.ref q2])
  refine kASn X11 #[.val (.ref q0), .val (.ref q1), .val .null, .val (.ref q2), .unset] d19_8 rfl rfl ?_
  refine kALn X11 d19_9 rfl rfl ?_
  refine kVIRT X11 (gEL G) (argsL := []) (rest := []) (wd G 119 rfl) (wd G 120 rfl) (own_nf X11.hZ (own_noface (wd G 77 rfl) rfl)) (wd G 122 rfl) (wd G 123 rfl) (wd G 36 rfl) (wd G 124 rfl) (by decide) E_q1 (rm79 G i0 q1 q2 kp0 h0 X11.n O0 F_q1_count E_q1) all0 (lenOf pd___I rfl) rfl 0 rfl (by decide) hml.symm d19_10 (fun v15 T16 h17 vm18 _ w19 q20 C21 C22 X23 => ?_)
  obtain ⟨e25, f26⟩ := q20
  subst e25
  subst f26
  show Go _ _ _ _ _ (mkF _ _ _ [.int 7])
  refine kIS X23 #[.val (.ref q0), .val (.ref q1), .val .null, .val (.ref q2), .val (.int 7)] d19_13 rfl ?_
  refine kALn X23 d19_15 rfl rfl ?_
  refine kVIRT X23 (gEL G) (argsL := []) (rest := []) (wd G 127 rfl) (wd G 128 rfl) (own_nf X23.hZ (own_noface (wd G 77 rfl) rfl)) (wd G 130 rfl) (wd G 129 rfl) (wd G 44 rfl) (wd G 131 rfl) (by decide) E_q1 (rm81 G i0 q1 q2 kp0 h0 X23.n O0 F_q1_coder) all0 (lenOf pd___Z rfl) rfl 0 rfl (by decide) hml.symm d19_16 (fun v27 T28 h29 vm30 _ w31 q32 C33 C34 X35 => ?_)
  obtain ⟨e37, f38⟩ := q32
  subst e37
  subst f38
  show Go _ _ _ _ _ (mkF _ _ _ [.int 1])
  refine kIFf X35 d19_19 (XT.i0_eq_f (by decide)) ?_
  refine kALn X35 d19_22 rfl rfl ?_
  refine kIC X35 0 d19_23 (by decide) ?_
  have f39 := (CHr.safe C34 (F_q0_value.lt) (CHr.safe C22 (F_q0_value.lt) (CHr.safe C10 (F_q0_value.lt) S_q0)))
  refine kPUTF X35 (wd G 26 rfl) Via.refl F_q0_coder E_q0 (Or.inr ⟨(wd G 27 rfl), rfl, hnm⟩) (wd G 2 rfl) (ty := .byte) (by decide) (by decide) (by decide) g_q0 f39 d19_24 (fun T40 h41 L44 W43 X42 => ?_)
  have f45 := Fld.same W43 F_q0_coder
  refine kALn X42 d19_27 rfl rfl ?_
  refine kALn X42 d19_28 rfl rfl ?_
  refine kIC X42 0 d19_29 (by decide) ?_
  refine kIL X42 d19_30 rfl ?_
  have f46 := (Arv.other A_q2 W43 d_q2_q0)
  have f47 := (Old.wr O0 W43 g_q0)
  refine kSTAT X42 (gEL G) (argsL := [.ref q2, .int 0, .int 7]) (rest := [.ref q0]) (wd G 132 rfl) (wd G 133 rfl) (wd G 134 rfl) (wd G 135 rfl) (by decide) (rm82 G i0 q2 kp0 h41 X42.n f47 f46) all0 (lenOf pd___BII__B rfl) rfl 1 rfl (by decide) hml.symm d19_32 (fun v48 T49 h50 vm51 _ w52 q53 C54 C55 X56 => ?_)
  obtain ⟨a58, k59, e60, f61, f62, f63, f64⟩ := q53
  subst e60
  have n65 : q0 ≠ a58 := Nat.ne_of_lt (Nat.lt_of_lt_of_le (f45.lt) f62)
  have f67 := (Exa.wr W43 E_q1)
  have n66 : q1 ≠ a58 := Nat.ne_of_lt (Nat.lt_of_lt_of_le (f67.lt) f62)
  have n68 : q2 ≠ a58 := Nat.ne_of_lt (Nat.lt_of_lt_of_le (f46.lt) f62)
  have g69 : n0 ≤ a58 := Nat.le_trans X42.n f62
  have g70 : h0.size ≤ a58 := Nat.le_trans X42.g0 f62
  show Go _ _ _ _ _ (mkF _ _ _ [.ref a58, .ref q0])
  have f71 := (Fld.keep (Fld.other W43 F_q0_value (Or.inr (slot_ne (Or.inr (wd G 29 rfl)) (Or.inr (wd G 27 rfl)) (by decide) (by decide : parseFieldDescriptor "[B" = some (.array (.byte))) (by decide : parseFieldDescriptor "B" = some .byte)))) f61 nin0)
  have f72 := (Exa.keep (Exa.wr W43 E_q0) f61)
  have f73 := (CHr.safe C55 (f45.lt) (Safe.wr W43 f39 X35.C.1 f39))
  refine kPUTF X56 (wd G 28 rfl) Via.refl f71 f72 (Or.inr ⟨(wd G 29 rfl), rfl, hnm⟩) (wd G 2 rfl) (ty := (.array (.byte))) (by decide) rfl rfl g_q0 f73 d19_35 (fun T74 h75 L78 W77 X76 => ?_)
  have f79 := Fld.same W77 f71
  refine kGOTO X76 97 d19_38 (by decide) ?_
  have K80 : Keep h0 h75 [q0] := (Keep.wr (Keep.trans (Keep.wr (Keep.refl h0 [q0]) W43 (Or.inl (List.mem_of_getElem? (i := 0) rfl))) f61 all0) W77 (Or.inl (List.mem_of_getElem? (i := 0) rfl)))
  have f81 := (Arv.other f63 W77 (Ne.symm n65))
  have f82 := (Safe.wr W77 f73 X56.C.1 f64)
  have f83 := (Fld.other W77 (Fld.keep f45 f61 nin0) (Or.inr (slot_ne (Or.inr (wd G 27 rfl)) (Or.inr (wd G 29 rfl)) (by decide) (by decide : parseFieldDescriptor "B" = some .byte) (by decide : parseFieldDescriptor "[B" = some (.array (.byte))))))
  exact kRETV X76 (gEL G) hret d19_97 (fun ve hve => ⟨a58, k59, rfl, K80, g70, f81, (CHr.safe hve (f81.lt) f82), f83, f79⟩) (by decide)
def R_rm76 : Room := { frames := 4, cells := 1, slots := 7, locals := 65 }
theorem rm76 (G : Glob Z a0 iCS vSI) (i0 : Int32) (q0 q1 q2 : Addr) (kp0 : ClassId) (h0 : Heap) (Z0 : n0 ≤ h0.size) (O0 : Old Z n0 h0) (F_q1_value : Fld Z h0 q1 "java/lang/AbstractStringBuilder" "value" "[B" (.ref q2)) (E_q1 : Exa Z h0 q1 "java/lang/StringBuilder") (F_q1_count : Fld Z h0 q1 "java/lang/AbstractStringBuilder" "count" "I" (.int 7)) (F_q1_coder : Fld Z h0 q1 "java/lang/AbstractStringBuilder" "coder" "B" (.int 0)) (F_q0_coder : Fld Z h0 q0 "java/lang/String" "coder" "B" (.int 0)) (E_q0 : Exa Z h0 q0 "java/lang/String") (F_q0_value : Fld Z h0 q0 "java/lang/String" "value" "[B" (.null)) (A_q2 : Arv Z h0 q2 kp0 .byte 16 [.int i0, .int 46, .int 108, .int 111, .int 119, .int 101, .int 114, .int 0, .int 0, .int 0, .int 0, .int 0, .int 0, .int 0, .int 0, .int 0] (.int 0)) (d_q2_q0 : q2 ≠ q0) (g_q0 : n0 ≤ q0) : MetH l Z EL0 n0 N_jdk_42_m_53 jdk_42_method_53_code 2 none [] R_rm76 #[.ref q0, .ref q1] h0 [q0] (fun vs v h ve => (∃ (x0 : Addr), ∃ (z0 : ClassId), v = none ∧ (Keep h0 h [q0]) ∧ (h0.size ≤ x0) ∧ (Arv Z h x0 z0 .byte 7 [.int i0, .int 46, .int 108, .int 111, .int 119, .int 101, .int 114] (.int 0)) ∧ (Safe Z EL0 ve h x0) ∧ (Fld Z h q0 "java/lang/String" "coder" "B" (.int 0)) ∧ (Fld Z h q0 "java/lang/String" "value" "[B" (.ref x0)))) := by
  refine MetH.of #[.val (.ref q0), .val (.ref q1)] (plainFor_of_name pn_java_lang_String) rfl Z0 (fun p e s m below meth c T0 hret hml hnm hSL hs0 X0 => ?_)
  have S_q0 := hSL q0 (List.mem_of_getElem? (i := 0) rfl)
  refine kALn X0 d18_0 rfl rfl ?_
  refine kALn X0 d18_1 rfl rfl ?_
  refine kNULL X0 d18_2 ?_
  refine kSPEC X0 (gEL G) (argsL := [.ref q1, .null]) (rest := []) (wd G 111 rfl) (wd G 112 rfl) (wd G 3 rfl) (wd G 113 rfl) rfl (by decide) (rm77 G i0 q0 q1 q2 kp0 h0 X0.n O0 F_q1_value E_q1 F_q1_count F_q1_coder F_q0_coder E_q0 F_q0_value A_q2 d_q2_q0 g_q0) (allS ⟨(E_q0.lt), S_q0⟩ all0) (lenOf pd__Ljava_lang_AbstractStringBuilder_Ljava_lang_Void__V rfl) rfl 0 rfl (by decide) hml.symm d18_3 (fun v1 T2 h3 vm4 _ w5 q6 C7 C8 X9 => ?_)
  obtain ⟨a11, k12, e13, f14, f15, f16, f17, f18, f19⟩ := q6
  subst e13
  have n20 : q0 ≠ a11 := Nat.ne_of_lt (Nat.lt_of_lt_of_le (E_q0.lt) f15)
  have n21 : q1 ≠ a11 := Nat.ne_of_lt (Nat.lt_of_lt_of_le (E_q1.lt) f15)
  have n22 : q2 ≠ a11 := Nat.ne_of_lt (Nat.lt_of_lt_of_le (A_q2.lt) f15)
  have g23 : n0 ≤ a11 := Nat.le_trans X0.n f15
  have g24 : h0.size ≤ a11 := Nat.le_trans X0.g0 f15
  show Go _ _ _ _ _ (mkF _ _ _ [])
  have K25 : Keep h0 h3 [q0] := (Keep.trans (Keep.refl h0 [q0]) f14 (allS (Or.inl (List.mem_of_getElem? (i := 0) rfl)) all0))
  exact kRETV X9 (gEL G) hret d18_6 (fun ve hve => ⟨a11, k12, rfl, K25, g24, f16, (CHr.safe hve (f16.lt) f17), f18, f19⟩) (by decide)
def R_rm75 : Room := { frames := 5, cells := 2, slots := 11, locals := 79 }
theorem rm75 (G : Glob Z a0 iCS vSI) (i0 : Int32) (q0 q1 : Addr) (kp0 : ClassId) (h0 : Heap) (Z0 : n0 ≤ h0.size) (O0 : Old Z n0 h0) (E_q0 : Exa Z h0 q0 "java/lang/StringBuilder") (A_q1 : Arv Z h0 q1 kp0 .byte 16 [.int i0, .int 46, .int 108, .int 111, .int 119, .int 101, .int 114, .int 0, .int 0, .int 0, .int 0, .int 0, .int 0, .int 0, .int 0, .int 0] (.int 0)) (F_q0_value : Fld Z h0 q0 "java/lang/AbstractStringBuilder" "value" "[B" (.ref q1)) (F_q0_count : Fld Z h0 q0 "java/lang/AbstractStringBuilder" "count" "I" (.int 7)) (F_q0_coder : Fld Z h0 q0 "java/lang/AbstractStringBuilder" "coder" "B" (.int 0)) : MetH l Z EL0 n0 N_jdk_67_m_42 jdk_67_method_42_code 1 (some (.object "java/lang/String")) [] R_rm75 #[.ref q0] h0 [] (fun vs v h ve => (∃ (x0 : Addr), ∃ (x1 : Addr), ∃ (z0 : ClassId), v = some (.ref x0) ∧ (Keep h0 h []) ∧ (h0.size ≤ x0) ∧ (h0.size ≤ x1) ∧ (x0 ≠ x1) ∧ (Exa Z h x0 "java/lang/String") ∧ (Fld Z h x0 "java/lang/String" "coder" "B" (.int 0)) ∧ (Fld Z h x0 "java/lang/String" "value" "[B" (.ref x1)) ∧ (Safe Z EL0 ve h x0) ∧ (Arv Z h x1 z0 .byte 7 [.int i0, .int 46, .int 108, .int 111, .int 119, .int 101, .int 114] (.int 0)) ∧ (Safe Z EL0 ve h x1))) := by
  refine MetH.of #[.val (.ref q0)] (plainFor_of_name pn_java_lang_StringBuilder) rfl Z0 (fun p e s m below meth c T0 hret hml hnm hSL hs0 X0 => ?_)
  refine kNEW X0 (wd G 107 rfl) (wd G 2 rfl) (wd G 3 rfl) d17_0 (by decide) (by decide) (fun T1 h2 a4 E5 q6 g7 A8 D9 s10 X3 => ?_)
  have n11 : q0 ≠ a4 := Nat.ne_of_lt (Nat.lt_of_lt_of_le (E_q0.lt) (Nat.le_of_eq q6.symm))
  have n12 : q1 ≠ a4 := Nat.ne_of_lt (Nat.lt_of_lt_of_le (A_q1.lt) (Nat.le_of_eq q6.symm))
  have g13 : h0.size ≤ a4 := q6 ▸ X0.g0
  have f14 : Fld Z h2 a4 "java/lang/String" "coder" "B" (.int 0) := D9 (Or.inr (wd G 27 rfl)) (ty := .byte) (by decide)
  have f15 : Fld Z h2 a4 "java/lang/String" "value" "[B" (.null) := D9 (Or.inr (wd G 29 rfl)) (ty := (.array (.byte))) (by decide)
  refine kDUP X3 d17_3 rfl ?_
  refine kALn X3 d17_4 rfl rfl ?_
  have f16 := (Fld.ext E5 F_q0_value)
  have f17 := (Exa.ext E5 E_q0)
  have f18 := (Fld.ext E5 F_q0_count)
  have f19 := (Fld.ext E5 F_q0_coder)
  have f20 := (Arv.ext A_q1 E5)
  have f21 := (Old.ext O0 E5)
  refine kSPEC X3 (gEL G) (argsL := [.ref q0]) (rest := [.ref a4]) (wd G 108 rfl) (wd G 109 rfl) (wd G 3 rfl) (wd G 110 rfl) rfl (by decide) (rm76 G i0 a4 q0 q1 kp0 h2 X3.n f21 f16 f17 f18 f19 f14 A8 f15 f20 n12 g7) (allS ⟨(A8.lt), s10⟩ all0) (lenOf pd__Ljava_lang_StringBuilder__V rfl) rfl 1 rfl (by decide) hml.symm d17_5 (fun v22 T23 h24 vm25 _ w26 q27 C28 C29 X30 => ?_)
  obtain ⟨a32, k33, e34, f35, f36, f37, f38, f39, f40⟩ := q27
  subst e34
  have n41 : q0 ≠ a32 := Nat.ne_of_lt (Nat.lt_of_lt_of_le (f17.lt) f36)
  have n42 : q1 ≠ a32 := Nat.ne_of_lt (Nat.lt_of_lt_of_le (f20.lt) f36)
  have n43 : a4 ≠ a32 := Nat.ne_of_lt (Nat.lt_of_lt_of_le (A8.lt) f36)
  have g44 : n0 ≤ a32 := Nat.le_trans X3.n f36
  have g45 : h0.size ≤ a32 := Nat.le_trans X3.g0 f36
  show Go _ _ _ _ _ (mkF _ _ _ [.ref a4])
  have K46 : Keep h0 h24 [] := (Keep.trans (Keep.ext (Keep.refl h0 []) E5) f35 (allS (Or.inr g13) all0))
  have f47 := (Exa.keep A8 f35)
  have f48 := (CHr.safe C29 (f14.lt) s10)
  exact kRETA X30 (gEL G) hret rfl rfl d17_8 (fun ve hve => ⟨a4, a32, k33, rfl, K46, g13, g45, n43, f47, f39, f40, (CHr.safe hve (f47.lt) f48), f37, (CHr.safe hve (f37.lt) f38)⟩) (by decide)
def R_rm60 : Room := { frames := 6, cells := 6, slots := 59, locals := 91 }
theorem rm60 (G : Glob Z a0 iCS vSI) (i0 : Int32) (q0 q1 : Addr) (kp0 : ClassId) (h0 : Heap) (Z0 : n0 ≤ h0.size) (O0 : Old Z n0 h0) (E_q0 : Exa Z h0 q0 "java/lang/String") (A_q1 : Arv Z h0 q1 kp0 .byte 1 [.int i0] (.int 0)) (F_q0_value : Fld Z h0 q0 "java/lang/String" "value" "[B" (.ref q1)) (F_q0_coder : Fld Z h0 q0 "java/lang/String" "coder" "B" (.int 0)) : MetH l Z EL0 n0 N_prog_3_m_8 prog_3_method_8_code 2 (some (.object "java/lang/String")) [] R_rm60 #[.ref q0, .int 0] h0 [q0, q1] (fun vs v h ve => (∃ (x0 : Addr), ∃ (x1 : Addr), ∃ (z0 : ClassId), v = some (.ref x0) ∧ (Keep h0 h []) ∧ (h0.size ≤ x0) ∧ (h0.size ≤ x1) ∧ (x0 ≠ x1) ∧ (Exa Z h x0 "java/lang/String") ∧ (Fld Z h x0 "java/lang/String" "coder" "B" (.int 0)) ∧ (Fld Z h x0 "java/lang/String" "value" "[B" (.ref x1)) ∧ (Safe Z EL0 ve h x0) ∧ (Arv Z h x1 z0 .byte 7 [.int i0, .int 46, .int 108, .int 111, .int 119, .int 101, .int 114] (.int 0)) ∧ (Safe Z EL0 ve h x1))) := by
  refine MetH.of #[.val (.ref q0), .val (.int 0)] (plainFor_of_name pn_com_example_tight_calculus_tightcalculus_Component) rfl Z0 (fun p e s m below meth c T0 hret hml hnm hSL hs0 X0 => ?_)
  have S_q0 := hSL q0 (List.mem_of_getElem? (i := 0) rfl)
  have S_q1 := hSL q1 (List.mem_of_getElem? (i := 1) rfl)
  refine kNEW X0 (wd G 34 rfl) (wd G 35 rfl) (wd G 36 rfl) d6_0 (by decide) (by decide) (fun T1 h2 a4 E5 q6 g7 A8 D9 s10 X3 => ?_)
  have n11 : q0 ≠ a4 := Nat.ne_of_lt (Nat.lt_of_lt_of_le (E_q0.lt) (Nat.le_of_eq q6.symm))
  have n12 : q1 ≠ a4 := Nat.ne_of_lt (Nat.lt_of_lt_of_le (A_q1.lt) (Nat.le_of_eq q6.symm))
  have g13 : h0.size ≤ a4 := q6 ▸ X0.g0
  have f14 : Fld Z h2 a4 "java/lang/AbstractStringBuilder" "value" "[B" (.null) := D9 (Or.inl (wd G 49 rfl)) (ty := (.array (.byte))) (by decide)
  have f15 : Fld Z h2 a4 "java/lang/AbstractStringBuilder" "coder" "B" (.int 0) := D9 (Or.inl (wd G 51 rfl)) (ty := .byte) (by decide)
  have f16 : Fld Z h2 a4 "java/lang/AbstractStringBuilder" "count" "I" (.int 0) := D9 (Or.inl (wd G 73 rfl)) (ty := .int) (by decide)
  refine kDUP X3 d6_3 rfl ?_
  have f17 := (Old.ext O0 E5)
  refine kSPEC X3 (gEL G) (argsL := []) (rest := [.ref a4]) (wd G 37 rfl) (wd G 38 rfl) (wd G 36 rfl) (wd G 39 rfl) rfl (by decide) (rm4 G a4 h2 X3.n f17 A8 f14 f15 f16 g7) all0 (lenOf pd___V rfl) rfl 1 rfl (by decide) hml.symm d6_4 (fun v18 T19 h20 vm21 _ w22 q23 C24 C25 X26 => ?_)
  obtain ⟨a28, k29, e30, f31, f32, f33, f34, f35, f36, f37⟩ := q23
  subst e30
  have f39 := (Exa.ext E5 E_q0)
  have n38 : q0 ≠ a28 := Nat.ne_of_lt (Nat.lt_of_lt_of_le (f39.lt) f32)
  have f41 := (Arv.ext A_q1 E5)
  have n40 : q1 ≠ a28 := Nat.ne_of_lt (Nat.lt_of_lt_of_le (f41.lt) f32)
  have n42 : a4 ≠ a28 := Nat.ne_of_lt (Nat.lt_of_lt_of_le (A8.lt) f32)
  have g43 : n0 ≤ a28 := Nat.le_trans X3.n f32
  have g44 : h0.size ≤ a28 := Nat.le_trans X3.g0 f32
  show Go _ _ _ _ _ (mkF _ _ _ [.ref a4])
  refine kALn X26 d6_7 rfl rfl ?_
  have f45 := (Fld.keep (Fld.ext E5 F_q0_value) f31 (ninS n11 nin0))
  have f46 := (Arv.keep f41 f31 (ninS n12 nin0))
  have f47 := (Fld.keep (Fld.ext E5 F_q0_coder) f31 (ninS n11 nin0))
  have f48 := (Exa.keep f39 f31)
  have f49 := (Exa.keep A8 f31)
  have f50 := (Old.keep f17 f31 (allS g7 all0))
  refine kVIRT X26 (gEL G) (argsL := [.ref q0]) (rest := []) (wd G 52 rfl) (wd G 53 rfl) (own_nf X26.hZ (own_noinst (wd G 35 rfl))) (wd G 55 rfl) (wd G 54 rfl) (wd G 36 rfl) (wd G 56 rfl) (by decide) f49 (rm61 G i0 a4 q0 a28 q1 k29 kp0 h20 X26.n f50 f45 f46 f47 f48 f36 f37 f33 f35 f49 n42 g7 g43) (allS ⟨(f33.lt), f34⟩ all0) (lenOf pd__Ljava_lang_String__Ljava_lang_StringBuilder_ rfl) rfl 0 rfl (by decide) hml.symm d6_8 (fun v51 T52 h53 vm54 _ w55 q56 C57 C58 X59 => ?_)
  obtain ⟨e61, f62, f63, f64, f65, f66⟩ := q56
  subst e61
  show Go _ _ _ _ _ (mkF _ _ _ [.ref a4])
  refine kILn X59 d6_11 rfl ?_
  refine kIFt X59 20 d6_12 (XT.i0_eq_t (by decide)) (by decide) ?_
  refine kLDCT X59 (gEL G) (wd G 99 rfl) (gSA G) (by decide) (text := ".lower") (vs := [.int 46, .int 108, .int 111, .int 119, .int 101, .int 114]) (z := 6) (by decide) (by decide) (by decide) d6_20 (n := 24) (by decide) (by decide) (by decide) (by decide) (fun T67 h68 vm70 a71 b72 k73 E74 C75 f76 f77 f78 f79 n80 X69 => ?_)
  have f81 := (CHr.safe C75 ((Exa.keep f48 f62)).lt (CHr.safe C58 (f48.lt) (CHr.safe C25 (f39.lt) (Safe.ext E5 X0.C.1 S_q0))))
  have n82 := (n80 q0 f81).1
  have n83 := (n80 q0 f81).2
  have f84 := (CHr.safe C75 ((Arv.keep f46 f62 (ninS n40 (ninS n12 nin0)))).lt (CHr.safe C58 (f46.lt) (CHr.safe C25 (f41.lt) (Safe.ext E5 X0.C.1 S_q1))))
  have n85 := (n80 q1 f84).1
  have n86 := (n80 q1 f84).2
  have f87 := (Exa.ext E74 (Exa.keep f49 f62))
  have n88 := (n80 a4 (Safe.exa X69.hZ.alike f87 (by decide) (by decide))).1
  have n89 := (n80 a4 (Safe.exa X69.hZ.alike f87 (by decide) (by decide))).2
  have f90 := (CHr.safe C75 (f63.lt) (CHr.safe C58 (f33.lt) f34))
  have n91 := (n80 a28 f90).1
  have n92 := (n80 a28 f90).2
  have n93 : ∀ x, x < h0.size → Safe Z EL0 s.vm h0 x → x ≠ b72 := fun x hx S => (n80 x (CHr.safe (hs0 ▸ X69.C) hx S)).2
  have f94 := (Fld.ext E74 f65)
  have f95 := (Fld.ext E74 f66)
  have f96 := (Arv.ext f63 E74)
  have f97 := (Fld.ext E74 f64)
  have f98 := (Old.ext (Old.keep f50 f62 (allS g43 (allS g7 all0))) E74)
  refine kVIRT X69 (gEL G) (argsL := [.ref a71]) (rest := []) (wd G 52 rfl) (wd G 53 rfl) (own_nf X69.hZ (own_noinst (wd G 35 rfl))) (wd G 55 rfl) (wd G 54 rfl) (wd G 36 rfl) (wd G 56 rfl) (by decide) f87 (rm69 G i0 a4 a71 a28 b72 k29 k73 h68 X69.n f98 f78 f79 f77 f76 f94 f95 f96 f97 f87 n42 g7 g43) (allS ⟨(f96.lt), f90⟩ all0) (lenOf pd__Ljava_lang_String__Ljava_lang_StringBuilder_ rfl) rfl 0 rfl (by decide) hml.symm d6_22 (fun v99 T100 h101 vm102 _ w103 q104 C105 C106 X107 => ?_)
  obtain ⟨e109, f110, f111, f112, f113, f114⟩ := q104
  subst e109
  show Go _ _ _ _ _ (mkF _ _ _ [.ref a4])
  have f115 := (Exa.keep f87 f110)
  have f116 := (Old.keep f98 f110 (allS g43 (allS g7 all0)))
  refine kVIRT X107 (gEL G) (argsL := []) (rest := []) (wd G 102 rfl) (wd G 103 rfl) (own_nf X107.hZ (own_noinst (wd G 35 rfl))) (wd G 105 rfl) (wd G 104 rfl) (wd G 36 rfl) (wd G 106 rfl) (by decide) f115 (rm75 G i0 a4 a28 k29 h101 X107.n f116 f115 f111 f114 f113 f112) all0 (lenOf pd___Ljava_lang_String_ rfl) rfl 0 rfl (by decide) hml.symm d6_25 (fun v117 T118 h119 vm120 _ w121 q122 C123 C124 X125 => ?_)
  obtain ⟨a127, a128, k129, e130, f131, f132, f133, f134, f135, f136, f137, f138, f139, f140⟩ := q122
  subst e130
  have f142 := (Exa.keep (Exa.ext E74 (Exa.keep f48 f62)) f110)
  have n141 : q0 ≠ a127 := Nat.ne_of_lt (Nat.lt_of_lt_of_le (f142.lt) f132)
  have f144 := (Arv.keep (Arv.ext (Arv.keep f46 f62 (ninS n40 (ninS n12 nin0))) E74) f110 (ninS n40 (ninS n12 nin0)))
  have n143 : q1 ≠ a127 := Nat.ne_of_lt (Nat.lt_of_lt_of_le (f144.lt) f132)
  have n145 : a4 ≠ a127 := Nat.ne_of_lt (Nat.lt_of_lt_of_le (f115.lt) f132)
  have n146 : a28 ≠ a127 := Nat.ne_of_lt (Nat.lt_of_lt_of_le (f111.lt) f132)
  have f148 := (Exa.keep f76 f110)
  have n147 : a71 ≠ a127 := Nat.ne_of_lt (Nat.lt_of_lt_of_le (f148.lt) f132)
  have f150 := (Arv.keep f79 f110 (ninS (Ne.symm n92) (ninS (Ne.symm n89) nin0)))
  have n149 : b72 ≠ a127 := Nat.ne_of_lt (Nat.lt_of_lt_of_le (f150.lt) f132)
  have n151 : q0 ≠ a128 := Nat.ne_of_lt (Nat.lt_of_lt_of_le (f142.lt) f133)
  have n152 : q1 ≠ a128 := Nat.ne_of_lt (Nat.lt_of_lt_of_le (f144.lt) f133)
  have n153 : a4 ≠ a128 := Nat.ne_of_lt (Nat.lt_of_lt_of_le (f115.lt) f133)
  have n154 : a28 ≠ a128 := Nat.ne_of_lt (Nat.lt_of_lt_of_le (f111.lt) f133)
  have n155 : a71 ≠ a128 := Nat.ne_of_lt (Nat.lt_of_lt_of_le (f148.lt) f133)
  have n156 : b72 ≠ a128 := Nat.ne_of_lt (Nat.lt_of_lt_of_le (f150.lt) f133)
  have g157 : n0 ≤ a127 := Nat.le_trans X107.n f132
  have g158 : h0.size ≤ a127 := Nat.le_trans X107.g0 f132
  have g159 : n0 ≤ a128 := Nat.le_trans X107.n f133
  have g160 : h0.size ≤ a128 := Nat.le_trans X107.g0 f133
  show Go _ _ _ _ _ (mkF _ _ _ [.ref a127])
  have K161 : Keep h0 h119 [] := (Keep.trans (Keep.trans (Keep.ext (Keep.trans (Keep.trans (Keep.ext (Keep.refl h0 []) E5) f31 (allS (Or.inr g13) all0)) f62 (allS (Or.inr g44) (allS (Or.inr g13) all0))) E74) f110 (allS (Or.inr g44) (allS (Or.inr g13) all0))) f131 all0)
  exact kRETA X125 (gEL G) hret rfl rfl d6_28 (fun ve hve => ⟨a127, a128, k129, rfl, K161, g158, g160, f134, f135, f136, f137, (CHr.safe hve (f135.lt) f138), f139, (CHr.safe hve (f139.lt) f140)⟩) (by decide)
def R_rm87 : Room := { frames := 0, cells := 0, slots := 0, locals := 0 }
theorem rm87 (G : Glob Z a0 iCS vSI) (i0 : Int32) (q0 q1 : Addr) (kp0 : ClassId) (h0 : Heap) (Z0 : n0 ≤ h0.size) (O0 : Old Z n0 h0) (F_q0_coder : Fld Z h0 q0 "java/lang/String" "coder" "B" (.int 0)) : MetH l Z EL0 n0 N_jdk_42_m_152 jdk_42_method_152_code 1 (some .byte) [] R_rm87 #[.ref q0] h0 [] (fun vs v h ve => (v = some (.int 0) ∧ (h0 = h))) := by
  refine MetH.of #[.val (.ref q0)] (plainFor_of_name pn_java_lang_String) rfl Z0 (fun p e s m below meth c T0 hret hml hnm hSL hs0 X0 => ?_)
  refine kGETS X0 (wd G 14 rfl) Via.refl (Sta.ext O0.2 (S_CS G)) d12_0 (fun T1 X2 => ?_)
  refine kIFf X2 d12_3 (XT.i0_eq_f (n_CS G)) ?_
  refine kALn X2 d12_6 rfl rfl ?_
  refine kGETF X2 (wd G 26 rfl) Via.refl F_q0_coder d12_7 (fun T3 X4 => ?_)
  refine kGOTO X4 14 d12_10 (by decide) ?_
  exact kRETZ X4 (gEL G) (t := .byte) hret (by simp) d12_14 (fun ve hve => ⟨rfl, rfl⟩) (by decide)
def R_rm86 : Room := { frames := 1, cells := 0, slots := 0, locals := 13 }
theorem rm86 (G : Glob Z a0 iCS vSI) (i0 : Int32) (q0 q1 : Addr) (kp0 : ClassId) (h0 : Heap) (Z0 : n0 ≤ h0.size) (O0 : Old Z n0 h0) (F_q0_value : Fld Z h0 q0 "java/lang/String" "value" "[B" (.ref q1)) (A_q1 : Arv Z h0 q1 kp0 .byte 7 [.int i0, .int 46, .int 108, .int 111, .int 119, .int 101, .int 114] (.int 0)) (F_q0_coder : Fld Z h0 q0 "java/lang/String" "coder" "B" (.int 0)) (E_q0 : Exa Z h0 q0 "java/lang/String") : MetH l Z EL0 n0 N_jdk_42_m_54 jdk_42_method_54_code 1 (some .int) [] R_rm86 #[.ref q0] h0 [] (fun vs v h ve => (v = some (.int 7) ∧ (h0 = h))) := by
  refine MetH.of #[.val (.ref q0)] (plainFor_of_name pn_java_lang_String) rfl Z0 (fun p e s m below meth c T0 hret hml hnm hSL hs0 X0 => ?_)
  refine kALn X0 d11_0 rfl rfl ?_
  refine kGETF X0 (wd G 28 rfl) Via.refl F_q0_value d11_1 (fun T1 X2 => ?_)
  refine kLEN X2 A_q1 d11_4 ?_
  refine kALn X2 d11_5 rfl rfl ?_
  refine kVIRT X2 (gEL G) (argsL := []) (rest := [.int 7]) (wd G 67 rfl) (wd G 68 rfl) (own_nf X2.hZ (own_noinst (wd G 2 rfl))) (wd G 70 rfl) (wd G 69 rfl) (wd G 3 rfl) (wd G 71 rfl) (by decide) E_q0 (rm87 G i0 q0 q1 kp0 h0 X2.n O0 F_q0_coder) all0 (lenOf pd___B rfl) rfl 1 rfl (by decide) hml.symm d11_6 (fun v3 T4 h5 vm6 _ w7 q8 C9 C10 X11 => ?_)
  obtain ⟨e13, f14⟩ := q8
  subst e13
  subst f14
  show Go _ _ _ _ _ (mkF _ _ _ [.int 0, .int 7])
  refine kISHR X11 7 d11_9 (by decide) ?_
  exact kRETI X11 (gEL G) hret d11_10 (fun ve hve => ⟨rfl, rfl⟩) (by decide)
def R_rm92 : Room := { frames := 1, cells := 0, slots := 0, locals := 13 }
theorem rm92 (G : Glob Z a0 iCS vSI) (i0 : Int32) (q0 q1 q2 q3 : Addr) (kp0 kp1 : ClassId) (h0 : Heap) (Z0 : n0 ≤ h0.size) (O0 : Old Z n0 h0) (F_q0_coder : Fld Z h0 q0 "java/lang/AbstractStringBuilder" "coder" "B" (.int 0)) (F_q1_coder : Fld Z h0 q1 "java/lang/String" "coder" "B" (.int 0)) (E_q1 : Exa Z h0 q1 "java/lang/String") : MetH l Z EL0 n0 N_jdk_68_m_71 jdk_68_method_71_code 2 none [] R_rm92 #[.ref q0, .ref q1] h0 [] (fun vs v h ve => (v = none ∧ (h0 = h))) := by
  refine MetH.of #[.val (.ref q0), .val (.ref q1)] (plainFor_of_name pn_java_lang_AbstractStringBuilder) rfl Z0 (fun p e s m below meth c T0 hret hml hnm hSL hs0 X0 => ?_)
  refine kGETS X0 (wd G 47 rfl) Via.refl (Sta.ext O0.2 (S_CS G)) d15_0 (fun T1 X2 => ?_)
  refine kIFf X2 d15_3 (XT.i0_eq_f (n_CS G)) ?_
  refine kALn X2 d15_6 rfl rfl ?_
  refine kGETF X2 (wd G 50 rfl) Via.refl F_q0_coder d15_7 (fun T3 X4 => ?_)
  refine kALn X4 d15_10 rfl rfl ?_
  refine kVIRT X4 (gEL G) (argsL := []) (rest := [.int 0]) (wd G 89 rfl) (wd G 68 rfl) (own_nf X4.hZ (own_noinst (wd G 2 rfl))) (wd G 70 rfl) (wd G 69 rfl) (wd G 3 rfl) (wd G 71 rfl) (by decide) E_q1 (rm40 G q1 q3 kp1 h0 X4.n O0 F_q1_coder) all0 (lenOf pd___B rfl) rfl 1 rfl (by decide) hml.symm d15_11 (fun v5 T6 h7 vm8 _ w9 q10 C11 C12 X13 => ?_)
  obtain ⟨e15, f16⟩ := q10
  subst e15
  subst f16
  show Go _ _ _ _ _ (mkF _ _ _ [.int 0, .int 0])
  refine kICt X13 21 d15_14 (XT.ii_eq_t (by decide)) (by decide) ?_
  exact kRETV X13 (gEL G) hret d15_21 (fun ve hve => ⟨rfl, rfl⟩) (by decide)
def R_rm93 : Room := { frames := 1, cells := 0, slots := 0, locals := 18 }
theorem rm93 (G : Glob Z a0 iCS vSI) (i0 : Int32) (q0 q1 q2 : Addr) (kp0 kp1 : ClassId) (h0 : Heap) (Z0 : n0 ≤ h0.size) (O0 : Old Z n0 h0) (F_q0_coder : Fld Z h0 q0 "java/lang/String" "coder" "B" (.int 0)) (E_q0 : Exa Z h0 q0 "java/lang/String") (F_q0_value : Fld Z h0 q0 "java/lang/String" "value" "[B" (.ref q2)) (A_q2 : Arv Z h0 q2 kp1 .byte 6 [.int 46, .int 117, .int 112, .int 112, .int 101, .int 114] (.int 0)) (A_q1 : Arv Z h0 q1 kp0 .byte 16 [.int i0, .int 0, .int 0, .int 0, .int 0, .int 0, .int 0, .int 0, .int 0, .int 0, .int 0, .int 0, .int 0, .int 0, .int 0, .int 0] (.int 0)) (g_q1 : n0 ≤ q1) : MetH l Z EL0 n0 N_jdk_42_m_147 jdk_42_method_147_code 4 none [] R_rm93 #[.ref q0, .ref q1, .int 1, .int 0] h0 [q1] (fun vs v h ve => (v = none ∧ (Keep h0 h [q1]) ∧ (Arv Z h q1 kp0 .byte 16 [.int i0, .int 46, .int 117, .int 112, .int 112, .int 101, .int 114, .int 0, .int 0, .int 0, .int 0, .int 0, .int 0, .int 0, .int 0, .int 0] (.int 0)))) := by
  refine MetH.of #[.val (.ref q0), .val (.ref q1), .val (.int 1), .val (.int 0)] (plainFor_of_name pn_java_lang_String) rfl Z0 (fun p e s m below meth c T0 hret hml hnm hSL hs0 X0 => ?_)
  have S_q1 := hSL q1 (List.mem_of_getElem? (i := 0) rfl)
  refine kALn X0 d16_0 rfl rfl ?_
  refine kVIRT X0 (gEL G) (argsL := []) (rest := []) (wd G 67 rfl) (wd G 68 rfl) (own_nf X0.hZ (own_noinst (wd G 2 rfl))) (wd G 70 rfl) (wd G 69 rfl) (wd G 3 rfl) (wd G 71 rfl) (by decide) E_q0 (rm40 G q0 q2 kp1 h0 X0.n O0 F_q0_coder) all0 (lenOf pd___B rfl) rfl 0 rfl (by decide) hml.symm d16_1 (fun v1 T2 h3 vm4 _ w5 q6 C7 C8 X9 => ?_)
  obtain ⟨e11, f12⟩ := q6
  subst e11
  subst f12
  show Go _ _ _ _ _ (mkF _ _ _ [.int 0])
  refine kILn X9 d16_4 rfl ?_
  refine kICf X9 d16_5 (XT.ii_ne_f (by decide)) ?_
  refine kALn X9 d16_8 rfl rfl ?_
  refine kGETF X9 (wd G 28 rfl) Via.refl F_q0_value d16_9 (fun T13 X14 => ?_)
  refine kIC X14 0 d16_12 (by decide) ?_
  refine kALn X14 d16_13 rfl rfl ?_
  refine kILn X14 d16_14 rfl ?_
  refine kILn X14 d16_15 rfl ?_
  refine kISHL X14 1 d16_16 (by decide) ?_
  refine kALn X14 d16_17 rfl rfl ?_
  refine kGETF X14 (wd G 28 rfl) Via.refl F_q0_value d16_18 (fun T15 X16 => ?_)
  refine kLEN X16 A_q2 d16_21 ?_
  have f17 := (CHr.safe C8 (A_q1.lt) S_q1)
  refine kCPA X16 (wd G 95 rfl) (wd G 98 rfl) (wd G 96 rfl) (wd G 97 rfl) A_q2 A_q1 (Or.inl ⟨rfl, rfl⟩) (us := [.int 46, .int 117, .int 112, .int 112, .int 101, .int 114]) (by decide) rfl (by show 7 ≤ 16; decide) g_q1 f17 hml.symm d16_22 (by decide) 0 (Nat.le_of_eq rfl) (by decide) (fun T18 h19 L21 K22 C23 f24 X20 => ?_)
  have f25 : Arv Z h19 q1 kp0 .byte 16 [.int i0, .int 46, .int 117, .int 112, .int 112, .int 101, .int 114, .int 0, .int 0, .int 0, .int 0, .int 0, .int 0, .int 0, .int 0, .int 0] (.int 0) := f24
  refine kGOTO X20 43 d16_25 (by decide) ?_
  have K26 : Keep h0 h19 [q1] := (Keep.trans (Keep.refl h0 [q1]) K22 (allS (Or.inl (List.mem_of_getElem? (i := 0) rfl)) all0))
  exact kRETV X20 (gEL G) hret d16_43 (fun ve hve => ⟨rfl, K26, f25⟩) (by decide)
def R_rm91 : Room := { frames := 2, cells := 0, slots := 0, locals := 33 }
theorem rm91 (G : Glob Z a0 iCS vSI) (i0 : Int32) (q0 q1 q2 q3 : Addr) (kp0 kp1 : ClassId) (h0 : Heap) (Z0 : n0 ≤ h0.size) (O0 : Old Z n0 h0) (F_q0_coder : Fld Z h0 q0 "java/lang/AbstractStringBuilder" "coder" "B" (.int 0)) (F_q1_coder : Fld Z h0 q1 "java/lang/String" "coder" "B" (.int 0)) (E_q1 : Exa Z h0 q1 "java/lang/String") (E_q0 : Exa Z h0 q0 "java/lang/StringBuilder") (F_q0_value : Fld Z h0 q0 "java/lang/AbstractStringBuilder" "value" "[B" (.ref q2)) (F_q1_value : Fld Z h0 q1 "java/lang/String" "value" "[B" (.ref q3)) (A_q3 : Arv Z h0 q3 kp1 .byte 6 [.int 46, .int 117, .int 112, .int 112, .int 101, .int 114] (.int 0)) (A_q2 : Arv Z h0 q2 kp0 .byte 16 [.int i0, .int 0, .int 0, .int 0, .int 0, .int 0, .int 0, .int 0, .int 0, .int 0, .int 0, .int 0, .int 0, .int 0, .int 0, .int 0] (.int 0)) (g_q2 : n0 ≤ q2) : MetH l Z EL0 n0 N_jdk_68_m_73 jdk_68_method_73_code 3 none [] R_rm91 #[.ref q0, .int 1, .ref q1] h0 [q2] (fun vs v h ve => (v = none ∧ (Keep h0 h [q2]) ∧ (Arv Z h q2 kp0 .byte 16 [.int i0, .int 46, .int 117, .int 112, .int 112, .int 101, .int 114, .int 0, .int 0, .int 0, .int 0, .int 0, .int 0, .int 0, .int 0, .int 0] (.int 0)))) := by
  refine MetH.of #[.val (.ref q0), .val (.int 1), .val (.ref q1)] (plainFor_of_name pn_java_lang_AbstractStringBuilder) rfl Z0 (fun p e s m below meth c T0 hret hml hnm hSL hs0 X0 => ?_)
  have S_q2 := hSL q2 (List.mem_of_getElem? (i := 0) rfl)
  refine kALn X0 d14_0 rfl rfl ?_
  refine kALn X0 d14_1 rfl rfl ?_
  refine kVIRT X0 (gEL G) (argsL := [.ref q1]) (rest := []) (wd G 84 rfl) (own_decl (wd G 85 rfl) (wd G 88 rfl)) (own_nf X0.hZ (own_noface (wd G 77 rfl) rfl)) (wd G 87 rfl) (wd G 85 rfl) (wd G 44 rfl) (wd G 88 rfl) (by decide) E_q0 (rm92 G i0 q0 q1 q2 q3 kp0 kp1 h0 X0.n O0 F_q0_coder F_q1_coder E_q1) all0 (lenOf pd__Ljava_lang_String__V rfl) rfl 0 rfl (by decide) hml.symm d14_2 (fun v1 T2 h3 vm4 _ w5 q6 C7 C8 X9 => ?_)
  obtain ⟨e11, f12⟩ := q6
  subst e11
  subst f12
  show Go _ _ _ _ _ (mkF _ _ _ [])
  refine kALn X9 d14_5 rfl rfl ?_
  refine kALn X9 d14_6 rfl rfl ?_
  refine kGETF X9 (wd G 48 rfl) Via.refl F_q0_value d14_7 (fun T13 X14 => ?_)
  refine kILn X14 d14_10 rfl ?_
  refine kALn X14 d14_11 rfl rfl ?_
  refine kGETF X14 (wd G 50 rfl) Via.refl F_q0_coder d14_12 (fun T15 X16 => ?_)
  have f26 := (CHr.safe C8 (A_q2.lt) S_q2)
  refine kVIRT X16 (gEL G) (argsL := [.ref q2, .int 1, .int 0]) (rest := []) (wd G 90 rfl) (wd G 91 rfl) (own_nf X16.hZ (own_noinst (wd G 2 rfl))) (wd G 93 rfl) (wd G 92 rfl) (wd G 3 rfl) (wd G 94 rfl) (by decide) E_q1 (rm93 G i0 q1 q2 q3 kp0 kp1 h0 X16.n O0 F_q1_coder E_q1 F_q1_value A_q3 A_q2 g_q2) (allS ⟨(A_q2.lt), f26⟩ all0) (lenOf pd___BIB_V rfl) rfl 0 rfl (by decide) hml.symm d14_15 (fun v17 T18 h19 vm20 _ w21 q22 C23 C24 X25 => ?_)
  obtain ⟨e28, f29, f30⟩ := q22
  subst e28
  show Go _ _ _ _ _ (mkF _ _ _ [])
  have K31 : Keep h0 h19 [q2] := (Keep.trans (Keep.refl h0 [q2]) f29 (allS (Or.inl (List.mem_of_getElem? (i := 0) rfl)) all0))
  exact kRETV X25 (gEL G) hret d14_18 (fun ve hve => ⟨rfl, K31, f30⟩) (by decide)
def R_rm90 : Room := { frames := 3, cells := 0, slots := 0, locals := 47 }
theorem rm90 (G : Glob Z a0 iCS vSI) (i0 : Int32) (q0 q1 q2 q3 : Addr) (kp0 kp1 : ClassId) (h0 : Heap) (Z0 : n0 ≤ h0.size) (O0 : Old Z n0 h0) (F_q1_value : Fld Z h0 q1 "java/lang/String" "value" "[B" (.ref q3)) (A_q3 : Arv Z h0 q3 kp1 .byte 6 [.int 46, .int 117, .int 112, .int 112, .int 101, .int 114] (.int 0)) (F_q1_coder : Fld Z h0 q1 "java/lang/String" "coder" "B" (.int 0)) (E_q1 : Exa Z h0 q1 "java/lang/String") (F_q0_count : Fld Z h0 q0 "java/lang/AbstractStringBuilder" "count" "I" (.int 1)) (F_q0_value : Fld Z h0 q0 "java/lang/AbstractStringBuilder" "value" "[B" (.ref q2)) (A_q2 : Arv Z h0 q2 kp0 .byte 16 [.int i0, .int 0, .int 0, .int 0, .int 0, .int 0, .int 0, .int 0, .int 0, .int 0, .int 0, .int 0, .int 0, .int 0, .int 0, .int 0] (.int 0)) (F_q0_coder : Fld Z h0 q0 "java/lang/AbstractStringBuilder" "coder" "B" (.int 0)) (E_q0 : Exa Z h0 q0 "java/lang/StringBuilder") (d_q0_q2 : q0 ≠ q2) (g_q0 : n0 ≤ q0) (g_q2 : n0 ≤ q2) : MetH l Z EL0 n0 N_jdk_68_m_22 jdk_68_method_22_code 3 (some (.object "java/lang/AbstractStringBuilder")) [] R_rm90 #[.ref q0, .ref q1] h0 [q2] (fun vs v h ve => (v = some (.ref q0) ∧ (Keep h0 h [q2, q0]) ∧ (Arv Z h q2 kp0 .byte 16 [.int i0, .int 46, .int 117, .int 112, .int 112, .int 101, .int 114, .int 0, .int 0, .int 0, .int 0, .int 0, .int 0, .int 0, .int 0, .int 0] (.int 0)) ∧ (Fld Z h q0 "java/lang/AbstractStringBuilder" "coder" "B" (.int 0)) ∧ (Fld Z h q0 "java/lang/AbstractStringBuilder" "count" "I" (.int 7)) ∧ (Fld Z h q0 "java/lang/AbstractStringBuilder" "value" "[B" (.ref q2)))) := by
  refine MetH.of #[.val (.ref q0), .val (.ref q1), .unset] (plainFor_of_name pn_java_lang_AbstractStringBuilder) rfl Z0 (fun p e s m below meth c T0 hret hml hnm hSL hs0 X0 => ?_)
  have S_q2 := hSL q2 (List.mem_of_getElem? (i := 0) rfl)
  refine kALn X0 d10_0 rfl rfl ?_
  refine kNNt X0 9 d10_1 (by decide) ?_
  refine kALn X0 d10_9 rfl rfl ?_
  refine kVIRT X0 (gEL G) (argsL := []) (rest := []) (wd G 62 rfl) (wd G 63 rfl) (own_nf X0.hZ (own_noinst (wd G 2 rfl))) (wd G 65 rfl) (wd G 64 rfl) (wd G 3 rfl) (wd G 66 rfl) (by decide) E_q1 (rm39 G q1 q3 kp1 h0 X0.n O0 F_q1_value A_q3 F_q1_coder E_q1) all0 (lenOf pd___I rfl) rfl 0 rfl (by decide) hml.symm d10_10 (fun v1 T2 h3 vm4 _ w5 q6 C7 C8 X9 => ?_)
  obtain ⟨e11, f12⟩ := q6
  subst e11
  subst f12
  show Go _ _ _ _ _ (mkF _ _ _ [.int 6])
  refine kISn X9 #[.val (.ref q0), .val (.ref q1), .val (.int 6)] d10_13 rfl ?_
  refine kALn X9 d10_14 rfl rfl ?_
  refine kALn X9 d10_15 rfl rfl ?_
  refine kGETF X9 (wd G 72 rfl) Via.refl F_q0_count d10_16 (fun T13 X14 => ?_)
  refine kILn X14 d10_19 rfl ?_
  refine kIADD X14 7 d10_20 (by decide) ?_
  refine kVIRT X14 (gEL G) (argsL := [.int 7]) (rest := []) (wd G 74 rfl) (own_decl (wd G 75 rfl) (wd G 78 rfl)) (own_nf X14.hZ (own_noface (wd G 77 rfl) rfl)) (wd G 77 rfl) (wd G 75 rfl) (wd G 44 rfl) (wd G 78 rfl) (by decide) E_q0 (rm71 G i0 q0 q2 kp0 h0 X14.n O0 F_q0_value A_q2 F_q0_coder) all0 (lenOf pd__I_V rfl) rfl 0 rfl (by decide) hml.symm d10_21 (fun v15 T16 h17 vm18 _ w19 q20 C21 C22 X23 => ?_)
  obtain ⟨e25, f26⟩ := q20
  subst e25
  subst f26
  show Go _ _ _ _ _ (mkF _ _ _ [])
  refine kALn X23 d10_24 rfl rfl ?_
  refine kALn X23 d10_25 rfl rfl ?_
  refine kGETF X23 (wd G 72 rfl) Via.refl F_q0_count d10_26 (fun T27 X28 => ?_)
  refine kALn X28 d10_29 rfl rfl ?_
  have f38 := (CHr.safe C22 (A_q2.lt) (CHr.safe C8 (A_q2.lt) S_q2))
  refine kVIRT X28 (gEL G) (argsL := [.int 1, .ref q1]) (rest := []) (wd G 79 rfl) (own_decl (wd G 80 rfl) (wd G 83 rfl)) (own_nf X28.hZ (own_noface (wd G 77 rfl) rfl)) (wd G 82 rfl) (wd G 80 rfl) (wd G 44 rfl) (wd G 83 rfl) (by decide) E_q0 (rm91 G i0 q0 q1 q2 q3 kp0 kp1 h0 X28.n O0 F_q0_coder F_q1_coder E_q1 E_q0 F_q0_value F_q1_value A_q3 A_q2 g_q2) (allS ⟨(A_q2.lt), f38⟩ all0) (lenOf pd__ILjava_lang_String__V rfl) rfl 0 rfl (by decide) hml.symm d10_30 (fun v29 T30 h31 vm32 _ w33 q34 C35 C36 X37 => ?_)
  obtain ⟨e40, f41, f42⟩ := q34
  subst e40
  show Go _ _ _ _ _ (mkF _ _ _ [])
  refine kALn X37 d10_33 rfl rfl ?_
  refine kDUP X37 d10_34 rfl ?_
  have f43 := (Fld.keep F_q0_count f41 (ninS d_q0_q2 nin0))
  refine kGETF X37 (wd G 72 rfl) Via.refl f43 d10_35 (fun T44 X45 => ?_)
  refine kILn X45 d10_38 rfl ?_
  refine kIADD X45 7 d10_39 (by decide) ?_
  have f46 := (Exa.keep E_q0 f41)
  refine kPUTF X45 (wd G 72 rfl) Via.refl f43 f46 (Or.inl (wd G 73 rfl)) (wd G 35 rfl) (ty := .int) (by decide) rfl rfl g_q0 (Safe.exa X45.hZ.alike f46 (by decide) (by decide)) d10_40 (fun T47 h48 L51 W50 X49 => ?_)
  have f52 := Fld.same W50 f43
  refine kALn X49 d10_43 rfl rfl ?_
  have K53 : Keep h0 h48 [q2, q0] := (Keep.wr (Keep.trans (Keep.refl h0 [q2, q0]) f41 (allS (Or.inl (List.mem_of_getElem? (i := 0) rfl)) all0)) W50 (Or.inl (List.mem_of_getElem? (i := 1) rfl)))
  have f54 := (Arv.other f42 W50 (Ne.symm d_q0_q2))
  have f55 := (Fld.other W50 (Fld.keep F_q0_coder f41 (ninS d_q0_q2 nin0)) (Or.inr (slot_ne (Or.inl (wd G 51 rfl)) (Or.inl (wd G 73 rfl)) (by decide) (by decide : parseFieldDescriptor "B" = some .byte) (by decide : parseFieldDescriptor "I" = some .int))))
  have f56 := (Fld.other W50 (Fld.keep F_q0_value f41 (ninS d_q0_q2 nin0)) (Or.inr (slot_ne (Or.inl (wd G 49 rfl)) (Or.inl (wd G 73 rfl)) (by decide) (by decide : parseFieldDescriptor "[B" = some (.array (.byte))) (by decide : parseFieldDescriptor "I" = some .int))))
  exact kRETA X49 (gEL G) hret rfl rfl d10_44 (fun ve hve => ⟨rfl, K53, f54, f55, f52, f56⟩) (by decide)
def R_rm89 : Room := { frames := 4, cells := 0, slots := 0, locals := 61 }
theorem rm89 (G : Glob Z a0 iCS vSI) (i0 : Int32) (q0 q1 q2 q3 : Addr) (kp0 kp1 : ClassId) (h0 : Heap) (Z0 : n0 ≤ h0.size) (O0 : Old Z n0 h0) (F_q1_value : Fld Z h0 q1 "java/lang/String" "value" "[B" (.ref q3)) (A_q3 : Arv Z h0 q3 kp1 .byte 6 [.int 46, .int 117, .int 112, .int 112, .int 101, .int 114] (.int 0)) (F_q1_coder : Fld Z h0 q1 "java/lang/String" "coder" "B" (.int 0)) (E_q1 : Exa Z h0 q1 "java/lang/String") (F_q0_count : Fld Z h0 q0 "java/lang/AbstractStringBuilder" "count" "I" (.int 1)) (F_q0_value : Fld Z h0 q0 "java/lang/AbstractStringBuilder" "value" "[B" (.ref q2)) (A_q2 : Arv Z h0 q2 kp0 .byte 16 [.int i0, .int 0, .int 0, .int 0, .int 0, .int 0, .int 0, .int 0, .int 0, .int 0, .int 0, .int 0, .int 0, .int 0, .int 0, .int 0] (.int 0)) (F_q0_coder : Fld Z h0 q0 "java/lang/AbstractStringBuilder" "coder" "B" (.int 0)) (E_q0 : Exa Z h0 q0 "java/lang/StringBuilder") (d_q0_q2 : q0 ≠ q2) (g_q0 : n0 ≤ q0) (g_q2 : n0 ≤ q2) : MetH l Z EL0 n0 N_jdk_67_m_7 jdk_67_method_7_code 2 (some (.object "java/lang/StringBuilder")) [] R_rm89 #[.ref q0, .ref q1] h0 [q2] (fun vs v h ve => (v = some (.ref q0) ∧ (Keep h0 h [q2, q0]) ∧ (Arv Z h q2 kp0 .byte 16 [.int i0, .int 46, .int 117, .int 112, .int 112, .int 101, .int 114, .int 0, .int 0, .int 0, .int 0, .int 0, .int 0, .int 0, .int 0, .int 0] (.int 0)) ∧ (Fld Z h q0 "java/lang/AbstractStringBuilder" "coder" "B" (.int 0)) ∧ (Fld Z h q0 "java/lang/AbstractStringBuilder" "count" "I" (.int 7)) ∧ (Fld Z h q0 "java/lang/AbstractStringBuilder" "value" "[B" (.ref q2)))) := by
  refine MetH.of #[.val (.ref q0), .val (.ref q1)] (plainFor_of_name pn_java_lang_StringBuilder) rfl Z0 (fun p e s m below meth c T0 hret hml hnm hSL hs0 X0 => ?_)
  have S_q2 := hSL q2 (List.mem_of_getElem? (i := 0) rfl)
  refine kALn X0 d9_0 rfl rfl ?_
  refine kALn X0 d9_1 rfl rfl ?_
  refine kSUP X0 (gEL G) (argsL := [.ref q1]) (rest := []) (wd G 57 rfl) (own_same (wd G 58 rfl) (own_noface (wd G 77 rfl) rfl) (by decide)) (wd G 58 rfl) (wd G 59 rfl) (by decide) (wd G 44 rfl) (wd G 61 rfl) (Ins.of_exa E_q0 (wd G 43 rfl)) (rm90 G i0 q0 q1 q2 q3 kp0 kp1 h0 X0.n O0 F_q1_value A_q3 F_q1_coder E_q1 F_q0_count F_q0_value A_q2 F_q0_coder E_q0 d_q0_q2 g_q0 g_q2) (allS ⟨(A_q2.lt), S_q2⟩ all0) (lenOf pd__Ljava_lang_String__Ljava_lang_AbstractStringBuilder_ rfl) rfl 0 rfl (by decide) hml.symm d9_2 (fun v1 T2 h3 vm4 _ w5 q6 C7 C8 X9 => ?_)
  obtain ⟨e11, f12, f13, f14, f15, f16⟩ := q6
  subst e11
  show Go _ _ _ _ _ (mkF _ _ _ [.ref q0])
  refine kPOP X9 d9_5 rfl ?_
  refine kALn X9 d9_6 rfl rfl ?_
  have K17 : Keep h0 h3 [q2, q0] := (Keep.trans (Keep.refl h0 [q2, q0]) f12 (allS (Or.inl (List.mem_of_getElem? (i := 0) rfl)) (allS (Or.inl (List.mem_of_getElem? (i := 1) rfl)) all0)))
  exact kRETA X9 (gEL G) hret rfl rfl d9_7 (fun ve hve => ⟨rfl, K17, f13, f14, f15, f16⟩) (by decide)
def R_rm97 : Room := { frames := 0, cells := 0, slots := 0, locals := 0 }
theorem rm97 (G : Glob Z a0 iCS vSI) (i0 : Int32) (q0 q1 : Addr) (kp0 : ClassId) (h0 : Heap) (Z0 : n0 ≤ h0.size) (O0 : Old Z n0 h0) (F_q0_value : Fld Z h0 q0 "java/lang/AbstractStringBuilder" "value" "[B" (.ref q1)) : MetH l Z EL0 n0 N_jdk_68_m_64 jdk_68_method_64_code 1 (some (.array (.byte))) [] R_rm97 #[.ref q0] h0 [] (fun vs v h ve => (v = some (.ref q1) ∧ (h0 = h))) := by
  refine MetH.of #[.val (.ref q0)] (plainFor_of_name pn_java_lang_AbstractStringBuilder) rfl Z0 (fun p e s m below meth c T0 hret hml hnm hSL hs0 X0 => ?_)
  refine kALn X0 d20_0 rfl rfl ?_
  refine kGETF X0 (wd G 48 rfl) Via.refl F_q0_value d20_1 (fun T1 X2 => ?_)
  exact kRETA X2 (gEL G) hret rfl rfl d20_4 (fun ve hve => ⟨rfl, rfl⟩) (by decide)
def R_rm99 : Room := { frames := 0, cells := 0, slots := 0, locals := 0 }
theorem rm99 (G : Glob Z a0 iCS vSI) (i0 : Int32) (q0 q1 : Addr) (kp0 : ClassId) (h0 : Heap) (Z0 : n0 ≤ h0.size) (O0 : Old Z n0 h0) (F_q0_count : Fld Z h0 q0 "java/lang/AbstractStringBuilder" "count" "I" (.int 7)) : MetH l Z EL0 n0 N_jdk_68_m_6 jdk_68_method_6_code 1 (some .int) [] R_rm99 #[.ref q0] h0 [] (fun vs v h ve => (v = some (.int 7) ∧ (h0 = h))) := by
  refine MetH.of #[.val (.ref q0)] (plainFor_of_name pn_java_lang_AbstractStringBuilder) rfl Z0 (fun p e s m below meth c T0 hret hml hnm hSL hs0 X0 => ?_)
  refine kALn X0 d22_0 rfl rfl ?_
  refine kGETF X0 (wd G 72 rfl) Via.refl F_q0_count d22_1 (fun T1 X2 => ?_)
  exact kRETI X2 (gEL G) hret d22_4 (fun ve hve => ⟨rfl, rfl⟩) (by decide)
def R_rm98 : Room := { frames := 1, cells := 0, slots := 0, locals := 12 }
theorem rm98 (G : Glob Z a0 iCS vSI) (i0 : Int32) (q0 q1 : Addr) (kp0 : ClassId) (h0 : Heap) (Z0 : n0 ≤ h0.size) (O0 : Old Z n0 h0) (F_q0_count : Fld Z h0 q0 "java/lang/AbstractStringBuilder" "count" "I" (.int 7)) (E_q0 : Exa Z h0 q0 "java/lang/StringBuilder") : MetH l Z EL0 n0 N_jdk_67_m_93 jdk_67_method_93_code 1 (some .int) [] R_rm98 #[.ref q0] h0 [] (fun vs v h ve => (v = some (.int 7) ∧ (h0 = h))) := by
  refine MetH.of #[.val (.ref q0)] (plainFor_of_name pn_java_lang_StringBuilder) rfl Z0 (fun p e s m below meth c T0 hret hml hnm hSL hs0 X0 => ?_)
  refine kALn X0 d21_0 rfl rfl ?_
  refine kSUP X0 (gEL G) (argsL := []) (rest := []) (wd G 125 rfl) (own_same (wd G 121 rfl) (own_noface (wd G 77 rfl) rfl) (by decide)) (wd G 121 rfl) (wd G 59 rfl) (by decide) (wd G 44 rfl) (wd G 126 rfl) (Ins.of_exa E_q0 (wd G 43 rfl)) (rm99 G i0 q0 q1 kp0 h0 X0.n O0 F_q0_count) all0 (lenOf pd___I rfl) rfl 0 rfl (by decide) hml.symm d21_1 (fun v1 T2 h3 vm4 _ w5 q6 C7 C8 X9 => ?_)
  obtain ⟨e11, f12⟩ := q6
  subst e11
  subst f12
  show Go _ _ _ _ _ (mkF _ _ _ [.int 7])
  exact kRETI X9 (gEL G) hret d21_4 (fun ve hve => ⟨rfl, rfl⟩) (by decide)
def R_rm100 : Room := { frames := 0, cells := 0, slots := 0, locals := 0 }
theorem rm100 (G : Glob Z a0 iCS vSI) (i0 : Int32) (q0 q1 : Addr) (kp0 : ClassId) (h0 : Heap) (Z0 : n0 ≤ h0.size) (O0 : Old Z n0 h0) (F_q0_coder : Fld Z h0 q0 "java/lang/AbstractStringBuilder" "coder" "B" (.int 0)) : MetH l Z EL0 n0 N_jdk_68_m_68 jdk_68_method_68_code 1 (some .boolean) [] R_rm100 #[.ref q0] h0 [] (fun vs v h ve => (v = some (.int 1) ∧ (h0 = h))) := by
  refine MetH.of #[.val (.ref q0)] (plainFor_of_name pn_java_lang_AbstractStringBuilder) rfl Z0 (fun p e s m below meth c T0 hret hml hnm hSL hs0 X0 => ?_)
  refine kGETS X0 (wd G 47 rfl) Via.refl (Sta.ext O0.2 (S_CS G)) d23_0 (fun T1 X2 => ?_)
  refine kIFf X2 d23_3 (XT.i0_eq_f (n_CS G)) ?_
  refine kALn X2 d23_6 rfl rfl ?_
  refine kGETF X2 (wd G 50 rfl) Via.refl F_q0_coder d23_7 (fun T3 X4 => ?_)
  refine kIFf X4 d23_10 (XT.i0_ne_f (by decide)) ?_
  refine kIC X4 1 d23_13 (by decide) ?_
  refine kGOTO X4 18 d23_14 (by decide) ?_
  exact kRETZ X4 (gEL G) (t := .boolean) hret (by simp) d23_18 (fun ve hve => ⟨rfl, rfl⟩) (by decide)
def R_rm102 : Room := { frames := 1, cells := 1, slots := 7, locals := 18 }
theorem rm102 (G : Glob Z a0 iCS vSI) (i0 : Int32) (q0 : Addr) (kp0 : ClassId) (h0 : Heap) (Z0 : n0 ≤ h0.size) (O0 : Old Z n0 h0) (A_q0 : Arv Z h0 q0 kp0 .byte 16 [.int i0, .int 46, .int 117, .int 112, .int 112, .int 101, .int 114, .int 0, .int 0, .int 0, .int 0, .int 0, .int 0, .int 0, .int 0, .int 0] (.int 0)) : MetH l Z EL0 n0 N_jdk_65_m_133 jdk_65_method_133_code 5 (some (.array (.byte))) [] R_rm102 #[.ref q0, .int 0, .int 7] h0 [] (fun vs v h ve => (∃ (x0 : Addr), ∃ (z0 : ClassId), v = some (.ref x0) ∧ (Keep h0 h []) ∧ (h0.size ≤ x0) ∧ (Arv Z h x0 z0 .byte 7 [.int i0, .int 46, .int 117, .int 112, .int 112, .int 101, .int 114] (.int 0)) ∧ (Safe Z EL0 ve h x0))) := by
  refine MetH.of #[.val (.ref q0), .val (.int 0), .val (.int 7), .unset, .unset] (plainFor_of_name pn_java_util_Arrays) rfl Z0 (fun p e s m below meth c T0 hret hml hnm hSL hs0 X0 => ?_)
  refine kILn X0 d25_0 rfl ?_
  refine kILn X0 d25_1 rfl ?_
  refine kSTAT X0 (gEL G) (argsL := [.int 0, .int 7]) (rest := []) (wd G 139 rfl) (wd G 140 rfl) (wd G 134 rfl) (wd G 141 rfl) (by decide) (rm84 G  h0 X0.n O0 ) all0 (lenOf pd__II_V rfl) rfl 0 rfl (by decide) hml.symm d25_2 (fun v1 T2 h3 vm4 _ w5 q6 C7 C8 X9 => ?_)
  obtain ⟨e11, f12⟩ := q6
  subst e11
  subst f12
  show Go _ _ _ _ _ (mkF _ _ _ [])
  refine kILn X9 d25_5 rfl ?_
  refine kILn X9 d25_6 rfl ?_
  refine kISUB X9 7 d25_7 (by decide) ?_
  refine kISn X9 #[.val (.ref q0), .val (.int 0), .val (.int 7), .val (.int 7), .unset] d25_8 rfl ?_
  refine kILn X9 d25_9 rfl ?_
  refine kNEWP X9 (wd G 19 rfl) (cap := 7) d25_10 (by decide) (by decide) (by decide) (by decide) (by decide) (fun T13 h14 a16 k17 E18 q19 g20 A21 s22 X15 => ?_)
  have n23 : q0 ≠ a16 := Nat.ne_of_lt (Nat.lt_of_lt_of_le (A_q0.lt) (Nat.le_of_eq q19.symm))
  have g24 : h0.size ≤ a16 := q19 ▸ X9.g0
  have f25 : Arv Z h14 a16 k17 .byte 7 [.int 0, .int 0, .int 0, .int 0, .int 0, .int 0, .int 0] (.int 0) := A21.pad (pad_rep [] _ 7)
  refine kAS X15 #[.val (.ref q0), .val (.int 0), .val (.int 7), .val (.int 7), .val (.ref a16)] d25_12 rfl rfl ?_
  refine kALn X15 d25_14 rfl rfl ?_
  refine kILn X15 d25_15 rfl ?_
  refine kAL X15 d25_16 rfl rfl ?_
  refine kIC X15 0 d25_18 (by decide) ?_
  refine kALn X15 d25_19 rfl rfl ?_
  have f26 := (Arv.ext A_q0 E18)
  refine kLEN X15 f26 d25_20 ?_
  refine kILn X15 d25_21 rfl ?_
  refine kISUB X15 16 d25_22 (by decide) ?_
  refine kILn X15 d25_23 rfl ?_
  have f27 := (Old.ext O0 E18)
  refine kSTAT X15 (gEL G) (argsL := [.int 16, .int 7]) (rest := [.int 0, .ref a16, .int 0, .ref q0]) (wd G 142 rfl) (wd G 143 rfl) (wd G 144 rfl) (wd G 145 rfl) (by decide) (rm85 G  h14 X15.n f27 ) all0 (lenOf pd__II_I rfl) rfl 4 rfl (by decide) hml.symm d25_24 (fun v28 T29 h30 vm31 _ w32 q33 C34 C35 X36 => ?_)
  obtain ⟨e38, f39⟩ := q33
  subst e38
  subst f39
  show Go _ _ _ _ _ (mkF _ _ _ [.int 7, .int 0, .ref a16, .int 0, .ref q0])
  have f40 := (CHr.safe C35 (f25.lt) s22)
  refine kCPA X36 (wd G 146 rfl) (wd G 98 rfl) (wd G 96 rfl) (wd G 97 rfl) f26 f25 (Or.inl ⟨rfl, rfl⟩) (us := [.int i0, .int 46, .int 117, .int 112, .int 112, .int 101, .int 114]) (by decide) rfl (by show 7 ≤ 7; decide) g20 f40 hml.symm d25_27 (by decide) 0 (Nat.le_of_eq rfl) (by decide) (fun T41 h42 L44 K45 C46 f47 X43 => ?_)
  have f48 : Arv Z h42 a16 k17 .byte 7 [.int i0, .int 46, .int 117, .int 112, .int 112, .int 101, .int 114] (.int 0) := f47
  refine kAL X43 d25_30 rfl rfl ?_
  have K49 : Keep h0 h42 [] := (Keep.trans (Keep.ext (Keep.refl h0 []) E18) K45 (allS (Or.inr g24) all0))
  have f50 := (CHr.safe C46 (f25.lt) f40)
  exact kRETA X43 (gEL G) hret rfl rfl d25_32 (fun ve hve => ⟨a16, k17, rfl, K49, g24, f48, (CHr.safe hve (f48.lt) f50)⟩) (by decide)
def R_rm101 : Room := { frames := 2, cells := 1, slots := 7, locals := 34 }
theorem rm101 (G : Glob Z a0 iCS vSI) (i0 : Int32) (q0 : Addr) (kp0 : ClassId) (h0 : Heap) (Z0 : n0 ≤ h0.size) (O0 : Old Z n0 h0) (A_q0 : Arv Z h0 q0 kp0 .byte 16 [.int i0, .int 46, .int 117, .int 112, .int 112, .int 101, .int 114, .int 0, .int 0, .int 0, .int 0, .int 0, .int 0, .int 0, .int 0, .int 0] (.int 0)) : MetH l Z EL0 n0 N_jdk_65_m_132 jdk_65_method_132_code 3 (some (.array (.byte))) [] R_rm101 #[.ref q0, .int 0, .int 7] h0 [] (fun vs v h ve => (∃ (x0 : Addr), ∃ (z0 : ClassId), v = some (.ref x0) ∧ (Keep h0 h []) ∧ (h0.size ≤ x0) ∧ (Arv Z h x0 z0 .byte 7 [.int i0, .int 46, .int 117, .int 112, .int 112, .int 101, .int 114] (.int 0)) ∧ (Safe Z EL0 ve h x0))) := by
  refine MetH.of #[.val (.ref q0), .val (.int 0), .val (.int 7)] (plainFor_of_name pn_java_util_Arrays) rfl Z0 (fun p e s m below meth c T0 hret hml hnm hSL hs0 X0 => ?_)
  refine kILn X0 d24_0 rfl ?_
  refine kIFf X0 d24_1 (XT.i0_ne_f (by decide)) ?_
  refine kILn X0 d24_4 rfl ?_
  refine kALn X0 d24_5 rfl rfl ?_
  refine kLEN X0 A_q0 d24_6 ?_
  refine kICf X0 d24_7 (XT.ii_eq_f (by decide)) ?_
  refine kALn X0 d24_10 rfl rfl ?_
  refine kILn X0 d24_11 rfl ?_
  refine kILn X0 d24_12 rfl ?_
  refine kSTAT X0 (gEL G) (argsL := [.ref q0, .int 0, .int 7]) (rest := []) (wd G 136 rfl) (wd G 137 rfl) (wd G 134 rfl) (wd G 138 rfl) (by decide) (rm102 G i0 q0 kp0 h0 X0.n O0 A_q0) all0 (lenOf pd___BII__B rfl) rfl 0 rfl (by decide) hml.symm d24_13 (fun v1 T2 h3 vm4 _ w5 q6 C7 C8 X9 => ?_)
  obtain ⟨a11, k12, e13, f14, f15, f16, f17⟩ := q6
  subst e13
  have n18 : q0 ≠ a11 := Nat.ne_of_lt (Nat.lt_of_lt_of_le (A_q0.lt) f15)
  have g19 : n0 ≤ a11 := Nat.le_trans X0.n f15
  have g20 : h0.size ≤ a11 := Nat.le_trans X0.g0 f15
  show Go _ _ _ _ _ (mkF _ _ _ [.ref a11])
  have K21 : Keep h0 h3 [] := (Keep.trans (Keep.refl h0 []) f14 all0)
  exact kRETA X9 (gEL G) hret rfl rfl d24_16 (fun ve hve => ⟨a11, k12, rfl, K21, g20, f16, (CHr.safe hve (f16.lt) f17)⟩) (by decide)
def R_rm96 : Room := { frames := 3, cells := 1, slots := 7, locals := 49 }
theorem rm96 (G : Glob Z a0 iCS vSI) (i0 : Int32) (q0 q1 q2 : Addr) (kp0 : ClassId) (h0 : Heap) (Z0 : n0 ≤ h0.size) (O0 : Old Z n0 h0) (F_q1_value : Fld Z h0 q1 "java/lang/AbstractStringBuilder" "value" "[B" (.ref q2)) (E_q1 : Exa Z h0 q1 "java/lang/StringBuilder") (F_q1_count : Fld Z h0 q1 "java/lang/AbstractStringBuilder" "count" "I" (.int 7)) (F_q1_coder : Fld Z h0 q1 "java/lang/AbstractStringBuilder" "coder" "B" (.int 0)) (F_q0_coder : Fld Z h0 q0 "java/lang/String" "coder" "B" (.int 0)) (E_q0 : Exa Z h0 q0 "java/lang/String") (F_q0_value : Fld Z h0 q0 "java/lang/String" "value" "[B" (.null)) (A_q2 : Arv Z h0 q2 kp0 .byte 16 [.int i0, .int 46, .int 117, .int 112, .int 112, .int 101, .int 114, .int 0, .int 0, .int 0, .int 0, .int 0, .int 0, .int 0, .int 0, .int 0] (.int 0)) (d_q2_q0 : q2 ≠ q0) (g_q0 : n0 ≤ q0) : MetH l Z EL0 n0 N_jdk_42_m_150 jdk_42_method_150_code 5 none [] R_rm96 #[.ref q0, .ref q1, .null] h0 [q0] (fun vs v h ve => (∃ (x0 : Addr), ∃ (z0 : ClassId), v = none ∧ (Keep h0 h [q0]) ∧ (h0.size ≤ x0) ∧ (Arv Z h x0 z0 .byte 7 [.int i0, .int 46, .int 117, .int 112, .int 112, .int 101, .int 114] (.int 0)) ∧ (Safe Z EL0 ve h x0) ∧ (Fld Z h q0 "java/lang/String" "coder" "B" (.int 0)) ∧ (Fld Z h q0 "java/lang/String" "value" "[B" (.ref x0)))) := by
  refine MetH.of #[.val (.ref q0), .val (.ref q1), .val .null, .unset, .unset] (plainFor_of_name pn_java_lang_String) rfl Z0 (fun p e s m below meth c T0 hret hml hnm hSL hs0 X0 => ?_)
  have S_q0 := hSL q0 (List.mem_of_getElem? (i := 0) rfl)
  refine kALn X0 d19_0 rfl rfl ?_
  refine kINIT X0 (wd G 11 rfl) (wd G 12 rfl) (wd G 13 rfl) hml.symm d19_1 (by decide) 0 (Nat.le_of_eq rfl) (by decide) (fun T1 X2 => ?_)
  refine kALn X2 d19_4 rfl rfl ?_
  refine kVIRT X2 (gEL G) (argsL := []) (rest := []) (wd G 114 rfl) (wd G 115 rfl) (own_nf X2.hZ (own_noface (wd G 77 rfl) rfl)) (wd G 117 rfl) (wd G 116 rfl) (wd G 44 rfl) (wd G 118 rfl) (by decide) E_q1 (rm97 G i0 q1 q2 kp0 h0 X2.n O0 F_q1_value) all0 (lenOf pd____B rfl) rfl 0 rfl (by decide) hml.symm d19_5 (fun v3 T4 h5 vm6 _ w7 q8 C9 C10 X11 => ?_)
  obtain ⟨e13, f14⟩ := q8
  subst e13
  subst f14
  show Go _ _ _ _ _ (mkF _ _ _ [.ref q2])
  refine kASn X11 #[.val (.ref q0), .val (.ref q1), .val .null, .val (.ref q2), .unset] d19_8 rfl rfl ?_
  refine kALn X11 d19_9 rfl rfl ?_
  refine kVIRT X11 (gEL G) (argsL := []) (rest := []) (wd G 119 rfl) (wd G 120 rfl) (own_nf X11.hZ (own_noface (wd G 77 rfl) rfl)) (wd G 122 rfl) (wd G 123 rfl) (wd G 36 rfl) (wd G 124 rfl) (by decide) E_q1 (rm98 G i0 q1 q2 kp0 h0 X11.n O0 F_q1_count E_q1) all0 (lenOf pd___I rfl) rfl 0 rfl (by decide) hml.symm d19_10 (fun v15 T16 h17 vm18 _ w19 q20 C21 C22 X23 => ?_)
  obtain ⟨e25, f26⟩ := q20
  subst e25
  subst f26
  show Go _ _ _ _ _ (mkF _ _ _ [.int 7])
  refine kIS X23 #[.val (.ref q0), .val (.ref q1), .val .null, .val (.ref q2), .val (.int 7)] d19_13 rfl ?_
  refine kALn X23 d19_15 rfl rfl ?_
  refine kVIRT X23 (gEL G) (argsL := []) (rest := []) (wd G 127 rfl) (wd G 128 rfl) (own_nf X23.hZ (own_noface (wd G 77 rfl) rfl)) (wd G 130 rfl) (wd G 129 rfl) (wd G 44 rfl) (wd G 131 rfl) (by decide) E_q1 (rm100 G i0 q1 q2 kp0 h0 X23.n O0 F_q1_coder) all0 (lenOf pd___Z rfl) rfl 0 rfl (by decide) hml.symm d19_16 (fun v27 T28 h29 vm30 _ w31 q32 C33 C34 X35 => ?_)
  obtain ⟨e37, f38⟩ := q32
  subst e37
  subst f38
  show Go _ _ _ _ _ (mkF _ _ _ [.int 1])
  refine kIFf X35 d19_19 (XT.i0_eq_f (by decide)) ?_
  refine kALn X35 d19_22 rfl rfl ?_
  refine kIC X35 0 d19_23 (by decide) ?_
  have f39 := (CHr.safe C34 (F_q0_value.lt) (CHr.safe C22 (F_q0_value.lt) (CHr.safe C10 (F_q0_value.lt) S_q0)))
  refine kPUTF X35 (wd G 26 rfl) Via.refl F_q0_coder E_q0 (Or.inr ⟨(wd G 27 rfl), rfl, hnm⟩) (wd G 2 rfl) (ty := .byte) (by decide) (by decide) (by decide) g_q0 f39 d19_24 (fun T40 h41 L44 W43 X42 => ?_)
  have f45 := Fld.same W43 F_q0_coder
  refine kALn X42 d19_27 rfl rfl ?_
  refine kALn X42 d19_28 rfl rfl ?_
  refine kIC X42 0 d19_29 (by decide) ?_
  refine kIL X42 d19_30 rfl ?_
  have f46 := (Arv.other A_q2 W43 d_q2_q0)
  have f47 := (Old.wr O0 W43 g_q0)
  refine kSTAT X42 (gEL G) (argsL := [.ref q2, .int 0, .int 7]) (rest := [.ref q0]) (wd G 132 rfl) (wd G 133 rfl) (wd G 134 rfl) (wd G 135 rfl) (by decide) (rm101 G i0 q2 kp0 h41 X42.n f47 f46) all0 (lenOf pd___BII__B rfl) rfl 1 rfl (by decide) hml.symm d19_32 (fun v48 T49 h50 vm51 _ w52 q53 C54 C55 X56 => ?_)
  obtain ⟨a58, k59, e60, f61, f62, f63, f64⟩ := q53
  subst e60
  have n65 : q0 ≠ a58 := Nat.ne_of_lt (Nat.lt_of_lt_of_le (f45.lt) f62)
  have f67 := (Exa.wr W43 E_q1)
  have n66 : q1 ≠ a58 := Nat.ne_of_lt (Nat.lt_of_lt_of_le (f67.lt) f62)
  have n68 : q2 ≠ a58 := Nat.ne_of_lt (Nat.lt_of_lt_of_le (f46.lt) f62)
  have g69 : n0 ≤ a58 := Nat.le_trans X42.n f62
  have g70 : h0.size ≤ a58 := Nat.le_trans X42.g0 f62
  show Go _ _ _ _ _ (mkF _ _ _ [.ref a58, .ref q0])
  have f71 := (Fld.keep (Fld.other W43 F_q0_value (Or.inr (slot_ne (Or.inr (wd G 29 rfl)) (Or.inr (wd G 27 rfl)) (by decide) (by decide : parseFieldDescriptor "[B" = some (.array (.byte))) (by decide : parseFieldDescriptor "B" = some .byte)))) f61 nin0)
  have f72 := (Exa.keep (Exa.wr W43 E_q0) f61)
  have f73 := (CHr.safe C55 (f45.lt) (Safe.wr W43 f39 X35.C.1 f39))
  refine kPUTF X56 (wd G 28 rfl) Via.refl f71 f72 (Or.inr ⟨(wd G 29 rfl), rfl, hnm⟩) (wd G 2 rfl) (ty := (.array (.byte))) (by decide) rfl rfl g_q0 f73 d19_35 (fun T74 h75 L78 W77 X76 => ?_)
  have f79 := Fld.same W77 f71
  refine kGOTO X76 97 d19_38 (by decide) ?_
  have K80 : Keep h0 h75 [q0] := (Keep.wr (Keep.trans (Keep.wr (Keep.refl h0 [q0]) W43 (Or.inl (List.mem_of_getElem? (i := 0) rfl))) f61 all0) W77 (Or.inl (List.mem_of_getElem? (i := 0) rfl)))
  have f81 := (Arv.other f63 W77 (Ne.symm n65))
  have f82 := (Safe.wr W77 f73 X56.C.1 f64)
  have f83 := (Fld.other W77 (Fld.keep f45 f61 nin0) (Or.inr (slot_ne (Or.inr (wd G 27 rfl)) (Or.inr (wd G 29 rfl)) (by decide) (by decide : parseFieldDescriptor "B" = some .byte) (by decide : parseFieldDescriptor "[B" = some (.array (.byte))))))
  exact kRETV X76 (gEL G) hret d19_97 (fun ve hve => ⟨a58, k59, rfl, K80, g70, f81, (CHr.safe hve (f81.lt) f82), f83, f79⟩) (by decide)
def R_rm95 : Room := { frames := 4, cells := 1, slots := 7, locals := 65 }
theorem rm95 (G : Glob Z a0 iCS vSI) (i0 : Int32) (q0 q1 q2 : Addr) (kp0 : ClassId) (h0 : Heap) (Z0 : n0 ≤ h0.size) (O0 : Old Z n0 h0) (F_q1_value : Fld Z h0 q1 "java/lang/AbstractStringBuilder" "value" "[B" (.ref q2)) (E_q1 : Exa Z h0 q1 "java/lang/StringBuilder") (F_q1_count : Fld Z h0 q1 "java/lang/AbstractStringBuilder" "count" "I" (.int 7)) (F_q1_coder : Fld Z h0 q1 "java/lang/AbstractStringBuilder" "coder" "B" (.int 0)) (F_q0_coder : Fld Z h0 q0 "java/lang/String" "coder" "B" (.int 0)) (E_q0 : Exa Z h0 q0 "java/lang/String") (F_q0_value : Fld Z h0 q0 "java/lang/String" "value" "[B" (.null)) (A_q2 : Arv Z h0 q2 kp0 .byte 16 [.int i0, .int 46, .int 117, .int 112, .int 112, .int 101, .int 114, .int 0, .int 0, .int 0, .int 0, .int 0, .int 0, .int 0, .int 0, .int 0] (.int 0)) (d_q2_q0 : q2 ≠ q0) (g_q0 : n0 ≤ q0) : MetH l Z EL0 n0 N_jdk_42_m_53 jdk_42_method_53_code 2 none [] R_rm95 #[.ref q0, .ref q1] h0 [q0] (fun vs v h ve => (∃ (x0 : Addr), ∃ (z0 : ClassId), v = none ∧ (Keep h0 h [q0]) ∧ (h0.size ≤ x0) ∧ (Arv Z h x0 z0 .byte 7 [.int i0, .int 46, .int 117, .int 112, .int 112, .int 101, .int 114] (.int 0)) ∧ (Safe Z EL0 ve h x0) ∧ (Fld Z h q0 "java/lang/String" "coder" "B" (.int 0)) ∧ (Fld Z h q0 "java/lang/String" "value" "[B" (.ref x0)))) := by
  refine MetH.of #[.val (.ref q0), .val (.ref q1)] (plainFor_of_name pn_java_lang_String) rfl Z0 (fun p e s m below meth c T0 hret hml hnm hSL hs0 X0 => ?_)
  have S_q0 := hSL q0 (List.mem_of_getElem? (i := 0) rfl)
  refine kALn X0 d18_0 rfl rfl ?_
  refine kALn X0 d18_1 rfl rfl ?_
  refine kNULL X0 d18_2 ?_
  refine kSPEC X0 (gEL G) (argsL := [.ref q1, .null]) (rest := []) (wd G 111 rfl) (wd G 112 rfl) (wd G 3 rfl) (wd G 113 rfl) rfl (by decide) (rm96 G i0 q0 q1 q2 kp0 h0 X0.n O0 F_q1_value E_q1 F_q1_count F_q1_coder F_q0_coder E_q0 F_q0_value A_q2 d_q2_q0 g_q0) (allS ⟨(E_q0.lt), S_q0⟩ all0) (lenOf pd__Ljava_lang_AbstractStringBuilder_Ljava_lang_Void__V rfl) rfl 0 rfl (by decide) hml.symm d18_3 (fun v1 T2 h3 vm4 _ w5 q6 C7 C8 X9 => ?_)
  obtain ⟨a11, k12, e13, f14, f15, f16, f17, f18, f19⟩ := q6
  subst e13
  have n20 : q0 ≠ a11 := Nat.ne_of_lt (Nat.lt_of_lt_of_le (E_q0.lt) f15)
  have n21 : q1 ≠ a11 := Nat.ne_of_lt (Nat.lt_of_lt_of_le (E_q1.lt) f15)
  have n22 : q2 ≠ a11 := Nat.ne_of_lt (Nat.lt_of_lt_of_le (A_q2.lt) f15)
  have g23 : n0 ≤ a11 := Nat.le_trans X0.n f15
  have g24 : h0.size ≤ a11 := Nat.le_trans X0.g0 f15
  show Go _ _ _ _ _ (mkF _ _ _ [])
  have K25 : Keep h0 h3 [q0] := (Keep.trans (Keep.refl h0 [q0]) f14 (allS (Or.inl (List.mem_of_getElem? (i := 0) rfl)) all0))
  exact kRETV X9 (gEL G) hret d18_6 (fun ve hve => ⟨a11, k12, rfl, K25, g24, f16, (CHr.safe hve (f16.lt) f17), f18, f19⟩) (by decide)
def R_rm94 : Room := { frames := 5, cells := 2, slots := 11, locals := 79 }
theorem rm94 (G : Glob Z a0 iCS vSI) (i0 : Int32) (q0 q1 : Addr) (kp0 : ClassId) (h0 : Heap) (Z0 : n0 ≤ h0.size) (O0 : Old Z n0 h0) (E_q0 : Exa Z h0 q0 "java/lang/StringBuilder") (A_q1 : Arv Z h0 q1 kp0 .byte 16 [.int i0, .int 46, .int 117, .int 112, .int 112, .int 101, .int 114, .int 0, .int 0, .int 0, .int 0, .int 0, .int 0, .int 0, .int 0, .int 0] (.int 0)) (F_q0_value : Fld Z h0 q0 "java/lang/AbstractStringBuilder" "value" "[B" (.ref q1)) (F_q0_count : Fld Z h0 q0 "java/lang/AbstractStringBuilder" "count" "I" (.int 7)) (F_q0_coder : Fld Z h0 q0 "java/lang/AbstractStringBuilder" "coder" "B" (.int 0)) : MetH l Z EL0 n0 N_jdk_67_m_42 jdk_67_method_42_code 1 (some (.object "java/lang/String")) [] R_rm94 #[.ref q0] h0 [] (fun vs v h ve => (∃ (x0 : Addr), ∃ (x1 : Addr), ∃ (z0 : ClassId), v = some (.ref x0) ∧ (Keep h0 h []) ∧ (h0.size ≤ x0) ∧ (h0.size ≤ x1) ∧ (x0 ≠ x1) ∧ (Exa Z h x0 "java/lang/String") ∧ (Fld Z h x0 "java/lang/String" "coder" "B" (.int 0)) ∧ (Fld Z h x0 "java/lang/String" "value" "[B" (.ref x1)) ∧ (Safe Z EL0 ve h x0) ∧ (Arv Z h x1 z0 .byte 7 [.int i0, .int 46, .int 117, .int 112, .int 112, .int 101, .int 114] (.int 0)) ∧ (Safe Z EL0 ve h x1))) := by
  refine MetH.of #[.val (.ref q0)] (plainFor_of_name pn_java_lang_StringBuilder) rfl Z0 (fun p e s m below meth c T0 hret hml hnm hSL hs0 X0 => ?_)
  refine kNEW X0 (wd G 107 rfl) (wd G 2 rfl) (wd G 3 rfl) d17_0 (by decide) (by decide) (fun T1 h2 a4 E5 q6 g7 A8 D9 s10 X3 => ?_)
  have n11 : q0 ≠ a4 := Nat.ne_of_lt (Nat.lt_of_lt_of_le (E_q0.lt) (Nat.le_of_eq q6.symm))
  have n12 : q1 ≠ a4 := Nat.ne_of_lt (Nat.lt_of_lt_of_le (A_q1.lt) (Nat.le_of_eq q6.symm))
  have g13 : h0.size ≤ a4 := q6 ▸ X0.g0
  have f14 : Fld Z h2 a4 "java/lang/String" "coder" "B" (.int 0) := D9 (Or.inr (wd G 27 rfl)) (ty := .byte) (by decide)
  have f15 : Fld Z h2 a4 "java/lang/String" "value" "[B" (.null) := D9 (Or.inr (wd G 29 rfl)) (ty := (.array (.byte))) (by decide)
  refine kDUP X3 d17_3 rfl ?_
  refine kALn X3 d17_4 rfl rfl ?_
  have f16 := (Fld.ext E5 F_q0_value)
  have f17 := (Exa.ext E5 E_q0)
  have f18 := (Fld.ext E5 F_q0_count)
  have f19 := (Fld.ext E5 F_q0_coder)
  have f20 := (Arv.ext A_q1 E5)
  have f21 := (Old.ext O0 E5)
  refine kSPEC X3 (gEL G) (argsL := [.ref q0]) (rest := [.ref a4]) (wd G 108 rfl) (wd G 109 rfl) (wd G 3 rfl) (wd G 110 rfl) rfl (by decide) (rm95 G i0 a4 q0 q1 kp0 h2 X3.n f21 f16 f17 f18 f19 f14 A8 f15 f20 n12 g7) (allS ⟨(A8.lt), s10⟩ all0) (lenOf pd__Ljava_lang_StringBuilder__V rfl) rfl 1 rfl (by decide) hml.symm d17_5 (fun v22 T23 h24 vm25 _ w26 q27 C28 C29 X30 => ?_)
  obtain ⟨a32, k33, e34, f35, f36, f37, f38, f39, f40⟩ := q27
  subst e34
  have n41 : q0 ≠ a32 := Nat.ne_of_lt (Nat.lt_of_lt_of_le (f17.lt) f36)
  have n42 : q1 ≠ a32 := Nat.ne_of_lt (Nat.lt_of_lt_of_le (f20.lt) f36)
  have n43 : a4 ≠ a32 := Nat.ne_of_lt (Nat.lt_of_lt_of_le (A8.lt) f36)
  have g44 : n0 ≤ a32 := Nat.le_trans X3.n f36
  have g45 : h0.size ≤ a32 := Nat.le_trans X3.g0 f36
  show Go _ _ _ _ _ (mkF _ _ _ [.ref a4])
  have K46 : Keep h0 h24 [] := (Keep.trans (Keep.ext (Keep.refl h0 []) E5) f35 (allS (Or.inr g13) all0))
  have f47 := (Exa.keep A8 f35)
  have f48 := (CHr.safe C29 (f14.lt) s10)
  exact kRETA X30 (gEL G) hret rfl rfl d17_8 (fun ve hve => ⟨a4, a32, k33, rfl, K46, g13, g45, n43, f47, f39, f40, (CHr.safe hve (f47.lt) f48), f37, (CHr.safe hve (f37.lt) f38)⟩) (by decide)
def R_rm88 : Room := { frames := 6, cells := 6, slots := 59, locals := 91 }
theorem rm88 (G : Glob Z a0 iCS vSI) (i0 : Int32) (q0 q1 : Addr) (kp0 : ClassId) (h0 : Heap) (Z0 : n0 ≤ h0.size) (O0 : Old Z n0 h0) (E_q0 : Exa Z h0 q0 "java/lang/String") (A_q1 : Arv Z h0 q1 kp0 .byte 1 [.int i0] (.int 0)) (F_q0_value : Fld Z h0 q0 "java/lang/String" "value" "[B" (.ref q1)) (F_q0_coder : Fld Z h0 q0 "java/lang/String" "coder" "B" (.int 0)) : MetH l Z EL0 n0 N_prog_3_m_8 prog_3_method_8_code 2 (some (.object "java/lang/String")) [] R_rm88 #[.ref q0, .int 1] h0 [q0, q1] (fun vs v h ve => (∃ (x0 : Addr), ∃ (x1 : Addr), ∃ (z0 : ClassId), v = some (.ref x0) ∧ (Keep h0 h []) ∧ (h0.size ≤ x0) ∧ (h0.size ≤ x1) ∧ (x0 ≠ x1) ∧ (Exa Z h x0 "java/lang/String") ∧ (Fld Z h x0 "java/lang/String" "coder" "B" (.int 0)) ∧ (Fld Z h x0 "java/lang/String" "value" "[B" (.ref x1)) ∧ (Safe Z EL0 ve h x0) ∧ (Arv Z h x1 z0 .byte 7 [.int i0, .int 46, .int 117, .int 112, .int 112, .int 101, .int 114] (.int 0)) ∧ (Safe Z EL0 ve h x1))) := by
  refine MetH.of #[.val (.ref q0), .val (.int 1)] (plainFor_of_name pn_com_example_tight_calculus_tightcalculus_Component) rfl Z0 (fun p e s m below meth c T0 hret hml hnm hSL hs0 X0 => ?_)
  have S_q0 := hSL q0 (List.mem_of_getElem? (i := 0) rfl)
  have S_q1 := hSL q1 (List.mem_of_getElem? (i := 1) rfl)
  refine kNEW X0 (wd G 34 rfl) (wd G 35 rfl) (wd G 36 rfl) d6_0 (by decide) (by decide) (fun T1 h2 a4 E5 q6 g7 A8 D9 s10 X3 => ?_)
  have n11 : q0 ≠ a4 := Nat.ne_of_lt (Nat.lt_of_lt_of_le (E_q0.lt) (Nat.le_of_eq q6.symm))
  have n12 : q1 ≠ a4 := Nat.ne_of_lt (Nat.lt_of_lt_of_le (A_q1.lt) (Nat.le_of_eq q6.symm))
  have g13 : h0.size ≤ a4 := q6 ▸ X0.g0
  have f14 : Fld Z h2 a4 "java/lang/AbstractStringBuilder" "value" "[B" (.null) := D9 (Or.inl (wd G 49 rfl)) (ty := (.array (.byte))) (by decide)
  have f15 : Fld Z h2 a4 "java/lang/AbstractStringBuilder" "coder" "B" (.int 0) := D9 (Or.inl (wd G 51 rfl)) (ty := .byte) (by decide)
  have f16 : Fld Z h2 a4 "java/lang/AbstractStringBuilder" "count" "I" (.int 0) := D9 (Or.inl (wd G 73 rfl)) (ty := .int) (by decide)
  refine kDUP X3 d6_3 rfl ?_
  have f17 := (Old.ext O0 E5)
  refine kSPEC X3 (gEL G) (argsL := []) (rest := [.ref a4]) (wd G 37 rfl) (wd G 38 rfl) (wd G 36 rfl) (wd G 39 rfl) rfl (by decide) (rm4 G a4 h2 X3.n f17 A8 f14 f15 f16 g7) all0 (lenOf pd___V rfl) rfl 1 rfl (by decide) hml.symm d6_4 (fun v18 T19 h20 vm21 _ w22 q23 C24 C25 X26 => ?_)
  obtain ⟨a28, k29, e30, f31, f32, f33, f34, f35, f36, f37⟩ := q23
  subst e30
  have f39 := (Exa.ext E5 E_q0)
  have n38 : q0 ≠ a28 := Nat.ne_of_lt (Nat.lt_of_lt_of_le (f39.lt) f32)
  have f41 := (Arv.ext A_q1 E5)
  have n40 : q1 ≠ a28 := Nat.ne_of_lt (Nat.lt_of_lt_of_le (f41.lt) f32)
  have n42 : a4 ≠ a28 := Nat.ne_of_lt (Nat.lt_of_lt_of_le (A8.lt) f32)
  have g43 : n0 ≤ a28 := Nat.le_trans X3.n f32
  have g44 : h0.size ≤ a28 := Nat.le_trans X3.g0 f32
  show Go _ _ _ _ _ (mkF _ _ _ [.ref a4])
  refine kALn X26 d6_7 rfl rfl ?_
  have f45 := (Fld.keep (Fld.ext E5 F_q0_value) f31 (ninS n11 nin0))
  have f46 := (Arv.keep f41 f31 (ninS n12 nin0))
  have f47 := (Fld.keep (Fld.ext E5 F_q0_coder) f31 (ninS n11 nin0))
  have f48 := (Exa.keep f39 f31)
  have f49 := (Exa.keep A8 f31)
  have f50 := (Old.keep f17 f31 (allS g7 all0))
  refine kVIRT X26 (gEL G) (argsL := [.ref q0]) (rest := []) (wd G 52 rfl) (wd G 53 rfl) (own_nf X26.hZ (own_noinst (wd G 35 rfl))) (wd G 55 rfl) (wd G 54 rfl) (wd G 36 rfl) (wd G 56 rfl) (by decide) f49 (rm61 G i0 a4 q0 a28 q1 k29 kp0 h20 X26.n f50 f45 f46 f47 f48 f36 f37 f33 f35 f49 n42 g7 g43) (allS ⟨(f33.lt), f34⟩ all0) (lenOf pd__Ljava_lang_String__Ljava_lang_StringBuilder_ rfl) rfl 0 rfl (by decide) hml.symm d6_8 (fun v51 T52 h53 vm54 _ w55 q56 C57 C58 X59 => ?_)
  obtain ⟨e61, f62, f63, f64, f65, f66⟩ := q56
  subst e61
  show Go _ _ _ _ _ (mkF _ _ _ [.ref a4])
  refine kILn X59 d6_11 rfl ?_
  refine kIFf X59 d6_12 (XT.i0_eq_f (by decide)) ?_
  refine kLDCT X59 (gEL G) (wd G 170 rfl) (gSA G) (by decide) (text := ".upper") (vs := [.int 46, .int 117, .int 112, .int 112, .int 101, .int 114]) (z := 6) (by decide) (by decide) (by decide) d6_15 (n := 24) (by decide) (by decide) (by decide) (by decide) (fun T67 h68 vm70 a71 b72 k73 E74 C75 f76 f77 f78 f79 n80 X69 => ?_)
  have f81 := (CHr.safe C75 ((Exa.keep f48 f62)).lt (CHr.safe C58 (f48.lt) (CHr.safe C25 (f39.lt) (Safe.ext E5 X0.C.1 S_q0))))
  have n82 := (n80 q0 f81).1
  have n83 := (n80 q0 f81).2
  have f84 := (CHr.safe C75 ((Arv.keep f46 f62 (ninS n40 (ninS n12 nin0)))).lt (CHr.safe C58 (f46.lt) (CHr.safe C25 (f41.lt) (Safe.ext E5 X0.C.1 S_q1))))
  have n85 := (n80 q1 f84).1
  have n86 := (n80 q1 f84).2
  have f87 := (Exa.ext E74 (Exa.keep f49 f62))
  have n88 := (n80 a4 (Safe.exa X69.hZ.alike f87 (by decide) (by decide))).1
  have n89 := (n80 a4 (Safe.exa X69.hZ.alike f87 (by decide) (by decide))).2
  have f90 := (CHr.safe C75 (f63.lt) (CHr.safe C58 (f33.lt) f34))
  have n91 := (n80 a28 f90).1
  have n92 := (n80 a28 f90).2
  have n93 : ∀ x, x < h0.size → Safe Z EL0 s.vm h0 x → x ≠ b72 := fun x hx S => (n80 x (CHr.safe (hs0 ▸ X69.C) hx S)).2
  refine kGOTO X69 22 d6_17 (by decide) ?_
  have f94 := (Fld.ext E74 f65)
  have f95 := (Fld.ext E74 f66)
  have f96 := (Arv.ext f63 E74)
  have f97 := (Fld.ext E74 f64)
  have f98 := (Old.ext (Old.keep f50 f62 (allS g43 (allS g7 all0))) E74)
  refine kVIRT X69 (gEL G) (argsL := [.ref a71]) (rest := []) (wd G 52 rfl) (wd G 53 rfl) (own_nf X69.hZ (own_noinst (wd G 35 rfl))) (wd G 55 rfl) (wd G 54 rfl) (wd G 36 rfl) (wd G 56 rfl) (by decide) f87 (rm89 G i0 a4 a71 a28 b72 k29 k73 h68 X69.n f98 f78 f79 f77 f76 f94 f95 f96 f97 f87 n42 g7 g43) (allS ⟨(f96.lt), f90⟩ all0) (lenOf pd__Ljava_lang_String__Ljava_lang_StringBuilder_ rfl) rfl 0 rfl (by decide) hml.symm d6_22 (fun v99 T100 h101 vm102 _ w103 q104 C105 C106 X107 => ?_)
  obtain ⟨e109, f110, f111, f112, f113, f114⟩ := q104
  subst e109
  show Go _ _ _ _ _ (mkF _ _ _ [.ref a4])
  have f115 := (Exa.keep f87 f110)
  have f116 := (Old.keep f98 f110 (allS g43 (allS g7 all0)))
  refine kVIRT X107 (gEL G) (argsL := []) (rest := []) (wd G 102 rfl) (wd G 103 rfl) (own_nf X107.hZ (own_noinst (wd G 35 rfl))) (wd G 105 rfl) (wd G 104 rfl) (wd G 36 rfl) (wd G 106 rfl) (by decide) f115 (rm94 G i0 a4 a28 k29 h101 X107.n f116 f115 f111 f114 f113 f112) all0 (lenOf pd___Ljava_lang_String_ rfl) rfl 0 rfl (by decide) hml.symm d6_25 (fun v117 T118 h119 vm120 _ w121 q122 C123 C124 X125 => ?_)
  obtain ⟨a127, a128, k129, e130, f131, f132, f133, f134, f135, f136, f137, f138, f139, f140⟩ := q122
  subst e130
  have f142 := (Exa.keep (Exa.ext E74 (Exa.keep f48 f62)) f110)
  have n141 : q0 ≠ a127 := Nat.ne_of_lt (Nat.lt_of_lt_of_le (f142.lt) f132)
  have f144 := (Arv.keep (Arv.ext (Arv.keep f46 f62 (ninS n40 (ninS n12 nin0))) E74) f110 (ninS n40 (ninS n12 nin0)))
  have n143 : q1 ≠ a127 := Nat.ne_of_lt (Nat.lt_of_lt_of_le (f144.lt) f132)
  have n145 : a4 ≠ a127 := Nat.ne_of_lt (Nat.lt_of_lt_of_le (f115.lt) f132)
  have n146 : a28 ≠ a127 := Nat.ne_of_lt (Nat.lt_of_lt_of_le (f111.lt) f132)
  have f148 := (Exa.keep f76 f110)
  have n147 : a71 ≠ a127 := Nat.ne_of_lt (Nat.lt_of_lt_of_le (f148.lt) f132)
  have f150 := (Arv.keep f79 f110 (ninS (Ne.symm n92) (ninS (Ne.symm n89) nin0)))
  have n149 : b72 ≠ a127 := Nat.ne_of_lt (Nat.lt_of_lt_of_le (f150.lt) f132)
  have n151 : q0 ≠ a128 := Nat.ne_of_lt (Nat.lt_of_lt_of_le (f142.lt) f133)
  have n152 : q1 ≠ a128 := Nat.ne_of_lt (Nat.lt_of_lt_of_le (f144.lt) f133)
  have n153 : a4 ≠ a128 := Nat.ne_of_lt (Nat.lt_of_lt_of_le (f115.lt) f133)
  have n154 : a28 ≠ a128 := Nat.ne_of_lt (Nat.lt_of_lt_of_le (f111.lt) f133)
  have n155 : a71 ≠ a128 := Nat.ne_of_lt (Nat.lt_of_lt_of_le (f148.lt) f133)
  have n156 : b72 ≠ a128 := Nat.ne_of_lt (Nat.lt_of_lt_of_le (f150.lt) f133)
  have g157 : n0 ≤ a127 := Nat.le_trans X107.n f132
  have g158 : h0.size ≤ a127 := Nat.le_trans X107.g0 f132
  have g159 : n0 ≤ a128 := Nat.le_trans X107.n f133
  have g160 : h0.size ≤ a128 := Nat.le_trans X107.g0 f133
  show Go _ _ _ _ _ (mkF _ _ _ [.ref a127])
  have K161 : Keep h0 h119 [] := (Keep.trans (Keep.trans (Keep.ext (Keep.trans (Keep.trans (Keep.ext (Keep.refl h0 []) E5) f31 (allS (Or.inr g13) all0)) f62 (allS (Or.inr g44) (allS (Or.inr g13) all0))) E74) f110 (allS (Or.inr g44) (allS (Or.inr g13) all0))) f131 all0)
  exact kRETA X125 (gEL G) hret rfl rfl d6_28 (fun ve hve => ⟨a127, a128, k129, rfl, K161, g158, g160, f134, f135, f136, f137, (CHr.safe hve (f135.lt) f138), f139, (CHr.safe hve (f139.lt) f140)⟩) (by decide)
def R_rm104 : Room := { frames := 0, cells := 0, slots := 0, locals := 0 }
theorem rm104 (G : Glob Z a0 iCS vSI) (i0 : Int32) (q0 q1 : Addr) (kp0 : ClassId) (h0 : Heap) (Z0 : n0 ≤ h0.size) (O0 : Old Z n0 h0) (F_q0_coder : Fld Z h0 q0 "java/lang/String" "coder" "B" (.int 0)) : MetH l Z EL0 n0 N_jdk_42_m_152 jdk_42_method_152_code 1 (some .byte) [] R_rm104 #[.ref q0] h0 [] (fun vs v h ve => (v = some (.int 0) ∧ (h0 = h))) := by
  refine MetH.of #[.val (.ref q0)] (plainFor_of_name pn_java_lang_String) rfl Z0 (fun p e s m below meth c T0 hret hml hnm hSL hs0 X0 => ?_)
  refine kGETS X0 (wd G 14 rfl) Via.refl (Sta.ext O0.2 (S_CS G)) d12_0 (fun T1 X2 => ?_)
  refine kIFf X2 d12_3 (XT.i0_eq_f (n_CS G)) ?_
  refine kALn X2 d12_6 rfl rfl ?_
  refine kGETF X2 (wd G 26 rfl) Via.refl F_q0_coder d12_7 (fun T3 X4 => ?_)
  refine kGOTO X4 14 d12_10 (by decide) ?_
  exact kRETZ X4 (gEL G) (t := .byte) hret (by simp) d12_14 (fun ve hve => ⟨rfl, rfl⟩) (by decide)
def R_rm103 : Room := { frames := 1, cells := 0, slots := 0, locals := 13 }
theorem rm103 (G : Glob Z a0 iCS vSI) (i0 : Int32) (q0 q1 : Addr) (kp0 : ClassId) (h0 : Heap) (Z0 : n0 ≤ h0.size) (O0 : Old Z n0 h0) (F_q0_value : Fld Z h0 q0 "java/lang/String" "value" "[B" (.ref q1)) (A_q1 : Arv Z h0 q1 kp0 .byte 7 [.int i0, .int 46, .int 117, .int 112, .int 112, .int 101, .int 114] (.int 0)) (F_q0_coder : Fld Z h0 q0 "java/lang/String" "coder" "B" (.int 0)) (E_q0 : Exa Z h0 q0 "java/lang/String") : MetH l Z EL0 n0 N_jdk_42_m_54 jdk_42_method_54_code 1 (some .int) [] R_rm103 #[.ref q0] h0 [] (fun vs v h ve => (v = some (.int 7) ∧ (h0 = h))) := by
  refine MetH.of #[.val (.ref q0)] (plainFor_of_name pn_java_lang_String) rfl Z0 (fun p e s m below meth c T0 hret hml hnm hSL hs0 X0 => ?_)
  refine kALn X0 d11_0 rfl rfl ?_
  refine kGETF X0 (wd G 28 rfl) Via.refl F_q0_value d11_1 (fun T1 X2 => ?_)
  refine kLEN X2 A_q1 d11_4 ?_
  refine kALn X2 d11_5 rfl rfl ?_
  refine kVIRT X2 (gEL G) (argsL := []) (rest := [.int 7]) (wd G 67 rfl) (wd G 68 rfl) (own_nf X2.hZ (own_noinst (wd G 2 rfl))) (wd G 70 rfl) (wd G 69 rfl) (wd G 3 rfl) (wd G 71 rfl) (by decide) E_q0 (rm104 G i0 q0 q1 kp0 h0 X2.n O0 F_q0_coder) all0 (lenOf pd___B rfl) rfl 1 rfl (by decide) hml.symm d11_6 (fun v3 T4 h5 vm6 _ w7 q8 C9 C10 X11 => ?_)
  obtain ⟨e13, f14⟩ := q8
  subst e13
  subst f14
  show Go _ _ _ _ _ (mkF _ _ _ [.int 0, .int 7])
  refine kISHR X11 7 d11_9 (by decide) ?_
  exact kRETI X11 (gEL G) hret d11_10 (fun ve hve => ⟨rfl, rfl⟩) (by decide)
def R_rm108 : Room := { frames := 0, cells := 0, slots := 0, locals := 0 }
theorem rm108 (G : Glob Z a0 iCS vSI) (i0 i1 : Int32) (q0 q1 : Addr) (kp0 kp1 : ClassId) (h0 : Heap) (Z0 : n0 ≤ h0.size) (O0 : Old Z n0 h0) (A_q0 : Arv Z h0 q0 kp0 .char 2 [.int i0, .int i1] (.int 0)) (c_0 : ¬ (255 : Int32) < i0) (A_q1 : Arv Z h0 q1 kp1 .byte 2 [.int 0, .int 0] (.int 0)) (d_q0_q1 : q0 ≠ q1) (c_1 : ¬ (255 : Int32) < i1) (g_q1 : n0 ≤ q1) : MetH l Z EL0 n0 N_jdk_52_m_21 jdk_52_method_21_code 7 (some .int) [] R_rm108 #[.ref q0, .int 0, .ref q1, .int 0, .int 2] h0 [q1] (fun vs v h ve => (v = some (.int 2) ∧ (Keep h0 h [q1]) ∧ (Arv Z h q1 kp1 .byte 2 [.int (ownB i0), .int (ownB i1)] (.int 0)))) := by
  refine MetH.of #[.val (.ref q0), .val (.int 0), .val (.ref q1), .val (.int 0), .val (.int 2), .unset, .unset] (plainFor_of_name pn_java_lang_StringUTF16) rfl Z0 (fun p e s m below meth c T0 hret hml hnm hSL hs0 X0 => ?_)
  have S_q1 := hSL q1 (List.mem_of_getElem? (i := 0) rfl)
  refine kIC X0 0 d4_0 (by decide) ?_
  refine kIS X0 #[.val (.ref q0), .val (.int 0), .val (.ref q1), .val (.int 0), .val (.int 2), .val (.int 0), .unset] d4_1 rfl ?_
  refine kIL X0 d4_3 rfl ?_
  refine kIL X0 d4_5 rfl ?_
  refine kICf X0 d4_7 (XT.ii_ge_f (by decide)) ?_
  refine kALn X0 d4_10 rfl rfl ?_
  refine kILn X0 d4_11 rfl ?_
  refine kCALD X0 (.int i0) A_q0 (by decide) rfl d4_12 ?_
  refine kIS X0 #[.val (.ref q0), .val (.int 0), .val (.ref q1), .val (.int 0), .val (.int 2), .val (.int 0), .val (.int i0)] d4_13 rfl ?_
  refine kIL X0 d4_15 rfl ?_
  refine kSI X0 255 d4_17 (by decide) ?_
  refine kICt X0 26 d4_20 (XT.ii_le_t c_0) (by decide) ?_
  refine kALn X0 d4_26 rfl rfl ?_
  refine kILn X0 d4_27 rfl ?_
  refine kIL X0 d4_28 rfl ?_
  refine kI2B X0 (ownB i0) d4_30 rfl ?_
  refine kBASTO X0 A_q1 (by decide) 0 (ownB i0) (own_nb _) (by decide) (by show 0 < 2; decide) g_q1 S_q1 d4_31 (fun T1 h2 L4 W5 f6 X3 => ?_)
  have f7 : Arv Z h2 q1 kp1 .byte 2 [.int (ownB i0), .int 0] (.int 0) := f6
  refine kIINC X3 (1 : Int32) (1 : Int32) #[.val (.ref q0), .val (.int 1), .val (.ref q1), .val (.int 0), .val (.int 2), .val (.int 0), .val (.int i0)] d4_32 (by decide) rfl (by decide) rfl ?_
  refine kIINC X3 (1 : Int32) (1 : Int32) #[.val (.ref q0), .val (.int 1), .val (.ref q1), .val (.int 1), .val (.int 2), .val (.int 0), .val (.int i0)] d4_35 (by decide) rfl (by decide) rfl ?_
  refine kIINC X3 (1 : Int32) (1 : Int32) #[.val (.ref q0), .val (.int 1), .val (.ref q1), .val (.int 1), .val (.int 2), .val (.int 1), .val (.int i0)] d4_38 (by decide) rfl (by decide) rfl ?_
  refine kGOTO X3 3 d4_41 (by decide) ?_
  refine kIL X3 d4_3 rfl ?_
  refine kIL X3 d4_5 rfl ?_
  refine kICf X3 d4_7 (XT.ii_ge_f (by decide)) ?_
  refine kALn X3 d4_10 rfl rfl ?_
  refine kILn X3 d4_11 rfl ?_
  have f8 := (Arv.other A_q0 W5 d_q0_q1)
  refine kCALD X3 (.int i1) f8 (by decide) rfl d4_12 ?_
  refine kIS X3 #[.val (.ref q0), .val (.int 1), .val (.ref q1), .val (.int 1), .val (.int 2), .val (.int 1), .val (.int i1)] d4_13 rfl ?_
  refine kIL X3 d4_15 rfl ?_
  refine kSI X3 255 d4_17 (by decide) ?_
  refine kICt X3 26 d4_20 (XT.ii_le_t c_1) (by decide) ?_
  refine kALn X3 d4_26 rfl rfl ?_
  refine kILn X3 d4_27 rfl ?_
  refine kIL X3 d4_28 rfl ?_
  refine kI2B X3 (ownB i1) d4_30 rfl ?_
  have f9 := (Safe.wr W5 S_q1 X0.C.1 S_q1)
  refine kBASTO X3 f7 (by decide) 1 (ownB i1) (own_nb _) (by decide) (by show 1 < 2; decide) g_q1 f9 d4_31 (fun T10 h11 L13 W14 f15 X12 => ?_)
  have f16 : Arv Z h11 q1 kp1 .byte 2 [.int (ownB i0), .int (ownB i1)] (.int 0) := f15
  refine kIINC X12 (1 : Int32) (2 : Int32) #[.val (.ref q0), .val (.int 2), .val (.ref q1), .val (.int 1), .val (.int 2), .val (.int 1), .val (.int i1)] d4_32 (by decide) rfl (by decide) rfl ?_
  refine kIINC X12 (1 : Int32) (2 : Int32) #[.val (.ref q0), .val (.int 2), .val (.ref q1), .val (.int 2), .val (.int 2), .val (.int 1), .val (.int i1)] d4_35 (by decide) rfl (by decide) rfl ?_
  refine kIINC X12 (1 : Int32) (2 : Int32) #[.val (.ref q0), .val (.int 2), .val (.ref q1), .val (.int 2), .val (.int 2), .val (.int 2), .val (.int i1)] d4_38 (by decide) rfl (by decide) rfl ?_
  refine kGOTO X12 3 d4_41 (by decide) ?_
  refine kIL X12 d4_3 rfl ?_
  refine kIL X12 d4_5 rfl ?_
  refine kICt X12 44 d4_7 (XT.ii_ge_t (by decide)) (by decide) ?_
  refine kIL X12 d4_44 rfl ?_
  have K17 : Keep h0 h11 [q1] := (Keep.wr (Keep.wr (Keep.refl h0 [q1]) W5 (Or.inl (List.mem_of_getElem? (i := 0) rfl))) W14 (Or.inl (List.mem_of_getElem? (i := 0) rfl)))
  exact kRETI X12 (gEL G) hret d4_46 (fun ve hve => ⟨rfl, K17, f16⟩) (by decide)
def R_rm107 : Room := { frames := 1, cells := 1, slots := 2, locals := 18 }
theorem rm107 (G : Glob Z a0 iCS vSI) (i0 i1 : Int32) (q0 : Addr) (kp0 : ClassId) (h0 : Heap) (Z0 : n0 ≤ h0.size) (O0 : Old Z n0 h0) (A_q0 : Arv Z h0 q0 kp0 .char 2 [.int i0, .int i1] (.int 0)) (c_0 : ¬ (255 : Int32) < i0) (c_2 : ¬ i0 < 0) (c_1 : ¬ (255 : Int32) < i1) (c_3 : ¬ i1 < 0) : MetH l Z EL0 n0 N_jdk_52_m_16 jdk_52_method_16_code 6 (some (.array (.byte))) [] R_rm107 #[.ref q0, .int 0, .int 2] h0 [] (fun vs v h ve => (∃ (x0 : Addr), ∃ (z0 : ClassId), v = some (.ref x0) ∧ (Keep h0 h []) ∧ (h0.size ≤ x0) ∧ (Arv Z h x0 z0 .byte 2 [.int (ownB i0), .int (ownB i1)] (.int 0)) ∧ (Safe Z EL0 ve h x0))) := by
  refine MetH.of #[.val (.ref q0), .val (.int 0), .val (.int 2), .unset, .unset, .unset] (plainFor_of_name pn_java_lang_StringUTF16) rfl Z0 (fun p e s m below meth c T0 hret hml hnm hSL hs0 X0 => ?_)
  refine kILn X0 d3_0 rfl ?_
  refine kNEWP X0 (wd G 19 rfl) (cap := 2) d3_1 (by decide) (by decide) (by decide) (by decide) (by decide) (fun T1 h2 a4 k5 E6 q7 g8 A9 s10 X3 => ?_)
  have n11 : q0 ≠ a4 := Nat.ne_of_lt (Nat.lt_of_lt_of_le (A_q0.lt) (Nat.le_of_eq q7.symm))
  have g12 : h0.size ≤ a4 := q7 ▸ X0.g0
  have f13 : Arv Z h2 a4 k5 .byte 2 [.int 0, .int 0] (.int 0) := A9.pad (pad_rep [] _ 2)
  refine kASn X3 #[.val (.ref q0), .val (.int 0), .val (.int 2), .val (.ref a4), .unset, .unset] d3_3 rfl rfl ?_
  refine kALn X3 d3_4 rfl rfl ?_
  refine kILn X3 d3_5 rfl ?_
  refine kALn X3 d3_6 rfl rfl ?_
  refine kIC X3 0 d3_7 (by decide) ?_
  refine kILn X3 d3_8 rfl ?_
  have f14 := (Arv.ext A_q0 E6)
  have f15 := (Old.ext O0 E6)
  refine kSTAT X3 (gEL G) (argsL := [.ref q0, .int 0, .ref a4, .int 0, .int 2]) (rest := []) (wd G 20 rfl) (wd G 21 rfl) (wd G 17 rfl) (wd G 22 rfl) (by decide) (rm108 G i0 i1 q0 a4 kp0 k5 h2 X3.n f15 f14 c_0 f13 n11 c_1 g8) (allS ⟨(f13.lt), s10⟩ all0) (lenOf pd___CI_BII_I rfl) rfl 0 rfl (by decide) hml.symm d3_9 (fun v16 T17 h18 vm19 _ w20 q21 C22 C23 X24 => ?_)
  obtain ⟨e26, f27, f28⟩ := q21
  subst e26
  show Go _ _ _ _ _ (mkF _ _ _ [.int 2])
  refine kIS X24 #[.val (.ref q0), .val (.int 0), .val (.int 2), .val (.ref a4), .val (.int 2), .unset] d3_12 rfl ?_
  refine kIL X24 d3_14 rfl ?_
  refine kILn X24 d3_16 rfl ?_
  refine kICt X24 57 d3_17 (XT.ii_eq_t (by decide)) (by decide) ?_
  refine kALn X24 d3_57 rfl rfl ?_
  have K29 : Keep h0 h18 [] := (Keep.trans (Keep.ext (Keep.refl h0 []) E6) f27 (allS (Or.inr g12) all0))
  have f30 := (CHr.safe C23 (f13.lt) s10)
  exact kRETA X24 (gEL G) hret rfl rfl d3_58 (fun ve hve => ⟨a4, k5, rfl, K29, g12, f28, (CHr.safe hve (f28.lt) f30)⟩) (by decide)
def R_rm109 : Room := { frames := 0, cells := 0, slots := 0, locals := 0 }
theorem rm109 (G : Glob Z a0 iCS vSI) (i0 i1 : Int32) (q0 : Addr) (kp0 : ClassId) (h0 : Heap) (Z0 : n0 ≤ h0.size) (O0 : Old Z n0 h0) (A_q0 : Arv Z h0 q0 kp0 .byte 2 [.int i0, .int i1] (.int 0)) : MetH l Z EL0 n0 N_jdk_52_m_15 jdk_52_method_15_code 2 (some .byte) [] R_rm109 #[.ref q0, .int 2] h0 [] (fun vs v h ve => (v = some (.int 0) ∧ (h0 = h))) := by
  refine MetH.of #[.val (.ref q0), .val (.int 2)] (plainFor_of_name pn_java_lang_StringUTF16) rfl Z0 (fun p e s m below meth c T0 hret hml hnm hSL hs0 X0 => ?_)
  refine kILn X0 d5_0 rfl ?_
  refine kALn X0 d5_1 rfl rfl ?_
  refine kLEN X0 A_q0 d5_2 ?_
  refine kISUB X0 0 d5_3 (by decide) ?_
  refine kBI X0 31 d5_4 (by decide) ?_
  refine kIUSHR X0 0 d5_6 (by decide) ?_
  refine kI2B X0 (0 : Int32) d5_7 (by decide) ?_
  exact kRETZ X0 (gEL G) (t := .byte) hret (by simp) d5_8 (fun ve hve => ⟨rfl, rfl⟩) (by decide)
def R_rm106 : Room := { frames := 2, cells := 1, slots := 2, locals := 35 }
theorem rm106 (G : Glob Z a0 iCS vSI) (i0 i1 : Int32) (q0 q1 : Addr) (kp0 : ClassId) (h0 : Heap) (Z0 : n0 ≤ h0.size) (O0 : Old Z n0 h0) (c_0 : ¬ (255 : Int32) < i0) (c_2 : ¬ i0 < 0) (c_1 : ¬ (255 : Int32) < i1) (c_3 : ¬ i1 < 0) (A_q1 : Arv Z h0 q1 kp0 .char 2 [.int i0, .int i1] (.int 0)) (E_q0 : Exa Z h0 q0 "java/lang/String") (F_q0_coder : Fld Z h0 q0 "java/lang/String" "coder" "B" (.int 0)) (F_q0_value : Fld Z h0 q0 "java/lang/String" "value" "[B" (.null)) (g_q0 : n0 ≤ q0) : MetH l Z EL0 n0 N_jdk_42_m_149 jdk_42_method_149_code 6 none [] R_rm106 #[.ref q0, .ref q1, .int 0, .int 2, .null] h0 [q0] (fun vs v h ve => (∃ (x0 : Addr), ∃ (z0 : ClassId), v = none ∧ (Keep h0 h [q0]) ∧ (h0.size ≤ x0) ∧ (Arv Z h x0 z0 .byte 2 [.int (ownB i0), .int (ownB i1)] (.int 0)) ∧ (Safe Z EL0 ve h x0) ∧ (Fld Z h q0 "java/lang/String" "coder" "B" (.int 0)) ∧ (Fld Z h q0 "java/lang/String" "value" "[B" (.ref x0)))) := by
  refine MetH.of #[.val (.ref q0), .val (.ref q1), .val (.int 0), .val (.int 2), .val .null, .unset] (plainFor_of_name pn_java_lang_String) rfl Z0 (fun p e s m below meth c T0 hret hml hnm hSL hs0 X0 => ?_)
  have S_q0 := hSL q0 (List.mem_of_getElem? (i := 0) rfl)
  refine kALn X0 d1_0 rfl rfl ?_
  refine kINIT X0 (wd G 11 rfl) (wd G 12 rfl) (wd G 13 rfl) hml.symm d1_1 (by decide) 0 (Nat.le_of_eq rfl) (by decide) (fun T1 X2 => ?_)
  refine kILn X2 d1_4 rfl ?_
  refine kIFt X2 27 d1_5 (XT.i0_ne_t (by decide)) (by decide) ?_
  refine kGETS X2 (wd G 14 rfl) Via.refl (Sta.ext O0.2 (S_CS G)) d1_27 (fun T3 X4 => ?_)
  refine kIFf X4 d1_30 (XT.i0_eq_f (n_CS G)) ?_
  refine kALn X4 d1_33 rfl rfl ?_
  refine kILn X4 d1_34 rfl ?_
  refine kILn X4 d1_35 rfl ?_
  refine kSTAT X4 (gEL G) (argsL := [.ref q1, .int 0, .int 2]) (rest := []) (wd G 15 rfl) (wd G 16 rfl) (wd G 17 rfl) (wd G 18 rfl) (by decide) (rm107 G i0 i1 q1 kp0 h0 X4.n O0 A_q1 c_0 c_2 c_1 c_3) all0 (lenOf pd___CII__B rfl) rfl 0 rfl (by decide) hml.symm d1_36 (fun v5 T6 h7 vm8 _ w9 q10 C11 C12 X13 => ?_)
  obtain ⟨a15, k16, e17, f18, f19, f20, f21⟩ := q10
  subst e17
  have n22 : q0 ≠ a15 := Nat.ne_of_lt (Nat.lt_of_lt_of_le (E_q0.lt) f19)
  have n23 : q1 ≠ a15 := Nat.ne_of_lt (Nat.lt_of_lt_of_le (A_q1.lt) f19)
  have g24 : n0 ≤ a15 := Nat.le_trans X4.n f19
  have g25 : h0.size ≤ a15 := Nat.le_trans X4.g0 f19
  show Go _ _ _ _ _ (mkF _ _ _ [.ref a15])
  refine kAS X13 #[.val (.ref q0), .val (.ref q1), .val (.int 0), .val (.int 2), .val .null, .val (.ref a15)] d1_39 rfl rfl ?_
  refine kALn X13 d1_41 rfl rfl ?_
  refine kAL X13 d1_42 rfl rfl ?_
  refine kILn X13 d1_44 rfl ?_
  have f26 := (Old.keep O0 f18 all0)
  refine kSTAT X13 (gEL G) (argsL := [.ref a15, .int 2]) (rest := [.ref q0]) (wd G 23 rfl) (wd G 24 rfl) (wd G 17 rfl) (wd G 25 rfl) (by decide) (rm109 G (ownB i0) (ownB i1) a15 k16 h7 X13.n f26 f20) all0 (lenOf pd___BI_B rfl) rfl 1 rfl (by decide) hml.symm d1_45 (fun v27 T28 h29 vm30 _ w31 q32 C33 C34 X35 => ?_)
  obtain ⟨e37, f38⟩ := q32
  subst e37
  subst f38
  show Go _ _ _ _ _ (mkF _ _ _ [.int 0, .ref q0])
  have f39 := (Fld.keep F_q0_coder f18 nin0)
  have f40 := (Exa.keep E_q0 f18)
  have f41 := (CHr.safe C34 ((Fld.keep F_q0_value f18 nin0)).lt (CHr.safe C12 (F_q0_value.lt) S_q0))
  refine kPUTF X35 (wd G 26 rfl) Via.refl f39 f40 (Or.inr ⟨(wd G 27 rfl), rfl, hnm⟩) (wd G 2 rfl) (ty := .byte) (by decide) (by decide) (by decide) g_q0 f41 d1_48 (fun T42 h43 L46 W45 X44 => ?_)
  have f47 := Fld.same W45 f39
  refine kALn X44 d1_51 rfl rfl ?_
  refine kAL X44 d1_52 rfl rfl ?_
  have f48 := (Fld.other W45 (Fld.keep F_q0_value f18 nin0) (Or.inr (slot_ne (Or.inr (wd G 29 rfl)) (Or.inr (wd G 27 rfl)) (by decide) (by decide : parseFieldDescriptor "[B" = some (.array (.byte))) (by decide : parseFieldDescriptor "B" = some .byte))))
  have f49 := (Exa.wr W45 f40)
  have f50 := (Safe.wr W45 f41 X35.C.1 f41)
  refine kPUTF X44 (wd G 28 rfl) Via.refl f48 f49 (Or.inr ⟨(wd G 29 rfl), rfl, hnm⟩) (wd G 2 rfl) (ty := (.array (.byte))) (by decide) rfl rfl g_q0 f50 d1_54 (fun T51 h52 L55 W54 X53 => ?_)
  have f56 := Fld.same W54 f48
  have K57 : Keep h0 h52 [q0] := (Keep.wr (Keep.wr (Keep.trans (Keep.refl h0 [q0]) f18 all0) W45 (Or.inl (List.mem_of_getElem? (i := 0) rfl))) W54 (Or.inl (List.mem_of_getElem? (i := 0) rfl)))
  have f58 := (Arv.other (Arv.other f20 W45 (Ne.symm n22)) W54 (Ne.symm n22))
  have f59 := (Safe.wr W54 f50 X44.C.1 (Safe.wr W45 f41 X35.C.1 (CHr.safe C34 (f20.lt) f21)))
  have f60 := (Fld.other W54 f47 (Or.inr (slot_ne (Or.inr (wd G 27 rfl)) (Or.inr (wd G 29 rfl)) (by decide) (by decide : parseFieldDescriptor "B" = some .byte) (by decide : parseFieldDescriptor "[B" = some (.array (.byte))))))
  exact kRETV X53 (gEL G) hret d1_57 (fun ve hve => ⟨a15, k16, rfl, K57, g25, f58, (CHr.safe hve (f58.lt) f59), f60, f56⟩) (by decide)
def R_rm105 : Room := { frames := 3, cells := 1, slots := 2, locals := 52 }
theorem rm105 (G : Glob Z a0 iCS vSI) (i0 i1 : Int32) (q0 q1 : Addr) (kp0 : ClassId) (h0 : Heap) (Z0 : n0 ≤ h0.size) (O0 : Old Z n0 h0) (A_q1 : Arv Z h0 q1 kp0 .char 2 [.int i0, .int i1] (.int 0)) (c_0 : ¬ (255 : Int32) < i0) (c_2 : ¬ i0 < 0) (c_1 : ¬ (255 : Int32) < i1) (c_3 : ¬ i1 < 0) (E_q0 : Exa Z h0 q0 "java/lang/String") (F_q0_coder : Fld Z h0 q0 "java/lang/String" "coder" "B" (.int 0)) (F_q0_value : Fld Z h0 q0 "java/lang/String" "value" "[B" (.null)) (g_q0 : n0 ≤ q0) : MetH l Z EL0 n0 N_jdk_42_m_3 jdk_42_method_3_code 2 none [] R_rm105 #[.ref q0, .ref q1] h0 [q0] (fun vs v h ve => (∃ (x0 : Addr), ∃ (z0 : ClassId), v = none ∧ (Keep h0 h [q0]) ∧ (h0.size ≤ x0) ∧ (Arv Z h x0 z0 .byte 2 [.int (ownB i0), .int (ownB i1)] (.int 0)) ∧ (Safe Z EL0 ve h x0) ∧ (Fld Z h q0 "java/lang/String" "coder" "B" (.int 0)) ∧ (Fld Z h q0 "java/lang/String" "value" "[B" (.ref x0)))) := by
  refine MetH.of #[.val (.ref q0), .val (.ref q1)] (plainFor_of_name pn_java_lang_String) rfl Z0 (fun p e s m below meth c T0 hret hml hnm hSL hs0 X0 => ?_)
  have S_q0 := hSL q0 (List.mem_of_getElem? (i := 0) rfl)
  refine kALn X0 d0_0 rfl rfl ?_
  refine kALn X0 d0_1 rfl rfl ?_
  refine kIC X0 0 d0_2 (by decide) ?_
  refine kALn X0 d0_3 rfl rfl ?_
  refine kLEN X0 A_q1 d0_4 ?_
  refine kNULL X0 d0_5 ?_
  refine kSPEC X0 (gEL G) (argsL := [.ref q1, .int 0, .int 2, .null]) (rest := []) (wd G 7 rfl) (wd G 8 rfl) (wd G 3 rfl) (wd G 10 rfl) rfl (by decide) (rm106 G i0 i1 q0 q1 kp0 h0 X0.n O0 c_0 c_2 c_1 c_3 A_q1 E_q0 F_q0_coder F_q0_value g_q0) (allS ⟨(E_q0.lt), S_q0⟩ all0) (lenOf pd___CIILjava_lang_Void__V rfl) rfl 0 rfl (by decide) hml.symm d0_6 (fun v1 T2 h3 vm4 _ w5 q6 C7 C8 X9 => ?_)
  obtain ⟨a11, k12, e13, f14, f15, f16, f17, f18, f19⟩ := q6
  subst e13
  have n20 : q0 ≠ a11 := Nat.ne_of_lt (Nat.lt_of_lt_of_le (E_q0.lt) f15)
  have n21 : q1 ≠ a11 := Nat.ne_of_lt (Nat.lt_of_lt_of_le (A_q1.lt) f15)
  have g22 : n0 ≤ a11 := Nat.le_trans X0.n f15
  have g23 : h0.size ≤ a11 := Nat.le_trans X0.g0 f15
  show Go _ _ _ _ _ (mkF _ _ _ [])
  have K24 : Keep h0 h3 [q0] := (Keep.trans (Keep.refl h0 [q0]) f14 (allS (Or.inl (List.mem_of_getElem? (i := 0) rfl)) all0))
  exact kRETV X9 (gEL G) hret d0_9 (fun ve hve => ⟨a11, k12, rfl, K24, g23, f16, (CHr.safe hve (f16.lt) f17), f18, f19⟩) (by decide)
def R_rm114 : Room := { frames := 0, cells := 0, slots := 0, locals := 0 }
theorem rm114 (G : Glob Z a0 iCS vSI) (i0 i1 : Int32) (q0 q1 : Addr) (kp0 : ClassId) (h0 : Heap) (Z0 : n0 ≤ h0.size) (O0 : Old Z n0 h0) (F_q0_coder : Fld Z h0 q0 "java/lang/String" "coder" "B" (.int 0)) : MetH l Z EL0 n0 N_jdk_42_m_152 jdk_42_method_152_code 1 (some .byte) [] R_rm114 #[.ref q0] h0 [] (fun vs v h ve => (v = some (.int 0) ∧ (h0 = h))) := by
  refine MetH.of #[.val (.ref q0)] (plainFor_of_name pn_java_lang_String) rfl Z0 (fun p e s m below meth c T0 hret hml hnm hSL hs0 X0 => ?_)
  refine kGETS X0 (wd G 14 rfl) Via.refl (Sta.ext O0.2 (S_CS G)) d12_0 (fun T1 X2 => ?_)
  refine kIFf X2 d12_3 (XT.i0_eq_f (n_CS G)) ?_
  refine kALn X2 d12_6 rfl rfl ?_
  refine kGETF X2 (wd G 26 rfl) Via.refl F_q0_coder d12_7 (fun T3 X4 => ?_)
  refine kGOTO X4 14 d12_10 (by decide) ?_
  exact kRETZ X4 (gEL G) (t := .byte) hret (by simp) d12_14 (fun ve hve => ⟨rfl, rfl⟩) (by decide)
def R_rm113 : Room := { frames := 1, cells := 0, slots := 0, locals := 13 }
theorem rm113 (G : Glob Z a0 iCS vSI) (i0 i1 : Int32) (q0 q1 : Addr) (kp0 : ClassId) (h0 : Heap) (Z0 : n0 ≤ h0.size) (O0 : Old Z n0 h0) (F_q0_value : Fld Z h0 q0 "java/lang/String" "value" "[B" (.ref q1)) (A_q1 : Arv Z h0 q1 kp0 .byte 2 [.int i0, .int i1] (.int 0)) (F_q0_coder : Fld Z h0 q0 "java/lang/String" "coder" "B" (.int 0)) (E_q0 : Exa Z h0 q0 "java/lang/String") : MetH l Z EL0 n0 N_jdk_42_m_54 jdk_42_method_54_code 1 (some .int) [] R_rm113 #[.ref q0] h0 [] (fun vs v h ve => (v = some (.int 2) ∧ (h0 = h))) := by
  refine MetH.of #[.val (.ref q0)] (plainFor_of_name pn_java_lang_String) rfl Z0 (fun p e s m below meth c T0 hret hml hnm hSL hs0 X0 => ?_)
  refine kALn X0 d11_0 rfl rfl ?_
  refine kGETF X0 (wd G 28 rfl) Via.refl F_q0_value d11_1 (fun T1 X2 => ?_)
  refine kLEN X2 A_q1 d11_4 ?_
  refine kALn X2 d11_5 rfl rfl ?_
  refine kVIRT X2 (gEL G) (argsL := []) (rest := [.int 2]) (wd G 67 rfl) (wd G 68 rfl) (own_nf X2.hZ (own_noinst (wd G 2 rfl))) (wd G 70 rfl) (wd G 69 rfl) (wd G 3 rfl) (wd G 71 rfl) (by decide) E_q0 (rm114 G i0 i1 q0 q1 kp0 h0 X2.n O0 F_q0_coder) all0 (lenOf pd___B rfl) rfl 1 rfl (by decide) hml.symm d11_6 (fun v3 T4 h5 vm6 _ w7 q8 C9 C10 X11 => ?_)
  obtain ⟨e13, f14⟩ := q8
  subst e13
  subst f14
  show Go _ _ _ _ _ (mkF _ _ _ [.int 0, .int 2])
  refine kISHR X11 2 d11_9 (by decide) ?_
  exact kRETI X11 (gEL G) hret d11_10 (fun ve hve => ⟨rfl, rfl⟩) (by decide)
def R_rm115 : Room := { frames := 0, cells := 0, slots := 0, locals := 0 }
theorem rm115 (G : Glob Z a0 iCS vSI) (q0 q1 : Addr) (kp0 : ClassId) (h0 : Heap) (Z0 : n0 ≤ h0.size) (O0 : Old Z n0 h0) (F_q0_value : Fld Z h0 q0 "java/lang/AbstractStringBuilder" "value" "[B" (.ref q1)) (A_q1 : Arv Z h0 q1 kp0 .byte 16 [.int 0, .int 0, .int 0, .int 0, .int 0, .int 0, .int 0, .int 0, .int 0, .int 0, .int 0, .int 0, .int 0, .int 0, .int 0, .int 0] (.int 0)) (F_q0_coder : Fld Z h0 q0 "java/lang/AbstractStringBuilder" "coder" "B" (.int 0)) : MetH l Z EL0 n0 N_jdk_68_m_9 jdk_68_method_9_code 3 none [] R_rm115 #[.ref q0, .int 2] h0 [] (fun vs v h ve => (v = none ∧ (h0 = h))) := by
  refine MetH.of #[.val (.ref q0), .val (.int 2), .unset] (plainFor_of_name pn_java_lang_AbstractStringBuilder) rfl Z0 (fun p e s m below meth c T0 hret hml hnm hSL hs0 X0 => ?_)
  refine kALn X0 d13_0 rfl rfl ?_
  refine kGETF X0 (wd G 48 rfl) Via.refl F_q0_value d13_1 (fun T1 X2 => ?_)
  refine kLEN X2 A_q1 d13_4 ?_
  refine kALn X2 d13_5 rfl rfl ?_
  refine kGETF X2 (wd G 50 rfl) Via.refl F_q0_coder d13_6 (fun T3 X4 => ?_)
  refine kISHR X4 16 d13_9 (by decide) ?_
  refine kISn X4 #[.val (.ref q0), .val (.int 2), .val (.int 16)] d13_10 rfl ?_
  refine kILn X4 d13_11 rfl ?_
  refine kILn X4 d13_12 rfl ?_
  refine kISUB X4 (-14) d13_13 (by decide) ?_
  refine kIFt X4 38 d13_14 (XT.i0_le_t (by decide)) (by decide) ?_
  exact kRETV X4 (gEL G) hret d13_38 (fun ve hve => ⟨rfl, rfl⟩) (by decide)
def R_rm117 : Room := { frames := 1, cells := 0, slots := 0, locals := 13 }
theorem rm117 (G : Glob Z a0 iCS vSI) (i0 i1 : Int32) (q0 q1 q2 q3 : Addr) (kp0 kp1 : ClassId) (h0 : Heap) (Z0 : n0 ≤ h0.size) (O0 : Old Z n0 h0) (F_q0_coder : Fld Z h0 q0 "java/lang/AbstractStringBuilder" "coder" "B" (.int 0)) (F_q1_coder : Fld Z h0 q1 "java/lang/String" "coder" "B" (.int 0)) (E_q1 : Exa Z h0 q1 "java/lang/String") : MetH l Z EL0 n0 N_jdk_68_m_71 jdk_68_method_71_code 2 none [] R_rm117 #[.ref q0, .ref q1] h0 [] (fun vs v h ve => (v = none ∧ (h0 = h))) := by
  refine MetH.of #[.val (.ref q0), .val (.ref q1)] (plainFor_of_name pn_java_lang_AbstractStringBuilder) rfl Z0 (fun p e s m below meth c T0 hret hml hnm hSL hs0 X0 => ?_)
  refine kGETS X0 (wd G 47 rfl) Via.refl (Sta.ext O0.2 (S_CS G)) d15_0 (fun T1 X2 => ?_)
  refine kIFf X2 d15_3 (XT.i0_eq_f (n_CS G)) ?_
  refine kALn X2 d15_6 rfl rfl ?_
  refine kGETF X2 (wd G 50 rfl) Via.refl F_q0_coder d15_7 (fun T3 X4 => ?_)
  refine kALn X4 d15_10 rfl rfl ?_
  refine kVIRT X4 (gEL G) (argsL := []) (rest := [.int 0]) (wd G 89 rfl) (wd G 68 rfl) (own_nf X4.hZ (own_noinst (wd G 2 rfl))) (wd G 70 rfl) (wd G 69 rfl) (wd G 3 rfl) (wd G 71 rfl) (by decide) E_q1 (rm114 G i0 i1 q1 q3 kp1 h0 X4.n O0 F_q1_coder) all0 (lenOf pd___B rfl) rfl 1 rfl (by decide) hml.symm d15_11 (fun v5 T6 h7 vm8 _ w9 q10 C11 C12 X13 => ?_)
  obtain ⟨e15, f16⟩ := q10
  subst e15
  subst f16
  show Go _ _ _ _ _ (mkF _ _ _ [.int 0, .int 0])
  refine kICt X13 21 d15_14 (XT.ii_eq_t (by decide)) (by decide) ?_
  exact kRETV X13 (gEL G) hret d15_21 (fun ve hve => ⟨rfl, rfl⟩) (by decide)
def R_rm118 : Room := { frames := 1, cells := 0, slots := 0, locals := 18 }
theorem rm118 (G : Glob Z a0 iCS vSI) (i0 i1 : Int32) (q0 q1 q2 : Addr) (kp0 kp1 : ClassId) (h0 : Heap) (Z0 : n0 ≤ h0.size) (O0 : Old Z n0 h0) (F_q0_coder : Fld Z h0 q0 "java/lang/String" "coder" "B" (.int 0)) (E_q0 : Exa Z h0 q0 "java/lang/String") (F_q0_value : Fld Z h0 q0 "java/lang/String" "value" "[B" (.ref q2)) (A_q2 : Arv Z h0 q2 kp1 .byte 2 [.int i0, .int i1] (.int 0)) (A_q1 : Arv Z h0 q1 kp0 .byte 16 [.int 0, .int 0, .int 0, .int 0, .int 0, .int 0, .int 0, .int 0, .int 0, .int 0, .int 0, .int 0, .int 0, .int 0, .int 0, .int 0] (.int 0)) (g_q1 : n0 ≤ q1) : MetH l Z EL0 n0 N_jdk_42_m_147 jdk_42_method_147_code 4 none [] R_rm118 #[.ref q0, .ref q1, .int 0, .int 0] h0 [q1] (fun vs v h ve => (v = none ∧ (Keep h0 h [q1]) ∧ (Arv Z h q1 kp0 .byte 16 [.int i0, .int i1, .int 0, .int 0, .int 0, .int 0, .int 0, .int 0, .int 0, .int 0, .int 0, .int 0, .int 0, .int 0, .int 0, .int 0] (.int 0)))) := by
  refine MetH.of #[.val (.ref q0), .val (.ref q1), .val (.int 0), .val (.int 0)] (plainFor_of_name pn_java_lang_String) rfl Z0 (fun p e s m below meth c T0 hret hml hnm hSL hs0 X0 => ?_)
  have S_q1 := hSL q1 (List.mem_of_getElem? (i := 0) rfl)
  refine kALn X0 d16_0 rfl rfl ?_
  refine kVIRT X0 (gEL G) (argsL := []) (rest := []) (wd G 67 rfl) (wd G 68 rfl) (own_nf X0.hZ (own_noinst (wd G 2 rfl))) (wd G 70 rfl) (wd G 69 rfl) (wd G 3 rfl) (wd G 71 rfl) (by decide) E_q0 (rm114 G i0 i1 q0 q2 kp1 h0 X0.n O0 F_q0_coder) all0 (lenOf pd___B rfl) rfl 0 rfl (by decide) hml.symm d16_1 (fun v1 T2 h3 vm4 _ w5 q6 C7 C8 X9 => ?_)
  obtain ⟨e11, f12⟩ := q6
  subst e11
  subst f12
  show Go _ _ _ _ _ (mkF _ _ _ [.int 0])
  refine kILn X9 d16_4 rfl ?_
  refine kICf X9 d16_5 (XT.ii_ne_f (by decide)) ?_
  refine kALn X9 d16_8 rfl rfl ?_
  refine kGETF X9 (wd G 28 rfl) Via.refl F_q0_value d16_9 (fun T13 X14 => ?_)
  refine kIC X14 0 d16_12 (by decide) ?_
  refine kALn X14 d16_13 rfl rfl ?_
  refine kILn X14 d16_14 rfl ?_
  refine kILn X14 d16_15 rfl ?_
  refine kISHL X14 0 d16_16 (by decide) ?_
  refine kALn X14 d16_17 rfl rfl ?_
  refine kGETF X14 (wd G 28 rfl) Via.refl F_q0_value d16_18 (fun T15 X16 => ?_)
  refine kLEN X16 A_q2 d16_21 ?_
  have f17 := (CHr.safe C8 (A_q1.lt) S_q1)
  refine kCPA X16 (wd G 95 rfl) (wd G 98 rfl) (wd G 96 rfl) (wd G 97 rfl) A_q2 A_q1 (Or.inl ⟨rfl, rfl⟩) (us := [.int i0, .int i1]) (by decide) rfl (by show 2 ≤ 16; decide) g_q1 f17 hml.symm d16_22 (by decide) 0 (Nat.le_of_eq rfl) (by decide) (fun T18 h19 L21 K22 C23 f24 X20 => ?_)
  have f25 : Arv Z h19 q1 kp0 .byte 16 [.int i0, .int i1, .int 0, .int 0, .int 0, .int 0, .int 0, .int 0, .int 0, .int 0, .int 0, .int 0, .int 0, .int 0, .int 0, .int 0] (.int 0) := f24
  refine kGOTO X20 43 d16_25 (by decide) ?_
  have K26 : Keep h0 h19 [q1] := (Keep.trans (Keep.refl h0 [q1]) K22 (allS (Or.inl (List.mem_of_getElem? (i := 0) rfl)) all0))
  exact kRETV X20 (gEL G) hret d16_43 (fun ve hve => ⟨rfl, K26, f25⟩) (by decide)
def R_rm116 : Room := { frames := 2, cells := 0, slots := 0, locals := 33 }
theorem rm116 (G : Glob Z a0 iCS vSI) (i0 i1 : Int32) (q0 q1 q2 q3 : Addr) (kp0 kp1 : ClassId) (h0 : Heap) (Z0 : n0 ≤ h0.size) (O0 : Old Z n0 h0) (F_q0_coder : Fld Z h0 q0 "java/lang/AbstractStringBuilder" "coder" "B" (.int 0)) (F_q1_coder : Fld Z h0 q1 "java/lang/String" "coder" "B" (.int 0)) (E_q1 : Exa Z h0 q1 "java/lang/String") (E_q0 : Exa Z h0 q0 "java/lang/StringBuilder") (F_q0_value : Fld Z h0 q0 "java/lang/AbstractStringBuilder" "value" "[B" (.ref q2)) (F_q1_value : Fld Z h0 q1 "java/lang/String" "value" "[B" (.ref q3)) (A_q3 : Arv Z h0 q3 kp1 .byte 2 [.int i0, .int i1] (.int 0)) (A_q2 : Arv Z h0 q2 kp0 .byte 16 [.int 0, .int 0, .int 0, .int 0, .int 0, .int 0, .int 0, .int 0, .int 0, .int 0, .int 0, .int 0, .int 0, .int 0, .int 0, .int 0] (.int 0)) (g_q2 : n0 ≤ q2) : MetH l Z EL0 n0 N_jdk_68_m_73 jdk_68_method_73_code 3 none [] R_rm116 #[.ref q0, .int 0, .ref q1] h0 [q2] (fun vs v h ve => (v = none ∧ (Keep h0 h [q2]) ∧ (Arv Z h q2 kp0 .byte 16 [.int i0, .int i1, .int 0, .int 0, .int 0, .int 0, .int 0, .int 0, .int 0, .int 0, .int 0, .int 0, .int 0, .int 0, .int 0, .int 0] (.int 0)))) := by
  refine MetH.of #[.val (.ref q0), .val (.int 0), .val (.ref q1)] (plainFor_of_name pn_java_lang_AbstractStringBuilder) rfl Z0 (fun p e s m below meth c T0 hret hml hnm hSL hs0 X0 => ?_)
  have S_q2 := hSL q2 (List.mem_of_getElem? (i := 0) rfl)
  refine kALn X0 d14_0 rfl rfl ?_
  refine kALn X0 d14_1 rfl rfl ?_
  refine kVIRT X0 (gEL G) (argsL := [.ref q1]) (rest := []) (wd G 84 rfl) (own_decl (wd G 85 rfl) (wd G 88 rfl)) (own_nf X0.hZ (own_noface (wd G 77 rfl) rfl)) (wd G 87 rfl) (wd G 85 rfl) (wd G 44 rfl) (wd G 88 rfl) (by decide) E_q0 (rm117 G i0 i1 q0 q1 q2 q3 kp0 kp1 h0 X0.n O0 F_q0_coder F_q1_coder E_q1) all0 (lenOf pd__Ljava_lang_String__V rfl) rfl 0 rfl (by decide) hml.symm d14_2 (fun v1 T2 h3 vm4 _ w5 q6 C7 C8 X9 => ?_)
  obtain ⟨e11, f12⟩ := q6
  subst e11
  subst f12
  show Go _ _ _ _ _ (mkF _ _ _ [])
  refine kALn X9 d14_5 rfl rfl ?_
  refine kALn X9 d14_6 rfl rfl ?_
  refine kGETF X9 (wd G 48 rfl) Via.refl F_q0_value d14_7 (fun T13 X14 => ?_)
  refine kILn X14 d14_10 rfl ?_
  refine kALn X14 d14_11 rfl rfl ?_
  refine kGETF X14 (wd G 50 rfl) Via.refl F_q0_coder d14_12 (fun T15 X16 => ?_)
  have f26 := (CHr.safe C8 (A_q2.lt) S_q2)
  refine kVIRT X16 (gEL G) (argsL := [.ref q2, .int 0, .int 0]) (rest := []) (wd G 90 rfl) (wd G 91 rfl) (own_nf X16.hZ (own_noinst (wd G 2 rfl))) (wd G 93 rfl) (wd G 92 rfl) (wd G 3 rfl) (wd G 94 rfl) (by decide) E_q1 (rm118 G i0 i1 q1 q2 q3 kp0 kp1 h0 X16.n O0 F_q1_coder E_q1 F_q1_value A_q3 A_q2 g_q2) (allS ⟨(A_q2.lt), f26⟩ all0) (lenOf pd___BIB_V rfl) rfl 0 rfl (by decide) hml.symm d14_15 (fun v17 T18 h19 vm20 _ w21 q22 C23 C24 X25 => ?_)
  obtain ⟨e28, f29, f30⟩ := q22
  subst e28
  show Go _ _ _ _ _ (mkF _ _ _ [])
  have K31 : Keep h0 h19 [q2] := (Keep.trans (Keep.refl h0 [q2]) f29 (allS (Or.inl (List.mem_of_getElem? (i := 0) rfl)) all0))
  exact kRETV X25 (gEL G) hret d14_18 (fun ve hve => ⟨rfl, K31, f30⟩) (by decide)
def R_rm112 : Room := { frames := 3, cells := 0, slots := 0, locals := 47 }
theorem rm112 (G : Glob Z a0 iCS vSI) (i0 i1 : Int32) (q0 q1 q2 q3 : Addr) (kp0 kp1 : ClassId) (h0 : Heap) (Z0 : n0 ≤ h0.size) (O0 : Old Z n0 h0) (F_q1_value : Fld Z h0 q1 "java/lang/String" "value" "[B" (.ref q3)) (A_q3 : Arv Z h0 q3 kp1 .byte 2 [.int i0, .int i1] (.int 0)) (F_q1_coder : Fld Z h0 q1 "java/lang/String" "coder" "B" (.int 0)) (E_q1 : Exa Z h0 q1 "java/lang/String") (F_q0_count : Fld Z h0 q0 "java/lang/AbstractStringBuilder" "count" "I" (.int 0)) (F_q0_value : Fld Z h0 q0 "java/lang/AbstractStringBuilder" "value" "[B" (.ref q2)) (A_q2 : Arv Z h0 q2 kp0 .byte 16 [.int 0, .int 0, .int 0, .int 0, .int 0, .int 0, .int 0, .int 0, .int 0, .int 0, .int 0, .int 0, .int 0, .int 0, .int 0, .int 0] (.int 0)) (F_q0_coder : Fld Z h0 q0 "java/lang/AbstractStringBuilder" "coder" "B" (.int 0)) (E_q0 : Exa Z h0 q0 "java/lang/StringBuilder") (d_q0_q2 : q0 ≠ q2) (g_q0 : n0 ≤ q0) (g_q2 : n0 ≤ q2) : MetH l Z EL0 n0 N_jdk_68_m_22 jdk_68_method_22_code 3 (some (.object "java/lang/AbstractStringBuilder")) [] R_rm112 #[.ref q0, .ref q1] h0 [q2] (fun vs v h ve => (v = some (.ref q0) ∧ (Keep h0 h [q2, q0]) ∧ (Arv Z h q2 kp0 .byte 16 [.int i0, .int i1, .int 0, .int 0, .int 0, .int 0, .int 0, .int 0, .int 0, .int 0, .int 0, .int 0, .int 0, .int 0, .int 0, .int 0] (.int 0)) ∧ (Fld Z h q0 "java/lang/AbstractStringBuilder" "coder" "B" (.int 0)) ∧ (Fld Z h q0 "java/lang/AbstractStringBuilder" "count" "I" (.int 2)) ∧ (Fld Z h q0 "java/lang/AbstractStringBuilder" "value" "[B" (.ref q2)))) := by
  refine MetH.of #[.val (.ref q0), .val (.ref q1), .unset] (plainFor_of_name pn_java_lang_AbstractStringBuilder) rfl Z0 (fun p e s m below meth c T0 hret hml hnm hSL hs0 X0 => ?_)
  have S_q2 := hSL q2 (List.mem_of_getElem? (i := 0) rfl)
  refine kALn X0 d10_0 rfl rfl ?_
  refine kNNt X0 9 d10_1 (by decide) ?_
  refine kALn X0 d10_9 rfl rfl ?_
  refine kVIRT X0 (gEL G) (argsL := []) (rest := []) (wd G 62 rfl) (wd G 63 rfl) (own_nf X0.hZ (own_noinst (wd G 2 rfl))) (wd G 65 rfl) (wd G 64 rfl) (wd G 3 rfl) (wd G 66 rfl) (by decide) E_q1 (rm113 G i0 i1 q1 q3 kp1 h0 X0.n O0 F_q1_value A_q3 F_q1_coder E_q1) all0 (lenOf pd___I rfl) rfl 0 rfl (by decide) hml.symm d10_10 (fun v1 T2 h3 vm4 _ w5 q6 C7 C8 X9 => ?_)
  obtain ⟨e11, f12⟩ := q6
  subst e11
  subst f12
  show Go _ _ _ _ _ (mkF _ _ _ [.int 2])
  refine kISn X9 #[.val (.ref q0), .val (.ref q1), .val (.int 2)] d10_13 rfl ?_
  refine kALn X9 d10_14 rfl rfl ?_
  refine kALn X9 d10_15 rfl rfl ?_
  refine kGETF X9 (wd G 72 rfl) Via.refl F_q0_count d10_16 (fun T13 X14 => ?_)
  refine kILn X14 d10_19 rfl ?_
  refine kIADD X14 2 d10_20 (by decide) ?_
  refine kVIRT X14 (gEL G) (argsL := [.int 2]) (rest := []) (wd G 74 rfl) (own_decl (wd G 75 rfl) (wd G 78 rfl)) (own_nf X14.hZ (own_noface (wd G 77 rfl) rfl)) (wd G 77 rfl) (wd G 75 rfl) (wd G 44 rfl) (wd G 78 rfl) (by decide) E_q0 (rm115 G q0 q2 kp0 h0 X14.n O0 F_q0_value A_q2 F_q0_coder) all0 (lenOf pd__I_V rfl) rfl 0 rfl (by decide) hml.symm d10_21 (fun v15 T16 h17 vm18 _ w19 q20 C21 C22 X23 => ?_)
  obtain ⟨e25, f26⟩ := q20
  subst e25
  subst f26
  show Go _ _ _ _ _ (mkF _ _ _ [])
  refine kALn X23 d10_24 rfl rfl ?_
  refine kALn X23 d10_25 rfl rfl ?_
  refine kGETF X23 (wd G 72 rfl) Via.refl F_q0_count d10_26 (fun T27 X28 => ?_)
  refine kALn X28 d10_29 rfl rfl ?_
  have f38 := (CHr.safe C22 (A_q2.lt) (CHr.safe C8 (A_q2.lt) S_q2))
  refine kVIRT X28 (gEL G) (argsL := [.int 0, .ref q1]) (rest := []) (wd G 79 rfl) (own_decl (wd G 80 rfl) (wd G 83 rfl)) (own_nf X28.hZ (own_noface (wd G 77 rfl) rfl)) (wd G 82 rfl) (wd G 80 rfl) (wd G 44 rfl) (wd G 83 rfl) (by decide) E_q0 (rm116 G i0 i1 q0 q1 q2 q3 kp0 kp1 h0 X28.n O0 F_q0_coder F_q1_coder E_q1 E_q0 F_q0_value F_q1_value A_q3 A_q2 g_q2) (allS ⟨(A_q2.lt), f38⟩ all0) (lenOf pd__ILjava_lang_String__V rfl) rfl 0 rfl (by decide) hml.symm d10_30 (fun v29 T30 h31 vm32 _ w33 q34 C35 C36 X37 => ?_)
  obtain ⟨e40, f41, f42⟩ := q34
  subst e40
  show Go _ _ _ _ _ (mkF _ _ _ [])
  refine kALn X37 d10_33 rfl rfl ?_
  refine kDUP X37 d10_34 rfl ?_
  have f43 := (Fld.keep F_q0_count f41 (ninS d_q0_q2 nin0))
  refine kGETF X37 (wd G 72 rfl) Via.refl f43 d10_35 (fun T44 X45 => ?_)
  refine kILn X45 d10_38 rfl ?_
  refine kIADD X45 2 d10_39 (by decide) ?_
  have f46 := (Exa.keep E_q0 f41)
  refine kPUTF X45 (wd G 72 rfl) Via.refl f43 f46 (Or.inl (wd G 73 rfl)) (wd G 35 rfl) (ty := .int) (by decide) rfl rfl g_q0 (Safe.exa X45.hZ.alike f46 (by decide) (by decide)) d10_40 (fun T47 h48 L51 W50 X49 => ?_)
  have f52 := Fld.same W50 f43
  refine kALn X49 d10_43 rfl rfl ?_
  have K53 : Keep h0 h48 [q2, q0] := (Keep.wr (Keep.trans (Keep.refl h0 [q2, q0]) f41 (allS (Or.inl (List.mem_of_getElem? (i := 0) rfl)) all0)) W50 (Or.inl (List.mem_of_getElem? (i := 1) rfl)))
  have f54 := (Arv.other f42 W50 (Ne.symm d_q0_q2))
  have f55 := (Fld.other W50 (Fld.keep F_q0_coder f41 (ninS d_q0_q2 nin0)) (Or.inr (slot_ne (Or.inl (wd G 51 rfl)) (Or.inl (wd G 73 rfl)) (by decide) (by decide : parseFieldDescriptor "B" = some .byte) (by decide : parseFieldDescriptor "I" = some .int))))
  have f56 := (Fld.other W50 (Fld.keep F_q0_value f41 (ninS d_q0_q2 nin0)) (Or.inr (slot_ne (Or.inl (wd G 49 rfl)) (Or.inl (wd G 73 rfl)) (by decide) (by decide : parseFieldDescriptor "[B" = some (.array (.byte))) (by decide : parseFieldDescriptor "I" = some .int))))
  exact kRETA X49 (gEL G) hret rfl rfl d10_44 (fun ve hve => ⟨rfl, K53, f54, f55, f52, f56⟩) (by decide)
def R_rm111 : Room := { frames := 4, cells := 0, slots := 0, locals := 61 }
theorem rm111 (G : Glob Z a0 iCS vSI) (i0 i1 : Int32) (q0 q1 q2 q3 : Addr) (kp0 kp1 : ClassId) (h0 : Heap) (Z0 : n0 ≤ h0.size) (O0 : Old Z n0 h0) (F_q1_value : Fld Z h0 q1 "java/lang/String" "value" "[B" (.ref q3)) (A_q3 : Arv Z h0 q3 kp1 .byte 2 [.int i0, .int i1] (.int 0)) (F_q1_coder : Fld Z h0 q1 "java/lang/String" "coder" "B" (.int 0)) (E_q1 : Exa Z h0 q1 "java/lang/String") (F_q0_count : Fld Z h0 q0 "java/lang/AbstractStringBuilder" "count" "I" (.int 0)) (F_q0_value : Fld Z h0 q0 "java/lang/AbstractStringBuilder" "value" "[B" (.ref q2)) (A_q2 : Arv Z h0 q2 kp0 .byte 16 [.int 0, .int 0, .int 0, .int 0, .int 0, .int 0, .int 0, .int 0, .int 0, .int 0, .int 0, .int 0, .int 0, .int 0, .int 0, .int 0] (.int 0)) (F_q0_coder : Fld Z h0 q0 "java/lang/AbstractStringBuilder" "coder" "B" (.int 0)) (E_q0 : Exa Z h0 q0 "java/lang/StringBuilder") (d_q0_q2 : q0 ≠ q2) (g_q0 : n0 ≤ q0) (g_q2 : n0 ≤ q2) : MetH l Z EL0 n0 N_jdk_67_m_7 jdk_67_method_7_code 2 (some (.object "java/lang/StringBuilder")) [] R_rm111 #[.ref q0, .ref q1] h0 [q2] (fun vs v h ve => (v = some (.ref q0) ∧ (Keep h0 h [q2, q0]) ∧ (Arv Z h q2 kp0 .byte 16 [.int i0, .int i1, .int 0, .int 0, .int 0, .int 0, .int 0, .int 0, .int 0, .int 0, .int 0, .int 0, .int 0, .int 0, .int 0, .int 0] (.int 0)) ∧ (Fld Z h q0 "java/lang/AbstractStringBuilder" "coder" "B" (.int 0)) ∧ (Fld Z h q0 "java/lang/AbstractStringBuilder" "count" "I" (.int 2)) ∧ (Fld Z h q0 "java/lang/AbstractStringBuilder" "value" "[B" (.ref q2)))) := by
  refine MetH.of #[.val (.ref q0), .val (.ref q1)] (plainFor_of_name pn_java_lang_StringBuilder) rfl Z0 (fun p e s m below meth c T0 hret hml hnm hSL hs0 X0 => ?_)
  have S_q2 := hSL q2 (List.mem_of_getElem? (i := 0) rfl)
  refine kALn X0 d9_0 rfl rfl ?_
  refine kALn X0 d9_1 rfl rfl ?_
  refine kSUP X0 (gEL G) (argsL := [.ref q1]) (rest := []) (wd G 57 rfl) (own_same (wd G 58 rfl) (own_noface (wd G 77 rfl) rfl) (by decide)) (wd G 58 rfl) (wd G 59 rfl) (by decide) (wd G 44 rfl) (wd G 61 rfl) (Ins.of_exa E_q0 (wd G 43 rfl)) (rm112 G i0 i1 q0 q1 q2 q3 kp0 kp1 h0 X0.n O0 F_q1_value A_q3 F_q1_coder E_q1 F_q0_count F_q0_value A_q2 F_q0_coder E_q0 d_q0_q2 g_q0 g_q2) (allS ⟨(A_q2.lt), S_q2⟩ all0) (lenOf pd__Ljava_lang_String__Ljava_lang_AbstractStringBuilder_ rfl) rfl 0 rfl (by decide) hml.symm d9_2 (fun v1 T2 h3 vm4 _ w5 q6 C7 C8 X9 => ?_)
  obtain ⟨e11, f12, f13, f14, f15, f16⟩ := q6
  subst e11
  show Go _ _ _ _ _ (mkF _ _ _ [.ref q0])
  refine kPOP X9 d9_5 rfl ?_
  refine kALn X9 d9_6 rfl rfl ?_
  have K17 : Keep h0 h3 [q2, q0] := (Keep.trans (Keep.refl h0 [q2, q0]) f12 (allS (Or.inl (List.mem_of_getElem? (i := 0) rfl)) (allS (Or.inl (List.mem_of_getElem? (i := 1) rfl)) all0)))
  exact kRETA X9 (gEL G) hret rfl rfl d9_7 (fun ve hve => ⟨rfl, K17, f13, f14, f15, f16⟩) (by decide)
def R_rm121 : Room := { frames := 0, cells := 0, slots := 0, locals := 0 }
theorem rm121 (G : Glob Z a0 iCS vSI) (i0 i1 : Int32) (q0 q1 : Addr) (kp0 : ClassId) (h0 : Heap) (Z0 : n0 ≤ h0.size) (O0 : Old Z n0 h0) (F_q0_value : Fld Z h0 q0 "java/lang/AbstractStringBuilder" "value" "[B" (.ref q1)) (A_q1 : Arv Z h0 q1 kp0 .byte 16 [.int i0, .int i1, .int 0, .int 0, .int 0, .int 0, .int 0, .int 0, .int 0, .int 0, .int 0, .int 0, .int 0, .int 0, .int 0, .int 0] (.int 0)) (F_q0_coder : Fld Z h0 q0 "java/lang/AbstractStringBuilder" "coder" "B" (.int 0)) : MetH l Z EL0 n0 N_jdk_68_m_9 jdk_68_method_9_code 3 none [] R_rm121 #[.ref q0, .int 8] h0 [] (fun vs v h ve => (v = none ∧ (h0 = h))) := by
  refine MetH.of #[.val (.ref q0), .val (.int 8), .unset] (plainFor_of_name pn_java_lang_AbstractStringBuilder) rfl Z0 (fun p e s m below meth c T0 hret hml hnm hSL hs0 X0 => ?_)
  refine kALn X0 d13_0 rfl rfl ?_
  refine kGETF X0 (wd G 48 rfl) Via.refl F_q0_value d13_1 (fun T1 X2 => ?_)
  refine kLEN X2 A_q1 d13_4 ?_
  refine kALn X2 d13_5 rfl rfl ?_
  refine kGETF X2 (wd G 50 rfl) Via.refl F_q0_coder d13_6 (fun T3 X4 => ?_)
  refine kISHR X4 16 d13_9 (by decide) ?_
  refine kISn X4 #[.val (.ref q0), .val (.int 8), .val (.int 16)] d13_10 rfl ?_
  refine kILn X4 d13_11 rfl ?_
  refine kILn X4 d13_12 rfl ?_
  refine kISUB X4 (-8) d13_13 (by decide) ?_
  refine kIFt X4 38 d13_14 (XT.i0_le_t (by decide)) (by decide) ?_
  exact kRETV X4 (gEL G) hret d13_38 (fun ve hve => ⟨rfl, rfl⟩) (by decide)
def R_rm123 : Room := { frames := 1, cells := 0, slots := 0, locals := 13 }
theorem rm123 (G : Glob Z a0 iCS vSI) (i0 i1 : Int32) (q0 q1 q2 q3 : Addr) (kp0 kp1 : ClassId) (h0 : Heap) (Z0 : n0 ≤ h0.size) (O0 : Old Z n0 h0) (F_q0_coder : Fld Z h0 q0 "java/lang/AbstractStringBuilder" "coder" "B" (.int 0)) (F_q1_coder : Fld Z h0 q1 "java/lang/String" "coder" "B" (.int 0)) (E_q1 : Exa Z h0 q1 "java/lang/String") : MetH l Z EL0 n0 N_jdk_68_m_71 jdk_68_method_71_code 2 none [] R_rm123 #[.ref q0, .ref q1] h0 [] (fun vs v h ve => (v = none ∧ (h0 = h))) := by
  refine MetH.of #[.val (.ref q0), .val (.ref q1)] (plainFor_of_name pn_java_lang_AbstractStringBuilder) rfl Z0 (fun p e s m below meth c T0 hret hml hnm hSL hs0 X0 => ?_)
  refine kGETS X0 (wd G 47 rfl) Via.refl (Sta.ext O0.2 (S_CS G)) d15_0 (fun T1 X2 => ?_)
  refine kIFf X2 d15_3 (XT.i0_eq_f (n_CS G)) ?_
  refine kALn X2 d15_6 rfl rfl ?_
  refine kGETF X2 (wd G 50 rfl) Via.refl F_q0_coder d15_7 (fun T3 X4 => ?_)
  refine kALn X4 d15_10 rfl rfl ?_
  refine kVIRT X4 (gEL G) (argsL := []) (rest := [.int 0]) (wd G 89 rfl) (wd G 68 rfl) (own_nf X4.hZ (own_noinst (wd G 2 rfl))) (wd G 70 rfl) (wd G 69 rfl) (wd G 3 rfl) (wd G 71 rfl) (by decide) E_q1 (rm17 G q1 q3 kp1 h0 X4.n O0 F_q1_coder) all0 (lenOf pd___B rfl) rfl 1 rfl (by decide) hml.symm d15_11 (fun v5 T6 h7 vm8 _ w9 q10 C11 C12 X13 => ?_)
  obtain ⟨e15, f16⟩ := q10
  subst e15
  subst f16
  show Go _ _ _ _ _ (mkF _ _ _ [.int 0, .int 0])
  refine kICt X13 21 d15_14 (XT.ii_eq_t (by decide)) (by decide) ?_
  exact kRETV X13 (gEL G) hret d15_21 (fun ve hve => ⟨rfl, rfl⟩) (by decide)
def R_rm124 : Room := { frames := 1, cells := 0, slots := 0, locals := 18 }
theorem rm124 (G : Glob Z a0 iCS vSI) (i0 i1 : Int32) (q0 q1 q2 : Addr) (kp0 kp1 : ClassId) (h0 : Heap) (Z0 : n0 ≤ h0.size) (O0 : Old Z n0 h0) (F_q0_coder : Fld Z h0 q0 "java/lang/String" "coder" "B" (.int 0)) (E_q0 : Exa Z h0 q0 "java/lang/String") (F_q0_value : Fld Z h0 q0 "java/lang/String" "value" "[B" (.ref q2)) (A_q2 : Arv Z h0 q2 kp1 .byte 6 [.int 46, .int 108, .int 111, .int 119, .int 101, .int 114] (.int 0)) (A_q1 : Arv Z h0 q1 kp0 .byte 16 [.int i0, .int i1, .int 0, .int 0, .int 0, .int 0, .int 0, .int 0, .int 0, .int 0, .int 0, .int 0, .int 0, .int 0, .int 0, .int 0] (.int 0)) (g_q1 : n0 ≤ q1) : MetH l Z EL0 n0 N_jdk_42_m_147 jdk_42_method_147_code 4 none [] R_rm124 #[.ref q0, .ref q1, .int 2, .int 0] h0 [q1] (fun vs v h ve => (v = none ∧ (Keep h0 h [q1]) ∧ (Arv Z h q1 kp0 .byte 16 [.int i0, .int i1, .int 46, .int 108, .int 111, .int 119, .int 101, .int 114, .int 0, .int 0, .int 0, .int 0, .int 0, .int 0, .int 0, .int 0] (.int 0)))) := by
  refine MetH.of #[.val (.ref q0), .val (.ref q1), .val (.int 2), .val (.int 0)] (plainFor_of_name pn_java_lang_String) rfl Z0 (fun p e s m below meth c T0 hret hml hnm hSL hs0 X0 => ?_)
  have S_q1 := hSL q1 (List.mem_of_getElem? (i := 0) rfl)
  refine kALn X0 d16_0 rfl rfl ?_
  refine kVIRT X0 (gEL G) (argsL := []) (rest := []) (wd G 67 rfl) (wd G 68 rfl) (own_nf X0.hZ (own_noinst (wd G 2 rfl))) (wd G 70 rfl) (wd G 69 rfl) (wd G 3 rfl) (wd G 71 rfl) (by decide) E_q0 (rm17 G q0 q2 kp1 h0 X0.n O0 F_q0_coder) all0 (lenOf pd___B rfl) rfl 0 rfl (by decide) hml.symm d16_1 (fun v1 T2 h3 vm4 _ w5 q6 C7 C8 X9 => ?_)
  obtain ⟨e11, f12⟩ := q6
  subst e11
  subst f12
  show Go _ _ _ _ _ (mkF _ _ _ [.int 0])
  refine kILn X9 d16_4 rfl ?_
  refine kICf X9 d16_5 (XT.ii_ne_f (by decide)) ?_
  refine kALn X9 d16_8 rfl rfl ?_
  refine kGETF X9 (wd G 28 rfl) Via.refl F_q0_value d16_9 (fun T13 X14 => ?_)
  refine kIC X14 0 d16_12 (by decide) ?_
  refine kALn X14 d16_13 rfl rfl ?_
  refine kILn X14 d16_14 rfl ?_
  refine kILn X14 d16_15 rfl ?_
  refine kISHL X14 2 d16_16 (by decide) ?_
  refine kALn X14 d16_17 rfl rfl ?_
  refine kGETF X14 (wd G 28 rfl) Via.refl F_q0_value d16_18 (fun T15 X16 => ?_)
  refine kLEN X16 A_q2 d16_21 ?_
  have f17 := (CHr.safe C8 (A_q1.lt) S_q1)
  refine kCPA X16 (wd G 95 rfl) (wd G 98 rfl) (wd G 96 rfl) (wd G 97 rfl) A_q2 A_q1 (Or.inl ⟨rfl, rfl⟩) (us := [.int 46, .int 108, .int 111, .int 119, .int 101, .int 114]) (by decide) rfl (by show 8 ≤ 16; decide) g_q1 f17 hml.symm d16_22 (by decide) 0 (Nat.le_of_eq rfl) (by decide) (fun T18 h19 L21 K22 C23 f24 X20 => ?_)
  have f25 : Arv Z h19 q1 kp0 .byte 16 [.int i0, .int i1, .int 46, .int 108, .int 111, .int 119, .int 101, .int 114, .int 0, .int 0, .int 0, .int 0, .int 0, .int 0, .int 0, .int 0] (.int 0) := f24
  refine kGOTO X20 43 d16_25 (by decide) ?_
  have K26 : Keep h0 h19 [q1] := (Keep.trans (Keep.refl h0 [q1]) K22 (allS (Or.inl (List.mem_of_getElem? (i := 0) rfl)) all0))
  exact kRETV X20 (gEL G) hret d16_43 (fun ve hve => ⟨rfl, K26, f25⟩) (by decide)
def R_rm122 : Room := { frames := 2, cells := 0, slots := 0, locals := 33 }
theorem rm122 (G : Glob Z a0 iCS vSI) (i0 i1 : Int32) (q0 q1 q2 q3 : Addr) (kp0 kp1 : ClassId) (h0 : Heap) (Z0 : n0 ≤ h0.size) (O0 : Old Z n0 h0) (F_q0_coder : Fld Z h0 q0 "java/lang/AbstractStringBuilder" "coder" "B" (.int 0)) (F_q1_coder : Fld Z h0 q1 "java/lang/String" "coder" "B" (.int 0)) (E_q1 : Exa Z h0 q1 "java/lang/String") (E_q0 : Exa Z h0 q0 "java/lang/StringBuilder") (F_q0_value : Fld Z h0 q0 "java/lang/AbstractStringBuilder" "value" "[B" (.ref q2)) (F_q1_value : Fld Z h0 q1 "java/lang/String" "value" "[B" (.ref q3)) (A_q3 : Arv Z h0 q3 kp1 .byte 6 [.int 46, .int 108, .int 111, .int 119, .int 101, .int 114] (.int 0)) (A_q2 : Arv Z h0 q2 kp0 .byte 16 [.int i0, .int i1, .int 0, .int 0, .int 0, .int 0, .int 0, .int 0, .int 0, .int 0, .int 0, .int 0, .int 0, .int 0, .int 0, .int 0] (.int 0)) (g_q2 : n0 ≤ q2) : MetH l Z EL0 n0 N_jdk_68_m_73 jdk_68_method_73_code 3 none [] R_rm122 #[.ref q0, .int 2, .ref q1] h0 [q2] (fun vs v h ve => (v = none ∧ (Keep h0 h [q2]) ∧ (Arv Z h q2 kp0 .byte 16 [.int i0, .int i1, .int 46, .int 108, .int 111, .int 119, .int 101, .int 114, .int 0, .int 0, .int 0, .int 0, .int 0, .int 0, .int 0, .int 0] (.int 0)))) := by
  refine MetH.of #[.val (.ref q0), .val (.int 2), .val (.ref q1)] (plainFor_of_name pn_java_lang_AbstractStringBuilder) rfl Z0 (fun p e s m below meth c T0 hret hml hnm hSL hs0 X0 => ?_)
  have S_q2 := hSL q2 (List.mem_of_getElem? (i := 0) rfl)
  refine kALn X0 d14_0 rfl rfl ?_
  refine kALn X0 d14_1 rfl rfl ?_
  refine kVIRT X0 (gEL G) (argsL := [.ref q1]) (rest := []) (wd G 84 rfl) (own_decl (wd G 85 rfl) (wd G 88 rfl)) (own_nf X0.hZ (own_noface (wd G 77 rfl) rfl)) (wd G 87 rfl) (wd G 85 rfl) (wd G 44 rfl) (wd G 88 rfl) (by decide) E_q0 (rm123 G i0 i1 q0 q1 q2 q3 kp0 kp1 h0 X0.n O0 F_q0_coder F_q1_coder E_q1) all0 (lenOf pd__Ljava_lang_String__V rfl) rfl 0 rfl (by decide) hml.symm d14_2 (fun v1 T2 h3 vm4 _ w5 q6 C7 C8 X9 => ?_)
  obtain ⟨e11, f12⟩ := q6
  subst e11
  subst f12
  show Go _ _ _ _ _ (mkF _ _ _ [])
  refine kALn X9 d14_5 rfl rfl ?_
  refine kALn X9 d14_6 rfl rfl ?_
  refine kGETF X9 (wd G 48 rfl) Via.refl F_q0_value d14_7 (fun T13 X14 => ?_)
  refine kILn X14 d14_10 rfl ?_
  refine kALn X14 d14_11 rfl rfl ?_
  refine kGETF X14 (wd G 50 rfl) Via.refl F_q0_coder d14_12 (fun T15 X16 => ?_)
  have f26 := (CHr.safe C8 (A_q2.lt) S_q2)
  refine kVIRT X16 (gEL G) (argsL := [.ref q2, .int 2, .int 0]) (rest := []) (wd G 90 rfl) (wd G 91 rfl) (own_nf X16.hZ (own_noinst (wd G 2 rfl))) (wd G 93 rfl) (wd G 92 rfl) (wd G 3 rfl) (wd G 94 rfl) (by decide) E_q1 (rm124 G i0 i1 q1 q2 q3 kp0 kp1 h0 X16.n O0 F_q1_coder E_q1 F_q1_value A_q3 A_q2 g_q2) (allS ⟨(A_q2.lt), f26⟩ all0) (lenOf pd___BIB_V rfl) rfl 0 rfl (by decide) hml.symm d14_15 (fun v17 T18 h19 vm20 _ w21 q22 C23 C24 X25 => ?_)
  obtain ⟨e28, f29, f30⟩ := q22
  subst e28
  show Go _ _ _ _ _ (mkF _ _ _ [])
  have K31 : Keep h0 h19 [q2] := (Keep.trans (Keep.refl h0 [q2]) f29 (allS (Or.inl (List.mem_of_getElem? (i := 0) rfl)) all0))
  exact kRETV X25 (gEL G) hret d14_18 (fun ve hve => ⟨rfl, K31, f30⟩) (by decide)
def R_rm120 : Room := { frames := 3, cells := 0, slots := 0, locals := 47 }
theorem rm120 (G : Glob Z a0 iCS vSI) (i0 i1 : Int32) (q0 q1 q2 q3 : Addr) (kp0 kp1 : ClassId) (h0 : Heap) (Z0 : n0 ≤ h0.size) (O0 : Old Z n0 h0) (F_q1_value : Fld Z h0 q1 "java/lang/String" "value" "[B" (.ref q3)) (A_q3 : Arv Z h0 q3 kp1 .byte 6 [.int 46, .int 108, .int 111, .int 119, .int 101, .int 114] (.int 0)) (F_q1_coder : Fld Z h0 q1 "java/lang/String" "coder" "B" (.int 0)) (E_q1 : Exa Z h0 q1 "java/lang/String") (F_q0_count : Fld Z h0 q0 "java/lang/AbstractStringBuilder" "count" "I" (.int 2)) (F_q0_value : Fld Z h0 q0 "java/lang/AbstractStringBuilder" "value" "[B" (.ref q2)) (A_q2 : Arv Z h0 q2 kp0 .byte 16 [.int i0, .int i1, .int 0, .int 0, .int 0, .int 0, .int 0, .int 0, .int 0, .int 0, .int 0, .int 0, .int 0, .int 0, .int 0, .int 0] (.int 0)) (F_q0_coder : Fld Z h0 q0 "java/lang/AbstractStringBuilder" "coder" "B" (.int 0)) (E_q0 : Exa Z h0 q0 "java/lang/StringBuilder") (d_q0_q2 : q0 ≠ q2) (g_q0 : n0 ≤ q0) (g_q2 : n0 ≤ q2) : MetH l Z EL0 n0 N_jdk_68_m_22 jdk_68_method_22_code 3 (some (.object "java/lang/AbstractStringBuilder")) [] R_rm120 #[.ref q0, .ref q1] h0 [q2] (fun vs v h ve => (v = some (.ref q0) ∧ (Keep h0 h [q2, q0]) ∧ (Arv Z h q2 kp0 .byte 16 [.int i0, .int i1, .int 46, .int 108, .int 111, .int 119, .int 101, .int 114, .int 0, .int 0, .int 0, .int 0, .int 0, .int 0, .int 0, .int 0] (.int 0)) ∧ (Fld Z h q0 "java/lang/AbstractStringBuilder" "coder" "B" (.int 0)) ∧ (Fld Z h q0 "java/lang/AbstractStringBuilder" "count" "I" (.int 8)) ∧ (Fld Z h q0 "java/lang/AbstractStringBuilder" "value" "[B" (.ref q2)))) := by
  refine MetH.of #[.val (.ref q0), .val (.ref q1), .unset] (plainFor_of_name pn_java_lang_AbstractStringBuilder) rfl Z0 (fun p e s m below meth c T0 hret hml hnm hSL hs0 X0 => ?_)
  have S_q2 := hSL q2 (List.mem_of_getElem? (i := 0) rfl)
  refine kALn X0 d10_0 rfl rfl ?_
  refine kNNt X0 9 d10_1 (by decide) ?_
  refine kALn X0 d10_9 rfl rfl ?_
  refine kVIRT X0 (gEL G) (argsL := []) (rest := []) (wd G 62 rfl) (wd G 63 rfl) (own_nf X0.hZ (own_noinst (wd G 2 rfl))) (wd G 65 rfl) (wd G 64 rfl) (wd G 3 rfl) (wd G 66 rfl) (by decide) E_q1 (rm16 G q1 q3 kp1 h0 X0.n O0 F_q1_value A_q3 F_q1_coder E_q1) all0 (lenOf pd___I rfl) rfl 0 rfl (by decide) hml.symm d10_10 (fun v1 T2 h3 vm4 _ w5 q6 C7 C8 X9 => ?_)
  obtain ⟨e11, f12⟩ := q6
  subst e11
  subst f12
  show Go _ _ _ _ _ (mkF _ _ _ [.int 6])
  refine kISn X9 #[.val (.ref q0), .val (.ref q1), .val (.int 6)] d10_13 rfl ?_
  refine kALn X9 d10_14 rfl rfl ?_
  refine kALn X9 d10_15 rfl rfl ?_
  refine kGETF X9 (wd G 72 rfl) Via.refl F_q0_count d10_16 (fun T13 X14 => ?_)
  refine kILn X14 d10_19 rfl ?_
  refine kIADD X14 8 d10_20 (by decide) ?_
  refine kVIRT X14 (gEL G) (argsL := [.int 8]) (rest := []) (wd G 74 rfl) (own_decl (wd G 75 rfl) (wd G 78 rfl)) (own_nf X14.hZ (own_noface (wd G 77 rfl) rfl)) (wd G 77 rfl) (wd G 75 rfl) (wd G 44 rfl) (wd G 78 rfl) (by decide) E_q0 (rm121 G i0 i1 q0 q2 kp0 h0 X14.n O0 F_q0_value A_q2 F_q0_coder) all0 (lenOf pd__I_V rfl) rfl 0 rfl (by decide) hml.symm d10_21 (fun v15 T16 h17 vm18 _ w19 q20 C21 C22 X23 => ?_)
  obtain ⟨e25, f26⟩ := q20
  subst e25
  subst f26
  show Go _ _ _ _ _ (mkF _ _ _ [])
  refine kALn X23 d10_24 rfl rfl ?_
  refine kALn X23 d10_25 rfl rfl ?_
  refine kGETF X23 (wd G 72 rfl) Via.refl F_q0_count d10_26 (fun T27 X28 => ?_)
  refine kALn X28 d10_29 rfl rfl ?_
  have f38 := (CHr.safe C22 (A_q2.lt) (CHr.safe C8 (A_q2.lt) S_q2))
  refine kVIRT X28 (gEL G) (argsL := [.int 2, .ref q1]) (rest := []) (wd G 79 rfl) (own_decl (wd G 80 rfl) (wd G 83 rfl)) (own_nf X28.hZ (own_noface (wd G 77 rfl) rfl)) (wd G 82 rfl) (wd G 80 rfl) (wd G 44 rfl) (wd G 83 rfl) (by decide) E_q0 (rm122 G i0 i1 q0 q1 q2 q3 kp0 kp1 h0 X28.n O0 F_q0_coder F_q1_coder E_q1 E_q0 F_q0_value F_q1_value A_q3 A_q2 g_q2) (allS ⟨(A_q2.lt), f38⟩ all0) (lenOf pd__ILjava_lang_String__V rfl) rfl 0 rfl (by decide) hml.symm d10_30 (fun v29 T30 h31 vm32 _ w33 q34 C35 C36 X37 => ?_)
  obtain ⟨e40, f41, f42⟩ := q34
  subst e40
  show Go _ _ _ _ _ (mkF _ _ _ [])
  refine kALn X37 d10_33 rfl rfl ?_
  refine kDUP X37 d10_34 rfl ?_
  have f43 := (Fld.keep F_q0_count f41 (ninS d_q0_q2 nin0))
  refine kGETF X37 (wd G 72 rfl) Via.refl f43 d10_35 (fun T44 X45 => ?_)
  refine kILn X45 d10_38 rfl ?_
  refine kIADD X45 8 d10_39 (by decide) ?_
  have f46 := (Exa.keep E_q0 f41)
  refine kPUTF X45 (wd G 72 rfl) Via.refl f43 f46 (Or.inl (wd G 73 rfl)) (wd G 35 rfl) (ty := .int) (by decide) rfl rfl g_q0 (Safe.exa X45.hZ.alike f46 (by decide) (by decide)) d10_40 (fun T47 h48 L51 W50 X49 => ?_)
  have f52 := Fld.same W50 f43
  refine kALn X49 d10_43 rfl rfl ?_
  have K53 : Keep h0 h48 [q2, q0] := (Keep.wr (Keep.trans (Keep.refl h0 [q2, q0]) f41 (allS (Or.inl (List.mem_of_getElem? (i := 0) rfl)) all0)) W50 (Or.inl (List.mem_of_getElem? (i := 1) rfl)))
  have f54 := (Arv.other f42 W50 (Ne.symm d_q0_q2))
  have f55 := (Fld.other W50 (Fld.keep F_q0_coder f41 (ninS d_q0_q2 nin0)) (Or.inr (slot_ne (Or.inl (wd G 51 rfl)) (Or.inl (wd G 73 rfl)) (by decide) (by decide : parseFieldDescriptor "B" = some .byte) (by decide : parseFieldDescriptor "I" = some .int))))
  have f56 := (Fld.other W50 (Fld.keep F_q0_value f41 (ninS d_q0_q2 nin0)) (Or.inr (slot_ne (Or.inl (wd G 49 rfl)) (Or.inl (wd G 73 rfl)) (by decide) (by decide : parseFieldDescriptor "[B" = some (.array (.byte))) (by decide : parseFieldDescriptor "I" = some .int))))
  exact kRETA X49 (gEL G) hret rfl rfl d10_44 (fun ve hve => ⟨rfl, K53, f54, f55, f52, f56⟩) (by decide)
def R_rm119 : Room := { frames := 4, cells := 0, slots := 0, locals := 61 }
theorem rm119 (G : Glob Z a0 iCS vSI) (i0 i1 : Int32) (q0 q1 q2 q3 : Addr) (kp0 kp1 : ClassId) (h0 : Heap) (Z0 : n0 ≤ h0.size) (O0 : Old Z n0 h0) (F_q1_value : Fld Z h0 q1 "java/lang/String" "value" "[B" (.ref q3)) (A_q3 : Arv Z h0 q3 kp1 .byte 6 [.int 46, .int 108, .int 111, .int 119, .int 101, .int 114] (.int 0)) (F_q1_coder : Fld Z h0 q1 "java/lang/String" "coder" "B" (.int 0)) (E_q1 : Exa Z h0 q1 "java/lang/String") (F_q0_count : Fld Z h0 q0 "java/lang/AbstractStringBuilder" "count" "I" (.int 2)) (F_q0_value : Fld Z h0 q0 "java/lang/AbstractStringBuilder" "value" "[B" (.ref q2)) (A_q2 : Arv Z h0 q2 kp0 .byte 16 [.int i0, .int i1, .int 0, .int 0, .int 0, .int 0, .int 0, .int 0, .int 0, .int 0, .int 0, .int 0, .int 0, .int 0, .int 0, .int 0] (.int 0)) (F_q0_coder : Fld Z h0 q0 "java/lang/AbstractStringBuilder" "coder" "B" (.int 0)) (E_q0 : Exa Z h0 q0 "java/lang/StringBuilder") (d_q0_q2 : q0 ≠ q2) (g_q0 : n0 ≤ q0) (g_q2 : n0 ≤ q2) : MetH l Z EL0 n0 N_jdk_67_m_7 jdk_67_method_7_code 2 (some (.object "java/lang/StringBuilder")) [] R_rm119 #[.ref q0, .ref q1] h0 [q2] (fun vs v h ve => (v = some (.ref q0) ∧ (Keep h0 h [q2, q0]) ∧ (Arv Z h q2 kp0 .byte 16 [.int i0, .int i1, .int 46, .int 108, .int 111, .int 119, .int 101, .int 114, .int 0, .int 0, .int 0, .int 0, .int 0, .int 0, .int 0, .int 0] (.int 0)) ∧ (Fld Z h q0 "java/lang/AbstractStringBuilder" "coder" "B" (.int 0)) ∧ (Fld Z h q0 "java/lang/AbstractStringBuilder" "count" "I" (.int 8)) ∧ (Fld Z h q0 "java/lang/AbstractStringBuilder" "value" "[B" (.ref q2)))) := by
  refine MetH.of #[.val (.ref q0), .val (.ref q1)] (plainFor_of_name pn_java_lang_StringBuilder) rfl Z0 (fun p e s m below meth c T0 hret hml hnm hSL hs0 X0 => ?_)
  have S_q2 := hSL q2 (List.mem_of_getElem? (i := 0) rfl)
  refine kALn X0 d9_0 rfl rfl ?_
  refine kALn X0 d9_1 rfl rfl ?_
  refine kSUP X0 (gEL G) (argsL := [.ref q1]) (rest := []) (wd G 57 rfl) (own_same (wd G 58 rfl) (own_noface (wd G 77 rfl) rfl) (by decide)) (wd G 58 rfl) (wd G 59 rfl) (by decide) (wd G 44 rfl) (wd G 61 rfl) (Ins.of_exa E_q0 (wd G 43 rfl)) (rm120 G i0 i1 q0 q1 q2 q3 kp0 kp1 h0 X0.n O0 F_q1_value A_q3 F_q1_coder E_q1 F_q0_count F_q0_value A_q2 F_q0_coder E_q0 d_q0_q2 g_q0 g_q2) (allS ⟨(A_q2.lt), S_q2⟩ all0) (lenOf pd__Ljava_lang_String__Ljava_lang_AbstractStringBuilder_ rfl) rfl 0 rfl (by decide) hml.symm d9_2 (fun v1 T2 h3 vm4 _ w5 q6 C7 C8 X9 => ?_)
  obtain ⟨e11, f12, f13, f14, f15, f16⟩ := q6
  subst e11
  show Go _ _ _ _ _ (mkF _ _ _ [.ref q0])
  refine kPOP X9 d9_5 rfl ?_
  refine kALn X9 d9_6 rfl rfl ?_
  have K17 : Keep h0 h3 [q2, q0] := (Keep.trans (Keep.refl h0 [q2, q0]) f12 (allS (Or.inl (List.mem_of_getElem? (i := 0) rfl)) (allS (Or.inl (List.mem_of_getElem? (i := 1) rfl)) all0)))
  exact kRETA X9 (gEL G) hret rfl rfl d9_7 (fun ve hve => ⟨rfl, K17, f13, f14, f15, f16⟩) (by decide)
def R_rm128 : Room := { frames := 0, cells := 0, slots := 0, locals := 0 }
theorem rm128 (G : Glob Z a0 iCS vSI) (i0 i1 : Int32) (q0 q1 : Addr) (kp0 : ClassId) (h0 : Heap) (Z0 : n0 ≤ h0.size) (O0 : Old Z n0 h0) (F_q0_value : Fld Z h0 q0 "java/lang/AbstractStringBuilder" "value" "[B" (.ref q1)) : MetH l Z EL0 n0 N_jdk_68_m_64 jdk_68_method_64_code 1 (some (.array (.byte))) [] R_rm128 #[.ref q0] h0 [] (fun vs v h ve => (v = some (.ref q1) ∧ (h0 = h))) := by
  refine MetH.of #[.val (.ref q0)] (plainFor_of_name pn_java_lang_AbstractStringBuilder) rfl Z0 (fun p e s m below meth c T0 hret hml hnm hSL hs0 X0 => ?_)
  refine kALn X0 d20_0 rfl rfl ?_
  refine kGETF X0 (wd G 48 rfl) Via.refl F_q0_value d20_1 (fun T1 X2 => ?_)
  exact kRETA X2 (gEL G) hret rfl rfl d20_4 (fun ve hve => ⟨rfl, rfl⟩) (by decide)
def R_rm130 : Room := { frames := 0, cells := 0, slots := 0, locals := 0 }
theorem rm130 (G : Glob Z a0 iCS vSI) (i0 i1 : Int32) (q0 q1 : Addr) (kp0 : ClassId) (h0 : Heap) (Z0 : n0 ≤ h0.size) (O0 : Old Z n0 h0) (F_q0_count : Fld Z h0 q0 "java/lang/AbstractStringBuilder" "count" "I" (.int 8)) : MetH l Z EL0 n0 N_jdk_68_m_6 jdk_68_method_6_code 1 (some .int) [] R_rm130 #[.ref q0] h0 [] (fun vs v h ve => (v = some (.int 8) ∧ (h0 = h))) := by
  refine MetH.of #[.val (.ref q0)] (plainFor_of_name pn_java_lang_AbstractStringBuilder) rfl Z0 (fun p e s m below meth c T0 hret hml hnm hSL hs0 X0 => ?_)
  refine kALn X0 d22_0 rfl rfl ?_
  refine kGETF X0 (wd G 72 rfl) Via.refl F_q0_count d22_1 (fun T1 X2 => ?_)
  exact kRETI X2 (gEL G) hret d22_4 (fun ve hve => ⟨rfl, rfl⟩) (by decide)
def R_rm129 : Room := { frames := 1, cells := 0, slots := 0, locals := 12 }
theorem rm129 (G : Glob Z a0 iCS vSI) (i0 i1 : Int32) (q0 q1 : Addr) (kp0 : ClassId) (h0 : Heap) (Z0 : n0 ≤ h0.size) (O0 : Old Z n0 h0) (F_q0_count : Fld Z h0 q0 "java/lang/AbstractStringBuilder" "count" "I" (.int 8)) (E_q0 : Exa Z h0 q0 "java/lang/StringBuilder") : MetH l Z EL0 n0 N_jdk_67_m_93 jdk_67_method_93_code 1 (some .int) [] R_rm129 #[.ref q0] h0 [] (fun vs v h ve => (v = some (.int 8) ∧ (h0 = h))) := by
  refine MetH.of #[.val (.ref q0)] (plainFor_of_name pn_java_lang_StringBuilder) rfl Z0 (fun p e s m below meth c T0 hret hml hnm hSL hs0 X0 => ?_)
  refine kALn X0 d21_0 rfl rfl ?_
  refine kSUP X0 (gEL G) (argsL := []) (rest := []) (wd G 125 rfl) (own_same (wd G 121 rfl) (own_noface (wd G 77 rfl) rfl) (by decide)) (wd G 121 rfl) (wd G 59 rfl) (by decide) (wd G 44 rfl) (wd G 126 rfl) (Ins.of_exa E_q0 (wd G 43 rfl)) (rm130 G i0 i1 q0 q1 kp0 h0 X0.n O0 F_q0_count) all0 (lenOf pd___I rfl) rfl 0 rfl (by decide) hml.symm d21_1 (fun v1 T2 h3 vm4 _ w5 q6 C7 C8 X9 => ?_)
  obtain ⟨e11, f12⟩ := q6
  subst e11
  subst f12
  show Go _ _ _ _ _ (mkF _ _ _ [.int 8])
  exact kRETI X9 (gEL G) hret d21_4 (fun ve hve => ⟨rfl, rfl⟩) (by decide)
def R_rm131 : Room := { frames := 0, cells := 0, slots := 0, locals := 0 }
theorem rm131 (G : Glob Z a0 iCS vSI) (i0 i1 : Int32) (q0 q1 : Addr) (kp0 : ClassId) (h0 : Heap) (Z0 : n0 ≤ h0.size) (O0 : Old Z n0 h0) (F_q0_coder : Fld Z h0 q0 "java/lang/AbstractStringBuilder" "coder" "B" (.int 0)) : MetH l Z EL0 n0 N_jdk_68_m_68 jdk_68_method_68_code 1 (some .boolean) [] R_rm131 #[.ref q0] h0 [] (fun vs v h ve => (v = some (.int 1) ∧ (h0 = h))) := by
  refine MetH.of #[.val (.ref q0)] (plainFor_of_name pn_java_lang_AbstractStringBuilder) rfl Z0 (fun p e s m below meth c T0 hret hml hnm hSL hs0 X0 => ?_)
  refine kGETS X0 (wd G 47 rfl) Via.refl (Sta.ext O0.2 (S_CS G)) d23_0 (fun T1 X2 => ?_)
  refine kIFf X2 d23_3 (XT.i0_eq_f (n_CS G)) ?_
  refine kALn X2 d23_6 rfl rfl ?_
  refine kGETF X2 (wd G 50 rfl) Via.refl F_q0_coder d23_7 (fun T3 X4 => ?_)
  refine kIFf X4 d23_10 (XT.i0_ne_f (by decide)) ?_
  refine kIC X4 1 d23_13 (by decide) ?_
  refine kGOTO X4 18 d23_14 (by decide) ?_
  exact kRETZ X4 (gEL G) (t := .boolean) hret (by simp) d23_18 (fun ve hve => ⟨rfl, rfl⟩) (by decide)
def R_rm134 : Room := { frames := 0, cells := 0, slots := 0, locals := 0 }
theorem rm134 (G : Glob Z a0 iCS vSI)  (h0 : Heap) (Z0 : n0 ≤ h0.size) (O0 : Old Z n0 h0)  : MetH l Z EL0 n0 N_jdk_65_m_131 jdk_65_method_131_code 2 none [] R_rm134 #[.int 0, .int 8] h0 [] (fun vs v h ve => (v = none ∧ (h0 = h))) := by
  refine MetH.of #[.val (.int 0), .val (.int 8)] (plainFor_of_name pn_java_util_Arrays) rfl Z0 (fun p e s m below meth c T0 hret hml hnm hSL hs0 X0 => ?_)
  refine kILn X0 d26_0 rfl ?_
  refine kILn X0 d26_1 rfl ?_
  refine kICt X0 37 d26_2 (XT.ii_ge_t (by decide)) (by decide) ?_
  exact kRETV X0 (gEL G) hret d26_37 (fun ve hve => ⟨rfl, rfl⟩) (by decide)
def R_rm135 : Room := { frames := 0, cells := 0, slots := 0, locals := 0 }
theorem rm135 (G : Glob Z a0 iCS vSI)  (h0 : Heap) (Z0 : n0 ≤ h0.size) (O0 : Old Z n0 h0)  : MetH l Z EL0 n0 N_jdk_29_m_69 jdk_29_method_69_code 2 (some .int) [] R_rm135 #[.int 16, .int 8] h0 [] (fun vs v h ve => (v = some (.int 8) ∧ (h0 = h))) := by
  refine MetH.of #[.val (.int 16), .val (.int 8)] pf_java_lang_Math_min rfl Z0 (fun p e s m below meth c T0 hret hml hnm hSL hs0 X0 => ?_)
  refine kILn X0 d27_0 rfl ?_
  refine kILn X0 d27_1 rfl ?_
  refine kICt X0 9 d27_2 (XT.ii_gt_t (by decide)) (by decide) ?_
  refine kILn X0 d27_9 rfl ?_
  exact kRETI X0 (gEL G) hret d27_10 (fun ve hve => ⟨rfl, rfl⟩) (by decide)
def R_rm133 : Room := { frames := 1, cells := 1, slots := 8, locals := 18 }
theorem rm133 (G : Glob Z a0 iCS vSI) (i0 i1 : Int32) (q0 : Addr) (kp0 : ClassId) (h0 : Heap) (Z0 : n0 ≤ h0.size) (O0 : Old Z n0 h0) (A_q0 : Arv Z h0 q0 kp0 .byte 16 [.int i0, .int i1, .int 46, .int 108, .int 111, .int 119, .int 101, .int 114, .int 0, .int 0, .int 0, .int 0, .int 0, .int 0, .int 0, .int 0] (.int 0)) : MetH l Z EL0 n0 N_jdk_65_m_133 jdk_65_method_133_code 5 (some (.array (.byte))) [] R_rm133 #[.ref q0, .int 0, .int 8] h0 [] (fun vs v h ve => (∃ (x0 : Addr), ∃ (z0 : ClassId), v = some (.ref x0) ∧ (Keep h0 h []) ∧ (h0.size ≤ x0) ∧ (Arv Z h x0 z0 .byte 8 [.int i0, .int i1, .int 46, .int 108, .int 111, .int 119, .int 101, .int 114] (.int 0)) ∧ (Safe Z EL0 ve h x0))) := by
  refine MetH.of #[.val (.ref q0), .val (.int 0), .val (.int 8), .unset, .unset] (plainFor_of_name pn_java_util_Arrays) rfl Z0 (fun p e s m below meth c T0 hret hml hnm hSL hs0 X0 => ?_)
  refine kILn X0 d25_0 rfl ?_
  refine kILn X0 d25_1 rfl ?_
  refine kSTAT X0 (gEL G) (argsL := [.int 0, .int 8]) (rest := []) (wd G 139 rfl) (wd G 140 rfl) (wd G 134 rfl) (wd G 141 rfl) (by decide) (rm134 G  h0 X0.n O0 ) all0 (lenOf pd__II_V rfl) rfl 0 rfl (by decide) hml.symm d25_2 (fun v1 T2 h3 vm4 _ w5 q6 C7 C8 X9 => ?_)
  obtain ⟨e11, f12⟩ := q6
  subst e11
  subst f12
  show Go _ _ _ _ _ (mkF _ _ _ [])
  refine kILn X9 d25_5 rfl ?_
  refine kILn X9 d25_6 rfl ?_
  refine kISUB X9 8 d25_7 (by decide) ?_
  refine kISn X9 #[.val (.ref q0), .val (.int 0), .val (.int 8), .val (.int 8), .unset] d25_8 rfl ?_
  refine kILn X9 d25_9 rfl ?_
  refine kNEWP X9 (wd G 19 rfl) (cap := 8) d25_10 (by decide) (by decide) (by decide) (by decide) (by decide) (fun T13 h14 a16 k17 E18 q19 g20 A21 s22 X15 => ?_)
  have n23 : q0 ≠ a16 := Nat.ne_of_lt (Nat.lt_of_lt_of_le (A_q0.lt) (Nat.le_of_eq q19.symm))
  have g24 : h0.size ≤ a16 := q19 ▸ X9.g0
  have f25 : Arv Z h14 a16 k17 .byte 8 [.int 0, .int 0, .int 0, .int 0, .int 0, .int 0, .int 0, .int 0] (.int 0) := A21.pad (pad_rep [] _ 8)
  refine kAS X15 #[.val (.ref q0), .val (.int 0), .val (.int 8), .val (.int 8), .val (.ref a16)] d25_12 rfl rfl ?_
  refine kALn X15 d25_14 rfl rfl ?_
  refine kILn X15 d25_15 rfl ?_
  refine kAL X15 d25_16 rfl rfl ?_
  refine kIC X15 0 d25_18 (by decide) ?_
  refine kALn X15 d25_19 rfl rfl ?_
  have f26 := (Arv.ext A_q0 E18)
  refine kLEN X15 f26 d25_20 ?_
  refine kILn X15 d25_21 rfl ?_
  refine kISUB X15 16 d25_22 (by decide) ?_
  refine kILn X15 d25_23 rfl ?_
  have f27 := (Old.ext O0 E18)
  refine kSTAT X15 (gEL G) (argsL := [.int 16, .int 8]) (rest := [.int 0, .ref a16, .int 0, .ref q0]) (wd G 142 rfl) (wd G 143 rfl) (wd G 144 rfl) (wd G 145 rfl) (by decide) (rm135 G  h14 X15.n f27 ) all0 (lenOf pd__II_I rfl) rfl 4 rfl (by decide) hml.symm d25_24 (fun v28 T29 h30 vm31 _ w32 q33 C34 C35 X36 => ?_)
  obtain ⟨e38, f39⟩ := q33
  subst e38
  subst f39
  show Go _ _ _ _ _ (mkF _ _ _ [.int 8, .int 0, .ref a16, .int 0, .ref q0])
  have f40 := (CHr.safe C35 (f25.lt) s22)
  refine kCPA X36 (wd G 146 rfl) (wd G 98 rfl) (wd G 96 rfl) (wd G 97 rfl) f26 f25 (Or.inl ⟨rfl, rfl⟩) (us := [.int i0, .int i1, .int 46, .int 108, .int 111, .int 119, .int 101, .int 114]) (by decide) rfl (by show 8 ≤ 8; decide) g20 f40 hml.symm d25_27 (by decide) 0 (Nat.le_of_eq rfl) (by decide) (fun T41 h42 L44 K45 C46 f47 X43 => ?_)
  have f48 : Arv Z h42 a16 k17 .byte 8 [.int i0, .int i1, .int 46, .int 108, .int 111, .int 119, .int 101, .int 114] (.int 0) := f47
  refine kAL X43 d25_30 rfl rfl ?_
  have K49 : Keep h0 h42 [] := (Keep.trans (Keep.ext (Keep.refl h0 []) E18) K45 (allS (Or.inr g24) all0))
  have f50 := (CHr.safe C46 (f25.lt) f40)
  exact kRETA X43 (gEL G) hret rfl rfl d25_32 (fun ve hve => ⟨a16, k17, rfl, K49, g24, f48, (CHr.safe hve (f48.lt) f50)⟩) (by decide)
def R_rm132 : Room := { frames := 2, cells := 1, slots := 8, locals := 34 }
theorem rm132 (G : Glob Z a0 iCS vSI) (i0 i1 : Int32) (q0 : Addr) (kp0 : ClassId) (h0 : Heap) (Z0 : n0 ≤ h0.size) (O0 : Old Z n0 h0) (A_q0 : Arv Z h0 q0 kp0 .byte 16 [.int i0, .int i1, .int 46, .int 108, .int 111, .int 119, .int 101, .int 114, .int 0, .int 0, .int 0, .int 0, .int 0, .int 0, .int 0, .int 0] (.int 0)) : MetH l Z EL0 n0 N_jdk_65_m_132 jdk_65_method_132_code 3 (some (.array (.byte))) [] R_rm132 #[.ref q0, .int 0, .int 8] h0 [] (fun vs v h ve => (∃ (x0 : Addr), ∃ (z0 : ClassId), v = some (.ref x0) ∧ (Keep h0 h []) ∧ (h0.size ≤ x0) ∧ (Arv Z h x0 z0 .byte 8 [.int i0, .int i1, .int 46, .int 108, .int 111, .int 119, .int 101, .int 114] (.int 0)) ∧ (Safe Z EL0 ve h x0))) := by
  refine MetH.of #[.val (.ref q0), .val (.int 0), .val (.int 8)] (plainFor_of_name pn_java_util_Arrays) rfl Z0 (fun p e s m below meth c T0 hret hml hnm hSL hs0 X0 => ?_)
  refine kILn X0 d24_0 rfl ?_
  refine kIFf X0 d24_1 (XT.i0_ne_f (by decide)) ?_
  refine kILn X0 d24_4 rfl ?_
  refine kALn X0 d24_5 rfl rfl ?_
  refine kLEN X0 A_q0 d24_6 ?_
  refine kICf X0 d24_7 (XT.ii_eq_f (by decide)) ?_
  refine kALn X0 d24_10 rfl rfl ?_
  refine kILn X0 d24_11 rfl ?_
  refine kILn X0 d24_12 rfl ?_
  refine kSTAT X0 (gEL G) (argsL := [.ref q0, .int 0, .int 8]) (rest := []) (wd G 136 rfl) (wd G 137 rfl) (wd G 134 rfl) (wd G 138 rfl) (by decide) (rm133 G i0 i1 q0 kp0 h0 X0.n O0 A_q0) all0 (lenOf pd___BII__B rfl) rfl 0 rfl (by decide) hml.symm d24_13 (fun v1 T2 h3 vm4 _ w5 q6 C7 C8 X9 => ?_)
  obtain ⟨a11, k12, e13, f14, f15, f16, f17⟩ := q6
  subst e13
  have n18 : q0 ≠ a11 := Nat.ne_of_lt (Nat.lt_of_lt_of_le (A_q0.lt) f15)
  have g19 : n0 ≤ a11 := Nat.le_trans X0.n f15
  have g20 : h0.size ≤ a11 := Nat.le_trans X0.g0 f15
  show Go _ _ _ _ _ (mkF _ _ _ [.ref a11])
  have K21 : Keep h0 h3 [] := (Keep.trans (Keep.refl h0 []) f14 all0)
  exact kRETA X9 (gEL G) hret rfl rfl d24_16 (fun ve hve => ⟨a11, k12, rfl, K21, g20, f16, (CHr.safe hve (f16.lt) f17)⟩) (by decide)
def R_rm127 : Room := { frames := 3, cells := 1, slots := 8, locals := 49 }
theorem rm127 (G : Glob Z a0 iCS vSI) (i0 i1 : Int32) (q0 q1 q2 : Addr) (kp0 : ClassId) (h0 : Heap) (Z0 : n0 ≤ h0.size) (O0 : Old Z n0 h0) (F_q1_value : Fld Z h0 q1 "java/lang/AbstractStringBuilder" "value" "[B" (.ref q2)) (E_q1 : Exa Z h0 q1 "java/lang/StringBuilder") (F_q1_count : Fld Z h0 q1 "java/lang/AbstractStringBuilder" "count" "I" (.int 8)) (F_q1_coder : Fld Z h0 q1 "java/lang/AbstractStringBuilder" "coder" "B" (.int 0)) (F_q0_coder : Fld Z h0 q0 "java/lang/String" "coder" "B" (.int 0)) (E_q0 : Exa Z h0 q0 "java/lang/String") (F_q0_value : Fld Z h0 q0 "java/lang/String" "value" "[B" (.null)) (A_q2 : Arv Z h0 q2 kp0 .byte 16 [.int i0, .int i1, .int 46, .int 108, .int 111, .int 119, .int 101, .int 114, .int 0, .int 0, .int 0, .int 0, .int 0, .int 0, .int 0, .int 0] (.int 0)) (d_q2_q0 : q2 ≠ q0) (g_q0 : n0 ≤ q0) : MetH l Z EL0 n0 N_jdk_42_m_150 jdk_42_method_150_code 5 none [] R_rm127 #[.ref q0, .ref q1, .null] h0 [q0] (fun vs v h ve => (∃ (x0 : Addr), ∃ (z0 : ClassId), v = none ∧ (Keep h0 h [q0]) ∧ (h0.size ≤ x0) ∧ (Arv Z h x0 z0 .byte 8 [.int i0, .int i1, .int 46, .int 108, .int 111, .int 119, .int 101, .int 114] (.int 0)) ∧ (Safe Z EL0 ve h x0) ∧ (Fld Z h q0 "java/lang/String" "coder" "B" (.int 0)) ∧ (Fld Z h q0 "java/lang/String" "value" "[B" (.ref x0)))) := by
  refine MetH.of #[.val (.ref q0), .val (.ref q1), .val .null, .unset, .unset] (plainFor_of_name pn_java_lang_String) rfl Z0 (fun p e s m below meth c T0 hret hml hnm hSL hs0 X0 => ?_)
  have S_q0 := hSL q0 (List.mem_of_getElem? (i := 0) rfl)
  refine kALn X0 d19_0 rfl rfl ?_
  refine kINIT X0 (wd G 11 rfl) (wd G 12 rfl) (wd G 13 rfl) hml.symm d19_1 (by decide) 0 (Nat.le_of_eq rfl) (by decide) (fun T1 X2 => ?_)
  refine kALn X2 d19_4 rfl rfl ?_
  refine kVIRT X2 (gEL G) (argsL := []) (rest := []) (wd G 114 rfl) (wd G 115 rfl) (own_nf X2.hZ (own_noface (wd G 77 rfl) rfl)) (wd G 117 rfl) (wd G 116 rfl) (wd G 44 rfl) (wd G 118 rfl) (by decide) E_q1 (rm128 G i0 i1 q1 q2 kp0 h0 X2.n O0 F_q1_value) all0 (lenOf pd____B rfl) rfl 0 rfl (by decide) hml.symm d19_5 (fun v3 T4 h5 vm6 _ w7 q8 C9 C10 X11 => ?_)
  obtain ⟨e13, f14⟩ := q8
  subst e13
  subst f14
  show Go _ _ _ _ _ (mkF _ _ _ [.ref q2])
  refine kASn X11 #[.val (.ref q0), .val (.ref q1), .val .null, .val (.ref q2), .unset] d19_8 rfl rfl ?_
  refine kALn X11 d19_9 rfl rfl ?_
  refine kVIRT X11 (gEL G) (argsL := []) (rest := []) (wd G 119 rfl) (wd G 120 rfl) (own_nf X11.hZ (own_noface (wd G 77 rfl) rfl)) (wd G 122 rfl) (wd G 123 rfl) (wd G 36 rfl) (wd G 124 rfl) (by decide) E_q1 (rm129 G i0 i1 q1 q2 kp0 h0 X11.n O0 F_q1_count E_q1) all0 (lenOf pd___I rfl) rfl 0 rfl (by decide) hml.symm d19_10 (fun v15 T16 h17 vm18 _ w19 q20 C21 C22 X23 => ?_)
  obtain ⟨e25, f26⟩ := q20
  subst e25
  subst f26
  show Go _ _ _ _ _ (mkF _ _ _ [.int 8])
  refine kIS X23 #[.val (.ref q0), .val (.ref q1), .val .null, .val (.ref q2), .val (.int 8)] d19_13 rfl ?_
  refine kALn X23 d19_15 rfl rfl ?_
  refine kVIRT X23 (gEL G) (argsL := []) (rest := []) (wd G 127 rfl) (wd G 128 rfl) (own_nf X23.hZ (own_noface (wd G 77 rfl) rfl)) (wd G 130 rfl) (wd G 129 rfl) (wd G 44 rfl) (wd G 131 rfl) (by decide) E_q1 (rm131 G i0 i1 q1 q2 kp0 h0 X23.n O0 F_q1_coder) all0 (lenOf pd___Z rfl) rfl 0 rfl (by decide) hml.symm d19_16 (fun v27 T28 h29 vm30 _ w31 q32 C33 C34 X35 => ?_)
  obtain ⟨e37, f38⟩ := q32
  subst e37
  subst f38
  show Go _ _ _ _ _ (mkF _ _ _ [.int 1])
  refine kIFf X35 d19_19 (XT.i0_eq_f (by decide)) ?_
  refine kALn X35 d19_22 rfl rfl ?_
  refine kIC X35 0 d19_23 (by decide) ?_
  have f39 := (CHr.safe C34 (F_q0_value.lt) (CHr.safe C22 (F_q0_value.lt) (CHr.safe C10 (F_q0_value.lt) S_q0)))
  refine kPUTF X35 (wd G 26 rfl) Via.refl F_q0_coder E_q0 (Or.inr ⟨(wd G 27 rfl), rfl, hnm⟩) (wd G 2 rfl) (ty := .byte) (by decide) (by decide) (by decide) g_q0 f39 d19_24 (fun T40 h41 L44 W43 X42 => ?_)
  have f45 := Fld.same W43 F_q0_coder
  refine kALn X42 d19_27 rfl rfl ?_
  refine kALn X42 d19_28 rfl rfl ?_
  refine kIC X42 0 d19_29 (by decide) ?_
  refine kIL X42 d19_30 rfl ?_
  have f46 := (Arv.other A_q2 W43 d_q2_q0)
  have f47 := (Old.wr O0 W43 g_q0)
  refine kSTAT X42 (gEL G) (argsL := [.ref q2, .int 0, .int 8]) (rest := [.ref q0]) (wd G 132 rfl) (wd G 133 rfl) (wd G 134 rfl) (wd G 135 rfl) (by decide) (rm132 G i0 i1 q2 kp0 h41 X42.n f47 f46) all0 (lenOf pd___BII__B rfl) rfl 1 rfl (by decide) hml.symm d19_32 (fun v48 T49 h50 vm51 _ w52 q53 C54 C55 X56 => ?_)
  obtain ⟨a58, k59, e60, f61, f62, f63, f64⟩ := q53
  subst e60
  have n65 : q0 ≠ a58 := Nat.ne_of_lt (Nat.lt_of_lt_of_le (f45.lt) f62)
  have f67 := (Exa.wr W43 E_q1)
  have n66 : q1 ≠ a58 := Nat.ne_of_lt (Nat.lt_of_lt_of_le (f67.lt) f62)
  have n68 : q2 ≠ a58 := Nat.ne_of_lt (Nat.lt_of_lt_of_le (f46.lt) f62)
  have g69 : n0 ≤ a58 := Nat.le_trans X42.n f62
  have g70 : h0.size ≤ a58 := Nat.le_trans X42.g0 f62
  show Go _ _ _ _ _ (mkF _ _ _ [.ref a58, .ref q0])
  have f71 := (Fld.keep (Fld.other W43 F_q0_value (Or.inr (slot_ne (Or.inr (wd G 29 rfl)) (Or.inr (wd G 27 rfl)) (by decide) (by decide : parseFieldDescriptor "[B" = some (.array (.byte))) (by decide : parseFieldDescriptor "B" = some .byte)))) f61 nin0)
  have f72 := (Exa.keep (Exa.wr W43 E_q0) f61)
  have f73 := (CHr.safe C55 (f45.lt) (Safe.wr W43 f39 X35.C.1 f39))
  refine kPUTF X56 (wd G 28 rfl) Via.refl f71 f72 (Or.inr ⟨(wd G 29 rfl), rfl, hnm⟩) (wd G 2 rfl) (ty := (.array (.byte))) (by decide) rfl rfl g_q0 f73 d19_35 (fun T74 h75 L78 W77 X76 => ?_)
  have f79 := Fld.same W77 f71
  refine kGOTO X76 97 d19_38 (by decide) ?_
  have K80 : Keep h0 h75 [q0] := (Keep.wr (Keep.trans (Keep.wr (Keep.refl h0 [q0]) W43 (Or.inl (List.mem_of_getElem? (i := 0) rfl))) f61 all0) W77 (Or.inl (List.mem_of_getElem? (i := 0) rfl)))
  have f81 := (Arv.other f63 W77 (Ne.symm n65))
  have f82 := (Safe.wr W77 f73 X56.C.1 f64)
  have f83 := (Fld.other W77 (Fld.keep f45 f61 nin0) (Or.inr (slot_ne (Or.inr (wd G 27 rfl)) (Or.inr (wd G 29 rfl)) (by decide) (by decide : parseFieldDescriptor "B" = some .byte) (by decide : parseFieldDescriptor "[B" = some (.array (.byte))))))
  exact kRETV X76 (gEL G) hret d19_97 (fun ve hve => ⟨a58, k59, rfl, K80, g70, f81, (CHr.safe hve (f81.lt) f82), f83, f79⟩) (by decide)
def R_rm126 : Room := { frames := 4, cells := 1, slots := 8, locals := 65 }
theorem rm126 (G : Glob Z a0 iCS vSI) (i0 i1 : Int32) (q0 q1 q2 : Addr) (kp0 : ClassId) (h0 : Heap) (Z0 : n0 ≤ h0.size) (O0 : Old Z n0 h0) (F_q1_value : Fld Z h0 q1 "java/lang/AbstractStringBuilder" "value" "[B" (.ref q2)) (E_q1 : Exa Z h0 q1 "java/lang/StringBuilder") (F_q1_count : Fld Z h0 q1 "java/lang/AbstractStringBuilder" "count" "I" (.int 8)) (F_q1_coder : Fld Z h0 q1 "java/lang/AbstractStringBuilder" "coder" "B" (.int 0)) (F_q0_coder : Fld Z h0 q0 "java/lang/String" "coder" "B" (.int 0)) (E_q0 : Exa Z h0 q0 "java/lang/String") (F_q0_value : Fld Z h0 q0 "java/lang/String" "value" "[B" (.null)) (A_q2 : Arv Z h0 q2 kp0 .byte 16 [.int i0, .int i1, .int 46, .int 108, .int 111, .int 119, .int 101, .int 114, .int 0, .int 0, .int 0, .int 0, .int 0, .int 0, .int 0, .int 0] (.int 0)) (d_q2_q0 : q2 ≠ q0) (g_q0 : n0 ≤ q0) : MetH l Z EL0 n0 N_jdk_42_m_53 jdk_42_method_53_code 2 none [] R_rm126 #[.ref q0, .ref q1] h0 [q0] (fun vs v h ve => (∃ (x0 : Addr), ∃ (z0 : ClassId), v = none ∧ (Keep h0 h [q0]) ∧ (h0.size ≤ x0) ∧ (Arv Z h x0 z0 .byte 8 [.int i0, .int i1, .int 46, .int 108, .int 111, .int 119, .int 101, .int 114] (.int 0)) ∧ (Safe Z EL0 ve h x0) ∧ (Fld Z h q0 "java/lang/String" "coder" "B" (.int 0)) ∧ (Fld Z h q0 "java/lang/String" "value" "[B" (.ref x0)))) := by
  refine MetH.of #[.val (.ref q0), .val (.ref q1)] (plainFor_of_name pn_java_lang_String) rfl Z0 (fun p e s m below meth c T0 hret hml hnm hSL hs0 X0 => ?_)
  have S_q0 := hSL q0 (List.mem_of_getElem? (i := 0) rfl)
  refine kALn X0 d18_0 rfl rfl ?_
  refine kALn X0 d18_1 rfl rfl ?_
  refine kNULL X0 d18_2 ?_
  refine kSPEC X0 (gEL G) (argsL := [.ref q1, .null]) (rest := []) (wd G 111 rfl) (wd G 112 rfl) (wd G 3 rfl) (wd G 113 rfl) rfl (by decide) (rm127 G i0 i1 q0 q1 q2 kp0 h0 X0.n O0 F_q1_value E_q1 F_q1_count F_q1_coder F_q0_coder E_q0 F_q0_value A_q2 d_q2_q0 g_q0) (allS ⟨(E_q0.lt), S_q0⟩ all0) (lenOf pd__Ljava_lang_AbstractStringBuilder_Ljava_lang_Void__V rfl) rfl 0 rfl (by decide) hml.symm d18_3 (fun v1 T2 h3 vm4 _ w5 q6 C7 C8 X9 => ?_)
  obtain ⟨a11, k12, e13, f14, f15, f16, f17, f18, f19⟩ := q6
  subst e13
  have n20 : q0 ≠ a11 := Nat.ne_of_lt (Nat.lt_of_lt_of_le (E_q0.lt) f15)
  have n21 : q1 ≠ a11 := Nat.ne_of_lt (Nat.lt_of_lt_of_le (E_q1.lt) f15)
  have n22 : q2 ≠ a11 := Nat.ne_of_lt (Nat.lt_of_lt_of_le (A_q2.lt) f15)
  have g23 : n0 ≤ a11 := Nat.le_trans X0.n f15
  have g24 : h0.size ≤ a11 := Nat.le_trans X0.g0 f15
  show Go _ _ _ _ _ (mkF _ _ _ [])
  have K25 : Keep h0 h3 [q0] := (Keep.trans (Keep.refl h0 [q0]) f14 (allS (Or.inl (List.mem_of_getElem? (i := 0) rfl)) all0))
  exact kRETV X9 (gEL G) hret d18_6 (fun ve hve => ⟨a11, k12, rfl, K25, g24, f16, (CHr.safe hve (f16.lt) f17), f18, f19⟩) (by decide)
def R_rm125 : Room := { frames := 5, cells := 2, slots := 12, locals := 79 }
theorem rm125 (G : Glob Z a0 iCS vSI) (i0 i1 : Int32) (q0 q1 : Addr) (kp0 : ClassId) (h0 : Heap) (Z0 : n0 ≤ h0.size) (O0 : Old Z n0 h0) (E_q0 : Exa Z h0 q0 "java/lang/StringBuilder") (A_q1 : Arv Z h0 q1 kp0 .byte 16 [.int i0, .int i1, .int 46, .int 108, .int 111, .int 119, .int 101, .int 114, .int 0, .int 0, .int 0, .int 0, .int 0, .int 0, .int 0, .int 0] (.int 0)) (F_q0_value : Fld Z h0 q0 "java/lang/AbstractStringBuilder" "value" "[B" (.ref q1)) (F_q0_count : Fld Z h0 q0 "java/lang/AbstractStringBuilder" "count" "I" (.int 8)) (F_q0_coder : Fld Z h0 q0 "java/lang/AbstractStringBuilder" "coder" "B" (.int 0)) : MetH l Z EL0 n0 N_jdk_67_m_42 jdk_67_method_42_code 1 (some (.object "java/lang/String")) [] R_rm125 #[.ref q0] h0 [] (fun vs v h ve => (∃ (x0 : Addr), ∃ (x1 : Addr), ∃ (z0 : ClassId), v = some (.ref x0) ∧ (Keep h0 h []) ∧ (h0.size ≤ x0) ∧ (h0.size ≤ x1) ∧ (x0 ≠ x1) ∧ (Exa Z h x0 "java/lang/String") ∧ (Fld Z h x0 "java/lang/String" "coder" "B" (.int 0)) ∧ (Fld Z h x0 "java/lang/String" "value" "[B" (.ref x1)) ∧ (Safe Z EL0 ve h x0) ∧ (Arv Z h x1 z0 .byte 8 [.int i0, .int i1, .int 46, .int 108, .int 111, .int 119, .int 101, .int 114] (.int 0)) ∧ (Safe Z EL0 ve h x1))) := by
  refine MetH.of #[.val (.ref q0)] (plainFor_of_name pn_java_lang_StringBuilder) rfl Z0 (fun p e s m below meth c T0 hret hml hnm hSL hs0 X0 => ?_)
  refine kNEW X0 (wd G 107 rfl) (wd G 2 rfl) (wd G 3 rfl) d17_0 (by decide) (by decide) (fun T1 h2 a4 E5 q6 g7 A8 D9 s10 X3 => ?_)
  have n11 : q0 ≠ a4 := Nat.ne_of_lt (Nat.lt_of_lt_of_le (E_q0.lt) (Nat.le_of_eq q6.symm))
  have n12 : q1 ≠ a4 := Nat.ne_of_lt (Nat.lt_of_lt_of_le (A_q1.lt) (Nat.le_of_eq q6.symm))
  have g13 : h0.size ≤ a4 := q6 ▸ X0.g0
  have f14 : Fld Z h2 a4 "java/lang/String" "coder" "B" (.int 0) := D9 (Or.inr (wd G 27 rfl)) (ty := .byte) (by decide)
  have f15 : Fld Z h2 a4 "java/lang/String" "value" "[B" (.null) := D9 (Or.inr (wd G 29 rfl)) (ty := (.array (.byte))) (by decide)
  refine kDUP X3 d17_3 rfl ?_
  refine kALn X3 d17_4 rfl rfl ?_
  have f16 := (Fld.ext E5 F_q0_value)
  have f17 := (Exa.ext E5 E_q0)
  have f18 := (Fld.ext E5 F_q0_count)
  have f19 := (Fld.ext E5 F_q0_coder)
  have f20 := (Arv.ext A_q1 E5)
  have f21 := (Old.ext O0 E5)
  refine kSPEC X3 (gEL G) (argsL := [.ref q0]) (rest := [.ref a4]) (wd G 108 rfl) (wd G 109 rfl) (wd G 3 rfl) (wd G 110 rfl) rfl (by decide) (rm126 G i0 i1 a4 q0 q1 kp0 h2 X3.n f21 f16 f17 f18 f19 f14 A8 f15 f20 n12 g7) (allS ⟨(A8.lt), s10⟩ all0) (lenOf pd__Ljava_lang_StringBuilder__V rfl) rfl 1 rfl (by decide) hml.symm d17_5 (fun v22 T23 h24 vm25 _ w26 q27 C28 C29 X30 => ?_)
  obtain ⟨a32, k33, e34, f35, f36, f37, f38, f39, f40⟩ := q27
  subst e34
  have n41 : q0 ≠ a32 := Nat.ne_of_lt (Nat.lt_of_lt_of_le (f17.lt) f36)
  have n42 : q1 ≠ a32 := Nat.ne_of_lt (Nat.lt_of_lt_of_le (f20.lt) f36)
  have n43 : a4 ≠ a32 := Nat.ne_of_lt (Nat.lt_of_lt_of_le (A8.lt) f36)
  have g44 : n0 ≤ a32 := Nat.le_trans X3.n f36
  have g45 : h0.size ≤ a32 := Nat.le_trans X3.g0 f36
  show Go _ _ _ _ _ (mkF _ _ _ [.ref a4])
  have K46 : Keep h0 h24 [] := (Keep.trans (Keep.ext (Keep.refl h0 []) E5) f35 (allS (Or.inr g13) all0))
  have f47 := (Exa.keep A8 f35)
  have f48 := (CHr.safe C29 (f14.lt) s10)
  exact kRETA X30 (gEL G) hret rfl rfl d17_8 (fun ve hve => ⟨a4, a32, k33, rfl, K46, g13, g45, n43, f47, f39, f40, (CHr.safe hve (f47.lt) f48), f37, (CHr.safe hve (f37.lt) f38)⟩) (by decide)
def R_rm110 : Room := { frames := 6, cells := 6, slots := 60, locals := 91 }
theorem rm110 (G : Glob Z a0 iCS vSI) (i0 i1 : Int32) (q0 q1 : Addr) (kp0 : ClassId) (h0 : Heap) (Z0 : n0 ≤ h0.size) (O0 : Old Z n0 h0) (E_q0 : Exa Z h0 q0 "java/lang/String") (A_q1 : Arv Z h0 q1 kp0 .byte 2 [.int i0, .int i1] (.int 0)) (F_q0_value : Fld Z h0 q0 "java/lang/String" "value" "[B" (.ref q1)) (F_q0_coder : Fld Z h0 q0 "java/lang/String" "coder" "B" (.int 0)) : MetH l Z EL0 n0 N_prog_3_m_8 prog_3_method_8_code 2 (some (.object "java/lang/String")) [] R_rm110 #[.ref q0, .int 0] h0 [q0, q1] (fun vs v h ve => (∃ (x0 : Addr), ∃ (x1 : Addr), ∃ (z0 : ClassId), v = some (.ref x0) ∧ (Keep h0 h []) ∧ (h0.size ≤ x0) ∧ (h0.size ≤ x1) ∧ (x0 ≠ x1) ∧ (Exa Z h x0 "java/lang/String") ∧ (Fld Z h x0 "java/lang/String" "coder" "B" (.int 0)) ∧ (Fld Z h x0 "java/lang/String" "value" "[B" (.ref x1)) ∧ (Safe Z EL0 ve h x0) ∧ (Arv Z h x1 z0 .byte 8 [.int i0, .int i1, .int 46, .int 108, .int 111, .int 119, .int 101, .int 114] (.int 0)) ∧ (Safe Z EL0 ve h x1))) := by
  refine MetH.of #[.val (.ref q0), .val (.int 0)] (plainFor_of_name pn_com_example_tight_calculus_tightcalculus_Component) rfl Z0 (fun p e s m below meth c T0 hret hml hnm hSL hs0 X0 => ?_)
  have S_q0 := hSL q0 (List.mem_of_getElem? (i := 0) rfl)
  have S_q1 := hSL q1 (List.mem_of_getElem? (i := 1) rfl)
  refine kNEW X0 (wd G 34 rfl) (wd G 35 rfl) (wd G 36 rfl) d6_0 (by decide) (by decide) (fun T1 h2 a4 E5 q6 g7 A8 D9 s10 X3 => ?_)
  have n11 : q0 ≠ a4 := Nat.ne_of_lt (Nat.lt_of_lt_of_le (E_q0.lt) (Nat.le_of_eq q6.symm))
  have n12 : q1 ≠ a4 := Nat.ne_of_lt (Nat.lt_of_lt_of_le (A_q1.lt) (Nat.le_of_eq q6.symm))
  have g13 : h0.size ≤ a4 := q6 ▸ X0.g0
  have f14 : Fld Z h2 a4 "java/lang/AbstractStringBuilder" "value" "[B" (.null) := D9 (Or.inl (wd G 49 rfl)) (ty := (.array (.byte))) (by decide)
  have f15 : Fld Z h2 a4 "java/lang/AbstractStringBuilder" "coder" "B" (.int 0) := D9 (Or.inl (wd G 51 rfl)) (ty := .byte) (by decide)
  have f16 : Fld Z h2 a4 "java/lang/AbstractStringBuilder" "count" "I" (.int 0) := D9 (Or.inl (wd G 73 rfl)) (ty := .int) (by decide)
  refine kDUP X3 d6_3 rfl ?_
  have f17 := (Old.ext O0 E5)
  refine kSPEC X3 (gEL G) (argsL := []) (rest := [.ref a4]) (wd G 37 rfl) (wd G 38 rfl) (wd G 36 rfl) (wd G 39 rfl) rfl (by decide) (rm4 G a4 h2 X3.n f17 A8 f14 f15 f16 g7) all0 (lenOf pd___V rfl) rfl 1 rfl (by decide) hml.symm d6_4 (fun v18 T19 h20 vm21 _ w22 q23 C24 C25 X26 => ?_)
  obtain ⟨a28, k29, e30, f31, f32, f33, f34, f35, f36, f37⟩ := q23
  subst e30
  have f39 := (Exa.ext E5 E_q0)
  have n38 : q0 ≠ a28 := Nat.ne_of_lt (Nat.lt_of_lt_of_le (f39.lt) f32)
  have f41 := (Arv.ext A_q1 E5)
  have n40 : q1 ≠ a28 := Nat.ne_of_lt (Nat.lt_of_lt_of_le (f41.lt) f32)
  have n42 : a4 ≠ a28 := Nat.ne_of_lt (Nat.lt_of_lt_of_le (A8.lt) f32)
  have g43 : n0 ≤ a28 := Nat.le_trans X3.n f32
  have g44 : h0.size ≤ a28 := Nat.le_trans X3.g0 f32
  show Go _ _ _ _ _ (mkF _ _ _ [.ref a4])
  refine kALn X26 d6_7 rfl rfl ?_
  have f45 := (Fld.keep (Fld.ext E5 F_q0_value) f31 (ninS n11 nin0))
  have f46 := (Arv.keep f41 f31 (ninS n12 nin0))
  have f47 := (Fld.keep (Fld.ext E5 F_q0_coder) f31 (ninS n11 nin0))
  have f48 := (Exa.keep f39 f31)
  have f49 := (Exa.keep A8 f31)
  have f50 := (Old.keep f17 f31 (allS g7 all0))
  refine kVIRT X26 (gEL G) (argsL := [.ref q0]) (rest := []) (wd G 52 rfl) (wd G 53 rfl) (own_nf X26.hZ (own_noinst (wd G 35 rfl))) (wd G 55 rfl) (wd G 54 rfl) (wd G 36 rfl) (wd G 56 rfl) (by decide) f49 (rm111 G i0 i1 a4 q0 a28 q1 k29 kp0 h20 X26.n f50 f45 f46 f47 f48 f36 f37 f33 f35 f49 n42 g7 g43) (allS ⟨(f33.lt), f34⟩ all0) (lenOf pd__Ljava_lang_String__Ljava_lang_StringBuilder_ rfl) rfl 0 rfl (by decide) hml.symm d6_8 (fun v51 T52 h53 vm54 _ w55 q56 C57 C58 X59 => ?_)
  obtain ⟨e61, f62, f63, f64, f65, f66⟩ := q56
  subst e61
  show Go _ _ _ _ _ (mkF _ _ _ [.ref a4])
  refine kILn X59 d6_11 rfl ?_
  refine kIFt X59 20 d6_12 (XT.i0_eq_t (by decide)) (by decide) ?_
  refine kLDCT X59 (gEL G) (wd G 99 rfl) (gSA G) (by decide) (text := ".lower") (vs := [.int 46, .int 108, .int 111, .int 119, .int 101, .int 114]) (z := 6) (by decide) (by decide) (by decide) d6_20 (n := 24) (by decide) (by decide) (by decide) (by decide) (fun T67 h68 vm70 a71 b72 k73 E74 C75 f76 f77 f78 f79 n80 X69 => ?_)
  have f81 := (CHr.safe C75 ((Exa.keep f48 f62)).lt (CHr.safe C58 (f48.lt) (CHr.safe C25 (f39.lt) (Safe.ext E5 X0.C.1 S_q0))))
  have n82 := (n80 q0 f81).1
  have n83 := (n80 q0 f81).2
  have f84 := (CHr.safe C75 ((Arv.keep f46 f62 (ninS n40 (ninS n12 nin0)))).lt (CHr.safe C58 (f46.lt) (CHr.safe C25 (f41.lt) (Safe.ext E5 X0.C.1 S_q1))))
  have n85 := (n80 q1 f84).1
  have n86 := (n80 q1 f84).2
  have f87 := (Exa.ext E74 (Exa.keep f49 f62))
  have n88 := (n80 a4 (Safe.exa X69.hZ.alike f87 (by decide) (by decide))).1
  have n89 := (n80 a4 (Safe.exa X69.hZ.alike f87 (by decide) (by decide))).2
  have f90 := (CHr.safe C75 (f63.lt) (CHr.safe C58 (f33.lt) f34))
  have n91 := (n80 a28 f90).1
  have n92 := (n80 a28 f90).2
  have n93 : ∀ x, x < h0.size → Safe Z EL0 s.vm h0 x → x ≠ b72 := fun x hx S => (n80 x (CHr.safe (hs0 ▸ X69.C) hx S)).2
  have f94 := (Fld.ext E74 f65)
  have f95 := (Fld.ext E74 f66)
  have f96 := (Arv.ext f63 E74)
  have f97 := (Fld.ext E74 f64)
  have f98 := (Old.ext (Old.keep f50 f62 (allS g43 (allS g7 all0))) E74)
  refine kVIRT X69 (gEL G) (argsL := [.ref a71]) (rest := []) (wd G 52 rfl) (wd G 53 rfl) (own_nf X69.hZ (own_noinst (wd G 35 rfl))) (wd G 55 rfl) (wd G 54 rfl) (wd G 36 rfl) (wd G 56 rfl) (by decide) f87 (rm119 G i0 i1 a4 a71 a28 b72 k29 k73 h68 X69.n f98 f78 f79 f77 f76 f94 f95 f96 f97 f87 n42 g7 g43) (allS ⟨(f96.lt), f90⟩ all0) (lenOf pd__Ljava_lang_String__Ljava_lang_StringBuilder_ rfl) rfl 0 rfl (by decide) hml.symm d6_22 (fun v99 T100 h101 vm102 _ w103 q104 C105 C106 X107 => ?_)
  obtain ⟨e109, f110, f111, f112, f113, f114⟩ := q104
  subst e109
  show Go _ _ _ _ _ (mkF _ _ _ [.ref a4])
  have f115 := (Exa.keep f87 f110)
  have f116 := (Old.keep f98 f110 (allS g43 (allS g7 all0)))
  refine kVIRT X107 (gEL G) (argsL := []) (rest := []) (wd G 102 rfl) (wd G 103 rfl) (own_nf X107.hZ (own_noinst (wd G 35 rfl))) (wd G 105 rfl) (wd G 104 rfl) (wd G 36 rfl) (wd G 106 rfl) (by decide) f115 (rm125 G i0 i1 a4 a28 k29 h101 X107.n f116 f115 f111 f114 f113 f112) all0 (lenOf pd___Ljava_lang_String_ rfl) rfl 0 rfl (by decide) hml.symm d6_25 (fun v117 T118 h119 vm120 _ w121 q122 C123 C124 X125 => ?_)
  obtain ⟨a127, a128, k129, e130, f131, f132, f133, f134, f135, f136, f137, f138, f139, f140⟩ := q122
  subst e130
  have f142 := (Exa.keep (Exa.ext E74 (Exa.keep f48 f62)) f110)
  have n141 : q0 ≠ a127 := Nat.ne_of_lt (Nat.lt_of_lt_of_le (f142.lt) f132)
  have f144 := (Arv.keep (Arv.ext (Arv.keep f46 f62 (ninS n40 (ninS n12 nin0))) E74) f110 (ninS n40 (ninS n12 nin0)))
  have n143 : q1 ≠ a127 := Nat.ne_of_lt (Nat.lt_of_lt_of_le (f144.lt) f132)
  have n145 : a4 ≠ a127 := Nat.ne_of_lt (Nat.lt_of_lt_of_le (f115.lt) f132)
  have n146 : a28 ≠ a127 := Nat.ne_of_lt (Nat.lt_of_lt_of_le (f111.lt) f132)
  have f148 := (Exa.keep f76 f110)
  have n147 : a71 ≠ a127 := Nat.ne_of_lt (Nat.lt_of_lt_of_le (f148.lt) f132)
  have f150 := (Arv.keep f79 f110 (ninS (Ne.symm n92) (ninS (Ne.symm n89) nin0)))
  have n149 : b72 ≠ a127 := Nat.ne_of_lt (Nat.lt_of_lt_of_le (f150.lt) f132)
  have n151 : q0 ≠ a128 := Nat.ne_of_lt (Nat.lt_of_lt_of_le (f142.lt) f133)
  have n152 : q1 ≠ a128 := Nat.ne_of_lt (Nat.lt_of_lt_of_le (f144.lt) f133)
  have n153 : a4 ≠ a128 := Nat.ne_of_lt (Nat.lt_of_lt_of_le (f115.lt) f133)
  have n154 : a28 ≠ a128 := Nat.ne_of_lt (Nat.lt_of_lt_of_le (f111.lt) f133)
  have n155 : a71 ≠ a128 := Nat.ne_of_lt (Nat.lt_of_lt_of_le (f148.lt) f133)
  have n156 : b72 ≠ a128 := Nat.ne_of_lt (Nat.lt_of_lt_of_le (f150.lt) f133)
  have g157 : n0 ≤ a127 := Nat.le_trans X107.n f132
  have g158 : h0.size ≤ a127 := Nat.le_trans X107.g0 f132
  have g159 : n0 ≤ a128 := Nat.le_trans X107.n f133
  have g160 : h0.size ≤ a128 := Nat.le_trans X107.g0 f133
  show Go _ _ _ _ _ (mkF _ _ _ [.ref a127])
  have K161 : Keep h0 h119 [] := (Keep.trans (Keep.trans (Keep.ext (Keep.trans (Keep.trans (Keep.ext (Keep.refl h0 []) E5) f31 (allS (Or.inr g13) all0)) f62 (allS (Or.inr g44) (allS (Or.inr g13) all0))) E74) f110 (allS (Or.inr g44) (allS (Or.inr g13) all0))) f131 all0)
  exact kRETA X125 (gEL G) hret rfl rfl d6_28 (fun ve hve => ⟨a127, a128, k129, rfl, K161, g158, g160, f134, f135, f136, f137, (CHr.safe hve (f135.lt) f138), f139, (CHr.safe hve (f139.lt) f140)⟩) (by decide)
def R_rm137 : Room := { frames := 0, cells := 0, slots := 0, locals := 0 }
theorem rm137 (G : Glob Z a0 iCS vSI) (i0 i1 : Int32) (q0 q1 : Addr) (kp0 : ClassId) (h0 : Heap) (Z0 : n0 ≤ h0.size) (O0 : Old Z n0 h0) (F_q0_coder : Fld Z h0 q0 "java/lang/String" "coder" "B" (.int 0)) : MetH l Z EL0 n0 N_jdk_42_m_152 jdk_42_method_152_code 1 (some .byte) [] R_rm137 #[.ref q0] h0 [] (fun vs v h ve => (v = some (.int 0) ∧ (h0 = h))) := by
  refine MetH.of #[.val (.ref q0)] (plainFor_of_name pn_java_lang_String) rfl Z0 (fun p e s m below meth c T0 hret hml hnm hSL hs0 X0 => ?_)
  refine kGETS X0 (wd G 14 rfl) Via.refl (Sta.ext O0.2 (S_CS G)) d12_0 (fun T1 X2 => ?_)
  refine kIFf X2 d12_3 (XT.i0_eq_f (n_CS G)) ?_
  refine kALn X2 d12_6 rfl rfl ?_
  refine kGETF X2 (wd G 26 rfl) Via.refl F_q0_coder d12_7 (fun T3 X4 => ?_)
  refine kGOTO X4 14 d12_10 (by decide) ?_
  exact kRETZ X4 (gEL G) (t := .byte) hret (by simp) d12_14 (fun ve hve => ⟨rfl, rfl⟩) (by decide)
def R_rm136 : Room := { frames := 1, cells := 0, slots := 0, locals := 13 }
theorem rm136 (G : Glob Z a0 iCS vSI) (i0 i1 : Int32) (q0 q1 : Addr) (kp0 : ClassId) (h0 : Heap) (Z0 : n0 ≤ h0.size) (O0 : Old Z n0 h0) (F_q0_value : Fld Z h0 q0 "java/lang/String" "value" "[B" (.ref q1)) (A_q1 : Arv Z h0 q1 kp0 .byte 8 [.int i0, .int i1, .int 46, .int 108, .int 111, .int 119, .int 101, .int 114] (.int 0)) (F_q0_coder : Fld Z h0 q0 "java/lang/String" "coder" "B" (.int 0)) (E_q0 : Exa Z h0 q0 "java/lang/String") : MetH l Z EL0 n0 N_jdk_42_m_54 jdk_42_method_54_code 1 (some .int) [] R_rm136 #[.ref q0] h0 [] (fun vs v h ve => (v = some (.int 8) ∧ (h0 = h))) := by
  refine MetH.of #[.val (.ref q0)] (plainFor_of_name pn_java_lang_String) rfl Z0 (fun p e s m below meth c T0 hret hml hnm hSL hs0 X0 => ?_)
  refine kALn X0 d11_0 rfl rfl ?_
  refine kGETF X0 (wd G 28 rfl) Via.refl F_q0_value d11_1 (fun T1 X2 => ?_)
  refine kLEN X2 A_q1 d11_4 ?_
  refine kALn X2 d11_5 rfl rfl ?_
  refine kVIRT X2 (gEL G) (argsL := []) (rest := [.int 8]) (wd G 67 rfl) (wd G 68 rfl) (own_nf X2.hZ (own_noinst (wd G 2 rfl))) (wd G 70 rfl) (wd G 69 rfl) (wd G 3 rfl) (wd G 71 rfl) (by decide) E_q0 (rm137 G i0 i1 q0 q1 kp0 h0 X2.n O0 F_q0_coder) all0 (lenOf pd___B rfl) rfl 1 rfl (by decide) hml.symm d11_6 (fun v3 T4 h5 vm6 _ w7 q8 C9 C10 X11 => ?_)
  obtain ⟨e13, f14⟩ := q8
  subst e13
  subst f14
  show Go _ _ _ _ _ (mkF _ _ _ [.int 0, .int 8])
  refine kISHR X11 8 d11_9 (by decide) ?_
  exact kRETI X11 (gEL G) hret d11_10 (fun ve hve => ⟨rfl, rfl⟩) (by decide)
def R_rm142 : Room := { frames := 1, cells := 0, slots := 0, locals := 13 }
theorem rm142 (G : Glob Z a0 iCS vSI) (i0 i1 : Int32) (q0 q1 q2 q3 : Addr) (kp0 kp1 : ClassId) (h0 : Heap) (Z0 : n0 ≤ h0.size) (O0 : Old Z n0 h0) (F_q0_coder : Fld Z h0 q0 "java/lang/AbstractStringBuilder" "coder" "B" (.int 0)) (F_q1_coder : Fld Z h0 q1 "java/lang/String" "coder" "B" (.int 0)) (E_q1 : Exa Z h0 q1 "java/lang/String") : MetH l Z EL0 n0 N_jdk_68_m_71 jdk_68_method_71_code 2 none [] R_rm142 #[.ref q0, .ref q1] h0 [] (fun vs v h ve => (v = none ∧ (h0 = h))) := by
  refine MetH.of #[.val (.ref q0), .val (.ref q1)] (plainFor_of_name pn_java_lang_AbstractStringBuilder) rfl Z0 (fun p e s m below meth c T0 hret hml hnm hSL hs0 X0 => ?_)
  refine kGETS X0 (wd G 47 rfl) Via.refl (Sta.ext O0.2 (S_CS G)) d15_0 (fun T1 X2 => ?_)
  refine kIFf X2 d15_3 (XT.i0_eq_f (n_CS G)) ?_
  refine kALn X2 d15_6 rfl rfl ?_
  refine kGETF X2 (wd G 50 rfl) Via.refl F_q0_coder d15_7 (fun T3 X4 => ?_)
  refine kALn X4 d15_10 rfl rfl ?_
  refine kVIRT X4 (gEL G) (argsL := []) (rest := [.int 0]) (wd G 89 rfl) (wd G 68 rfl) (own_nf X4.hZ (own_noinst (wd G 2 rfl))) (wd G 70 rfl) (wd G 69 rfl) (wd G 3 rfl) (wd G 71 rfl) (by decide) E_q1 (rm40 G q1 q3 kp1 h0 X4.n O0 F_q1_coder) all0 (lenOf pd___B rfl) rfl 1 rfl (by decide) hml.symm d15_11 (fun v5 T6 h7 vm8 _ w9 q10 C11 C12 X13 => ?_)
  obtain ⟨e15, f16⟩ := q10
  subst e15
  subst f16
  show Go _ _ _ _ _ (mkF _ _ _ [.int 0, .int 0])
  refine kICt X13 21 d15_14 (XT.ii_eq_t (by decide)) (by decide) ?_
  exact kRETV X13 (gEL G) hret d15_21 (fun ve hve => ⟨rfl, rfl⟩) (by decide)
def R_rm143 : Room := { frames := 1, cells := 0, slots := 0, locals := 18 }
theorem rm143 (G : Glob Z a0 iCS vSI) (i0 i1 : Int32) (q0 q1 q2 : Addr) (kp0 kp1 : ClassId) (h0 : Heap) (Z0 : n0 ≤ h0.size) (O0 : Old Z n0 h0) (F_q0_coder : Fld Z h0 q0 "java/lang/String" "coder" "B" (.int 0)) (E_q0 : Exa Z h0 q0 "java/lang/String") (F_q0_value : Fld Z h0 q0 "java/lang/String" "value" "[B" (.ref q2)) (A_q2 : Arv Z h0 q2 kp1 .byte 6 [.int 46, .int 117, .int 112, .int 112, .int 101, .int 114] (.int 0)) (A_q1 : Arv Z h0 q1 kp0 .byte 16 [.int i0, .int i1, .int 0, .int 0, .int 0, .int 0, .int 0, .int 0, .int 0, .int 0, .int 0, .int 0, .int 0, .int 0, .int 0, .int 0] (.int 0)) (g_q1 : n0 ≤ q1) : MetH l Z EL0 n0 N_jdk_42_m_147 jdk_42_method_147_code 4 none [] R_rm143 #[.ref q0, .ref q1, .int 2, .int 0] h0 [q1] (fun vs v h ve => (v = none ∧ (Keep h0 h [q1]) ∧ (Arv Z h q1 kp0 .byte 16 [.int i0, .int i1, .int 46, .int 117, .int 112, .int 112, .int 101, .int 114, .int 0, .int 0, .int 0, .int 0, .int 0, .int 0, .int 0, .int 0] (.int 0)))) := by
  refine MetH.of #[.val (.ref q0), .val (.ref q1), .val (.int 2), .val (.int 0)] (plainFor_of_name pn_java_lang_String) rfl Z0 (fun p e s m below meth c T0 hret hml hnm hSL hs0 X0 => ?_)
  have S_q1 := hSL q1 (List.mem_of_getElem? (i := 0) rfl)
  refine kALn X0 d16_0 rfl rfl ?_
  refine kVIRT X0 (gEL G) (argsL := []) (rest := []) (wd G 67 rfl) (wd G 68 rfl) (own_nf X0.hZ (own_noinst (wd G 2 rfl))) (wd G 70 rfl) (wd G 69 rfl) (wd G 3 rfl) (wd G 71 rfl) (by decide) E_q0 (rm40 G q0 q2 kp1 h0 X0.n O0 F_q0_coder) all0 (lenOf pd___B rfl) rfl 0 rfl (by decide) hml.symm d16_1 (fun v1 T2 h3 vm4 _ w5 q6 C7 C8 X9 => ?_)
  obtain ⟨e11, f12⟩ := q6
  subst e11
  subst f12
  show Go _ _ _ _ _ (mkF _ _ _ [.int 0])
  refine kILn X9 d16_4 rfl ?_
  refine kICf X9 d16_5 (XT.ii_ne_f (by decide)) ?_
  refine kALn X9 d16_8 rfl rfl ?_
  refine kGETF X9 (wd G 28 rfl) Via.refl F_q0_value d16_9 (fun T13 X14 => ?_)
  refine kIC X14 0 d16_12 (by decide) ?_
  refine kALn X14 d16_13 rfl rfl ?_
  refine kILn X14 d16_14 rfl ?_
  refine kILn X14 d16_15 rfl ?_
  refine kISHL X14 2 d16_16 (by decide) ?_
  refine kALn X14 d16_17 rfl rfl ?_
  refine kGETF X14 (wd G 28 rfl) Via.refl F_q0_value d16_18 (fun T15 X16 => ?_)
  refine kLEN X16 A_q2 d16_21 ?_
  have f17 := (CHr.safe C8 (A_q1.lt) S_q1)
  refine kCPA X16 (wd G 95 rfl) (wd G 98 rfl) (wd G 96 rfl) (wd G 97 rfl) A_q2 A_q1 (Or.inl ⟨rfl, rfl⟩) (us := [.int 46, .int 117, .int 112, .int 112, .int 101, .int 114]) (by decide) rfl (by show 8 ≤ 16; decide) g_q1 f17 hml.symm d16_22 (by decide) 0 (Nat.le_of_eq rfl) (by decide) (fun T18 h19 L21 K22 C23 f24 X20 => ?_)
  have f25 : Arv Z h19 q1 kp0 .byte 16 [.int i0, .int i1, .int 46, .int 117, .int 112, .int 112, .int 101, .int 114, .int 0, .int 0, .int 0, .int 0, .int 0, .int 0, .int 0, .int 0] (.int 0) := f24
  refine kGOTO X20 43 d16_25 (by decide) ?_
  have K26 : Keep h0 h19 [q1] := (Keep.trans (Keep.refl h0 [q1]) K22 (allS (Or.inl (List.mem_of_getElem? (i := 0) rfl)) all0))
  exact kRETV X20 (gEL G) hret d16_43 (fun ve hve => ⟨rfl, K26, f25⟩) (by decide)
def R_rm141 : Room := { frames := 2, cells := 0, slots := 0, locals := 33 }
theorem rm141 (G : Glob Z a0 iCS vSI) (i0 i1 : Int32) (q0 q1 q2 q3 : Addr) (kp0 kp1 : ClassId) (h0 : Heap) (Z0 : n0 ≤ h0.size) (O0 : Old Z n0 h0) (F_q0_coder : Fld Z h0 q0 "java/lang/AbstractStringBuilder" "coder" "B" (.int 0)) (F_q1_coder : Fld Z h0 q1 "java/lang/String" "coder" "B" (.int 0)) (E_q1 : Exa Z h0 q1 "java/lang/String") (E_q0 : Exa Z h0 q0 "java/lang/StringBuilder") (F_q0_value : Fld Z h0 q0 "java/lang/AbstractStringBuilder" "value" "[B" (.ref q2)) (F_q1_value : Fld Z h0 q1 "java/lang/String" "value" "[B" (.ref q3)) (A_q3 : Arv Z h0 q3 kp1 .byte 6 [.int 46, .int 117, .int 112, .int 112, .int 101, .int 114] (.int 0)) (A_q2 : Arv Z h0 q2 kp0 .byte 16 [.int i0, .int i1, .int 0, .int 0, .int 0, .int 0, .int 0, .int 0, .int 0, .int 0, .int 0, .int 0, .int 0, .int 0, .int 0, .int 0] (.int 0)) (g_q2 : n0 ≤ q2) : MetH l Z EL0 n0 N_jdk_68_m_73 jdk_68_method_73_code 3 none [] R_rm141 #[.ref q0, .int 2, .ref q1] h0 [q2] (fun vs v h ve => (v = none ∧ (Keep h0 h [q2]) ∧ (Arv Z h q2 kp0 .byte 16 [.int i0, .int i1, .int 46, .int 117, .int 112, .int 112, .int 101, .int 114, .int 0, .int 0, .int 0, .int 0, .int 0, .int 0, .int 0, .int 0] (.int 0)))) := by
  refine MetH.of #[.val (.ref q0), .val (.int 2), .val (.ref q1)] (plainFor_of_name pn_java_lang_AbstractStringBuilder) rfl Z0 (fun p e s m below meth c T0 hret hml hnm hSL hs0 X0 => ?_)
  have S_q2 := hSL q2 (List.mem_of_getElem? (i := 0) rfl)
  refine kALn X0 d14_0 rfl rfl ?_
  refine kALn X0 d14_1 rfl rfl ?_
  refine kVIRT X0 (gEL G) (argsL := [.ref q1]) (rest := []) (wd G 84 rfl) (own_decl (wd G 85 rfl) (wd G 88 rfl)) (own_nf X0.hZ (own_noface (wd G 77 rfl) rfl)) (wd G 87 rfl) (wd G 85 rfl) (wd G 44 rfl) (wd G 88 rfl) (by decide) E_q0 (rm142 G i0 i1 q0 q1 q2 q3 kp0 kp1 h0 X0.n O0 F_q0_coder F_q1_coder E_q1) all0 (lenOf pd__Ljava_lang_String__V rfl) rfl 0 rfl (by decide) hml.symm d14_2 (fun v1 T2 h3 vm4 _ w5 q6 C7 C8 X9 => ?_)
  obtain ⟨e11, f12⟩ := q6
  subst e11
  subst f12
  show Go _ _ _ _ _ (mkF _ _ _ [])
  refine kALn X9 d14_5 rfl rfl ?_
  refine kALn X9 d14_6 rfl rfl ?_
  refine kGETF X9 (wd G 48 rfl) Via.refl F_q0_value d14_7 (fun T13 X14 => ?_)
  refine kILn X14 d14_10 rfl ?_
  refine kALn X14 d14_11 rfl rfl ?_
  refine kGETF X14 (wd G 50 rfl) Via.refl F_q0_coder d14_12 (fun T15 X16 => ?_)
  have f26 := (CHr.safe C8 (A_q2.lt) S_q2)
  refine kVIRT X16 (gEL G) (argsL := [.ref q2, .int 2, .int 0]) (rest := []) (wd G 90 rfl) (wd G 91 rfl) (own_nf X16.hZ (own_noinst (wd G 2 rfl))) (wd G 93 rfl) (wd G 92 rfl) (wd G 3 rfl) (wd G 94 rfl) (by decide) E_q1 (rm143 G i0 i1 q1 q2 q3 kp0 kp1 h0 X16.n O0 F_q1_coder E_q1 F_q1_value A_q3 A_q2 g_q2) (allS ⟨(A_q2.lt), f26⟩ all0) (lenOf pd___BIB_V rfl) rfl 0 rfl (by decide) hml.symm d14_15 (fun v17 T18 h19 vm20 _ w21 q22 C23 C24 X25 => ?_)
  obtain ⟨e28, f29, f30⟩ := q22
  subst e28
  show Go _ _ _ _ _ (mkF _ _ _ [])
  have K31 : Keep h0 h19 [q2] := (Keep.trans (Keep.refl h0 [q2]) f29 (allS (Or.inl (List.mem_of_getElem? (i := 0) rfl)) all0))
  exact kRETV X25 (gEL G) hret d14_18 (fun ve hve => ⟨rfl, K31, f30⟩) (by decide)
def R_rm140 : Room := { frames := 3, cells := 0, slots := 0, locals := 47 }
theorem rm140 (G : Glob Z a0 iCS vSI) (i0 i1 : Int32) (q0 q1 q2 q3 : Addr) (kp0 kp1 : ClassId) (h0 : Heap) (Z0 : n0 ≤ h0.size) (O0 : Old Z n0 h0) (F_q1_value : Fld Z h0 q1 "java/lang/String" "value" "[B" (.ref q3)) (A_q3 : Arv Z h0 q3 kp1 .byte 6 [.int 46, .int 117, .int 112, .int 112, .int 101, .int 114] (.int 0)) (F_q1_coder : Fld Z h0 q1 "java/lang/String" "coder" "B" (.int 0)) (E_q1 : Exa Z h0 q1 "java/lang/String") (F_q0_count : Fld Z h0 q0 "java/lang/AbstractStringBuilder" "count" "I" (.int 2)) (F_q0_value : Fld Z h0 q0 "java/lang/AbstractStringBuilder" "value" "[B" (.ref q2)) (A_q2 : Arv Z h0 q2 kp0 .byte 16 [.int i0, .int i1, .int 0, .int 0, .int 0, .int 0, .int 0, .int 0, .int 0, .int 0, .int 0, .int 0, .int 0, .int 0, .int 0, .int 0] (.int 0)) (F_q0_coder : Fld Z h0 q0 "java/lang/AbstractStringBuilder" "coder" "B" (.int 0)) (E_q0 : Exa Z h0 q0 "java/lang/StringBuilder") (d_q0_q2 : q0 ≠ q2) (g_q0 : n0 ≤ q0) (g_q2 : n0 ≤ q2) : MetH l Z EL0 n0 N_jdk_68_m_22 jdk_68_method_22_code 3 (some (.object "java/lang/AbstractStringBuilder")) [] R_rm140 #[.ref q0, .ref q1] h0 [q2] (fun vs v h ve => (v = some (.ref q0) ∧ (Keep h0 h [q2, q0]) ∧ (Arv Z h q2 kp0 .byte 16 [.int i0, .int i1, .int 46, .int 117, .int 112, .int 112, .int 101, .int 114, .int 0, .int 0, .int 0, .int 0, .int 0, .int 0, .int 0, .int 0] (.int 0)) ∧ (Fld Z h q0 "java/lang/AbstractStringBuilder" "coder" "B" (.int 0)) ∧ (Fld Z h q0 "java/lang/AbstractStringBuilder" "count" "I" (.int 8)) ∧ (Fld Z h q0 "java/lang/AbstractStringBuilder" "value" "[B" (.ref q2)))) := by
  refine MetH.of #[.val (.ref q0), .val (.ref q1), .unset] (plainFor_of_name pn_java_lang_AbstractStringBuilder) rfl Z0 (fun p e s m below meth c T0 hret hml hnm hSL hs0 X0 => ?_)
  have S_q2 := hSL q2 (List.mem_of_getElem? (i := 0) rfl)
  refine kALn X0 d10_0 rfl rfl ?_
  refine kNNt X0 9 d10_1 (by decide) ?_
  refine kALn X0 d10_9 rfl rfl ?_
  refine kVIRT X0 (gEL G) (argsL := []) (rest := []) (wd G 62 rfl) (wd G 63 rfl) (own_nf X0.hZ (own_noinst (wd G 2 rfl))) (wd G 65 rfl) (wd G 64 rfl) (wd G 3 rfl) (wd G 66 rfl) (by decide) E_q1 (rm39 G q1 q3 kp1 h0 X0.n O0 F_q1_value A_q3 F_q1_coder E_q1) all0 (lenOf pd___I rfl) rfl 0 rfl (by decide) hml.symm d10_10 (fun v1 T2 h3 vm4 _ w5 q6 C7 C8 X9 => ?_)
  obtain ⟨e11, f12⟩ := q6
  subst e11
  subst f12
  show Go _ _ _ _ _ (mkF _ _ _ [.int 6])
  refine kISn X9 #[.val (.ref q0), .val (.ref q1), .val (.int 6)] d10_13 rfl ?_
  refine kALn X9 d10_14 rfl rfl ?_
  refine kALn X9 d10_15 rfl rfl ?_
  refine kGETF X9 (wd G 72 rfl) Via.refl F_q0_count d10_16 (fun T13 X14 => ?_)
  refine kILn X14 d10_19 rfl ?_
  refine kIADD X14 8 d10_20 (by decide) ?_
  refine kVIRT X14 (gEL G) (argsL := [.int 8]) (rest := []) (wd G 74 rfl) (own_decl (wd G 75 rfl) (wd G 78 rfl)) (own_nf X14.hZ (own_noface (wd G 77 rfl) rfl)) (wd G 77 rfl) (wd G 75 rfl) (wd G 44 rfl) (wd G 78 rfl) (by decide) E_q0 (rm121 G i0 i1 q0 q2 kp0 h0 X14.n O0 F_q0_value A_q2 F_q0_coder) all0 (lenOf pd__I_V rfl) rfl 0 rfl (by decide) hml.symm d10_21 (fun v15 T16 h17 vm18 _ w19 q20 C21 C22 X23 => ?_)
  obtain ⟨e25, f26⟩ := q20
  subst e25
  subst f26
  show Go _ _ _ _ _ (mkF _ _ _ [])
  refine kALn X23 d10_24 rfl rfl ?_
  refine kALn X23 d10_25 rfl rfl ?_
  refine kGETF X23 (wd G 72 rfl) Via.refl F_q0_count d10_26 (fun T27 X28 => ?_)
  refine kALn X28 d10_29 rfl rfl ?_
  have f38 := (CHr.safe C22 (A_q2.lt) (CHr.safe C8 (A_q2.lt) S_q2))
  refine kVIRT X28 (gEL G) (argsL := [.int 2, .ref q1]) (rest := []) (wd G 79 rfl) (own_decl (wd G 80 rfl) (wd G 83 rfl)) (own_nf X28.hZ (own_noface (wd G 77 rfl) rfl)) (wd G 82 rfl) (wd G 80 rfl) (wd G 44 rfl) (wd G 83 rfl) (by decide) E_q0 (rm141 G i0 i1 q0 q1 q2 q3 kp0 kp1 h0 X28.n O0 F_q0_coder F_q1_coder E_q1 E_q0 F_q0_value F_q1_value A_q3 A_q2 g_q2) (allS ⟨(A_q2.lt), f38⟩ all0) (lenOf pd__ILjava_lang_String__V rfl) rfl 0 rfl (by decide) hml.symm d10_30 (fun v29 T30 h31 vm32 _ w33 q34 C35 C36 X37 => ?_)
  obtain ⟨e40, f41, f42⟩ := q34
  subst e40
  show Go _ _ _ _ _ (mkF _ _ _ [])
  refine kALn X37 d10_33 rfl rfl ?_
  refine kDUP X37 d10_34 rfl ?_
  have f43 := (Fld.keep F_q0_count f41 (ninS d_q0_q2 nin0))
  refine kGETF X37 (wd G 72 rfl) Via.refl f43 d10_35 (fun T44 X45 => ?_)
  refine kILn X45 d10_38 rfl ?_
  refine kIADD X45 8 d10_39 (by decide) ?_
  have f46 := (Exa.keep E_q0 f41)
  refine kPUTF X45 (wd G 72 rfl) Via.refl f43 f46 (Or.inl (wd G 73 rfl)) (wd G 35 rfl) (ty := .int) (by decide) rfl rfl g_q0 (Safe.exa X45.hZ.alike f46 (by decide) (by decide)) d10_40 (fun T47 h48 L51 W50 X49 => ?_)
  have f52 := Fld.same W50 f43
  refine kALn X49 d10_43 rfl rfl ?_
  have K53 : Keep h0 h48 [q2, q0] := (Keep.wr (Keep.trans (Keep.refl h0 [q2, q0]) f41 (allS (Or.inl (List.mem_of_getElem? (i := 0) rfl)) all0)) W50 (Or.inl (List.mem_of_getElem? (i := 1) rfl)))
  have f54 := (Arv.other f42 W50 (Ne.symm d_q0_q2))
  have f55 := (Fld.other W50 (Fld.keep F_q0_coder f41 (ninS d_q0_q2 nin0)) (Or.inr (slot_ne (Or.inl (wd G 51 rfl)) (Or.inl (wd G 73 rfl)) (by decide) (by decide : parseFieldDescriptor "B" = some .byte) (by decide : parseFieldDescriptor "I" = some .int))))
  have f56 := (Fld.other W50 (Fld.keep F_q0_value f41 (ninS d_q0_q2 nin0)) (Or.inr (slot_ne (Or.inl (wd G 49 rfl)) (Or.inl (wd G 73 rfl)) (by decide) (by decide : parseFieldDescriptor "[B" = some (.array (.byte))) (by decide : parseFieldDescriptor "I" = some .int))))
  exact kRETA X49 (gEL G) hret rfl rfl d10_44 (fun ve hve => ⟨rfl, K53, f54, f55, f52, f56⟩) (by decide)
def R_rm139 : Room := { frames := 4, cells := 0, slots := 0, locals := 61 }
theorem rm139 (G : Glob Z a0 iCS vSI) (i0 i1 : Int32) (q0 q1 q2 q3 : Addr) (kp0 kp1 : ClassId) (h0 : Heap) (Z0 : n0 ≤ h0.size) (O0 : Old Z n0 h0) (F_q1_value : Fld Z h0 q1 "java/lang/String" "value" "[B" (.ref q3)) (A_q3 : Arv Z h0 q3 kp1 .byte 6 [.int 46, .int 117, .int 112, .int 112, .int 101, .int 114] (.int 0)) (F_q1_coder : Fld Z h0 q1 "java/lang/String" "coder" "B" (.int 0)) (E_q1 : Exa Z h0 q1 "java/lang/String") (F_q0_count : Fld Z h0 q0 "java/lang/AbstractStringBuilder" "count" "I" (.int 2)) (F_q0_value : Fld Z h0 q0 "java/lang/AbstractStringBuilder" "value" "[B" (.ref q2)) (A_q2 : Arv Z h0 q2 kp0 .byte 16 [.int i0, .int i1, .int 0, .int 0, .int 0, .int 0, .int 0, .int 0, .int 0, .int 0, .int 0, .int 0, .int 0, .int 0, .int 0, .int 0] (.int 0)) (F_q0_coder : Fld Z h0 q0 "java/lang/AbstractStringBuilder" "coder" "B" (.int 0)) (E_q0 : Exa Z h0 q0 "java/lang/StringBuilder") (d_q0_q2 : q0 ≠ q2) (g_q0 : n0 ≤ q0) (g_q2 : n0 ≤ q2) : MetH l Z EL0 n0 N_jdk_67_m_7 jdk_67_method_7_code 2 (some (.object "java/lang/StringBuilder")) [] R_rm139 #[.ref q0, .ref q1] h0 [q2] (fun vs v h ve => (v = some (.ref q0) ∧ (Keep h0 h [q2, q0]) ∧ (Arv Z h q2 kp0 .byte 16 [.int i0, .int i1, .int 46, .int 117, .int 112, .int 112, .int 101, .int 114, .int 0, .int 0, .int 0, .int 0, .int 0, .int 0, .int 0, .int 0] (.int 0)) ∧ (Fld Z h q0 "java/lang/AbstractStringBuilder" "coder" "B" (.int 0)) ∧ (Fld Z h q0 "java/lang/AbstractStringBuilder" "count" "I" (.int 8)) ∧ (Fld Z h q0 "java/lang/AbstractStringBuilder" "value" "[B" (.ref q2)))) := by
  refine MetH.of #[.val (.ref q0), .val (.ref q1)] (plainFor_of_name pn_java_lang_StringBuilder) rfl Z0 (fun p e s m below meth c T0 hret hml hnm hSL hs0 X0 => ?_)
  have S_q2 := hSL q2 (List.mem_of_getElem? (i := 0) rfl)
  refine kALn X0 d9_0 rfl rfl ?_
  refine kALn X0 d9_1 rfl rfl ?_
  refine kSUP X0 (gEL G) (argsL := [.ref q1]) (rest := []) (wd G 57 rfl) (own_same (wd G 58 rfl) (own_noface (wd G 77 rfl) rfl) (by decide)) (wd G 58 rfl) (wd G 59 rfl) (by decide) (wd G 44 rfl) (wd G 61 rfl) (Ins.of_exa E_q0 (wd G 43 rfl)) (rm140 G i0 i1 q0 q1 q2 q3 kp0 kp1 h0 X0.n O0 F_q1_value A_q3 F_q1_coder E_q1 F_q0_count F_q0_value A_q2 F_q0_coder E_q0 d_q0_q2 g_q0 g_q2) (allS ⟨(A_q2.lt), S_q2⟩ all0) (lenOf pd__Ljava_lang_String__Ljava_lang_AbstractStringBuilder_ rfl) rfl 0 rfl (by decide) hml.symm d9_2 (fun v1 T2 h3 vm4 _ w5 q6 C7 C8 X9 => ?_)
  obtain ⟨e11, f12, f13, f14, f15, f16⟩ := q6
  subst e11
  show Go _ _ _ _ _ (mkF _ _ _ [.ref q0])
  refine kPOP X9 d9_5 rfl ?_
  refine kALn X9 d9_6 rfl rfl ?_
  have K17 : Keep h0 h3 [q2, q0] := (Keep.trans (Keep.refl h0 [q2, q0]) f12 (allS (Or.inl (List.mem_of_getElem? (i := 0) rfl)) (allS (Or.inl (List.mem_of_getElem? (i := 1) rfl)) all0)))
  exact kRETA X9 (gEL G) hret rfl rfl d9_7 (fun ve hve => ⟨rfl, K17, f13, f14, f15, f16⟩) (by decide)
def R_rm147 : Room := { frames := 0, cells := 0, slots := 0, locals := 0 }
theorem rm147 (G : Glob Z a0 iCS vSI) (i0 i1 : Int32) (q0 q1 : Addr) (kp0 : ClassId) (h0 : Heap) (Z0 : n0 ≤ h0.size) (O0 : Old Z n0 h0) (F_q0_value : Fld Z h0 q0 "java/lang/AbstractStringBuilder" "value" "[B" (.ref q1)) : MetH l Z EL0 n0 N_jdk_68_m_64 jdk_68_method_64_code 1 (some (.array (.byte))) [] R_rm147 #[.ref q0] h0 [] (fun vs v h ve => (v = some (.ref q1) ∧ (h0 = h))) := by
  refine MetH.of #[.val (.ref q0)] (plainFor_of_name pn_java_lang_AbstractStringBuilder) rfl Z0 (fun p e s m below meth c T0 hret hml hnm hSL hs0 X0 => ?_)
  refine kALn X0 d20_0 rfl rfl ?_
  refine kGETF X0 (wd G 48 rfl) Via.refl F_q0_value d20_1 (fun T1 X2 => ?_)
  exact kRETA X2 (gEL G) hret rfl rfl d20_4 (fun ve hve => ⟨rfl, rfl⟩) (by decide)
def R_rm149 : Room := { frames := 0, cells := 0, slots := 0, locals := 0 }
theorem rm149 (G : Glob Z a0 iCS vSI) (i0 i1 : Int32) (q0 q1 : Addr) (kp0 : ClassId) (h0 : Heap) (Z0 : n0 ≤ h0.size) (O0 : Old Z n0 h0) (F_q0_count : Fld Z h0 q0 "java/lang/AbstractStringBuilder" "count" "I" (.int 8)) : MetH l Z EL0 n0 N_jdk_68_m_6 jdk_68_method_6_code 1 (some .int) [] R_rm149 #[.ref q0] h0 [] (fun vs v h ve => (v = some (.int 8) ∧ (h0 = h))) := by
  refine MetH.of #[.val (.ref q0)] (plainFor_of_name pn_java_lang_AbstractStringBuilder) rfl Z0 (fun p e s m below meth c T0 hret hml hnm hSL hs0 X0 => ?_)
  refine kALn X0 d22_0 rfl rfl ?_
  refine kGETF X0 (wd G 72 rfl) Via.refl F_q0_count d22_1 (fun T1 X2 => ?_)
  exact kRETI X2 (gEL G) hret d22_4 (fun ve hve => ⟨rfl, rfl⟩) (by decide)
def R_rm148 : Room := { frames := 1, cells := 0, slots := 0, locals := 12 }
theorem rm148 (G : Glob Z a0 iCS vSI) (i0 i1 : Int32) (q0 q1 : Addr) (kp0 : ClassId) (h0 : Heap) (Z0 : n0 ≤ h0.size) (O0 : Old Z n0 h0) (F_q0_count : Fld Z h0 q0 "java/lang/AbstractStringBuilder" "count" "I" (.int 8)) (E_q0 : Exa Z h0 q0 "java/lang/StringBuilder") : MetH l Z EL0 n0 N_jdk_67_m_93 jdk_67_method_93_code 1 (some .int) [] R_rm148 #[.ref q0] h0 [] (fun vs v h ve => (v = some (.int 8) ∧ (h0 = h))) := by
  refine MetH.of #[.val (.ref q0)] (plainFor_of_name pn_java_lang_StringBuilder) rfl Z0 (fun p e s m below meth c T0 hret hml hnm hSL hs0 X0 => ?_)
  refine kALn X0 d21_0 rfl rfl ?_
  refine kSUP X0 (gEL G) (argsL := []) (rest := []) (wd G 125 rfl) (own_same (wd G 121 rfl) (own_noface (wd G 77 rfl) rfl) (by decide)) (wd G 121 rfl) (wd G 59 rfl) (by decide) (wd G 44 rfl) (wd G 126 rfl) (Ins.of_exa E_q0 (wd G 43 rfl)) (rm149 G i0 i1 q0 q1 kp0 h0 X0.n O0 F_q0_count) all0 (lenOf pd___I rfl) rfl 0 rfl (by decide) hml.symm d21_1 (fun v1 T2 h3 vm4 _ w5 q6 C7 C8 X9 => ?_)
  obtain ⟨e11, f12⟩ := q6
  subst e11
  subst f12
  show Go _ _ _ _ _ (mkF _ _ _ [.int 8])
  exact kRETI X9 (gEL G) hret d21_4 (fun ve hve => ⟨rfl, rfl⟩) (by decide)
def R_rm150 : Room := { frames := 0, cells := 0, slots := 0, locals := 0 }
theorem rm150 (G : Glob Z a0 iCS vSI) (i0 i1 : Int32) (q0 q1 : Addr) (kp0 : ClassId) (h0 : Heap) (Z0 : n0 ≤ h0.size) (O0 : Old Z n0 h0) (F_q0_coder : Fld Z h0 q0 "java/lang/AbstractStringBuilder" "coder" "B" (.int 0)) : MetH l Z EL0 n0 N_jdk_68_m_68 jdk_68_method_68_code 1 (some .boolean) [] R_rm150 #[.ref q0] h0 [] (fun vs v h ve => (v = some (.int 1) ∧ (h0 = h))) := by
  refine MetH.of #[.val (.ref q0)] (plainFor_of_name pn_java_lang_AbstractStringBuilder) rfl Z0 (fun p e s m below meth c T0 hret hml hnm hSL hs0 X0 => ?_)
  refine kGETS X0 (wd G 47 rfl) Via.refl (Sta.ext O0.2 (S_CS G)) d23_0 (fun T1 X2 => ?_)
  refine kIFf X2 d23_3 (XT.i0_eq_f (n_CS G)) ?_
  refine kALn X2 d23_6 rfl rfl ?_
  refine kGETF X2 (wd G 50 rfl) Via.refl F_q0_coder d23_7 (fun T3 X4 => ?_)
  refine kIFf X4 d23_10 (XT.i0_ne_f (by decide)) ?_
  refine kIC X4 1 d23_13 (by decide) ?_
  refine kGOTO X4 18 d23_14 (by decide) ?_
  exact kRETZ X4 (gEL G) (t := .boolean) hret (by simp) d23_18 (fun ve hve => ⟨rfl, rfl⟩) (by decide)
def R_rm152 : Room := { frames := 1, cells := 1, slots := 8, locals := 18 }
theorem rm152 (G : Glob Z a0 iCS vSI) (i0 i1 : Int32) (q0 : Addr) (kp0 : ClassId) (h0 : Heap) (Z0 : n0 ≤ h0.size) (O0 : Old Z n0 h0) (A_q0 : Arv Z h0 q0 kp0 .byte 16 [.int i0, .int i1, .int 46, .int 117, .int 112, .int 112, .int 101, .int 114, .int 0, .int 0, .int 0, .int 0, .int 0, .int 0, .int 0, .int 0] (.int 0)) : MetH l Z EL0 n0 N_jdk_65_m_133 jdk_65_method_133_code 5 (some (.array (.byte))) [] R_rm152 #[.ref q0, .int 0, .int 8] h0 [] (fun vs v h ve => (∃ (x0 : Addr), ∃ (z0 : ClassId), v = some (.ref x0) ∧ (Keep h0 h []) ∧ (h0.size ≤ x0) ∧ (Arv Z h x0 z0 .byte 8 [.int i0, .int i1, .int 46, .int 117, .int 112, .int 112, .int 101, .int 114] (.int 0)) ∧ (Safe Z EL0 ve h x0))) := by
  refine MetH.of #[.val (.ref q0), .val (.int 0), .val (.int 8), .unset, .unset] (plainFor_of_name pn_java_util_Arrays) rfl Z0 (fun p e s m below meth c T0 hret hml hnm hSL hs0 X0 => ?_)
  refine kILn X0 d25_0 rfl ?_
  refine kILn X0 d25_1 rfl ?_
  refine kSTAT X0 (gEL G) (argsL := [.int 0, .int 8]) (rest := []) (wd G 139 rfl) (wd G 140 rfl) (wd G 134 rfl) (wd G 141 rfl) (by decide) (rm134 G  h0 X0.n O0 ) all0 (lenOf pd__II_V rfl) rfl 0 rfl (by decide) hml.symm d25_2 (fun v1 T2 h3 vm4 _ w5 q6 C7 C8 X9 => ?_)
  obtain ⟨e11, f12⟩ := q6
  subst e11
  subst f12
  show Go _ _ _ _ _ (mkF _ _ _ [])
  refine kILn X9 d25_5 rfl ?_
  refine kILn X9 d25_6 rfl ?_
  refine kISUB X9 8 d25_7 (by decide) ?_
  refine kISn X9 #[.val (.ref q0), .val (.int 0), .val (.int 8), .val (.int 8), .unset] d25_8 rfl ?_
  refine kILn X9 d25_9 rfl ?_
  refine kNEWP X9 (wd G 19 rfl) (cap := 8) d25_10 (by decide) (by decide) (by decide) (by decide) (by decide) (fun T13 h14 a16 k17 E18 q19 g20 A21 s22 X15 => ?_)
  have n23 : q0 ≠ a16 := Nat.ne_of_lt (Nat.lt_of_lt_of_le (A_q0.lt) (Nat.le_of_eq q19.symm))
  have g24 : h0.size ≤ a16 := q19 ▸ X9.g0
  have f25 : Arv Z h14 a16 k17 .byte 8 [.int 0, .int 0, .int 0, .int 0, .int 0, .int 0, .int 0, .int 0] (.int 0) := A21.pad (pad_rep [] _ 8)
  refine kAS X15 #[.val (.ref q0), .val (.int 0), .val (.int 8), .val (.int 8), .val (.ref a16)] d25_12 rfl rfl ?_
  refine kALn X15 d25_14 rfl rfl ?_
  refine kILn X15 d25_15 rfl ?_
  refine kAL X15 d25_16 rfl rfl ?_
  refine kIC X15 0 d25_18 (by decide) ?_
  refine kALn X15 d25_19 rfl rfl ?_
  have f26 := (Arv.ext A_q0 E18)
  refine kLEN X15 f26 d25_20 ?_
  refine kILn X15 d25_21 rfl ?_
  refine kISUB X15 16 d25_22 (by decide) ?_
  refine kILn X15 d25_23 rfl ?_
  have f27 := (Old.ext O0 E18)
  refine kSTAT X15 (gEL G) (argsL := [.int 16, .int 8]) (rest := [.int 0, .ref a16, .int 0, .ref q0]) (wd G 142 rfl) (wd G 143 rfl) (wd G 144 rfl) (wd G 145 rfl) (by decide) (rm135 G  h14 X15.n f27 ) all0 (lenOf pd__II_I rfl) rfl 4 rfl (by decide) hml.symm d25_24 (fun v28 T29 h30 vm31 _ w32 q33 C34 C35 X36 => ?_)
  obtain ⟨e38, f39⟩ := q33
  subst e38
  subst f39
  show Go _ _ _ _ _ (mkF _ _ _ [.int 8, .int 0, .ref a16, .int 0, .ref q0])
  have f40 := (CHr.safe C35 (f25.lt) s22)
  refine kCPA X36 (wd G 146 rfl) (wd G 98 rfl) (wd G 96 rfl) (wd G 97 rfl) f26 f25 (Or.inl ⟨rfl, rfl⟩) (us := [.int i0, .int i1, .int 46, .int 117, .int 112, .int 112, .int 101, .int 114]) (by decide) rfl (by show 8 ≤ 8; decide) g20 f40 hml.symm d25_27 (by decide) 0 (Nat.le_of_eq rfl) (by decide) (fun T41 h42 L44 K45 C46 f47 X43 => ?_)
  have f48 : Arv Z h42 a16 k17 .byte 8 [.int i0, .int i1, .int 46, .int 117, .int 112, .int 112, .int 101, .int 114] (.int 0) := f47
  refine kAL X43 d25_30 rfl rfl ?_
  have K49 : Keep h0 h42 [] := (Keep.trans (Keep.ext (Keep.refl h0 []) E18) K45 (allS (Or.inr g24) all0))
  have f50 := (CHr.safe C46 (f25.lt) f40)
  exact kRETA X43 (gEL G) hret rfl rfl d25_32 (fun ve hve => ⟨a16, k17, rfl, K49, g24, f48, (CHr.safe hve (f48.lt) f50)⟩) (by decide)
def R_rm151 : Room := { frames := 2, cells := 1, slots := 8, locals := 34 }
theorem rm151 (G : Glob Z a0 iCS vSI) (i0 i1 : Int32) (q0 : Addr) (kp0 : ClassId) (h0 : Heap) (Z0 : n0 ≤ h0.size) (O0 : Old Z n0 h0) (A_q0 : Arv Z h0 q0 kp0 .byte 16 [.int i0, .int i1, .int 46, .int 117, .int 112, .int 112, .int 101, .int 114, .int 0, .int 0, .int 0, .int 0, .int 0, .int 0, .int 0, .int 0] (.int 0)) : MetH l Z EL0 n0 N_jdk_65_m_132 jdk_65_method_132_code 3 (some (.array (.byte))) [] R_rm151 #[.ref q0, .int 0, .int 8] h0 [] (fun vs v h ve => (∃ (x0 : Addr), ∃ (z0 : ClassId), v = some (.ref x0) ∧ (Keep h0 h []) ∧ (h0.size ≤ x0) ∧ (Arv Z h x0 z0 .byte 8 [.int i0, .int i1, .int 46, .int 117, .int 112, .int 112, .int 101, .int 114] (.int 0)) ∧ (Safe Z EL0 ve h x0))) := by
  refine MetH.of #[.val (.ref q0), .val (.int 0), .val (.int 8)] (plainFor_of_name pn_java_util_Arrays) rfl Z0 (fun p e s m below meth c T0 hret hml hnm hSL hs0 X0 => ?_)
  refine kILn X0 d24_0 rfl ?_
  refine kIFf X0 d24_1 (XT.i0_ne_f (by decide)) ?_
  refine kILn X0 d24_4 rfl ?_
  refine kALn X0 d24_5 rfl rfl ?_
  refine kLEN X0 A_q0 d24_6 ?_
  refine kICf X0 d24_7 (XT.ii_eq_f (by decide)) ?_
  refine kALn X0 d24_10 rfl rfl ?_
  refine kILn X0 d24_11 rfl ?_
  refine kILn X0 d24_12 rfl ?_
  refine kSTAT X0 (gEL G) (argsL := [.ref q0, .int 0, .int 8]) (rest := []) (wd G 136 rfl) (wd G 137 rfl) (wd G 134 rfl) (wd G 138 rfl) (by decide) (rm152 G i0 i1 q0 kp0 h0 X0.n O0 A_q0) all0 (lenOf pd___BII__B rfl) rfl 0 rfl (by decide) hml.symm d24_13 (fun v1 T2 h3 vm4 _ w5 q6 C7 C8 X9 => ?_)
  obtain ⟨a11, k12, e13, f14, f15, f16, f17⟩ := q6
  subst e13
  have n18 : q0 ≠ a11 := Nat.ne_of_lt (Nat.lt_of_lt_of_le (A_q0.lt) f15)
  have g19 : n0 ≤ a11 := Nat.le_trans X0.n f15
  have g20 : h0.size ≤ a11 := Nat.le_trans X0.g0 f15
  show Go _ _ _ _ _ (mkF _ _ _ [.ref a11])
  have K21 : Keep h0 h3 [] := (Keep.trans (Keep.refl h0 []) f14 all0)
  exact kRETA X9 (gEL G) hret rfl rfl d24_16 (fun ve hve => ⟨a11, k12, rfl, K21, g20, f16, (CHr.safe hve (f16.lt) f17)⟩) (by decide)
def R_rm146 : Room := { frames := 3, cells := 1, slots := 8, locals := 49 }
theorem rm146 (G : Glob Z a0 iCS vSI) (i0 i1 : Int32) (q0 q1 q2 : Addr) (kp0 : ClassId) (h0 : Heap) (Z0 : n0 ≤ h0.size) (O0 : Old Z n0 h0) (F_q1_value : Fld Z h0 q1 "java/lang/AbstractStringBuilder" "value" "[B" (.ref q2)) (E_q1 : Exa Z h0 q1 "java/lang/StringBuilder") (F_q1_count : Fld Z h0 q1 "java/lang/AbstractStringBuilder" "count" "I" (.int 8)) (F_q1_coder : Fld Z h0 q1 "java/lang/AbstractStringBuilder" "coder" "B" (.int 0)) (F_q0_coder : Fld Z h0 q0 "java/lang/String" "coder" "B" (.int 0)) (E_q0 : Exa Z h0 q0 "java/lang/String") (F_q0_value : Fld Z h0 q0 "java/lang/String" "value" "[B" (.null)) (A_q2 : Arv Z h0 q2 kp0 .byte 16 [.int i0, .int i1, .int 46, .int 117, .int 112, .int 112, .int 101, .int 114, .int 0, .int 0, .int 0, .int 0, .int 0, .int 0, .int 0, .int 0] (.int 0)) (d_q2_q0 : q2 ≠ q0) (g_q0 : n0 ≤ q0) : MetH l Z EL0 n0 N_jdk_42_m_150 jdk_42_method_150_code 5 none [] R_rm146 #[.ref q0, .ref q1, .null] h0 [q0] (fun vs v h ve => (∃ (x0 : Addr), ∃ (z0 : ClassId), v = none ∧ (Keep h0 h [q0]) ∧ (h0.size ≤ x0) ∧ (Arv Z h x0 z0 .byte 8 [.int i0, .int i1, .int 46, .int 117, .int 112, .int 112, .int 101, .int 114] (.int 0)) ∧ (Safe Z EL0 ve h x0) ∧ (Fld Z h q0 "java/lang/String" "coder" "B" (.int 0)) ∧ (Fld Z h q0 "java/lang/String" "value" "[B" (.ref x0)))) := by
  refine MetH.of #[.val (.ref q0), .val (.ref q1), .val .null, .unset, .unset] (plainFor_of_name pn_java_lang_String) rfl Z0 (fun p e s m below meth c T0 hret hml hnm hSL hs0 X0 => ?_)
  have S_q0 := hSL q0 (List.mem_of_getElem? (i := 0) rfl)
  refine kALn X0 d19_0 rfl rfl ?_
  refine kINIT X0 (wd G 11 rfl) (wd G 12 rfl) (wd G 13 rfl) hml.symm d19_1 (by decide) 0 (Nat.le_of_eq rfl) (by decide) (fun T1 X2 => ?_)
  refine kALn X2 d19_4 rfl rfl ?_
  refine kVIRT X2 (gEL G) (argsL := []) (rest := []) (wd G 114 rfl) (wd G 115 rfl) (own_nf X2.hZ (own_noface (wd G 77 rfl) rfl)) (wd G 117 rfl) (wd G 116 rfl) (wd G 44 rfl) (wd G 118 rfl) (by decide) E_q1 (rm147 G i0 i1 q1 q2 kp0 h0 X2.n O0 F_q1_value) all0 (lenOf pd____B rfl) rfl 0 rfl (by decide) hml.symm d19_5 (fun v3 T4 h5 vm6 _ w7 q8 C9 C10 X11 => ?_)
  obtain ⟨e13, f14⟩ := q8
  subst e13
  subst f14
  show Go _ _ _ _ _ (mkF _ _ _ [.ref q2])
  refine kASn X11 #[.val (.ref q0), .val (.ref q1), .val .null, .val (.ref q2), .unset] d19_8 rfl rfl ?_
  refine kALn X11 d19_9 rfl rfl ?_
  refine kVIRT X11 (gEL G) (argsL := []) (rest := []) (wd G 119 rfl) (wd G 120 rfl) (own_nf X11.hZ (own_noface (wd G 77 rfl) rfl)) (wd G 122 rfl) (wd G 123 rfl) (wd G 36 rfl) (wd G 124 rfl) (by decide) E_q1 (rm148 G i0 i1 q1 q2 kp0 h0 X11.n O0 F_q1_count E_q1) all0 (lenOf pd___I rfl) rfl 0 rfl (by decide) hml.symm d19_10 (fun v15 T16 h17 vm18 _ w19 q20 C21 C22 X23 => ?_)
  obtain ⟨e25, f26⟩ := q20
  subst e25
  subst f26
  show Go _ _ _ _ _ (mkF _ _ _ [.int 8])
  refine kIS X23 #[.val (.ref q0), .val (.ref q1), .val .null, .val (.ref q2), .val (.int 8)] d19_13 rfl ?_
  refine kALn X23 d19_15 rfl rfl ?_
  refine kVIRT X23 (gEL G) (argsL := []) (rest := []) (wd G 127 rfl) (wd G 128 rfl) (own_nf X23.hZ (own_noface (wd G 77 rfl) rfl)) (wd G 130 rfl) (wd G 129 rfl) (wd G 44 rfl) (wd G 131 rfl) (by decide) E_q1 (rm150 G i0 i1 q1 q2 kp0 h0 X23.n O0 F_q1_coder) all0 (lenOf pd___Z rfl) rfl 0 rfl (by decide) hml.symm d19_16 (fun v27 T28 h29 vm30 _ w31 q32 C33 C34 X35 => ?_)
  obtain ⟨e37, f38⟩ := q32
  subst e37
  subst f38
  show Go _ _ _ _ _ (mkF _ _ _ [.int 1])
  refine kIFf X35 d19_19 (XT.i0_eq_f (by decide)) ?_
  refine kALn X35 d19_22 rfl rfl ?_
  refine kIC X35 0 d19_23 (by decide) ?_
  have f39 := (CHr.safe C34 (F_q0_value.lt) (CHr.safe C22 (F_q0_value.lt) (CHr.safe C10 (F_q0_value.lt) S_q0)))
  refine kPUTF X35 (wd G 26 rfl) Via.refl F_q0_coder E_q0 (Or.inr ⟨(wd G 27 rfl), rfl, hnm⟩) (wd G 2 rfl) (ty := .byte) (by decide) (by decide) (by decide) g_q0 f39 d19_24 (fun T40 h41 L44 W43 X42 => ?_)
  have f45 := Fld.same W43 F_q0_coder
  refine kALn X42 d19_27 rfl rfl ?_
  refine kALn X42 d19_28 rfl rfl ?_
  refine kIC X42 0 d19_29 (by decide) ?_
  refine kIL X42 d19_30 rfl ?_
  have f46 := (Arv.other A_q2 W43 d_q2_q0)
  have f47 := (Old.wr O0 W43 g_q0)
  refine kSTAT X42 (gEL G) (argsL := [.ref q2, .int 0, .int 8]) (rest := [.ref q0]) (wd G 132 rfl) (wd G 133 rfl) (wd G 134 rfl) (wd G 135 rfl) (by decide) (rm151 G i0 i1 q2 kp0 h41 X42.n f47 f46) all0 (lenOf pd___BII__B rfl) rfl 1 rfl (by decide) hml.symm d19_32 (fun v48 T49 h50 vm51 _ w52 q53 C54 C55 X56 => ?_)
  obtain ⟨a58, k59, e60, f61, f62, f63, f64⟩ := q53
  subst e60
  have n65 : q0 ≠ a58 := Nat.ne_of_lt (Nat.lt_of_lt_of_le (f45.lt) f62)
  have f67 := (Exa.wr W43 E_q1)
  have n66 : q1 ≠ a58 := Nat.ne_of_lt (Nat.lt_of_lt_of_le (f67.lt) f62)
  have n68 : q2 ≠ a58 := Nat.ne_of_lt (Nat.lt_of_lt_of_le (f46.lt) f62)
  have g69 : n0 ≤ a58 := Nat.le_trans X42.n f62
  have g70 : h0.size ≤ a58 := Nat.le_trans X42.g0 f62
  show Go _ _ _ _ _ (mkF _ _ _ [.ref a58, .ref q0])
  have f71 := (Fld.keep (Fld.other W43 F_q0_value (Or.inr (slot_ne (Or.inr (wd G 29 rfl)) (Or.inr (wd G 27 rfl)) (by decide) (by decide : parseFieldDescriptor "[B" = some (.array (.byte))) (by decide : parseFieldDescriptor "B" = some .byte)))) f61 nin0)
  have f72 := (Exa.keep (Exa.wr W43 E_q0) f61)
  have f73 := (CHr.safe C55 (f45.lt) (Safe.wr W43 f39 X35.C.1 f39))
  refine kPUTF X56 (wd G 28 rfl) Via.refl f71 f72 (Or.inr ⟨(wd G 29 rfl), rfl, hnm⟩) (wd G 2 rfl) (ty := (.array (.byte))) (by decide) rfl rfl g_q0 f73 d19_35 (fun T74 h75 L78 W77 X76 => ?_)
  have f79 := Fld.same W77 f71
  refine kGOTO X76 97 d19_38 (by decide) ?_
  have K80 : Keep h0 h75 [q0] := (Keep.wr (Keep.trans (Keep.wr (Keep.refl h0 [q0]) W43 (Or.inl (List.mem_of_getElem? (i := 0) rfl))) f61 all0) W77 (Or.inl (List.mem_of_getElem? (i := 0) rfl)))
  have f81 := (Arv.other f63 W77 (Ne.symm n65))
  have f82 := (Safe.wr W77 f73 X56.C.1 f64)
  have f83 := (Fld.other W77 (Fld.keep f45 f61 nin0) (Or.inr (slot_ne (Or.inr (wd G 27 rfl)) (Or.inr (wd G 29 rfl)) (by decide) (by decide : parseFieldDescriptor "B" = some .byte) (by decide : parseFieldDescriptor "[B" = some (.array (.byte))))))
  exact kRETV X76 (gEL G) hret d19_97 (fun ve hve => ⟨a58, k59, rfl, K80, g70, f81, (CHr.safe hve (f81.lt) f82), f83, f79⟩) (by decide)
def R_rm145 : Room := { frames := 4, cells := 1, slots := 8, locals := 65 }
theorem rm145 (G : Glob Z a0 iCS vSI) (i0 i1 : Int32) (q0 q1 q2 : Addr) (kp0 : ClassId) (h0 : Heap) (Z0 : n0 ≤ h0.size) (O0 : Old Z n0 h0) (F_q1_value : Fld Z h0 q1 "java/lang/AbstractStringBuilder" "value" "[B" (.ref q2)) (E_q1 : Exa Z h0 q1 "java/lang/StringBuilder") (F_q1_count : Fld Z h0 q1 "java/lang/AbstractStringBuilder" "count" "I" (.int 8)) (F_q1_coder : Fld Z h0 q1 "java/lang/AbstractStringBuilder" "coder" "B" (.int 0)) (F_q0_coder : Fld Z h0 q0 "java/lang/String" "coder" "B" (.int 0)) (E_q0 : Exa Z h0 q0 "java/lang/String") (F_q0_value : Fld Z h0 q0 "java/lang/String" "value" "[B" (.null)) (A_q2 : Arv Z h0 q2 kp0 .byte 16 [.int i0, .int i1, .int 46, .int 117, .int 112, .int 112, .int 101, .int 114, .int 0, .int 0, .int 0, .int 0, .int 0, .int 0, .int 0, .int 0] (.int 0)) (d_q2_q0 : q2 ≠ q0) (g_q0 : n0 ≤ q0) : MetH l Z EL0 n0 N_jdk_42_m_53 jdk_42_method_53_code 2 none [] R_rm145 #[.ref q0, .ref q1] h0 [q0] (fun vs v h ve => (∃ (x0 : Addr), ∃ (z0 : ClassId), v = none ∧ (Keep h0 h [q0]) ∧ (h0.size ≤ x0) ∧ (Arv Z h x0 z0 .byte 8 [.int i0, .int i1, .int 46, .int 117, .int 112, .int 112, .int 101, .int 114] (.int 0)) ∧ (Safe Z EL0 ve h x0) ∧ (Fld Z h q0 "java/lang/String" "coder" "B" (.int 0)) ∧ (Fld Z h q0 "java/lang/String" "value" "[B" (.ref x0)))) := by
  refine MetH.of #[.val (.ref q0), .val (.ref q1)] (plainFor_of_name pn_java_lang_String) rfl Z0 (fun p e s m below meth c T0 hret hml hnm hSL hs0 X0 => ?_)
  have S_q0 := hSL q0 (List.mem_of_getElem? (i := 0) rfl)
  refine kALn X0 d18_0 rfl rfl ?_
  refine kALn X0 d18_1 rfl rfl ?_
  refine kNULL X0 d18_2 ?_
  refine kSPEC X0 (gEL G) (argsL := [.ref q1, .null]) (rest := []) (wd G 111 rfl) (wd G 112 rfl) (wd G 3 rfl) (wd G 113 rfl) rfl (by decide) (rm146 G i0 i1 q0 q1 q2 kp0 h0 X0.n O0 F_q1_value E_q1 F_q1_count F_q1_coder F_q0_coder E_q0 F_q0_value A_q2 d_q2_q0 g_q0) (allS ⟨(E_q0.lt), S_q0⟩ all0) (lenOf pd__Ljava_lang_AbstractStringBuilder_Ljava_lang_Void__V rfl) rfl 0 rfl (by decide) hml.symm d18_3 (fun v1 T2 h3 vm4 _ w5 q6 C7 C8 X9 => ?_)
  obtain ⟨a11, k12, e13, f14, f15, f16, f17, f18, f19⟩ := q6
  subst e13
  have n20 : q0 ≠ a11 := Nat.ne_of_lt (Nat.lt_of_lt_of_le (E_q0.lt) f15)
  have n21 : q1 ≠ a11 := Nat.ne_of_lt (Nat.lt_of_lt_of_le (E_q1.lt) f15)
  have n22 : q2 ≠ a11 := Nat.ne_of_lt (Nat.lt_of_lt_of_le (A_q2.lt) f15)
  have g23 : n0 ≤ a11 := Nat.le_trans X0.n f15
  have g24 : h0.size ≤ a11 := Nat.le_trans X0.g0 f15
  show Go _ _ _ _ _ (mkF _ _ _ [])
  have K25 : Keep h0 h3 [q0] := (Keep.trans (Keep.refl h0 [q0]) f14 (allS (Or.inl (List.mem_of_getElem? (i := 0) rfl)) all0))
  exact kRETV X9 (gEL G) hret d18_6 (fun ve hve => ⟨a11, k12, rfl, K25, g24, f16, (CHr.safe hve (f16.lt) f17), f18, f19⟩) (by decide)
def R_rm144 : Room := { frames := 5, cells := 2, slots := 12, locals := 79 }
theorem rm144 (G : Glob Z a0 iCS vSI) (i0 i1 : Int32) (q0 q1 : Addr) (kp0 : ClassId) (h0 : Heap) (Z0 : n0 ≤ h0.size) (O0 : Old Z n0 h0) (E_q0 : Exa Z h0 q0 "java/lang/StringBuilder") (A_q1 : Arv Z h0 q1 kp0 .byte 16 [.int i0, .int i1, .int 46, .int 117, .int 112, .int 112, .int 101, .int 114, .int 0, .int 0, .int 0, .int 0, .int 0, .int 0, .int 0, .int 0] (.int 0)) (F_q0_value : Fld Z h0 q0 "java/lang/AbstractStringBuilder" "value" "[B" (.ref q1)) (F_q0_count : Fld Z h0 q0 "java/lang/AbstractStringBuilder" "count" "I" (.int 8)) (F_q0_coder : Fld Z h0 q0 "java/lang/AbstractStringBuilder" "coder" "B" (.int 0)) : MetH l Z EL0 n0 N_jdk_67_m_42 jdk_67_method_42_code 1 (some (.object "java/lang/String")) [] R_rm144 #[.ref q0] h0 [] (fun vs v h ve => (∃ (x0 : Addr), ∃ (x1 : Addr), ∃ (z0 : ClassId), v = some (.ref x0) ∧ (Keep h0 h []) ∧ (h0.size ≤ x0) ∧ (h0.size ≤ x1) ∧ (x0 ≠ x1) ∧ (Exa Z h x0 "java/lang/String") ∧ (Fld Z h x0 "java/lang/String" "coder" "B" (.int 0)) ∧ (Fld Z h x0 "java/lang/String" "value" "[B" (.ref x1)) ∧ (Safe Z EL0 ve h x0) ∧ (Arv Z h x1 z0 .byte 8 [.int i0, .int i1, .int 46, .int 117, .int 112, .int 112, .int 101, .int 114] (.int 0)) ∧ (Safe Z EL0 ve h x1))) := by
  refine MetH.of #[.val (.ref q0)] (plainFor_of_name pn_java_lang_StringBuilder) rfl Z0 (fun p e s m below meth c T0 hret hml hnm hSL hs0 X0 => ?_)
  refine kNEW X0 (wd G 107 rfl) (wd G 2 rfl) (wd G 3 rfl) d17_0 (by decide) (by decide) (fun T1 h2 a4 E5 q6 g7 A8 D9 s10 X3 => ?_)
  have n11 : q0 ≠ a4 := Nat.ne_of_lt (Nat.lt_of_lt_of_le (E_q0.lt) (Nat.le_of_eq q6.symm))
  have n12 : q1 ≠ a4 := Nat.ne_of_lt (Nat.lt_of_lt_of_le (A_q1.lt) (Nat.le_of_eq q6.symm))
  have g13 : h0.size ≤ a4 := q6 ▸ X0.g0
  have f14 : Fld Z h2 a4 "java/lang/String" "coder" "B" (.int 0) := D9 (Or.inr (wd G 27 rfl)) (ty := .byte) (by decide)
  have f15 : Fld Z h2 a4 "java/lang/String" "value" "[B" (.null) := D9 (Or.inr (wd G 29 rfl)) (ty := (.array (.byte))) (by decide)
  refine kDUP X3 d17_3 rfl ?_
  refine kALn X3 d17_4 rfl rfl ?_
  have f16 := (Fld.ext E5 F_q0_value)
  have f17 := (Exa.ext E5 E_q0)
  have f18 := (Fld.ext E5 F_q0_count)
  have f19 := (Fld.ext E5 F_q0_coder)
  have f20 := (Arv.ext A_q1 E5)
  have f21 := (Old.ext O0 E5)
  refine kSPEC X3 (gEL G) (argsL := [.ref q0]) (rest := [.ref a4]) (wd G 108 rfl) (wd G 109 rfl) (wd G 3 rfl) (wd G 110 rfl) rfl (by decide) (rm145 G i0 i1 a4 q0 q1 kp0 h2 X3.n f21 f16 f17 f18 f19 f14 A8 f15 f20 n12 g7) (allS ⟨(A8.lt), s10⟩ all0) (lenOf pd__Ljava_lang_StringBuilder__V rfl) rfl 1 rfl (by decide) hml.symm d17_5 (fun v22 T23 h24 vm25 _ w26 q27 C28 C29 X30 => ?_)
  obtain ⟨a32, k33, e34, f35, f36, f37, f38, f39, f40⟩ := q27
  subst e34
  have n41 : q0 ≠ a32 := Nat.ne_of_lt (Nat.lt_of_lt_of_le (f17.lt) f36)
  have n42 : q1 ≠ a32 := Nat.ne_of_lt (Nat.lt_of_lt_of_le (f20.lt) f36)
  have n43 : a4 ≠ a32 := Nat.ne_of_lt (Nat.lt_of_lt_of_le (A8.lt) f36)
  have g44 : n0 ≤ a32 := Nat.le_trans X3.n f36
  have g45 : h0.size ≤ a32 := Nat.le_trans X3.g0 f36
  show Go _ _ _ _ _ (mkF _ _ _ [.ref a4])
  have K46 : Keep h0 h24 [] := (Keep.trans (Keep.ext (Keep.refl h0 []) E5) f35 (allS (Or.inr g13) all0))
  have f47 := (Exa.keep A8 f35)
  have f48 := (CHr.safe C29 (f14.lt) s10)
  exact kRETA X30 (gEL G) hret rfl rfl d17_8 (fun ve hve => ⟨a4, a32, k33, rfl, K46, g13, g45, n43, f47, f39, f40, (CHr.safe hve (f47.lt) f48), f37, (CHr.safe hve (f37.lt) f38)⟩) (by decide)
def R_rm138 : Room := { frames := 6, cells := 6, slots := 60, locals := 91 }
theorem rm138 (G : Glob Z a0 iCS vSI) (i0 i1 : Int32) (q0 q1 : Addr) (kp0 : ClassId) (h0 : Heap) (Z0 : n0 ≤ h0.size) (O0 : Old Z n0 h0) (E_q0 : Exa Z h0 q0 "java/lang/String") (A_q1 : Arv Z h0 q1 kp0 .byte 2 [.int i0, .int i1] (.int 0)) (F_q0_value : Fld Z h0 q0 "java/lang/String" "value" "[B" (.ref q1)) (F_q0_coder : Fld Z h0 q0 "java/lang/String" "coder" "B" (.int 0)) : MetH l Z EL0 n0 N_prog_3_m_8 prog_3_method_8_code 2 (some (.object "java/lang/String")) [] R_rm138 #[.ref q0, .int 1] h0 [q0, q1] (fun vs v h ve => (∃ (x0 : Addr), ∃ (x1 : Addr), ∃ (z0 : ClassId), v = some (.ref x0) ∧ (Keep h0 h []) ∧ (h0.size ≤ x0) ∧ (h0.size ≤ x1) ∧ (x0 ≠ x1) ∧ (Exa Z h x0 "java/lang/String") ∧ (Fld Z h x0 "java/lang/String" "coder" "B" (.int 0)) ∧ (Fld Z h x0 "java/lang/String" "value" "[B" (.ref x1)) ∧ (Safe Z EL0 ve h x0) ∧ (Arv Z h x1 z0 .byte 8 [.int i0, .int i1, .int 46, .int 117, .int 112, .int 112, .int 101, .int 114] (.int 0)) ∧ (Safe Z EL0 ve h x1))) := by
  refine MetH.of #[.val (.ref q0), .val (.int 1)] (plainFor_of_name pn_com_example_tight_calculus_tightcalculus_Component) rfl Z0 (fun p e s m below meth c T0 hret hml hnm hSL hs0 X0 => ?_)
  have S_q0 := hSL q0 (List.mem_of_getElem? (i := 0) rfl)
  have S_q1 := hSL q1 (List.mem_of_getElem? (i := 1) rfl)
  refine kNEW X0 (wd G 34 rfl) (wd G 35 rfl) (wd G 36 rfl) d6_0 (by decide) (by decide) (fun T1 h2 a4 E5 q6 g7 A8 D9 s10 X3 => ?_)
  have n11 : q0 ≠ a4 := Nat.ne_of_lt (Nat.lt_of_lt_of_le (E_q0.lt) (Nat.le_of_eq q6.symm))
  have n12 : q1 ≠ a4 := Nat.ne_of_lt (Nat.lt_of_lt_of_le (A_q1.lt) (Nat.le_of_eq q6.symm))
  have g13 : h0.size ≤ a4 := q6 ▸ X0.g0
  have f14 : Fld Z h2 a4 "java/lang/AbstractStringBuilder" "value" "[B" (.null) := D9 (Or.inl (wd G 49 rfl)) (ty := (.array (.byte))) (by decide)
  have f15 : Fld Z h2 a4 "java/lang/AbstractStringBuilder" "coder" "B" (.int 0) := D9 (Or.inl (wd G 51 rfl)) (ty := .byte) (by decide)
  have f16 : Fld Z h2 a4 "java/lang/AbstractStringBuilder" "count" "I" (.int 0) := D9 (Or.inl (wd G 73 rfl)) (ty := .int) (by decide)
  refine kDUP X3 d6_3 rfl ?_
  have f17 := (Old.ext O0 E5)
  refine kSPEC X3 (gEL G) (argsL := []) (rest := [.ref a4]) (wd G 37 rfl) (wd G 38 rfl) (wd G 36 rfl) (wd G 39 rfl) rfl (by decide) (rm4 G a4 h2 X3.n f17 A8 f14 f15 f16 g7) all0 (lenOf pd___V rfl) rfl 1 rfl (by decide) hml.symm d6_4 (fun v18 T19 h20 vm21 _ w22 q23 C24 C25 X26 => ?_)
  obtain ⟨a28, k29, e30, f31, f32, f33, f34, f35, f36, f37⟩ := q23
  subst e30
  have f39 := (Exa.ext E5 E_q0)
  have n38 : q0 ≠ a28 := Nat.ne_of_lt (Nat.lt_of_lt_of_le (f39.lt) f32)
  have f41 := (Arv.ext A_q1 E5)
  have n40 : q1 ≠ a28 := Nat.ne_of_lt (Nat.lt_of_lt_of_le (f41.lt) f32)
  have n42 : a4 ≠ a28 := Nat.ne_of_lt (Nat.lt_of_lt_of_le (A8.lt) f32)
  have g43 : n0 ≤ a28 := Nat.le_trans X3.n f32
  have g44 : h0.size ≤ a28 := Nat.le_trans X3.g0 f32
  show Go _ _ _ _ _ (mkF _ _ _ [.ref a4])
  refine kALn X26 d6_7 rfl rfl ?_
  have f45 := (Fld.keep (Fld.ext E5 F_q0_value) f31 (ninS n11 nin0))
  have f46 := (Arv.keep f41 f31 (ninS n12 nin0))
  have f47 := (Fld.keep (Fld.ext E5 F_q0_coder) f31 (ninS n11 nin0))
  have f48 := (Exa.keep f39 f31)
  have f49 := (Exa.keep A8 f31)
  have f50 := (Old.keep f17 f31 (allS g7 all0))
  refine kVIRT X26 (gEL G) (argsL := [.ref q0]) (rest := []) (wd G 52 rfl) (wd G 53 rfl) (own_nf X26.hZ (own_noinst (wd G 35 rfl))) (wd G 55 rfl) (wd G 54 rfl) (wd G 36 rfl) (wd G 56 rfl) (by decide) f49 (rm111 G i0 i1 a4 q0 a28 q1 k29 kp0 h20 X26.n f50 f45 f46 f47 f48 f36 f37 f33 f35 f49 n42 g7 g43) (allS ⟨(f33.lt), f34⟩ all0) (lenOf pd__Ljava_lang_String__Ljava_lang_StringBuilder_ rfl) rfl 0 rfl (by decide) hml.symm d6_8 (fun v51 T52 h53 vm54 _ w55 q56 C57 C58 X59 => ?_)
  obtain ⟨e61, f62, f63, f64, f65, f66⟩ := q56
  subst e61
  show Go _ _ _ _ _ (mkF _ _ _ [.ref a4])
  refine kILn X59 d6_11 rfl ?_
  refine kIFf X59 d6_12 (XT.i0_eq_f (by decide)) ?_
  refine kLDCT X59 (gEL G) (wd G 170 rfl) (gSA G) (by decide) (text := ".upper") (vs := [.int 46, .int 117, .int 112, .int 112, .int 101, .int 114]) (z := 6) (by decide) (by decide) (by decide) d6_15 (n := 24) (by decide) (by decide) (by decide) (by decide) (fun T67 h68 vm70 a71 b72 k73 E74 C75 f76 f77 f78 f79 n80 X69 => ?_)
  have f81 := (CHr.safe C75 ((Exa.keep f48 f62)).lt (CHr.safe C58 (f48.lt) (CHr.safe C25 (f39.lt) (Safe.ext E5 X0.C.1 S_q0))))
  have n82 := (n80 q0 f81).1
  have n83 := (n80 q0 f81).2
  have f84 := (CHr.safe C75 ((Arv.keep f46 f62 (ninS n40 (ninS n12 nin0)))).lt (CHr.safe C58 (f46.lt) (CHr.safe C25 (f41.lt) (Safe.ext E5 X0.C.1 S_q1))))
  have n85 := (n80 q1 f84).1
  have n86 := (n80 q1 f84).2
  have f87 := (Exa.ext E74 (Exa.keep f49 f62))
  have n88 := (n80 a4 (Safe.exa X69.hZ.alike f87 (by decide) (by decide))).1
  have n89 := (n80 a4 (Safe.exa X69.hZ.alike f87 (by decide) (by decide))).2
  have f90 := (CHr.safe C75 (f63.lt) (CHr.safe C58 (f33.lt) f34))
  have n91 := (n80 a28 f90).1
  have n92 := (n80 a28 f90).2
  have n93 : ∀ x, x < h0.size → Safe Z EL0 s.vm h0 x → x ≠ b72 := fun x hx S => (n80 x (CHr.safe (hs0 ▸ X69.C) hx S)).2
  refine kGOTO X69 22 d6_17 (by decide) ?_
  have f94 := (Fld.ext E74 f65)
  have f95 := (Fld.ext E74 f66)
  have f96 := (Arv.ext f63 E74)
  have f97 := (Fld.ext E74 f64)
  have f98 := (Old.ext (Old.keep f50 f62 (allS g43 (allS g7 all0))) E74)
  refine kVIRT X69 (gEL G) (argsL := [.ref a71]) (rest := []) (wd G 52 rfl) (wd G 53 rfl) (own_nf X69.hZ (own_noinst (wd G 35 rfl))) (wd G 55 rfl) (wd G 54 rfl) (wd G 36 rfl) (wd G 56 rfl) (by decide) f87 (rm139 G i0 i1 a4 a71 a28 b72 k29 k73 h68 X69.n f98 f78 f79 f77 f76 f94 f95 f96 f97 f87 n42 g7 g43) (allS ⟨(f96.lt), f90⟩ all0) (lenOf pd__Ljava_lang_String__Ljava_lang_StringBuilder_ rfl) rfl 0 rfl (by decide) hml.symm d6_22 (fun v99 T100 h101 vm102 _ w103 q104 C105 C106 X107 => ?_)
  obtain ⟨e109, f110, f111, f112, f113, f114⟩ := q104
  subst e109
  show Go _ _ _ _ _ (mkF _ _ _ [.ref a4])
  have f115 := (Exa.keep f87 f110)
  have f116 := (Old.keep f98 f110 (allS g43 (allS g7 all0)))
  refine kVIRT X107 (gEL G) (argsL := []) (rest := []) (wd G 102 rfl) (wd G 103 rfl) (own_nf X107.hZ (own_noinst (wd G 35 rfl))) (wd G 105 rfl) (wd G 104 rfl) (wd G 36 rfl) (wd G 106 rfl) (by decide) f115 (rm144 G i0 i1 a4 a28 k29 h101 X107.n f116 f115 f111 f114 f113 f112) all0 (lenOf pd___Ljava_lang_String_ rfl) rfl 0 rfl (by decide) hml.symm d6_25 (fun v117 T118 h119 vm120 _ w121 q122 C123 C124 X125 => ?_)
  obtain ⟨a127, a128, k129, e130, f131, f132, f133, f134, f135, f136, f137, f138, f139, f140⟩ := q122
  subst e130
  have f142 := (Exa.keep (Exa.ext E74 (Exa.keep f48 f62)) f110)
  have n141 : q0 ≠ a127 := Nat.ne_of_lt (Nat.lt_of_lt_of_le (f142.lt) f132)
  have f144 := (Arv.keep (Arv.ext (Arv.keep f46 f62 (ninS n40 (ninS n12 nin0))) E74) f110 (ninS n40 (ninS n12 nin0)))
  have n143 : q1 ≠ a127 := Nat.ne_of_lt (Nat.lt_of_lt_of_le (f144.lt) f132)
  have n145 : a4 ≠ a127 := Nat.ne_of_lt (Nat.lt_of_lt_of_le (f115.lt) f132)
  have n146 : a28 ≠ a127 := Nat.ne_of_lt (Nat.lt_of_lt_of_le (f111.lt) f132)
  have f148 := (Exa.keep f76 f110)
  have n147 : a71 ≠ a127 := Nat.ne_of_lt (Nat.lt_of_lt_of_le (f148.lt) f132)
  have f150 := (Arv.keep f79 f110 (ninS (Ne.symm n92) (ninS (Ne.symm n89) nin0)))
  have n149 : b72 ≠ a127 := Nat.ne_of_lt (Nat.lt_of_lt_of_le (f150.lt) f132)
  have n151 : q0 ≠ a128 := Nat.ne_of_lt (Nat.lt_of_lt_of_le (f142.lt) f133)
  have n152 : q1 ≠ a128 := Nat.ne_of_lt (Nat.lt_of_lt_of_le (f144.lt) f133)
  have n153 : a4 ≠ a128 := Nat.ne_of_lt (Nat.lt_of_lt_of_le (f115.lt) f133)
  have n154 : a28 ≠ a128 := Nat.ne_of_lt (Nat.lt_of_lt_of_le (f111.lt) f133)
  have n155 : a71 ≠ a128 := Nat.ne_of_lt (Nat.lt_of_lt_of_le (f148.lt) f133)
  have n156 : b72 ≠ a128 := Nat.ne_of_lt (Nat.lt_of_lt_of_le (f150.lt) f133)
  have g157 : n0 ≤ a127 := Nat.le_trans X107.n f132
  have g158 : h0.size ≤ a127 := Nat.le_trans X107.g0 f132
  have g159 : n0 ≤ a128 := Nat.le_trans X107.n f133
  have g160 : h0.size ≤ a128 := Nat.le_trans X107.g0 f133
  show Go _ _ _ _ _ (mkF _ _ _ [.ref a127])
  have K161 : Keep h0 h119 [] := (Keep.trans (Keep.trans (Keep.ext (Keep.trans (Keep.trans (Keep.ext (Keep.refl h0 []) E5) f31 (allS (Or.inr g13) all0)) f62 (allS (Or.inr g44) (allS (Or.inr g13) all0))) E74) f110 (allS (Or.inr g44) (allS (Or.inr g13) all0))) f131 all0)
  exact kRETA X125 (gEL G) hret rfl rfl d6_28 (fun ve hve => ⟨a127, a128, k129, rfl, K161, g158, g160, f134, f135, f136, f137, (CHr.safe hve (f135.lt) f138), f139, (CHr.safe hve (f139.lt) f140)⟩) (by decide)
def R_rm154 : Room := { frames := 0, cells := 0, slots := 0, locals := 0 }
theorem rm154 (G : Glob Z a0 iCS vSI) (i0 i1 : Int32) (q0 q1 : Addr) (kp0 : ClassId) (h0 : Heap) (Z0 : n0 ≤ h0.size) (O0 : Old Z n0 h0) (F_q0_coder : Fld Z h0 q0 "java/lang/String" "coder" "B" (.int 0)) : MetH l Z EL0 n0 N_jdk_42_m_152 jdk_42_method_152_code 1 (some .byte) [] R_rm154 #[.ref q0] h0 [] (fun vs v h ve => (v = some (.int 0) ∧ (h0 = h))) := by
  refine MetH.of #[.val (.ref q0)] (plainFor_of_name pn_java_lang_String) rfl Z0 (fun p e s m below meth c T0 hret hml hnm hSL hs0 X0 => ?_)
  refine kGETS X0 (wd G 14 rfl) Via.refl (Sta.ext O0.2 (S_CS G)) d12_0 (fun T1 X2 => ?_)
  refine kIFf X2 d12_3 (XT.i0_eq_f (n_CS G)) ?_
  refine kALn X2 d12_6 rfl rfl ?_
  refine kGETF X2 (wd G 26 rfl) Via.refl F_q0_coder d12_7 (fun T3 X4 => ?_)
  refine kGOTO X4 14 d12_10 (by decide) ?_
  exact kRETZ X4 (gEL G) (t := .byte) hret (by simp) d12_14 (fun ve hve => ⟨rfl, rfl⟩) (by decide)
def R_rm153 : Room := { frames := 1, cells := 0, slots := 0, locals := 13 }
theorem rm153 (G : Glob Z a0 iCS vSI) (i0 i1 : Int32) (q0 q1 : Addr) (kp0 : ClassId) (h0 : Heap) (Z0 : n0 ≤ h0.size) (O0 : Old Z n0 h0) (F_q0_value : Fld Z h0 q0 "java/lang/String" "value" "[B" (.ref q1)) (A_q1 : Arv Z h0 q1 kp0 .byte 8 [.int i0, .int i1, .int 46, .int 117, .int 112, .int 112, .int 101, .int 114] (.int 0)) (F_q0_coder : Fld Z h0 q0 "java/lang/String" "coder" "B" (.int 0)) (E_q0 : Exa Z h0 q0 "java/lang/String") : MetH l Z EL0 n0 N_jdk_42_m_54 jdk_42_method_54_code 1 (some .int) [] R_rm153 #[.ref q0] h0 [] (fun vs v h ve => (v = some (.int 8) ∧ (h0 = h))) := by
  refine MetH.of #[.val (.ref q0)] (plainFor_of_name pn_java_lang_String) rfl Z0 (fun p e s m below meth c T0 hret hml hnm hSL hs0 X0 => ?_)
  refine kALn X0 d11_0 rfl rfl ?_
  refine kGETF X0 (wd G 28 rfl) Via.refl F_q0_value d11_1 (fun T1 X2 => ?_)
  refine kLEN X2 A_q1 d11_4 ?_
  refine kALn X2 d11_5 rfl rfl ?_
  refine kVIRT X2 (gEL G) (argsL := []) (rest := [.int 8]) (wd G 67 rfl) (wd G 68 rfl) (own_nf X2.hZ (own_noinst (wd G 2 rfl))) (wd G 70 rfl) (wd G 69 rfl) (wd G 3 rfl) (wd G 71 rfl) (by decide) E_q0 (rm154 G i0 i1 q0 q1 kp0 h0 X2.n O0 F_q0_coder) all0 (lenOf pd___B rfl) rfl 1 rfl (by decide) hml.symm d11_6 (fun v3 T4 h5 vm6 _ w7 q8 C9 C10 X11 => ?_)
  obtain ⟨e13, f14⟩ := q8
  subst e13
  subst f14
  show Go _ _ _ _ _ (mkF _ _ _ [.int 0, .int 8])
  refine kISHR X11 8 d11_9 (by decide) ?_
  exact kRETI X11 (gEL G) hret d11_10 (fun ve hve => ⟨rfl, rfl⟩) (by decide)
def R_rm158 : Room := { frames := 0, cells := 0, slots := 0, locals := 0 }
theorem rm158 (G : Glob Z a0 iCS vSI) (i0 i1 i2 : Int32) (q0 q1 : Addr) (kp0 kp1 : ClassId) (h0 : Heap) (Z0 : n0 ≤ h0.size) (O0 : Old Z n0 h0) (A_q0 : Arv Z h0 q0 kp0 .char 3 [.int i0, .int i1, .int i2] (.int 0)) (c_0 : ¬ (255 : Int32) < i0) (A_q1 : Arv Z h0 q1 kp1 .byte 3 [.int 0, .int 0, .int 0] (.int 0)) (d_q0_q1 : q0 ≠ q1) (c_1 : ¬ (255 : Int32) < i1) (c_2 : ¬ (255 : Int32) < i2) (g_q1 : n0 ≤ q1) : MetH l Z EL0 n0 N_jdk_52_m_21 jdk_52_method_21_code 7 (some .int) [] R_rm158 #[.ref q0, .int 0, .ref q1, .int 0, .int 3] h0 [q1] (fun vs v h ve => (v = some (.int 3) ∧ (Keep h0 h [q1]) ∧ (Arv Z h q1 kp1 .byte 3 [.int (ownB i0), .int (ownB i1), .int (ownB i2)] (.int 0)))) := by
  refine MetH.of #[.val (.ref q0), .val (.int 0), .val (.ref q1), .val (.int 0), .val (.int 3), .unset, .unset] (plainFor_of_name pn_java_lang_StringUTF16) rfl Z0 (fun p e s m below meth c T0 hret hml hnm hSL hs0 X0 => ?_)
  have S_q1 := hSL q1 (List.mem_of_getElem? (i := 0) rfl)
  refine kIC X0 0 d4_0 (by decide) ?_
  refine kIS X0 #[.val (.ref q0), .val (.int 0), .val (.ref q1), .val (.int 0), .val (.int 3), .val (.int 0), .unset] d4_1 rfl ?_
  refine kIL X0 d4_3 rfl ?_
  refine kIL X0 d4_5 rfl ?_
  refine kICf X0 d4_7 (XT.ii_ge_f (by decide)) ?_
  refine kALn X0 d4_10 rfl rfl ?_
  refine kILn X0 d4_11 rfl ?_
  refine kCALD X0 (.int i0) A_q0 (by decide) rfl d4_12 ?_
  refine kIS X0 #[.val (.ref q0), .val (.int 0), .val (.ref q1), .val (.int 0), .val (.int 3), .val (.int 0), .val (.int i0)] d4_13 rfl ?_
  refine kIL X0 d4_15 rfl ?_
  refine kSI X0 255 d4_17 (by decide) ?_
  refine kICt X0 26 d4_20 (XT.ii_le_t c_0) (by decide) ?_
  refine kALn X0 d4_26 rfl rfl ?_
  refine kILn X0 d4_27 rfl ?_
  refine kIL X0 d4_28 rfl ?_
  refine kI2B X0 (ownB i0) d4_30 rfl ?_
  refine kBASTO X0 A_q1 (by decide) 0 (ownB i0) (own_nb _) (by decide) (by show 0 < 3; decide) g_q1 S_q1 d4_31 (fun T1 h2 L4 W5 f6 X3 => ?_)
  have f7 : Arv Z h2 q1 kp1 .byte 3 [.int (ownB i0), .int 0, .int 0] (.int 0) := f6
  refine kIINC X3 (1 : Int32) (1 : Int32) #[.val (.ref q0), .val (.int 1), .val (.ref q1), .val (.int 0), .val (.int 3), .val (.int 0), .val (.int i0)] d4_32 (by decide) rfl (by decide) rfl ?_
  refine kIINC X3 (1 : Int32) (1 : Int32) #[.val (.ref q0), .val (.int 1), .val (.ref q1), .val (.int 1), .val (.int 3), .val (.int 0), .val (.int i0)] d4_35 (by decide) rfl (by decide) rfl ?_
  refine kIINC X3 (1 : Int32) (1 : Int32) #[.val (.ref q0), .val (.int 1), .val (.ref q1), .val (.int 1), .val (.int 3), .val (.int 1), .val (.int i0)] d4_38 (by decide) rfl (by decide) rfl ?_
  refine kGOTO X3 3 d4_41 (by decide) ?_
  refine kIL X3 d4_3 rfl ?_
  refine kIL X3 d4_5 rfl ?_
  refine kICf X3 d4_7 (XT.ii_ge_f (by decide)) ?_
  refine kALn X3 d4_10 rfl rfl ?_
  refine kILn X3 d4_11 rfl ?_
  have f8 := (Arv.other A_q0 W5 d_q0_q1)
  refine kCALD X3 (.int i1) f8 (by decide) rfl d4_12 ?_
  refine kIS X3 #[.val (.ref q0), .val (.int 1), .val (.ref q1), .val (.int 1), .val (.int 3), .val (.int 1), .val (.int i1)] d4_13 rfl ?_
  refine kIL X3 d4_15 rfl ?_
  refine kSI X3 255 d4_17 (by decide) ?_
  refine kICt X3 26 d4_20 (XT.ii_le_t c_1) (by decide) ?_
  refine kALn X3 d4_26 rfl rfl ?_
  refine kILn X3 d4_27 rfl ?_
  refine kIL X3 d4_28 rfl ?_
  refine kI2B X3 (ownB i1) d4_30 rfl ?_
  have f9 := (Safe.wr W5 S_q1 X0.C.1 S_q1)
  refine kBASTO X3 f7 (by decide) 1 (ownB i1) (own_nb _) (by decide) (by show 1 < 3; decide) g_q1 f9 d4_31 (fun T10 h11 L13 W14 f15 X12 => ?_)
  have f16 : Arv Z h11 q1 kp1 .byte 3 [.int (ownB i0), .int (ownB i1), .int 0] (.int 0) := f15
  refine kIINC X12 (1 : Int32) (2 : Int32) #[.val (.ref q0), .val (.int 2), .val (.ref q1), .val (.int 1), .val (.int 3), .val (.int 1), .val (.int i1)] d4_32 (by decide) rfl (by decide) rfl ?_
  refine kIINC X12 (1 : Int32) (2 : Int32) #[.val (.ref q0), .val (.int 2), .val (.ref q1), .val (.int 2), .val (.int 3), .val (.int 1), .val (.int i1)] d4_35 (by decide) rfl (by decide) rfl ?_
  refine kIINC X12 (1 : Int32) (2 : Int32) #[.val (.ref q0), .val (.int 2), .val (.ref q1), .val (.int 2), .val (.int 3), .val (.int 2), .val (.int i1)] d4_38 (by decide) rfl (by decide) rfl ?_
  refine kGOTO X12 3 d4_41 (by decide) ?_
  refine kIL X12 d4_3 rfl ?_
  refine kIL X12 d4_5 rfl ?_
  refine kICf X12 d4_7 (XT.ii_ge_f (by decide)) ?_
  refine kALn X12 d4_10 rfl rfl ?_
  refine kILn X12 d4_11 rfl ?_
  have f17 := (Arv.other f8 W14 d_q0_q1)
  refine kCALD X12 (.int i2) f17 (by decide) rfl d4_12 ?_
  refine kIS X12 #[.val (.ref q0), .val (.int 2), .val (.ref q1), .val (.int 2), .val (.int 3), .val (.int 2), .val (.int i2)] d4_13 rfl ?_
  refine kIL X12 d4_15 rfl ?_
  refine kSI X12 255 d4_17 (by decide) ?_
  refine kICt X12 26 d4_20 (XT.ii_le_t c_2) (by decide) ?_
  refine kALn X12 d4_26 rfl rfl ?_
  refine kILn X12 d4_27 rfl ?_
  refine kIL X12 d4_28 rfl ?_
  refine kI2B X12 (ownB i2) d4_30 rfl ?_
  have f18 := (Safe.wr W14 f9 X3.C.1 f9)
  refine kBASTO X12 f16 (by decide) 2 (ownB i2) (own_nb _) (by decide) (by show 2 < 3; decide) g_q1 f18 d4_31 (fun T19 h20 L22 W23 f24 X21 => ?_)
  have f25 : Arv Z h20 q1 kp1 .byte 3 [.int (ownB i0), .int (ownB i1), .int (ownB i2)] (.int 0) := f24
  refine kIINC X21 (1 : Int32) (3 : Int32) #[.val (.ref q0), .val (.int 3), .val (.ref q1), .val (.int 2), .val (.int 3), .val (.int 2), .val (.int i2)] d4_32 (by decide) rfl (by decide) rfl ?_
  refine kIINC X21 (1 : Int32) (3 : Int32) #[.val (.ref q0), .val (.int 3), .val (.ref q1), .val (.int 3), .val (.int 3), .val (.int 2), .val (.int i2)] d4_35 (by decide) rfl (by decide) rfl ?_
  refine kIINC X21 (1 : Int32) (3 : Int32) #[.val (.ref q0), .val (.int 3), .val (.ref q1), .val (.int 3), .val (.int 3), .val (.int 3), .val (.int i2)] d4_38 (by decide) rfl (by decide) rfl ?_
  refine kGOTO X21 3 d4_41 (by decide) ?_
  refine kIL X21 d4_3 rfl ?_
  refine kIL X21 d4_5 rfl ?_
  refine kICt X21 44 d4_7 (XT.ii_ge_t (by decide)) (by decide) ?_
  refine kIL X21 d4_44 rfl ?_
  have K26 : Keep h0 h20 [q1] := (Keep.wr (Keep.wr (Keep.wr (Keep.refl h0 [q1]) W5 (Or.inl (List.mem_of_getElem? (i := 0) rfl))) W14 (Or.inl (List.mem_of_getElem? (i := 0) rfl))) W23 (Or.inl (List.mem_of_getElem? (i := 0) rfl)))
  exact kRETI X21 (gEL G) hret d4_46 (fun ve hve => ⟨rfl, K26, f25⟩) (by decide)
def R_rm157 : Room := { frames := 1, cells := 1, slots := 3, locals := 18 }
theorem rm157 (G : Glob Z a0 iCS vSI) (i0 i1 i2 : Int32) (q0 : Addr) (kp0 : ClassId) (h0 : Heap) (Z0 : n0 ≤ h0.size) (O0 : Old Z n0 h0) (A_q0 : Arv Z h0 q0 kp0 .char 3 [.int i0, .int i1, .int i2] (.int 0)) (c_0 : ¬ (255 : Int32) < i0) (c_3 : ¬ i0 < 0) (c_1 : ¬ (255 : Int32) < i1) (c_4 : ¬ i1 < 0) (c_2 : ¬ (255 : Int32) < i2) (c_5 : ¬ i2 < 0) : MetH l Z EL0 n0 N_jdk_52_m_16 jdk_52_method_16_code 6 (some (.array (.byte))) [] R_rm157 #[.ref q0, .int 0, .int 3] h0 [] (fun vs v h ve => (∃ (x0 : Addr), ∃ (z0 : ClassId), v = some (.ref x0) ∧ (Keep h0 h []) ∧ (h0.size ≤ x0) ∧ (Arv Z h x0 z0 .byte 3 [.int (ownB i0), .int (ownB i1), .int (ownB i2)] (.int 0)) ∧ (Safe Z EL0 ve h x0))) := by
  refine MetH.of #[.val (.ref q0), .val (.int 0), .val (.int 3), .unset, .unset, .unset] (plainFor_of_name pn_java_lang_StringUTF16) rfl Z0 (fun p e s m below meth c T0 hret hml hnm hSL hs0 X0 => ?_)
  refine kILn X0 d3_0 rfl ?_
  refine kNEWP X0 (wd G 19 rfl) (cap := 3) d3_1 (by decide) (by decide) (by decide) (by decide) (by decide) (fun T1 h2 a4 k5 E6 q7 g8 A9 s10 X3 => ?_)
  have n11 : q0 ≠ a4 := Nat.ne_of_lt (Nat.lt_of_lt_of_le (A_q0.lt) (Nat.le_of_eq q7.symm))
  have g12 : h0.size ≤ a4 := q7 ▸ X0.g0
  have f13 : Arv Z h2 a4 k5 .byte 3 [.int 0, .int 0, .int 0] (.int 0) := A9.pad (pad_rep [] _ 3)
  refine kASn X3 #[.val (.ref q0), .val (.int 0), .val (.int 3), .val (.ref a4), .unset, .unset] d3_3 rfl rfl ?_
  refine kALn X3 d3_4 rfl rfl ?_
  refine kILn X3 d3_5 rfl ?_
  refine kALn X3 d3_6 rfl rfl ?_
  refine kIC X3 0 d3_7 (by decide) ?_
  refine kILn X3 d3_8 rfl ?_
  have f14 := (Arv.ext A_q0 E6)
  have f15 := (Old.ext O0 E6)
  refine kSTAT X3 (gEL G) (argsL := [.ref q0, .int 0, .ref a4, .int 0, .int 3]) (rest := []) (wd G 20 rfl) (wd G 21 rfl) (wd G 17 rfl) (wd G 22 rfl) (by decide) (rm158 G i0 i1 i2 q0 a4 kp0 k5 h2 X3.n f15 f14 c_0 f13 n11 c_1 c_2 g8) (allS ⟨(f13.lt), s10⟩ all0) (lenOf pd___CI_BII_I rfl) rfl 0 rfl (by decide) hml.symm d3_9 (fun v16 T17 h18 vm19 _ w20 q21 C22 C23 X24 => ?_)
  obtain ⟨e26, f27, f28⟩ := q21
  subst e26
  show Go _ _ _ _ _ (mkF _ _ _ [.int 3])
  refine kIS X24 #[.val (.ref q0), .val (.int 0), .val (.int 3), .val (.ref a4), .val (.int 3), .unset] d3_12 rfl ?_
  refine kIL X24 d3_14 rfl ?_
  refine kILn X24 d3_16 rfl ?_
  refine kICt X24 57 d3_17 (XT.ii_eq_t (by decide)) (by decide) ?_
  refine kALn X24 d3_57 rfl rfl ?_
  have K29 : Keep h0 h18 [] := (Keep.trans (Keep.ext (Keep.refl h0 []) E6) f27 (allS (Or.inr g12) all0))
  have f30 := (CHr.safe C23 (f13.lt) s10)
  exact kRETA X24 (gEL G) hret rfl rfl d3_58 (fun ve hve => ⟨a4, k5, rfl, K29, g12, f28, (CHr.safe hve (f28.lt) f30)⟩) (by decide)
def R_rm159 : Room := { frames := 0, cells := 0, slots := 0, locals := 0 }
theorem rm159 (G : Glob Z a0 iCS vSI) (i0 i1 i2 : Int32) (q0 : Addr) (kp0 : ClassId) (h0 : Heap) (Z0 : n0 ≤ h0.size) (O0 : Old Z n0 h0) (A_q0 : Arv Z h0 q0 kp0 .byte 3 [.int i0, .int i1, .int i2] (.int 0)) : MetH l Z EL0 n0 N_jdk_52_m_15 jdk_52_method_15_code 2 (some .byte) [] R_rm159 #[.ref q0, .int 3] h0 [] (fun vs v h ve => (v = some (.int 0) ∧ (h0 = h))) := by
  refine MetH.of #[.val (.ref q0), .val (.int 3)] (plainFor_of_name pn_java_lang_StringUTF16) rfl Z0 (fun p e s m below meth c T0 hret hml hnm hSL hs0 X0 => ?_)
  refine kILn X0 d5_0 rfl ?_
  refine kALn X0 d5_1 rfl rfl ?_
  refine kLEN X0 A_q0 d5_2 ?_
  refine kISUB X0 0 d5_3 (by decide) ?_
  refine kBI X0 31 d5_4 (by decide) ?_
  refine kIUSHR X0 0 d5_6 (by decide) ?_
  refine kI2B X0 (0 : Int32) d5_7 (by decide) ?_
  exact kRETZ X0 (gEL G) (t := .byte) hret (by simp) d5_8 (fun ve hve => ⟨rfl, rfl⟩) (by decide)
def R_rm156 : Room := { frames := 2, cells := 1, slots := 3, locals := 35 }
theorem rm156 (G : Glob Z a0 iCS vSI) (i0 i1 i2 : Int32) (q0 q1 : Addr) (kp0 : ClassId) (h0 : Heap) (Z0 : n0 ≤ h0.size) (O0 : Old Z n0 h0) (c_0 : ¬ (255 : Int32) < i0) (c_3 : ¬ i0 < 0) (c_1 : ¬ (255 : Int32) < i1) (c_4 : ¬ i1 < 0) (c_2 : ¬ (255 : Int32) < i2) (c_5 : ¬ i2 < 0) (A_q1 : Arv Z h0 q1 kp0 .char 3 [.int i0, .int i1, .int i2] (.int 0)) (E_q0 : Exa Z h0 q0 "java/lang/String") (F_q0_coder : Fld Z h0 q0 "java/lang/String" "coder" "B" (.int 0)) (F_q0_value : Fld Z h0 q0 "java/lang/String" "value" "[B" (.null)) (g_q0 : n0 ≤ q0) : MetH l Z EL0 n0 N_jdk_42_m_149 jdk_42_method_149_code 6 none [] R_rm156 #[.ref q0, .ref q1, .int 0, .int 3, .null] h0 [q0] (fun vs v h ve => (∃ (x0 : Addr), ∃ (z0 : ClassId), v = none ∧ (Keep h0 h [q0]) ∧ (h0.size ≤ x0) ∧ (Arv Z h x0 z0 .byte 3 [.int (ownB i0), .int (ownB i1), .int (ownB i2)] (.int 0)) ∧ (Safe Z EL0 ve h x0) ∧ (Fld Z h q0 "java/lang/String" "coder" "B" (.int 0)) ∧ (Fld Z h q0 "java/lang/String" "value" "[B" (.ref x0)))) := by
  refine MetH.of #[.val (.ref q0), .val (.ref q1), .val (.int 0), .val (.int 3), .val .null, .unset] (plainFor_of_name pn_java_lang_String) rfl Z0 (fun p e s m below meth c T0 hret hml hnm hSL hs0 X0 => ?_)
  have S_q0 := hSL q0 (List.mem_of_getElem? (i := 0) rfl)
  refine kALn X0 d1_0 rfl rfl ?_
  refine kINIT X0 (wd G 11 rfl) (wd G 12 rfl) (wd G 13 rfl) hml.symm d1_1 (by decide) 0 (Nat.le_of_eq rfl) (by decide) (fun T1 X2 => ?_)
  refine kILn X2 d1_4 rfl ?_
  refine kIFt X2 27 d1_5 (XT.i0_ne_t (by decide)) (by decide) ?_
  refine kGETS X2 (wd G 14 rfl) Via.refl (Sta.ext O0.2 (S_CS G)) d1_27 (fun T3 X4 => ?_)
  refine kIFf X4 d1_30 (XT.i0_eq_f (n_CS G)) ?_
  refine kALn X4 d1_33 rfl rfl ?_
  refine kILn X4 d1_34 rfl ?_
  refine kILn X4 d1_35 rfl ?_
  refine kSTAT X4 (gEL G) (argsL := [.ref q1, .int 0, .int 3]) (rest := []) (wd G 15 rfl) (wd G 16 rfl) (wd G 17 rfl) (wd G 18 rfl) (by decide) (rm157 G i0 i1 i2 q1 kp0 h0 X4.n O0 A_q1 c_0 c_3 c_1 c_4 c_2 c_5) all0 (lenOf pd___CII__B rfl) rfl 0 rfl (by decide) hml.symm d1_36 (fun v5 T6 h7 vm8 _ w9 q10 C11 C12 X13 => ?_)
  obtain ⟨a15, k16, e17, f18, f19, f20, f21⟩ := q10
  subst e17
  have n22 : q0 ≠ a15 := Nat.ne_of_lt (Nat.lt_of_lt_of_le (E_q0.lt) f19)
  have n23 : q1 ≠ a15 := Nat.ne_of_lt (Nat.lt_of_lt_of_le (A_q1.lt) f19)
  have g24 : n0 ≤ a15 := Nat.le_trans X4.n f19
  have g25 : h0.size ≤ a15 := Nat.le_trans X4.g0 f19
  show Go _ _ _ _ _ (mkF _ _ _ [.ref a15])
  refine kAS X13 #[.val (.ref q0), .val (.ref q1), .val (.int 0), .val (.int 3), .val .null, .val (.ref a15)] d1_39 rfl rfl ?_
  refine kALn X13 d1_41 rfl rfl ?_
  refine kAL X13 d1_42 rfl rfl ?_
  refine kILn X13 d1_44 rfl ?_
  have f26 := (Old.keep O0 f18 all0)
  refine kSTAT X13 (gEL G) (argsL := [.ref a15, .int 3]) (rest := [.ref q0]) (wd G 23 rfl) (wd G 24 rfl) (wd G 17 rfl) (wd G 25 rfl) (by decide) (rm159 G (ownB i0) (ownB i1) (ownB i2) a15 k16 h7 X13.n f26 f20) all0 (lenOf pd___BI_B rfl) rfl 1 rfl (by decide) hml.symm d1_45 (fun v27 T28 h29 vm30 _ w31 q32 C33 C34 X35 => ?_)
  obtain ⟨e37, f38⟩ := q32
  subst e37
  subst f38
  show Go _ _ _ _ _ (mkF _ _ _ [.int 0, .ref q0])
  have f39 := (Fld.keep F_q0_coder f18 nin0)
  have f40 := (Exa.keep E_q0 f18)
  have f41 := (CHr.safe C34 ((Fld.keep F_q0_value f18 nin0)).lt (CHr.safe C12 (F_q0_value.lt) S_q0))
  refine kPUTF X35 (wd G 26 rfl) Via.refl f39 f40 (Or.inr ⟨(wd G 27 rfl), rfl, hnm⟩) (wd G 2 rfl) (ty := .byte) (by decide) (by decide) (by decide) g_q0 f41 d1_48 (fun T42 h43 L46 W45 X44 => ?_)
  have f47 := Fld.same W45 f39
  refine kALn X44 d1_51 rfl rfl ?_
  refine kAL X44 d1_52 rfl rfl ?_
  have f48 := (Fld.other W45 (Fld.keep F_q0_value f18 nin0) (Or.inr (slot_ne (Or.inr (wd G 29 rfl)) (Or.inr (wd G 27 rfl)) (by decide) (by decide : parseFieldDescriptor "[B" = some (.array (.byte))) (by decide : parseFieldDescriptor "B" = some .byte))))
  have f49 := (Exa.wr W45 f40)
  have f50 := (Safe.wr W45 f41 X35.C.1 f41)
  refine kPUTF X44 (wd G 28 rfl) Via.refl f48 f49 (Or.inr ⟨(wd G 29 rfl), rfl, hnm⟩) (wd G 2 rfl) (ty := (.array (.byte))) (by decide) rfl rfl g_q0 f50 d1_54 (fun T51 h52 L55 W54 X53 => ?_)
  have f56 := Fld.same W54 f48
  have K57 : Keep h0 h52 [q0] := (Keep.wr (Keep.wr (Keep.trans (Keep.refl h0 [q0]) f18 all0) W45 (Or.inl (List.mem_of_getElem? (i := 0) rfl))) W54 (Or.inl (List.mem_of_getElem? (i := 0) rfl)))
  have f58 := (Arv.other (Arv.other f20 W45 (Ne.symm n22)) W54 (Ne.symm n22))
  have f59 := (Safe.wr W54 f50 X44.C.1 (Safe.wr W45 f41 X35.C.1 (CHr.safe C34 (f20.lt) f21)))
  have f60 := (Fld.other W54 f47 (Or.inr (slot_ne (Or.inr (wd G 27 rfl)) (Or.inr (wd G 29 rfl)) (by decide) (by decide : parseFieldDescriptor "B" = some .byte) (by decide : parseFieldDescriptor "[B" = some (.array (.byte))))))
  exact kRETV X53 (gEL G) hret d1_57 (fun ve hve => ⟨a15, k16, rfl, K57, g25, f58, (CHr.safe hve (f58.lt) f59), f60, f56⟩) (by decide)
def R_rm155 : Room := { frames := 3, cells := 1, slots := 3, locals := 52 }
theorem rm155 (G : Glob Z a0 iCS vSI) (i0 i1 i2 : Int32) (q0 q1 : Addr) (kp0 : ClassId) (h0 : Heap) (Z0 : n0 ≤ h0.size) (O0 : Old Z n0 h0) (A_q1 : Arv Z h0 q1 kp0 .char 3 [.int i0, .int i1, .int i2] (.int 0)) (c_0 : ¬ (255 : Int32) < i0) (c_3 : ¬ i0 < 0) (c_1 : ¬ (255 : Int32) < i1) (c_4 : ¬ i1 < 0) (c_2 : ¬ (255 : Int32) < i2) (c_5 : ¬ i2 < 0) (E_q0 : Exa Z h0 q0 "java/lang/String") (F_q0_coder : Fld Z h0 q0 "java/lang/String" "coder" "B" (.int 0)) (F_q0_value : Fld Z h0 q0 "java/lang/String" "value" "[B" (.null)) (g_q0 : n0 ≤ q0) : MetH l Z EL0 n0 N_jdk_42_m_3 jdk_42_method_3_code 2 none [] R_rm155 #[.ref q0, .ref q1] h0 [q0] (fun vs v h ve => (∃ (x0 : Addr), ∃ (z0 : ClassId), v = none ∧ (Keep h0 h [q0]) ∧ (h0.size ≤ x0) ∧ (Arv Z h x0 z0 .byte 3 [.int (ownB i0), .int (ownB i1), .int (ownB i2)] (.int 0)) ∧ (Safe Z EL0 ve h x0) ∧ (Fld Z h q0 "java/lang/String" "coder" "B" (.int 0)) ∧ (Fld Z h q0 "java/lang/String" "value" "[B" (.ref x0)))) := by
  refine MetH.of #[.val (.ref q0), .val (.ref q1)] (plainFor_of_name pn_java_lang_String) rfl Z0 (fun p e s m below meth c T0 hret hml hnm hSL hs0 X0 => ?_)
  have S_q0 := hSL q0 (List.mem_of_getElem? (i := 0) rfl)
  refine kALn X0 d0_0 rfl rfl ?_
  refine kALn X0 d0_1 rfl rfl ?_
  refine kIC X0 0 d0_2 (by decide) ?_
  refine kALn X0 d0_3 rfl rfl ?_
  refine kLEN X0 A_q1 d0_4 ?_
  refine kNULL X0 d0_5 ?_
  refine kSPEC X0 (gEL G) (argsL := [.ref q1, .int 0, .int 3, .null]) (rest := []) (wd G 7 rfl) (wd G 8 rfl) (wd G 3 rfl) (wd G 10 rfl) rfl (by decide) (rm156 G i0 i1 i2 q0 q1 kp0 h0 X0.n O0 c_0 c_3 c_1 c_4 c_2 c_5 A_q1 E_q0 F_q0_coder F_q0_value g_q0) (allS ⟨(E_q0.lt), S_q0⟩ all0) (lenOf pd___CIILjava_lang_Void__V rfl) rfl 0 rfl (by decide) hml.symm d0_6 (fun v1 T2 h3 vm4 _ w5 q6 C7 C8 X9 => ?_)
  obtain ⟨a11, k12, e13, f14, f15, f16, f17, f18, f19⟩ := q6
  subst e13
  have n20 : q0 ≠ a11 := Nat.ne_of_lt (Nat.lt_of_lt_of_le (E_q0.lt) f15)
  have n21 : q1 ≠ a11 := Nat.ne_of_lt (Nat.lt_of_lt_of_le (A_q1.lt) f15)
  have g22 : n0 ≤ a11 := Nat.le_trans X0.n f15
  have g23 : h0.size ≤ a11 := Nat.le_trans X0.g0 f15
  show Go _ _ _ _ _ (mkF _ _ _ [])
  have K24 : Keep h0 h3 [q0] := (Keep.trans (Keep.refl h0 [q0]) f14 (allS (Or.inl (List.mem_of_getElem? (i := 0) rfl)) all0))
  exact kRETV X9 (gEL G) hret d0_9 (fun ve hve => ⟨a11, k12, rfl, K24, g23, f16, (CHr.safe hve (f16.lt) f17), f18, f19⟩) (by decide)
def R_rm164 : Room := { frames := 0, cells := 0, slots := 0, locals := 0 }
theorem rm164 (G : Glob Z a0 iCS vSI) (i0 i1 i2 : Int32) (q0 q1 : Addr) (kp0 : ClassId) (h0 : Heap) (Z0 : n0 ≤ h0.size) (O0 : Old Z n0 h0) (F_q0_coder : Fld Z h0 q0 "java/lang/String" "coder" "B" (.int 0)) : MetH l Z EL0 n0 N_jdk_42_m_152 jdk_42_method_152_code 1 (some .byte) [] R_rm164 #[.ref q0] h0 [] (fun vs v h ve => (v = some (.int 0) ∧ (h0 = h))) := by
  refine MetH.of #[.val (.ref q0)] (plainFor_of_name pn_java_lang_String) rfl Z0 (fun p e s m below meth c T0 hret hml hnm hSL hs0 X0 => ?_)
  refine kGETS X0 (wd G 14 rfl) Via.refl (Sta.ext O0.2 (S_CS G)) d12_0 (fun T1 X2 => ?_)
  refine kIFf X2 d12_3 (XT.i0_eq_f (n_CS G)) ?_
  refine kALn X2 d12_6 rfl rfl ?_
  refine kGETF X2 (wd G 26 rfl) Via.refl F_q0_coder d12_7 (fun T3 X4 => ?_)
  refine kGOTO X4 14 d12_10 (by decide) ?_
  exact kRETZ X4 (gEL G) (t := .byte) hret (by simp) d12_14 (fun ve hve => ⟨rfl, rfl⟩) (by decide)
def R_rm163 : Room := { frames := 1, cells := 0, slots := 0, locals := 13 }
theorem rm163 (G : Glob Z a0 iCS vSI) (i0 i1 i2 : Int32) (q0 q1 : Addr) (kp0 : ClassId) (h0 : Heap) (Z0 : n0 ≤ h0.size) (O0 : Old Z n0 h0) (F_q0_value : Fld Z h0 q0 "java/lang/String" "value" "[B" (.ref q1)) (A_q1 : Arv Z h0 q1 kp0 .byte 3 [.int i0, .int i1, .int i2] (.int 0)) (F_q0_coder : Fld Z h0 q0 "java/lang/String" "coder" "B" (.int 0)) (E_q0 : Exa Z h0 q0 "java/lang/String") : MetH l Z EL0 n0 N_jdk_42_m_54 jdk_42_method_54_code 1 (some .int) [] R_rm163 #[.ref q0] h0 [] (fun vs v h ve => (v = some (.int 3) ∧ (h0 = h))) := by
  refine MetH.of #[.val (.ref q0)] (plainFor_of_name pn_java_lang_String) rfl Z0 (fun p e s m below meth c T0 hret hml hnm hSL hs0 X0 => ?_)
  refine kALn X0 d11_0 rfl rfl ?_
  refine kGETF X0 (wd G 28 rfl) Via.refl F_q0_value d11_1 (fun T1 X2 => ?_)
  refine kLEN X2 A_q1 d11_4 ?_
  refine kALn X2 d11_5 rfl rfl ?_
  refine kVIRT X2 (gEL G) (argsL := []) (rest := [.int 3]) (wd G 67 rfl) (wd G 68 rfl) (own_nf X2.hZ (own_noinst (wd G 2 rfl))) (wd G 70 rfl) (wd G 69 rfl) (wd G 3 rfl) (wd G 71 rfl) (by decide) E_q0 (rm164 G i0 i1 i2 q0 q1 kp0 h0 X2.n O0 F_q0_coder) all0 (lenOf pd___B rfl) rfl 1 rfl (by decide) hml.symm d11_6 (fun v3 T4 h5 vm6 _ w7 q8 C9 C10 X11 => ?_)
  obtain ⟨e13, f14⟩ := q8
  subst e13
  subst f14
  show Go _ _ _ _ _ (mkF _ _ _ [.int 0, .int 3])
  refine kISHR X11 3 d11_9 (by decide) ?_
  exact kRETI X11 (gEL G) hret d11_10 (fun ve hve => ⟨rfl, rfl⟩) (by decide)
def R_rm165 : Room := { frames := 0, cells := 0, slots := 0, locals := 0 }
theorem rm165 (G : Glob Z a0 iCS vSI) (q0 q1 : Addr) (kp0 : ClassId) (h0 : Heap) (Z0 : n0 ≤ h0.size) (O0 : Old Z n0 h0) (F_q0_value : Fld Z h0 q0 "java/lang/AbstractStringBuilder" "value" "[B" (.ref q1)) (A_q1 : Arv Z h0 q1 kp0 .byte 16 [.int 0, .int 0, .int 0, .int 0, .int 0, .int 0, .int 0, .int 0, .int 0, .int 0, .int 0, .int 0, .int 0, .int 0, .int 0, .int 0] (.int 0)) (F_q0_coder : Fld Z h0 q0 "java/lang/AbstractStringBuilder" "coder" "B" (.int 0)) : MetH l Z EL0 n0 N_jdk_68_m_9 jdk_68_method_9_code 3 none [] R_rm165 #[.ref q0, .int 3] h0 [] (fun vs v h ve => (v = none ∧ (h0 = h))) := by
  refine MetH.of #[.val (.ref q0), .val (.int 3), .unset] (plainFor_of_name pn_java_lang_AbstractStringBuilder) rfl Z0 (fun p e s m below meth c T0 hret hml hnm hSL hs0 X0 => ?_)
  refine kALn X0 d13_0 rfl rfl ?_
  refine kGETF X0 (wd G 48 rfl) Via.refl F_q0_value d13_1 (fun T1 X2 => ?_)
  refine kLEN X2 A_q1 d13_4 ?_
  refine kALn X2 d13_5 rfl rfl ?_
  refine kGETF X2 (wd G 50 rfl) Via.refl F_q0_coder d13_6 (fun T3 X4 => ?_)
  refine kISHR X4 16 d13_9 (by decide) ?_
  refine kISn X4 #[.val (.ref q0), .val (.int 3), .val (.int 16)] d13_10 rfl ?_
  refine kILn X4 d13_11 rfl ?_
  refine kILn X4 d13_12 rfl ?_
  refine kISUB X4 (-13) d13_13 (by decide) ?_
  refine kIFt X4 38 d13_14 (XT.i0_le_t (by decide)) (by decide) ?_
  exact kRETV X4 (gEL G) hret d13_38 (fun ve hve => ⟨rfl, rfl⟩) (by decide)
def R_rm167 : Room := { frames := 1, cells := 0, slots := 0, locals := 13 }
theorem rm167 (G : Glob Z a0 iCS vSI) (i0 i1 i2 : Int32) (q0 q1 q2 q3 : Addr) (kp0 kp1 : ClassId) (h0 : Heap) (Z0 : n0 ≤ h0.size) (O0 : Old Z n0 h0) (F_q0_coder : Fld Z h0 q0 "java/lang/AbstractStringBuilder" "coder" "B" (.int 0)) (F_q1_coder : Fld Z h0 q1 "java/lang/String" "coder" "B" (.int 0)) (E_q1 : Exa Z h0 q1 "java/lang/String") : MetH l Z EL0 n0 N_jdk_68_m_71 jdk_68_method_71_code 2 none [] R_rm167 #[.ref q0, .ref q1] h0 [] (fun vs v h ve => (v = none ∧ (h0 = h))) := by
  refine MetH.of #[.val (.ref q0), .val (.ref q1)] (plainFor_of_name pn_java_lang_AbstractStringBuilder) rfl Z0 (fun p e s m below meth c T0 hret hml hnm hSL hs0 X0 => ?_)
  refine kGETS X0 (wd G 47 rfl) Via.refl (Sta.ext O0.2 (S_CS G)) d15_0 (fun T1 X2 => ?_)
  refine kIFf X2 d15_3 (XT.i0_eq_f (n_CS G)) ?_
  refine kALn X2 d15_6 rfl rfl ?_
  refine kGETF X2 (wd G 50 rfl) Via.refl F_q0_coder d15_7 (fun T3 X4 => ?_)
  refine kALn X4 d15_10 rfl rfl ?_
  refine kVIRT X4 (gEL G) (argsL := []) (rest := [.int 0]) (wd G 89 rfl) (wd G 68 rfl) (own_nf X4.hZ (own_noinst (wd G 2 rfl))) (wd G 70 rfl) (wd G 69 rfl) (wd G 3 rfl) (wd G 71 rfl) (by decide) E_q1 (rm164 G i0 i1 i2 q1 q3 kp1 h0 X4.n O0 F_q1_coder) all0 (lenOf pd___B rfl) rfl 1 rfl (by decide) hml.symm d15_11 (fun v5 T6 h7 vm8 _ w9 q10 C11 C12 X13 => ?_)
  obtain ⟨e15, f16⟩ := q10
  subst e15
  subst f16
  show Go _ _ _ _ _ (mkF _ _ _ [.int 0, .int 0])
  refine kICt X13 21 d15_14 (XT.ii_eq_t (by decide)) (by decide) ?_
  exact kRETV X13 (gEL G) hret d15_21 (fun ve hve => ⟨rfl, rfl⟩) (by decide)
def R_rm168 : Room := { frames := 1, cells := 0, slots := 0, locals := 18 }
theorem rm168 (G : Glob Z a0 iCS vSI) (i0 i1 i2 : Int32) (q0 q1 q2 : Addr) (kp0 kp1 : ClassId) (h0 : Heap) (Z0 : n0 ≤ h0.size) (O0 : Old Z n0 h0) (F_q0_coder : Fld Z h0 q0 "java/lang/String" "coder" "B" (.int 0)) (E_q0 : Exa Z h0 q0 "java/lang/String") (F_q0_value : Fld Z h0 q0 "java/lang/String" "value" "[B" (.ref q2)) (A_q2 : Arv Z h0 q2 kp1 .byte 3 [.int i0, .int i1, .int i2] (.int 0)) (A_q1 : Arv Z h0 q1 kp0 .byte 16 [.int 0, .int 0, .int 0, .int 0, .int 0, .int 0, .int 0, .int 0, .int 0, .int 0, .int 0, .int 0, .int 0, .int 0, .int 0, .int 0] (.int 0)) (g_q1 : n0 ≤ q1) : MetH l Z EL0 n0 N_jdk_42_m_147 jdk_42_method_147_code 4 none [] R_rm168 #[.ref q0, .ref q1, .int 0, .int 0] h0 [q1] (fun vs v h ve => (v = none ∧ (Keep h0 h [q1]) ∧ (Arv Z h q1 kp0 .byte 16 [.int i0, .int i1, .int i2, .int 0, .int 0, .int 0, .int 0, .int 0, .int 0, .int 0, .int 0, .int 0, .int 0, .int 0, .int 0, .int 0] (.int 0)))) := by
  refine MetH.of #[.val (.ref q0), .val (.ref q1), .val (.int 0), .val (.int 0)] (plainFor_of_name pn_java_lang_String) rfl Z0 (fun p e s m below meth c T0 hret hml hnm hSL hs0 X0 => ?_)
  have S_q1 := hSL q1 (List.mem_of_getElem? (i := 0) rfl)
  refine kALn X0 d16_0 rfl rfl ?_
  refine kVIRT X0 (gEL G) (argsL := []) (rest := []) (wd G 67 rfl) (wd G 68 rfl) (own_nf X0.hZ (own_noinst (wd G 2 rfl))) (wd G 70 rfl) (wd G 69 rfl) (wd G 3 rfl) (wd G 71 rfl) (by decide) E_q0 (rm164 G i0 i1 i2 q0 q2 kp1 h0 X0.n O0 F_q0_coder) all0 (lenOf pd___B rfl) rfl 0 rfl (by decide) hml.symm d16_1 (fun v1 T2 h3 vm4 _ w5 q6 C7 C8 X9 => ?_)
  obtain ⟨e11, f12⟩ := q6
  subst e11
  subst f12
  show Go _ _ _ _ _ (mkF _ _ _ [.int 0])
  refine kILn X9 d16_4 rfl ?_
  refine kICf X9 d16_5 (XT.ii_ne_f (by decide)) ?_
  refine kALn X9 d16_8 rfl rfl ?_
  refine kGETF X9 (wd G 28 rfl) Via.refl F_q0_value d16_9 (fun T13 X14 => ?_)
  refine kIC X14 0 d16_12 (by decide) ?_
  refine kALn X14 d16_13 rfl rfl ?_
  refine kILn X14 d16_14 rfl ?_
  refine kILn X14 d16_15 rfl ?_
  refine kISHL X14 0 d16_16 (by decide) ?_
  refine kALn X14 d16_17 rfl rfl ?_
  refine kGETF X14 (wd G 28 rfl) Via.refl F_q0_value d16_18 (fun T15 X16 => ?_)
  refine kLEN X16 A_q2 d16_21 ?_
  have f17 := (CHr.safe C8 (A_q1.lt) S_q1)
  refine kCPA X16 (wd G 95 rfl) (wd G 98 rfl) (wd G 96 rfl) (wd G 97 rfl) A_q2 A_q1 (Or.inl ⟨rfl, rfl⟩) (us := [.int i0, .int i1, .int i2]) (by decide) rfl (by show 3 ≤ 16; decide) g_q1 f17 hml.symm d16_22 (by decide) 0 (Nat.le_of_eq rfl) (by decide) (fun T18 h19 L21 K22 C23 f24 X20 => ?_)
  have f25 : Arv Z h19 q1 kp0 .byte 16 [.int i0, .int i1, .int i2, .int 0, .int 0, .int 0, .int 0, .int 0, .int 0, .int 0, .int 0, .int 0, .int 0, .int 0, .int 0, .int 0] (.int 0) := f24
  refine kGOTO X20 43 d16_25 (by decide) ?_
  have K26 : Keep h0 h19 [q1] := (Keep.trans (Keep.refl h0 [q1]) K22 (allS (Or.inl (List.mem_of_getElem? (i := 0) rfl)) all0))
  exact kRETV X20 (gEL G) hret d16_43 (fun ve hve => ⟨rfl, K26, f25⟩) (by decide)
def R_rm166 : Room := { frames := 2, cells := 0, slots := 0, locals := 33 }
theorem rm166 (G : Glob Z a0 iCS vSI) (i0 i1 i2 : Int32) (q0 q1 q2 q3 : Addr) (kp0 kp1 : ClassId) (h0 : Heap) (Z0 : n0 ≤ h0.size) (O0 : Old Z n0 h0) (F_q0_coder : Fld Z h0 q0 "java/lang/AbstractStringBuilder" "coder" "B" (.int 0)) (F_q1_coder : Fld Z h0 q1 "java/lang/String" "coder" "B" (.int 0)) (E_q1 : Exa Z h0 q1 "java/lang/String") (E_q0 : Exa Z h0 q0 "java/lang/StringBuilder") (F_q0_value : Fld Z h0 q0 "java/lang/AbstractStringBuilder" "value" "[B" (.ref q2)) (F_q1_value : Fld Z h0 q1 "java/lang/String" "value" "[B" (.ref q3)) (A_q3 : Arv Z h0 q3 kp1 .byte 3 [.int i0, .int i1, .int i2] (.int 0)) (A_q2 : Arv Z h0 q2 kp0 .byte 16 [.int 0, .int 0, .int 0, .int 0, .int 0, .int 0, .int 0, .int 0, .int 0, .int 0, .int 0, .int 0, .int 0, .int 0, .int 0, .int 0] (.int 0)) (g_q2 : n0 ≤ q2) : MetH l Z EL0 n0 N_jdk_68_m_73 jdk_68_method_73_code 3 none [] R_rm166 #[.ref q0, .int 0, .ref q1] h0 [q2] (fun vs v h ve => (v = none ∧ (Keep h0 h [q2]) ∧ (Arv Z h q2 kp0 .byte 16 [.int i0, .int i1, .int i2, .int 0, .int 0, .int 0, .int 0, .int 0, .int 0, .int 0, .int 0, .int 0, .int 0, .int 0, .int 0, .int 0] (.int 0)))) := by
  refine MetH.of #[.val (.ref q0), .val (.int 0), .val (.ref q1)] (plainFor_of_name pn_java_lang_AbstractStringBuilder) rfl Z0 (fun p e s m below meth c T0 hret hml hnm hSL hs0 X0 => ?_)
  have S_q2 := hSL q2 (List.mem_of_getElem? (i := 0) rfl)
  refine kALn X0 d14_0 rfl rfl ?_
  refine kALn X0 d14_1 rfl rfl ?_
  refine kVIRT X0 (gEL G) (argsL := [.ref q1]) (rest := []) (wd G 84 rfl) (own_decl (wd G 85 rfl) (wd G 88 rfl)) (own_nf X0.hZ (own_noface (wd G 77 rfl) rfl)) (wd G 87 rfl) (wd G 85 rfl) (wd G 44 rfl) (wd G 88 rfl) (by decide) E_q0 (rm167 G i0 i1 i2 q0 q1 q2 q3 kp0 kp1 h0 X0.n O0 F_q0_coder F_q1_coder E_q1) all0 (lenOf pd__Ljava_lang_String__V rfl) rfl 0 rfl (by decide) hml.symm d14_2 (fun v1 T2 h3 vm4 _ w5 q6 C7 C8 X9 => ?_)
  obtain ⟨e11, f12⟩ := q6
  subst e11
  subst f12
  show Go _ _ _ _ _ (mkF _ _ _ [])
  refine kALn X9 d14_5 rfl rfl ?_
  refine kALn X9 d14_6 rfl rfl ?_
  refine kGETF X9 (wd G 48 rfl) Via.refl F_q0_value d14_7 (fun T13 X14 => ?_)
  refine kILn X14 d14_10 rfl ?_
  refine kALn X14 d14_11 rfl rfl ?_
  refine kGETF X14 (wd G 50 rfl) Via.refl F_q0_coder d14_12 (fun T15 X16 => ?_)
  have f26 := (CHr.safe C8 (A_q2.lt) S_q2)
  refine kVIRT X16 (gEL G) (argsL := [.ref q2, .int 0, .int 0]) (rest := []) (wd G 90 rfl) (wd G 91 rfl) (own_nf X16.hZ (own_noinst (wd G 2 rfl))) (wd G 93 rfl) (wd G 92 rfl) (wd G 3 rfl) (wd G 94 rfl) (by decide) E_q1 (rm168 G i0 i1 i2 q1 q2 q3 kp0 kp1 h0 X16.n O0 F_q1_coder E_q1 F_q1_value A_q3 A_q2 g_q2) (allS ⟨(A_q2.lt), f26⟩ all0) (lenOf pd___BIB_V rfl) rfl 0 rfl (by decide) hml.symm d14_15 (fun v17 T18 h19 vm20 _ w21 q22 C23 C24 X25 => ?_)
  obtain ⟨e28, f29, f30⟩ := q22
  subst e28
  show Go _ _ _ _ _ (mkF _ _ _ [])
  have K31 : Keep h0 h19 [q2] := (Keep.trans (Keep.refl h0 [q2]) f29 (allS (Or.inl (List.mem_of_getElem? (i := 0) rfl)) all0))
  exact kRETV X25 (gEL G) hret d14_18 (fun ve hve => ⟨rfl, K31, f30⟩) (by decide)
def R_rm162 : Room := { frames := 3, cells := 0, slots := 0, locals := 47 }
theorem rm162 (G : Glob Z a0 iCS vSI) (i0 i1 i2 : Int32) (q0 q1 q2 q3 : Addr) (kp0 kp1 : ClassId) (h0 : Heap) (Z0 : n0 ≤ h0.size) (O0 : Old Z n0 h0) (F_q1_value : Fld Z h0 q1 "java/lang/String" "value" "[B" (.ref q3)) (A_q3 : Arv Z h0 q3 kp1 .byte 3 [.int i0, .int i1, .int i2] (.int 0)) (F_q1_coder : Fld Z h0 q1 "java/lang/String" "coder" "B" (.int 0)) (E_q1 : Exa Z h0 q1 "java/lang/String") (F_q0_count : Fld Z h0 q0 "java/lang/AbstractStringBuilder" "count" "I" (.int 0)) (F_q0_value : Fld Z h0 q0 "java/lang/AbstractStringBuilder" "value" "[B" (.ref q2)) (A_q2 : Arv Z h0 q2 kp0 .byte 16 [.int 0, .int 0, .int 0, .int 0, .int 0, .int 0, .int 0, .int 0, .int 0, .int 0, .int 0, .int 0, .int 0, .int 0, .int 0, .int 0] (.int 0)) (F_q0_coder : Fld Z h0 q0 "java/lang/AbstractStringBuilder" "coder" "B" (.int 0)) (E_q0 : Exa Z h0 q0 "java/lang/StringBuilder") (d_q0_q2 : q0 ≠ q2) (g_q0 : n0 ≤ q0) (g_q2 : n0 ≤ q2) : MetH l Z EL0 n0 N_jdk_68_m_22 jdk_68_method_22_code 3 (some (.object "java/lang/AbstractStringBuilder")) [] R_rm162 #[.ref q0, .ref q1] h0 [q2] (fun vs v h ve => (v = some (.ref q0) ∧ (Keep h0 h [q2, q0]) ∧ (Arv Z h q2 kp0 .byte 16 [.int i0, .int i1, .int i2, .int 0, .int 0, .int 0, .int 0, .int 0, .int 0, .int 0, .int 0, .int 0, .int 0, .int 0, .int 0, .int 0] (.int 0)) ∧ (Fld Z h q0 "java/lang/AbstractStringBuilder" "coder" "B" (.int 0)) ∧ (Fld Z h q0 "java/lang/AbstractStringBuilder" "count" "I" (.int 3)) ∧ (Fld Z h q0 "java/lang/AbstractStringBuilder" "value" "[B" (.ref q2)))) := by
  refine MetH.of #[.val (.ref q0), .val (.ref q1), .unset] (plainFor_of_name pn_java_lang_AbstractStringBuilder) rfl Z0 (fun p e s m below meth c T0 hret hml hnm hSL hs0 X0 => ?_)
  have S_q2 := hSL q2 (List.mem_of_getElem? (i := 0) rfl)
  refine kALn X0 d10_0 rfl rfl ?_
  refine kNNt X0 9 d10_1 (by decide) ?_
  refine kALn X0 d10_9 rfl rfl ?_
  refine kVIRT X0 (gEL G) (argsL := []) (rest := []) (wd G 62 rfl) (wd G 63 rfl) (own_nf X0.hZ (own_noinst (wd G 2 rfl))) (wd G 65 rfl) (wd G 64 rfl) (wd G 3 rfl) (wd G 66 rfl) (by decide) E_q1 (rm163 G i0 i1 i2 q1 q3 kp1 h0 X0.n O0 F_q1_value A_q3 F_q1_coder E_q1) all0 (lenOf pd___I rfl) rfl 0 rfl (by decide) hml.symm d10_10 (fun v1 T2 h3 vm4 _ w5 q6 C7 C8 X9 => ?_)
  obtain ⟨e11, f12⟩ := q6
  subst e11
  subst f12
  show Go _ _ _ _ _ (mkF _ _ _ [.int 3])
  refine kISn X9 #[.val (.ref q0), .val (.ref q1), .val (.int 3)] d10_13 rfl ?_
  refine kALn X9 d10_14 rfl rfl ?_
  refine kALn X9 d10_15 rfl rfl ?_
  refine kGETF X9 (wd G 72 rfl) Via.refl F_q0_count d10_16 (fun T13 X14 => ?_)
  refine kILn X14 d10_19 rfl ?_
  refine kIADD X14 3 d10_20 (by decide) ?_
  refine kVIRT X14 (gEL G) (argsL := [.int 3]) (rest := []) (wd G 74 rfl) (own_decl (wd G 75 rfl) (wd G 78 rfl)) (own_nf X14.hZ (own_noface (wd G 77 rfl) rfl)) (wd G 77 rfl) (wd G 75 rfl) (wd G 44 rfl) (wd G 78 rfl) (by decide) E_q0 (rm165 G q0 q2 kp0 h0 X14.n O0 F_q0_value A_q2 F_q0_coder) all0 (lenOf pd__I_V rfl) rfl 0 rfl (by decide) hml.symm d10_21 (fun v15 T16 h17 vm18 _ w19 q20 C21 C22 X23 => ?_)
  obtain ⟨e25, f26⟩ := q20
  subst e25
  subst f26
  show Go _ _ _ _ _ (mkF _ _ _ [])
  refine kALn X23 d10_24 rfl rfl ?_
  refine kALn X23 d10_25 rfl rfl ?_
  refine kGETF X23 (wd G 72 rfl) Via.refl F_q0_count d10_26 (fun T27 X28 => ?_)
  refine kALn X28 d10_29 rfl rfl ?_
  have f38 := (CHr.safe C22 (A_q2.lt) (CHr.safe C8 (A_q2.lt) S_q2))
  refine kVIRT X28 (gEL G) (argsL := [.int 0, .ref q1]) (rest := []) (wd G 79 rfl) (own_decl (wd G 80 rfl) (wd G 83 rfl)) (own_nf X28.hZ (own_noface (wd G 77 rfl) rfl)) (wd G 82 rfl) (wd G 80 rfl) (wd G 44 rfl) (wd G 83 rfl) (by decide) E_q0 (rm166 G i0 i1 i2 q0 q1 q2 q3 kp0 kp1 h0 X28.n O0 F_q0_coder F_q1_coder E_q1 E_q0 F_q0_value F_q1_value A_q3 A_q2 g_q2) (allS ⟨(A_q2.lt), f38⟩ all0) (lenOf pd__ILjava_lang_String__V rfl) rfl 0 rfl (by decide) hml.symm d10_30 (fun v29 T30 h31 vm32 _ w33 q34 C35 C36 X37 => ?_)
  obtain ⟨e40, f41, f42⟩ := q34
  subst e40
  show Go _ _ _ _ _ (mkF _ _ _ [])
  refine kALn X37 d10_33 rfl rfl ?_
  refine kDUP X37 d10_34 rfl ?_
  have f43 := (Fld.keep F_q0_count f41 (ninS d_q0_q2 nin0))
  refine kGETF X37 (wd G 72 rfl) Via.refl f43 d10_35 (fun T44 X45 => ?_)
  refine kILn X45 d10_38 rfl ?_
  refine kIADD X45 3 d10_39 (by decide) ?_
  have f46 := (Exa.keep E_q0 f41)
  refine kPUTF X45 (wd G 72 rfl) Via.refl f43 f46 (Or.inl (wd G 73 rfl)) (wd G 35 rfl) (ty := .int) (by decide) rfl rfl g_q0 (Safe.exa X45.hZ.alike f46 (by decide) (by decide)) d10_40 (fun T47 h48 L51 W50 X49 => ?_)
  have f52 := Fld.same W50 f43
  refine kALn X49 d10_43 rfl rfl ?_
  have K53 : Keep h0 h48 [q2, q0] := (Keep.wr (Keep.trans (Keep.refl h0 [q2, q0]) f41 (allS (Or.inl (List.mem_of_getElem? (i := 0) rfl)) all0)) W50 (Or.inl (List.mem_of_getElem? (i := 1) rfl)))
  have f54 := (Arv.other f42 W50 (Ne.symm d_q0_q2))
  have f55 := (Fld.other W50 (Fld.keep F_q0_coder f41 (ninS d_q0_q2 nin0)) (Or.inr (slot_ne (Or.inl (wd G 51 rfl)) (Or.inl (wd G 73 rfl)) (by decide) (by decide : parseFieldDescriptor "B" = some .byte) (by decide : parseFieldDescriptor "I" = some .int))))
  have f56 := (Fld.other W50 (Fld.keep F_q0_value f41 (ninS d_q0_q2 nin0)) (Or.inr (slot_ne (Or.inl (wd G 49 rfl)) (Or.inl (wd G 73 rfl)) (by decide) (by decide : parseFieldDescriptor "[B" = some (.array (.byte))) (by decide : parseFieldDescriptor "I" = some .int))))
  exact kRETA X49 (gEL G) hret rfl rfl d10_44 (fun ve hve => ⟨rfl, K53, f54, f55, f52, f56⟩) (by decide)
def R_rm161 : Room := { frames := 4, cells := 0, slots := 0, locals := 61 }
theorem rm161 (G : Glob Z a0 iCS vSI) (i0 i1 i2 : Int32) (q0 q1 q2 q3 : Addr) (kp0 kp1 : ClassId) (h0 : Heap) (Z0 : n0 ≤ h0.size) (O0 : Old Z n0 h0) (F_q1_value : Fld Z h0 q1 "java/lang/String" "value" "[B" (.ref q3)) (A_q3 : Arv Z h0 q3 kp1 .byte 3 [.int i0, .int i1, .int i2] (.int 0)) (F_q1_coder : Fld Z h0 q1 "java/lang/String" "coder" "B" (.int 0)) (E_q1 : Exa Z h0 q1 "java/lang/String") (F_q0_count : Fld Z h0 q0 "java/lang/AbstractStringBuilder" "count" "I" (.int 0)) (F_q0_value : Fld Z h0 q0 "java/lang/AbstractStringBuilder" "value" "[B" (.ref q2)) (A_q2 : Arv Z h0 q2 kp0 .byte 16 [.int 0, .int 0, .int 0, .int 0, .int 0, .int 0, .int 0, .int 0, .int 0, .int 0, .int 0, .int 0, .int 0, .int 0, .int 0, .int 0] (.int 0)) (F_q0_coder : Fld Z h0 q0 "java/lang/AbstractStringBuilder" "coder" "B" (.int 0)) (E_q0 : Exa Z h0 q0 "java/lang/StringBuilder") (d_q0_q2 : q0 ≠ q2) (g_q0 : n0 ≤ q0) (g_q2 : n0 ≤ q2) : MetH l Z EL0 n0 N_jdk_67_m_7 jdk_67_method_7_code 2 (some (.object "java/lang/StringBuilder")) [] R_rm161 #[.ref q0, .ref q1] h0 [q2] (fun vs v h ve => (v = some (.ref q0) ∧ (Keep h0 h [q2, q0]) ∧ (Arv Z h q2 kp0 .byte 16 [.int i0, .int i1, .int i2, .int 0, .int 0, .int 0, .int 0, .int 0, .int 0, .int 0, .int 0, .int 0, .int 0, .int 0, .int 0, .int 0] (.int 0)) ∧ (Fld Z h q0 "java/lang/AbstractStringBuilder" "coder" "B" (.int 0)) ∧ (Fld Z h q0 "java/lang/AbstractStringBuilder" "count" "I" (.int 3)) ∧ (Fld Z h q0 "java/lang/AbstractStringBuilder" "value" "[B" (.ref q2)))) := by
  refine MetH.of #[.val (.ref q0), .val (.ref q1)] (plainFor_of_name pn_java_lang_StringBuilder) rfl Z0 (fun p e s m below meth c T0 hret hml hnm hSL hs0 X0 => ?_)
  have S_q2 := hSL q2 (List.mem_of_getElem? (i := 0) rfl)
  refine kALn X0 d9_0 rfl rfl ?_
  refine kALn X0 d9_1 rfl rfl ?_
  refine kSUP X0 (gEL G) (argsL := [.ref q1]) (rest := []) (wd G 57 rfl) (own_same (wd G 58 rfl) (own_noface (wd G 77 rfl) rfl) (by decide)) (wd G 58 rfl) (wd G 59 rfl) (by decide) (wd G 44 rfl) (wd G 61 rfl) (Ins.of_exa E_q0 (wd G 43 rfl)) (rm162 G i0 i1 i2 q0 q1 q2 q3 kp0 kp1 h0 X0.n O0 F_q1_value A_q3 F_q1_coder E_q1 F_q0_count F_q0_value A_q2 F_q0_coder E_q0 d_q0_q2 g_q0 g_q2) (allS ⟨(A_q2.lt), S_q2⟩ all0) (lenOf pd__Ljava_lang_String__Ljava_lang_AbstractStringBuilder_ rfl) rfl 0 rfl (by decide) hml.symm d9_2 (fun v1 T2 h3 vm4 _ w5 q6 C7 C8 X9 => ?_)
  obtain ⟨e11, f12, f13, f14, f15, f16⟩ := q6
  subst e11
  show Go _ _ _ _ _ (mkF _ _ _ [.ref q0])
  refine kPOP X9 d9_5 rfl ?_
  refine kALn X9 d9_6 rfl rfl ?_
  have K17 : Keep h0 h3 [q2, q0] := (Keep.trans (Keep.refl h0 [q2, q0]) f12 (allS (Or.inl (List.mem_of_getElem? (i := 0) rfl)) (allS (Or.inl (List.mem_of_getElem? (i := 1) rfl)) all0)))
  exact kRETA X9 (gEL G) hret rfl rfl d9_7 (fun ve hve => ⟨rfl, K17, f13, f14, f15, f16⟩) (by decide)
def R_rm171 : Room := { frames := 0, cells := 0, slots := 0, locals := 0 }
theorem rm171 (G : Glob Z a0 iCS vSI) (i0 i1 i2 : Int32) (q0 q1 : Addr) (kp0 : ClassId) (h0 : Heap) (Z0 : n0 ≤ h0.size) (O0 : Old Z n0 h0) (F_q0_value : Fld Z h0 q0 "java/lang/AbstractStringBuilder" "value" "[B" (.ref q1)) (A_q1 : Arv Z h0 q1 kp0 .byte 16 [.int i0, .int i1, .int i2, .int 0, .int 0, .int 0, .int 0, .int 0, .int 0, .int 0, .int 0, .int 0, .int 0, .int 0, .int 0, .int 0] (.int 0)) (F_q0_coder : Fld Z h0 q0 "java/lang/AbstractStringBuilder" "coder" "B" (.int 0)) : MetH l Z EL0 n0 N_jdk_68_m_9 jdk_68_method_9_code 3 none [] R_rm171 #[.ref q0, .int 9] h0 [] (fun vs v h ve => (v = none ∧ (h0 = h))) := by
  refine MetH.of #[.val (.ref q0), .val (.int 9), .unset] (plainFor_of_name pn_java_lang_AbstractStringBuilder) rfl Z0 (fun p e s m below meth c T0 hret hml hnm hSL hs0 X0 => ?_)
  refine kALn X0 d13_0 rfl rfl ?_
  refine kGETF X0 (wd G 48 rfl) Via.refl F_q0_value d13_1 (fun T1 X2 => ?_)
  refine kLEN X2 A_q1 d13_4 ?_
  refine kALn X2 d13_5 rfl rfl ?_
  refine kGETF X2 (wd G 50 rfl) Via.refl F_q0_coder d13_6 (fun T3 X4 => ?_)
  refine kISHR X4 16 d13_9 (by decide) ?_
  refine kISn X4 #[.val (.ref q0), .val (.int 9), .val (.int 16)] d13_10 rfl ?_
  refine kILn X4 d13_11 rfl ?_
  refine kILn X4 d13_12 rfl ?_
  refine kISUB X4 (-7) d13_13 (by decide) ?_
  refine kIFt X4 38 d13_14 (XT.i0_le_t (by decide)) (by decide) ?_
  exact kRETV X4 (gEL G) hret d13_38 (fun ve hve => ⟨rfl, rfl⟩) (by decide)
def R_rm173 : Room := { frames := 1, cells := 0, slots := 0, locals := 13 }
theorem rm173 (G : Glob Z a0 iCS vSI) (i0 i1 i2 : Int32) (q0 q1 q2 q3 : Addr) (kp0 kp1 : ClassId) (h0 : Heap) (Z0 : n0 ≤ h0.size) (O0 : Old Z n0 h0) (F_q0_coder : Fld Z h0 q0 "java/lang/AbstractStringBuilder" "coder" "B" (.int 0)) (F_q1_coder : Fld Z h0 q1 "java/lang/String" "coder" "B" (.int 0)) (E_q1 : Exa Z h0 q1 "java/lang/String") : MetH l Z EL0 n0 N_jdk_68_m_71 jdk_68_method_71_code 2 none [] R_rm173 #[.ref q0, .ref q1] h0 [] (fun vs v h ve => (v = none ∧ (h0 = h))) := by
  refine MetH.of #[.val (.ref q0), .val (.ref q1)] (plainFor_of_name pn_java_lang_AbstractStringBuilder) rfl Z0 (fun p e s m below meth c T0 hret hml hnm hSL hs0 X0 => ?_)
  refine kGETS X0 (wd G 47 rfl) Via.refl (Sta.ext O0.2 (S_CS G)) d15_0 (fun T1 X2 => ?_)
  refine kIFf X2 d15_3 (XT.i0_eq_f (n_CS G)) ?_
  refine kALn X2 d15_6 rfl rfl ?_
  refine kGETF X2 (wd G 50 rfl) Via.refl F_q0_coder d15_7 (fun T3 X4 => ?_)
  refine kALn X4 d15_10 rfl rfl ?_
  refine kVIRT X4 (gEL G) (argsL := []) (rest := [.int 0]) (wd G 89 rfl) (wd G 68 rfl) (own_nf X4.hZ (own_noinst (wd G 2 rfl))) (wd G 70 rfl) (wd G 69 rfl) (wd G 3 rfl) (wd G 71 rfl) (by decide) E_q1 (rm17 G q1 q3 kp1 h0 X4.n O0 F_q1_coder) all0 (lenOf pd___B rfl) rfl 1 rfl (by decide) hml.symm d15_11 (fun v5 T6 h7 vm8 _ w9 q10 C11 C12 X13 => ?_)
  obtain ⟨e15, f16⟩ := q10
  subst e15
  subst f16
  show Go _ _ _ _ _ (mkF _ _ _ [.int 0, .int 0])
  refine kICt X13 21 d15_14 (XT.ii_eq_t (by decide)) (by decide) ?_
  exact kRETV X13 (gEL G) hret d15_21 (fun ve hve => ⟨rfl, rfl⟩) (by decide)
def R_rm174 : Room := { frames := 1, cells := 0, slots := 0, locals := 18 }
theorem rm174 (G : Glob Z a0 iCS vSI) (i0 i1 i2 : Int32) (q0 q1 q2 : Addr) (kp0 kp1 : ClassId) (h0 : Heap) (Z0 : n0 ≤ h0.size) (O0 : Old Z n0 h0) (F_q0_coder : Fld Z h0 q0 "java/lang/String" "coder" "B" (.int 0)) (E_q0 : Exa Z h0 q0 "java/lang/String") (F_q0_value : Fld Z h0 q0 "java/lang/String" "value" "[B" (.ref q2)) (A_q2 : Arv Z h0 q2 kp1 .byte 6 [.int 46, .int 108, .int 111, .int 119, .int 101, .int 114] (.int 0)) (A_q1 : Arv Z h0 q1 kp0 .byte 16 [.int i0, .int i1, .int i2, .int 0, .int 0, .int 0, .int 0, .int 0, .int 0, .int 0, .int 0, .int 0, .int 0, .int 0, .int 0, .int 0] (.int 0)) (g_q1 : n0 ≤ q1) : MetH l Z EL0 n0 N_jdk_42_m_147 jdk_42_method_147_code 4 none [] R_rm174 #[.ref q0, .ref q1, .int 3, .int 0] h0 [q1] (fun vs v h ve => (v = none ∧ (Keep h0 h [q1]) ∧ (Arv Z h q1 kp0 .byte 16 [.int i0, .int i1, .int i2, .int 46, .int 108, .int 111, .int 119, .int 101, .int 114, .int 0, .int 0, .int 0, .int 0, .int 0, .int 0, .int 0] (.int 0)))) := by
  refine MetH.of #[.val (.ref q0), .val (.ref q1), .val (.int 3), .val (.int 0)] (plainFor_of_name pn_java_lang_String) rfl Z0 (fun p e s m below meth c T0 hret hml hnm hSL hs0 X0 => ?_)
  have S_q1 := hSL q1 (List.mem_of_getElem? (i := 0) rfl)
  refine kALn X0 d16_0 rfl rfl ?_
  refine kVIRT X0 (gEL G) (argsL := []) (rest := []) (wd G 67 rfl) (wd G 68 rfl) (own_nf X0.hZ (own_noinst (wd G 2 rfl))) (wd G 70 rfl) (wd G 69 rfl) (wd G 3 rfl) (wd G 71 rfl) (by decide) E_q0 (rm17 G q0 q2 kp1 h0 X0.n O0 F_q0_coder) all0 (lenOf pd___B rfl) rfl 0 rfl (by decide) hml.symm d16_1 (fun v1 T2 h3 vm4 _ w5 q6 C7 C8 X9 => ?_)
  obtain ⟨e11, f12⟩ := q6
  subst e11
  subst f12
  show Go _ _ _ _ _ (mkF _ _ _ [.int 0])
  refine kILn X9 d16_4 rfl ?_
  refine kICf X9 d16_5 (XT.ii_ne_f (by decide)) ?_
  refine kALn X9 d16_8 rfl rfl ?_
  refine kGETF X9 (wd G 28 rfl) Via.refl F_q0_value d16_9 (fun T13 X14 => ?_)
  refine kIC X14 0 d16_12 (by decide) ?_
  refine kALn X14 d16_13 rfl rfl ?_
  refine kILn X14 d16_14 rfl ?_
  refine kILn X14 d16_15 rfl ?_
  refine kISHL X14 3 d16_16 (by decide) ?_
  refine kALn X14 d16_17 rfl rfl ?_
  refine kGETF X14 (wd G 28 rfl) Via.refl F_q0_value d16_18 (fun T15 X16 => ?_)
  refine kLEN X16 A_q2 d16_21 ?_
  have f17 := (CHr.safe C8 (A_q1.lt) S_q1)
  refine kCPA X16 (wd G 95 rfl) (wd G 98 rfl) (wd G 96 rfl) (wd G 97 rfl) A_q2 A_q1 (Or.inl ⟨rfl, rfl⟩) (us := [.int 46, .int 108, .int 111, .int 119, .int 101, .int 114]) (by decide) rfl (by show 9 ≤ 16; decide) g_q1 f17 hml.symm d16_22 (by decide) 0 (Nat.le_of_eq rfl) (by decide) (fun T18 h19 L21 K22 C23 f24 X20 => ?_)
  have f25 : Arv Z h19 q1 kp0 .byte 16 [.int i0, .int i1, .int i2, .int 46, .int 108, .int 111, .int 119, .int 101, .int 114, .int 0, .int 0, .int 0, .int 0, .int 0, .int 0, .int 0] (.int 0) := f24
  refine kGOTO X20 43 d16_25 (by decide) ?_
  have K26 : Keep h0 h19 [q1] := (Keep.trans (Keep.refl h0 [q1]) K22 (allS (Or.inl (List.mem_of_getElem? (i := 0) rfl)) all0))
  exact kRETV X20 (gEL G) hret d16_43 (fun ve hve => ⟨rfl, K26, f25⟩) (by decide)
def R_rm172 : Room := { frames := 2, cells := 0, slots := 0, locals := 33 }
theorem rm172 (G : Glob Z a0 iCS vSI) (i0 i1 i2 : Int32) (q0 q1 q2 q3 : Addr) (kp0 kp1 : ClassId) (h0 : Heap) (Z0 : n0 ≤ h0.size) (O0 : Old Z n0 h0) (F_q0_coder : Fld Z h0 q0 "java/lang/AbstractStringBuilder" "coder" "B" (.int 0)) (F_q1_coder : Fld Z h0 q1 "java/lang/String" "coder" "B" (.int 0)) (E_q1 : Exa Z h0 q1 "java/lang/String") (E_q0 : Exa Z h0 q0 "java/lang/StringBuilder") (F_q0_value : Fld Z h0 q0 "java/lang/AbstractStringBuilder" "value" "[B" (.ref q2)) (F_q1_value : Fld Z h0 q1 "java/lang/String" "value" "[B" (.ref q3)) (A_q3 : Arv Z h0 q3 kp1 .byte 6 [.int 46, .int 108, .int 111, .int 119, .int 101, .int 114] (.int 0)) (A_q2 : Arv Z h0 q2 kp0 .byte 16 [.int i0, .int i1, .int i2, .int 0, .int 0, .int 0, .int 0, .int 0, .int 0, .int 0, .int 0, .int 0, .int 0, .int 0, .int 0, .int 0] (.int 0)) (g_q2 : n0 ≤ q2) : MetH l Z EL0 n0 N_jdk_68_m_73 jdk_68_method_73_code 3 none [] R_rm172 #[.ref q0, .int 3, .ref q1] h0 [q2] (fun vs v h ve => (v = none ∧ (Keep h0 h [q2]) ∧ (Arv Z h q2 kp0 .byte 16 [.int i0, .int i1, .int i2, .int 46, .int 108, .int 111, .int 119, .int 101, .int 114, .int 0, .int 0, .int 0, .int 0, .int 0, .int 0, .int 0] (.int 0)))) := by
  refine MetH.of #[.val (.ref q0), .val (.int 3), .val (.ref q1)] (plainFor_of_name pn_java_lang_AbstractStringBuilder) rfl Z0 (fun p e s m below meth c T0 hret hml hnm hSL hs0 X0 => ?_)
  have S_q2 := hSL q2 (List.mem_of_getElem? (i := 0) rfl)
  refine kALn X0 d14_0 rfl rfl ?_
  refine kALn X0 d14_1 rfl rfl ?_
  refine kVIRT X0 (gEL G) (argsL := [.ref q1]) (rest := []) (wd G 84 rfl) (own_decl (wd G 85 rfl) (wd G 88 rfl)) (own_nf X0.hZ (own_noface (wd G 77 rfl) rfl)) (wd G 87 rfl) (wd G 85 rfl) (wd G 44 rfl) (wd G 88 rfl) (by decide) E_q0 (rm173 G i0 i1 i2 q0 q1 q2 q3 kp0 kp1 h0 X0.n O0 F_q0_coder F_q1_coder E_q1) all0 (lenOf pd__Ljava_lang_String__V rfl) rfl 0 rfl (by decide) hml.symm d14_2 (fun v1 T2 h3 vm4 _ w5 q6 C7 C8 X9 => ?_)
  obtain ⟨e11, f12⟩ := q6
  subst e11
  subst f12
  show Go _ _ _ _ _ (mkF _ _ _ [])
  refine kALn X9 d14_5 rfl rfl ?_
  refine kALn X9 d14_6 rfl rfl ?_
  refine kGETF X9 (wd G 48 rfl) Via.refl F_q0_value d14_7 (fun T13 X14 => ?_)
  refine kILn X14 d14_10 rfl ?_
  refine kALn X14 d14_11 rfl rfl ?_
  refine kGETF X14 (wd G 50 rfl) Via.refl F_q0_coder d14_12 (fun T15 X16 => ?_)
  have f26 := (CHr.safe C8 (A_q2.lt) S_q2)
  refine kVIRT X16 (gEL G) (argsL := [.ref q2, .int 3, .int 0]) (rest := []) (wd G 90 rfl) (wd G 91 rfl) (own_nf X16.hZ (own_noinst (wd G 2 rfl))) (wd G 93 rfl) (wd G 92 rfl) (wd G 3 rfl) (wd G 94 rfl) (by decide) E_q1 (rm174 G i0 i1 i2 q1 q2 q3 kp0 kp1 h0 X16.n O0 F_q1_coder E_q1 F_q1_value A_q3 A_q2 g_q2) (allS ⟨(A_q2.lt), f26⟩ all0) (lenOf pd___BIB_V rfl) rfl 0 rfl (by decide) hml.symm d14_15 (fun v17 T18 h19 vm20 _ w21 q22 C23 C24 X25 => ?_)
  obtain ⟨e28, f29, f30⟩ := q22
  subst e28
  show Go _ _ _ _ _ (mkF _ _ _ [])
  have K31 : Keep h0 h19 [q2] := (Keep.trans (Keep.refl h0 [q2]) f29 (allS (Or.inl (List.mem_of_getElem? (i := 0) rfl)) all0))
  exact kRETV X25 (gEL G) hret d14_18 (fun ve hve => ⟨rfl, K31, f30⟩) (by decide)
def R_rm170 : Room := { frames := 3, cells := 0, slots := 0, locals := 47 }
theorem rm170 (G : Glob Z a0 iCS vSI) (i0 i1 i2 : Int32) (q0 q1 q2 q3 : Addr) (kp0 kp1 : ClassId) (h0 : Heap) (Z0 : n0 ≤ h0.size) (O0 : Old Z n0 h0) (F_q1_value : Fld Z h0 q1 "java/lang/String" "value" "[B" (.ref q3)) (A_q3 : Arv Z h0 q3 kp1 .byte 6 [.int 46, .int 108, .int 111, .int 119, .int 101, .int 114] (.int 0)) (F_q1_coder : Fld Z h0 q1 "java/lang/String" "coder" "B" (.int 0)) (E_q1 : Exa Z h0 q1 "java/lang/String") (F_q0_count : Fld Z h0 q0 "java/lang/AbstractStringBuilder" "count" "I" (.int 3)) (F_q0_value : Fld Z h0 q0 "java/lang/AbstractStringBuilder" "value" "[B" (.ref q2)) (A_q2 : Arv Z h0 q2 kp0 .byte 16 [.int i0, .int i1, .int i2, .int 0, .int 0, .int 0, .int 0, .int 0, .int 0, .int 0, .int 0, .int 0, .int 0, .int 0, .int 0, .int 0] (.int 0)) (F_q0_coder : Fld Z h0 q0 "java/lang/AbstractStringBuilder" "coder" "B" (.int 0)) (E_q0 : Exa Z h0 q0 "java/lang/StringBuilder") (d_q0_q2 : q0 ≠ q2) (g_q0 : n0 ≤ q0) (g_q2 : n0 ≤ q2) : MetH l Z EL0 n0 N_jdk_68_m_22 jdk_68_method_22_code 3 (some (.object "java/lang/AbstractStringBuilder")) [] R_rm170 #[.ref q0, .ref q1] h0 [q2] (fun vs v h ve => (v = some (.ref q0) ∧ (Keep h0 h [q2, q0]) ∧ (Arv Z h q2 kp0 .byte 16 [.int i0, .int i1, .int i2, .int 46, .int 108, .int 111, .int 119, .int 101, .int 114, .int 0, .int 0, .int 0, .int 0, .int 0, .int 0, .int 0] (.int 0)) ∧ (Fld Z h q0 "java/lang/AbstractStringBuilder" "coder" "B" (.int 0)) ∧ (Fld Z h q0 "java/lang/AbstractStringBuilder" "count" "I" (.int 9)) ∧ (Fld Z h q0 "java/lang/AbstractStringBuilder" "value" "[B" (.ref q2)))) := by
  refine MetH.of #[.val (.ref q0), .val (.ref q1), .unset] (plainFor_of_name pn_java_lang_AbstractStringBuilder) rfl Z0 (fun p e s m below meth c T0 hret hml hnm hSL hs0 X0 => ?_)
  have S_q2 := hSL q2 (List.mem_of_getElem? (i := 0) rfl)
  refine kALn X0 d10_0 rfl rfl ?_
  refine kNNt X0 9 d10_1 (by decide) ?_
  refine kALn X0 d10_9 rfl rfl ?_
  refine kVIRT X0 (gEL G) (argsL := []) (rest := []) (wd G 62 rfl) (wd G 63 rfl) (own_nf X0.hZ (own_noinst (wd G 2 rfl))) (wd G 65 rfl) (wd G 64 rfl) (wd G 3 rfl) (wd G 66 rfl) (by decide) E_q1 (rm16 G q1 q3 kp1 h0 X0.n O0 F_q1_value A_q3 F_q1_coder E_q1) all0 (lenOf pd___I rfl) rfl 0 rfl (by decide) hml.symm d10_10 (fun v1 T2 h3 vm4 _ w5 q6 C7 C8 X9 => ?_)
  obtain ⟨e11, f12⟩ := q6
  subst e11
  subst f12
  show Go _ _ _ _ _ (mkF _ _ _ [.int 6])
  refine kISn X9 #[.val (.ref q0), .val (.ref q1), .val (.int 6)] d10_13 rfl ?_
  refine kALn X9 d10_14 rfl rfl ?_
  refine kALn X9 d10_15 rfl rfl ?_
  refine kGETF X9 (wd G 72 rfl) Via.refl F_q0_count d10_16 (fun T13 X14 => ?_)
  refine kILn X14 d10_19 rfl ?_
  refine kIADD X14 9 d10_20 (by decide) ?_
  refine kVIRT X14 (gEL G) (argsL := [.int 9]) (rest := []) (wd G 74 rfl) (own_decl (wd G 75 rfl) (wd G 78 rfl)) (own_nf X14.hZ (own_noface (wd G 77 rfl) rfl)) (wd G 77 rfl) (wd G 75 rfl) (wd G 44 rfl) (wd G 78 rfl) (by decide) E_q0 (rm171 G i0 i1 i2 q0 q2 kp0 h0 X14.n O0 F_q0_value A_q2 F_q0_coder) all0 (lenOf pd__I_V rfl) rfl 0 rfl (by decide) hml.symm d10_21 (fun v15 T16 h17 vm18 _ w19 q20 C21 C22 X23 => ?_)
  obtain ⟨e25, f26⟩ := q20
  subst e25
  subst f26
  show Go _ _ _ _ _ (mkF _ _ _ [])
  refine kALn X23 d10_24 rfl rfl ?_
  refine kALn X23 d10_25 rfl rfl ?_
  refine kGETF X23 (wd G 72 rfl) Via.refl F_q0_count d10_26 (fun T27 X28 => ?_)
  refine kALn X28 d10_29 rfl rfl ?_
  have f38 := (CHr.safe C22 (A_q2.lt) (CHr.safe C8 (A_q2.lt) S_q2))
  refine kVIRT X28 (gEL G) (argsL := [.int 3, .ref q1]) (rest := []) (wd G 79 rfl) (own_decl (wd G 80 rfl) (wd G 83 rfl)) (own_nf X28.hZ (own_noface (wd G 77 rfl) rfl)) (wd G 82 rfl) (wd G 80 rfl) (wd G 44 rfl) (wd G 83 rfl) (by decide) E_q0 (rm172 G i0 i1 i2 q0 q1 q2 q3 kp0 kp1 h0 X28.n O0 F_q0_coder F_q1_coder E_q1 E_q0 F_q0_value F_q1_value A_q3 A_q2 g_q2) (allS ⟨(A_q2.lt), f38⟩ all0) (lenOf pd__ILjava_lang_String__V rfl) rfl 0 rfl (by decide) hml.symm d10_30 (fun v29 T30 h31 vm32 _ w33 q34 C35 C36 X37 => ?_)
  obtain ⟨e40, f41, f42⟩ := q34
  subst e40
  show Go _ _ _ _ _ (mkF _ _ _ [])
  refine kALn X37 d10_33 rfl rfl ?_
  refine kDUP X37 d10_34 rfl ?_
  have f43 := (Fld.keep F_q0_count f41 (ninS d_q0_q2 nin0))
  refine kGETF X37 (wd G 72 rfl) Via.refl f43 d10_35 (fun T44 X45 => ?_)
  refine kILn X45 d10_38 rfl ?_
  refine kIADD X45 9 d10_39 (by decide) ?_
  have f46 := (Exa.keep E_q0 f41)
  refine kPUTF X45 (wd G 72 rfl) Via.refl f43 f46 (Or.inl (wd G 73 rfl)) (wd G 35 rfl) (ty := .int) (by decide) rfl rfl g_q0 (Safe.exa X45.hZ.alike f46 (by decide) (by decide)) d10_40 (fun T47 h48 L51 W50 X49 => ?_)
  have f52 := Fld.same W50 f43
  refine kALn X49 d10_43 rfl rfl ?_
  have K53 : Keep h0 h48 [q2, q0] := (Keep.wr (Keep.trans (Keep.refl h0 [q2, q0]) f41 (allS (Or.inl (List.mem_of_getElem? (i := 0) rfl)) all0)) W50 (Or.inl (List.mem_of_getElem? (i := 1) rfl)))
  have f54 := (Arv.other f42 W50 (Ne.symm d_q0_q2))
  have f55 := (Fld.other W50 (Fld.keep F_q0_coder f41 (ninS d_q0_q2 nin0)) (Or.inr (slot_ne (Or.inl (wd G 51 rfl)) (Or.inl (wd G 73 rfl)) (by decide) (by decide : parseFieldDescriptor "B" = some .byte) (by decide : parseFieldDescriptor "I" = some .int))))
  have f56 := (Fld.other W50 (Fld.keep F_q0_value f41 (ninS d_q0_q2 nin0)) (Or.inr (slot_ne (Or.inl (wd G 49 rfl)) (Or.inl (wd G 73 rfl)) (by decide) (by decide : parseFieldDescriptor "[B" = some (.array (.byte))) (by decide : parseFieldDescriptor "I" = some .int))))
  exact kRETA X49 (gEL G) hret rfl rfl d10_44 (fun ve hve => ⟨rfl, K53, f54, f55, f52, f56⟩) (by decide)
def R_rm169 : Room := { frames := 4, cells := 0, slots := 0, locals := 61 }
theorem rm169 (G : Glob Z a0 iCS vSI) (i0 i1 i2 : Int32) (q0 q1 q2 q3 : Addr) (kp0 kp1 : ClassId) (h0 : Heap) (Z0 : n0 ≤ h0.size) (O0 : Old Z n0 h0) (F_q1_value : Fld Z h0 q1 "java/lang/String" "value" "[B" (.ref q3)) (A_q3 : Arv Z h0 q3 kp1 .byte 6 [.int 46, .int 108, .int 111, .int 119, .int 101, .int 114] (.int 0)) (F_q1_coder : Fld Z h0 q1 "java/lang/String" "coder" "B" (.int 0)) (E_q1 : Exa Z h0 q1 "java/lang/String") (F_q0_count : Fld Z h0 q0 "java/lang/AbstractStringBuilder" "count" "I" (.int 3)) (F_q0_value : Fld Z h0 q0 "java/lang/AbstractStringBuilder" "value" "[B" (.ref q2)) (A_q2 : Arv Z h0 q2 kp0 .byte 16 [.int i0, .int i1, .int i2, .int 0, .int 0, .int 0, .int 0, .int 0, .int 0, .int 0, .int 0, .int 0, .int 0, .int 0, .int 0, .int 0] (.int 0)) (F_q0_coder : Fld Z h0 q0 "java/lang/AbstractStringBuilder" "coder" "B" (.int 0)) (E_q0 : Exa Z h0 q0 "java/lang/StringBuilder") (d_q0_q2 : q0 ≠ q2) (g_q0 : n0 ≤ q0) (g_q2 : n0 ≤ q2) : MetH l Z EL0 n0 N_jdk_67_m_7 jdk_67_method_7_code 2 (some (.object "java/lang/StringBuilder")) [] R_rm169 #[.ref q0, .ref q1] h0 [q2] (fun vs v h ve => (v = some (.ref q0) ∧ (Keep h0 h [q2, q0]) ∧ (Arv Z h q2 kp0 .byte 16 [.int i0, .int i1, .int i2, .int 46, .int 108, .int 111, .int 119, .int 101, .int 114, .int 0, .int 0, .int 0, .int 0, .int 0, .int 0, .int 0] (.int 0)) ∧ (Fld Z h q0 "java/lang/AbstractStringBuilder" "coder" "B" (.int 0)) ∧ (Fld Z h q0 "java/lang/AbstractStringBuilder" "count" "I" (.int 9)) ∧ (Fld Z h q0 "java/lang/AbstractStringBuilder" "value" "[B" (.ref q2)))) := by
  refine MetH.of #[.val (.ref q0), .val (.ref q1)] (plainFor_of_name pn_java_lang_StringBuilder) rfl Z0 (fun p e s m below meth c T0 hret hml hnm hSL hs0 X0 => ?_)
  have S_q2 := hSL q2 (List.mem_of_getElem? (i := 0) rfl)
  refine kALn X0 d9_0 rfl rfl ?_
  refine kALn X0 d9_1 rfl rfl ?_
  refine kSUP X0 (gEL G) (argsL := [.ref q1]) (rest := []) (wd G 57 rfl) (own_same (wd G 58 rfl) (own_noface (wd G 77 rfl) rfl) (by decide)) (wd G 58 rfl) (wd G 59 rfl) (by decide) (wd G 44 rfl) (wd G 61 rfl) (Ins.of_exa E_q0 (wd G 43 rfl)) (rm170 G i0 i1 i2 q0 q1 q2 q3 kp0 kp1 h0 X0.n O0 F_q1_value A_q3 F_q1_coder E_q1 F_q0_count F_q0_value A_q2 F_q0_coder E_q0 d_q0_q2 g_q0 g_q2) (allS ⟨(A_q2.lt), S_q2⟩ all0) (lenOf pd__Ljava_lang_String__Ljava_lang_AbstractStringBuilder_ rfl) rfl 0 rfl (by decide) hml.symm d9_2 (fun v1 T2 h3 vm4 _ w5 q6 C7 C8 X9 => ?_)
  obtain ⟨e11, f12, f13, f14, f15, f16⟩ := q6
  subst e11
  show Go _ _ _ _ _ (mkF _ _ _ [.ref q0])
  refine kPOP X9 d9_5 rfl ?_
  refine kALn X9 d9_6 rfl rfl ?_
  have K17 : Keep h0 h3 [q2, q0] := (Keep.trans (Keep.refl h0 [q2, q0]) f12 (allS (Or.inl (List.mem_of_getElem? (i := 0) rfl)) (allS (Or.inl (List.mem_of_getElem? (i := 1) rfl)) all0)))
  exact kRETA X9 (gEL G) hret rfl rfl d9_7 (fun ve hve => ⟨rfl, K17, f13, f14, f15, f16⟩) (by decide)
def R_rm178 : Room := { frames := 0, cells := 0, slots := 0, locals := 0 }
theorem rm178 (G : Glob Z a0 iCS vSI) (i0 i1 i2 : Int32) (q0 q1 : Addr) (kp0 : ClassId) (h0 : Heap) (Z0 : n0 ≤ h0.size) (O0 : Old Z n0 h0) (F_q0_value : Fld Z h0 q0 "java/lang/AbstractStringBuilder" "value" "[B" (.ref q1)) : MetH l Z EL0 n0 N_jdk_68_m_64 jdk_68_method_64_code 1 (some (.array (.byte))) [] R_rm178 #[.ref q0] h0 [] (fun vs v h ve => (v = some (.ref q1) ∧ (h0 = h))) := by
  refine MetH.of #[.val (.ref q0)] (plainFor_of_name pn_java_lang_AbstractStringBuilder) rfl Z0 (fun p e s m below meth c T0 hret hml hnm hSL hs0 X0 => ?_)
  refine kALn X0 d20_0 rfl rfl ?_
  refine kGETF X0 (wd G 48 rfl) Via.refl F_q0_value d20_1 (fun T1 X2 => ?_)
  exact kRETA X2 (gEL G) hret rfl rfl d20_4 (fun ve hve => ⟨rfl, rfl⟩) (by decide)
def R_rm180 : Room := { frames := 0, cells := 0, slots := 0, locals := 0 }
theorem rm180 (G : Glob Z a0 iCS vSI) (i0 i1 i2 : Int32) (q0 q1 : Addr) (kp0 : ClassId) (h0 : Heap) (Z0 : n0 ≤ h0.size) (O0 : Old Z n0 h0) (F_q0_count : Fld Z h0 q0 "java/lang/AbstractStringBuilder" "count" "I" (.int 9)) : MetH l Z EL0 n0 N_jdk_68_m_6 jdk_68_method_6_code 1 (some .int) [] R_rm180 #[.ref q0] h0 [] (fun vs v h ve => (v = some (.int 9) ∧ (h0 = h))) := by
  refine MetH.of #[.val (.ref q0)] (plainFor_of_name pn_java_lang_AbstractStringBuilder) rfl Z0 (fun p e s m below meth c T0 hret hml hnm hSL hs0 X0 => ?_)
  refine kALn X0 d22_0 rfl rfl ?_
  refine kGETF X0 (wd G 72 rfl) Via.refl F_q0_count d22_1 (fun T1 X2 => ?_)
  exact kRETI X2 (gEL G) hret d22_4 (fun ve hve => ⟨rfl, rfl⟩) (by decide)
def R_rm179 : Room := { frames := 1, cells := 0, slots := 0, locals := 12 }
theorem rm179 (G : Glob Z a0 iCS vSI) (i0 i1 i2 : Int32) (q0 q1 : Addr) (kp0 : ClassId) (h0 : Heap) (Z0 : n0 ≤ h0.size) (O0 : Old Z n0 h0) (F_q0_count : Fld Z h0 q0 "java/lang/AbstractStringBuilder" "count" "I" (.int 9)) (E_q0 : Exa Z h0 q0 "java/lang/StringBuilder") : MetH l Z EL0 n0 N_jdk_67_m_93 jdk_67_method_93_code 1 (some .int) [] R_rm179 #[.ref q0] h0 [] (fun vs v h ve => (v = some (.int 9) ∧ (h0 = h))) := by
  refine MetH.of #[.val (.ref q0)] (plainFor_of_name pn_java_lang_StringBuilder) rfl Z0 (fun p e s m below meth c T0 hret hml hnm hSL hs0 X0 => ?_)
  refine kALn X0 d21_0 rfl rfl ?_
  refine kSUP X0 (gEL G) (argsL := []) (rest := []) (wd G 125 rfl) (own_same (wd G 121 rfl) (own_noface (wd G 77 rfl) rfl) (by decide)) (wd G 121 rfl) (wd G 59 rfl) (by decide) (wd G 44 rfl) (wd G 126 rfl) (Ins.of_exa E_q0 (wd G 43 rfl)) (rm180 G i0 i1 i2 q0 q1 kp0 h0 X0.n O0 F_q0_count) all0 (lenOf pd___I rfl) rfl 0 rfl (by decide) hml.symm d21_1 (fun v1 T2 h3 vm4 _ w5 q6 C7 C8 X9 => ?_)
  obtain ⟨e11, f12⟩ := q6
  subst e11
  subst f12
  show Go _ _ _ _ _ (mkF _ _ _ [.int 9])
  exact kRETI X9 (gEL G) hret d21_4 (fun ve hve => ⟨rfl, rfl⟩) (by decide)
def R_rm181 : Room := { frames := 0, cells := 0, slots := 0, locals := 0 }
theorem rm181 (G : Glob Z a0 iCS vSI) (i0 i1 i2 : Int32) (q0 q1 : Addr) (kp0 : ClassId) (h0 : Heap) (Z0 : n0 ≤ h0.size) (O0 : Old Z n0 h0) (F_q0_coder : Fld Z h0 q0 "java/lang/AbstractStringBuilder" "coder" "B" (.int 0)) : MetH l Z EL0 n0 N_jdk_68_m_68 jdk_68_method_68_code 1 (some .boolean) [] R_rm181 #[.ref q0] h0 [] (fun vs v h ve => (v = some (.int 1) ∧ (h0 = h))) := by
  refine MetH.of #[.val (.ref q0)] (plainFor_of_name pn_java_lang_AbstractStringBuilder) rfl Z0 (fun p e s m below meth c T0 hret hml hnm hSL hs0 X0 => ?_)
  refine kGETS X0 (wd G 47 rfl) Via.refl (Sta.ext O0.2 (S_CS G)) d23_0 (fun T1 X2 => ?_)
  refine kIFf X2 d23_3 (XT.i0_eq_f (n_CS G)) ?_
  refine kALn X2 d23_6 rfl rfl ?_
  refine kGETF X2 (wd G 50 rfl) Via.refl F_q0_coder d23_7 (fun T3 X4 => ?_)
  refine kIFf X4 d23_10 (XT.i0_ne_f (by decide)) ?_
  refine kIC X4 1 d23_13 (by decide) ?_
  refine kGOTO X4 18 d23_14 (by decide) ?_
  exact kRETZ X4 (gEL G) (t := .boolean) hret (by simp) d23_18 (fun ve hve => ⟨rfl, rfl⟩) (by decide)
def R_rm184 : Room := { frames := 0, cells := 0, slots := 0, locals := 0 }
theorem rm184 (G : Glob Z a0 iCS vSI)  (h0 : Heap) (Z0 : n0 ≤ h0.size) (O0 : Old Z n0 h0)  : MetH l Z EL0 n0 N_jdk_65_m_131 jdk_65_method_131_code 2 none [] R_rm184 #[.int 0, .int 9] h0 [] (fun vs v h ve => (v = none ∧ (h0 = h))) := by
  refine MetH.of #[.val (.int 0), .val (.int 9)] (plainFor_of_name pn_java_util_Arrays) rfl Z0 (fun p e s m below meth c T0 hret hml hnm hSL hs0 X0 => ?_)
  refine kILn X0 d26_0 rfl ?_
  refine kILn X0 d26_1 rfl ?_
  refine kICt X0 37 d26_2 (XT.ii_ge_t (by decide)) (by decide) ?_
  exact kRETV X0 (gEL G) hret d26_37 (fun ve hve => ⟨rfl, rfl⟩) (by decide)
def R_rm185 : Room := { frames := 0, cells := 0, slots := 0, locals := 0 }
theorem rm185 (G : Glob Z a0 iCS vSI)  (h0 : Heap) (Z0 : n0 ≤ h0.size) (O0 : Old Z n0 h0)  : MetH l Z EL0 n0 N_jdk_29_m_69 jdk_29_method_69_code 2 (some .int) [] R_rm185 #[.int 16, .int 9] h0 [] (fun vs v h ve => (v = some (.int 9) ∧ (h0 = h))) := by
  refine MetH.of #[.val (.int 16), .val (.int 9)] pf_java_lang_Math_min rfl Z0 (fun p e s m below meth c T0 hret hml hnm hSL hs0 X0 => ?_)
  refine kILn X0 d27_0 rfl ?_
  refine kILn X0 d27_1 rfl ?_
  refine kICt X0 9 d27_2 (XT.ii_gt_t (by decide)) (by decide) ?_
  refine kILn X0 d27_9 rfl ?_
  exact kRETI X0 (gEL G) hret d27_10 (fun ve hve => ⟨rfl, rfl⟩) (by decide)
def R_rm183 : Room := { frames := 1, cells := 1, slots := 9, locals := 18 }
theorem rm183 (G : Glob Z a0 iCS vSI) (i0 i1 i2 : Int32) (q0 : Addr) (kp0 : ClassId) (h0 : Heap) (Z0 : n0 ≤ h0.size) (O0 : Old Z n0 h0) (A_q0 : Arv Z h0 q0 kp0 .byte 16 [.int i0, .int i1, .int i2, .int 46, .int 108, .int 111, .int 119, .int 101, .int 114, .int 0, .int 0, .int 0, .int 0, .int 0, .int 0, .int 0] (.int 0)) : MetH l Z EL0 n0 N_jdk_65_m_133 jdk_65_method_133_code 5 (some (.array (.byte))) [] R_rm183 #[.ref q0, .int 0, .int 9] h0 [] (fun vs v h ve => (∃ (x0 : Addr), ∃ (z0 : ClassId), v = some (.ref x0) ∧ (Keep h0 h []) ∧ (h0.size ≤ x0) ∧ (Arv Z h x0 z0 .byte 9 [.int i0, .int i1, .int i2, .int 46, .int 108, .int 111, .int 119, .int 101, .int 114] (.int 0)) ∧ (Safe Z EL0 ve h x0))) := by
  refine MetH.of #[.val (.ref q0), .val (.int 0), .val (.int 9), .unset, .unset] (plainFor_of_name pn_java_util_Arrays) rfl Z0 (fun p e s m below meth c T0 hret hml hnm hSL hs0 X0 => ?_)
  refine kILn X0 d25_0 rfl ?_
  refine kILn X0 d25_1 rfl ?_
  refine kSTAT X0 (gEL G) (argsL := [.int 0, .int 9]) (rest := []) (wd G 139 rfl) (wd G 140 rfl) (wd G 134 rfl) (wd G 141 rfl) (by decide) (rm184 G  h0 X0.n O0 ) all0 (lenOf pd__II_V rfl) rfl 0 rfl (by decide) hml.symm d25_2 (fun v1 T2 h3 vm4 _ w5 q6 C7 C8 X9 => ?_)
  obtain ⟨e11, f12⟩ := q6
  subst e11
  subst f12
  show Go _ _ _ _ _ (mkF _ _ _ [])
  refine kILn X9 d25_5 rfl ?_
  refine kILn X9 d25_6 rfl ?_
  refine kISUB X9 9 d25_7 (by decide) ?_
  refine kISn X9 #[.val (.ref q0), .val (.int 0), .val (.int 9), .val (.int 9), .unset] d25_8 rfl ?_
  refine kILn X9 d25_9 rfl ?_
  refine kNEWP X9 (wd G 19 rfl) (cap := 9) d25_10 (by decide) (by decide) (by decide) (by decide) (by decide) (fun T13 h14 a16 k17 E18 q19 g20 A21 s22 X15 => ?_)
  have n23 : q0 ≠ a16 := Nat.ne_of_lt (Nat.lt_of_lt_of_le (A_q0.lt) (Nat.le_of_eq q19.symm))
  have g24 : h0.size ≤ a16 := q19 ▸ X9.g0
  have f25 : Arv Z h14 a16 k17 .byte 9 [.int 0, .int 0, .int 0, .int 0, .int 0, .int 0, .int 0, .int 0, .int 0] (.int 0) := A21.pad (pad_rep [] _ 9)
  refine kAS X15 #[.val (.ref q0), .val (.int 0), .val (.int 9), .val (.int 9), .val (.ref a16)] d25_12 rfl rfl ?_
  refine kALn X15 d25_14 rfl rfl ?_
  refine kILn X15 d25_15 rfl ?_
  refine kAL X15 d25_16 rfl rfl ?_
  refine kIC X15 0 d25_18 (by decide) ?_
  refine kALn X15 d25_19 rfl rfl ?_
  have f26 := (Arv.ext A_q0 E18)
  refine kLEN X15 f26 d25_20 ?_
  refine kILn X15 d25_21 rfl ?_
  refine kISUB X15 16 d25_22 (by decide) ?_
  refine kILn X15 d25_23 rfl ?_
  have f27 := (Old.ext O0 E18)
  refine kSTAT X15 (gEL G) (argsL := [.int 16, .int 9]) (rest := [.int 0, .ref a16, .int 0, .ref q0]) (wd G 142 rfl) (wd G 143 rfl) (wd G 144 rfl) (wd G 145 rfl) (by decide) (rm185 G  h14 X15.n f27 ) all0 (lenOf pd__II_I rfl) rfl 4 rfl (by decide) hml.symm d25_24 (fun v28 T29 h30 vm31 _ w32 q33 C34 C35 X36 => ?_)
  obtain ⟨e38, f39⟩ := q33
  subst e38
  subst f39
  show Go _ _ _ _ _ (mkF _ _ _ [.int 9, .int 0, .ref a16, .int 0, .ref q0])
  have f40 := (CHr.safe C35 (f25.lt) s22)
  refine kCPA X36 (wd G 146 rfl) (wd G 98 rfl) (wd G 96 rfl) (wd G 97 rfl) f26 f25 (Or.inl ⟨rfl, rfl⟩) (us := [.int i0, .int i1, .int i2, .int 46, .int 108, .int 111, .int 119, .int 101, .int 114]) (by decide) rfl (by show 9 ≤ 9; decide) g20 f40 hml.symm d25_27 (by decide) 0 (Nat.le_of_eq rfl) (by decide) (fun T41 h42 L44 K45 C46 f47 X43 => ?_)
  have f48 : Arv Z h42 a16 k17 .byte 9 [.int i0, .int i1, .int i2, .int 46, .int 108, .int 111, .int 119, .int 101, .int 114] (.int 0) := f47
  refine kAL X43 d25_30 rfl rfl ?_
  have K49 : Keep h0 h42 [] := (Keep.trans (Keep.ext (Keep.refl h0 []) E18) K45 (allS (Or.inr g24) all0))
  have f50 := (CHr.safe C46 (f25.lt) f40)
  exact kRETA X43 (gEL G) hret rfl rfl d25_32 (fun ve hve => ⟨a16, k17, rfl, K49, g24, f48, (CHr.safe hve (f48.lt) f50)⟩) (by decide)
def R_rm182 : Room := { frames := 2, cells := 1, slots := 9, locals := 34 }
theorem rm182 (G : Glob Z a0 iCS vSI) (i0 i1 i2 : Int32) (q0 : Addr) (kp0 : ClassId) (h0 : Heap) (Z0 : n0 ≤ h0.size) (O0 : Old Z n0 h0) (A_q0 : Arv Z h0 q0 kp0 .byte 16 [.int i0, .int i1, .int i2, .int 46, .int 108, .int 111, .int 119, .int 101, .int 114, .int 0, .int 0, .int 0, .int 0, .int 0, .int 0, .int 0] (.int 0)) : MetH l Z EL0 n0 N_jdk_65_m_132 jdk_65_method_132_code 3 (some (.array (.byte))) [] R_rm182 #[.ref q0, .int 0, .int 9] h0 [] (fun vs v h ve => (∃ (x0 : Addr), ∃ (z0 : ClassId), v = some (.ref x0) ∧ (Keep h0 h []) ∧ (h0.size ≤ x0) ∧ (Arv Z h x0 z0 .byte 9 [.int i0, .int i1, .int i2, .int 46, .int 108, .int 111, .int 119, .int 101, .int 114] (.int 0)) ∧ (Safe Z EL0 ve h x0))) := by
  refine MetH.of #[.val (.ref q0), .val (.int 0), .val (.int 9)] (plainFor_of_name pn_java_util_Arrays) rfl Z0 (fun p e s m below meth c T0 hret hml hnm hSL hs0 X0 => ?_)
  refine kILn X0 d24_0 rfl ?_
  refine kIFf X0 d24_1 (XT.i0_ne_f (by decide)) ?_
  refine kILn X0 d24_4 rfl ?_
  refine kALn X0 d24_5 rfl rfl ?_
  refine kLEN X0 A_q0 d24_6 ?_
  refine kICf X0 d24_7 (XT.ii_eq_f (by decide)) ?_
  refine kALn X0 d24_10 rfl rfl ?_
  refine kILn X0 d24_11 rfl ?_
  refine kILn X0 d24_12 rfl ?_
  refine kSTAT X0 (gEL G) (argsL := [.ref q0, .int 0, .int 9]) (rest := []) (wd G 136 rfl) (wd G 137 rfl) (wd G 134 rfl) (wd G 138 rfl) (by decide) (rm183 G i0 i1 i2 q0 kp0 h0 X0.n O0 A_q0) all0 (lenOf pd___BII__B rfl) rfl 0 rfl (by decide) hml.symm d24_13 (fun v1 T2 h3 vm4 _ w5 q6 C7 C8 X9 => ?_)
  obtain ⟨a11, k12, e13, f14, f15, f16, f17⟩ := q6
  subst e13
  have n18 : q0 ≠ a11 := Nat.ne_of_lt (Nat.lt_of_lt_of_le (A_q0.lt) f15)
  have g19 : n0 ≤ a11 := Nat.le_trans X0.n f15
  have g20 : h0.size ≤ a11 := Nat.le_trans X0.g0 f15
  show Go _ _ _ _ _ (mkF _ _ _ [.ref a11])
  have K21 : Keep h0 h3 [] := (Keep.trans (Keep.refl h0 []) f14 all0)
  exact kRETA X9 (gEL G) hret rfl rfl d24_16 (fun ve hve => ⟨a11, k12, rfl, K21, g20, f16, (CHr.safe hve (f16.lt) f17)⟩) (by decide)
def R_rm177 : Room := { frames := 3, cells := 1, slots := 9, locals := 49 }
theorem rm177 (G : Glob Z a0 iCS vSI) (i0 i1 i2 : Int32) (q0 q1 q2 : Addr) (kp0 : ClassId) (h0 : Heap) (Z0 : n0 ≤ h0.size) (O0 : Old Z n0 h0) (F_q1_value : Fld Z h0 q1 "java/lang/AbstractStringBuilder" "value" "[B" (.ref q2)) (E_q1 : Exa Z h0 q1 "java/lang/StringBuilder") (F_q1_count : Fld Z h0 q1 "java/lang/AbstractStringBuilder" "count" "I" (.int 9)) (F_q1_coder : Fld Z h0 q1 "java/lang/AbstractStringBuilder" "coder" "B" (.int 0)) (F_q0_coder : Fld Z h0 q0 "java/lang/String" "coder" "B" (.int 0)) (E_q0 : Exa Z h0 q0 "java/lang/String") (F_q0_value : Fld Z h0 q0 "java/lang/String" "value" "[B" (.null)) (A_q2 : Arv Z h0 q2 kp0 .byte 16 [.int i0, .int i1, .int i2, .int 46, .int 108, .int 111, .int 119, .int 101, .int 114, .int 0, .int 0, .int 0, .int 0, .int 0, .int 0, .int 0] (.int 0)) (d_q2_q0 : q2 ≠ q0) (g_q0 : n0 ≤ q0) : MetH l Z EL0 n0 N_jdk_42_m_150 jdk_42_method_150_code 5 none [] R_rm177 #[.ref q0, .ref q1, .null] h0 [q0] (fun vs v h ve => (∃ (x0 : Addr), ∃ (z0 : ClassId), v = none ∧ (Keep h0 h [q0]) ∧ (h0.size ≤ x0) ∧ (Arv Z h x0 z0 .byte 9 [.int i0, .int i1, .int i2, .int 46, .int 108, .int 111, .int 119, .int 101, .int 114] (.int 0)) ∧ (Safe Z EL0 ve h x0) ∧ (Fld Z h q0 "java/lang/String" "coder" "B" (.int 0)) ∧ (Fld Z h q0 "java/lang/String" "value" "[B" (.ref x0)))) := by
  refine MetH.of #[.val (.ref q0), .val (.ref q1), .val .null, .unset, .unset] (plainFor_of_name pn_java_lang_String) rfl Z0 (fun p e s m below meth c T0 hret hml hnm hSL hs0 X0 => ?_)
  have S_q0 := hSL q0 (List.mem_of_getElem? (i := 0) rfl)
  refine kALn X0 d19_0 rfl rfl ?_
  refine kINIT X0 (wd G 11 rfl) (wd G 12 rfl) (wd G 13 rfl) hml.symm d19_1 (by decide) 0 (Nat.le_of_eq rfl) (by decide) (fun T1 X2 => ?_)
  refine kALn X2 d19_4 rfl rfl ?_
  refine kVIRT X2 (gEL G) (argsL := []) (rest := []) (wd G 114 rfl) (wd G 115 rfl) (own_nf X2.hZ (own_noface (wd G 77 rfl) rfl)) (wd G 117 rfl) (wd G 116 rfl) (wd G 44 rfl) (wd G 118 rfl) (by decide) E_q1 (rm178 G i0 i1 i2 q1 q2 kp0 h0 X2.n O0 F_q1_value) all0 (lenOf pd____B rfl) rfl 0 rfl (by decide) hml.symm d19_5 (fun v3 T4 h5 vm6 _ w7 q8 C9 C10 X11 => ?_)
  obtain ⟨e13, f14⟩ := q8
  subst e13
  subst f14
  show Go _ _ _ _ _ (mkF _ _ _ [.ref q2])
  refine kASn X11 #[.val (.ref q0), .val (.ref q1), .val .null, .val (.ref q2), .unset] d19_8 rfl rfl ?_
  refine kALn X11 d19_9 rfl rfl ?_
  refine kVIRT X11 (gEL G) (argsL := []) (rest := []) (wd G 119 rfl) (wd G 120 rfl) (own_nf X11.hZ (own_noface (wd G 77 rfl) rfl)) (wd G 122 rfl) (wd G 123 rfl) (wd G 36 rfl) (wd G 124 rfl) (by decide) E_q1 (rm179 G i0 i1 i2 q1 q2 kp0 h0 X11.n O0 F_q1_count E_q1) all0 (lenOf pd___I rfl) rfl 0 rfl (by decide) hml.symm d19_10 (fun v15 T16 h17 vm18 _ w19 q20 C21 C22 X23 => ?_)
  obtain ⟨e25, f26⟩ := q20
  subst e25
  subst f26
  show Go _ _ _ _ _ (mkF _ _ _ [.int 9])
  refine kIS X23 #[.val (.ref q0), .val (.ref q1), .val .null, .val (.ref q2), .val (.int 9)] d19_13 rfl ?_
  refine kALn X23 d19_15 rfl rfl ?_
  refine kVIRT X23 (gEL G) (argsL := []) (rest := []) (wd G 127 rfl) (wd G 128 rfl) (own_nf X23.hZ (own_noface (wd G 77 rfl) rfl)) (wd G 130 rfl) (wd G 129 rfl) (wd G 44 rfl) (wd G 131 rfl) (by decide) E_q1 (rm181 G i0 i1 i2 q1 q2 kp0 h0 X23.n O0 F_q1_coder) all0 (lenOf pd___Z rfl) rfl 0 rfl (by decide) hml.symm d19_16 (fun v27 T28 h29 vm30 _ w31 q32 C33 C34 X35 => ?_)
  obtain ⟨e37, f38⟩ := q32
  subst e37
  subst f38
  show Go _ _ _ _ _ (mkF _ _ _ [.int 1])
  refine kIFf X35 d19_19 (XT.i0_eq_f (by decide)) ?_
  refine kALn X35 d19_22 rfl rfl ?_
  refine kIC X35 0 d19_23 (by decide) ?_
  have f39 := (CHr.safe C34 (F_q0_value.lt) (CHr.safe C22 (F_q0_value.lt) (CHr.safe C10 (F_q0_value.lt) S_q0)))
  refine kPUTF X35 (wd G 26 rfl) Via.refl F_q0_coder E_q0 (Or.inr ⟨(wd G 27 rfl), rfl, hnm⟩) (wd G 2 rfl) (ty := .byte) (by decide) (by decide) (by decide) g_q0 f39 d19_24 (fun T40 h41 L44 W43 X42 => ?_)
  have f45 := Fld.same W43 F_q0_coder
  refine kALn X42 d19_27 rfl rfl ?_
  refine kALn X42 d19_28 rfl rfl ?_
  refine kIC X42 0 d19_29 (by decide) ?_
  refine kIL X42 d19_30 rfl ?_
  have f46 := (Arv.other A_q2 W43 d_q2_q0)
  have f47 := (Old.wr O0 W43 g_q0)
  refine kSTAT X42 (gEL G) (argsL := [.ref q2, .int 0, .int 9]) (rest := [.ref q0]) (wd G 132 rfl) (wd G 133 rfl) (wd G 134 rfl) (wd G 135 rfl) (by decide) (rm182 G i0 i1 i2 q2 kp0 h41 X42.n f47 f46) all0 (lenOf pd___BII__B rfl) rfl 1 rfl (by decide) hml.symm d19_32 (fun v48 T49 h50 vm51 _ w52 q53 C54 C55 X56 => ?_)
  obtain ⟨a58, k59, e60, f61, f62, f63, f64⟩ := q53
  subst e60
  have n65 : q0 ≠ a58 := Nat.ne_of_lt (Nat.lt_of_lt_of_le (f45.lt) f62)
  have f67 := (Exa.wr W43 E_q1)
  have n66 : q1 ≠ a58 := Nat.ne_of_lt (Nat.lt_of_lt_of_le (f67.lt) f62)
  have n68 : q2 ≠ a58 := Nat.ne_of_lt (Nat.lt_of_lt_of_le (f46.lt) f62)
  have g69 : n0 ≤ a58 := Nat.le_trans X42.n f62
  have g70 : h0.size ≤ a58 := Nat.le_trans X42.g0 f62
  show Go _ _ _ _ _ (mkF _ _ _ [.ref a58, .ref q0])
  have f71 := (Fld.keep (Fld.other W43 F_q0_value (Or.inr (slot_ne (Or.inr (wd G 29 rfl)) (Or.inr (wd G 27 rfl)) (by decide) (by decide : parseFieldDescriptor "[B" = some (.array (.byte))) (by decide : parseFieldDescriptor "B" = some .byte)))) f61 nin0)
  have f72 := (Exa.keep (Exa.wr W43 E_q0) f61)
  have f73 := (CHr.safe C55 (f45.lt) (Safe.wr W43 f39 X35.C.1 f39))
  refine kPUTF X56 (wd G 28 rfl) Via.refl f71 f72 (Or.inr ⟨(wd G 29 rfl), rfl, hnm⟩) (wd G 2 rfl) (ty := (.array (.byte))) (by decide) rfl rfl g_q0 f73 d19_35 (fun T74 h75 L78 W77 X76 => ?_)
  have f79 := Fld.same W77 f71
  refine kGOTO X76 97 d19_38 (by decide) ?_
  have K80 : Keep h0 h75 [q0] := (Keep.wr (Keep.trans (Keep.wr (Keep.refl h0 [q0]) W43 (Or.inl (List.mem_of_getElem? (i := 0) rfl))) f61 all0) W77 (Or.inl (List.mem_of_getElem? (i := 0) rfl)))
  have f81 := (Arv.other f63 W77 (Ne.symm n65))
  have f82 := (Safe.wr W77 f73 X56.C.1 f64)
  have f83 := (Fld.other W77 (Fld.keep f45 f61 nin0) (Or.inr (slot_ne (Or.inr (wd G 27 rfl)) (Or.inr (wd G 29 rfl)) (by decide) (by decide : parseFieldDescriptor "B" = some .byte) (by decide : parseFieldDescriptor "[B" = some (.array (.byte))))))
  exact kRETV X76 (gEL G) hret d19_97 (fun ve hve => ⟨a58, k59, rfl, K80, g70, f81, (CHr.safe hve (f81.lt) f82), f83, f79⟩) (by decide)
def R_rm176 : Room := { frames := 4, cells := 1, slots := 9, locals := 65 }
theorem rm176 (G : Glob Z a0 iCS vSI) (i0 i1 i2 : Int32) (q0 q1 q2 : Addr) (kp0 : ClassId) (h0 : Heap) (Z0 : n0 ≤ h0.size) (O0 : Old Z n0 h0) (F_q1_value : Fld Z h0 q1 "java/lang/AbstractStringBuilder" "value" "[B" (.ref q2)) (E_q1 : Exa Z h0 q1 "java/lang/StringBuilder") (F_q1_count : Fld Z h0 q1 "java/lang/AbstractStringBuilder" "count" "I" (.int 9)) (F_q1_coder : Fld Z h0 q1 "java/lang/AbstractStringBuilder" "coder" "B" (.int 0)) (F_q0_coder : Fld Z h0 q0 "java/lang/String" "coder" "B" (.int 0)) (E_q0 : Exa Z h0 q0 "java/lang/String") (F_q0_value : Fld Z h0 q0 "java/lang/String" "value" "[B" (.null)) (A_q2 : Arv Z h0 q2 kp0 .byte 16 [.int i0, .int i1, .int i2, .int 46, .int 108, .int 111, .int 119, .int 101, .int 114, .int 0, .int 0, .int 0, .int 0, .int 0, .int 0, .int 0] (.int 0)) (d_q2_q0 : q2 ≠ q0) (g_q0 : n0 ≤ q0) : MetH l Z EL0 n0 N_jdk_42_m_53 jdk_42_method_53_code 2 none [] R_rm176 #[.ref q0, .ref q1] h0 [q0] (fun vs v h ve => (∃ (x0 : Addr), ∃ (z0 : ClassId), v = none ∧ (Keep h0 h [q0]) ∧ (h0.size ≤ x0) ∧ (Arv Z h x0 z0 .byte 9 [.int i0, .int i1, .int i2, .int 46, .int 108, .int 111, .int 119, .int 101, .int 114] (.int 0)) ∧ (Safe Z EL0 ve h x0) ∧ (Fld Z h q0 "java/lang/String" "coder" "B" (.int 0)) ∧ (Fld Z h q0 "java/lang/String" "value" "[B" (.ref x0)))) := by
  refine MetH.of #[.val (.ref q0), .val (.ref q1)] (plainFor_of_name pn_java_lang_String) rfl Z0 (fun p e s m below meth c T0 hret hml hnm hSL hs0 X0 => ?_)
  have S_q0 := hSL q0 (List.mem_of_getElem? (i := 0) rfl)
  refine kALn X0 d18_0 rfl rfl ?_
  refine kALn X0 d18_1 rfl rfl ?_
  refine kNULL X0 d18_2 ?_
  refine kSPEC X0 (gEL G) (argsL := [.ref q1, .null]) (rest := []) (wd G 111 rfl) (wd G 112 rfl) (wd G 3 rfl) (wd G 113 rfl) rfl (by decide) (rm177 G i0 i1 i2 q0 q1 q2 kp0 h0 X0.n O0 F_q1_value E_q1 F_q1_count F_q1_coder F_q0_coder E_q0 F_q0_value A_q2 d_q2_q0 g_q0) (allS ⟨(E_q0.lt), S_q0⟩ all0) (lenOf pd__Ljava_lang_AbstractStringBuilder_Ljava_lang_Void__V rfl) rfl 0 rfl (by decide) hml.symm d18_3 (fun v1 T2 h3 vm4 _ w5 q6 C7 C8 X9 => ?_)
  obtain ⟨a11, k12, e13, f14, f15, f16, f17, f18, f19⟩ := q6
  subst e13
  have n20 : q0 ≠ a11 := Nat.ne_of_lt (Nat.lt_of_lt_of_le (E_q0.lt) f15)
  have n21 : q1 ≠ a11 := Nat.ne_of_lt (Nat.lt_of_lt_of_le (E_q1.lt) f15)
  have n22 : q2 ≠ a11 := Nat.ne_of_lt (Nat.lt_of_lt_of_le (A_q2.lt) f15)
  have g23 : n0 ≤ a11 := Nat.le_trans X0.n f15
  have g24 : h0.size ≤ a11 := Nat.le_trans X0.g0 f15
  show Go _ _ _ _ _ (mkF _ _ _ [])
  have K25 : Keep h0 h3 [q0] := (Keep.trans (Keep.refl h0 [q0]) f14 (allS (Or.inl (List.mem_of_getElem? (i := 0) rfl)) all0))
  exact kRETV X9 (gEL G) hret d18_6 (fun ve hve => ⟨a11, k12, rfl, K25, g24, f16, (CHr.safe hve (f16.lt) f17), f18, f19⟩) (by decide)
def R_rm175 : Room := { frames := 5, cells := 2, slots := 13, locals := 79 }
theorem rm175 (G : Glob Z a0 iCS vSI) (i0 i1 i2 : Int32) (q0 q1 : Addr) (kp0 : ClassId) (h0 : Heap) (Z0 : n0 ≤ h0.size) (O0 : Old Z n0 h0) (E_q0 : Exa Z h0 q0 "java/lang/StringBuilder") (A_q1 : Arv Z h0 q1 kp0 .byte 16 [.int i0, .int i1, .int i2, .int 46, .int 108, .int 111, .int 119, .int 101, .int 114, .int 0, .int 0, .int 0, .int 0, .int 0, .int 0, .int 0] (.int 0)) (F_q0_value : Fld Z h0 q0 "java/lang/AbstractStringBuilder" "value" "[B" (.ref q1)) (F_q0_count : Fld Z h0 q0 "java/lang/AbstractStringBuilder" "count" "I" (.int 9)) (F_q0_coder : Fld Z h0 q0 "java/lang/AbstractStringBuilder" "coder" "B" (.int 0)) : MetH l Z EL0 n0 N_jdk_67_m_42 jdk_67_method_42_code 1 (some (.object "java/lang/String")) [] R_rm175 #[.ref q0] h0 [] (fun vs v h ve => (∃ (x0 : Addr), ∃ (x1 : Addr), ∃ (z0 : ClassId), v = some (.ref x0) ∧ (Keep h0 h []) ∧ (h0.size ≤ x0) ∧ (h0.size ≤ x1) ∧ (x0 ≠ x1) ∧ (Exa Z h x0 "java/lang/String") ∧ (Fld Z h x0 "java/lang/String" "coder" "B" (.int 0)) ∧ (Fld Z h x0 "java/lang/String" "value" "[B" (.ref x1)) ∧ (Safe Z EL0 ve h x0) ∧ (Arv Z h x1 z0 .byte 9 [.int i0, .int i1, .int i2, .int 46, .int 108, .int 111, .int 119, .int 101, .int 114] (.int 0)) ∧ (Safe Z EL0 ve h x1))) := by
  refine MetH.of #[.val (.ref q0)] (plainFor_of_name pn_java_lang_StringBuilder) rfl Z0 (fun p e s m below meth c T0 hret hml hnm hSL hs0 X0 => ?_)
  refine kNEW X0 (wd G 107 rfl) (wd G 2 rfl) (wd G 3 rfl) d17_0 (by decide) (by decide) (fun T1 h2 a4 E5 q6 g7 A8 D9 s10 X3 => ?_)
  have n11 : q0 ≠ a4 := Nat.ne_of_lt (Nat.lt_of_lt_of_le (E_q0.lt) (Nat.le_of_eq q6.symm))
  have n12 : q1 ≠ a4 := Nat.ne_of_lt (Nat.lt_of_lt_of_le (A_q1.lt) (Nat.le_of_eq q6.symm))
  have g13 : h0.size ≤ a4 := q6 ▸ X0.g0
  have f14 : Fld Z h2 a4 "java/lang/String" "coder" "B" (.int 0) := D9 (Or.inr (wd G 27 rfl)) (ty := .byte) (by decide)
  have f15 : Fld Z h2 a4 "java/lang/String" "value" "[B" (.null) := D9 (Or.inr (wd G 29 rfl)) (ty := (.array (.byte))) (by decide)
  refine kDUP X3 d17_3 rfl ?_
  refine kALn X3 d17_4 rfl rfl ?_
  have f16 := (Fld.ext E5 F_q0_value)
  have f17 := (Exa.ext E5 E_q0)
  have f18 := (Fld.ext E5 F_q0_count)
  have f19 := (Fld.ext E5 F_q0_coder)
  have f20 := (Arv.ext A_q1 E5)
  have f21 := (Old.ext O0 E5)
  refine kSPEC X3 (gEL G) (argsL := [.ref q0]) (rest := [.ref a4]) (wd G 108 rfl) (wd G 109 rfl) (wd G 3 rfl) (wd G 110 rfl) rfl (by decide) (rm176 G i0 i1 i2 a4 q0 q1 kp0 h2 X3.n f21 f16 f17 f18 f19 f14 A8 f15 f20 n12 g7) (allS ⟨(A8.lt), s10⟩ all0) (lenOf pd__Ljava_lang_StringBuilder__V rfl) rfl 1 rfl (by decide) hml.symm d17_5 (fun v22 T23 h24 vm25 _ w26 q27 C28 C29 X30 => ?_)
  obtain ⟨a32, k33, e34, f35, f36, f37, f38, f39, f40⟩ := q27
  subst e34
  have n41 : q0 ≠ a32 := Nat.ne_of_lt (Nat.lt_of_lt_of_le (f17.lt) f36)
  have n42 : q1 ≠ a32 := Nat.ne_of_lt (Nat.lt_of_lt_of_le (f20.lt) f36)
  have n43 : a4 ≠ a32 := Nat.ne_of_lt (Nat.lt_of_lt_of_le (A8.lt) f36)
  have g44 : n0 ≤ a32 := Nat.le_trans X3.n f36
  have g45 : h0.size ≤ a32 := Nat.le_trans X3.g0 f36
  show Go _ _ _ _ _ (mkF _ _ _ [.ref a4])
  have K46 : Keep h0 h24 [] := (Keep.trans (Keep.ext (Keep.refl h0 []) E5) f35 (allS (Or.inr g13) all0))
  have f47 := (Exa.keep A8 f35)
  have f48 := (CHr.safe C29 (f14.lt) s10)
  exact kRETA X30 (gEL G) hret rfl rfl d17_8 (fun ve hve => ⟨a4, a32, k33, rfl, K46, g13, g45, n43, f47, f39, f40, (CHr.safe hve (f47.lt) f48), f37, (CHr.safe hve (f37.lt) f38)⟩) (by decide)
def R_rm160 : Room := { frames := 6, cells := 6, slots := 61, locals := 91 }
theorem rm160 (G : Glob Z a0 iCS vSI) (i0 i1 i2 : Int32) (q0 q1 : Addr) (kp0 : ClassId) (h0 : Heap) (Z0 : n0 ≤ h0.size) (O0 : Old Z n0 h0) (E_q0 : Exa Z h0 q0 "java/lang/String") (A_q1 : Arv Z h0 q1 kp0 .byte 3 [.int i0, .int i1, .int i2] (.int 0)) (F_q0_value : Fld Z h0 q0 "java/lang/String" "value" "[B" (.ref q1)) (F_q0_coder : Fld Z h0 q0 "java/lang/String" "coder" "B" (.int 0)) : MetH l Z EL0 n0 N_prog_3_m_8 prog_3_method_8_code 2 (some (.object "java/lang/String")) [] R_rm160 #[.ref q0, .int 0] h0 [q0, q1] (fun vs v h ve => (∃ (x0 : Addr), ∃ (x1 : Addr), ∃ (z0 : ClassId), v = some (.ref x0) ∧ (Keep h0 h []) ∧ (h0.size ≤ x0) ∧ (h0.size ≤ x1) ∧ (x0 ≠ x1) ∧ (Exa Z h x0 "java/lang/String") ∧ (Fld Z h x0 "java/lang/String" "coder" "B" (.int 0)) ∧ (Fld Z h x0 "java/lang/String" "value" "[B" (.ref x1)) ∧ (Safe Z EL0 ve h x0) ∧ (Arv Z h x1 z0 .byte 9 [.int i0, .int i1, .int i2, .int 46, .int 108, .int 111, .int 119, .int 101, .int 114] (.int 0)) ∧ (Safe Z EL0 ve h x1))) := by
  refine MetH.of #[.val (.ref q0), .val (.int 0)] (plainFor_of_name pn_com_example_tight_calculus_tightcalculus_Component) rfl Z0 (fun p e s m below meth c T0 hret hml hnm hSL hs0 X0 => ?_)
  have S_q0 := hSL q0 (List.mem_of_getElem? (i := 0) rfl)
  have S_q1 := hSL q1 (List.mem_of_getElem? (i := 1) rfl)
  refine kNEW X0 (wd G 34 rfl) (wd G 35 rfl) (wd G 36 rfl) d6_0 (by decide) (by decide) (fun T1 h2 a4 E5 q6 g7 A8 D9 s10 X3 => ?_)
  have n11 : q0 ≠ a4 := Nat.ne_of_lt (Nat.lt_of_lt_of_le (E_q0.lt) (Nat.le_of_eq q6.symm))
  have n12 : q1 ≠ a4 := Nat.ne_of_lt (Nat.lt_of_lt_of_le (A_q1.lt) (Nat.le_of_eq q6.symm))
  have g13 : h0.size ≤ a4 := q6 ▸ X0.g0
  have f14 : Fld Z h2 a4 "java/lang/AbstractStringBuilder" "value" "[B" (.null) := D9 (Or.inl (wd G 49 rfl)) (ty := (.array (.byte))) (by decide)
  have f15 : Fld Z h2 a4 "java/lang/AbstractStringBuilder" "coder" "B" (.int 0) := D9 (Or.inl (wd G 51 rfl)) (ty := .byte) (by decide)
  have f16 : Fld Z h2 a4 "java/lang/AbstractStringBuilder" "count" "I" (.int 0) := D9 (Or.inl (wd G 73 rfl)) (ty := .int) (by decide)
  refine kDUP X3 d6_3 rfl ?_
  have f17 := (Old.ext O0 E5)
  refine kSPEC X3 (gEL G) (argsL := []) (rest := [.ref a4]) (wd G 37 rfl) (wd G 38 rfl) (wd G 36 rfl) (wd G 39 rfl) rfl (by decide) (rm4 G a4 h2 X3.n f17 A8 f14 f15 f16 g7) all0 (lenOf pd___V rfl) rfl 1 rfl (by decide) hml.symm d6_4 (fun v18 T19 h20 vm21 _ w22 q23 C24 C25 X26 => ?_)
  obtain ⟨a28, k29, e30, f31, f32, f33, f34, f35, f36, f37⟩ := q23
  subst e30
  have f39 := (Exa.ext E5 E_q0)
  have n38 : q0 ≠ a28 := Nat.ne_of_lt (Nat.lt_of_lt_of_le (f39.lt) f32)
  have f41 := (Arv.ext A_q1 E5)
  have n40 : q1 ≠ a28 := Nat.ne_of_lt (Nat.lt_of_lt_of_le (f41.lt) f32)
  have n42 : a4 ≠ a28 := Nat.ne_of_lt (Nat.lt_of_lt_of_le (A8.lt) f32)
  have g43 : n0 ≤ a28 := Nat.le_trans X3.n f32
  have g44 : h0.size ≤ a28 := Nat.le_trans X3.g0 f32
  show Go _ _ _ _ _ (mkF _ _ _ [.ref a4])
  refine kALn X26 d6_7 rfl rfl ?_
  have f45 := (Fld.keep (Fld.ext E5 F_q0_value) f31 (ninS n11 nin0))
  have f46 := (Arv.keep f41 f31 (ninS n12 nin0))
  have f47 := (Fld.keep (Fld.ext E5 F_q0_coder) f31 (ninS n11 nin0))
  have f48 := (Exa.keep f39 f31)
  have f49 := (Exa.keep A8 f31)
  have f50 := (Old.keep f17 f31 (allS g7 all0))
  refine kVIRT X26 (gEL G) (argsL := [.ref q0]) (rest := []) (wd G 52 rfl) (wd G 53 rfl) (own_nf X26.hZ (own_noinst (wd G 35 rfl))) (wd G 55 rfl) (wd G 54 rfl) (wd G 36 rfl) (wd G 56 rfl) (by decide) f49 (rm161 G i0 i1 i2 a4 q0 a28 q1 k29 kp0 h20 X26.n f50 f45 f46 f47 f48 f36 f37 f33 f35 f49 n42 g7 g43) (allS ⟨(f33.lt), f34⟩ all0) (lenOf pd__Ljava_lang_String__Ljava_lang_StringBuilder_ rfl) rfl 0 rfl (by decide) hml.symm d6_8 (fun v51 T52 h53 vm54 _ w55 q56 C57 C58 X59 => ?_)
  obtain ⟨e61, f62, f63, f64, f65, f66⟩ := q56
  subst e61
  show Go _ _ _ _ _ (mkF _ _ _ [.ref a4])
  refine kILn X59 d6_11 rfl ?_
  refine kIFt X59 20 d6_12 (XT.i0_eq_t (by decide)) (by decide) ?_
  refine kLDCT X59 (gEL G) (wd G 99 rfl) (gSA G) (by decide) (text := ".lower") (vs := [.int 46, .int 108, .int 111, .int 119, .int 101, .int 114]) (z := 6) (by decide) (by decide) (by decide) d6_20 (n := 24) (by decide) (by decide) (by decide) (by decide) (fun T67 h68 vm70 a71 b72 k73 E74 C75 f76 f77 f78 f79 n80 X69 => ?_)
  have f81 := (CHr.safe C75 ((Exa.keep f48 f62)).lt (CHr.safe C58 (f48.lt) (CHr.safe C25 (f39.lt) (Safe.ext E5 X0.C.1 S_q0))))
  have n82 := (n80 q0 f81).1
  have n83 := (n80 q0 f81).2
  have f84 := (CHr.safe C75 ((Arv.keep f46 f62 (ninS n40 (ninS n12 nin0)))).lt (CHr.safe C58 (f46.lt) (CHr.safe C25 (f41.lt) (Safe.ext E5 X0.C.1 S_q1))))
  have n85 := (n80 q1 f84).1
  have n86 := (n80 q1 f84).2
  have f87 := (Exa.ext E74 (Exa.keep f49 f62))
  have n88 := (n80 a4 (Safe.exa X69.hZ.alike f87 (by decide) (by decide))).1
  have n89 := (n80 a4 (Safe.exa X69.hZ.alike f87 (by decide) (by decide))).2
  have f90 := (CHr.safe C75 (f63.lt) (CHr.safe C58 (f33.lt) f34))
  have n91 := (n80 a28 f90).1
  have n92 := (n80 a28 f90).2
  have n93 : ∀ x, x < h0.size → Safe Z EL0 s.vm h0 x → x ≠ b72 := fun x hx S => (n80 x (CHr.safe (hs0 ▸ X69.C) hx S)).2
  have f94 := (Fld.ext E74 f65)
  have f95 := (Fld.ext E74 f66)
  have f96 := (Arv.ext f63 E74)
  have f97 := (Fld.ext E74 f64)
  have f98 := (Old.ext (Old.keep f50 f62 (allS g43 (allS g7 all0))) E74)
  refine kVIRT X69 (gEL G) (argsL := [.ref a71]) (rest := []) (wd G 52 rfl) (wd G 53 rfl) (own_nf X69.hZ (own_noinst (wd G 35 rfl))) (wd G 55 rfl) (wd G 54 rfl) (wd G 36 rfl) (wd G 56 rfl) (by decide) f87 (rm169 G i0 i1 i2 a4 a71 a28 b72 k29 k73 h68 X69.n f98 f78 f79 f77 f76 f94 f95 f96 f97 f87 n42 g7 g43) (allS ⟨(f96.lt), f90⟩ all0) (lenOf pd__Ljava_lang_String__Ljava_lang_StringBuilder_ rfl) rfl 0 rfl (by decide) hml.symm d6_22 (fun v99 T100 h101 vm102 _ w103 q104 C105 C106 X107 => ?_)
  obtain ⟨e109, f110, f111, f112, f113, f114⟩ := q104
  subst e109
  show Go _ _ _ _ _ (mkF _ _ _ [.ref a4])
  have f115 := (Exa.keep f87 f110)
  have f116 := (Old.keep f98 f110 (allS g43 (allS g7 all0)))
  refine kVIRT X107 (gEL G) (argsL := []) (rest := []) (wd G 102 rfl) (wd G 103 rfl) (own_nf X107.hZ (own_noinst (wd G 35 rfl))) (wd G 105 rfl) (wd G 104 rfl) (wd G 36 rfl) (wd G 106 rfl) (by decide) f115 (rm175 G i0 i1 i2 a4 a28 k29 h101 X107.n f116 f115 f111 f114 f113 f112) all0 (lenOf pd___Ljava_lang_String_ rfl) rfl 0 rfl (by decide) hml.symm d6_25 (fun v117 T118 h119 vm120 _ w121 q122 C123 C124 X125 => ?_)
  obtain ⟨a127, a128, k129, e130, f131, f132, f133, f134, f135, f136, f137, f138, f139, f140⟩ := q122
  subst e130
  have f142 := (Exa.keep (Exa.ext E74 (Exa.keep f48 f62)) f110)
  have n141 : q0 ≠ a127 := Nat.ne_of_lt (Nat.lt_of_lt_of_le (f142.lt) f132)
  have f144 := (Arv.keep (Arv.ext (Arv.keep f46 f62 (ninS n40 (ninS n12 nin0))) E74) f110 (ninS n40 (ninS n12 nin0)))
  have n143 : q1 ≠ a127 := Nat.ne_of_lt (Nat.lt_of_lt_of_le (f144.lt) f132)
  have n145 : a4 ≠ a127 := Nat.ne_of_lt (Nat.lt_of_lt_of_le (f115.lt) f132)
  have n146 : a28 ≠ a127 := Nat.ne_of_lt (Nat.lt_of_lt_of_le (f111.lt) f132)
  have f148 := (Exa.keep f76 f110)
  have n147 : a71 ≠ a127 := Nat.ne_of_lt (Nat.lt_of_lt_of_le (f148.lt) f132)
  have f150 := (Arv.keep f79 f110 (ninS (Ne.symm n92) (ninS (Ne.symm n89) nin0)))
  have n149 : b72 ≠ a127 := Nat.ne_of_lt (Nat.lt_of_lt_of_le (f150.lt) f132)
  have n151 : q0 ≠ a128 := Nat.ne_of_lt (Nat.lt_of_lt_of_le (f142.lt) f133)
  have n152 : q1 ≠ a128 := Nat.ne_of_lt (Nat.lt_of_lt_of_le (f144.lt) f133)
  have n153 : a4 ≠ a128 := Nat.ne_of_lt (Nat.lt_of_lt_of_le (f115.lt) f133)
  have n154 : a28 ≠ a128 := Nat.ne_of_lt (Nat.lt_of_lt_of_le (f111.lt) f133)
  have n155 : a71 ≠ a128 := Nat.ne_of_lt (Nat.lt_of_lt_of_le (f148.lt) f133)
  have n156 : b72 ≠ a128 := Nat.ne_of_lt (Nat.lt_of_lt_of_le (f150.lt) f133)
  have g157 : n0 ≤ a127 := Nat.le_trans X107.n f132
  have g158 : h0.size ≤ a127 := Nat.le_trans X107.g0 f132
  have g159 : n0 ≤ a128 := Nat.le_trans X107.n f133
  have g160 : h0.size ≤ a128 := Nat.le_trans X107.g0 f133
  show Go _ _ _ _ _ (mkF _ _ _ [.ref a127])
  have K161 : Keep h0 h119 [] := (Keep.trans (Keep.trans (Keep.ext (Keep.trans (Keep.trans (Keep.ext (Keep.refl h0 []) E5) f31 (allS (Or.inr g13) all0)) f62 (allS (Or.inr g44) (allS (Or.inr g13) all0))) E74) f110 (allS (Or.inr g44) (allS (Or.inr g13) all0))) f131 all0)
  exact kRETA X125 (gEL G) hret rfl rfl d6_28 (fun ve hve => ⟨a127, a128, k129, rfl, K161, g158, g160, f134, f135, f136, f137, (CHr.safe hve (f135.lt) f138), f139, (CHr.safe hve (f139.lt) f140)⟩) (by decide)
def R_rm187 : Room := { frames := 0, cells := 0, slots := 0, locals := 0 }
theorem rm187 (G : Glob Z a0 iCS vSI) (i0 i1 i2 : Int32) (q0 q1 : Addr) (kp0 : ClassId) (h0 : Heap) (Z0 : n0 ≤ h0.size) (O0 : Old Z n0 h0) (F_q0_coder : Fld Z h0 q0 "java/lang/String" "coder" "B" (.int 0)) : MetH l Z EL0 n0 N_jdk_42_m_152 jdk_42_method_152_code 1 (some .byte) [] R_rm187 #[.ref q0] h0 [] (fun vs v h ve => (v = some (.int 0) ∧ (h0 = h))) := by
  refine MetH.of #[.val (.ref q0)] (plainFor_of_name pn_java_lang_String) rfl Z0 (fun p e s m below meth c T0 hret hml hnm hSL hs0 X0 => ?_)
  refine kGETS X0 (wd G 14 rfl) Via.refl (Sta.ext O0.2 (S_CS G)) d12_0 (fun T1 X2 => ?_)
  refine kIFf X2 d12_3 (XT.i0_eq_f (n_CS G)) ?_
  refine kALn X2 d12_6 rfl rfl ?_
  refine kGETF X2 (wd G 26 rfl) Via.refl F_q0_coder d12_7 (fun T3 X4 => ?_)
  refine kGOTO X4 14 d12_10 (by decide) ?_
  exact kRETZ X4 (gEL G) (t := .byte) hret (by simp) d12_14 (fun ve hve => ⟨rfl, rfl⟩) (by decide)
def R_rm186 : Room := { frames := 1, cells := 0, slots := 0, locals := 13 }
theorem rm186 (G : Glob Z a0 iCS vSI) (i0 i1 i2 : Int32) (q0 q1 : Addr) (kp0 : ClassId) (h0 : Heap) (Z0 : n0 ≤ h0.size) (O0 : Old Z n0 h0) (F_q0_value : Fld Z h0 q0 "java/lang/String" "value" "[B" (.ref q1)) (A_q1 : Arv Z h0 q1 kp0 .byte 9 [.int i0, .int i1, .int i2, .int 46, .int 108, .int 111, .int 119, .int 101, .int 114] (.int 0)) (F_q0_coder : Fld Z h0 q0 "java/lang/String" "coder" "B" (.int 0)) (E_q0 : Exa Z h0 q0 "java/lang/String") : MetH l Z EL0 n0 N_jdk_42_m_54 jdk_42_method_54_code 1 (some .int) [] R_rm186 #[.ref q0] h0 [] (fun vs v h ve => (v = some (.int 9) ∧ (h0 = h))) := by
  refine MetH.of #[.val (.ref q0)] (plainFor_of_name pn_java_lang_String) rfl Z0 (fun p e s m below meth c T0 hret hml hnm hSL hs0 X0 => ?_)
  refine kALn X0 d11_0 rfl rfl ?_
  refine kGETF X0 (wd G 28 rfl) Via.refl F_q0_value d11_1 (fun T1 X2 => ?_)
  refine kLEN X2 A_q1 d11_4 ?_
  refine kALn X2 d11_5 rfl rfl ?_
  refine kVIRT X2 (gEL G) (argsL := []) (rest := [.int 9]) (wd G 67 rfl) (wd G 68 rfl) (own_nf X2.hZ (own_noinst (wd G 2 rfl))) (wd G 70 rfl) (wd G 69 rfl) (wd G 3 rfl) (wd G 71 rfl) (by decide) E_q0 (rm187 G i0 i1 i2 q0 q1 kp0 h0 X2.n O0 F_q0_coder) all0 (lenOf pd___B rfl) rfl 1 rfl (by decide) hml.symm d11_6 (fun v3 T4 h5 vm6 _ w7 q8 C9 C10 X11 => ?_)
  obtain ⟨e13, f14⟩ := q8
  subst e13
  subst f14
  show Go _ _ _ _ _ (mkF _ _ _ [.int 0, .int 9])
  refine kISHR X11 9 d11_9 (by decide) ?_
  exact kRETI X11 (gEL G) hret d11_10 (fun ve hve => ⟨rfl, rfl⟩) (by decide)
def R_rm192 : Room := { frames := 1, cells := 0, slots := 0, locals := 13 }
theorem rm192 (G : Glob Z a0 iCS vSI) (i0 i1 i2 : Int32) (q0 q1 q2 q3 : Addr) (kp0 kp1 : ClassId) (h0 : Heap) (Z0 : n0 ≤ h0.size) (O0 : Old Z n0 h0) (F_q0_coder : Fld Z h0 q0 "java/lang/AbstractStringBuilder" "coder" "B" (.int 0)) (F_q1_coder : Fld Z h0 q1 "java/lang/String" "coder" "B" (.int 0)) (E_q1 : Exa Z h0 q1 "java/lang/String") : MetH l Z EL0 n0 N_jdk_68_m_71 jdk_68_method_71_code 2 none [] R_rm192 #[.ref q0, .ref q1] h0 [] (fun vs v h ve => (v = none ∧ (h0 = h))) := by
  refine MetH.of #[.val (.ref q0), .val (.ref q1)] (plainFor_of_name pn_java_lang_AbstractStringBuilder) rfl Z0 (fun p e s m below meth c T0 hret hml hnm hSL hs0 X0 => ?_)
  refine kGETS X0 (wd G 47 rfl) Via.refl (Sta.ext O0.2 (S_CS G)) d15_0 (fun T1 X2 => ?_)
  refine kIFf X2 d15_3 (XT.i0_eq_f (n_CS G)) ?_
  refine kALn X2 d15_6 rfl rfl ?_
  refine kGETF X2 (wd G 50 rfl) Via.refl F_q0_coder d15_7 (fun T3 X4 => ?_)
  refine kALn X4 d15_10 rfl rfl ?_
  refine kVIRT X4 (gEL G) (argsL := []) (rest := [.int 0]) (wd G 89 rfl) (wd G 68 rfl) (own_nf X4.hZ (own_noinst (wd G 2 rfl))) (wd G 70 rfl) (wd G 69 rfl) (wd G 3 rfl) (wd G 71 rfl) (by decide) E_q1 (rm40 G q1 q3 kp1 h0 X4.n O0 F_q1_coder) all0 (lenOf pd___B rfl) rfl 1 rfl (by decide) hml.symm d15_11 (fun v5 T6 h7 vm8 _ w9 q10 C11 C12 X13 => ?_)
  obtain ⟨e15, f16⟩ := q10
  subst e15
  subst f16
  show Go _ _ _ _ _ (mkF _ _ _ [.int 0, .int 0])
  refine kICt X13 21 d15_14 (XT.ii_eq_t (by decide)) (by decide) ?_
  exact kRETV X13 (gEL G) hret d15_21 (fun ve hve => ⟨rfl, rfl⟩) (by decide)
def R_rm193 : Room := { frames := 1, cells := 0, slots := 0, locals := 18 }
theorem rm193 (G : Glob Z a0 iCS vSI) (i0 i1 i2 : Int32) (q0 q1 q2 : Addr) (kp0 kp1 : ClassId) (h0 : Heap) (Z0 : n0 ≤ h0.size) (O0 : Old Z n0 h0) (F_q0_coder : Fld Z h0 q0 "java/lang/String" "coder" "B" (.int 0)) (E_q0 : Exa Z h0 q0 "java/lang/String") (F_q0_value : Fld Z h0 q0 "java/lang/String" "value" "[B" (.ref q2)) (A_q2 : Arv Z h0 q2 kp1 .byte 6 [.int 46, .int 117, .int 112, .int 112, .int 101, .int 114] (.int 0)) (A_q1 : Arv Z h0 q1 kp0 .byte 16 [.int i0, .int i1, .int i2, .int 0, .int 0, .int 0, .int 0, .int 0, .int 0, .int 0, .int 0, .int 0, .int 0, .int 0, .int 0, .int 0] (.int 0)) (g_q1 : n0 ≤ q1) : MetH l Z EL0 n0 N_jdk_42_m_147 jdk_42_method_147_code 4 none [] R_rm193 #[.ref q0, .ref q1, .int 3, .int 0] h0 [q1] (fun vs v h ve => (v = none ∧ (Keep h0 h [q1]) ∧ (Arv Z h q1 kp0 .byte 16 [.int i0, .int i1, .int i2, .int 46, .int 117, .int 112, .int 112, .int 101, .int 114, .int 0, .int 0, .int 0, .int 0, .int 0, .int 0, .int 0] (.int 0)))) := by
  refine MetH.of #[.val (.ref q0), .val (.ref q1), .val (.int 3), .val (.int 0)] (plainFor_of_name pn_java_lang_String) rfl Z0 (fun p e s m below meth c T0 hret hml hnm hSL hs0 X0 => ?_)
  have S_q1 := hSL q1 (List.mem_of_getElem? (i := 0) rfl)
  refine kALn X0 d16_0 rfl rfl ?_
  refine kVIRT X0 (gEL G) (argsL := []) (rest := []) (wd G 67 rfl) (wd G 68 rfl) (own_nf X0.hZ (own_noinst (wd G 2 rfl))) (wd G 70 rfl) (wd G 69 rfl) (wd G 3 rfl) (wd G 71 rfl) (by decide) E_q0 (rm40 G q0 q2 kp1 h0 X0.n O0 F_q0_coder) all0 (lenOf pd___B rfl) rfl 0 rfl (by decide) hml.symm d16_1 (fun v1 T2 h3 vm4 _ w5 q6 C7 C8 X9 => ?_)
  obtain ⟨e11, f12⟩ := q6
  subst e11
  subst f12
  show Go _ _ _ _ _ (mkF _ _ _ [.int 0])
  refine kILn X9 d16_4 rfl ?_
  refine kICf X9 d16_5 (XT.ii_ne_f (by decide)) ?_
  refine kALn X9 d16_8 rfl rfl ?_
  refine kGETF X9 (wd G 28 rfl) Via.refl F_q0_value d16_9 (fun T13 X14 => ?_)
  refine kIC X14 0 d16_12 (by decide) ?_
  refine kALn X14 d16_13 rfl rfl ?_
  refine kILn X14 d16_14 rfl ?_
  refine kILn X14 d16_15 rfl ?_
  refine kISHL X14 3 d16_16 (by decide) ?_
  refine kALn X14 d16_17 rfl rfl ?_
  refine kGETF X14 (wd G 28 rfl) Via.refl F_q0_value d16_18 (fun T15 X16 => ?_)
  refine kLEN X16 A_q2 d16_21 ?_
  have f17 := (CHr.safe C8 (A_q1.lt) S_q1)
  refine kCPA X16 (wd G 95 rfl) (wd G 98 rfl) (wd G 96 rfl) (wd G 97 rfl) A_q2 A_q1 (Or.inl ⟨rfl, rfl⟩) (us := [.int 46, .int 117, .int 112, .int 112, .int 101, .int 114]) (by decide) rfl (by show 9 ≤ 16; decide) g_q1 f17 hml.symm d16_22 (by decide) 0 (Nat.le_of_eq rfl) (by decide) (fun T18 h19 L21 K22 C23 f24 X20 => ?_)
  have f25 : Arv Z h19 q1 kp0 .byte 16 [.int i0, .int i1, .int i2, .int 46, .int 117, .int 112, .int 112, .int 101, .int 114, .int 0, .int 0, .int 0, .int 0, .int 0, .int 0, .int 0] (.int 0) := f24
  refine kGOTO X20 43 d16_25 (by decide) ?_
  have K26 : Keep h0 h19 [q1] := (Keep.trans (Keep.refl h0 [q1]) K22 (allS (Or.inl (List.mem_of_getElem? (i := 0) rfl)) all0))
  exact kRETV X20 (gEL G) hret d16_43 (fun ve hve => ⟨rfl, K26, f25⟩) (by decide)
def R_rm191 : Room := { frames := 2, cells := 0, slots := 0, locals := 33 }
theorem rm191 (G : Glob Z a0 iCS vSI) (i0 i1 i2 : Int32) (q0 q1 q2 q3 : Addr) (kp0 kp1 : ClassId) (h0 : Heap) (Z0 : n0 ≤ h0.size) (O0 : Old Z n0 h0) (F_q0_coder : Fld Z h0 q0 "java/lang/AbstractStringBuilder" "coder" "B" (.int 0)) (F_q1_coder : Fld Z h0 q1 "java/lang/String" "coder" "B" (.int 0)) (E_q1 : Exa Z h0 q1 "java/lang/String") (E_q0 : Exa Z h0 q0 "java/lang/StringBuilder") (F_q0_value : Fld Z h0 q0 "java/lang/AbstractStringBuilder" "value" "[B" (.ref q2)) (F_q1_value : Fld Z h0 q1 "java/lang/String" "value" "[B" (.ref q3)) (A_q3 : Arv Z h0 q3 kp1 .byte 6 [.int 46, .int 117, .int 112, .int 112, .int 101, .int 114] (.int 0)) (A_q2 : Arv Z h0 q2 kp0 .byte 16 [.int i0, .int i1, .int i2, .int 0, .int 0, .int 0, .int 0, .int 0, .int 0, .int 0, .int 0, .int 0, .int 0, .int 0, .int 0, .int 0] (.int 0)) (g_q2 : n0 ≤ q2) : MetH l Z EL0 n0 N_jdk_68_m_73 jdk_68_method_73_code 3 none [] R_rm191 #[.ref q0, .int 3, .ref q1] h0 [q2] (fun vs v h ve => (v = none ∧ (Keep h0 h [q2]) ∧ (Arv Z h q2 kp0 .byte 16 [.int i0, .int i1, .int i2, .int 46, .int 117, .int 112, .int 112, .int 101, .int 114, .int 0, .int 0, .int 0, .int 0, .int 0, .int 0, .int 0] (.int 0)))) := by
  refine MetH.of #[.val (.ref q0), .val (.int 3), .val (.ref q1)] (plainFor_of_name pn_java_lang_AbstractStringBuilder) rfl Z0 (fun p e s m below meth c T0 hret hml hnm hSL hs0 X0 => ?_)
  have S_q2 := hSL q2 (List.mem_of_getElem? (i := 0) rfl)
  refine kALn X0 d14_0 rfl rfl ?_
  refine kALn X0 d14_1 rfl rfl ?_
  refine kVIRT X0 (gEL G) (argsL := [.ref q1]) (rest := []) (wd G 84 rfl) (own_decl (wd G 85 rfl) (wd G 88 rfl)) (own_nf X0.hZ (own_noface (wd G 77 rfl) rfl)) (wd G 87 rfl) (wd G 85 rfl) (wd G 44 rfl) (wd G 88 rfl) (by decide) E_q0 (rm192 G i0 i1 i2 q0 q1 q2 q3 kp0 kp1 h0 X0.n O0 F_q0_coder F_q1_coder E_q1) all0 (lenOf pd__Ljava_lang_String__V rfl) rfl 0 rfl (by decide) hml.symm d14_2 (fun v1 T2 h3 vm4 _ w5 q6 C7 C8 X9 => ?_)
  obtain ⟨e11, f12⟩ := q6
  subst e11
  subst f12
  show Go _ _ _ _ _ (mkF _ _ _ [])
  refine kALn X9 d14_5 rfl rfl ?_
  refine kALn X9 d14_6 rfl rfl ?_
  refine kGETF X9 (wd G 48 rfl) Via.refl F_q0_value d14_7 (fun T13 X14 => ?_)
  refine kILn X14 d14_10 rfl ?_
  refine kALn X14 d14_11 rfl rfl ?_
  refine kGETF X14 (wd G 50 rfl) Via.refl F_q0_coder d14_12 (fun T15 X16 => ?_)
  have f26 := (CHr.safe C8 (A_q2.lt) S_q2)
  refine kVIRT X16 (gEL G) (argsL := [.ref q2, .int 3, .int 0]) (rest := []) (wd G 90 rfl) (wd G 91 rfl) (own_nf X16.hZ (own_noinst (wd G 2 rfl))) (wd G 93 rfl) (wd G 92 rfl) (wd G 3 rfl) (wd G 94 rfl) (by decide) E_q1 (rm193 G i0 i1 i2 q1 q2 q3 kp0 kp1 h0 X16.n O0 F_q1_coder E_q1 F_q1_value A_q3 A_q2 g_q2) (allS ⟨(A_q2.lt), f26⟩ all0) (lenOf pd___BIB_V rfl) rfl 0 rfl (by decide) hml.symm d14_15 (fun v17 T18 h19 vm20 _ w21 q22 C23 C24 X25 => ?_)
  obtain ⟨e28, f29, f30⟩ := q22
  subst e28
  show Go _ _ _ _ _ (mkF _ _ _ [])
  have K31 : Keep h0 h19 [q2] := (Keep.trans (Keep.refl h0 [q2]) f29 (allS (Or.inl (List.mem_of_getElem? (i := 0) rfl)) all0))
  exact kRETV X25 (gEL G) hret d14_18 (fun ve hve => ⟨rfl, K31, f30⟩) (by decide)
def R_rm190 : Room := { frames := 3, cells := 0, slots := 0, locals := 47 }
theorem rm190 (G : Glob Z a0 iCS vSI) (i0 i1 i2 : Int32) (q0 q1 q2 q3 : Addr) (kp0 kp1 : ClassId) (h0 : Heap) (Z0 : n0 ≤ h0.size) (O0 : Old Z n0 h0) (F_q1_value : Fld Z h0 q1 "java/lang/String" "value" "[B" (.ref q3)) (A_q3 : Arv Z h0 q3 kp1 .byte 6 [.int 46, .int 117, .int 112, .int 112, .int 101, .int 114] (.int 0)) (F_q1_coder : Fld Z h0 q1 "java/lang/String" "coder" "B" (.int 0)) (E_q1 : Exa Z h0 q1 "java/lang/String") (F_q0_count : Fld Z h0 q0 "java/lang/AbstractStringBuilder" "count" "I" (.int 3)) (F_q0_value : Fld Z h0 q0 "java/lang/AbstractStringBuilder" "value" "[B" (.ref q2)) (A_q2 : Arv Z h0 q2 kp0 .byte 16 [.int i0, .int i1, .int i2, .int 0, .int 0, .int 0, .int 0, .int 0, .int 0, .int 0, .int 0, .int 0, .int 0, .int 0, .int 0, .int 0] (.int 0)) (F_q0_coder : Fld Z h0 q0 "java/lang/AbstractStringBuilder" "coder" "B" (.int 0)) (E_q0 : Exa Z h0 q0 "java/lang/StringBuilder") (d_q0_q2 : q0 ≠ q2) (g_q0 : n0 ≤ q0) (g_q2 : n0 ≤ q2) : MetH l Z EL0 n0 N_jdk_68_m_22 jdk_68_method_22_code 3 (some (.object "java/lang/AbstractStringBuilder")) [] R_rm190 #[.ref q0, .ref q1] h0 [q2] (fun vs v h ve => (v = some (.ref q0) ∧ (Keep h0 h [q2, q0]) ∧ (Arv Z h q2 kp0 .byte 16 [.int i0, .int i1, .int i2, .int 46, .int 117, .int 112, .int 112, .int 101, .int 114, .int 0, .int 0, .int 0, .int 0, .int 0, .int 0, .int 0] (.int 0)) ∧ (Fld Z h q0 "java/lang/AbstractStringBuilder" "coder" "B" (.int 0)) ∧ (Fld Z h q0 "java/lang/AbstractStringBuilder" "count" "I" (.int 9)) ∧ (Fld Z h q0 "java/lang/AbstractStringBuilder" "value" "[B" (.ref q2)))) := by
  refine MetH.of #[.val (.ref q0), .val (.ref q1), .unset] (plainFor_of_name pn_java_lang_AbstractStringBuilder) rfl Z0 (fun p e s m below meth c T0 hret hml hnm hSL hs0 X0 => ?_)
  have S_q2 := hSL q2 (List.mem_of_getElem? (i := 0) rfl)
  refine kALn X0 d10_0 rfl rfl ?_
  refine kNNt X0 9 d10_1 (by decide) ?_
  refine kALn X0 d10_9 rfl rfl ?_
  refine kVIRT X0 (gEL G) (argsL := []) (rest := []) (wd G 62 rfl) (wd G 63 rfl) (own_nf X0.hZ (own_noinst (wd G 2 rfl))) (wd G 65 rfl) (wd G 64 rfl) (wd G 3 rfl) (wd G 66 rfl) (by decide) E_q1 (rm39 G q1 q3 kp1 h0 X0.n O0 F_q1_value A_q3 F_q1_coder E_q1) all0 (lenOf pd___I rfl) rfl 0 rfl (by decide) hml.symm d10_10 (fun v1 T2 h3 vm4 _ w5 q6 C7 C8 X9 => ?_)
  obtain ⟨e11, f12⟩ := q6
  subst e11
  subst f12
  show Go _ _ _ _ _ (mkF _ _ _ [.int 6])
  refine kISn X9 #[.val (.ref q0), .val (.ref q1), .val (.int 6)] d10_13 rfl ?_
  refine kALn X9 d10_14 rfl rfl ?_
  refine kALn X9 d10_15 rfl rfl ?_
  refine kGETF X9 (wd G 72 rfl) Via.refl F_q0_count d10_16 (fun T13 X14 => ?_)
  refine kILn X14 d10_19 rfl ?_
  refine kIADD X14 9 d10_20 (by decide) ?_
  refine kVIRT X14 (gEL G) (argsL := [.int 9]) (rest := []) (wd G 74 rfl) (own_decl (wd G 75 rfl) (wd G 78 rfl)) (own_nf X14.hZ (own_noface (wd G 77 rfl) rfl)) (wd G 77 rfl) (wd G 75 rfl) (wd G 44 rfl) (wd G 78 rfl) (by decide) E_q0 (rm171 G i0 i1 i2 q0 q2 kp0 h0 X14.n O0 F_q0_value A_q2 F_q0_coder) all0 (lenOf pd__I_V rfl) rfl 0 rfl (by decide) hml.symm d10_21 (fun v15 T16 h17 vm18 _ w19 q20 C21 C22 X23 => ?_)
  obtain ⟨e25, f26⟩ := q20
  subst e25
  subst f26
  show Go _ _ _ _ _ (mkF _ _ _ [])
  refine kALn X23 d10_24 rfl rfl ?_
  refine kALn X23 d10_25 rfl rfl ?_
  refine kGETF X23 (wd G 72 rfl) Via.refl F_q0_count d10_26 (fun T27 X28 => ?_)
  refine kALn X28 d10_29 rfl rfl ?_
  have f38 := (CHr.safe C22 (A_q2.lt) (CHr.safe C8 (A_q2.lt) S_q2))
  refine kVIRT X28 (gEL G) (argsL := [.int 3, .ref q1]) (rest := []) (wd G 79 rfl) (own_decl (wd G 80 rfl) (wd G 83 rfl)) (own_nf X28.hZ (own_noface (wd G 77 rfl) rfl)) (wd G 82 rfl) (wd G 80 rfl) (wd G 44 rfl) (wd G 83 rfl) (by decide) E_q0 (rm191 G i0 i1 i2 q0 q1 q2 q3 kp0 kp1 h0 X28.n O0 F_q0_coder F_q1_coder E_q1 E_q0 F_q0_value F_q1_value A_q3 A_q2 g_q2) (allS ⟨(A_q2.lt), f38⟩ all0) (lenOf pd__ILjava_lang_String__V rfl) rfl 0 rfl (by decide) hml.symm d10_30 (fun v29 T30 h31 vm32 _ w33 q34 C35 C36 X37 => ?_)
  obtain ⟨e40, f41, f42⟩ := q34
  subst e40
  show Go _ _ _ _ _ (mkF _ _ _ [])
  refine kALn X37 d10_33 rfl rfl ?_
  refine kDUP X37 d10_34 rfl ?_
  have f43 := (Fld.keep F_q0_count f41 (ninS d_q0_q2 nin0))
  refine kGETF X37 (wd G 72 rfl) Via.refl f43 d10_35 (fun T44 X45 => ?_)
  refine kILn X45 d10_38 rfl ?_
  refine kIADD X45 9 d10_39 (by decide) ?_
  have f46 := (Exa.keep E_q0 f41)
  refine kPUTF X45 (wd G 72 rfl) Via.refl f43 f46 (Or.inl (wd G 73 rfl)) (wd G 35 rfl) (ty := .int) (by decide) rfl rfl g_q0 (Safe.exa X45.hZ.alike f46 (by decide) (by decide)) d10_40 (fun T47 h48 L51 W50 X49 => ?_)
  have f52 := Fld.same W50 f43
  refine kALn X49 d10_43 rfl rfl ?_
  have K53 : Keep h0 h48 [q2, q0] := (Keep.wr (Keep.trans (Keep.refl h0 [q2, q0]) f41 (allS (Or.inl (List.mem_of_getElem? (i := 0) rfl)) all0)) W50 (Or.inl (List.mem_of_getElem? (i := 1) rfl)))
  have f54 := (Arv.other f42 W50 (Ne.symm d_q0_q2))
  have f55 := (Fld.other W50 (Fld.keep F_q0_coder f41 (ninS d_q0_q2 nin0)) (Or.inr (slot_ne (Or.inl (wd G 51 rfl)) (Or.inl (wd G 73 rfl)) (by decide) (by decide : parseFieldDescriptor "B" = some .byte) (by decide : parseFieldDescriptor "I" = some .int))))
  have f56 := (Fld.other W50 (Fld.keep F_q0_value f41 (ninS d_q0_q2 nin0)) (Or.inr (slot_ne (Or.inl (wd G 49 rfl)) (Or.inl (wd G 73 rfl)) (by decide) (by decide : parseFieldDescriptor "[B" = some (.array (.byte))) (by decide : parseFieldDescriptor "I" = some .int))))
  exact kRETA X49 (gEL G) hret rfl rfl d10_44 (fun ve hve => ⟨rfl, K53, f54, f55, f52, f56⟩) (by decide)
def R_rm189 : Room := { frames := 4, cells := 0, slots := 0, locals := 61 }
theorem rm189 (G : Glob Z a0 iCS vSI) (i0 i1 i2 : Int32) (q0 q1 q2 q3 : Addr) (kp0 kp1 : ClassId) (h0 : Heap) (Z0 : n0 ≤ h0.size) (O0 : Old Z n0 h0) (F_q1_value : Fld Z h0 q1 "java/lang/String" "value" "[B" (.ref q3)) (A_q3 : Arv Z h0 q3 kp1 .byte 6 [.int 46, .int 117, .int 112, .int 112, .int 101, .int 114] (.int 0)) (F_q1_coder : Fld Z h0 q1 "java/lang/String" "coder" "B" (.int 0)) (E_q1 : Exa Z h0 q1 "java/lang/String") (F_q0_count : Fld Z h0 q0 "java/lang/AbstractStringBuilder" "count" "I" (.int 3)) (F_q0_value : Fld Z h0 q0 "java/lang/AbstractStringBuilder" "value" "[B" (.ref q2)) (A_q2 : Arv Z h0 q2 kp0 .byte 16 [.int i0, .int i1, .int i2, .int 0, .int 0, .int 0, .int 0, .int 0, .int 0, .int 0, .int 0, .int 0, .int 0, .int 0, .int 0, .int 0] (.int 0)) (F_q0_coder : Fld Z h0 q0 "java/lang/AbstractStringBuilder" "coder" "B" (.int 0)) (E_q0 : Exa Z h0 q0 "java/lang/StringBuilder") (d_q0_q2 : q0 ≠ q2) (g_q0 : n0 ≤ q0) (g_q2 : n0 ≤ q2) : MetH l Z EL0 n0 N_jdk_67_m_7 jdk_67_method_7_code 2 (some (.object "java/lang/StringBuilder")) [] R_rm189 #[.ref q0, .ref q1] h0 [q2] (fun vs v h ve => (v = some (.ref q0) ∧ (Keep h0 h [q2, q0]) ∧ (Arv Z h q2 kp0 .byte 16 [.int i0, .int i1, .int i2, .int 46, .int 117, .int 112, .int 112, .int 101, .int 114, .int 0, .int 0, .int 0, .int 0, .int 0, .int 0, .int 0] (.int 0)) ∧ (Fld Z h q0 "java/lang/AbstractStringBuilder" "coder" "B" (.int 0)) ∧ (Fld Z h q0 "java/lang/AbstractStringBuilder" "count" "I" (.int 9)) ∧ (Fld Z h q0 "java/lang/AbstractStringBuilder" "value" "[B" (.ref q2)))) := by
  refine MetH.of #[.val (.ref q0), .val (.ref q1)] (plainFor_of_name pn_java_lang_StringBuilder) rfl Z0 (fun p e s m below meth c T0 hret hml hnm hSL hs0 X0 => ?_)
  have S_q2 := hSL q2 (List.mem_of_getElem? (i := 0) rfl)
  refine kALn X0 d9_0 rfl rfl ?_
  refine kALn X0 d9_1 rfl rfl ?_
  refine kSUP X0 (gEL G) (argsL := [.ref q1]) (rest := []) (wd G 57 rfl) (own_same (wd G 58 rfl) (own_noface (wd G 77 rfl) rfl) (by decide)) (wd G 58 rfl) (wd G 59 rfl) (by decide) (wd G 44 rfl) (wd G 61 rfl) (Ins.of_exa E_q0 (wd G 43 rfl)) (rm190 G i0 i1 i2 q0 q1 q2 q3 kp0 kp1 h0 X0.n O0 F_q1_value A_q3 F_q1_coder E_q1 F_q0_count F_q0_value A_q2 F_q0_coder E_q0 d_q0_q2 g_q0 g_q2) (allS ⟨(A_q2.lt), S_q2⟩ all0) (lenOf pd__Ljava_lang_String__Ljava_lang_AbstractStringBuilder_ rfl) rfl 0 rfl (by decide) hml.symm d9_2 (fun v1 T2 h3 vm4 _ w5 q6 C7 C8 X9 => ?_)
  obtain ⟨e11, f12, f13, f14, f15, f16⟩ := q6
  subst e11
  show Go _ _ _ _ _ (mkF _ _ _ [.ref q0])
  refine kPOP X9 d9_5 rfl ?_
  refine kALn X9 d9_6 rfl rfl ?_
  have K17 : Keep h0 h3 [q2, q0] := (Keep.trans (Keep.refl h0 [q2, q0]) f12 (allS (Or.inl (List.mem_of_getElem? (i := 0) rfl)) (allS (Or.inl (List.mem_of_getElem? (i := 1) rfl)) all0)))
  exact kRETA X9 (gEL G) hret rfl rfl d9_7 (fun ve hve => ⟨rfl, K17, f13, f14, f15, f16⟩) (by decide)
def R_rm197 : Room := { frames := 0, cells := 0, slots := 0, locals := 0 }
theorem rm197 (G : Glob Z a0 iCS vSI) (i0 i1 i2 : Int32) (q0 q1 : Addr) (kp0 : ClassId) (h0 : Heap) (Z0 : n0 ≤ h0.size) (O0 : Old Z n0 h0) (F_q0_value : Fld Z h0 q0 "java/lang/AbstractStringBuilder" "value" "[B" (.ref q1)) : MetH l Z EL0 n0 N_jdk_68_m_64 jdk_68_method_64_code 1 (some (.array (.byte))) [] R_rm197 #[.ref q0] h0 [] (fun vs v h ve => (v = some (.ref q1) ∧ (h0 = h))) := by
  refine MetH.of #[.val (.ref q0)] (plainFor_of_name pn_java_lang_AbstractStringBuilder) rfl Z0 (fun p e s m below meth c T0 hret hml hnm hSL hs0 X0 => ?_)
  refine kALn X0 d20_0 rfl rfl ?_
  refine kGETF X0 (wd G 48 rfl) Via.refl F_q0_value d20_1 (fun T1 X2 => ?_)
  exact kRETA X2 (gEL G) hret rfl rfl d20_4 (fun ve hve => ⟨rfl, rfl⟩) (by decide)
def R_rm199 : Room := { frames := 0, cells := 0, slots := 0, locals := 0 }
theorem rm199 (G : Glob Z a0 iCS vSI) (i0 i1 i2 : Int32) (q0 q1 : Addr) (kp0 : ClassId) (h0 : Heap) (Z0 : n0 ≤ h0.size) (O0 : Old Z n0 h0) (F_q0_count : Fld Z h0 q0 "java/lang/AbstractStringBuilder" "count" "I" (.int 9)) : MetH l Z EL0 n0 N_jdk_68_m_6 jdk_68_method_6_code 1 (some .int) [] R_rm199 #[.ref q0] h0 [] (fun vs v h ve => (v = some (.int 9) ∧ (h0 = h))) := by
  refine MetH.of #[.val (.ref q0)] (plainFor_of_name pn_java_lang_AbstractStringBuilder) rfl Z0 (fun p e s m below meth c T0 hret hml hnm hSL hs0 X0 => ?_)
  refine kALn X0 d22_0 rfl rfl ?_
  refine kGETF X0 (wd G 72 rfl) Via.refl F_q0_count d22_1 (fun T1 X2 => ?_)
  exact kRETI X2 (gEL G) hret d22_4 (fun ve hve => ⟨rfl, rfl⟩) (by decide)
def R_rm198 : Room := { frames := 1, cells := 0, slots := 0, locals := 12 }
theorem rm198 (G : Glob Z a0 iCS vSI) (i0 i1 i2 : Int32) (q0 q1 : Addr) (kp0 : ClassId) (h0 : Heap) (Z0 : n0 ≤ h0.size) (O0 : Old Z n0 h0) (F_q0_count : Fld Z h0 q0 "java/lang/AbstractStringBuilder" "count" "I" (.int 9)) (E_q0 : Exa Z h0 q0 "java/lang/StringBuilder") : MetH l Z EL0 n0 N_jdk_67_m_93 jdk_67_method_93_code 1 (some .int) [] R_rm198 #[.ref q0] h0 [] (fun vs v h ve => (v = some (.int 9) ∧ (h0 = h))) := by
  refine MetH.of #[.val (.ref q0)] (plainFor_of_name pn_java_lang_StringBuilder) rfl Z0 (fun p e s m below meth c T0 hret hml hnm hSL hs0 X0 => ?_)
  refine kALn X0 d21_0 rfl rfl ?_
  refine kSUP X0 (gEL G) (argsL := []) (rest := []) (wd G 125 rfl) (own_same (wd G 121 rfl) (own_noface (wd G 77 rfl) rfl) (by decide)) (wd G 121 rfl) (wd G 59 rfl) (by decide) (wd G 44 rfl) (wd G 126 rfl) (Ins.of_exa E_q0 (wd G 43 rfl)) (rm199 G i0 i1 i2 q0 q1 kp0 h0 X0.n O0 F_q0_count) all0 (lenOf pd___I rfl) rfl 0 rfl (by decide) hml.symm d21_1 (fun v1 T2 h3 vm4 _ w5 q6 C7 C8 X9 => ?_)
  obtain ⟨e11, f12⟩ := q6
  subst e11
  subst f12
  show Go _ _ _ _ _ (mkF _ _ _ [.int 9])
  exact kRETI X9 (gEL G) hret d21_4 (fun ve hve => ⟨rfl, rfl⟩) (by decide)
def R_rm200 : Room := { frames := 0, cells := 0, slots := 0, locals := 0 }
theorem rm200 (G : Glob Z a0 iCS vSI) (i0 i1 i2 : Int32) (q0 q1 : Addr) (kp0 : ClassId) (h0 : Heap) (Z0 : n0 ≤ h0.size) (O0 : Old Z n0 h0) (F_q0_coder : Fld Z h0 q0 "java/lang/AbstractStringBuilder" "coder" "B" (.int 0)) : MetH l Z EL0 n0 N_jdk_68_m_68 jdk_68_method_68_code 1 (some .boolean) [] R_rm200 #[.ref q0] h0 [] (fun vs v h ve => (v = some (.int 1) ∧ (h0 = h))) := by
  refine MetH.of #[.val (.ref q0)] (plainFor_of_name pn_java_lang_AbstractStringBuilder) rfl Z0 (fun p e s m below meth c T0 hret hml hnm hSL hs0 X0 => ?_)
  refine kGETS X0 (wd G 47 rfl) Via.refl (Sta.ext O0.2 (S_CS G)) d23_0 (fun T1 X2 => ?_)
  refine kIFf X2 d23_3 (XT.i0_eq_f (n_CS G)) ?_
  refine kALn X2 d23_6 rfl rfl ?_
  refine kGETF X2 (wd G 50 rfl) Via.refl F_q0_coder d23_7 (fun T3 X4 => ?_)
  refine kIFf X4 d23_10 (XT.i0_ne_f (by decide)) ?_
  refine kIC X4 1 d23_13 (by decide) ?_
  refine kGOTO X4 18 d23_14 (by decide) ?_
  exact kRETZ X4 (gEL G) (t := .boolean) hret (by simp) d23_18 (fun ve hve => ⟨rfl, rfl⟩) (by decide)
def R_rm202 : Room := { frames := 1, cells := 1, slots := 9, locals := 18 }
theorem rm202 (G : Glob Z a0 iCS vSI) (i0 i1 i2 : Int32) (q0 : Addr) (kp0 : ClassId) (h0 : Heap) (Z0 : n0 ≤ h0.size) (O0 : Old Z n0 h0) (A_q0 : Arv Z h0 q0 kp0 .byte 16 [.int i0, .int i1, .int i2, .int 46, .int 117, .int 112, .int 112, .int 101, .int 114, .int 0, .int 0, .int 0, .int 0, .int 0, .int 0, .int 0] (.int 0)) : MetH l Z EL0 n0 N_jdk_65_m_133 jdk_65_method_133_code 5 (some (.array (.byte))) [] R_rm202 #[.ref q0, .int 0, .int 9] h0 [] (fun vs v h ve => (∃ (x0 : Addr), ∃ (z0 : ClassId), v = some (.ref x0) ∧ (Keep h0 h []) ∧ (h0.size ≤ x0) ∧ (Arv Z h x0 z0 .byte 9 [.int i0, .int i1, .int i2, .int 46, .int 117, .int 112, .int 112, .int 101, .int 114] (.int 0)) ∧ (Safe Z EL0 ve h x0))) := by
  refine MetH.of #[.val (.ref q0), .val (.int 0), .val (.int 9), .unset, .unset] (plainFor_of_name pn_java_util_Arrays) rfl Z0 (fun p e s m below meth c T0 hret hml hnm hSL hs0 X0 => ?_)
  refine kILn X0 d25_0 rfl ?_
  refine kILn X0 d25_1 rfl ?_
  refine kSTAT X0 (gEL G) (argsL := [.int 0, .int 9]) (rest := []) (wd G 139 rfl) (wd G 140 rfl) (wd G 134 rfl) (wd G 141 rfl) (by decide) (rm184 G  h0 X0.n O0 ) all0 (lenOf pd__II_V rfl) rfl 0 rfl (by decide) hml.symm d25_2 (fun v1 T2 h3 vm4 _ w5 q6 C7 C8 X9 => ?_)
  obtain ⟨e11, f12⟩ := q6
  subst e11
  subst f12
  show Go _ _ _ _ _ (mkF _ _ _ [])
  refine kILn X9 d25_5 rfl ?_
  refine kILn X9 d25_6 rfl ?_
  refine kISUB X9 9 d25_7 (by decide) ?_
  refine kISn X9 #[.val (.ref q0), .val (.int 0), .val (.int 9), .val (.int 9), .unset] d25_8 rfl ?_
  refine kILn X9 d25_9 rfl ?_
  refine kNEWP X9 (wd G 19 rfl) (cap := 9) d25_10 (by decide) (by decide) (by decide) (by decide) (by decide) (fun T13 h14 a16 k17 E18 q19 g20 A21 s22 X15 => ?_)
  have n23 : q0 ≠ a16 := Nat.ne_of_lt (Nat.lt_of_lt_of_le (A_q0.lt) (Nat.le_of_eq q19.symm))
  have g24 : h0.size ≤ a16 := q19 ▸ X9.g0
  have f25 : Arv Z h14 a16 k17 .byte 9 [.int 0, .int 0, .int 0, .int 0, .int 0, .int 0, .int 0, .int 0, .int 0] (.int 0) := A21.pad (pad_rep [] _ 9)
  refine kAS X15 #[.val (.ref q0), .val (.int 0), .val (.int 9), .val (.int 9), .val (.ref a16)] d25_12 rfl rfl ?_
  refine kALn X15 d25_14 rfl rfl ?_
  refine kILn X15 d25_15 rfl ?_
  refine kAL X15 d25_16 rfl rfl ?_
  refine kIC X15 0 d25_18 (by decide) ?_
  refine kALn X15 d25_19 rfl rfl ?_
  have f26 := (Arv.ext A_q0 E18)
  refine kLEN X15 f26 d25_20 ?_
  refine kILn X15 d25_21 rfl ?_
  refine kISUB X15 16 d25_22 (by decide) ?_
  refine kILn X15 d25_23 rfl ?_
  have f27 := (Old.ext O0 E18)
  refine kSTAT X15 (gEL G) (argsL := [.int 16, .int 9]) (rest := [.int 0, .ref a16, .int 0, .ref q0]) (wd G 142 rfl) (wd G 143 rfl) (wd G 144 rfl) (wd G 145 rfl) (by decide) (rm185 G  h14 X15.n f27 ) all0 (lenOf pd__II_I rfl) rfl 4 rfl (by decide) hml.symm d25_24 (fun v28 T29 h30 vm31 _ w32 q33 C34 C35 X36 => ?_)
  obtain ⟨e38, f39⟩ := q33
  subst e38
  subst f39
  show Go _ _ _ _ _ (mkF _ _ _ [.int 9, .int 0, .ref a16, .int 0, .ref q0])
  have f40 := (CHr.safe C35 (f25.lt) s22)
  refine kCPA X36 (wd G 146 rfl) (wd G 98 rfl) (wd G 96 rfl) (wd G 97 rfl) f26 f25 (Or.inl ⟨rfl, rfl⟩) (us := [.int i0, .int i1, .int i2, .int 46, .int 117, .int 112, .int 112, .int 101, .int 114]) (by decide) rfl (by show 9 ≤ 9; decide) g20 f40 hml.symm d25_27 (by decide) 0 (Nat.le_of_eq rfl) (by decide) (fun T41 h42 L44 K45 C46 f47 X43 => ?_)
  have f48 : Arv Z h42 a16 k17 .byte 9 [.int i0, .int i1, .int i2, .int 46, .int 117, .int 112, .int 112, .int 101, .int 114] (.int 0) := f47
  refine kAL X43 d25_30 rfl rfl ?_
  have K49 : Keep h0 h42 [] := (Keep.trans (Keep.ext (Keep.refl h0 []) E18) K45 (allS (Or.inr g24) all0))
  have f50 := (CHr.safe C46 (f25.lt) f40)
  exact kRETA X43 (gEL G) hret rfl rfl d25_32 (fun ve hve => ⟨a16, k17, rfl, K49, g24, f48, (CHr.safe hve (f48.lt) f50)⟩) (by decide)
def R_rm201 : Room := { frames := 2, cells := 1, slots := 9, locals := 34 }
theorem rm201 (G : Glob Z a0 iCS vSI) (i0 i1 i2 : Int32) (q0 : Addr) (kp0 : ClassId) (h0 : Heap) (Z0 : n0 ≤ h0.size) (O0 : Old Z n0 h0) (A_q0 : Arv Z h0 q0 kp0 .byte 16 [.int i0, .int i1, .int i2, .int 46, .int 117, .int 112, .int 112, .int 101, .int 114, .int 0, .int 0, .int 0, .int 0, .int 0, .int 0, .int 0] (.int 0)) : MetH l Z EL0 n0 N_jdk_65_m_132 jdk_65_method_132_code 3 (some (.array (.byte))) [] R_rm201 #[.ref q0, .int 0, .int 9] h0 [] (fun vs v h ve => (∃ (x0 : Addr), ∃ (z0 : ClassId), v = some (.ref x0) ∧ (Keep h0 h []) ∧ (h0.size ≤ x0) ∧ (Arv Z h x0 z0 .byte 9 [.int i0, .int i1, .int i2, .int 46, .int 117, .int 112, .int 112, .int 101, .int 114] (.int 0)) ∧ (Safe Z EL0 ve h x0))) := by
  refine MetH.of #[.val (.ref q0), .val (.int 0), .val (.int 9)] (plainFor_of_name pn_java_util_Arrays) rfl Z0 (fun p e s m below meth c T0 hret hml hnm hSL hs0 X0 => ?_)
  refine kILn X0 d24_0 rfl ?_
  refine kIFf X0 d24_1 (XT.i0_ne_f (by decide)) ?_
  refine kILn X0 d24_4 rfl ?_
  refine kALn X0 d24_5 rfl rfl ?_
  refine kLEN X0 A_q0 d24_6 ?_
  refine kICf X0 d24_7 (XT.ii_eq_f (by decide)) ?_
  refine kALn X0 d24_10 rfl rfl ?_
  refine kILn X0 d24_11 rfl ?_
  refine kILn X0 d24_12 rfl ?_
  refine kSTAT X0 (gEL G) (argsL := [.ref q0, .int 0, .int 9]) (rest := []) (wd G 136 rfl) (wd G 137 rfl) (wd G 134 rfl) (wd G 138 rfl) (by decide) (rm202 G i0 i1 i2 q0 kp0 h0 X0.n O0 A_q0) all0 (lenOf pd___BII__B rfl) rfl 0 rfl (by decide) hml.symm d24_13 (fun v1 T2 h3 vm4 _ w5 q6 C7 C8 X9 => ?_)
  obtain ⟨a11, k12, e13, f14, f15, f16, f17⟩ := q6
  subst e13
  have n18 : q0 ≠ a11 := Nat.ne_of_lt (Nat.lt_of_lt_of_le (A_q0.lt) f15)
  have g19 : n0 ≤ a11 := Nat.le_trans X0.n f15
  have g20 : h0.size ≤ a11 := Nat.le_trans X0.g0 f15
  show Go _ _ _ _ _ (mkF _ _ _ [.ref a11])
  have K21 : Keep h0 h3 [] := (Keep.trans (Keep.refl h0 []) f14 all0)
  exact kRETA X9 (gEL G) hret rfl rfl d24_16 (fun ve hve => ⟨a11, k12, rfl, K21, g20, f16, (CHr.safe hve (f16.lt) f17)⟩) (by decide)
def R_rm196 : Room := { frames := 3, cells := 1, slots := 9, locals := 49 }
theorem rm196 (G : Glob Z a0 iCS vSI) (i0 i1 i2 : Int32) (q0 q1 q2 : Addr) (kp0 : ClassId) (h0 : Heap) (Z0 : n0 ≤ h0.size) (O0 : Old Z n0 h0) (F_q1_value : Fld Z h0 q1 "java/lang/AbstractStringBuilder" "value" "[B" (.ref q2)) (E_q1 : Exa Z h0 q1 "java/lang/StringBuilder") (F_q1_count : Fld Z h0 q1 "java/lang/AbstractStringBuilder" "count" "I" (.int 9)) (F_q1_coder : Fld Z h0 q1 "java/lang/AbstractStringBuilder" "coder" "B" (.int 0)) (F_q0_coder : Fld Z h0 q0 "java/lang/String" "coder" "B" (.int 0)) (E_q0 : Exa Z h0 q0 "java/lang/String") (F_q0_value : Fld Z h0 q0 "java/lang/String" "value" "[B" (.null)) (A_q2 : Arv Z h0 q2 kp0 .byte 16 [.int i0, .int i1, .int i2, .int 46, .int 117, .int 112, .int 112, .int 101, .int 114, .int 0, .int 0, .int 0, .int 0, .int 0, .int 0, .int 0] (.int 0)) (d_q2_q0 : q2 ≠ q0) (g_q0 : n0 ≤ q0) : MetH l Z EL0 n0 N_jdk_42_m_150 jdk_42_method_150_code 5 none [] R_rm196 #[.ref q0, .ref q1, .null] h0 [q0] (fun vs v h ve => (∃ (x0 : Addr), ∃ (z0 : ClassId), v = none ∧ (Keep h0 h [q0]) ∧ (h0.size ≤ x0) ∧ (Arv Z h x0 z0 .byte 9 [.int i0, .int i1, .int i2, .int 46, .int 117, .int 112, .int 112, .int 101, .int 114] (.int 0)) ∧ (Safe Z EL0 ve h x0) ∧ (Fld Z h q0 "java/lang/String" "coder" "B" (.int 0)) ∧ (Fld Z h q0 "java/lang/String" "value" "[B" (.ref x0)))) := by
  refine MetH.of #[.val (.ref q0), .val (.ref q1), .val .null, .unset, .unset] (plainFor_of_name pn_java_lang_String) rfl Z0 (fun p e s m below meth c T0 hret hml hnm hSL hs0 X0 => ?_)
  have S_q0 := hSL q0 (List.mem_of_getElem? (i := 0) rfl)
  refine kALn X0 d19_0 rfl rfl ?_
  refine kINIT X0 (wd G 11 rfl) (wd G 12 rfl) (wd G 13 rfl) hml.symm d19_1 (by decide) 0 (Nat.le_of_eq rfl) (by decide) (fun T1 X2 => ?_)
  refine kALn X2 d19_4 rfl rfl ?_
  refine kVIRT X2 (gEL G) (argsL := []) (rest := []) (wd G 114 rfl) (wd G 115 rfl) (own_nf X2.hZ (own_noface (wd G 77 rfl) rfl)) (wd G 117 rfl) (wd G 116 rfl) (wd G 44 rfl) (wd G 118 rfl) (by decide) E_q1 (rm197 G i0 i1 i2 q1 q2 kp0 h0 X2.n O0 F_q1_value) all0 (lenOf pd____B rfl) rfl 0 rfl (by decide) hml.symm d19_5 (fun v3 T4 h5 vm6 _ w7 q8 C9 C10 X11 => ?_)
  obtain ⟨e13, f14⟩ := q8
  subst e13
  subst f14
  show Go _ _ _ _ _ (mkF _ _ _ [.ref q2])
  refine kASn X11 #[.val (.ref q0), .val (.ref q1), .val .null, .val (.ref q2), .unset] d19_8 rfl rfl ?_
  refine kALn X11 d19_9 rfl rfl ?_
  refine kVIRT X11 (gEL G) (argsL := []) (rest := []) (wd G 119 rfl) (wd G 120 rfl) (own_nf X11.hZ (own_noface (wd G 77 rfl) rfl)) (wd G 122 rfl) (wd G 123 rfl) (wd G 36 rfl) (wd G 124 rfl) (by decide) E_q1 (rm198 G i0 i1 i2 q1 q2 kp0 h0 X11.n O0 F_q1_count E_q1) all0 (lenOf pd___I rfl) rfl 0 rfl (by decide) hml.symm d19_10 (fun v15 T16 h17 vm18 _ w19 q20 C21 C22 X23 => ?_)
  obtain ⟨e25, f26⟩ := q20
  subst e25
  subst f26
  show Go _ _ _ _ _ (mkF _ _ _ [.int 9])
  refine kIS X23 #[.val (.ref q0), .val (.ref q1), .val .null, .val (.ref q2), .val (.int 9)] d19_13 rfl ?_
  refine kALn X23 d19_15 rfl rfl ?_
  refine kVIRT X23 (gEL G) (argsL := []) (rest := []) (wd G 127 rfl) (wd G 128 rfl) (own_nf X23.hZ (own_noface (wd G 77 rfl) rfl)) (wd G 130 rfl) (wd G 129 rfl) (wd G 44 rfl) (wd G 131 rfl) (by decide) E_q1 (rm200 G i0 i1 i2 q1 q2 kp0 h0 X23.n O0 F_q1_coder) all0 (lenOf pd___Z rfl) rfl 0 rfl (by decide) hml.symm d19_16 (fun v27 T28 h29 vm30 _ w31 q32 C33 C34 X35 => ?_)
  obtain ⟨e37, f38⟩ := q32
  subst e37
  subst f38
  show Go _ _ _ _ _ (mkF _ _ _ [.int 1])
  refine kIFf X35 d19_19 (XT.i0_eq_f (by decide)) ?_
  refine kALn X35 d19_22 rfl rfl ?_
  refine kIC X35 0 d19_23 (by decide) ?_
  have f39 := (CHr.safe C34 (F_q0_value.lt) (CHr.safe C22 (F_q0_value.lt) (CHr.safe C10 (F_q0_value.lt) S_q0)))
  refine kPUTF X35 (wd G 26 rfl) Via.refl F_q0_coder E_q0 (Or.inr ⟨(wd G 27 rfl), rfl, hnm⟩) (wd G 2 rfl) (ty := .byte) (by decide) (by decide) (by decide) g_q0 f39 d19_24 (fun T40 h41 L44 W43 X42 => ?_)
  have f45 := Fld.same W43 F_q0_coder
  refine kALn X42 d19_27 rfl rfl ?_
  refine kALn X42 d19_28 rfl rfl ?_
  refine kIC X42 0 d19_29 (by decide) ?_
  refine kIL X42 d19_30 rfl ?_
  have f46 := (Arv.other A_q2 W43 d_q2_q0)
  have f47 := (Old.wr O0 W43 g_q0)
  refine kSTAT X42 (gEL G) (argsL := [.ref q2, .int 0, .int 9]) (rest := [.ref q0]) (wd G 132 rfl) (wd G 133 rfl) (wd G 134 rfl) (wd G 135 rfl) (by decide) (rm201 G i0 i1 i2 q2 kp0 h41 X42.n f47 f46) all0 (lenOf pd___BII__B rfl) rfl 1 rfl (by decide) hml.symm d19_32 (fun v48 T49 h50 vm51 _ w52 q53 C54 C55 X56 => ?_)
  obtain ⟨a58, k59, e60, f61, f62, f63, f64⟩ := q53
  subst e60
  have n65 : q0 ≠ a58 := Nat.ne_of_lt (Nat.lt_of_lt_of_le (f45.lt) f62)
  have f67 := (Exa.wr W43 E_q1)
  have n66 : q1 ≠ a58 := Nat.ne_of_lt (Nat.lt_of_lt_of_le (f67.lt) f62)
  have n68 : q2 ≠ a58 := Nat.ne_of_lt (Nat.lt_of_lt_of_le (f46.lt) f62)
  have g69 : n0 ≤ a58 := Nat.le_trans X42.n f62
  have g70 : h0.size ≤ a58 := Nat.le_trans X42.g0 f62
  show Go _ _ _ _ _ (mkF _ _ _ [.ref a58, .ref q0])
  have f71 := (Fld.keep (Fld.other W43 F_q0_value (Or.inr (slot_ne (Or.inr (wd G 29 rfl)) (Or.inr (wd G 27 rfl)) (by decide) (by decide : parseFieldDescriptor "[B" = some (.array (.byte))) (by decide : parseFieldDescriptor "B" = some .byte)))) f61 nin0)
  have f72 := (Exa.keep (Exa.wr W43 E_q0) f61)
  have f73 := (CHr.safe C55 (f45.lt) (Safe.wr W43 f39 X35.C.1 f39))
  refine kPUTF X56 (wd G 28 rfl) Via.refl f71 f72 (Or.inr ⟨(wd G 29 rfl), rfl, hnm⟩) (wd G 2 rfl) (ty := (.array (.byte))) (by decide) rfl rfl g_q0 f73 d19_35 (fun T74 h75 L78 W77 X76 => ?_)
  have f79 := Fld.same W77 f71
  refine kGOTO X76 97 d19_38 (by decide) ?_
  have K80 : Keep h0 h75 [q0] := (Keep.wr (Keep.trans (Keep.wr (Keep.refl h0 [q0]) W43 (Or.inl (List.mem_of_getElem? (i := 0) rfl))) f61 all0) W77 (Or.inl (List.mem_of_getElem? (i := 0) rfl)))
  have f81 := (Arv.other f63 W77 (Ne.symm n65))
  have f82 := (Safe.wr W77 f73 X56.C.1 f64)
  have f83 := (Fld.other W77 (Fld.keep f45 f61 nin0) (Or.inr (slot_ne (Or.inr (wd G 27 rfl)) (Or.inr (wd G 29 rfl)) (by decide) (by decide : parseFieldDescriptor "B" = some .byte) (by decide : parseFieldDescriptor "[B" = some (.array (.byte))))))
  exact kRETV X76 (gEL G) hret d19_97 (fun ve hve => ⟨a58, k59, rfl, K80, g70, f81, (CHr.safe hve (f81.lt) f82), f83, f79⟩) (by decide)
def R_rm195 : Room := { frames := 4, cells := 1, slots := 9, locals := 65 }
theorem rm195 (G : Glob Z a0 iCS vSI) (i0 i1 i2 : Int32) (q0 q1 q2 : Addr) (kp0 : ClassId) (h0 : Heap) (Z0 : n0 ≤ h0.size) (O0 : Old Z n0 h0) (F_q1_value : Fld Z h0 q1 "java/lang/AbstractStringBuilder" "value" "[B" (.ref q2)) (E_q1 : Exa Z h0 q1 "java/lang/StringBuilder") (F_q1_count : Fld Z h0 q1 "java/lang/AbstractStringBuilder" "count" "I" (.int 9)) (F_q1_coder : Fld Z h0 q1 "java/lang/AbstractStringBuilder" "coder" "B" (.int 0)) (F_q0_coder : Fld Z h0 q0 "java/lang/String" "coder" "B" (.int 0)) (E_q0 : Exa Z h0 q0 "java/lang/String") (F_q0_value : Fld Z h0 q0 "java/lang/String" "value" "[B" (.null)) (A_q2 : Arv Z h0 q2 kp0 .byte 16 [.int i0, .int i1, .int i2, .int 46, .int 117, .int 112, .int 112, .int 101, .int 114, .int 0, .int 0, .int 0, .int 0, .int 0, .int 0, .int 0] (.int 0)) (d_q2_q0 : q2 ≠ q0) (g_q0 : n0 ≤ q0) : MetH l Z EL0 n0 N_jdk_42_m_53 jdk_42_method_53_code 2 none [] R_rm195 #[.ref q0, .ref q1] h0 [q0] (fun vs v h ve => (∃ (x0 : Addr), ∃ (z0 : ClassId), v = none ∧ (Keep h0 h [q0]) ∧ (h0.size ≤ x0) ∧ (Arv Z h x0 z0 .byte 9 [.int i0, .int i1, .int i2, .int 46, .int 117, .int 112, .int 112, .int 101, .int 114] (.int 0)) ∧ (Safe Z EL0 ve h x0) ∧ (Fld Z h q0 "java/lang/String" "coder" "B" (.int 0)) ∧ (Fld Z h q0 "java/lang/String" "value" "[B" (.ref x0)))) := by
  refine MetH.of #[.val (.ref q0), .val (.ref q1)] (plainFor_of_name pn_java_lang_String) rfl Z0 (fun p e s m below meth c T0 hret hml hnm hSL hs0 X0 => ?_)
  have S_q0 := hSL q0 (List.mem_of_getElem? (i := 0) rfl)
  refine kALn X0 d18_0 rfl rfl ?_
  refine kALn X0 d18_1 rfl rfl ?_
  refine kNULL X0 d18_2 ?_
  refine kSPEC X0 (gEL G) (argsL := [.ref q1, .null]) (rest := []) (wd G 111 rfl) (wd G 112 rfl) (wd G 3 rfl) (wd G 113 rfl) rfl (by decide) (rm196 G i0 i1 i2 q0 q1 q2 kp0 h0 X0.n O0 F_q1_value E_q1 F_q1_count F_q1_coder F_q0_coder E_q0 F_q0_value A_q2 d_q2_q0 g_q0) (allS ⟨(E_q0.lt), S_q0⟩ all0) (lenOf pd__Ljava_lang_AbstractStringBuilder_Ljava_lang_Void__V rfl) rfl 0 rfl (by decide) hml.symm d18_3 (fun v1 T2 h3 vm4 _ w5 q6 C7 C8 X9 => ?_)
  obtain ⟨a11, k12, e13, f14, f15, f16, f17, f18, f19⟩ := q6
  subst e13
  have n20 : q0 ≠ a11 := Nat.ne_of_lt (Nat.lt_of_lt_of_le (E_q0.lt) f15)
  have n21 : q1 ≠ a11 := Nat.ne_of_lt (Nat.lt_of_lt_of_le (E_q1.lt) f15)
  have n22 : q2 ≠ a11 := Nat.ne_of_lt (Nat.lt_of_lt_of_le (A_q2.lt) f15)
  have g23 : n0 ≤ a11 := Nat.le_trans X0.n f15
  have g24 : h0.size ≤ a11 := Nat.le_trans X0.g0 f15
  show Go _ _ _ _ _ (mkF _ _ _ [])
  have K25 : Keep h0 h3 [q0] := (Keep.trans (Keep.refl h0 [q0]) f14 (allS (Or.inl (List.mem_of_getElem? (i := 0) rfl)) all0))
  exact kRETV X9 (gEL G) hret d18_6 (fun ve hve => ⟨a11, k12, rfl, K25, g24, f16, (CHr.safe hve (f16.lt) f17), f18, f19⟩) (by decide)
def R_rm194 : Room := { frames := 5, cells := 2, slots := 13, locals := 79 }
theorem rm194 (G : Glob Z a0 iCS vSI) (i0 i1 i2 : Int32) (q0 q1 : Addr) (kp0 : ClassId) (h0 : Heap) (Z0 : n0 ≤ h0.size) (O0 : Old Z n0 h0) (E_q0 : Exa Z h0 q0 "java/lang/StringBuilder") (A_q1 : Arv Z h0 q1 kp0 .byte 16 [.int i0, .int i1, .int i2, .int 46, .int 117, .int 112, .int 112, .int 101, .int 114, .int 0, .int 0, .int 0, .int 0, .int 0, .int 0, .int 0] (.int 0)) (F_q0_value : Fld Z h0 q0 "java/lang/AbstractStringBuilder" "value" "[B" (.ref q1)) (F_q0_count : Fld Z h0 q0 "java/lang/AbstractStringBuilder" "count" "I" (.int 9)) (F_q0_coder : Fld Z h0 q0 "java/lang/AbstractStringBuilder" "coder" "B" (.int 0)) : MetH l Z EL0 n0 N_jdk_67_m_42 jdk_67_method_42_code 1 (some (.object "java/lang/String")) [] R_rm194 #[.ref q0] h0 [] (fun vs v h ve => (∃ (x0 : Addr), ∃ (x1 : Addr), ∃ (z0 : ClassId), v = some (.ref x0) ∧ (Keep h0 h []) ∧ (h0.size ≤ x0) ∧ (h0.size ≤ x1) ∧ (x0 ≠ x1) ∧ (Exa Z h x0 "java/lang/String") ∧ (Fld Z h x0 "java/lang/String" "coder" "B" (.int 0)) ∧ (Fld Z h x0 "java/lang/String" "value" "[B" (.ref x1)) ∧ (Safe Z EL0 ve h x0) ∧ (Arv Z h x1 z0 .byte 9 [.int i0, .int i1, .int i2, .int 46, .int 117, .int 112, .int 112, .int 101, .int 114] (.int 0)) ∧ (Safe Z EL0 ve h x1))) := by
  refine MetH.of #[.val (.ref q0)] (plainFor_of_name pn_java_lang_StringBuilder) rfl Z0 (fun p e s m below meth c T0 hret hml hnm hSL hs0 X0 => ?_)
  refine kNEW X0 (wd G 107 rfl) (wd G 2 rfl) (wd G 3 rfl) d17_0 (by decide) (by decide) (fun T1 h2 a4 E5 q6 g7 A8 D9 s10 X3 => ?_)
  have n11 : q0 ≠ a4 := Nat.ne_of_lt (Nat.lt_of_lt_of_le (E_q0.lt) (Nat.le_of_eq q6.symm))
  have n12 : q1 ≠ a4 := Nat.ne_of_lt (Nat.lt_of_lt_of_le (A_q1.lt) (Nat.le_of_eq q6.symm))
  have g13 : h0.size ≤ a4 := q6 ▸ X0.g0
  have f14 : Fld Z h2 a4 "java/lang/String" "coder" "B" (.int 0) := D9 (Or.inr (wd G 27 rfl)) (ty := .byte) (by decide)
  have f15 : Fld Z h2 a4 "java/lang/String" "value" "[B" (.null) := D9 (Or.inr (wd G 29 rfl)) (ty := (.array (.byte))) (by decide)
  refine kDUP X3 d17_3 rfl ?_
  refine kALn X3 d17_4 rfl rfl ?_
  have f16 := (Fld.ext E5 F_q0_value)
  have f17 := (Exa.ext E5 E_q0)
  have f18 := (Fld.ext E5 F_q0_count)
  have f19 := (Fld.ext E5 F_q0_coder)
  have f20 := (Arv.ext A_q1 E5)
  have f21 := (Old.ext O0 E5)
  refine kSPEC X3 (gEL G) (argsL := [.ref q0]) (rest := [.ref a4]) (wd G 108 rfl) (wd G 109 rfl) (wd G 3 rfl) (wd G 110 rfl) rfl (by decide) (rm195 G i0 i1 i2 a4 q0 q1 kp0 h2 X3.n f21 f16 f17 f18 f19 f14 A8 f15 f20 n12 g7) (allS ⟨(A8.lt), s10⟩ all0) (lenOf pd__Ljava_lang_StringBuilder__V rfl) rfl 1 rfl (by decide) hml.symm d17_5 (fun v22 T23 h24 vm25 _ w26 q27 C28 C29 X30 => ?_)
  obtain ⟨a32, k33, e34, f35, f36, f37, f38, f39, f40⟩ := q27
  subst e34
  have n41 : q0 ≠ a32 := Nat.ne_of_lt (Nat.lt_of_lt_of_le (f17.lt) f36)
  have n42 : q1 ≠ a32 := Nat.ne_of_lt (Nat.lt_of_lt_of_le (f20.lt) f36)
  have n43 : a4 ≠ a32 := Nat.ne_of_lt (Nat.lt_of_lt_of_le (A8.lt) f36)
  have g44 : n0 ≤ a32 := Nat.le_trans X3.n f36
  have g45 : h0.size ≤ a32 := Nat.le_trans X3.g0 f36
  show Go _ _ _ _ _ (mkF _ _ _ [.ref a4])
  have K46 : Keep h0 h24 [] := (Keep.trans (Keep.ext (Keep.refl h0 []) E5) f35 (allS (Or.inr g13) all0))
  have f47 := (Exa.keep A8 f35)
  have f48 := (CHr.safe C29 (f14.lt) s10)
  exact kRETA X30 (gEL G) hret rfl rfl d17_8 (fun ve hve => ⟨a4, a32, k33, rfl, K46, g13, g45, n43, f47, f39, f40, (CHr.safe hve (f47.lt) f48), f37, (CHr.safe hve (f37.lt) f38)⟩) (by decide)
def R_rm188 : Room := { frames := 6, cells := 6, slots := 61, locals := 91 }
theorem rm188 (G : Glob Z a0 iCS vSI) (i0 i1 i2 : Int32) (q0 q1 : Addr) (kp0 : ClassId) (h0 : Heap) (Z0 : n0 ≤ h0.size) (O0 : Old Z n0 h0) (E_q0 : Exa Z h0 q0 "java/lang/String") (A_q1 : Arv Z h0 q1 kp0 .byte 3 [.int i0, .int i1, .int i2] (.int 0)) (F_q0_value : Fld Z h0 q0 "java/lang/String" "value" "[B" (.ref q1)) (F_q0_coder : Fld Z h0 q0 "java/lang/String" "coder" "B" (.int 0)) : MetH l Z EL0 n0 N_prog_3_m_8 prog_3_method_8_code 2 (some (.object "java/lang/String")) [] R_rm188 #[.ref q0, .int 1] h0 [q0, q1] (fun vs v h ve => (∃ (x0 : Addr), ∃ (x1 : Addr), ∃ (z0 : ClassId), v = some (.ref x0) ∧ (Keep h0 h []) ∧ (h0.size ≤ x0) ∧ (h0.size ≤ x1) ∧ (x0 ≠ x1) ∧ (Exa Z h x0 "java/lang/String") ∧ (Fld Z h x0 "java/lang/String" "coder" "B" (.int 0)) ∧ (Fld Z h x0 "java/lang/String" "value" "[B" (.ref x1)) ∧ (Safe Z EL0 ve h x0) ∧ (Arv Z h x1 z0 .byte 9 [.int i0, .int i1, .int i2, .int 46, .int 117, .int 112, .int 112, .int 101, .int 114] (.int 0)) ∧ (Safe Z EL0 ve h x1))) := by
  refine MetH.of #[.val (.ref q0), .val (.int 1)] (plainFor_of_name pn_com_example_tight_calculus_tightcalculus_Component) rfl Z0 (fun p e s m below meth c T0 hret hml hnm hSL hs0 X0 => ?_)
  have S_q0 := hSL q0 (List.mem_of_getElem? (i := 0) rfl)
  have S_q1 := hSL q1 (List.mem_of_getElem? (i := 1) rfl)
  refine kNEW X0 (wd G 34 rfl) (wd G 35 rfl) (wd G 36 rfl) d6_0 (by decide) (by decide) (fun T1 h2 a4 E5 q6 g7 A8 D9 s10 X3 => ?_)
  have n11 : q0 ≠ a4 := Nat.ne_of_lt (Nat.lt_of_lt_of_le (E_q0.lt) (Nat.le_of_eq q6.symm))
  have n12 : q1 ≠ a4 := Nat.ne_of_lt (Nat.lt_of_lt_of_le (A_q1.lt) (Nat.le_of_eq q6.symm))
  have g13 : h0.size ≤ a4 := q6 ▸ X0.g0
  have f14 : Fld Z h2 a4 "java/lang/AbstractStringBuilder" "value" "[B" (.null) := D9 (Or.inl (wd G 49 rfl)) (ty := (.array (.byte))) (by decide)
  have f15 : Fld Z h2 a4 "java/lang/AbstractStringBuilder" "coder" "B" (.int 0) := D9 (Or.inl (wd G 51 rfl)) (ty := .byte) (by decide)
  have f16 : Fld Z h2 a4 "java/lang/AbstractStringBuilder" "count" "I" (.int 0) := D9 (Or.inl (wd G 73 rfl)) (ty := .int) (by decide)
  refine kDUP X3 d6_3 rfl ?_
  have f17 := (Old.ext O0 E5)
  refine kSPEC X3 (gEL G) (argsL := []) (rest := [.ref a4]) (wd G 37 rfl) (wd G 38 rfl) (wd G 36 rfl) (wd G 39 rfl) rfl (by decide) (rm4 G a4 h2 X3.n f17 A8 f14 f15 f16 g7) all0 (lenOf pd___V rfl) rfl 1 rfl (by decide) hml.symm d6_4 (fun v18 T19 h20 vm21 _ w22 q23 C24 C25 X26 => ?_)
  obtain ⟨a28, k29, e30, f31, f32, f33, f34, f35, f36, f37⟩ := q23
  subst e30
  have f39 := (Exa.ext E5 E_q0)
  have n38 : q0 ≠ a28 := Nat.ne_of_lt (Nat.lt_of_lt_of_le (f39.lt) f32)
  have f41 := (Arv.ext A_q1 E5)
  have n40 : q1 ≠ a28 := Nat.ne_of_lt (Nat.lt_of_lt_of_le (f41.lt) f32)
  have n42 : a4 ≠ a28 := Nat.ne_of_lt (Nat.lt_of_lt_of_le (A8.lt) f32)
  have g43 : n0 ≤ a28 := Nat.le_trans X3.n f32
  have g44 : h0.size ≤ a28 := Nat.le_trans X3.g0 f32
  show Go _ _ _ _ _ (mkF _ _ _ [.ref a4])
  refine kALn X26 d6_7 rfl rfl ?_
  have f45 := (Fld.keep (Fld.ext E5 F_q0_value) f31 (ninS n11 nin0))
  have f46 := (Arv.keep f41 f31 (ninS n12 nin0))
  have f47 := (Fld.keep (Fld.ext E5 F_q0_coder) f31 (ninS n11 nin0))
  have f48 := (Exa.keep f39 f31)
  have f49 := (Exa.keep A8 f31)
  have f50 := (Old.keep f17 f31 (allS g7 all0))
  refine kVIRT X26 (gEL G) (argsL := [.ref q0]) (rest := []) (wd G 52 rfl) (wd G 53 rfl) (own_nf X26.hZ (own_noinst (wd G 35 rfl))) (wd G 55 rfl) (wd G 54 rfl) (wd G 36 rfl) (wd G 56 rfl) (by decide) f49 (rm161 G i0 i1 i2 a4 q0 a28 q1 k29 kp0 h20 X26.n f50 f45 f46 f47 f48 f36 f37 f33 f35 f49 n42 g7 g43) (allS ⟨(f33.lt), f34⟩ all0) (lenOf pd__Ljava_lang_String__Ljava_lang_StringBuilder_ rfl) rfl 0 rfl (by decide) hml.symm d6_8 (fun v51 T52 h53 vm54 _ w55 q56 C57 C58 X59 => ?_)
  obtain ⟨e61, f62, f63, f64, f65, f66⟩ := q56
  subst e61
  show Go _ _ _ _ _ (mkF _ _ _ [.ref a4])
  refine kILn X59 d6_11 rfl ?_
  refine kIFf X59 d6_12 (XT.i0_eq_f (by decide)) ?_
  refine kLDCT X59 (gEL G) (wd G 170 rfl) (gSA G) (by decide) (text := ".upper") (vs := [.int 46, .int 117, .int 112, .int 112, .int 101, .int 114]) (z := 6) (by decide) (by decide) (by decide) d6_15 (n := 24) (by decide) (by decide) (by decide) (by decide) (fun T67 h68 vm70 a71 b72 k73 E74 C75 f76 f77 f78 f79 n80 X69 => ?_)
  have f81 := (CHr.safe C75 ((Exa.keep f48 f62)).lt (CHr.safe C58 (f48.lt) (CHr.safe C25 (f39.lt) (Safe.ext E5 X0.C.1 S_q0))))
  have n82 := (n80 q0 f81).1
  have n83 := (n80 q0 f81).2
  have f84 := (CHr.safe C75 ((Arv.keep f46 f62 (ninS n40 (ninS n12 nin0)))).lt (CHr.safe C58 (f46.lt) (CHr.safe C25 (f41.lt) (Safe.ext E5 X0.C.1 S_q1))))
  have n85 := (n80 q1 f84).1
  have n86 := (n80 q1 f84).2
  have f87 := (Exa.ext E74 (Exa.keep f49 f62))
  have n88 := (n80 a4 (Safe.exa X69.hZ.alike f87 (by decide) (by decide))).1
  have n89 := (n80 a4 (Safe.exa X69.hZ.alike f87 (by decide) (by decide))).2
  have f90 := (CHr.safe C75 (f63.lt) (CHr.safe C58 (f33.lt) f34))
  have n91 := (n80 a28 f90).1
  have n92 := (n80 a28 f90).2
  have n93 : ∀ x, x < h0.size → Safe Z EL0 s.vm h0 x → x ≠ b72 := fun x hx S => (n80 x (CHr.safe (hs0 ▸ X69.C) hx S)).2
  refine kGOTO X69 22 d6_17 (by decide) ?_
  have f94 := (Fld.ext E74 f65)
  have f95 := (Fld.ext E74 f66)
  have f96 := (Arv.ext f63 E74)
  have f97 := (Fld.ext E74 f64)
  have f98 := (Old.ext (Old.keep f50 f62 (allS g43 (allS g7 all0))) E74)
  refine kVIRT X69 (gEL G) (argsL := [.ref a71]) (rest := []) (wd G 52 rfl) (wd G 53 rfl) (own_nf X69.hZ (own_noinst (wd G 35 rfl))) (wd G 55 rfl) (wd G 54 rfl) (wd G 36 rfl) (wd G 56 rfl) (by decide) f87 (rm189 G i0 i1 i2 a4 a71 a28 b72 k29 k73 h68 X69.n f98 f78 f79 f77 f76 f94 f95 f96 f97 f87 n42 g7 g43) (allS ⟨(f96.lt), f90⟩ all0) (lenOf pd__Ljava_lang_String__Ljava_lang_StringBuilder_ rfl) rfl 0 rfl (by decide) hml.symm d6_22 (fun v99 T100 h101 vm102 _ w103 q104 C105 C106 X107 => ?_)
  obtain ⟨e109, f110, f111, f112, f113, f114⟩ := q104
  subst e109
  show Go _ _ _ _ _ (mkF _ _ _ [.ref a4])
  have f115 := (Exa.keep f87 f110)
  have f116 := (Old.keep f98 f110 (allS g43 (allS g7 all0)))
  refine kVIRT X107 (gEL G) (argsL := []) (rest := []) (wd G 102 rfl) (wd G 103 rfl) (own_nf X107.hZ (own_noinst (wd G 35 rfl))) (wd G 105 rfl) (wd G 104 rfl) (wd G 36 rfl) (wd G 106 rfl) (by decide) f115 (rm194 G i0 i1 i2 a4 a28 k29 h101 X107.n f116 f115 f111 f114 f113 f112) all0 (lenOf pd___Ljava_lang_String_ rfl) rfl 0 rfl (by decide) hml.symm d6_25 (fun v117 T118 h119 vm120 _ w121 q122 C123 C124 X125 => ?_)
  obtain ⟨a127, a128, k129, e130, f131, f132, f133, f134, f135, f136, f137, f138, f139, f140⟩ := q122
  subst e130
  have f142 := (Exa.keep (Exa.ext E74 (Exa.keep f48 f62)) f110)
  have n141 : q0 ≠ a127 := Nat.ne_of_lt (Nat.lt_of_lt_of_le (f142.lt) f132)
  have f144 := (Arv.keep (Arv.ext (Arv.keep f46 f62 (ninS n40 (ninS n12 nin0))) E74) f110 (ninS n40 (ninS n12 nin0)))
  have n143 : q1 ≠ a127 := Nat.ne_of_lt (Nat.lt_of_lt_of_le (f144.lt) f132)
  have n145 : a4 ≠ a127 := Nat.ne_of_lt (Nat.lt_of_lt_of_le (f115.lt) f132)
  have n146 : a28 ≠ a127 := Nat.ne_of_lt (Nat.lt_of_lt_of_le (f111.lt) f132)
  have f148 := (Exa.keep f76 f110)
  have n147 : a71 ≠ a127 := Nat.ne_of_lt (Nat.lt_of_lt_of_le (f148.lt) f132)
  have f150 := (Arv.keep f79 f110 (ninS (Ne.symm n92) (ninS (Ne.symm n89) nin0)))
  have n149 : b72 ≠ a127 := Nat.ne_of_lt (Nat.lt_of_lt_of_le (f150.lt) f132)
  have n151 : q0 ≠ a128 := Nat.ne_of_lt (Nat.lt_of_lt_of_le (f142.lt) f133)
  have n152 : q1 ≠ a128 := Nat.ne_of_lt (Nat.lt_of_lt_of_le (f144.lt) f133)
  have n153 : a4 ≠ a128 := Nat.ne_of_lt (Nat.lt_of_lt_of_le (f115.lt) f133)
  have n154 : a28 ≠ a128 := Nat.ne_of_lt (Nat.lt_of_lt_of_le (f111.lt) f133)
  have n155 : a71 ≠ a128 := Nat.ne_of_lt (Nat.lt_of_lt_of_le (f148.lt) f133)
  have n156 : b72 ≠ a128 := Nat.ne_of_lt (Nat.lt_of_lt_of_le (f150.lt) f133)
  have g157 : n0 ≤ a127 := Nat.le_trans X107.n f132
  have g158 : h0.size ≤ a127 := Nat.le_trans X107.g0 f132
  have g159 : n0 ≤ a128 := Nat.le_trans X107.n f133
  have g160 : h0.size ≤ a128 := Nat.le_trans X107.g0 f133
  show Go _ _ _ _ _ (mkF _ _ _ [.ref a127])
  have K161 : Keep h0 h119 [] := (Keep.trans (Keep.trans (Keep.ext (Keep.trans (Keep.trans (Keep.ext (Keep.refl h0 []) E5) f31 (allS (Or.inr g13) all0)) f62 (allS (Or.inr g44) (allS (Or.inr g13) all0))) E74) f110 (allS (Or.inr g44) (allS (Or.inr g13) all0))) f131 all0)
  exact kRETA X125 (gEL G) hret rfl rfl d6_28 (fun ve hve => ⟨a127, a128, k129, rfl, K161, g158, g160, f134, f135, f136, f137, (CHr.safe hve (f135.lt) f138), f139, (CHr.safe hve (f139.lt) f140)⟩) (by decide)
def R_rm204 : Room := { frames := 0, cells := 0, slots := 0, locals := 0 }
theorem rm204 (G : Glob Z a0 iCS vSI) (i0 i1 i2 : Int32) (q0 q1 : Addr) (kp0 : ClassId) (h0 : Heap) (Z0 : n0 ≤ h0.size) (O0 : Old Z n0 h0) (F_q0_coder : Fld Z h0 q0 "java/lang/String" "coder" "B" (.int 0)) : MetH l Z EL0 n0 N_jdk_42_m_152 jdk_42_method_152_code 1 (some .byte) [] R_rm204 #[.ref q0] h0 [] (fun vs v h ve => (v = some (.int 0) ∧ (h0 = h))) := by
  refine MetH.of #[.val (.ref q0)] (plainFor_of_name pn_java_lang_String) rfl Z0 (fun p e s m below meth c T0 hret hml hnm hSL hs0 X0 => ?_)
  refine kGETS X0 (wd G 14 rfl) Via.refl (Sta.ext O0.2 (S_CS G)) d12_0 (fun T1 X2 => ?_)
  refine kIFf X2 d12_3 (XT.i0_eq_f (n_CS G)) ?_
  refine kALn X2 d12_6 rfl rfl ?_
  refine kGETF X2 (wd G 26 rfl) Via.refl F_q0_coder d12_7 (fun T3 X4 => ?_)
  refine kGOTO X4 14 d12_10 (by decide) ?_
  exact kRETZ X4 (gEL G) (t := .byte) hret (by simp) d12_14 (fun ve hve => ⟨rfl, rfl⟩) (by decide)
def R_rm203 : Room := { frames := 1, cells := 0, slots := 0, locals := 13 }
theorem rm203 (G : Glob Z a0 iCS vSI) (i0 i1 i2 : Int32) (q0 q1 : Addr) (kp0 : ClassId) (h0 : Heap) (Z0 : n0 ≤ h0.size) (O0 : Old Z n0 h0) (F_q0_value : Fld Z h0 q0 "java/lang/String" "value" "[B" (.ref q1)) (A_q1 : Arv Z h0 q1 kp0 .byte 9 [.int i0, .int i1, .int i2, .int 46, .int 117, .int 112, .int 112, .int 101, .int 114] (.int 0)) (F_q0_coder : Fld Z h0 q0 "java/lang/String" "coder" "B" (.int 0)) (E_q0 : Exa Z h0 q0 "java/lang/String") : MetH l Z EL0 n0 N_jdk_42_m_54 jdk_42_method_54_code 1 (some .int) [] R_rm203 #[.ref q0] h0 [] (fun vs v h ve => (v = some (.int 9) ∧ (h0 = h))) := by
  refine MetH.of #[.val (.ref q0)] (plainFor_of_name pn_java_lang_String) rfl Z0 (fun p e s m below meth c T0 hret hml hnm hSL hs0 X0 => ?_)
  refine kALn X0 d11_0 rfl rfl ?_
  refine kGETF X0 (wd G 28 rfl) Via.refl F_q0_value d11_1 (fun T1 X2 => ?_)
  refine kLEN X2 A_q1 d11_4 ?_
  refine kALn X2 d11_5 rfl rfl ?_
  refine kVIRT X2 (gEL G) (argsL := []) (rest := [.int 9]) (wd G 67 rfl) (wd G 68 rfl) (own_nf X2.hZ (own_noinst (wd G 2 rfl))) (wd G 70 rfl) (wd G 69 rfl) (wd G 3 rfl) (wd G 71 rfl) (by decide) E_q0 (rm204 G i0 i1 i2 q0 q1 kp0 h0 X2.n O0 F_q0_coder) all0 (lenOf pd___B rfl) rfl 1 rfl (by decide) hml.symm d11_6 (fun v3 T4 h5 vm6 _ w7 q8 C9 C10 X11 => ?_)
  obtain ⟨e13, f14⟩ := q8
  subst e13
  subst f14
  show Go _ _ _ _ _ (mkF _ _ _ [.int 0, .int 9])
  refine kISHR X11 9 d11_9 (by decide) ?_
  exact kRETI X11 (gEL G) hret d11_10 (fun ve hve => ⟨rfl, rfl⟩) (by decide)
theorem pn_com_example_tight_calculus_tightcalculus_ComponentCurveNamePinLaw : plainName "com/example/tight_calculus/tightcalculus/ComponentCurveNamePinLaw" = true := by first | (simp [plainName, overriddenIn]; done) | decide +kernel
theorem pn_law : plainName x.cls = true := pn_com_example_tight_calculus_tightcalculus_ComponentCurveNamePinLaw
theorem rm0 (G : Glob Z a0 iCS vSI) (i0 : Int32) (i1 : Int32) (i2 : Int32) (i3 : Int32) (i4 : Int32) (h0 : Heap) (Z0 : n0 ≤ h0.size) (O0 : Old Z n0 h0) : MetH l Z EL0 n0 x code maxLocals ret tables_1 room_1 #[.int i0, .int i1, .int i2, .int i3, .int i4] h0 [] (fun vs v h ve => v = some (.int 1)) := by
  refine MetH.of #[.val (.int i0), .val (.int i1), .val (.int i2), .val (.int i3), .val (.int i4), .unset, .unset, .unset, .unset, .unset, .unset, .unset, .unset, .unset, .unset, .unset] (plainFor_of_name pn_law) rfl Z0 (fun p e s m below meth c T0 hret hml hnm hSL hs0 X0 => ?_)
  refine kILn X0 at_0 rfl ?_
  refine kSI X0 255 at_1 (by decide) ?_
  refine kIAND X0 (i0 &&& (255 : Int32)) at_4 rfl ?_
  refine kI2C X0 (i0 &&& (255 : Int32)) at_5 (i2c_mask _) ?_
  refine kIS X0 #[.val (.int i0), .val (.int i1), .val (.int i2), .val (.int i3), .val (.int i4), .val (.int (i0 &&& (255 : Int32))), .unset, .unset, .unset, .unset, .unset, .unset, .unset, .unset, .unset, .unset] at_6 rfl ?_
  refine kILn X0 at_8 rfl ?_
  refine kSI X0 255 at_9 (by decide) ?_
  refine kIAND X0 (i1 &&& (255 : Int32)) at_12 rfl ?_
  refine kI2C X0 (i1 &&& (255 : Int32)) at_13 (i2c_mask _) ?_
  refine kIS X0 #[.val (.int i0), .val (.int i1), .val (.int i2), .val (.int i3), .val (.int i4), .val (.int (i0 &&& (255 : Int32))), .val (.int (i1 &&& (255 : Int32))), .unset, .unset, .unset, .unset, .unset, .unset, .unset, .unset, .unset] at_14 rfl ?_
  refine kILn X0 at_16 rfl ?_
  refine kSI X0 255 at_17 (by decide) ?_
  refine kIAND X0 (i2 &&& (255 : Int32)) at_20 rfl ?_
  refine kI2C X0 (i2 &&& (255 : Int32)) at_21 (i2c_mask _) ?_
  refine kIS X0 #[.val (.int i0), .val (.int i1), .val (.int i2), .val (.int i3), .val (.int i4), .val (.int (i0 &&& (255 : Int32))), .val (.int (i1 &&& (255 : Int32))), .val (.int (i2 &&& (255 : Int32))), .unset, .unset, .unset, .unset, .unset, .unset, .unset, .unset] at_22 rfl ?_
  refine kILn X0 at_24 rfl ?_
  refine kIC X0 3 at_25 (by decide) ?_
  refine kIAND X0 (i3 &&& (3 : Int32)) at_26 rfl ?_
  refine kIS X0 #[.val (.int i0), .val (.int i1), .val (.int i2), .val (.int i3), .val (.int i4), .val (.int (i0 &&& (255 : Int32))), .val (.int (i1 &&& (255 : Int32))), .val (.int (i2 &&& (255 : Int32))), .val (.int (i3 &&& (3 : Int32))), .unset, .unset, .unset, .unset, .unset, .unset, .unset] at_27 rfl ?_
  rcases own_and3 i3 with hk1 | hk1 | hk1 | hk1
  · rw [hk1]
    clear hk1
    refine kIL X0 at_29 rfl ?_
    refine kIC X0 1 at_31 (by decide) ?_
    refine kIAND X0 (i4 &&& (1 : Int32)) at_32 rfl ?_
    by_cases c2 : (i4 &&& (1 : Int32)) = 0
    · refine kIFt X0 40 at_33 (XT.i0_eq_t c2) (by decide) ?_
      refine kIC X0 0 at_40 (by decide) ?_
      refine kIS X0 #[.val (.int i0), .val (.int i1), .val (.int i2), .val (.int i3), .val (.int i4), .val (.int (i0 &&& (255 : Int32))), .val (.int (i1 &&& (255 : Int32))), .val (.int (i2 &&& (255 : Int32))), .val (.int 0), .val (.int 0), .unset, .unset, .unset, .unset, .unset, .unset] at_41 rfl ?_
      refine kIL X0 at_43 rfl ?_
      refine kIFf X0 at_45 (XT.i0_ne_f (by decide)) ?_
      refine kIC X0 0 at_48 (by decide) ?_
      refine kNEWP X0 (wd G 0 rfl) (cap := 0) at_49 (by decide) (by decide) (by decide) (by decide) (by decide) (fun T3 h4 a6 k7 E8 q9 g10 A11 s12 X5 => ?_)
      have g13 : h0.size ≤ a6 := q9 ▸ X0.g0
      have f14 : Arv Z h4 a6 k7 .char 0 [] (.int 0) := A11.pad (pad_rep [] _ 0)
      refine kAS X5 #[.val (.int i0), .val (.int i1), .val (.int i2), .val (.int i3), .val (.int i4), .val (.int (i0 &&& (255 : Int32))), .val (.int (i1 &&& (255 : Int32))), .val (.int (i2 &&& (255 : Int32))), .val (.int 0), .val (.int 0), .val (.ref a6), .unset, .unset, .unset, .unset, .unset] at_51 rfl rfl ?_
      refine kGOTO X5 119 at_53 (by decide) ?_
      refine kNEW X5 (wd G 1 rfl) (wd G 2 rfl) (wd G 3 rfl) at_119 (by decide) (by decide) (fun T15 h16 a18 E19 q20 g21 A22 D23 s24 X17 => ?_)
      have n25 : a6 ≠ a18 := Nat.ne_of_lt (Nat.lt_of_lt_of_le (f14.lt) (Nat.le_of_eq q20.symm))
      have g26 : h0.size ≤ a18 := q20 ▸ X5.g0
      have f27 : Fld Z h16 a18 "java/lang/String" "coder" "B" (.int 0) := D23 (Or.inr (wd G 27 rfl)) (ty := .byte) (by decide)
      have f28 : Fld Z h16 a18 "java/lang/String" "value" "[B" (.null) := D23 (Or.inr (wd G 29 rfl)) (ty := (.array (.byte))) (by decide)
      refine kDUP X17 at_122 rfl ?_
      refine kAL X17 at_123 rfl rfl ?_
      have f29 := (Arv.ext f14 E19)
      have f30 := (Old.ext (Old.ext O0 E8) E19)
      refine kSPEC X17 (gEL G) (argsL := [.ref a6]) (rest := [.ref a18]) (wd G 4 rfl) (wd G 5 rfl) (wd G 3 rfl) (wd G 6 rfl) rfl (by decide) (rm1 G a18 a6 k7 h16 X17.n f30 f29 A22 f28 n25 f27 g21) (allS ⟨(A22.lt), s24⟩ all0) (lenOf pd___C_V rfl) rfl 1 rfl (by decide) hml.symm at_125 (fun v31 T32 h33 vm34 _ w35 q36 C37 C38 X39 => ?_)
      obtain ⟨a41, k42, e43, f44, f45, f46, f47, f48⟩ := q36
      subst e43
      have n49 : a6 ≠ a41 := f45 a6 (f29.lt) (CHr.safe C37 (f29.lt) (Safe.arv X17.hZ.alike f29 (by decide)))
      have n50 : a18 ≠ a41 := f45 a18 (A22.lt) (CHr.safe C37 (A22.lt) s24)
      have n51 : ∀ x, x < h0.size → Safe Z EL0 s.vm h0 x → x ≠ a41 := fun x hx S => f45 x (Nat.lt_of_lt_of_le hx X17.g0) (CHr.safe C37 (Nat.lt_of_lt_of_le hx X17.g0) (CHr.safe (hs0 ▸ X17.C) hx S))
      show Go _ _ _ _ _ (mkF _ _ _ [.ref a18])
      refine kAS X39 #[.val (.int i0), .val (.int i1), .val (.int i2), .val (.int i3), .val (.int i4), .val (.int (i0 &&& (255 : Int32))), .val (.int (i1 &&& (255 : Int32))), .val (.int (i2 &&& (255 : Int32))), .val (.int 0), .val (.int 0), .val (.ref a6), .val (.ref a18), .unset, .unset, .unset, .unset] at_128 rfl rfl ?_
      refine kAL X39 at_130 rfl rfl ?_
      refine kIL X39 at_132 rfl ?_
      have f52 := (Exa.keep A22 f44)
      have f53 := (Old.keep f30 f44 (allS g21 all0))
      have f63 := (CHr.safe C38 (f27.lt) s24)
      refine kSTAT X39 (gEL G) (argsL := [.ref a18, .int 0]) (rest := []) (wd G 30 rfl) (wd G 31 rfl) (wd G 32 rfl) (wd G 33 rfl) (by decide) (rm3 G a18 a41 k42 h33 X39.n f53 f52 f46 f48 f47) (allS ⟨(f52.lt), f63⟩ all0) (lenOf pd__Ljava_lang_String_Z_Ljava_lang_String_ rfl) rfl 0 rfl (by decide) hml.symm at_134 (fun v54 T55 h56 vm57 _ w58 q59 C60 C61 X62 => ?_)
      obtain ⟨a65, a66, k67, e68, f69, f70, f71, f72, f73, f74, f75, f76, f77, f78⟩ := q59
      subst e68
      have f80 := (Arv.keep f29 f44 (ninS n25 nin0))
      have n79 : a6 ≠ a65 := Nat.ne_of_lt (Nat.lt_of_lt_of_le (f80.lt) f70)
      have n81 : a18 ≠ a65 := Nat.ne_of_lt (Nat.lt_of_lt_of_le (f52.lt) f70)
      have n82 : a41 ≠ a65 := Nat.ne_of_lt (Nat.lt_of_lt_of_le (f46.lt) f70)
      have n83 : a6 ≠ a66 := Nat.ne_of_lt (Nat.lt_of_lt_of_le (f80.lt) f71)
      have n84 : a18 ≠ a66 := Nat.ne_of_lt (Nat.lt_of_lt_of_le (f52.lt) f71)
      have n85 : a41 ≠ a66 := Nat.ne_of_lt (Nat.lt_of_lt_of_le (f46.lt) f71)
      have g86 : n0 ≤ a65 := Nat.le_trans X39.n f70
      have g87 : h0.size ≤ a65 := Nat.le_trans X39.g0 f70
      have g88 : n0 ≤ a66 := Nat.le_trans X39.n f71
      have g89 : h0.size ≤ a66 := Nat.le_trans X39.g0 f71
      show Go _ _ _ _ _ (mkF _ _ _ [.ref a65])
      refine kAS X62 #[.val (.int i0), .val (.int i1), .val (.int i2), .val (.int i3), .val (.int i4), .val (.int (i0 &&& (255 : Int32))), .val (.int (i1 &&& (255 : Int32))), .val (.int (i2 &&& (255 : Int32))), .val (.int 0), .val (.int 0), .val (.ref a6), .val (.ref a18), .val (.ref a65), .unset, .unset, .unset] at_137 rfl rfl ?_
      refine kAL X62 at_139 rfl rfl ?_
      refine kNUf X62 at_141 ?_
      refine kAL X62 at_144 rfl rfl ?_
      have f90 := (Old.keep f53 f69 all0)
      refine kVIRT X62 (gEL G) (argsL := []) (rest := []) (wd G 147 rfl) (wd G 63 rfl) (own_nf X62.hZ (own_noinst (wd G 2 rfl))) (wd G 65 rfl) (wd G 64 rfl) (wd G 3 rfl) (wd G 66 rfl) (by decide) f73 (rm33 G a65 a66 k67 h56 X62.n f90 f75 f77 f74 f73) all0 (lenOf pd___I rfl) rfl 0 rfl (by decide) hml.symm at_146 (fun v91 T92 h93 vm94 _ w95 q96 C97 C98 X99 => ?_)
      obtain ⟨e101, f102⟩ := q96
      subst e101
      subst f102
      show Go _ _ _ _ _ (mkF _ _ _ [.int 6])
      refine kIL X99 at_149 rfl ?_
      refine kBI X99 6 at_151 (by decide) ?_
      refine kIADD X99 6 at_153 (by decide) ?_
      refine kICt X99 159 at_154 (XT.ii_eq_t (by decide)) (by decide) ?_
      refine kIL X99 at_159 rfl ?_
      refine kIFt X99 177 at_161 (XT.i0_le_t (by decide)) (by decide) ?_
      refine kIL X99 at_177 rfl ?_
      refine kIC X99 1 at_179 (by decide) ?_
      refine kICt X99 196 at_180 (XT.ii_le_t (by decide)) (by decide) ?_
      refine kIL X99 at_196 rfl ?_
      refine kIC X99 2 at_198 (by decide) ?_
      refine kICt X99 215 at_199 (XT.ii_le_t (by decide)) (by decide) ?_
      refine kIL X99 at_215 rfl ?_
      refine kIFt X99 225 at_217 (XT.i0_eq_t (by decide)) (by decide) ?_
      refine kBI X99 108 at_225 (by decide) ?_
      refine kIS X99 #[.val (.int i0), .val (.int i1), .val (.int i2), .val (.int i3), .val (.int i4), .val (.int (i0 &&& (255 : Int32))), .val (.int (i1 &&& (255 : Int32))), .val (.int (i2 &&& (255 : Int32))), .val (.int 0), .val (.int 0), .val (.ref a6), .val (.ref a18), .val (.ref a65), .val (.int 108), .unset, .unset] at_227 rfl ?_
      refine kIL X99 at_229 rfl ?_
      refine kIFt X99 239 at_231 (XT.i0_eq_t (by decide)) (by decide) ?_
      refine kBI X99 111 at_239 (by decide) ?_
      refine kIS X99 #[.val (.int i0), .val (.int i1), .val (.int i2), .val (.int i3), .val (.int i4), .val (.int (i0 &&& (255 : Int32))), .val (.int (i1 &&& (255 : Int32))), .val (.int (i2 &&& (255 : Int32))), .val (.int 0), .val (.int 0), .val (.ref a6), .val (.ref a18), .val (.ref a65), .val (.int 108), .val (.int 111), .unset] at_241 rfl ?_
      refine kIL X99 at_243 rfl ?_
      refine kIFt X99 253 at_245 (XT.i0_eq_t (by decide)) (by decide) ?_
      refine kBI X99 119 at_253 (by decide) ?_
      refine kIS X99 #[.val (.int i0), .val (.int i1), .val (.int i2), .val (.int i3), .val (.int i4), .val (.int (i0 &&& (255 : Int32))), .val (.int (i1 &&& (255 : Int32))), .val (.int (i2 &&& (255 : Int32))), .val (.int 0), .val (.int 0), .val (.ref a6), .val (.ref a18), .val (.ref a65), .val (.int 108), .val (.int 111), .val (.int 119)] at_255 rfl ?_
      refine kAL X99 at_257 rfl rfl ?_
      refine kIL X99 at_259 rfl ?_
      refine kVIRT X99 (gEL G) (argsL := [.int 0]) (rest := []) (wd G 148 rfl) (wd G 149 rfl) (own_nf X99.hZ (own_noinst (wd G 2 rfl))) (wd G 151 rfl) (wd G 150 rfl) (wd G 3 rfl) (wd G 152 rfl) (by decide) f73 (gm_ca2 G (0 : Int32) (6 : Int32) (46 : Int32) (46 : Int32) ([.int 46, .int 108, .int 111, .int 119, .int 101, .int 114]) a65 a66 k67 h56 X99.n f90 rfl (by decide) f74 f73 f75 f77 (by decide) (by decide)) all0 (lenOf pd__I_C rfl) rfl 0 rfl (by decide) hml.symm at_261 (fun v103 T104 h105 vm106 _ w107 q108 C109 C110 X111 => ?_)
      obtain ⟨e113, f114⟩ := q108
      subst e113
      subst f114
      show Go _ _ _ _ _ (mkF _ _ _ [.int 46])
      refine kBI X111 46 at_264 (by decide) ?_
      refine kICf X111 at_266 (XT.ii_ne_f (by decide)) ?_
      refine kAL X111 at_269 rfl rfl ?_
      refine kIL X111 at_271 rfl ?_
      refine kIC X111 1 at_273 (by decide) ?_
      refine kIADD X111 1 at_274 (by decide) ?_
      refine kVIRT X111 (gEL G) (argsL := [.int 1]) (rest := []) (wd G 148 rfl) (wd G 149 rfl) (own_nf X111.hZ (own_noinst (wd G 2 rfl))) (wd G 151 rfl) (wd G 150 rfl) (wd G 3 rfl) (wd G 152 rfl) (by decide) f73 (gm_ca2 G (1 : Int32) (6 : Int32) (108 : Int32) (108 : Int32) ([.int 46, .int 108, .int 111, .int 119, .int 101, .int 114]) a65 a66 k67 h56 X111.n f90 rfl (by decide) f74 f73 f75 f77 (by decide) (by decide)) all0 (lenOf pd__I_C rfl) rfl 0 rfl (by decide) hml.symm at_275 (fun v115 T116 h117 vm118 _ w119 q120 C121 C122 X123 => ?_)
      obtain ⟨e125, f126⟩ := q120
      subst e125
      subst f126
      show Go _ _ _ _ _ (mkF _ _ _ [.int 108])
      refine kIL X123 at_278 rfl ?_
      refine kICf X123 at_280 (XT.ii_ne_f (by decide)) ?_
      refine kAL X123 at_283 rfl rfl ?_
      refine kIL X123 at_285 rfl ?_
      refine kIC X123 2 at_287 (by decide) ?_
      refine kIADD X123 2 at_288 (by decide) ?_
      refine kVIRT X123 (gEL G) (argsL := [.int 2]) (rest := []) (wd G 148 rfl) (wd G 149 rfl) (own_nf X123.hZ (own_noinst (wd G 2 rfl))) (wd G 151 rfl) (wd G 150 rfl) (wd G 3 rfl) (wd G 152 rfl) (by decide) f73 (gm_ca2 G (2 : Int32) (6 : Int32) (111 : Int32) (111 : Int32) ([.int 46, .int 108, .int 111, .int 119, .int 101, .int 114]) a65 a66 k67 h56 X123.n f90 rfl (by decide) f74 f73 f75 f77 (by decide) (by decide)) all0 (lenOf pd__I_C rfl) rfl 0 rfl (by decide) hml.symm at_289 (fun v127 T128 h129 vm130 _ w131 q132 C133 C134 X135 => ?_)
      obtain ⟨e137, f138⟩ := q132
      subst e137
      subst f138
      show Go _ _ _ _ _ (mkF _ _ _ [.int 111])
      refine kIL X135 at_292 rfl ?_
      refine kICf X135 at_294 (XT.ii_ne_f (by decide)) ?_
      refine kAL X135 at_297 rfl rfl ?_
      refine kIL X135 at_299 rfl ?_
      refine kIC X135 3 at_301 (by decide) ?_
      refine kIADD X135 3 at_302 (by decide) ?_
      refine kVIRT X135 (gEL G) (argsL := [.int 3]) (rest := []) (wd G 148 rfl) (wd G 149 rfl) (own_nf X135.hZ (own_noinst (wd G 2 rfl))) (wd G 151 rfl) (wd G 150 rfl) (wd G 3 rfl) (wd G 152 rfl) (by decide) f73 (gm_ca2 G (3 : Int32) (6 : Int32) (119 : Int32) (119 : Int32) ([.int 46, .int 108, .int 111, .int 119, .int 101, .int 114]) a65 a66 k67 h56 X135.n f90 rfl (by decide) f74 f73 f75 f77 (by decide) (by decide)) all0 (lenOf pd__I_C rfl) rfl 0 rfl (by decide) hml.symm at_303 (fun v139 T140 h141 vm142 _ w143 q144 C145 C146 X147 => ?_)
      obtain ⟨e149, f150⟩ := q144
      subst e149
      subst f150
      show Go _ _ _ _ _ (mkF _ _ _ [.int 119])
      refine kIL X147 at_306 rfl ?_
      refine kICf X147 at_308 (XT.ii_ne_f (by decide)) ?_
      refine kAL X147 at_311 rfl rfl ?_
      refine kIL X147 at_313 rfl ?_
      refine kIC X147 4 at_315 (by decide) ?_
      refine kIADD X147 4 at_316 (by decide) ?_
      refine kVIRT X147 (gEL G) (argsL := [.int 4]) (rest := []) (wd G 148 rfl) (wd G 149 rfl) (own_nf X147.hZ (own_noinst (wd G 2 rfl))) (wd G 151 rfl) (wd G 150 rfl) (wd G 3 rfl) (wd G 152 rfl) (by decide) f73 (gm_ca2 G (4 : Int32) (6 : Int32) (101 : Int32) (101 : Int32) ([.int 46, .int 108, .int 111, .int 119, .int 101, .int 114]) a65 a66 k67 h56 X147.n f90 rfl (by decide) f74 f73 f75 f77 (by decide) (by decide)) all0 (lenOf pd__I_C rfl) rfl 0 rfl (by decide) hml.symm at_317 (fun v151 T152 h153 vm154 _ w155 q156 C157 C158 X159 => ?_)
      obtain ⟨e161, f162⟩ := q156
      subst e161
      subst f162
      show Go _ _ _ _ _ (mkF _ _ _ [.int 101])
      refine kBI X159 101 at_320 (by decide) ?_
      refine kICf X159 at_322 (XT.ii_ne_f (by decide)) ?_
      refine kAL X159 at_325 rfl rfl ?_
      refine kIL X159 at_327 rfl ?_
      refine kIC X159 5 at_329 (by decide) ?_
      refine kIADD X159 5 at_330 (by decide) ?_
      refine kVIRT X159 (gEL G) (argsL := [.int 5]) (rest := []) (wd G 148 rfl) (wd G 149 rfl) (own_nf X159.hZ (own_noinst (wd G 2 rfl))) (wd G 151 rfl) (wd G 150 rfl) (wd G 3 rfl) (wd G 152 rfl) (by decide) f73 (gm_ca2 G (5 : Int32) (6 : Int32) (114 : Int32) (114 : Int32) ([.int 46, .int 108, .int 111, .int 119, .int 101, .int 114]) a65 a66 k67 h56 X159.n f90 rfl (by decide) f74 f73 f75 f77 (by decide) (by decide)) all0 (lenOf pd__I_C rfl) rfl 0 rfl (by decide) hml.symm at_331 (fun v163 T164 h165 vm166 _ w167 q168 C169 C170 X171 => ?_)
      obtain ⟨e173, f174⟩ := q168
      subst e173
      subst f174
      show Go _ _ _ _ _ (mkF _ _ _ [.int 114])
      refine kBI X171 114 at_334 (by decide) ?_
      refine kICf X171 at_336 (XT.ii_ne_f (by decide)) ?_
      refine kIC X171 1 at_339 (by decide) ?_
      refine kGOTO X171 344 at_340 (by decide) ?_
      exact kRETZ X171 (gEL G) (t := .boolean) hret (by simp) at_344 (fun _ _ => rfl) (by decide)
    · refine kIFf X0 at_33 (XT.i0_eq_f c2) ?_
      refine kIC X0 1 at_36 (by decide) ?_
      refine kGOTO X0 41 at_37 (by decide) ?_
      refine kIS X0 #[.val (.int i0), .val (.int i1), .val (.int i2), .val (.int i3), .val (.int i4), .val (.int (i0 &&& (255 : Int32))), .val (.int (i1 &&& (255 : Int32))), .val (.int (i2 &&& (255 : Int32))), .val (.int 0), .val (.int 1), .unset, .unset, .unset, .unset, .unset, .unset] at_41 rfl ?_
      refine kIL X0 at_43 rfl ?_
      refine kIFf X0 at_45 (XT.i0_ne_f (by decide)) ?_
      refine kIC X0 0 at_48 (by decide) ?_
      refine kNEWP X0 (wd G 0 rfl) (cap := 0) at_49 (by decide) (by decide) (by decide) (by decide) (by decide) (fun T175 h176 a178 k179 E180 q181 g182 A183 s184 X177 => ?_)
      have g185 : h0.size ≤ a178 := q181 ▸ X0.g0
      have f186 : Arv Z h176 a178 k179 .char 0 [] (.int 0) := A183.pad (pad_rep [] _ 0)
      refine kAS X177 #[.val (.int i0), .val (.int i1), .val (.int i2), .val (.int i3), .val (.int i4), .val (.int (i0 &&& (255 : Int32))), .val (.int (i1 &&& (255 : Int32))), .val (.int (i2 &&& (255 : Int32))), .val (.int 0), .val (.int 1), .val (.ref a178), .unset, .unset, .unset, .unset, .unset] at_51 rfl rfl ?_
      refine kGOTO X177 119 at_53 (by decide) ?_
      refine kNEW X177 (wd G 1 rfl) (wd G 2 rfl) (wd G 3 rfl) at_119 (by decide) (by decide) (fun T187 h188 a190 E191 q192 g193 A194 D195 s196 X189 => ?_)
      have n197 : a178 ≠ a190 := Nat.ne_of_lt (Nat.lt_of_lt_of_le (f186.lt) (Nat.le_of_eq q192.symm))
      have g198 : h0.size ≤ a190 := q192 ▸ X177.g0
      have f199 : Fld Z h188 a190 "java/lang/String" "coder" "B" (.int 0) := D195 (Or.inr (wd G 27 rfl)) (ty := .byte) (by decide)
      have f200 : Fld Z h188 a190 "java/lang/String" "value" "[B" (.null) := D195 (Or.inr (wd G 29 rfl)) (ty := (.array (.byte))) (by decide)
      refine kDUP X189 at_122 rfl ?_
      refine kAL X189 at_123 rfl rfl ?_
      have f201 := (Arv.ext f186 E191)
      have f202 := (Old.ext (Old.ext O0 E180) E191)
      refine kSPEC X189 (gEL G) (argsL := [.ref a178]) (rest := [.ref a190]) (wd G 4 rfl) (wd G 5 rfl) (wd G 3 rfl) (wd G 6 rfl) rfl (by decide) (rm1 G a190 a178 k179 h188 X189.n f202 f201 A194 f200 n197 f199 g193) (allS ⟨(A194.lt), s196⟩ all0) (lenOf pd___C_V rfl) rfl 1 rfl (by decide) hml.symm at_125 (fun v203 T204 h205 vm206 _ w207 q208 C209 C210 X211 => ?_)
      obtain ⟨a213, k214, e215, f216, f217, f218, f219, f220⟩ := q208
      subst e215
      have n221 : a178 ≠ a213 := f217 a178 (f201.lt) (CHr.safe C209 (f201.lt) (Safe.arv X189.hZ.alike f201 (by decide)))
      have n222 : a190 ≠ a213 := f217 a190 (A194.lt) (CHr.safe C209 (A194.lt) s196)
      have n223 : ∀ x, x < h0.size → Safe Z EL0 s.vm h0 x → x ≠ a213 := fun x hx S => f217 x (Nat.lt_of_lt_of_le hx X189.g0) (CHr.safe C209 (Nat.lt_of_lt_of_le hx X189.g0) (CHr.safe (hs0 ▸ X189.C) hx S))
      show Go _ _ _ _ _ (mkF _ _ _ [.ref a190])
      refine kAS X211 #[.val (.int i0), .val (.int i1), .val (.int i2), .val (.int i3), .val (.int i4), .val (.int (i0 &&& (255 : Int32))), .val (.int (i1 &&& (255 : Int32))), .val (.int (i2 &&& (255 : Int32))), .val (.int 0), .val (.int 1), .val (.ref a178), .val (.ref a190), .unset, .unset, .unset, .unset] at_128 rfl rfl ?_
      refine kAL X211 at_130 rfl rfl ?_
      refine kIL X211 at_132 rfl ?_
      have f224 := (Exa.keep A194 f216)
      have f225 := (Old.keep f202 f216 (allS g193 all0))
      have f235 := (CHr.safe C210 (f199.lt) s196)
      refine kSTAT X211 (gEL G) (argsL := [.ref a190, .int 1]) (rest := []) (wd G 30 rfl) (wd G 31 rfl) (wd G 32 rfl) (wd G 33 rfl) (by decide) (rm36 G a190 a213 k214 h205 X211.n f225 f224 f218 f220 f219) (allS ⟨(f224.lt), f235⟩ all0) (lenOf pd__Ljava_lang_String_Z_Ljava_lang_String_ rfl) rfl 0 rfl (by decide) hml.symm at_134 (fun v226 T227 h228 vm229 _ w230 q231 C232 C233 X234 => ?_)
      obtain ⟨a237, a238, k239, e240, f241, f242, f243, f244, f245, f246, f247, f248, f249, f250⟩ := q231
      subst e240
      have f252 := (Arv.keep f201 f216 (ninS n197 nin0))
      have n251 : a178 ≠ a237 := Nat.ne_of_lt (Nat.lt_of_lt_of_le (f252.lt) f242)
      have n253 : a190 ≠ a237 := Nat.ne_of_lt (Nat.lt_of_lt_of_le (f224.lt) f242)
      have n254 : a213 ≠ a237 := Nat.ne_of_lt (Nat.lt_of_lt_of_le (f218.lt) f242)
      have n255 : a178 ≠ a238 := Nat.ne_of_lt (Nat.lt_of_lt_of_le (f252.lt) f243)
      have n256 : a190 ≠ a238 := Nat.ne_of_lt (Nat.lt_of_lt_of_le (f224.lt) f243)
      have n257 : a213 ≠ a238 := Nat.ne_of_lt (Nat.lt_of_lt_of_le (f218.lt) f243)
      have g258 : n0 ≤ a237 := Nat.le_trans X211.n f242
      have g259 : h0.size ≤ a237 := Nat.le_trans X211.g0 f242
      have g260 : n0 ≤ a238 := Nat.le_trans X211.n f243
      have g261 : h0.size ≤ a238 := Nat.le_trans X211.g0 f243
      show Go _ _ _ _ _ (mkF _ _ _ [.ref a237])
      refine kAS X234 #[.val (.int i0), .val (.int i1), .val (.int i2), .val (.int i3), .val (.int i4), .val (.int (i0 &&& (255 : Int32))), .val (.int (i1 &&& (255 : Int32))), .val (.int (i2 &&& (255 : Int32))), .val (.int 0), .val (.int 1), .val (.ref a178), .val (.ref a190), .val (.ref a237), .unset, .unset, .unset] at_137 rfl rfl ?_
      refine kAL X234 at_139 rfl rfl ?_
      refine kNUf X234 at_141 ?_
      refine kAL X234 at_144 rfl rfl ?_
      have f262 := (Old.keep f225 f241 all0)
      refine kVIRT X234 (gEL G) (argsL := []) (rest := []) (wd G 147 rfl) (wd G 63 rfl) (own_nf X234.hZ (own_noinst (wd G 2 rfl))) (wd G 65 rfl) (wd G 64 rfl) (wd G 3 rfl) (wd G 66 rfl) (by decide) f245 (rm53 G a237 a238 k239 h228 X234.n f262 f247 f249 f246 f245) all0 (lenOf pd___I rfl) rfl 0 rfl (by decide) hml.symm at_146 (fun v263 T264 h265 vm266 _ w267 q268 C269 C270 X271 => ?_)
      obtain ⟨e273, f274⟩ := q268
      subst e273
      subst f274
      show Go _ _ _ _ _ (mkF _ _ _ [.int 6])
      refine kIL X271 at_149 rfl ?_
      refine kBI X271 6 at_151 (by decide) ?_
      refine kIADD X271 6 at_153 (by decide) ?_
      refine kICt X271 159 at_154 (XT.ii_eq_t (by decide)) (by decide) ?_
      refine kIL X271 at_159 rfl ?_
      refine kIFt X271 177 at_161 (XT.i0_le_t (by decide)) (by decide) ?_
      refine kIL X271 at_177 rfl ?_
      refine kIC X271 1 at_179 (by decide) ?_
      refine kICt X271 196 at_180 (XT.ii_le_t (by decide)) (by decide) ?_
      refine kIL X271 at_196 rfl ?_
      refine kIC X271 2 at_198 (by decide) ?_
      refine kICt X271 215 at_199 (XT.ii_le_t (by decide)) (by decide) ?_
      refine kIL X271 at_215 rfl ?_
      refine kIFf X271 at_217 (XT.i0_eq_f (by decide)) ?_
      refine kBI X271 117 at_220 (by decide) ?_
      refine kGOTO X271 227 at_222 (by decide) ?_
      refine kIS X271 #[.val (.int i0), .val (.int i1), .val (.int i2), .val (.int i3), .val (.int i4), .val (.int (i0 &&& (255 : Int32))), .val (.int (i1 &&& (255 : Int32))), .val (.int (i2 &&& (255 : Int32))), .val (.int 0), .val (.int 1), .val (.ref a178), .val (.ref a190), .val (.ref a237), .val (.int 117), .unset, .unset] at_227 rfl ?_
      refine kIL X271 at_229 rfl ?_
      refine kIFf X271 at_231 (XT.i0_eq_f (by decide)) ?_
      refine kBI X271 112 at_234 (by decide) ?_
      refine kGOTO X271 241 at_236 (by decide) ?_
      refine kIS X271 #[.val (.int i0), .val (.int i1), .val (.int i2), .val (.int i3), .val (.int i4), .val (.int (i0 &&& (255 : Int32))), .val (.int (i1 &&& (255 : Int32))), .val (.int (i2 &&& (255 : Int32))), .val (.int 0), .val (.int 1), .val (.ref a178), .val (.ref a190), .val (.ref a237), .val (.int 117), .val (.int 112), .unset] at_241 rfl ?_
      refine kIL X271 at_243 rfl ?_
      refine kIFf X271 at_245 (XT.i0_eq_f (by decide)) ?_
      refine kBI X271 112 at_248 (by decide) ?_
      refine kGOTO X271 255 at_250 (by decide) ?_
      refine kIS X271 #[.val (.int i0), .val (.int i1), .val (.int i2), .val (.int i3), .val (.int i4), .val (.int (i0 &&& (255 : Int32))), .val (.int (i1 &&& (255 : Int32))), .val (.int (i2 &&& (255 : Int32))), .val (.int 0), .val (.int 1), .val (.ref a178), .val (.ref a190), .val (.ref a237), .val (.int 117), .val (.int 112), .val (.int 112)] at_255 rfl ?_
      refine kAL X271 at_257 rfl rfl ?_
      refine kIL X271 at_259 rfl ?_
      refine kVIRT X271 (gEL G) (argsL := [.int 0]) (rest := []) (wd G 148 rfl) (wd G 149 rfl) (own_nf X271.hZ (own_noinst (wd G 2 rfl))) (wd G 151 rfl) (wd G 150 rfl) (wd G 3 rfl) (wd G 152 rfl) (by decide) f245 (gm_ca2 G (0 : Int32) (6 : Int32) (46 : Int32) (46 : Int32) ([.int 46, .int 117, .int 112, .int 112, .int 101, .int 114]) a237 a238 k239 h228 X271.n f262 rfl (by decide) f246 f245 f247 f249 (by decide) (by decide)) all0 (lenOf pd__I_C rfl) rfl 0 rfl (by decide) hml.symm at_261 (fun v275 T276 h277 vm278 _ w279 q280 C281 C282 X283 => ?_)
      obtain ⟨e285, f286⟩ := q280
      subst e285
      subst f286
      show Go _ _ _ _ _ (mkF _ _ _ [.int 46])
      refine kBI X283 46 at_264 (by decide) ?_
      refine kICf X283 at_266 (XT.ii_ne_f (by decide)) ?_
      refine kAL X283 at_269 rfl rfl ?_
      refine kIL X283 at_271 rfl ?_
      refine kIC X283 1 at_273 (by decide) ?_
      refine kIADD X283 1 at_274 (by decide) ?_
      refine kVIRT X283 (gEL G) (argsL := [.int 1]) (rest := []) (wd G 148 rfl) (wd G 149 rfl) (own_nf X283.hZ (own_noinst (wd G 2 rfl))) (wd G 151 rfl) (wd G 150 rfl) (wd G 3 rfl) (wd G 152 rfl) (by decide) f245 (gm_ca2 G (1 : Int32) (6 : Int32) (117 : Int32) (117 : Int32) ([.int 46, .int 117, .int 112, .int 112, .int 101, .int 114]) a237 a238 k239 h228 X283.n f262 rfl (by decide) f246 f245 f247 f249 (by decide) (by decide)) all0 (lenOf pd__I_C rfl) rfl 0 rfl (by decide) hml.symm at_275 (fun v287 T288 h289 vm290 _ w291 q292 C293 C294 X295 => ?_)
      obtain ⟨e297, f298⟩ := q292
      subst e297
      subst f298
      show Go _ _ _ _ _ (mkF _ _ _ [.int 117])
      refine kIL X295 at_278 rfl ?_
      refine kICf X295 at_280 (XT.ii_ne_f (by decide)) ?_
      refine kAL X295 at_283 rfl rfl ?_
      refine kIL X295 at_285 rfl ?_
      refine kIC X295 2 at_287 (by decide) ?_
      refine kIADD X295 2 at_288 (by decide) ?_
      refine kVIRT X295 (gEL G) (argsL := [.int 2]) (rest := []) (wd G 148 rfl) (wd G 149 rfl) (own_nf X295.hZ (own_noinst (wd G 2 rfl))) (wd G 151 rfl) (wd G 150 rfl) (wd G 3 rfl) (wd G 152 rfl) (by decide) f245 (gm_ca2 G (2 : Int32) (6 : Int32) (112 : Int32) (112 : Int32) ([.int 46, .int 117, .int 112, .int 112, .int 101, .int 114]) a237 a238 k239 h228 X295.n f262 rfl (by decide) f246 f245 f247 f249 (by decide) (by decide)) all0 (lenOf pd__I_C rfl) rfl 0 rfl (by decide) hml.symm at_289 (fun v299 T300 h301 vm302 _ w303 q304 C305 C306 X307 => ?_)
      obtain ⟨e309, f310⟩ := q304
      subst e309
      subst f310
      show Go _ _ _ _ _ (mkF _ _ _ [.int 112])
      refine kIL X307 at_292 rfl ?_
      refine kICf X307 at_294 (XT.ii_ne_f (by decide)) ?_
      refine kAL X307 at_297 rfl rfl ?_
      refine kIL X307 at_299 rfl ?_
      refine kIC X307 3 at_301 (by decide) ?_
      refine kIADD X307 3 at_302 (by decide) ?_
      refine kVIRT X307 (gEL G) (argsL := [.int 3]) (rest := []) (wd G 148 rfl) (wd G 149 rfl) (own_nf X307.hZ (own_noinst (wd G 2 rfl))) (wd G 151 rfl) (wd G 150 rfl) (wd G 3 rfl) (wd G 152 rfl) (by decide) f245 (gm_ca2 G (3 : Int32) (6 : Int32) (112 : Int32) (112 : Int32) ([.int 46, .int 117, .int 112, .int 112, .int 101, .int 114]) a237 a238 k239 h228 X307.n f262 rfl (by decide) f246 f245 f247 f249 (by decide) (by decide)) all0 (lenOf pd__I_C rfl) rfl 0 rfl (by decide) hml.symm at_303 (fun v311 T312 h313 vm314 _ w315 q316 C317 C318 X319 => ?_)
      obtain ⟨e321, f322⟩ := q316
      subst e321
      subst f322
      show Go _ _ _ _ _ (mkF _ _ _ [.int 112])
      refine kIL X319 at_306 rfl ?_
      refine kICf X319 at_308 (XT.ii_ne_f (by decide)) ?_
      refine kAL X319 at_311 rfl rfl ?_
      refine kIL X319 at_313 rfl ?_
      refine kIC X319 4 at_315 (by decide) ?_
      refine kIADD X319 4 at_316 (by decide) ?_
      refine kVIRT X319 (gEL G) (argsL := [.int 4]) (rest := []) (wd G 148 rfl) (wd G 149 rfl) (own_nf X319.hZ (own_noinst (wd G 2 rfl))) (wd G 151 rfl) (wd G 150 rfl) (wd G 3 rfl) (wd G 152 rfl) (by decide) f245 (gm_ca2 G (4 : Int32) (6 : Int32) (101 : Int32) (101 : Int32) ([.int 46, .int 117, .int 112, .int 112, .int 101, .int 114]) a237 a238 k239 h228 X319.n f262 rfl (by decide) f246 f245 f247 f249 (by decide) (by decide)) all0 (lenOf pd__I_C rfl) rfl 0 rfl (by decide) hml.symm at_317 (fun v323 T324 h325 vm326 _ w327 q328 C329 C330 X331 => ?_)
      obtain ⟨e333, f334⟩ := q328
      subst e333
      subst f334
      show Go _ _ _ _ _ (mkF _ _ _ [.int 101])
      refine kBI X331 101 at_320 (by decide) ?_
      refine kICf X331 at_322 (XT.ii_ne_f (by decide)) ?_
      refine kAL X331 at_325 rfl rfl ?_
      refine kIL X331 at_327 rfl ?_
      refine kIC X331 5 at_329 (by decide) ?_
      refine kIADD X331 5 at_330 (by decide) ?_
      refine kVIRT X331 (gEL G) (argsL := [.int 5]) (rest := []) (wd G 148 rfl) (wd G 149 rfl) (own_nf X331.hZ (own_noinst (wd G 2 rfl))) (wd G 151 rfl) (wd G 150 rfl) (wd G 3 rfl) (wd G 152 rfl) (by decide) f245 (gm_ca2 G (5 : Int32) (6 : Int32) (114 : Int32) (114 : Int32) ([.int 46, .int 117, .int 112, .int 112, .int 101, .int 114]) a237 a238 k239 h228 X331.n f262 rfl (by decide) f246 f245 f247 f249 (by decide) (by decide)) all0 (lenOf pd__I_C rfl) rfl 0 rfl (by decide) hml.symm at_331 (fun v335 T336 h337 vm338 _ w339 q340 C341 C342 X343 => ?_)
      obtain ⟨e345, f346⟩ := q340
      subst e345
      subst f346
      show Go _ _ _ _ _ (mkF _ _ _ [.int 114])
      refine kBI X343 114 at_334 (by decide) ?_
      refine kICf X343 at_336 (XT.ii_ne_f (by decide)) ?_
      refine kIC X343 1 at_339 (by decide) ?_
      refine kGOTO X343 344 at_340 (by decide) ?_
      exact kRETZ X343 (gEL G) (t := .boolean) hret (by simp) at_344 (fun _ _ => rfl) (by decide)
  · rw [hk1]
    clear hk1
    refine kIL X0 at_29 rfl ?_
    refine kIC X0 1 at_31 (by decide) ?_
    refine kIAND X0 (i4 &&& (1 : Int32)) at_32 rfl ?_
    by_cases c347 : (i4 &&& (1 : Int32)) = 0
    · refine kIFt X0 40 at_33 (XT.i0_eq_t c347) (by decide) ?_
      refine kIC X0 0 at_40 (by decide) ?_
      refine kIS X0 #[.val (.int i0), .val (.int i1), .val (.int i2), .val (.int i3), .val (.int i4), .val (.int (i0 &&& (255 : Int32))), .val (.int (i1 &&& (255 : Int32))), .val (.int (i2 &&& (255 : Int32))), .val (.int 1), .val (.int 0), .unset, .unset, .unset, .unset, .unset, .unset] at_41 rfl ?_
      refine kIL X0 at_43 rfl ?_
      refine kIFt X0 56 at_45 (XT.i0_ne_t (by decide)) (by decide) ?_
      refine kIL X0 at_56 rfl ?_
      refine kIC X0 1 at_58 (by decide) ?_
      refine kICf X0 at_59 (XT.ii_ne_f (by decide)) ?_
      refine kIC X0 1 at_62 (by decide) ?_
      refine kNEWP X0 (wd G 0 rfl) (cap := 1) at_63 (by decide) (by decide) (by decide) (by decide) (by decide) (fun T348 h349 a351 k352 E353 q354 g355 A356 s357 X350 => ?_)
      have g358 : h0.size ≤ a351 := q354 ▸ X0.g0
      have f359 : Arv Z h349 a351 k352 .char 1 [.int 0] (.int 0) := A356.pad (pad_rep [] _ 1)
      refine kDUP X350 at_65 rfl ?_
      refine kIC X350 0 at_66 (by decide) ?_
      refine kIL X350 at_67 rfl ?_
      refine kCASTO X350 f359 (by decide) 0 (i0 &&& (255 : Int32)) (own_nc (own_mask _).1 (own_mask _).2) (by decide) (by show 0 < 1; decide) g355 (Safe.arv X350.hZ.alike f359 (by decide)) at_69 (fun T360 h361 L363 W364 f365 X362 => ?_)
      have f366 : Arv Z h361 a351 k352 .char 1 [.int (i0 &&& (255 : Int32))] (.int 0) := f365
      refine kAS X362 #[.val (.int i0), .val (.int i1), .val (.int i2), .val (.int i3), .val (.int i4), .val (.int (i0 &&& (255 : Int32))), .val (.int (i1 &&& (255 : Int32))), .val (.int (i2 &&& (255 : Int32))), .val (.int 1), .val (.int 0), .val (.ref a351), .unset, .unset, .unset, .unset, .unset] at_70 rfl rfl ?_
      refine kGOTO X362 119 at_72 (by decide) ?_
      refine kNEW X362 (wd G 1 rfl) (wd G 2 rfl) (wd G 3 rfl) at_119 (by decide) (by decide) (fun T367 h368 a370 E371 q372 g373 A374 D375 s376 X369 => ?_)
      have n377 : a351 ≠ a370 := Nat.ne_of_lt (Nat.lt_of_lt_of_le (f366.lt) (Nat.le_of_eq q372.symm))
      have g378 : h0.size ≤ a370 := q372 ▸ X362.g0
      have f379 : Fld Z h368 a370 "java/lang/String" "coder" "B" (.int 0) := D375 (Or.inr (wd G 27 rfl)) (ty := .byte) (by decide)
      have f380 : Fld Z h368 a370 "java/lang/String" "value" "[B" (.null) := D375 (Or.inr (wd G 29 rfl)) (ty := (.array (.byte))) (by decide)
      refine kDUP X369 at_122 rfl ?_
      refine kAL X369 at_123 rfl rfl ?_
      have f381 := (Arv.ext f366 E371)
      have f382 := (Old.ext (Old.wr (Old.ext O0 E353) W364 g355) E371)
      refine kSPEC X369 (gEL G) (argsL := [.ref a351]) (rest := [.ref a370]) (wd G 4 rfl) (wd G 5 rfl) (wd G 3 rfl) (wd G 6 rfl) rfl (by decide) (rm55 G (i0 &&& (255 : Int32)) a370 a351 k352 h368 X369.n f382 f381 (own_mask _).1 (own_mask _).2 A374 f379 f380 g373) (allS ⟨(A374.lt), s376⟩ all0) (lenOf pd___C_V rfl) rfl 1 rfl (by decide) hml.symm at_125 (fun v383 T384 h385 vm386 _ w387 q388 C389 C390 X391 => ?_)
      obtain ⟨a393, k394, e395, f396, f397, f398, f399, f400, f401⟩ := q388
      subst e395
      have n402 : a351 ≠ a393 := Nat.ne_of_lt (Nat.lt_of_lt_of_le (f381.lt) f397)
      have n403 : a370 ≠ a393 := Nat.ne_of_lt (Nat.lt_of_lt_of_le (A374.lt) f397)
      have g404 : n0 ≤ a393 := Nat.le_trans X369.n f397
      have g405 : h0.size ≤ a393 := Nat.le_trans X369.g0 f397
      show Go _ _ _ _ _ (mkF _ _ _ [.ref a370])
      refine kAS X391 #[.val (.int i0), .val (.int i1), .val (.int i2), .val (.int i3), .val (.int i4), .val (.int (i0 &&& (255 : Int32))), .val (.int (i1 &&& (255 : Int32))), .val (.int (i2 &&& (255 : Int32))), .val (.int 1), .val (.int 0), .val (.ref a351), .val (.ref a370), .unset, .unset, .unset, .unset] at_128 rfl rfl ?_
      refine kAL X391 at_130 rfl rfl ?_
      refine kIL X391 at_132 rfl ?_
      have f406 := (Exa.keep A374 f396)
      have f407 := (Old.keep f382 f396 (allS g373 all0))
      have f417 := (CHr.safe C390 (f379.lt) s376)
      refine kSTAT X391 (gEL G) (argsL := [.ref a370, .int 0]) (rest := []) (wd G 30 rfl) (wd G 31 rfl) (wd G 32 rfl) (wd G 33 rfl) (by decide) (rm60 G (ownB (i0 &&& (255 : Int32))) a370 a393 k394 h385 X391.n f407 f406 f398 f401 f400) (allS ⟨(f406.lt), f417⟩ (allS ⟨(f398.lt), f399⟩ all0)) (lenOf pd__Ljava_lang_String_Z_Ljava_lang_String_ rfl) rfl 0 rfl (by decide) hml.symm at_134 (fun v408 T409 h410 vm411 _ w412 q413 C414 C415 X416 => ?_)
      obtain ⟨a419, a420, k421, e422, f423, f424, f425, f426, f427, f428, f429, f430, f431, f432⟩ := q413
      subst e422
      have f434 := (Arv.keep f381 f396 (ninS n377 nin0))
      have n433 : a351 ≠ a419 := Nat.ne_of_lt (Nat.lt_of_lt_of_le (f434.lt) f424)
      have n435 : a370 ≠ a419 := Nat.ne_of_lt (Nat.lt_of_lt_of_le (f406.lt) f424)
      have n436 : a393 ≠ a419 := Nat.ne_of_lt (Nat.lt_of_lt_of_le (f398.lt) f424)
      have n437 : a351 ≠ a420 := Nat.ne_of_lt (Nat.lt_of_lt_of_le (f434.lt) f425)
      have n438 : a370 ≠ a420 := Nat.ne_of_lt (Nat.lt_of_lt_of_le (f406.lt) f425)
      have n439 : a393 ≠ a420 := Nat.ne_of_lt (Nat.lt_of_lt_of_le (f398.lt) f425)
      have g440 : n0 ≤ a419 := Nat.le_trans X391.n f424
      have g441 : h0.size ≤ a419 := Nat.le_trans X391.g0 f424
      have g442 : n0 ≤ a420 := Nat.le_trans X391.n f425
      have g443 : h0.size ≤ a420 := Nat.le_trans X391.g0 f425
      show Go _ _ _ _ _ (mkF _ _ _ [.ref a419])
      refine kAS X416 #[.val (.int i0), .val (.int i1), .val (.int i2), .val (.int i3), .val (.int i4), .val (.int (i0 &&& (255 : Int32))), .val (.int (i1 &&& (255 : Int32))), .val (.int (i2 &&& (255 : Int32))), .val (.int 1), .val (.int 0), .val (.ref a351), .val (.ref a370), .val (.ref a419), .unset, .unset, .unset] at_137 rfl rfl ?_
      refine kAL X416 at_139 rfl rfl ?_
      refine kNUf X416 at_141 ?_
      refine kAL X416 at_144 rfl rfl ?_
      have f444 := (Old.keep f407 f423 all0)
      refine kVIRT X416 (gEL G) (argsL := []) (rest := []) (wd G 147 rfl) (wd G 63 rfl) (own_nf X416.hZ (own_noinst (wd G 2 rfl))) (wd G 65 rfl) (wd G 64 rfl) (wd G 3 rfl) (wd G 66 rfl) (by decide) f427 (rm86 G (ownB (i0 &&& (255 : Int32))) a419 a420 k421 h410 X416.n f444 f429 f431 f428 f427) all0 (lenOf pd___I rfl) rfl 0 rfl (by decide) hml.symm at_146 (fun v445 T446 h447 vm448 _ w449 q450 C451 C452 X453 => ?_)
      obtain ⟨e455, f456⟩ := q450
      subst e455
      subst f456
      show Go _ _ _ _ _ (mkF _ _ _ [.int 7])
      refine kIL X453 at_149 rfl ?_
      refine kBI X453 6 at_151 (by decide) ?_
      refine kIADD X453 7 at_153 (by decide) ?_
      refine kICt X453 159 at_154 (XT.ii_eq_t (by decide)) (by decide) ?_
      refine kIL X453 at_159 rfl ?_
      refine kIFf X453 at_161 (XT.i0_le_f (by decide)) ?_
      refine kAL X453 at_164 rfl rfl ?_
      refine kIC X453 0 at_166 (by decide) ?_
      refine kVIRT X453 (gEL G) (argsL := [.int 0]) (rest := []) (wd G 148 rfl) (wd G 149 rfl) (own_nf X453.hZ (own_noinst (wd G 2 rfl))) (wd G 151 rfl) (wd G 150 rfl) (wd G 3 rfl) (wd G 152 rfl) (by decide) f427 (gm_ca2 G (0 : Int32) (7 : Int32) (ownB (i0 &&& (255 : Int32))) (i0 &&& (255 : Int32)) ([.int (ownB (i0 &&& (255 : Int32))), .int 46, .int 108, .int 111, .int 119, .int 101, .int 114]) a419 a420 k421 h410 X453.n f444 rfl (own_rt (own_mask _).1 (own_mask _).2) f428 f427 f429 f431 (by decide) (by decide)) all0 (lenOf pd__I_C rfl) rfl 0 rfl (by decide) hml.symm at_167 (fun v457 T458 h459 vm460 _ w461 q462 C463 C464 X465 => ?_)
      obtain ⟨e467, f468⟩ := q462
      subst e467
      subst f468
      show Go _ _ _ _ _ (mkF _ _ _ [.int (i0 &&& (255 : Int32))])
      refine kIL X465 at_170 rfl ?_
      refine kICt X465 177 at_172 (XT.ii_eq_t rfl) (by decide) ?_
      refine kIL X465 at_177 rfl ?_
      refine kIC X465 1 at_179 (by decide) ?_
      refine kICt X465 196 at_180 (XT.ii_le_t (by decide)) (by decide) ?_
      refine kIL X465 at_196 rfl ?_
      refine kIC X465 2 at_198 (by decide) ?_
      refine kICt X465 215 at_199 (XT.ii_le_t (by decide)) (by decide) ?_
      refine kIL X465 at_215 rfl ?_
      refine kIFt X465 225 at_217 (XT.i0_eq_t (by decide)) (by decide) ?_
      refine kBI X465 108 at_225 (by decide) ?_
      refine kIS X465 #[.val (.int i0), .val (.int i1), .val (.int i2), .val (.int i3), .val (.int i4), .val (.int (i0 &&& (255 : Int32))), .val (.int (i1 &&& (255 : Int32))), .val (.int (i2 &&& (255 : Int32))), .val (.int 1), .val (.int 0), .val (.ref a351), .val (.ref a370), .val (.ref a419), .val (.int 108), .unset, .unset] at_227 rfl ?_
      refine kIL X465 at_229 rfl ?_
      refine kIFt X465 239 at_231 (XT.i0_eq_t (by decide)) (by decide) ?_
      refine kBI X465 111 at_239 (by decide) ?_
      refine kIS X465 #[.val (.int i0), .val (.int i1), .val (.int i2), .val (.int i3), .val (.int i4), .val (.int (i0 &&& (255 : Int32))), .val (.int (i1 &&& (255 : Int32))), .val (.int (i2 &&& (255 : Int32))), .val (.int 1), .val (.int 0), .val (.ref a351), .val (.ref a370), .val (.ref a419), .val (.int 108), .val (.int 111), .unset] at_241 rfl ?_
      refine kIL X465 at_243 rfl ?_
      refine kIFt X465 253 at_245 (XT.i0_eq_t (by decide)) (by decide) ?_
      refine kBI X465 119 at_253 (by decide) ?_
      refine kIS X465 #[.val (.int i0), .val (.int i1), .val (.int i2), .val (.int i3), .val (.int i4), .val (.int (i0 &&& (255 : Int32))), .val (.int (i1 &&& (255 : Int32))), .val (.int (i2 &&& (255 : Int32))), .val (.int 1), .val (.int 0), .val (.ref a351), .val (.ref a370), .val (.ref a419), .val (.int 108), .val (.int 111), .val (.int 119)] at_255 rfl ?_
      refine kAL X465 at_257 rfl rfl ?_
      refine kIL X465 at_259 rfl ?_
      refine kVIRT X465 (gEL G) (argsL := [.int 1]) (rest := []) (wd G 148 rfl) (wd G 149 rfl) (own_nf X465.hZ (own_noinst (wd G 2 rfl))) (wd G 151 rfl) (wd G 150 rfl) (wd G 3 rfl) (wd G 152 rfl) (by decide) f427 (gm_ca2 G (1 : Int32) (7 : Int32) (46 : Int32) (46 : Int32) ([.int (ownB (i0 &&& (255 : Int32))), .int 46, .int 108, .int 111, .int 119, .int 101, .int 114]) a419 a420 k421 h410 X465.n f444 rfl (by decide) f428 f427 f429 f431 (by decide) (by decide)) all0 (lenOf pd__I_C rfl) rfl 0 rfl (by decide) hml.symm at_261 (fun v469 T470 h471 vm472 _ w473 q474 C475 C476 X477 => ?_)
      obtain ⟨e479, f480⟩ := q474
      subst e479
      subst f480
      show Go _ _ _ _ _ (mkF _ _ _ [.int 46])
      refine kBI X477 46 at_264 (by decide) ?_
      refine kICf X477 at_266 (XT.ii_ne_f (by decide)) ?_
      refine kAL X477 at_269 rfl rfl ?_
      refine kIL X477 at_271 rfl ?_
      refine kIC X477 1 at_273 (by decide) ?_
      refine kIADD X477 2 at_274 (by decide) ?_
      refine kVIRT X477 (gEL G) (argsL := [.int 2]) (rest := []) (wd G 148 rfl) (wd G 149 rfl) (own_nf X477.hZ (own_noinst (wd G 2 rfl))) (wd G 151 rfl) (wd G 150 rfl) (wd G 3 rfl) (wd G 152 rfl) (by decide) f427 (gm_ca2 G (2 : Int32) (7 : Int32) (108 : Int32) (108 : Int32) ([.int (ownB (i0 &&& (255 : Int32))), .int 46, .int 108, .int 111, .int 119, .int 101, .int 114]) a419 a420 k421 h410 X477.n f444 rfl (by decide) f428 f427 f429 f431 (by decide) (by decide)) all0 (lenOf pd__I_C rfl) rfl 0 rfl (by decide) hml.symm at_275 (fun v481 T482 h483 vm484 _ w485 q486 C487 C488 X489 => ?_)
      obtain ⟨e491, f492⟩ := q486
      subst e491
      subst f492
      show Go _ _ _ _ _ (mkF _ _ _ [.int 108])
      refine kIL X489 at_278 rfl ?_
      refine kICf X489 at_280 (XT.ii_ne_f (by decide)) ?_
      refine kAL X489 at_283 rfl rfl ?_
      refine kIL X489 at_285 rfl ?_
      refine kIC X489 2 at_287 (by decide) ?_
      refine kIADD X489 3 at_288 (by decide) ?_
      refine kVIRT X489 (gEL G) (argsL := [.int 3]) (rest := []) (wd G 148 rfl) (wd G 149 rfl) (own_nf X489.hZ (own_noinst (wd G 2 rfl))) (wd G 151 rfl) (wd G 150 rfl) (wd G 3 rfl) (wd G 152 rfl) (by decide) f427 (gm_ca2 G (3 : Int32) (7 : Int32) (111 : Int32) (111 : Int32) ([.int (ownB (i0 &&& (255 : Int32))), .int 46, .int 108, .int 111, .int 119, .int 101, .int 114]) a419 a420 k421 h410 X489.n f444 rfl (by decide) f428 f427 f429 f431 (by decide) (by decide)) all0 (lenOf pd__I_C rfl) rfl 0 rfl (by decide) hml.symm at_289 (fun v493 T494 h495 vm496 _ w497 q498 C499 C500 X501 => ?_)
      obtain ⟨e503, f504⟩ := q498
      subst e503
      subst f504
      show Go _ _ _ _ _ (mkF _ _ _ [.int 111])
      refine kIL X501 at_292 rfl ?_
      refine kICf X501 at_294 (XT.ii_ne_f (by decide)) ?_
      refine kAL X501 at_297 rfl rfl ?_
      refine kIL X501 at_299 rfl ?_
      refine kIC X501 3 at_301 (by decide) ?_
      refine kIADD X501 4 at_302 (by decide) ?_
      refine kVIRT X501 (gEL G) (argsL := [.int 4]) (rest := []) (wd G 148 rfl) (wd G 149 rfl) (own_nf X501.hZ (own_noinst (wd G 2 rfl))) (wd G 151 rfl) (wd G 150 rfl) (wd G 3 rfl) (wd G 152 rfl) (by decide) f427 (gm_ca2 G (4 : Int32) (7 : Int32) (119 : Int32) (119 : Int32) ([.int (ownB (i0 &&& (255 : Int32))), .int 46, .int 108, .int 111, .int 119, .int 101, .int 114]) a419 a420 k421 h410 X501.n f444 rfl (by decide) f428 f427 f429 f431 (by decide) (by decide)) all0 (lenOf pd__I_C rfl) rfl 0 rfl (by decide) hml.symm at_303 (fun v505 T506 h507 vm508 _ w509 q510 C511 C512 X513 => ?_)
      obtain ⟨e515, f516⟩ := q510
      subst e515
      subst f516
      show Go _ _ _ _ _ (mkF _ _ _ [.int 119])
      refine kIL X513 at_306 rfl ?_
      refine kICf X513 at_308 (XT.ii_ne_f (by decide)) ?_
      refine kAL X513 at_311 rfl rfl ?_
      refine kIL X513 at_313 rfl ?_
      refine kIC X513 4 at_315 (by decide) ?_
      refine kIADD X513 5 at_316 (by decide) ?_
      refine kVIRT X513 (gEL G) (argsL := [.int 5]) (rest := []) (wd G 148 rfl) (wd G 149 rfl) (own_nf X513.hZ (own_noinst (wd G 2 rfl))) (wd G 151 rfl) (wd G 150 rfl) (wd G 3 rfl) (wd G 152 rfl) (by decide) f427 (gm_ca2 G (5 : Int32) (7 : Int32) (101 : Int32) (101 : Int32) ([.int (ownB (i0 &&& (255 : Int32))), .int 46, .int 108, .int 111, .int 119, .int 101, .int 114]) a419 a420 k421 h410 X513.n f444 rfl (by decide) f428 f427 f429 f431 (by decide) (by decide)) all0 (lenOf pd__I_C rfl) rfl 0 rfl (by decide) hml.symm at_317 (fun v517 T518 h519 vm520 _ w521 q522 C523 C524 X525 => ?_)
      obtain ⟨e527, f528⟩ := q522
      subst e527
      subst f528
      show Go _ _ _ _ _ (mkF _ _ _ [.int 101])
      refine kBI X525 101 at_320 (by decide) ?_
      refine kICf X525 at_322 (XT.ii_ne_f (by decide)) ?_
      refine kAL X525 at_325 rfl rfl ?_
      refine kIL X525 at_327 rfl ?_
      refine kIC X525 5 at_329 (by decide) ?_
      refine kIADD X525 6 at_330 (by decide) ?_
      refine kVIRT X525 (gEL G) (argsL := [.int 6]) (rest := []) (wd G 148 rfl) (wd G 149 rfl) (own_nf X525.hZ (own_noinst (wd G 2 rfl))) (wd G 151 rfl) (wd G 150 rfl) (wd G 3 rfl) (wd G 152 rfl) (by decide) f427 (gm_ca2 G (6 : Int32) (7 : Int32) (114 : Int32) (114 : Int32) ([.int (ownB (i0 &&& (255 : Int32))), .int 46, .int 108, .int 111, .int 119, .int 101, .int 114]) a419 a420 k421 h410 X525.n f444 rfl (by decide) f428 f427 f429 f431 (by decide) (by decide)) all0 (lenOf pd__I_C rfl) rfl 0 rfl (by decide) hml.symm at_331 (fun v529 T530 h531 vm532 _ w533 q534 C535 C536 X537 => ?_)
      obtain ⟨e539, f540⟩ := q534
      subst e539
      subst f540
      show Go _ _ _ _ _ (mkF _ _ _ [.int 114])
      refine kBI X537 114 at_334 (by decide) ?_
      refine kICf X537 at_336 (XT.ii_ne_f (by decide)) ?_
      refine kIC X537 1 at_339 (by decide) ?_
      refine kGOTO X537 344 at_340 (by decide) ?_
      exact kRETZ X537 (gEL G) (t := .boolean) hret (by simp) at_344 (fun _ _ => rfl) (by decide)
    · refine kIFf X0 at_33 (XT.i0_eq_f c347) ?_
      refine kIC X0 1 at_36 (by decide) ?_
      refine kGOTO X0 41 at_37 (by decide) ?_
      refine kIS X0 #[.val (.int i0), .val (.int i1), .val (.int i2), .val (.int i3), .val (.int i4), .val (.int (i0 &&& (255 : Int32))), .val (.int (i1 &&& (255 : Int32))), .val (.int (i2 &&& (255 : Int32))), .val (.int 1), .val (.int 1), .unset, .unset, .unset, .unset, .unset, .unset] at_41 rfl ?_
      refine kIL X0 at_43 rfl ?_
      refine kIFt X0 56 at_45 (XT.i0_ne_t (by decide)) (by decide) ?_
      refine kIL X0 at_56 rfl ?_
      refine kIC X0 1 at_58 (by decide) ?_
      refine kICf X0 at_59 (XT.ii_ne_f (by decide)) ?_
      refine kIC X0 1 at_62 (by decide) ?_
      refine kNEWP X0 (wd G 0 rfl) (cap := 1) at_63 (by decide) (by decide) (by decide) (by decide) (by decide) (fun T541 h542 a544 k545 E546 q547 g548 A549 s550 X543 => ?_)
      have g551 : h0.size ≤ a544 := q547 ▸ X0.g0
      have f552 : Arv Z h542 a544 k545 .char 1 [.int 0] (.int 0) := A549.pad (pad_rep [] _ 1)
      refine kDUP X543 at_65 rfl ?_
      refine kIC X543 0 at_66 (by decide) ?_
      refine kIL X543 at_67 rfl ?_
      refine kCASTO X543 f552 (by decide) 0 (i0 &&& (255 : Int32)) (own_nc (own_mask _).1 (own_mask _).2) (by decide) (by show 0 < 1; decide) g548 (Safe.arv X543.hZ.alike f552 (by decide)) at_69 (fun T553 h554 L556 W557 f558 X555 => ?_)
      have f559 : Arv Z h554 a544 k545 .char 1 [.int (i0 &&& (255 : Int32))] (.int 0) := f558
      refine kAS X555 #[.val (.int i0), .val (.int i1), .val (.int i2), .val (.int i3), .val (.int i4), .val (.int (i0 &&& (255 : Int32))), .val (.int (i1 &&& (255 : Int32))), .val (.int (i2 &&& (255 : Int32))), .val (.int 1), .val (.int 1), .val (.ref a544), .unset, .unset, .unset, .unset, .unset] at_70 rfl rfl ?_
      refine kGOTO X555 119 at_72 (by decide) ?_
      refine kNEW X555 (wd G 1 rfl) (wd G 2 rfl) (wd G 3 rfl) at_119 (by decide) (by decide) (fun T560 h561 a563 E564 q565 g566 A567 D568 s569 X562 => ?_)
      have n570 : a544 ≠ a563 := Nat.ne_of_lt (Nat.lt_of_lt_of_le (f559.lt) (Nat.le_of_eq q565.symm))
      have g571 : h0.size ≤ a563 := q565 ▸ X555.g0
      have f572 : Fld Z h561 a563 "java/lang/String" "coder" "B" (.int 0) := D568 (Or.inr (wd G 27 rfl)) (ty := .byte) (by decide)
      have f573 : Fld Z h561 a563 "java/lang/String" "value" "[B" (.null) := D568 (Or.inr (wd G 29 rfl)) (ty := (.array (.byte))) (by decide)
      refine kDUP X562 at_122 rfl ?_
      refine kAL X562 at_123 rfl rfl ?_
      have f574 := (Arv.ext f559 E564)
      have f575 := (Old.ext (Old.wr (Old.ext O0 E546) W557 g548) E564)
      refine kSPEC X562 (gEL G) (argsL := [.ref a544]) (rest := [.ref a563]) (wd G 4 rfl) (wd G 5 rfl) (wd G 3 rfl) (wd G 6 rfl) rfl (by decide) (rm55 G (i0 &&& (255 : Int32)) a563 a544 k545 h561 X562.n f575 f574 (own_mask _).1 (own_mask _).2 A567 f572 f573 g566) (allS ⟨(A567.lt), s569⟩ all0) (lenOf pd___C_V rfl) rfl 1 rfl (by decide) hml.symm at_125 (fun v576 T577 h578 vm579 _ w580 q581 C582 C583 X584 => ?_)
      obtain ⟨a586, k587, e588, f589, f590, f591, f592, f593, f594⟩ := q581
      subst e588
      have n595 : a544 ≠ a586 := Nat.ne_of_lt (Nat.lt_of_lt_of_le (f574.lt) f590)
      have n596 : a563 ≠ a586 := Nat.ne_of_lt (Nat.lt_of_lt_of_le (A567.lt) f590)
      have g597 : n0 ≤ a586 := Nat.le_trans X562.n f590
      have g598 : h0.size ≤ a586 := Nat.le_trans X562.g0 f590
      show Go _ _ _ _ _ (mkF _ _ _ [.ref a563])
      refine kAS X584 #[.val (.int i0), .val (.int i1), .val (.int i2), .val (.int i3), .val (.int i4), .val (.int (i0 &&& (255 : Int32))), .val (.int (i1 &&& (255 : Int32))), .val (.int (i2 &&& (255 : Int32))), .val (.int 1), .val (.int 1), .val (.ref a544), .val (.ref a563), .unset, .unset, .unset, .unset] at_128 rfl rfl ?_
      refine kAL X584 at_130 rfl rfl ?_
      refine kIL X584 at_132 rfl ?_
      have f599 := (Exa.keep A567 f589)
      have f600 := (Old.keep f575 f589 (allS g566 all0))
      have f610 := (CHr.safe C583 (f572.lt) s569)
      refine kSTAT X584 (gEL G) (argsL := [.ref a563, .int 1]) (rest := []) (wd G 30 rfl) (wd G 31 rfl) (wd G 32 rfl) (wd G 33 rfl) (by decide) (rm88 G (ownB (i0 &&& (255 : Int32))) a563 a586 k587 h578 X584.n f600 f599 f591 f594 f593) (allS ⟨(f599.lt), f610⟩ (allS ⟨(f591.lt), f592⟩ all0)) (lenOf pd__Ljava_lang_String_Z_Ljava_lang_String_ rfl) rfl 0 rfl (by decide) hml.symm at_134 (fun v601 T602 h603 vm604 _ w605 q606 C607 C608 X609 => ?_)
      obtain ⟨a612, a613, k614, e615, f616, f617, f618, f619, f620, f621, f622, f623, f624, f625⟩ := q606
      subst e615
      have f627 := (Arv.keep f574 f589 (ninS n570 nin0))
      have n626 : a544 ≠ a612 := Nat.ne_of_lt (Nat.lt_of_lt_of_le (f627.lt) f617)
      have n628 : a563 ≠ a612 := Nat.ne_of_lt (Nat.lt_of_lt_of_le (f599.lt) f617)
      have n629 : a586 ≠ a612 := Nat.ne_of_lt (Nat.lt_of_lt_of_le (f591.lt) f617)
      have n630 : a544 ≠ a613 := Nat.ne_of_lt (Nat.lt_of_lt_of_le (f627.lt) f618)
      have n631 : a563 ≠ a613 := Nat.ne_of_lt (Nat.lt_of_lt_of_le (f599.lt) f618)
      have n632 : a586 ≠ a613 := Nat.ne_of_lt (Nat.lt_of_lt_of_le (f591.lt) f618)
      have g633 : n0 ≤ a612 := Nat.le_trans X584.n f617
      have g634 : h0.size ≤ a612 := Nat.le_trans X584.g0 f617
      have g635 : n0 ≤ a613 := Nat.le_trans X584.n f618
      have g636 : h0.size ≤ a613 := Nat.le_trans X584.g0 f618
      show Go _ _ _ _ _ (mkF _ _ _ [.ref a612])
      refine kAS X609 #[.val (.int i0), .val (.int i1), .val (.int i2), .val (.int i3), .val (.int i4), .val (.int (i0 &&& (255 : Int32))), .val (.int (i1 &&& (255 : Int32))), .val (.int (i2 &&& (255 : Int32))), .val (.int 1), .val (.int 1), .val (.ref a544), .val (.ref a563), .val (.ref a612), .unset, .unset, .unset] at_137 rfl rfl ?_
      refine kAL X609 at_139 rfl rfl ?_
      refine kNUf X609 at_141 ?_
      refine kAL X609 at_144 rfl rfl ?_
      have f637 := (Old.keep f600 f616 all0)
      refine kVIRT X609 (gEL G) (argsL := []) (rest := []) (wd G 147 rfl) (wd G 63 rfl) (own_nf X609.hZ (own_noinst (wd G 2 rfl))) (wd G 65 rfl) (wd G 64 rfl) (wd G 3 rfl) (wd G 66 rfl) (by decide) f620 (rm103 G (ownB (i0 &&& (255 : Int32))) a612 a613 k614 h603 X609.n f637 f622 f624 f621 f620) all0 (lenOf pd___I rfl) rfl 0 rfl (by decide) hml.symm at_146 (fun v638 T639 h640 vm641 _ w642 q643 C644 C645 X646 => ?_)
      obtain ⟨e648, f649⟩ := q643
      subst e648
      subst f649
      show Go _ _ _ _ _ (mkF _ _ _ [.int 7])
      refine kIL X646 at_149 rfl ?_
      refine kBI X646 6 at_151 (by decide) ?_
      refine kIADD X646 7 at_153 (by decide) ?_
      refine kICt X646 159 at_154 (XT.ii_eq_t (by decide)) (by decide) ?_
      refine kIL X646 at_159 rfl ?_
      refine kIFf X646 at_161 (XT.i0_le_f (by decide)) ?_
      refine kAL X646 at_164 rfl rfl ?_
      refine kIC X646 0 at_166 (by decide) ?_
      refine kVIRT X646 (gEL G) (argsL := [.int 0]) (rest := []) (wd G 148 rfl) (wd G 149 rfl) (own_nf X646.hZ (own_noinst (wd G 2 rfl))) (wd G 151 rfl) (wd G 150 rfl) (wd G 3 rfl) (wd G 152 rfl) (by decide) f620 (gm_ca2 G (0 : Int32) (7 : Int32) (ownB (i0 &&& (255 : Int32))) (i0 &&& (255 : Int32)) ([.int (ownB (i0 &&& (255 : Int32))), .int 46, .int 117, .int 112, .int 112, .int 101, .int 114]) a612 a613 k614 h603 X646.n f637 rfl (own_rt (own_mask _).1 (own_mask _).2) f621 f620 f622 f624 (by decide) (by decide)) all0 (lenOf pd__I_C rfl) rfl 0 rfl (by decide) hml.symm at_167 (fun v650 T651 h652 vm653 _ w654 q655 C656 C657 X658 => ?_)
      obtain ⟨e660, f661⟩ := q655
      subst e660
      subst f661
      show Go _ _ _ _ _ (mkF _ _ _ [.int (i0 &&& (255 : Int32))])
      refine kIL X658 at_170 rfl ?_
      refine kICt X658 177 at_172 (XT.ii_eq_t rfl) (by decide) ?_
      refine kIL X658 at_177 rfl ?_
      refine kIC X658 1 at_179 (by decide) ?_
      refine kICt X658 196 at_180 (XT.ii_le_t (by decide)) (by decide) ?_
      refine kIL X658 at_196 rfl ?_
      refine kIC X658 2 at_198 (by decide) ?_
      refine kICt X658 215 at_199 (XT.ii_le_t (by decide)) (by decide) ?_
      refine kIL X658 at_215 rfl ?_
      refine kIFf X658 at_217 (XT.i0_eq_f (by decide)) ?_
      refine kBI X658 117 at_220 (by decide) ?_
      refine kGOTO X658 227 at_222 (by decide) ?_
      refine kIS X658 #[.val (.int i0), .val (.int i1), .val (.int i2), .val (.int i3), .val (.int i4), .val (.int (i0 &&& (255 : Int32))), .val (.int (i1 &&& (255 : Int32))), .val (.int (i2 &&& (255 : Int32))), .val (.int 1), .val (.int 1), .val (.ref a544), .val (.ref a563), .val (.ref a612), .val (.int 117), .unset, .unset] at_227 rfl ?_
      refine kIL X658 at_229 rfl ?_
      refine kIFf X658 at_231 (XT.i0_eq_f (by decide)) ?_
      refine kBI X658 112 at_234 (by decide) ?_
      refine kGOTO X658 241 at_236 (by decide) ?_
      refine kIS X658 #[.val (.int i0), .val (.int i1), .val (.int i2), .val (.int i3), .val (.int i4), .val (.int (i0 &&& (255 : Int32))), .val (.int (i1 &&& (255 : Int32))), .val (.int (i2 &&& (255 : Int32))), .val (.int 1), .val (.int 1), .val (.ref a544), .val (.ref a563), .val (.ref a612), .val (.int 117), .val (.int 112), .unset] at_241 rfl ?_
      refine kIL X658 at_243 rfl ?_
      refine kIFf X658 at_245 (XT.i0_eq_f (by decide)) ?_
      refine kBI X658 112 at_248 (by decide) ?_
      refine kGOTO X658 255 at_250 (by decide) ?_
      refine kIS X658 #[.val (.int i0), .val (.int i1), .val (.int i2), .val (.int i3), .val (.int i4), .val (.int (i0 &&& (255 : Int32))), .val (.int (i1 &&& (255 : Int32))), .val (.int (i2 &&& (255 : Int32))), .val (.int 1), .val (.int 1), .val (.ref a544), .val (.ref a563), .val (.ref a612), .val (.int 117), .val (.int 112), .val (.int 112)] at_255 rfl ?_
      refine kAL X658 at_257 rfl rfl ?_
      refine kIL X658 at_259 rfl ?_
      refine kVIRT X658 (gEL G) (argsL := [.int 1]) (rest := []) (wd G 148 rfl) (wd G 149 rfl) (own_nf X658.hZ (own_noinst (wd G 2 rfl))) (wd G 151 rfl) (wd G 150 rfl) (wd G 3 rfl) (wd G 152 rfl) (by decide) f620 (gm_ca2 G (1 : Int32) (7 : Int32) (46 : Int32) (46 : Int32) ([.int (ownB (i0 &&& (255 : Int32))), .int 46, .int 117, .int 112, .int 112, .int 101, .int 114]) a612 a613 k614 h603 X658.n f637 rfl (by decide) f621 f620 f622 f624 (by decide) (by decide)) all0 (lenOf pd__I_C rfl) rfl 0 rfl (by decide) hml.symm at_261 (fun v662 T663 h664 vm665 _ w666 q667 C668 C669 X670 => ?_)
      obtain ⟨e672, f673⟩ := q667
      subst e672
      subst f673
      show Go _ _ _ _ _ (mkF _ _ _ [.int 46])
      refine kBI X670 46 at_264 (by decide) ?_
      refine kICf X670 at_266 (XT.ii_ne_f (by decide)) ?_
      refine kAL X670 at_269 rfl rfl ?_
      refine kIL X670 at_271 rfl ?_
      refine kIC X670 1 at_273 (by decide) ?_
      refine kIADD X670 2 at_274 (by decide) ?_
      refine kVIRT X670 (gEL G) (argsL := [.int 2]) (rest := []) (wd G 148 rfl) (wd G 149 rfl) (own_nf X670.hZ (own_noinst (wd G 2 rfl))) (wd G 151 rfl) (wd G 150 rfl) (wd G 3 rfl) (wd G 152 rfl) (by decide) f620 (gm_ca2 G (2 : Int32) (7 : Int32) (117 : Int32) (117 : Int32) ([.int (ownB (i0 &&& (255 : Int32))), .int 46, .int 117, .int 112, .int 112, .int 101, .int 114]) a612 a613 k614 h603 X670.n f637 rfl (by decide) f621 f620 f622 f624 (by decide) (by decide)) all0 (lenOf pd__I_C rfl) rfl 0 rfl (by decide) hml.symm at_275 (fun v674 T675 h676 vm677 _ w678 q679 C680 C681 X682 => ?_)
      obtain ⟨e684, f685⟩ := q679
      subst e684
      subst f685
      show Go _ _ _ _ _ (mkF _ _ _ [.int 117])
      refine kIL X682 at_278 rfl ?_
      refine kICf X682 at_280 (XT.ii_ne_f (by decide)) ?_
      refine kAL X682 at_283 rfl rfl ?_
      refine kIL X682 at_285 rfl ?_
      refine kIC X682 2 at_287 (by decide) ?_
      refine kIADD X682 3 at_288 (by decide) ?_
      refine kVIRT X682 (gEL G) (argsL := [.int 3]) (rest := []) (wd G 148 rfl) (wd G 149 rfl) (own_nf X682.hZ (own_noinst (wd G 2 rfl))) (wd G 151 rfl) (wd G 150 rfl) (wd G 3 rfl) (wd G 152 rfl) (by decide) f620 (gm_ca2 G (3 : Int32) (7 : Int32) (112 : Int32) (112 : Int32) ([.int (ownB (i0 &&& (255 : Int32))), .int 46, .int 117, .int 112, .int 112, .int 101, .int 114]) a612 a613 k614 h603 X682.n f637 rfl (by decide) f621 f620 f622 f624 (by decide) (by decide)) all0 (lenOf pd__I_C rfl) rfl 0 rfl (by decide) hml.symm at_289 (fun v686 T687 h688 vm689 _ w690 q691 C692 C693 X694 => ?_)
      obtain ⟨e696, f697⟩ := q691
      subst e696
      subst f697
      show Go _ _ _ _ _ (mkF _ _ _ [.int 112])
      refine kIL X694 at_292 rfl ?_
      refine kICf X694 at_294 (XT.ii_ne_f (by decide)) ?_
      refine kAL X694 at_297 rfl rfl ?_
      refine kIL X694 at_299 rfl ?_
      refine kIC X694 3 at_301 (by decide) ?_
      refine kIADD X694 4 at_302 (by decide) ?_
      refine kVIRT X694 (gEL G) (argsL := [.int 4]) (rest := []) (wd G 148 rfl) (wd G 149 rfl) (own_nf X694.hZ (own_noinst (wd G 2 rfl))) (wd G 151 rfl) (wd G 150 rfl) (wd G 3 rfl) (wd G 152 rfl) (by decide) f620 (gm_ca2 G (4 : Int32) (7 : Int32) (112 : Int32) (112 : Int32) ([.int (ownB (i0 &&& (255 : Int32))), .int 46, .int 117, .int 112, .int 112, .int 101, .int 114]) a612 a613 k614 h603 X694.n f637 rfl (by decide) f621 f620 f622 f624 (by decide) (by decide)) all0 (lenOf pd__I_C rfl) rfl 0 rfl (by decide) hml.symm at_303 (fun v698 T699 h700 vm701 _ w702 q703 C704 C705 X706 => ?_)
      obtain ⟨e708, f709⟩ := q703
      subst e708
      subst f709
      show Go _ _ _ _ _ (mkF _ _ _ [.int 112])
      refine kIL X706 at_306 rfl ?_
      refine kICf X706 at_308 (XT.ii_ne_f (by decide)) ?_
      refine kAL X706 at_311 rfl rfl ?_
      refine kIL X706 at_313 rfl ?_
      refine kIC X706 4 at_315 (by decide) ?_
      refine kIADD X706 5 at_316 (by decide) ?_
      refine kVIRT X706 (gEL G) (argsL := [.int 5]) (rest := []) (wd G 148 rfl) (wd G 149 rfl) (own_nf X706.hZ (own_noinst (wd G 2 rfl))) (wd G 151 rfl) (wd G 150 rfl) (wd G 3 rfl) (wd G 152 rfl) (by decide) f620 (gm_ca2 G (5 : Int32) (7 : Int32) (101 : Int32) (101 : Int32) ([.int (ownB (i0 &&& (255 : Int32))), .int 46, .int 117, .int 112, .int 112, .int 101, .int 114]) a612 a613 k614 h603 X706.n f637 rfl (by decide) f621 f620 f622 f624 (by decide) (by decide)) all0 (lenOf pd__I_C rfl) rfl 0 rfl (by decide) hml.symm at_317 (fun v710 T711 h712 vm713 _ w714 q715 C716 C717 X718 => ?_)
      obtain ⟨e720, f721⟩ := q715
      subst e720
      subst f721
      show Go _ _ _ _ _ (mkF _ _ _ [.int 101])
      refine kBI X718 101 at_320 (by decide) ?_
      refine kICf X718 at_322 (XT.ii_ne_f (by decide)) ?_
      refine kAL X718 at_325 rfl rfl ?_
      refine kIL X718 at_327 rfl ?_
      refine kIC X718 5 at_329 (by decide) ?_
      refine kIADD X718 6 at_330 (by decide) ?_
      refine kVIRT X718 (gEL G) (argsL := [.int 6]) (rest := []) (wd G 148 rfl) (wd G 149 rfl) (own_nf X718.hZ (own_noinst (wd G 2 rfl))) (wd G 151 rfl) (wd G 150 rfl) (wd G 3 rfl) (wd G 152 rfl) (by decide) f620 (gm_ca2 G (6 : Int32) (7 : Int32) (114 : Int32) (114 : Int32) ([.int (ownB (i0 &&& (255 : Int32))), .int 46, .int 117, .int 112, .int 112, .int 101, .int 114]) a612 a613 k614 h603 X718.n f637 rfl (by decide) f621 f620 f622 f624 (by decide) (by decide)) all0 (lenOf pd__I_C rfl) rfl 0 rfl (by decide) hml.symm at_331 (fun v722 T723 h724 vm725 _ w726 q727 C728 C729 X730 => ?_)
      obtain ⟨e732, f733⟩ := q727
      subst e732
      subst f733
      show Go _ _ _ _ _ (mkF _ _ _ [.int 114])
      refine kBI X730 114 at_334 (by decide) ?_
      refine kICf X730 at_336 (XT.ii_ne_f (by decide)) ?_
      refine kIC X730 1 at_339 (by decide) ?_
      refine kGOTO X730 344 at_340 (by decide) ?_
      exact kRETZ X730 (gEL G) (t := .boolean) hret (by simp) at_344 (fun _ _ => rfl) (by decide)
  · rw [hk1]
    clear hk1
    refine kIL X0 at_29 rfl ?_
    refine kIC X0 1 at_31 (by decide) ?_
    refine kIAND X0 (i4 &&& (1 : Int32)) at_32 rfl ?_
    by_cases c734 : (i4 &&& (1 : Int32)) = 0
    · refine kIFt X0 40 at_33 (XT.i0_eq_t c734) (by decide) ?_
      refine kIC X0 0 at_40 (by decide) ?_
      refine kIS X0 #[.val (.int i0), .val (.int i1), .val (.int i2), .val (.int i3), .val (.int i4), .val (.int (i0 &&& (255 : Int32))), .val (.int (i1 &&& (255 : Int32))), .val (.int (i2 &&& (255 : Int32))), .val (.int 2), .val (.int 0), .unset, .unset, .unset, .unset, .unset, .unset] at_41 rfl ?_
      refine kIL X0 at_43 rfl ?_
      refine kIFt X0 56 at_45 (XT.i0_ne_t (by decide)) (by decide) ?_
      refine kIL X0 at_56 rfl ?_
      refine kIC X0 1 at_58 (by decide) ?_
      refine kICt X0 75 at_59 (XT.ii_ne_t (by decide)) (by decide) ?_
      refine kIL X0 at_75 rfl ?_
      refine kIC X0 2 at_77 (by decide) ?_
      refine kICf X0 at_78 (XT.ii_ne_f (by decide)) ?_
      refine kIC X0 2 at_81 (by decide) ?_
      refine kNEWP X0 (wd G 0 rfl) (cap := 2) at_82 (by decide) (by decide) (by decide) (by decide) (by decide) (fun T735 h736 a738 k739 E740 q741 g742 A743 s744 X737 => ?_)
      have g745 : h0.size ≤ a738 := q741 ▸ X0.g0
      have f746 : Arv Z h736 a738 k739 .char 2 [.int 0, .int 0] (.int 0) := A743.pad (pad_rep [] _ 2)
      refine kDUP X737 at_84 rfl ?_
      refine kIC X737 0 at_85 (by decide) ?_
      refine kIL X737 at_86 rfl ?_
      refine kCASTO X737 f746 (by decide) 0 (i0 &&& (255 : Int32)) (own_nc (own_mask _).1 (own_mask _).2) (by decide) (by show 0 < 2; decide) g742 (Safe.arv X737.hZ.alike f746 (by decide)) at_88 (fun T747 h748 L750 W751 f752 X749 => ?_)
      have f753 : Arv Z h748 a738 k739 .char 2 [.int (i0 &&& (255 : Int32)), .int 0] (.int 0) := f752
      refine kDUP X749 at_89 rfl ?_
      refine kIC X749 1 at_90 (by decide) ?_
      refine kIL X749 at_91 rfl ?_
      refine kCASTO X749 f753 (by decide) 1 (i1 &&& (255 : Int32)) (own_nc (own_mask _).1 (own_mask _).2) (by decide) (by show 1 < 2; decide) g742 (Safe.arv X749.hZ.alike f753 (by decide)) at_93 (fun T754 h755 L757 W758 f759 X756 => ?_)
      have f760 : Arv Z h755 a738 k739 .char 2 [.int (i0 &&& (255 : Int32)), .int (i1 &&& (255 : Int32))] (.int 0) := f759
      refine kAS X756 #[.val (.int i0), .val (.int i1), .val (.int i2), .val (.int i3), .val (.int i4), .val (.int (i0 &&& (255 : Int32))), .val (.int (i1 &&& (255 : Int32))), .val (.int (i2 &&& (255 : Int32))), .val (.int 2), .val (.int 0), .val (.ref a738), .unset, .unset, .unset, .unset, .unset] at_94 rfl rfl ?_
      refine kGOTO X756 119 at_96 (by decide) ?_
      refine kNEW X756 (wd G 1 rfl) (wd G 2 rfl) (wd G 3 rfl) at_119 (by decide) (by decide) (fun T761 h762 a764 E765 q766 g767 A768 D769 s770 X763 => ?_)
      have n771 : a738 ≠ a764 := Nat.ne_of_lt (Nat.lt_of_lt_of_le (f760.lt) (Nat.le_of_eq q766.symm))
      have g772 : h0.size ≤ a764 := q766 ▸ X756.g0
      have f773 : Fld Z h762 a764 "java/lang/String" "coder" "B" (.int 0) := D769 (Or.inr (wd G 27 rfl)) (ty := .byte) (by decide)
      have f774 : Fld Z h762 a764 "java/lang/String" "value" "[B" (.null) := D769 (Or.inr (wd G 29 rfl)) (ty := (.array (.byte))) (by decide)
      refine kDUP X763 at_122 rfl ?_
      refine kAL X763 at_123 rfl rfl ?_
      have f775 := (Arv.ext f760 E765)
      have f776 := (Old.ext (Old.wr (Old.wr (Old.ext O0 E740) W751 g742) W758 g742) E765)
      refine kSPEC X763 (gEL G) (argsL := [.ref a738]) (rest := [.ref a764]) (wd G 4 rfl) (wd G 5 rfl) (wd G 3 rfl) (wd G 6 rfl) rfl (by decide) (rm105 G (i0 &&& (255 : Int32)) (i1 &&& (255 : Int32)) a764 a738 k739 h762 X763.n f776 f775 (own_mask _).1 (own_mask _).2 (own_mask _).1 (own_mask _).2 A768 f773 f774 g767) (allS ⟨(A768.lt), s770⟩ all0) (lenOf pd___C_V rfl) rfl 1 rfl (by decide) hml.symm at_125 (fun v777 T778 h779 vm780 _ w781 q782 C783 C784 X785 => ?_)
      obtain ⟨a787, k788, e789, f790, f791, f792, f793, f794, f795⟩ := q782
      subst e789
      have n796 : a738 ≠ a787 := Nat.ne_of_lt (Nat.lt_of_lt_of_le (f775.lt) f791)
      have n797 : a764 ≠ a787 := Nat.ne_of_lt (Nat.lt_of_lt_of_le (A768.lt) f791)
      have g798 : n0 ≤ a787 := Nat.le_trans X763.n f791
      have g799 : h0.size ≤ a787 := Nat.le_trans X763.g0 f791
      show Go _ _ _ _ _ (mkF _ _ _ [.ref a764])
      refine kAS X785 #[.val (.int i0), .val (.int i1), .val (.int i2), .val (.int i3), .val (.int i4), .val (.int (i0 &&& (255 : Int32))), .val (.int (i1 &&& (255 : Int32))), .val (.int (i2 &&& (255 : Int32))), .val (.int 2), .val (.int 0), .val (.ref a738), .val (.ref a764), .unset, .unset, .unset, .unset] at_128 rfl rfl ?_
      refine kAL X785 at_130 rfl rfl ?_
      refine kIL X785 at_132 rfl ?_
      have f800 := (Exa.keep A768 f790)
      have f801 := (Old.keep f776 f790 (allS g767 all0))
      have f811 := (CHr.safe C784 (f773.lt) s770)
      refine kSTAT X785 (gEL G) (argsL := [.ref a764, .int 0]) (rest := []) (wd G 30 rfl) (wd G 31 rfl) (wd G 32 rfl) (wd G 33 rfl) (by decide) (rm110 G (ownB (i0 &&& (255 : Int32))) (ownB (i1 &&& (255 : Int32))) a764 a787 k788 h779 X785.n f801 f800 f792 f795 f794) (allS ⟨(f800.lt), f811⟩ (allS ⟨(f792.lt), f793⟩ all0)) (lenOf pd__Ljava_lang_String_Z_Ljava_lang_String_ rfl) rfl 0 rfl (by decide) hml.symm at_134 (fun v802 T803 h804 vm805 _ w806 q807 C808 C809 X810 => ?_)
      obtain ⟨a813, a814, k815, e816, f817, f818, f819, f820, f821, f822, f823, f824, f825, f826⟩ := q807
      subst e816
      have f828 := (Arv.keep f775 f790 (ninS n771 nin0))
      have n827 : a738 ≠ a813 := Nat.ne_of_lt (Nat.lt_of_lt_of_le (f828.lt) f818)
      have n829 : a764 ≠ a813 := Nat.ne_of_lt (Nat.lt_of_lt_of_le (f800.lt) f818)
      have n830 : a787 ≠ a813 := Nat.ne_of_lt (Nat.lt_of_lt_of_le (f792.lt) f818)
      have n831 : a738 ≠ a814 := Nat.ne_of_lt (Nat.lt_of_lt_of_le (f828.lt) f819)
      have n832 : a764 ≠ a814 := Nat.ne_of_lt (Nat.lt_of_lt_of_le (f800.lt) f819)
      have n833 : a787 ≠ a814 := Nat.ne_of_lt (Nat.lt_of_lt_of_le (f792.lt) f819)
      have g834 : n0 ≤ a813 := Nat.le_trans X785.n f818
      have g835 : h0.size ≤ a813 := Nat.le_trans X785.g0 f818
      have g836 : n0 ≤ a814 := Nat.le_trans X785.n f819
      have g837 : h0.size ≤ a814 := Nat.le_trans X785.g0 f819
      show Go _ _ _ _ _ (mkF _ _ _ [.ref a813])
      refine kAS X810 #[.val (.int i0), .val (.int i1), .val (.int i2), .val (.int i3), .val (.int i4), .val (.int (i0 &&& (255 : Int32))), .val (.int (i1 &&& (255 : Int32))), .val (.int (i2 &&& (255 : Int32))), .val (.int 2), .val (.int 0), .val (.ref a738), .val (.ref a764), .val (.ref a813), .unset, .unset, .unset] at_137 rfl rfl ?_
      refine kAL X810 at_139 rfl rfl ?_
      refine kNUf X810 at_141 ?_
      refine kAL X810 at_144 rfl rfl ?_
      have f838 := (Old.keep f801 f817 all0)
      refine kVIRT X810 (gEL G) (argsL := []) (rest := []) (wd G 147 rfl) (wd G 63 rfl) (own_nf X810.hZ (own_noinst (wd G 2 rfl))) (wd G 65 rfl) (wd G 64 rfl) (wd G 3 rfl) (wd G 66 rfl) (by decide) f821 (rm136 G (ownB (i0 &&& (255 : Int32))) (ownB (i1 &&& (255 : Int32))) a813 a814 k815 h804 X810.n f838 f823 f825 f822 f821) all0 (lenOf pd___I rfl) rfl 0 rfl (by decide) hml.symm at_146 (fun v839 T840 h841 vm842 _ w843 q844 C845 C846 X847 => ?_)
      obtain ⟨e849, f850⟩ := q844
      subst e849
      subst f850
      show Go _ _ _ _ _ (mkF _ _ _ [.int 8])
      refine kIL X847 at_149 rfl ?_
      refine kBI X847 6 at_151 (by decide) ?_
      refine kIADD X847 8 at_153 (by decide) ?_
      refine kICt X847 159 at_154 (XT.ii_eq_t (by decide)) (by decide) ?_
      refine kIL X847 at_159 rfl ?_
      refine kIFf X847 at_161 (XT.i0_le_f (by decide)) ?_
      refine kAL X847 at_164 rfl rfl ?_
      refine kIC X847 0 at_166 (by decide) ?_
      refine kVIRT X847 (gEL G) (argsL := [.int 0]) (rest := []) (wd G 148 rfl) (wd G 149 rfl) (own_nf X847.hZ (own_noinst (wd G 2 rfl))) (wd G 151 rfl) (wd G 150 rfl) (wd G 3 rfl) (wd G 152 rfl) (by decide) f821 (gm_ca2 G (0 : Int32) (8 : Int32) (ownB (i0 &&& (255 : Int32))) (i0 &&& (255 : Int32)) ([.int (ownB (i0 &&& (255 : Int32))), .int (ownB (i1 &&& (255 : Int32))), .int 46, .int 108, .int 111, .int 119, .int 101, .int 114]) a813 a814 k815 h804 X847.n f838 rfl (own_rt (own_mask _).1 (own_mask _).2) f822 f821 f823 f825 (by decide) (by decide)) all0 (lenOf pd__I_C rfl) rfl 0 rfl (by decide) hml.symm at_167 (fun v851 T852 h853 vm854 _ w855 q856 C857 C858 X859 => ?_)
      obtain ⟨e861, f862⟩ := q856
      subst e861
      subst f862
      show Go _ _ _ _ _ (mkF _ _ _ [.int (i0 &&& (255 : Int32))])
      refine kIL X859 at_170 rfl ?_
      refine kICt X859 177 at_172 (XT.ii_eq_t rfl) (by decide) ?_
      refine kIL X859 at_177 rfl ?_
      refine kIC X859 1 at_179 (by decide) ?_
      refine kICf X859 at_180 (XT.ii_le_f (by decide)) ?_
      refine kAL X859 at_183 rfl rfl ?_
      refine kIC X859 1 at_185 (by decide) ?_
      refine kVIRT X859 (gEL G) (argsL := [.int 1]) (rest := []) (wd G 148 rfl) (wd G 149 rfl) (own_nf X859.hZ (own_noinst (wd G 2 rfl))) (wd G 151 rfl) (wd G 150 rfl) (wd G 3 rfl) (wd G 152 rfl) (by decide) f821 (gm_ca2 G (1 : Int32) (8 : Int32) (ownB (i1 &&& (255 : Int32))) (i1 &&& (255 : Int32)) ([.int (ownB (i0 &&& (255 : Int32))), .int (ownB (i1 &&& (255 : Int32))), .int 46, .int 108, .int 111, .int 119, .int 101, .int 114]) a813 a814 k815 h804 X859.n f838 rfl (own_rt (own_mask _).1 (own_mask _).2) f822 f821 f823 f825 (by decide) (by decide)) all0 (lenOf pd__I_C rfl) rfl 0 rfl (by decide) hml.symm at_186 (fun v863 T864 h865 vm866 _ w867 q868 C869 C870 X871 => ?_)
      obtain ⟨e873, f874⟩ := q868
      subst e873
      subst f874
      show Go _ _ _ _ _ (mkF _ _ _ [.int (i1 &&& (255 : Int32))])
      refine kIL X871 at_189 rfl ?_
      refine kICt X871 196 at_191 (XT.ii_eq_t rfl) (by decide) ?_
      refine kIL X871 at_196 rfl ?_
      refine kIC X871 2 at_198 (by decide) ?_
      refine kICt X871 215 at_199 (XT.ii_le_t (by decide)) (by decide) ?_
      refine kIL X871 at_215 rfl ?_
      refine kIFt X871 225 at_217 (XT.i0_eq_t (by decide)) (by decide) ?_
      refine kBI X871 108 at_225 (by decide) ?_
      refine kIS X871 #[.val (.int i0), .val (.int i1), .val (.int i2), .val (.int i3), .val (.int i4), .val (.int (i0 &&& (255 : Int32))), .val (.int (i1 &&& (255 : Int32))), .val (.int (i2 &&& (255 : Int32))), .val (.int 2), .val (.int 0), .val (.ref a738), .val (.ref a764), .val (.ref a813), .val (.int 108), .unset, .unset] at_227 rfl ?_
      refine kIL X871 at_229 rfl ?_
      refine kIFt X871 239 at_231 (XT.i0_eq_t (by decide)) (by decide) ?_
      refine kBI X871 111 at_239 (by decide) ?_
      refine kIS X871 #[.val (.int i0), .val (.int i1), .val (.int i2), .val (.int i3), .val (.int i4), .val (.int (i0 &&& (255 : Int32))), .val (.int (i1 &&& (255 : Int32))), .val (.int (i2 &&& (255 : Int32))), .val (.int 2), .val (.int 0), .val (.ref a738), .val (.ref a764), .val (.ref a813), .val (.int 108), .val (.int 111), .unset] at_241 rfl ?_
      refine kIL X871 at_243 rfl ?_
      refine kIFt X871 253 at_245 (XT.i0_eq_t (by decide)) (by decide) ?_
      refine kBI X871 119 at_253 (by decide) ?_
      refine kIS X871 #[.val (.int i0), .val (.int i1), .val (.int i2), .val (.int i3), .val (.int i4), .val (.int (i0 &&& (255 : Int32))), .val (.int (i1 &&& (255 : Int32))), .val (.int (i2 &&& (255 : Int32))), .val (.int 2), .val (.int 0), .val (.ref a738), .val (.ref a764), .val (.ref a813), .val (.int 108), .val (.int 111), .val (.int 119)] at_255 rfl ?_
      refine kAL X871 at_257 rfl rfl ?_
      refine kIL X871 at_259 rfl ?_
      refine kVIRT X871 (gEL G) (argsL := [.int 2]) (rest := []) (wd G 148 rfl) (wd G 149 rfl) (own_nf X871.hZ (own_noinst (wd G 2 rfl))) (wd G 151 rfl) (wd G 150 rfl) (wd G 3 rfl) (wd G 152 rfl) (by decide) f821 (gm_ca2 G (2 : Int32) (8 : Int32) (46 : Int32) (46 : Int32) ([.int (ownB (i0 &&& (255 : Int32))), .int (ownB (i1 &&& (255 : Int32))), .int 46, .int 108, .int 111, .int 119, .int 101, .int 114]) a813 a814 k815 h804 X871.n f838 rfl (by decide) f822 f821 f823 f825 (by decide) (by decide)) all0 (lenOf pd__I_C rfl) rfl 0 rfl (by decide) hml.symm at_261 (fun v875 T876 h877 vm878 _ w879 q880 C881 C882 X883 => ?_)
      obtain ⟨e885, f886⟩ := q880
      subst e885
      subst f886
      show Go _ _ _ _ _ (mkF _ _ _ [.int 46])
      refine kBI X883 46 at_264 (by decide) ?_
      refine kICf X883 at_266 (XT.ii_ne_f (by decide)) ?_
      refine kAL X883 at_269 rfl rfl ?_
      refine kIL X883 at_271 rfl ?_
      refine kIC X883 1 at_273 (by decide) ?_
      refine kIADD X883 3 at_274 (by decide) ?_
      refine kVIRT X883 (gEL G) (argsL := [.int 3]) (rest := []) (wd G 148 rfl) (wd G 149 rfl) (own_nf X883.hZ (own_noinst (wd G 2 rfl))) (wd G 151 rfl) (wd G 150 rfl) (wd G 3 rfl) (wd G 152 rfl) (by decide) f821 (gm_ca2 G (3 : Int32) (8 : Int32) (108 : Int32) (108 : Int32) ([.int (ownB (i0 &&& (255 : Int32))), .int (ownB (i1 &&& (255 : Int32))), .int 46, .int 108, .int 111, .int 119, .int 101, .int 114]) a813 a814 k815 h804 X883.n f838 rfl (by decide) f822 f821 f823 f825 (by decide) (by decide)) all0 (lenOf pd__I_C rfl) rfl 0 rfl (by decide) hml.symm at_275 (fun v887 T888 h889 vm890 _ w891 q892 C893 C894 X895 => ?_)
      obtain ⟨e897, f898⟩ := q892
      subst e897
      subst f898
      show Go _ _ _ _ _ (mkF _ _ _ [.int 108])
      refine kIL X895 at_278 rfl ?_
      refine kICf X895 at_280 (XT.ii_ne_f (by decide)) ?_
      refine kAL X895 at_283 rfl rfl ?_
      refine kIL X895 at_285 rfl ?_
      refine kIC X895 2 at_287 (by decide) ?_
      refine kIADD X895 4 at_288 (by decide) ?_
      refine kVIRT X895 (gEL G) (argsL := [.int 4]) (rest := []) (wd G 148 rfl) (wd G 149 rfl) (own_nf X895.hZ (own_noinst (wd G 2 rfl))) (wd G 151 rfl) (wd G 150 rfl) (wd G 3 rfl) (wd G 152 rfl) (by decide) f821 (gm_ca2 G (4 : Int32) (8 : Int32) (111 : Int32) (111 : Int32) ([.int (ownB (i0 &&& (255 : Int32))), .int (ownB (i1 &&& (255 : Int32))), .int 46, .int 108, .int 111, .int 119, .int 101, .int 114]) a813 a814 k815 h804 X895.n f838 rfl (by decide) f822 f821 f823 f825 (by decide) (by decide)) all0 (lenOf pd__I_C rfl) rfl 0 rfl (by decide) hml.symm at_289 (fun v899 T900 h901 vm902 _ w903 q904 C905 C906 X907 => ?_)
      obtain ⟨e909, f910⟩ := q904
      subst e909
      subst f910
      show Go _ _ _ _ _ (mkF _ _ _ [.int 111])
      refine kIL X907 at_292 rfl ?_
      refine kICf X907 at_294 (XT.ii_ne_f (by decide)) ?_
      refine kAL X907 at_297 rfl rfl ?_
      refine kIL X907 at_299 rfl ?_
      refine kIC X907 3 at_301 (by decide) ?_
      refine kIADD X907 5 at_302 (by decide) ?_
      refine kVIRT X907 (gEL G) (argsL := [.int 5]) (rest := []) (wd G 148 rfl) (wd G 149 rfl) (own_nf X907.hZ (own_noinst (wd G 2 rfl))) (wd G 151 rfl) (wd G 150 rfl) (wd G 3 rfl) (wd G 152 rfl) (by decide) f821 (gm_ca2 G (5 : Int32) (8 : Int32) (119 : Int32) (119 : Int32) ([.int (ownB (i0 &&& (255 : Int32))), .int (ownB (i1 &&& (255 : Int32))), .int 46, .int 108, .int 111, .int 119, .int 101, .int 114]) a813 a814 k815 h804 X907.n f838 rfl (by decide) f822 f821 f823 f825 (by decide) (by decide)) all0 (lenOf pd__I_C rfl) rfl 0 rfl (by decide) hml.symm at_303 (fun v911 T912 h913 vm914 _ w915 q916 C917 C918 X919 => ?_)
      obtain ⟨e921, f922⟩ := q916
      subst e921
      subst f922
      show Go _ _ _ _ _ (mkF _ _ _ [.int 119])
      refine kIL X919 at_306 rfl ?_
      refine kICf X919 at_308 (XT.ii_ne_f (by decide)) ?_
      refine kAL X919 at_311 rfl rfl ?_
      refine kIL X919 at_313 rfl ?_
      refine kIC X919 4 at_315 (by decide) ?_
      refine kIADD X919 6 at_316 (by decide) ?_
      refine kVIRT X919 (gEL G) (argsL := [.int 6]) (rest := []) (wd G 148 rfl) (wd G 149 rfl) (own_nf X919.hZ (own_noinst (wd G 2 rfl))) (wd G 151 rfl) (wd G 150 rfl) (wd G 3 rfl) (wd G 152 rfl) (by decide) f821 (gm_ca2 G (6 : Int32) (8 : Int32) (101 : Int32) (101 : Int32) ([.int (ownB (i0 &&& (255 : Int32))), .int (ownB (i1 &&& (255 : Int32))), .int 46, .int 108, .int 111, .int 119, .int 101, .int 114]) a813 a814 k815 h804 X919.n f838 rfl (by decide) f822 f821 f823 f825 (by decide) (by decide)) all0 (lenOf pd__I_C rfl) rfl 0 rfl (by decide) hml.symm at_317 (fun v923 T924 h925 vm926 _ w927 q928 C929 C930 X931 => ?_)
      obtain ⟨e933, f934⟩ := q928
      subst e933
      subst f934
      show Go _ _ _ _ _ (mkF _ _ _ [.int 101])
      refine kBI X931 101 at_320 (by decide) ?_
      refine kICf X931 at_322 (XT.ii_ne_f (by decide)) ?_
      refine kAL X931 at_325 rfl rfl ?_
      refine kIL X931 at_327 rfl ?_
      refine kIC X931 5 at_329 (by decide) ?_
      refine kIADD X931 7 at_330 (by decide) ?_
      refine kVIRT X931 (gEL G) (argsL := [.int 7]) (rest := []) (wd G 148 rfl) (wd G 149 rfl) (own_nf X931.hZ (own_noinst (wd G 2 rfl))) (wd G 151 rfl) (wd G 150 rfl) (wd G 3 rfl) (wd G 152 rfl) (by decide) f821 (gm_ca2 G (7 : Int32) (8 : Int32) (114 : Int32) (114 : Int32) ([.int (ownB (i0 &&& (255 : Int32))), .int (ownB (i1 &&& (255 : Int32))), .int 46, .int 108, .int 111, .int 119, .int 101, .int 114]) a813 a814 k815 h804 X931.n f838 rfl (by decide) f822 f821 f823 f825 (by decide) (by decide)) all0 (lenOf pd__I_C rfl) rfl 0 rfl (by decide) hml.symm at_331 (fun v935 T936 h937 vm938 _ w939 q940 C941 C942 X943 => ?_)
      obtain ⟨e945, f946⟩ := q940
      subst e945
      subst f946
      show Go _ _ _ _ _ (mkF _ _ _ [.int 114])
      refine kBI X943 114 at_334 (by decide) ?_
      refine kICf X943 at_336 (XT.ii_ne_f (by decide)) ?_
      refine kIC X943 1 at_339 (by decide) ?_
      refine kGOTO X943 344 at_340 (by decide) ?_
      exact kRETZ X943 (gEL G) (t := .boolean) hret (by simp) at_344 (fun _ _ => rfl) (by decide)
    · refine kIFf X0 at_33 (XT.i0_eq_f c734) ?_
      refine kIC X0 1 at_36 (by decide) ?_
      refine kGOTO X0 41 at_37 (by decide) ?_
      refine kIS X0 #[.val (.int i0), .val (.int i1), .val (.int i2), .val (.int i3), .val (.int i4), .val (.int (i0 &&& (255 : Int32))), .val (.int (i1 &&& (255 : Int32))), .val (.int (i2 &&& (255 : Int32))), .val (.int 2), .val (.int 1), .unset, .unset, .unset, .unset, .unset, .unset] at_41 rfl ?_
      refine kIL X0 at_43 rfl ?_
      refine kIFt X0 56 at_45 (XT.i0_ne_t (by decide)) (by decide) ?_
      refine kIL X0 at_56 rfl ?_
      refine kIC X0 1 at_58 (by decide) ?_
      refine kICt X0 75 at_59 (XT.ii_ne_t (by decide)) (by decide) ?_
      refine kIL X0 at_75 rfl ?_
      refine kIC X0 2 at_77 (by decide) ?_
      refine kICf X0 at_78 (XT.ii_ne_f (by decide)) ?_
      refine kIC X0 2 at_81 (by decide) ?_
      refine kNEWP X0 (wd G 0 rfl) (cap := 2) at_82 (by decide) (by decide) (by decide) (by decide) (by decide) (fun T947 h948 a950 k951 E952 q953 g954 A955 s956 X949 => ?_)
      have g957 : h0.size ≤ a950 := q953 ▸ X0.g0
      have f958 : Arv Z h948 a950 k951 .char 2 [.int 0, .int 0] (.int 0) := A955.pad (pad_rep [] _ 2)
      refine kDUP X949 at_84 rfl ?_
      refine kIC X949 0 at_85 (by decide) ?_
      refine kIL X949 at_86 rfl ?_
      refine kCASTO X949 f958 (by decide) 0 (i0 &&& (255 : Int32)) (own_nc (own_mask _).1 (own_mask _).2) (by decide) (by show 0 < 2; decide) g954 (Safe.arv X949.hZ.alike f958 (by decide)) at_88 (fun T959 h960 L962 W963 f964 X961 => ?_)
      have f965 : Arv Z h960 a950 k951 .char 2 [.int (i0 &&& (255 : Int32)), .int 0] (.int 0) := f964
      refine kDUP X961 at_89 rfl ?_
      refine kIC X961 1 at_90 (by decide) ?_
      refine kIL X961 at_91 rfl ?_
      refine kCASTO X961 f965 (by decide) 1 (i1 &&& (255 : Int32)) (own_nc (own_mask _).1 (own_mask _).2) (by decide) (by show 1 < 2; decide) g954 (Safe.arv X961.hZ.alike f965 (by decide)) at_93 (fun T966 h967 L969 W970 f971 X968 => ?_)
      have f972 : Arv Z h967 a950 k951 .char 2 [.int (i0 &&& (255 : Int32)), .int (i1 &&& (255 : Int32))] (.int 0) := f971
      refine kAS X968 #[.val (.int i0), .val (.int i1), .val (.int i2), .val (.int i3), .val (.int i4), .val (.int (i0 &&& (255 : Int32))), .val (.int (i1 &&& (255 : Int32))), .val (.int (i2 &&& (255 : Int32))), .val (.int 2), .val (.int 1), .val (.ref a950), .unset, .unset, .unset, .unset, .unset] at_94 rfl rfl ?_
      refine kGOTO X968 119 at_96 (by decide) ?_
      refine kNEW X968 (wd G 1 rfl) (wd G 2 rfl) (wd G 3 rfl) at_119 (by decide) (by decide) (fun T973 h974 a976 E977 q978 g979 A980 D981 s982 X975 => ?_)
      have n983 : a950 ≠ a976 := Nat.ne_of_lt (Nat.lt_of_lt_of_le (f972.lt) (Nat.le_of_eq q978.symm))
      have g984 : h0.size ≤ a976 := q978 ▸ X968.g0
      have f985 : Fld Z h974 a976 "java/lang/String" "coder" "B" (.int 0) := D981 (Or.inr (wd G 27 rfl)) (ty := .byte) (by decide)
      have f986 : Fld Z h974 a976 "java/lang/String" "value" "[B" (.null) := D981 (Or.inr (wd G 29 rfl)) (ty := (.array (.byte))) (by decide)
      refine kDUP X975 at_122 rfl ?_
      refine kAL X975 at_123 rfl rfl ?_
      have f987 := (Arv.ext f972 E977)
      have f988 := (Old.ext (Old.wr (Old.wr (Old.ext O0 E952) W963 g954) W970 g954) E977)
      refine kSPEC X975 (gEL G) (argsL := [.ref a950]) (rest := [.ref a976]) (wd G 4 rfl) (wd G 5 rfl) (wd G 3 rfl) (wd G 6 rfl) rfl (by decide) (rm105 G (i0 &&& (255 : Int32)) (i1 &&& (255 : Int32)) a976 a950 k951 h974 X975.n f988 f987 (own_mask _).1 (own_mask _).2 (own_mask _).1 (own_mask _).2 A980 f985 f986 g979) (allS ⟨(A980.lt), s982⟩ all0) (lenOf pd___C_V rfl) rfl 1 rfl (by decide) hml.symm at_125 (fun v989 T990 h991 vm992 _ w993 q994 C995 C996 X997 => ?_)
      obtain ⟨a999, k1000, e1001, f1002, f1003, f1004, f1005, f1006, f1007⟩ := q994
      subst e1001
      have n1008 : a950 ≠ a999 := Nat.ne_of_lt (Nat.lt_of_lt_of_le (f987.lt) f1003)
      have n1009 : a976 ≠ a999 := Nat.ne_of_lt (Nat.lt_of_lt_of_le (A980.lt) f1003)
      have g1010 : n0 ≤ a999 := Nat.le_trans X975.n f1003
      have g1011 : h0.size ≤ a999 := Nat.le_trans X975.g0 f1003
      show Go _ _ _ _ _ (mkF _ _ _ [.ref a976])
      refine kAS X997 #[.val (.int i0), .val (.int i1), .val (.int i2), .val (.int i3), .val (.int i4), .val (.int (i0 &&& (255 : Int32))), .val (.int (i1 &&& (255 : Int32))), .val (.int (i2 &&& (255 : Int32))), .val (.int 2), .val (.int 1), .val (.ref a950), .val (.ref a976), .unset, .unset, .unset, .unset] at_128 rfl rfl ?_
      refine kAL X997 at_130 rfl rfl ?_
      refine kIL X997 at_132 rfl ?_
      have f1012 := (Exa.keep A980 f1002)
      have f1013 := (Old.keep f988 f1002 (allS g979 all0))
      have f1023 := (CHr.safe C996 (f985.lt) s982)
      refine kSTAT X997 (gEL G) (argsL := [.ref a976, .int 1]) (rest := []) (wd G 30 rfl) (wd G 31 rfl) (wd G 32 rfl) (wd G 33 rfl) (by decide) (rm138 G (ownB (i0 &&& (255 : Int32))) (ownB (i1 &&& (255 : Int32))) a976 a999 k1000 h991 X997.n f1013 f1012 f1004 f1007 f1006) (allS ⟨(f1012.lt), f1023⟩ (allS ⟨(f1004.lt), f1005⟩ all0)) (lenOf pd__Ljava_lang_String_Z_Ljava_lang_String_ rfl) rfl 0 rfl (by decide) hml.symm at_134 (fun v1014 T1015 h1016 vm1017 _ w1018 q1019 C1020 C1021 X1022 => ?_)
      obtain ⟨a1025, a1026, k1027, e1028, f1029, f1030, f1031, f1032, f1033, f1034, f1035, f1036, f1037, f1038⟩ := q1019
      subst e1028
      have f1040 := (Arv.keep f987 f1002 (ninS n983 nin0))
      have n1039 : a950 ≠ a1025 := Nat.ne_of_lt (Nat.lt_of_lt_of_le (f1040.lt) f1030)
      have n1041 : a976 ≠ a1025 := Nat.ne_of_lt (Nat.lt_of_lt_of_le (f1012.lt) f1030)
      have n1042 : a999 ≠ a1025 := Nat.ne_of_lt (Nat.lt_of_lt_of_le (f1004.lt) f1030)
      have n1043 : a950 ≠ a1026 := Nat.ne_of_lt (Nat.lt_of_lt_of_le (f1040.lt) f1031)
      have n1044 : a976 ≠ a1026 := Nat.ne_of_lt (Nat.lt_of_lt_of_le (f1012.lt) f1031)
      have n1045 : a999 ≠ a1026 := Nat.ne_of_lt (Nat.lt_of_lt_of_le (f1004.lt) f1031)
      have g1046 : n0 ≤ a1025 := Nat.le_trans X997.n f1030
      have g1047 : h0.size ≤ a1025 := Nat.le_trans X997.g0 f1030
      have g1048 : n0 ≤ a1026 := Nat.le_trans X997.n f1031
      have g1049 : h0.size ≤ a1026 := Nat.le_trans X997.g0 f1031
      show Go _ _ _ _ _ (mkF _ _ _ [.ref a1025])
      refine kAS X1022 #[.val (.int i0), .val (.int i1), .val (.int i2), .val (.int i3), .val (.int i4), .val (.int (i0 &&& (255 : Int32))), .val (.int (i1 &&& (255 : Int32))), .val (.int (i2 &&& (255 : Int32))), .val (.int 2), .val (.int 1), .val (.ref a950), .val (.ref a976), .val (.ref a1025), .unset, .unset, .unset] at_137 rfl rfl ?_
      refine kAL X1022 at_139 rfl rfl ?_
      refine kNUf X1022 at_141 ?_
      refine kAL X1022 at_144 rfl rfl ?_
      have f1050 := (Old.keep f1013 f1029 all0)
      refine kVIRT X1022 (gEL G) (argsL := []) (rest := []) (wd G 147 rfl) (wd G 63 rfl) (own_nf X1022.hZ (own_noinst (wd G 2 rfl))) (wd G 65 rfl) (wd G 64 rfl) (wd G 3 rfl) (wd G 66 rfl) (by decide) f1033 (rm153 G (ownB (i0 &&& (255 : Int32))) (ownB (i1 &&& (255 : Int32))) a1025 a1026 k1027 h1016 X1022.n f1050 f1035 f1037 f1034 f1033) all0 (lenOf pd___I rfl) rfl 0 rfl (by decide) hml.symm at_146 (fun v1051 T1052 h1053 vm1054 _ w1055 q1056 C1057 C1058 X1059 => ?_)
      obtain ⟨e1061, f1062⟩ := q1056
      subst e1061
      subst f1062
      show Go _ _ _ _ _ (mkF _ _ _ [.int 8])
      refine kIL X1059 at_149 rfl ?_
      refine kBI X1059 6 at_151 (by decide) ?_
      refine kIADD X1059 8 at_153 (by decide) ?_
      refine kICt X1059 159 at_154 (XT.ii_eq_t (by decide)) (by decide) ?_
      refine kIL X1059 at_159 rfl ?_
      refine kIFf X1059 at_161 (XT.i0_le_f (by decide)) ?_
      refine kAL X1059 at_164 rfl rfl ?_
      refine kIC X1059 0 at_166 (by decide) ?_
      refine kVIRT X1059 (gEL G) (argsL := [.int 0]) (rest := []) (wd G 148 rfl) (wd G 149 rfl) (own_nf X1059.hZ (own_noinst (wd G 2 rfl))) (wd G 151 rfl) (wd G 150 rfl) (wd G 3 rfl) (wd G 152 rfl) (by decide) f1033 (gm_ca2 G (0 : Int32) (8 : Int32) (ownB (i0 &&& (255 : Int32))) (i0 &&& (255 : Int32)) ([.int (ownB (i0 &&& (255 : Int32))), .int (ownB (i1 &&& (255 : Int32))), .int 46, .int 117, .int 112, .int 112, .int 101, .int 114]) a1025 a1026 k1027 h1016 X1059.n f1050 rfl (own_rt (own_mask _).1 (own_mask _).2) f1034 f1033 f1035 f1037 (by decide) (by decide)) all0 (lenOf pd__I_C rfl) rfl 0 rfl (by decide) hml.symm at_167 (fun v1063 T1064 h1065 vm1066 _ w1067 q1068 C1069 C1070 X1071 => ?_)
      obtain ⟨e1073, f1074⟩ := q1068
      subst e1073
      subst f1074
      show Go _ _ _ _ _ (mkF _ _ _ [.int (i0 &&& (255 : Int32))])
      refine kIL X1071 at_170 rfl ?_
      refine kICt X1071 177 at_172 (XT.ii_eq_t rfl) (by decide) ?_
      refine kIL X1071 at_177 rfl ?_
      refine kIC X1071 1 at_179 (by decide) ?_
      refine kICf X1071 at_180 (XT.ii_le_f (by decide)) ?_
      refine kAL X1071 at_183 rfl rfl ?_
      refine kIC X1071 1 at_185 (by decide) ?_
      refine kVIRT X1071 (gEL G) (argsL := [.int 1]) (rest := []) (wd G 148 rfl) (wd G 149 rfl) (own_nf X1071.hZ (own_noinst (wd G 2 rfl))) (wd G 151 rfl) (wd G 150 rfl) (wd G 3 rfl) (wd G 152 rfl) (by decide) f1033 (gm_ca2 G (1 : Int32) (8 : Int32) (ownB (i1 &&& (255 : Int32))) (i1 &&& (255 : Int32)) ([.int (ownB (i0 &&& (255 : Int32))), .int (ownB (i1 &&& (255 : Int32))), .int 46, .int 117, .int 112, .int 112, .int 101, .int 114]) a1025 a1026 k1027 h1016 X1071.n f1050 rfl (own_rt (own_mask _).1 (own_mask _).2) f1034 f1033 f1035 f1037 (by decide) (by decide)) all0 (lenOf pd__I_C rfl) rfl 0 rfl (by decide) hml.symm at_186 (fun v1075 T1076 h1077 vm1078 _ w1079 q1080 C1081 C1082 X1083 => ?_)
      obtain ⟨e1085, f1086⟩ := q1080
      subst e1085
      subst f1086
      show Go _ _ _ _ _ (mkF _ _ _ [.int (i1 &&& (255 : Int32))])
      refine kIL X1083 at_189 rfl ?_
      refine kICt X1083 196 at_191 (XT.ii_eq_t rfl) (by decide) ?_
      refine kIL X1083 at_196 rfl ?_
      refine kIC X1083 2 at_198 (by decide) ?_
      refine kICt X1083 215 at_199 (XT.ii_le_t (by decide)) (by decide) ?_
      refine kIL X1083 at_215 rfl ?_
      refine kIFf X1083 at_217 (XT.i0_eq_f (by decide)) ?_
      refine kBI X1083 117 at_220 (by decide) ?_
      refine kGOTO X1083 227 at_222 (by decide) ?_
      refine kIS X1083 #[.val (.int i0), .val (.int i1), .val (.int i2), .val (.int i3), .val (.int i4), .val (.int (i0 &&& (255 : Int32))), .val (.int (i1 &&& (255 : Int32))), .val (.int (i2 &&& (255 : Int32))), .val (.int 2), .val (.int 1), .val (.ref a950), .val (.ref a976), .val (.ref a1025), .val (.int 117), .unset, .unset] at_227 rfl ?_
      refine kIL X1083 at_229 rfl ?_
      refine kIFf X1083 at_231 (XT.i0_eq_f (by decide)) ?_
      refine kBI X1083 112 at_234 (by decide) ?_
      refine kGOTO X1083 241 at_236 (by decide) ?_
      refine kIS X1083 #[.val (.int i0), .val (.int i1), .val (.int i2), .val (.int i3), .val (.int i4), .val (.int (i0 &&& (255 : Int32))), .val (.int (i1 &&& (255 : Int32))), .val (.int (i2 &&& (255 : Int32))), .val (.int 2), .val (.int 1), .val (.ref a950), .val (.ref a976), .val (.ref a1025), .val (.int 117), .val (.int 112), .unset] at_241 rfl ?_
      refine kIL X1083 at_243 rfl ?_
      refine kIFf X1083 at_245 (XT.i0_eq_f (by decide)) ?_
      refine kBI X1083 112 at_248 (by decide) ?_
      refine kGOTO X1083 255 at_250 (by decide) ?_
      refine kIS X1083 #[.val (.int i0), .val (.int i1), .val (.int i2), .val (.int i3), .val (.int i4), .val (.int (i0 &&& (255 : Int32))), .val (.int (i1 &&& (255 : Int32))), .val (.int (i2 &&& (255 : Int32))), .val (.int 2), .val (.int 1), .val (.ref a950), .val (.ref a976), .val (.ref a1025), .val (.int 117), .val (.int 112), .val (.int 112)] at_255 rfl ?_
      refine kAL X1083 at_257 rfl rfl ?_
      refine kIL X1083 at_259 rfl ?_
      refine kVIRT X1083 (gEL G) (argsL := [.int 2]) (rest := []) (wd G 148 rfl) (wd G 149 rfl) (own_nf X1083.hZ (own_noinst (wd G 2 rfl))) (wd G 151 rfl) (wd G 150 rfl) (wd G 3 rfl) (wd G 152 rfl) (by decide) f1033 (gm_ca2 G (2 : Int32) (8 : Int32) (46 : Int32) (46 : Int32) ([.int (ownB (i0 &&& (255 : Int32))), .int (ownB (i1 &&& (255 : Int32))), .int 46, .int 117, .int 112, .int 112, .int 101, .int 114]) a1025 a1026 k1027 h1016 X1083.n f1050 rfl (by decide) f1034 f1033 f1035 f1037 (by decide) (by decide)) all0 (lenOf pd__I_C rfl) rfl 0 rfl (by decide) hml.symm at_261 (fun v1087 T1088 h1089 vm1090 _ w1091 q1092 C1093 C1094 X1095 => ?_)
      obtain ⟨e1097, f1098⟩ := q1092
      subst e1097
      subst f1098
      show Go _ _ _ _ _ (mkF _ _ _ [.int 46])
      refine kBI X1095 46 at_264 (by decide) ?_
      refine kICf X1095 at_266 (XT.ii_ne_f (by decide)) ?_
      refine kAL X1095 at_269 rfl rfl ?_
      refine kIL X1095 at_271 rfl ?_
      refine kIC X1095 1 at_273 (by decide) ?_
      refine kIADD X1095 3 at_274 (by decide) ?_
      refine kVIRT X1095 (gEL G) (argsL := [.int 3]) (rest := []) (wd G 148 rfl) (wd G 149 rfl) (own_nf X1095.hZ (own_noinst (wd G 2 rfl))) (wd G 151 rfl) (wd G 150 rfl) (wd G 3 rfl) (wd G 152 rfl) (by decide) f1033 (gm_ca2 G (3 : Int32) (8 : Int32) (117 : Int32) (117 : Int32) ([.int (ownB (i0 &&& (255 : Int32))), .int (ownB (i1 &&& (255 : Int32))), .int 46, .int 117, .int 112, .int 112, .int 101, .int 114]) a1025 a1026 k1027 h1016 X1095.n f1050 rfl (by decide) f1034 f1033 f1035 f1037 (by decide) (by decide)) all0 (lenOf pd__I_C rfl) rfl 0 rfl (by decide) hml.symm at_275 (fun v1099 T1100 h1101 vm1102 _ w1103 q1104 C1105 C1106 X1107 => ?_)
      obtain ⟨e1109, f1110⟩ := q1104
      subst e1109
      subst f1110
      show Go _ _ _ _ _ (mkF _ _ _ [.int 117])
      refine kIL X1107 at_278 rfl ?_
      refine kICf X1107 at_280 (XT.ii_ne_f (by decide)) ?_
      refine kAL X1107 at_283 rfl rfl ?_
      refine kIL X1107 at_285 rfl ?_
      refine kIC X1107 2 at_287 (by decide) ?_
      refine kIADD X1107 4 at_288 (by decide) ?_
      refine kVIRT X1107 (gEL G) (argsL := [.int 4]) (rest := []) (wd G 148 rfl) (wd G 149 rfl) (own_nf X1107.hZ (own_noinst (wd G 2 rfl))) (wd G 151 rfl) (wd G 150 rfl) (wd G 3 rfl) (wd G 152 rfl) (by decide) f1033 (gm_ca2 G (4 : Int32) (8 : Int32) (112 : Int32) (112 : Int32) ([.int (ownB (i0 &&& (255 : Int32))), .int (ownB (i1 &&& (255 : Int32))), .int 46, .int 117, .int 112, .int 112, .int 101, .int 114]) a1025 a1026 k1027 h1016 X1107.n f1050 rfl (by decide) f1034 f1033 f1035 f1037 (by decide) (by decide)) all0 (lenOf pd__I_C rfl) rfl 0 rfl (by decide) hml.symm at_289 (fun v1111 T1112 h1113 vm1114 _ w1115 q1116 C1117 C1118 X1119 => ?_)
      obtain ⟨e1121, f1122⟩ := q1116
      subst e1121
      subst f1122
      show Go _ _ _ _ _ (mkF _ _ _ [.int 112])
      refine kIL X1119 at_292 rfl ?_
      refine kICf X1119 at_294 (XT.ii_ne_f (by decide)) ?_
      refine kAL X1119 at_297 rfl rfl ?_
      refine kIL X1119 at_299 rfl ?_
      refine kIC X1119 3 at_301 (by decide) ?_
      refine kIADD X1119 5 at_302 (by decide) ?_
      refine kVIRT X1119 (gEL G) (argsL := [.int 5]) (rest := []) (wd G 148 rfl) (wd G 149 rfl) (own_nf X1119.hZ (own_noinst (wd G 2 rfl))) (wd G 151 rfl) (wd G 150 rfl) (wd G 3 rfl) (wd G 152 rfl) (by decide) f1033 (gm_ca2 G (5 : Int32) (8 : Int32) (112 : Int32) (112 : Int32) ([.int (ownB (i0 &&& (255 : Int32))), .int (ownB (i1 &&& (255 : Int32))), .int 46, .int 117, .int 112, .int 112, .int 101, .int 114]) a1025 a1026 k1027 h1016 X1119.n f1050 rfl (by decide) f1034 f1033 f1035 f1037 (by decide) (by decide)) all0 (lenOf pd__I_C rfl) rfl 0 rfl (by decide) hml.symm at_303 (fun v1123 T1124 h1125 vm1126 _ w1127 q1128 C1129 C1130 X1131 => ?_)
      obtain ⟨e1133, f1134⟩ := q1128
      subst e1133
      subst f1134
      show Go _ _ _ _ _ (mkF _ _ _ [.int 112])
      refine kIL X1131 at_306 rfl ?_
      refine kICf X1131 at_308 (XT.ii_ne_f (by decide)) ?_
      refine kAL X1131 at_311 rfl rfl ?_
      refine kIL X1131 at_313 rfl ?_
      refine kIC X1131 4 at_315 (by decide) ?_
      refine kIADD X1131 6 at_316 (by decide) ?_
      refine kVIRT X1131 (gEL G) (argsL := [.int 6]) (rest := []) (wd G 148 rfl) (wd G 149 rfl) (own_nf X1131.hZ (own_noinst (wd G 2 rfl))) (wd G 151 rfl) (wd G 150 rfl) (wd G 3 rfl) (wd G 152 rfl) (by decide) f1033 (gm_ca2 G (6 : Int32) (8 : Int32) (101 : Int32) (101 : Int32) ([.int (ownB (i0 &&& (255 : Int32))), .int (ownB (i1 &&& (255 : Int32))), .int 46, .int 117, .int 112, .int 112, .int 101, .int 114]) a1025 a1026 k1027 h1016 X1131.n f1050 rfl (by decide) f1034 f1033 f1035 f1037 (by decide) (by decide)) all0 (lenOf pd__I_C rfl) rfl 0 rfl (by decide) hml.symm at_317 (fun v1135 T1136 h1137 vm1138 _ w1139 q1140 C1141 C1142 X1143 => ?_)
      obtain ⟨e1145, f1146⟩ := q1140
      subst e1145
      subst f1146
      show Go _ _ _ _ _ (mkF _ _ _ [.int 101])
      refine kBI X1143 101 at_320 (by decide) ?_
      refine kICf X1143 at_322 (XT.ii_ne_f (by decide)) ?_
      refine kAL X1143 at_325 rfl rfl ?_
      refine kIL X1143 at_327 rfl ?_
      refine kIC X1143 5 at_329 (by decide) ?_
      refine kIADD X1143 7 at_330 (by decide) ?_
      refine kVIRT X1143 (gEL G) (argsL := [.int 7]) (rest := []) (wd G 148 rfl) (wd G 149 rfl) (own_nf X1143.hZ (own_noinst (wd G 2 rfl))) (wd G 151 rfl) (wd G 150 rfl) (wd G 3 rfl) (wd G 152 rfl) (by decide) f1033 (gm_ca2 G (7 : Int32) (8 : Int32) (114 : Int32) (114 : Int32) ([.int (ownB (i0 &&& (255 : Int32))), .int (ownB (i1 &&& (255 : Int32))), .int 46, .int 117, .int 112, .int 112, .int 101, .int 114]) a1025 a1026 k1027 h1016 X1143.n f1050 rfl (by decide) f1034 f1033 f1035 f1037 (by decide) (by decide)) all0 (lenOf pd__I_C rfl) rfl 0 rfl (by decide) hml.symm at_331 (fun v1147 T1148 h1149 vm1150 _ w1151 q1152 C1153 C1154 X1155 => ?_)
      obtain ⟨e1157, f1158⟩ := q1152
      subst e1157
      subst f1158
      show Go _ _ _ _ _ (mkF _ _ _ [.int 114])
      refine kBI X1155 114 at_334 (by decide) ?_
      refine kICf X1155 at_336 (XT.ii_ne_f (by decide)) ?_
      refine kIC X1155 1 at_339 (by decide) ?_
      refine kGOTO X1155 344 at_340 (by decide) ?_
      exact kRETZ X1155 (gEL G) (t := .boolean) hret (by simp) at_344 (fun _ _ => rfl) (by decide)
  · rw [hk1]
    clear hk1
    refine kIL X0 at_29 rfl ?_
    refine kIC X0 1 at_31 (by decide) ?_
    refine kIAND X0 (i4 &&& (1 : Int32)) at_32 rfl ?_
    by_cases c1159 : (i4 &&& (1 : Int32)) = 0
    · refine kIFt X0 40 at_33 (XT.i0_eq_t c1159) (by decide) ?_
      refine kIC X0 0 at_40 (by decide) ?_
      refine kIS X0 #[.val (.int i0), .val (.int i1), .val (.int i2), .val (.int i3), .val (.int i4), .val (.int (i0 &&& (255 : Int32))), .val (.int (i1 &&& (255 : Int32))), .val (.int (i2 &&& (255 : Int32))), .val (.int 3), .val (.int 0), .unset, .unset, .unset, .unset, .unset, .unset] at_41 rfl ?_
      refine kIL X0 at_43 rfl ?_
      refine kIFt X0 56 at_45 (XT.i0_ne_t (by decide)) (by decide) ?_
      refine kIL X0 at_56 rfl ?_
      refine kIC X0 1 at_58 (by decide) ?_
      refine kICt X0 75 at_59 (XT.ii_ne_t (by decide)) (by decide) ?_
      refine kIL X0 at_75 rfl ?_
      refine kIC X0 2 at_77 (by decide) ?_
      refine kICt X0 99 at_78 (XT.ii_ne_t (by decide)) (by decide) ?_
      refine kIC X0 3 at_99 (by decide) ?_
      refine kNEWP X0 (wd G 0 rfl) (cap := 3) at_100 (by decide) (by decide) (by decide) (by decide) (by decide) (fun T1160 h1161 a1163 k1164 E1165 q1166 g1167 A1168 s1169 X1162 => ?_)
      have g1170 : h0.size ≤ a1163 := q1166 ▸ X0.g0
      have f1171 : Arv Z h1161 a1163 k1164 .char 3 [.int 0, .int 0, .int 0] (.int 0) := A1168.pad (pad_rep [] _ 3)
      refine kDUP X1162 at_102 rfl ?_
      refine kIC X1162 0 at_103 (by decide) ?_
      refine kIL X1162 at_104 rfl ?_
      refine kCASTO X1162 f1171 (by decide) 0 (i0 &&& (255 : Int32)) (own_nc (own_mask _).1 (own_mask _).2) (by decide) (by show 0 < 3; decide) g1167 (Safe.arv X1162.hZ.alike f1171 (by decide)) at_106 (fun T1172 h1173 L1175 W1176 f1177 X1174 => ?_)
      have f1178 : Arv Z h1173 a1163 k1164 .char 3 [.int (i0 &&& (255 : Int32)), .int 0, .int 0] (.int 0) := f1177
      refine kDUP X1174 at_107 rfl ?_
      refine kIC X1174 1 at_108 (by decide) ?_
      refine kIL X1174 at_109 rfl ?_
      refine kCASTO X1174 f1178 (by decide) 1 (i1 &&& (255 : Int32)) (own_nc (own_mask _).1 (own_mask _).2) (by decide) (by show 1 < 3; decide) g1167 (Safe.arv X1174.hZ.alike f1178 (by decide)) at_111 (fun T1179 h1180 L1182 W1183 f1184 X1181 => ?_)
      have f1185 : Arv Z h1180 a1163 k1164 .char 3 [.int (i0 &&& (255 : Int32)), .int (i1 &&& (255 : Int32)), .int 0] (.int 0) := f1184
      refine kDUP X1181 at_112 rfl ?_
      refine kIC X1181 2 at_113 (by decide) ?_
      refine kIL X1181 at_114 rfl ?_
      refine kCASTO X1181 f1185 (by decide) 2 (i2 &&& (255 : Int32)) (own_nc (own_mask _).1 (own_mask _).2) (by decide) (by show 2 < 3; decide) g1167 (Safe.arv X1181.hZ.alike f1185 (by decide)) at_116 (fun T1186 h1187 L1189 W1190 f1191 X1188 => ?_)
      have f1192 : Arv Z h1187 a1163 k1164 .char 3 [.int (i0 &&& (255 : Int32)), .int (i1 &&& (255 : Int32)), .int (i2 &&& (255 : Int32))] (.int 0) := f1191
      refine kAS X1188 #[.val (.int i0), .val (.int i1), .val (.int i2), .val (.int i3), .val (.int i4), .val (.int (i0 &&& (255 : Int32))), .val (.int (i1 &&& (255 : Int32))), .val (.int (i2 &&& (255 : Int32))), .val (.int 3), .val (.int 0), .val (.ref a1163), .unset, .unset, .unset, .unset, .unset] at_117 rfl rfl ?_
      refine kNEW X1188 (wd G 1 rfl) (wd G 2 rfl) (wd G 3 rfl) at_119 (by decide) (by decide) (fun T1193 h1194 a1196 E1197 q1198 g1199 A1200 D1201 s1202 X1195 => ?_)
      have n1203 : a1163 ≠ a1196 := Nat.ne_of_lt (Nat.lt_of_lt_of_le (f1192.lt) (Nat.le_of_eq q1198.symm))
      have g1204 : h0.size ≤ a1196 := q1198 ▸ X1188.g0
      have f1205 : Fld Z h1194 a1196 "java/lang/String" "coder" "B" (.int 0) := D1201 (Or.inr (wd G 27 rfl)) (ty := .byte) (by decide)
      have f1206 : Fld Z h1194 a1196 "java/lang/String" "value" "[B" (.null) := D1201 (Or.inr (wd G 29 rfl)) (ty := (.array (.byte))) (by decide)
      refine kDUP X1195 at_122 rfl ?_
      refine kAL X1195 at_123 rfl rfl ?_
      have f1207 := (Arv.ext f1192 E1197)
      have f1208 := (Old.ext (Old.wr (Old.wr (Old.wr (Old.ext O0 E1165) W1176 g1167) W1183 g1167) W1190 g1167) E1197)
      refine kSPEC X1195 (gEL G) (argsL := [.ref a1163]) (rest := [.ref a1196]) (wd G 4 rfl) (wd G 5 rfl) (wd G 3 rfl) (wd G 6 rfl) rfl (by decide) (rm155 G (i0 &&& (255 : Int32)) (i1 &&& (255 : Int32)) (i2 &&& (255 : Int32)) a1196 a1163 k1164 h1194 X1195.n f1208 f1207 (own_mask _).1 (own_mask _).2 (own_mask _).1 (own_mask _).2 (own_mask _).1 (own_mask _).2 A1200 f1205 f1206 g1199) (allS ⟨(A1200.lt), s1202⟩ all0) (lenOf pd___C_V rfl) rfl 1 rfl (by decide) hml.symm at_125 (fun v1209 T1210 h1211 vm1212 _ w1213 q1214 C1215 C1216 X1217 => ?_)
      obtain ⟨a1219, k1220, e1221, f1222, f1223, f1224, f1225, f1226, f1227⟩ := q1214
      subst e1221
      have n1228 : a1163 ≠ a1219 := Nat.ne_of_lt (Nat.lt_of_lt_of_le (f1207.lt) f1223)
      have n1229 : a1196 ≠ a1219 := Nat.ne_of_lt (Nat.lt_of_lt_of_le (A1200.lt) f1223)
      have g1230 : n0 ≤ a1219 := Nat.le_trans X1195.n f1223
      have g1231 : h0.size ≤ a1219 := Nat.le_trans X1195.g0 f1223
      show Go _ _ _ _ _ (mkF _ _ _ [.ref a1196])
      refine kAS X1217 #[.val (.int i0), .val (.int i1), .val (.int i2), .val (.int i3), .val (.int i4), .val (.int (i0 &&& (255 : Int32))), .val (.int (i1 &&& (255 : Int32))), .val (.int (i2 &&& (255 : Int32))), .val (.int 3), .val (.int 0), .val (.ref a1163), .val (.ref a1196), .unset, .unset, .unset, .unset] at_128 rfl rfl ?_
      refine kAL X1217 at_130 rfl rfl ?_
      refine kIL X1217 at_132 rfl ?_
      have f1232 := (Exa.keep A1200 f1222)
      have f1233 := (Old.keep f1208 f1222 (allS g1199 all0))
      have f1243 := (CHr.safe C1216 (f1205.lt) s1202)
      refine kSTAT X1217 (gEL G) (argsL := [.ref a1196, .int 0]) (rest := []) (wd G 30 rfl) (wd G 31 rfl) (wd G 32 rfl) (wd G 33 rfl) (by decide) (rm160 G (ownB (i0 &&& (255 : Int32))) (ownB (i1 &&& (255 : Int32))) (ownB (i2 &&& (255 : Int32))) a1196 a1219 k1220 h1211 X1217.n f1233 f1232 f1224 f1227 f1226) (allS ⟨(f1232.lt), f1243⟩ (allS ⟨(f1224.lt), f1225⟩ all0)) (lenOf pd__Ljava_lang_String_Z_Ljava_lang_String_ rfl) rfl 0 rfl (by decide) hml.symm at_134 (fun v1234 T1235 h1236 vm1237 _ w1238 q1239 C1240 C1241 X1242 => ?_)
      obtain ⟨a1245, a1246, k1247, e1248, f1249, f1250, f1251, f1252, f1253, f1254, f1255, f1256, f1257, f1258⟩ := q1239
      subst e1248
      have f1260 := (Arv.keep f1207 f1222 (ninS n1203 nin0))
      have n1259 : a1163 ≠ a1245 := Nat.ne_of_lt (Nat.lt_of_lt_of_le (f1260.lt) f1250)
      have n1261 : a1196 ≠ a1245 := Nat.ne_of_lt (Nat.lt_of_lt_of_le (f1232.lt) f1250)
      have n1262 : a1219 ≠ a1245 := Nat.ne_of_lt (Nat.lt_of_lt_of_le (f1224.lt) f1250)
      have n1263 : a1163 ≠ a1246 := Nat.ne_of_lt (Nat.lt_of_lt_of_le (f1260.lt) f1251)
      have n1264 : a1196 ≠ a1246 := Nat.ne_of_lt (Nat.lt_of_lt_of_le (f1232.lt) f1251)
      have n1265 : a1219 ≠ a1246 := Nat.ne_of_lt (Nat.lt_of_lt_of_le (f1224.lt) f1251)
      have g1266 : n0 ≤ a1245 := Nat.le_trans X1217.n f1250
      have g1267 : h0.size ≤ a1245 := Nat.le_trans X1217.g0 f1250
      have g1268 : n0 ≤ a1246 := Nat.le_trans X1217.n f1251
      have g1269 : h0.size ≤ a1246 := Nat.le_trans X1217.g0 f1251
      show Go _ _ _ _ _ (mkF _ _ _ [.ref a1245])
      refine kAS X1242 #[.val (.int i0), .val (.int i1), .val (.int i2), .val (.int i3), .val (.int i4), .val (.int (i0 &&& (255 : Int32))), .val (.int (i1 &&& (255 : Int32))), .val (.int (i2 &&& (255 : Int32))), .val (.int 3), .val (.int 0), .val (.ref a1163), .val (.ref a1196), .val (.ref a1245), .unset, .unset, .unset] at_137 rfl rfl ?_
      refine kAL X1242 at_139 rfl rfl ?_
      refine kNUf X1242 at_141 ?_
      refine kAL X1242 at_144 rfl rfl ?_
      have f1270 := (Old.keep f1233 f1249 all0)
      refine kVIRT X1242 (gEL G) (argsL := []) (rest := []) (wd G 147 rfl) (wd G 63 rfl) (own_nf X1242.hZ (own_noinst (wd G 2 rfl))) (wd G 65 rfl) (wd G 64 rfl) (wd G 3 rfl) (wd G 66 rfl) (by decide) f1253 (rm186 G (ownB (i0 &&& (255 : Int32))) (ownB (i1 &&& (255 : Int32))) (ownB (i2 &&& (255 : Int32))) a1245 a1246 k1247 h1236 X1242.n f1270 f1255 f1257 f1254 f1253) all0 (lenOf pd___I rfl) rfl 0 rfl (by decide) hml.symm at_146 (fun v1271 T1272 h1273 vm1274 _ w1275 q1276 C1277 C1278 X1279 => ?_)
      obtain ⟨e1281, f1282⟩ := q1276
      subst e1281
      subst f1282
      show Go _ _ _ _ _ (mkF _ _ _ [.int 9])
      refine kIL X1279 at_149 rfl ?_
      refine kBI X1279 6 at_151 (by decide) ?_
      refine kIADD X1279 9 at_153 (by decide) ?_
      refine kICt X1279 159 at_154 (XT.ii_eq_t (by decide)) (by decide) ?_
      refine kIL X1279 at_159 rfl ?_
      refine kIFf X1279 at_161 (XT.i0_le_f (by decide)) ?_
      refine kAL X1279 at_164 rfl rfl ?_
      refine kIC X1279 0 at_166 (by decide) ?_
      refine kVIRT X1279 (gEL G) (argsL := [.int 0]) (rest := []) (wd G 148 rfl) (wd G 149 rfl) (own_nf X1279.hZ (own_noinst (wd G 2 rfl))) (wd G 151 rfl) (wd G 150 rfl) (wd G 3 rfl) (wd G 152 rfl) (by decide) f1253 (gm_ca2 G (0 : Int32) (9 : Int32) (ownB (i0 &&& (255 : Int32))) (i0 &&& (255 : Int32)) ([.int (ownB (i0 &&& (255 : Int32))), .int (ownB (i1 &&& (255 : Int32))), .int (ownB (i2 &&& (255 : Int32))), .int 46, .int 108, .int 111, .int 119, .int 101, .int 114]) a1245 a1246 k1247 h1236 X1279.n f1270 rfl (own_rt (own_mask _).1 (own_mask _).2) f1254 f1253 f1255 f1257 (by decide) (by decide)) all0 (lenOf pd__I_C rfl) rfl 0 rfl (by decide) hml.symm at_167 (fun v1283 T1284 h1285 vm1286 _ w1287 q1288 C1289 C1290 X1291 => ?_)
      obtain ⟨e1293, f1294⟩ := q1288
      subst e1293
      subst f1294
      show Go _ _ _ _ _ (mkF _ _ _ [.int (i0 &&& (255 : Int32))])
      refine kIL X1291 at_170 rfl ?_
      refine kICt X1291 177 at_172 (XT.ii_eq_t rfl) (by decide) ?_
      refine kIL X1291 at_177 rfl ?_
      refine kIC X1291 1 at_179 (by decide) ?_
      refine kICf X1291 at_180 (XT.ii_le_f (by decide)) ?_
      refine kAL X1291 at_183 rfl rfl ?_
      refine kIC X1291 1 at_185 (by decide) ?_
      refine kVIRT X1291 (gEL G) (argsL := [.int 1]) (rest := []) (wd G 148 rfl) (wd G 149 rfl) (own_nf X1291.hZ (own_noinst (wd G 2 rfl))) (wd G 151 rfl) (wd G 150 rfl) (wd G 3 rfl) (wd G 152 rfl) (by decide) f1253 (gm_ca2 G (1 : Int32) (9 : Int32) (ownB (i1 &&& (255 : Int32))) (i1 &&& (255 : Int32)) ([.int (ownB (i0 &&& (255 : Int32))), .int (ownB (i1 &&& (255 : Int32))), .int (ownB (i2 &&& (255 : Int32))), .int 46, .int 108, .int 111, .int 119, .int 101, .int 114]) a1245 a1246 k1247 h1236 X1291.n f1270 rfl (own_rt (own_mask _).1 (own_mask _).2) f1254 f1253 f1255 f1257 (by decide) (by decide)) all0 (lenOf pd__I_C rfl) rfl 0 rfl (by decide) hml.symm at_186 (fun v1295 T1296 h1297 vm1298 _ w1299 q1300 C1301 C1302 X1303 => ?_)
      obtain ⟨e1305, f1306⟩ := q1300
      subst e1305
      subst f1306
      show Go _ _ _ _ _ (mkF _ _ _ [.int (i1 &&& (255 : Int32))])
      refine kIL X1303 at_189 rfl ?_
      refine kICt X1303 196 at_191 (XT.ii_eq_t rfl) (by decide) ?_
      refine kIL X1303 at_196 rfl ?_
      refine kIC X1303 2 at_198 (by decide) ?_
      refine kICf X1303 at_199 (XT.ii_le_f (by decide)) ?_
      refine kAL X1303 at_202 rfl rfl ?_
      refine kIC X1303 2 at_204 (by decide) ?_
      refine kVIRT X1303 (gEL G) (argsL := [.int 2]) (rest := []) (wd G 148 rfl) (wd G 149 rfl) (own_nf X1303.hZ (own_noinst (wd G 2 rfl))) (wd G 151 rfl) (wd G 150 rfl) (wd G 3 rfl) (wd G 152 rfl) (by decide) f1253 (gm_ca2 G (2 : Int32) (9 : Int32) (ownB (i2 &&& (255 : Int32))) (i2 &&& (255 : Int32)) ([.int (ownB (i0 &&& (255 : Int32))), .int (ownB (i1 &&& (255 : Int32))), .int (ownB (i2 &&& (255 : Int32))), .int 46, .int 108, .int 111, .int 119, .int 101, .int 114]) a1245 a1246 k1247 h1236 X1303.n f1270 rfl (own_rt (own_mask _).1 (own_mask _).2) f1254 f1253 f1255 f1257 (by decide) (by decide)) all0 (lenOf pd__I_C rfl) rfl 0 rfl (by decide) hml.symm at_205 (fun v1307 T1308 h1309 vm1310 _ w1311 q1312 C1313 C1314 X1315 => ?_)
      obtain ⟨e1317, f1318⟩ := q1312
      subst e1317
      subst f1318
      show Go _ _ _ _ _ (mkF _ _ _ [.int (i2 &&& (255 : Int32))])
      refine kIL X1315 at_208 rfl ?_
      refine kICt X1315 215 at_210 (XT.ii_eq_t rfl) (by decide) ?_
      refine kIL X1315 at_215 rfl ?_
      refine kIFt X1315 225 at_217 (XT.i0_eq_t (by decide)) (by decide) ?_
      refine kBI X1315 108 at_225 (by decide) ?_
      refine kIS X1315 #[.val (.int i0), .val (.int i1), .val (.int i2), .val (.int i3), .val (.int i4), .val (.int (i0 &&& (255 : Int32))), .val (.int (i1 &&& (255 : Int32))), .val (.int (i2 &&& (255 : Int32))), .val (.int 3), .val (.int 0), .val (.ref a1163), .val (.ref a1196), .val (.ref a1245), .val (.int 108), .unset, .unset] at_227 rfl ?_
      refine kIL X1315 at_229 rfl ?_
      refine kIFt X1315 239 at_231 (XT.i0_eq_t (by decide)) (by decide) ?_
      refine kBI X1315 111 at_239 (by decide) ?_
      refine kIS X1315 #[.val (.int i0), .val (.int i1), .val (.int i2), .val (.int i3), .val (.int i4), .val (.int (i0 &&& (255 : Int32))), .val (.int (i1 &&& (255 : Int32))), .val (.int (i2 &&& (255 : Int32))), .val (.int 3), .val (.int 0), .val (.ref a1163), .val (.ref a1196), .val (.ref a1245), .val (.int 108), .val (.int 111), .unset] at_241 rfl ?_
      refine kIL X1315 at_243 rfl ?_
      refine kIFt X1315 253 at_245 (XT.i0_eq_t (by decide)) (by decide) ?_
      refine kBI X1315 119 at_253 (by decide) ?_
      refine kIS X1315 #[.val (.int i0), .val (.int i1), .val (.int i2), .val (.int i3), .val (.int i4), .val (.int (i0 &&& (255 : Int32))), .val (.int (i1 &&& (255 : Int32))), .val (.int (i2 &&& (255 : Int32))), .val (.int 3), .val (.int 0), .val (.ref a1163), .val (.ref a1196), .val (.ref a1245), .val (.int 108), .val (.int 111), .val (.int 119)] at_255 rfl ?_
      refine kAL X1315 at_257 rfl rfl ?_
      refine kIL X1315 at_259 rfl ?_
      refine kVIRT X1315 (gEL G) (argsL := [.int 3]) (rest := []) (wd G 148 rfl) (wd G 149 rfl) (own_nf X1315.hZ (own_noinst (wd G 2 rfl))) (wd G 151 rfl) (wd G 150 rfl) (wd G 3 rfl) (wd G 152 rfl) (by decide) f1253 (gm_ca2 G (3 : Int32) (9 : Int32) (46 : Int32) (46 : Int32) ([.int (ownB (i0 &&& (255 : Int32))), .int (ownB (i1 &&& (255 : Int32))), .int (ownB (i2 &&& (255 : Int32))), .int 46, .int 108, .int 111, .int 119, .int 101, .int 114]) a1245 a1246 k1247 h1236 X1315.n f1270 rfl (by decide) f1254 f1253 f1255 f1257 (by decide) (by decide)) all0 (lenOf pd__I_C rfl) rfl 0 rfl (by decide) hml.symm at_261 (fun v1319 T1320 h1321 vm1322 _ w1323 q1324 C1325 C1326 X1327 => ?_)
      obtain ⟨e1329, f1330⟩ := q1324
      subst e1329
      subst f1330
      show Go _ _ _ _ _ (mkF _ _ _ [.int 46])
      refine kBI X1327 46 at_264 (by decide) ?_
      refine kICf X1327 at_266 (XT.ii_ne_f (by decide)) ?_
      refine kAL X1327 at_269 rfl rfl ?_
      refine kIL X1327 at_271 rfl ?_
      refine kIC X1327 1 at_273 (by decide) ?_
      refine kIADD X1327 4 at_274 (by decide) ?_
      refine kVIRT X1327 (gEL G) (argsL := [.int 4]) (rest := []) (wd G 148 rfl) (wd G 149 rfl) (own_nf X1327.hZ (own_noinst (wd G 2 rfl))) (wd G 151 rfl) (wd G 150 rfl) (wd G 3 rfl) (wd G 152 rfl) (by decide) f1253 (gm_ca2 G (4 : Int32) (9 : Int32) (108 : Int32) (108 : Int32) ([.int (ownB (i0 &&& (255 : Int32))), .int (ownB (i1 &&& (255 : Int32))), .int (ownB (i2 &&& (255 : Int32))), .int 46, .int 108, .int 111, .int 119, .int 101, .int 114]) a1245 a1246 k1247 h1236 X1327.n f1270 rfl (by decide) f1254 f1253 f1255 f1257 (by decide) (by decide)) all0 (lenOf pd__I_C rfl) rfl 0 rfl (by decide) hml.symm at_275 (fun v1331 T1332 h1333 vm1334 _ w1335 q1336 C1337 C1338 X1339 => ?_)
      obtain ⟨e1341, f1342⟩ := q1336
      subst e1341
      subst f1342
      show Go _ _ _ _ _ (mkF _ _ _ [.int 108])
      refine kIL X1339 at_278 rfl ?_
      refine kICf X1339 at_280 (XT.ii_ne_f (by decide)) ?_
      refine kAL X1339 at_283 rfl rfl ?_
      refine kIL X1339 at_285 rfl ?_
      refine kIC X1339 2 at_287 (by decide) ?_
      refine kIADD X1339 5 at_288 (by decide) ?_
      refine kVIRT X1339 (gEL G) (argsL := [.int 5]) (rest := []) (wd G 148 rfl) (wd G 149 rfl) (own_nf X1339.hZ (own_noinst (wd G 2 rfl))) (wd G 151 rfl) (wd G 150 rfl) (wd G 3 rfl) (wd G 152 rfl) (by decide) f1253 (gm_ca2 G (5 : Int32) (9 : Int32) (111 : Int32) (111 : Int32) ([.int (ownB (i0 &&& (255 : Int32))), .int (ownB (i1 &&& (255 : Int32))), .int (ownB (i2 &&& (255 : Int32))), .int 46, .int 108, .int 111, .int 119, .int 101, .int 114]) a1245 a1246 k1247 h1236 X1339.n f1270 rfl (by decide) f1254 f1253 f1255 f1257 (by decide) (by decide)) all0 (lenOf pd__I_C rfl) rfl 0 rfl (by decide) hml.symm at_289 (fun v1343 T1344 h1345 vm1346 _ w1347 q1348 C1349 C1350 X1351 => ?_)
      obtain ⟨e1353, f1354⟩ := q1348
      subst e1353
      subst f1354
      show Go _ _ _ _ _ (mkF _ _ _ [.int 111])
      refine kIL X1351 at_292 rfl ?_
      refine kICf X1351 at_294 (XT.ii_ne_f (by decide)) ?_
      refine kAL X1351 at_297 rfl rfl ?_
      refine kIL X1351 at_299 rfl ?_
      refine kIC X1351 3 at_301 (by decide) ?_
      refine kIADD X1351 6 at_302 (by decide) ?_
      refine kVIRT X1351 (gEL G) (argsL := [.int 6]) (rest := []) (wd G 148 rfl) (wd G 149 rfl) (own_nf X1351.hZ (own_noinst (wd G 2 rfl))) (wd G 151 rfl) (wd G 150 rfl) (wd G 3 rfl) (wd G 152 rfl) (by decide) f1253 (gm_ca2 G (6 : Int32) (9 : Int32) (119 : Int32) (119 : Int32) ([.int (ownB (i0 &&& (255 : Int32))), .int (ownB (i1 &&& (255 : Int32))), .int (ownB (i2 &&& (255 : Int32))), .int 46, .int 108, .int 111, .int 119, .int 101, .int 114]) a1245 a1246 k1247 h1236 X1351.n f1270 rfl (by decide) f1254 f1253 f1255 f1257 (by decide) (by decide)) all0 (lenOf pd__I_C rfl) rfl 0 rfl (by decide) hml.symm at_303 (fun v1355 T1356 h1357 vm1358 _ w1359 q1360 C1361 C1362 X1363 => ?_)
      obtain ⟨e1365, f1366⟩ := q1360
      subst e1365
      subst f1366
      show Go _ _ _ _ _ (mkF _ _ _ [.int 119])
      refine kIL X1363 at_306 rfl ?_
      refine kICf X1363 at_308 (XT.ii_ne_f (by decide)) ?_
      refine kAL X1363 at_311 rfl rfl ?_
      refine kIL X1363 at_313 rfl ?_
      refine kIC X1363 4 at_315 (by decide) ?_
      refine kIADD X1363 7 at_316 (by decide) ?_
      refine kVIRT X1363 (gEL G) (argsL := [.int 7]) (rest := []) (wd G 148 rfl) (wd G 149 rfl) (own_nf X1363.hZ (own_noinst (wd G 2 rfl))) (wd G 151 rfl) (wd G 150 rfl) (wd G 3 rfl) (wd G 152 rfl) (by decide) f1253 (gm_ca2 G (7 : Int32) (9 : Int32) (101 : Int32) (101 : Int32) ([.int (ownB (i0 &&& (255 : Int32))), .int (ownB (i1 &&& (255 : Int32))), .int (ownB (i2 &&& (255 : Int32))), .int 46, .int 108, .int 111, .int 119, .int 101, .int 114]) a1245 a1246 k1247 h1236 X1363.n f1270 rfl (by decide) f1254 f1253 f1255 f1257 (by decide) (by decide)) all0 (lenOf pd__I_C rfl) rfl 0 rfl (by decide) hml.symm at_317 (fun v1367 T1368 h1369 vm1370 _ w1371 q1372 C1373 C1374 X1375 => ?_)
      obtain ⟨e1377, f1378⟩ := q1372
      subst e1377
      subst f1378
      show Go _ _ _ _ _ (mkF _ _ _ [.int 101])
      refine kBI X1375 101 at_320 (by decide) ?_
      refine kICf X1375 at_322 (XT.ii_ne_f (by decide)) ?_
      refine kAL X1375 at_325 rfl rfl ?_
      refine kIL X1375 at_327 rfl ?_
      refine kIC X1375 5 at_329 (by decide) ?_
      refine kIADD X1375 8 at_330 (by decide) ?_
      refine kVIRT X1375 (gEL G) (argsL := [.int 8]) (rest := []) (wd G 148 rfl) (wd G 149 rfl) (own_nf X1375.hZ (own_noinst (wd G 2 rfl))) (wd G 151 rfl) (wd G 150 rfl) (wd G 3 rfl) (wd G 152 rfl) (by decide) f1253 (gm_ca2 G (8 : Int32) (9 : Int32) (114 : Int32) (114 : Int32) ([.int (ownB (i0 &&& (255 : Int32))), .int (ownB (i1 &&& (255 : Int32))), .int (ownB (i2 &&& (255 : Int32))), .int 46, .int 108, .int 111, .int 119, .int 101, .int 114]) a1245 a1246 k1247 h1236 X1375.n f1270 rfl (by decide) f1254 f1253 f1255 f1257 (by decide) (by decide)) all0 (lenOf pd__I_C rfl) rfl 0 rfl (by decide) hml.symm at_331 (fun v1379 T1380 h1381 vm1382 _ w1383 q1384 C1385 C1386 X1387 => ?_)
      obtain ⟨e1389, f1390⟩ := q1384
      subst e1389
      subst f1390
      show Go _ _ _ _ _ (mkF _ _ _ [.int 114])
      refine kBI X1387 114 at_334 (by decide) ?_
      refine kICf X1387 at_336 (XT.ii_ne_f (by decide)) ?_
      refine kIC X1387 1 at_339 (by decide) ?_
      refine kGOTO X1387 344 at_340 (by decide) ?_
      exact kRETZ X1387 (gEL G) (t := .boolean) hret (by simp) at_344 (fun _ _ => rfl) (by decide)
    · refine kIFf X0 at_33 (XT.i0_eq_f c1159) ?_
      refine kIC X0 1 at_36 (by decide) ?_
      refine kGOTO X0 41 at_37 (by decide) ?_
      refine kIS X0 #[.val (.int i0), .val (.int i1), .val (.int i2), .val (.int i3), .val (.int i4), .val (.int (i0 &&& (255 : Int32))), .val (.int (i1 &&& (255 : Int32))), .val (.int (i2 &&& (255 : Int32))), .val (.int 3), .val (.int 1), .unset, .unset, .unset, .unset, .unset, .unset] at_41 rfl ?_
      refine kIL X0 at_43 rfl ?_
      refine kIFt X0 56 at_45 (XT.i0_ne_t (by decide)) (by decide) ?_
      refine kIL X0 at_56 rfl ?_
      refine kIC X0 1 at_58 (by decide) ?_
      refine kICt X0 75 at_59 (XT.ii_ne_t (by decide)) (by decide) ?_
      refine kIL X0 at_75 rfl ?_
      refine kIC X0 2 at_77 (by decide) ?_
      refine kICt X0 99 at_78 (XT.ii_ne_t (by decide)) (by decide) ?_
      refine kIC X0 3 at_99 (by decide) ?_
      refine kNEWP X0 (wd G 0 rfl) (cap := 3) at_100 (by decide) (by decide) (by decide) (by decide) (by decide) (fun T1391 h1392 a1394 k1395 E1396 q1397 g1398 A1399 s1400 X1393 => ?_)
      have g1401 : h0.size ≤ a1394 := q1397 ▸ X0.g0
      have f1402 : Arv Z h1392 a1394 k1395 .char 3 [.int 0, .int 0, .int 0] (.int 0) := A1399.pad (pad_rep [] _ 3)
      refine kDUP X1393 at_102 rfl ?_
      refine kIC X1393 0 at_103 (by decide) ?_
      refine kIL X1393 at_104 rfl ?_
      refine kCASTO X1393 f1402 (by decide) 0 (i0 &&& (255 : Int32)) (own_nc (own_mask _).1 (own_mask _).2) (by decide) (by show 0 < 3; decide) g1398 (Safe.arv X1393.hZ.alike f1402 (by decide)) at_106 (fun T1403 h1404 L1406 W1407 f1408 X1405 => ?_)
      have f1409 : Arv Z h1404 a1394 k1395 .char 3 [.int (i0 &&& (255 : Int32)), .int 0, .int 0] (.int 0) := f1408
      refine kDUP X1405 at_107 rfl ?_
      refine kIC X1405 1 at_108 (by decide) ?_
      refine kIL X1405 at_109 rfl ?_
      refine kCASTO X1405 f1409 (by decide) 1 (i1 &&& (255 : Int32)) (own_nc (own_mask _).1 (own_mask _).2) (by decide) (by show 1 < 3; decide) g1398 (Safe.arv X1405.hZ.alike f1409 (by decide)) at_111 (fun T1410 h1411 L1413 W1414 f1415 X1412 => ?_)
      have f1416 : Arv Z h1411 a1394 k1395 .char 3 [.int (i0 &&& (255 : Int32)), .int (i1 &&& (255 : Int32)), .int 0] (.int 0) := f1415
      refine kDUP X1412 at_112 rfl ?_
      refine kIC X1412 2 at_113 (by decide) ?_
      refine kIL X1412 at_114 rfl ?_
      refine kCASTO X1412 f1416 (by decide) 2 (i2 &&& (255 : Int32)) (own_nc (own_mask _).1 (own_mask _).2) (by decide) (by show 2 < 3; decide) g1398 (Safe.arv X1412.hZ.alike f1416 (by decide)) at_116 (fun T1417 h1418 L1420 W1421 f1422 X1419 => ?_)
      have f1423 : Arv Z h1418 a1394 k1395 .char 3 [.int (i0 &&& (255 : Int32)), .int (i1 &&& (255 : Int32)), .int (i2 &&& (255 : Int32))] (.int 0) := f1422
      refine kAS X1419 #[.val (.int i0), .val (.int i1), .val (.int i2), .val (.int i3), .val (.int i4), .val (.int (i0 &&& (255 : Int32))), .val (.int (i1 &&& (255 : Int32))), .val (.int (i2 &&& (255 : Int32))), .val (.int 3), .val (.int 1), .val (.ref a1394), .unset, .unset, .unset, .unset, .unset] at_117 rfl rfl ?_
      refine kNEW X1419 (wd G 1 rfl) (wd G 2 rfl) (wd G 3 rfl) at_119 (by decide) (by decide) (fun T1424 h1425 a1427 E1428 q1429 g1430 A1431 D1432 s1433 X1426 => ?_)
      have n1434 : a1394 ≠ a1427 := Nat.ne_of_lt (Nat.lt_of_lt_of_le (f1423.lt) (Nat.le_of_eq q1429.symm))
      have g1435 : h0.size ≤ a1427 := q1429 ▸ X1419.g0
      have f1436 : Fld Z h1425 a1427 "java/lang/String" "coder" "B" (.int 0) := D1432 (Or.inr (wd G 27 rfl)) (ty := .byte) (by decide)
      have f1437 : Fld Z h1425 a1427 "java/lang/String" "value" "[B" (.null) := D1432 (Or.inr (wd G 29 rfl)) (ty := (.array (.byte))) (by decide)
      refine kDUP X1426 at_122 rfl ?_
      refine kAL X1426 at_123 rfl rfl ?_
      have f1438 := (Arv.ext f1423 E1428)
      have f1439 := (Old.ext (Old.wr (Old.wr (Old.wr (Old.ext O0 E1396) W1407 g1398) W1414 g1398) W1421 g1398) E1428)
      refine kSPEC X1426 (gEL G) (argsL := [.ref a1394]) (rest := [.ref a1427]) (wd G 4 rfl) (wd G 5 rfl) (wd G 3 rfl) (wd G 6 rfl) rfl (by decide) (rm155 G (i0 &&& (255 : Int32)) (i1 &&& (255 : Int32)) (i2 &&& (255 : Int32)) a1427 a1394 k1395 h1425 X1426.n f1439 f1438 (own_mask _).1 (own_mask _).2 (own_mask _).1 (own_mask _).2 (own_mask _).1 (own_mask _).2 A1431 f1436 f1437 g1430) (allS ⟨(A1431.lt), s1433⟩ all0) (lenOf pd___C_V rfl) rfl 1 rfl (by decide) hml.symm at_125 (fun v1440 T1441 h1442 vm1443 _ w1444 q1445 C1446 C1447 X1448 => ?_)
      obtain ⟨a1450, k1451, e1452, f1453, f1454, f1455, f1456, f1457, f1458⟩ := q1445
      subst e1452
      have n1459 : a1394 ≠ a1450 := Nat.ne_of_lt (Nat.lt_of_lt_of_le (f1438.lt) f1454)
      have n1460 : a1427 ≠ a1450 := Nat.ne_of_lt (Nat.lt_of_lt_of_le (A1431.lt) f1454)
      have g1461 : n0 ≤ a1450 := Nat.le_trans X1426.n f1454
      have g1462 : h0.size ≤ a1450 := Nat.le_trans X1426.g0 f1454
      show Go _ _ _ _ _ (mkF _ _ _ [.ref a1427])
      refine kAS X1448 #[.val (.int i0), .val (.int i1), .val (.int i2), .val (.int i3), .val (.int i4), .val (.int (i0 &&& (255 : Int32))), .val (.int (i1 &&& (255 : Int32))), .val (.int (i2 &&& (255 : Int32))), .val (.int 3), .val (.int 1), .val (.ref a1394), .val (.ref a1427), .unset, .unset, .unset, .unset] at_128 rfl rfl ?_
      refine kAL X1448 at_130 rfl rfl ?_
      refine kIL X1448 at_132 rfl ?_
      have f1463 := (Exa.keep A1431 f1453)
      have f1464 := (Old.keep f1439 f1453 (allS g1430 all0))
      have f1474 := (CHr.safe C1447 (f1436.lt) s1433)
      refine kSTAT X1448 (gEL G) (argsL := [.ref a1427, .int 1]) (rest := []) (wd G 30 rfl) (wd G 31 rfl) (wd G 32 rfl) (wd G 33 rfl) (by decide) (rm188 G (ownB (i0 &&& (255 : Int32))) (ownB (i1 &&& (255 : Int32))) (ownB (i2 &&& (255 : Int32))) a1427 a1450 k1451 h1442 X1448.n f1464 f1463 f1455 f1458 f1457) (allS ⟨(f1463.lt), f1474⟩ (allS ⟨(f1455.lt), f1456⟩ all0)) (lenOf pd__Ljava_lang_String_Z_Ljava_lang_String_ rfl) rfl 0 rfl (by decide) hml.symm at_134 (fun v1465 T1466 h1467 vm1468 _ w1469 q1470 C1471 C1472 X1473 => ?_)
      obtain ⟨a1476, a1477, k1478, e1479, f1480, f1481, f1482, f1483, f1484, f1485, f1486, f1487, f1488, f1489⟩ := q1470
      subst e1479
      have f1491 := (Arv.keep f1438 f1453 (ninS n1434 nin0))
      have n1490 : a1394 ≠ a1476 := Nat.ne_of_lt (Nat.lt_of_lt_of_le (f1491.lt) f1481)
      have n1492 : a1427 ≠ a1476 := Nat.ne_of_lt (Nat.lt_of_lt_of_le (f1463.lt) f1481)
      have n1493 : a1450 ≠ a1476 := Nat.ne_of_lt (Nat.lt_of_lt_of_le (f1455.lt) f1481)
      have n1494 : a1394 ≠ a1477 := Nat.ne_of_lt (Nat.lt_of_lt_of_le (f1491.lt) f1482)
      have n1495 : a1427 ≠ a1477 := Nat.ne_of_lt (Nat.lt_of_lt_of_le (f1463.lt) f1482)
      have n1496 : a1450 ≠ a1477 := Nat.ne_of_lt (Nat.lt_of_lt_of_le (f1455.lt) f1482)
      have g1497 : n0 ≤ a1476 := Nat.le_trans X1448.n f1481
      have g1498 : h0.size ≤ a1476 := Nat.le_trans X1448.g0 f1481
      have g1499 : n0 ≤ a1477 := Nat.le_trans X1448.n f1482
      have g1500 : h0.size ≤ a1477 := Nat.le_trans X1448.g0 f1482
      show Go _ _ _ _ _ (mkF _ _ _ [.ref a1476])
      refine kAS X1473 #[.val (.int i0), .val (.int i1), .val (.int i2), .val (.int i3), .val (.int i4), .val (.int (i0 &&& (255 : Int32))), .val (.int (i1 &&& (255 : Int32))), .val (.int (i2 &&& (255 : Int32))), .val (.int 3), .val (.int 1), .val (.ref a1394), .val (.ref a1427), .val (.ref a1476), .unset, .unset, .unset] at_137 rfl rfl ?_
      refine kAL X1473 at_139 rfl rfl ?_
      refine kNUf X1473 at_141 ?_
      refine kAL X1473 at_144 rfl rfl ?_
      have f1501 := (Old.keep f1464 f1480 all0)
      refine kVIRT X1473 (gEL G) (argsL := []) (rest := []) (wd G 147 rfl) (wd G 63 rfl) (own_nf X1473.hZ (own_noinst (wd G 2 rfl))) (wd G 65 rfl) (wd G 64 rfl) (wd G 3 rfl) (wd G 66 rfl) (by decide) f1484 (rm203 G (ownB (i0 &&& (255 : Int32))) (ownB (i1 &&& (255 : Int32))) (ownB (i2 &&& (255 : Int32))) a1476 a1477 k1478 h1467 X1473.n f1501 f1486 f1488 f1485 f1484) all0 (lenOf pd___I rfl) rfl 0 rfl (by decide) hml.symm at_146 (fun v1502 T1503 h1504 vm1505 _ w1506 q1507 C1508 C1509 X1510 => ?_)
      obtain ⟨e1512, f1513⟩ := q1507
      subst e1512
      subst f1513
      show Go _ _ _ _ _ (mkF _ _ _ [.int 9])
      refine kIL X1510 at_149 rfl ?_
      refine kBI X1510 6 at_151 (by decide) ?_
      refine kIADD X1510 9 at_153 (by decide) ?_
      refine kICt X1510 159 at_154 (XT.ii_eq_t (by decide)) (by decide) ?_
      refine kIL X1510 at_159 rfl ?_
      refine kIFf X1510 at_161 (XT.i0_le_f (by decide)) ?_
      refine kAL X1510 at_164 rfl rfl ?_
      refine kIC X1510 0 at_166 (by decide) ?_
      refine kVIRT X1510 (gEL G) (argsL := [.int 0]) (rest := []) (wd G 148 rfl) (wd G 149 rfl) (own_nf X1510.hZ (own_noinst (wd G 2 rfl))) (wd G 151 rfl) (wd G 150 rfl) (wd G 3 rfl) (wd G 152 rfl) (by decide) f1484 (gm_ca2 G (0 : Int32) (9 : Int32) (ownB (i0 &&& (255 : Int32))) (i0 &&& (255 : Int32)) ([.int (ownB (i0 &&& (255 : Int32))), .int (ownB (i1 &&& (255 : Int32))), .int (ownB (i2 &&& (255 : Int32))), .int 46, .int 117, .int 112, .int 112, .int 101, .int 114]) a1476 a1477 k1478 h1467 X1510.n f1501 rfl (own_rt (own_mask _).1 (own_mask _).2) f1485 f1484 f1486 f1488 (by decide) (by decide)) all0 (lenOf pd__I_C rfl) rfl 0 rfl (by decide) hml.symm at_167 (fun v1514 T1515 h1516 vm1517 _ w1518 q1519 C1520 C1521 X1522 => ?_)
      obtain ⟨e1524, f1525⟩ := q1519
      subst e1524
      subst f1525
      show Go _ _ _ _ _ (mkF _ _ _ [.int (i0 &&& (255 : Int32))])
      refine kIL X1522 at_170 rfl ?_
      refine kICt X1522 177 at_172 (XT.ii_eq_t rfl) (by decide) ?_
      refine kIL X1522 at_177 rfl ?_
      refine kIC X1522 1 at_179 (by decide) ?_
      refine kICf X1522 at_180 (XT.ii_le_f (by decide)) ?_
      refine kAL X1522 at_183 rfl rfl ?_
      refine kIC X1522 1 at_185 (by decide) ?_
      refine kVIRT X1522 (gEL G) (argsL := [.int 1]) (rest := []) (wd G 148 rfl) (wd G 149 rfl) (own_nf X1522.hZ (own_noinst (wd G 2 rfl))) (wd G 151 rfl) (wd G 150 rfl) (wd G 3 rfl) (wd G 152 rfl) (by decide) f1484 (gm_ca2 G (1 : Int32) (9 : Int32) (ownB (i1 &&& (255 : Int32))) (i1 &&& (255 : Int32)) ([.int (ownB (i0 &&& (255 : Int32))), .int (ownB (i1 &&& (255 : Int32))), .int (ownB (i2 &&& (255 : Int32))), .int 46, .int 117, .int 112, .int 112, .int 101, .int 114]) a1476 a1477 k1478 h1467 X1522.n f1501 rfl (own_rt (own_mask _).1 (own_mask _).2) f1485 f1484 f1486 f1488 (by decide) (by decide)) all0 (lenOf pd__I_C rfl) rfl 0 rfl (by decide) hml.symm at_186 (fun v1526 T1527 h1528 vm1529 _ w1530 q1531 C1532 C1533 X1534 => ?_)
      obtain ⟨e1536, f1537⟩ := q1531
      subst e1536
      subst f1537
      show Go _ _ _ _ _ (mkF _ _ _ [.int (i1 &&& (255 : Int32))])
      refine kIL X1534 at_189 rfl ?_
      refine kICt X1534 196 at_191 (XT.ii_eq_t rfl) (by decide) ?_
      refine kIL X1534 at_196 rfl ?_
      refine kIC X1534 2 at_198 (by decide) ?_
      refine kICf X1534 at_199 (XT.ii_le_f (by decide)) ?_
      refine kAL X1534 at_202 rfl rfl ?_
      refine kIC X1534 2 at_204 (by decide) ?_
      refine kVIRT X1534 (gEL G) (argsL := [.int 2]) (rest := []) (wd G 148 rfl) (wd G 149 rfl) (own_nf X1534.hZ (own_noinst (wd G 2 rfl))) (wd G 151 rfl) (wd G 150 rfl) (wd G 3 rfl) (wd G 152 rfl) (by decide) f1484 (gm_ca2 G (2 : Int32) (9 : Int32) (ownB (i2 &&& (255 : Int32))) (i2 &&& (255 : Int32)) ([.int (ownB (i0 &&& (255 : Int32))), .int (ownB (i1 &&& (255 : Int32))), .int (ownB (i2 &&& (255 : Int32))), .int 46, .int 117, .int 112, .int 112, .int 101, .int 114]) a1476 a1477 k1478 h1467 X1534.n f1501 rfl (own_rt (own_mask _).1 (own_mask _).2) f1485 f1484 f1486 f1488 (by decide) (by decide)) all0 (lenOf pd__I_C rfl) rfl 0 rfl (by decide) hml.symm at_205 (fun v1538 T1539 h1540 vm1541 _ w1542 q1543 C1544 C1545 X1546 => ?_)
      obtain ⟨e1548, f1549⟩ := q1543
      subst e1548
      subst f1549
      show Go _ _ _ _ _ (mkF _ _ _ [.int (i2 &&& (255 : Int32))])
      refine kIL X1546 at_208 rfl ?_
      refine kICt X1546 215 at_210 (XT.ii_eq_t rfl) (by decide) ?_
      refine kIL X1546 at_215 rfl ?_
      refine kIFf X1546 at_217 (XT.i0_eq_f (by decide)) ?_
      refine kBI X1546 117 at_220 (by decide) ?_
      refine kGOTO X1546 227 at_222 (by decide) ?_
      refine kIS X1546 #[.val (.int i0), .val (.int i1), .val (.int i2), .val (.int i3), .val (.int i4), .val (.int (i0 &&& (255 : Int32))), .val (.int (i1 &&& (255 : Int32))), .val (.int (i2 &&& (255 : Int32))), .val (.int 3), .val (.int 1), .val (.ref a1394), .val (.ref a1427), .val (.ref a1476), .val (.int 117), .unset, .unset] at_227 rfl ?_
      refine kIL X1546 at_229 rfl ?_
      refine kIFf X1546 at_231 (XT.i0_eq_f (by decide)) ?_
      refine kBI X1546 112 at_234 (by decide) ?_
      refine kGOTO X1546 241 at_236 (by decide) ?_
      refine kIS X1546 #[.val (.int i0), .val (.int i1), .val (.int i2), .val (.int i3), .val (.int i4), .val (.int (i0 &&& (255 : Int32))), .val (.int (i1 &&& (255 : Int32))), .val (.int (i2 &&& (255 : Int32))), .val (.int 3), .val (.int 1), .val (.ref a1394), .val (.ref a1427), .val (.ref a1476), .val (.int 117), .val (.int 112), .unset] at_241 rfl ?_
      refine kIL X1546 at_243 rfl ?_
      refine kIFf X1546 at_245 (XT.i0_eq_f (by decide)) ?_
      refine kBI X1546 112 at_248 (by decide) ?_
      refine kGOTO X1546 255 at_250 (by decide) ?_
      refine kIS X1546 #[.val (.int i0), .val (.int i1), .val (.int i2), .val (.int i3), .val (.int i4), .val (.int (i0 &&& (255 : Int32))), .val (.int (i1 &&& (255 : Int32))), .val (.int (i2 &&& (255 : Int32))), .val (.int 3), .val (.int 1), .val (.ref a1394), .val (.ref a1427), .val (.ref a1476), .val (.int 117), .val (.int 112), .val (.int 112)] at_255 rfl ?_
      refine kAL X1546 at_257 rfl rfl ?_
      refine kIL X1546 at_259 rfl ?_
      refine kVIRT X1546 (gEL G) (argsL := [.int 3]) (rest := []) (wd G 148 rfl) (wd G 149 rfl) (own_nf X1546.hZ (own_noinst (wd G 2 rfl))) (wd G 151 rfl) (wd G 150 rfl) (wd G 3 rfl) (wd G 152 rfl) (by decide) f1484 (gm_ca2 G (3 : Int32) (9 : Int32) (46 : Int32) (46 : Int32) ([.int (ownB (i0 &&& (255 : Int32))), .int (ownB (i1 &&& (255 : Int32))), .int (ownB (i2 &&& (255 : Int32))), .int 46, .int 117, .int 112, .int 112, .int 101, .int 114]) a1476 a1477 k1478 h1467 X1546.n f1501 rfl (by decide) f1485 f1484 f1486 f1488 (by decide) (by decide)) all0 (lenOf pd__I_C rfl) rfl 0 rfl (by decide) hml.symm at_261 (fun v1550 T1551 h1552 vm1553 _ w1554 q1555 C1556 C1557 X1558 => ?_)
      obtain ⟨e1560, f1561⟩ := q1555
      subst e1560
      subst f1561
      show Go _ _ _ _ _ (mkF _ _ _ [.int 46])
      refine kBI X1558 46 at_264 (by decide) ?_
      refine kICf X1558 at_266 (XT.ii_ne_f (by decide)) ?_
      refine kAL X1558 at_269 rfl rfl ?_
      refine kIL X1558 at_271 rfl ?_
      refine kIC X1558 1 at_273 (by decide) ?_
      refine kIADD X1558 4 at_274 (by decide) ?_
      refine kVIRT X1558 (gEL G) (argsL := [.int 4]) (rest := []) (wd G 148 rfl) (wd G 149 rfl) (own_nf X1558.hZ (own_noinst (wd G 2 rfl))) (wd G 151 rfl) (wd G 150 rfl) (wd G 3 rfl) (wd G 152 rfl) (by decide) f1484 (gm_ca2 G (4 : Int32) (9 : Int32) (117 : Int32) (117 : Int32) ([.int (ownB (i0 &&& (255 : Int32))), .int (ownB (i1 &&& (255 : Int32))), .int (ownB (i2 &&& (255 : Int32))), .int 46, .int 117, .int 112, .int 112, .int 101, .int 114]) a1476 a1477 k1478 h1467 X1558.n f1501 rfl (by decide) f1485 f1484 f1486 f1488 (by decide) (by decide)) all0 (lenOf pd__I_C rfl) rfl 0 rfl (by decide) hml.symm at_275 (fun v1562 T1563 h1564 vm1565 _ w1566 q1567 C1568 C1569 X1570 => ?_)
      obtain ⟨e1572, f1573⟩ := q1567
      subst e1572
      subst f1573
      show Go _ _ _ _ _ (mkF _ _ _ [.int 117])
      refine kIL X1570 at_278 rfl ?_
      refine kICf X1570 at_280 (XT.ii_ne_f (by decide)) ?_
      refine kAL X1570 at_283 rfl rfl ?_
      refine kIL X1570 at_285 rfl ?_
      refine kIC X1570 2 at_287 (by decide) ?_
      refine kIADD X1570 5 at_288 (by decide) ?_
      refine kVIRT X1570 (gEL G) (argsL := [.int 5]) (rest := []) (wd G 148 rfl) (wd G 149 rfl) (own_nf X1570.hZ (own_noinst (wd G 2 rfl))) (wd G 151 rfl) (wd G 150 rfl) (wd G 3 rfl) (wd G 152 rfl) (by decide) f1484 (gm_ca2 G (5 : Int32) (9 : Int32) (112 : Int32) (112 : Int32) ([.int (ownB (i0 &&& (255 : Int32))), .int (ownB (i1 &&& (255 : Int32))), .int (ownB (i2 &&& (255 : Int32))), .int 46, .int 117, .int 112, .int 112, .int 101, .int 114]) a1476 a1477 k1478 h1467 X1570.n f1501 rfl (by decide) f1485 f1484 f1486 f1488 (by decide) (by decide)) all0 (lenOf pd__I_C rfl) rfl 0 rfl (by decide) hml.symm at_289 (fun v1574 T1575 h1576 vm1577 _ w1578 q1579 C1580 C1581 X1582 => ?_)
      obtain ⟨e1584, f1585⟩ := q1579
      subst e1584
      subst f1585
      show Go _ _ _ _ _ (mkF _ _ _ [.int 112])
      refine kIL X1582 at_292 rfl ?_
      refine kICf X1582 at_294 (XT.ii_ne_f (by decide)) ?_
      refine kAL X1582 at_297 rfl rfl ?_
      refine kIL X1582 at_299 rfl ?_
      refine kIC X1582 3 at_301 (by decide) ?_
      refine kIADD X1582 6 at_302 (by decide) ?_
      refine kVIRT X1582 (gEL G) (argsL := [.int 6]) (rest := []) (wd G 148 rfl) (wd G 149 rfl) (own_nf X1582.hZ (own_noinst (wd G 2 rfl))) (wd G 151 rfl) (wd G 150 rfl) (wd G 3 rfl) (wd G 152 rfl) (by decide) f1484 (gm_ca2 G (6 : Int32) (9 : Int32) (112 : Int32) (112 : Int32) ([.int (ownB (i0 &&& (255 : Int32))), .int (ownB (i1 &&& (255 : Int32))), .int (ownB (i2 &&& (255 : Int32))), .int 46, .int 117, .int 112, .int 112, .int 101, .int 114]) a1476 a1477 k1478 h1467 X1582.n f1501 rfl (by decide) f1485 f1484 f1486 f1488 (by decide) (by decide)) all0 (lenOf pd__I_C rfl) rfl 0 rfl (by decide) hml.symm at_303 (fun v1586 T1587 h1588 vm1589 _ w1590 q1591 C1592 C1593 X1594 => ?_)
      obtain ⟨e1596, f1597⟩ := q1591
      subst e1596
      subst f1597
      show Go _ _ _ _ _ (mkF _ _ _ [.int 112])
      refine kIL X1594 at_306 rfl ?_
      refine kICf X1594 at_308 (XT.ii_ne_f (by decide)) ?_
      refine kAL X1594 at_311 rfl rfl ?_
      refine kIL X1594 at_313 rfl ?_
      refine kIC X1594 4 at_315 (by decide) ?_
      refine kIADD X1594 7 at_316 (by decide) ?_
      refine kVIRT X1594 (gEL G) (argsL := [.int 7]) (rest := []) (wd G 148 rfl) (wd G 149 rfl) (own_nf X1594.hZ (own_noinst (wd G 2 rfl))) (wd G 151 rfl) (wd G 150 rfl) (wd G 3 rfl) (wd G 152 rfl) (by decide) f1484 (gm_ca2 G (7 : Int32) (9 : Int32) (101 : Int32) (101 : Int32) ([.int (ownB (i0 &&& (255 : Int32))), .int (ownB (i1 &&& (255 : Int32))), .int (ownB (i2 &&& (255 : Int32))), .int 46, .int 117, .int 112, .int 112, .int 101, .int 114]) a1476 a1477 k1478 h1467 X1594.n f1501 rfl (by decide) f1485 f1484 f1486 f1488 (by decide) (by decide)) all0 (lenOf pd__I_C rfl) rfl 0 rfl (by decide) hml.symm at_317 (fun v1598 T1599 h1600 vm1601 _ w1602 q1603 C1604 C1605 X1606 => ?_)
      obtain ⟨e1608, f1609⟩ := q1603
      subst e1608
      subst f1609
      show Go _ _ _ _ _ (mkF _ _ _ [.int 101])
      refine kBI X1606 101 at_320 (by decide) ?_
      refine kICf X1606 at_322 (XT.ii_ne_f (by decide)) ?_
      refine kAL X1606 at_325 rfl rfl ?_
      refine kIL X1606 at_327 rfl ?_
      refine kIC X1606 5 at_329 (by decide) ?_
      refine kIADD X1606 8 at_330 (by decide) ?_
      refine kVIRT X1606 (gEL G) (argsL := [.int 8]) (rest := []) (wd G 148 rfl) (wd G 149 rfl) (own_nf X1606.hZ (own_noinst (wd G 2 rfl))) (wd G 151 rfl) (wd G 150 rfl) (wd G 3 rfl) (wd G 152 rfl) (by decide) f1484 (gm_ca2 G (8 : Int32) (9 : Int32) (114 : Int32) (114 : Int32) ([.int (ownB (i0 &&& (255 : Int32))), .int (ownB (i1 &&& (255 : Int32))), .int (ownB (i2 &&& (255 : Int32))), .int 46, .int 117, .int 112, .int 112, .int 101, .int 114]) a1476 a1477 k1478 h1467 X1606.n f1501 rfl (by decide) f1485 f1484 f1486 f1488 (by decide) (by decide)) all0 (lenOf pd__I_C rfl) rfl 0 rfl (by decide) hml.symm at_331 (fun v1610 T1611 h1612 vm1613 _ w1614 q1615 C1616 C1617 X1618 => ?_)
      obtain ⟨e1620, f1621⟩ := q1615
      subst e1620
      subst f1621
      show Go _ _ _ _ _ (mkF _ _ _ [.int 114])
      refine kBI X1618 114 at_334 (by decide) ?_
      refine kICf X1618 at_336 (XT.ii_ne_f (by decide)) ?_
      refine kIC X1618 1 at_339 (by decide) ?_
      refine kGOTO X1618 344 at_340 (by decide) ?_
      exact kRETZ X1618 (gEL G) (t := .boolean) hret (by simp) at_344 (fun _ _ => rfl) (by decide)
end OwnC
theorem comes_1 {Post : Tables → Env → Array Value → State → Outcome → State → Prop} (hpost : ∀ tb e args s v u, (limb_1_1.after args s (.returned v) u = true ∧ limb_1_2.after args s (.returned v) u = true ∧ True) → ReturnedEndW s (.returned v) u (Jvm.fieldLocs frame_1_writes args s ++ Jvm.arrayLocs frame_1_arrays args s ++ Jvm.staticLocs frame_1_statics s) 32 3264 → Post tb e args s (.returned v) u) :
    ArmFor flags0 classFile x code maxLocals ret World_1 tables_1 room_1 Calls_1 rest_1 Pre_1 Post := by
  intro l hfl _ _ p e ha hc hk s m args below hf hA hF happ hP
  obtain ⟨hcalls, hrest, hpre⟩ := hP
  obtain ⟨-, -, -, hnamed, -, -, -, hat⟩ := (Spec.applies_iff hf).mp happ
  obtain ⟨hg, hn⟩ := and_e (Cond.before_iff.mp (show (Jvm.Cond.and given_1 narrow_1).before args s = true from hpre))
  obtain ⟨h1, hg⟩ := and_e hg
  obtain ⟨w0, w1, w2, w3, w4, rfl⟩ : ∃ w0 w1 w2 w3 w4 : Value, args = #[w0, w1, w2, w3, w4] := by
    have hs : args.size = 5 := by simpa [Cond.value, given_1] using h1
    obtain ⟨L⟩ := args
    match L, hs with
    | [w0, w1, w2, w3, w4], _ => exact ⟨w0, w1, w2, w3, w4, rfl⟩
  obtain ⟨hg0, hg⟩ := and_e hg
  obtain ⟨i0, ei0⟩ := is_v hg0
  obtain rfl : w0 = (.int i0) := Option.some.inj ei0
  obtain ⟨hg1, hg⟩ := and_e hg
  obtain ⟨i1, ei1⟩ := is_v hg1
  obtain rfl : w1 = (.int i1) := Option.some.inj ei1
  obtain ⟨hg2, hg⟩ := and_e hg
  obtain ⟨i2, ei2⟩ := is_v hg2
  obtain rfl : w2 = (.int i2) := Option.some.inj ei2
  obtain ⟨hg3, hg⟩ := and_e hg
  obtain ⟨i3, ei3⟩ := is_v hg3
  obtain rfl : w3 = (.int i3) := Option.some.inj ei3
  have hg4 := hg
  obtain ⟨i4, ei4⟩ := is_v hg4
  obtain rfl : w4 = (.int i4) := Option.some.inj ei4
  have hw := fun d (hd : d ∈ tables_1) => atoms_spec (ws := Jvm.Cond.code x code maxLocals ret :: tables_1) hat d (List.mem_cons_of_mem _ hd)
  have hfit : Fit s := fun {y c} hc i hi => by
    obtain ⟨ha, rfl⟩ := Array.getElem?_eq_some_iff.mp hc
    have q := List.all_eq_true.mp ((Array.all_eq_true_iff_forall_mem.mp hF) _ (Array.getElem_mem ha)) i (List.mem_range.mpr hi)
    simpa [Array.getElem?_eq_getElem hi] using q
  obtain ⟨hsets, hown0⟩ := atoms_of _ (rest_1_c_eq ▸ (show rest_1_c.before _ s = true from hrest))
  have wk : ∀ (k : Nat) {d : Jvm.Cond}, tables_1[k]? = some d → d.before _ s = true := fun k d h => hw d (List.mem_of_getElem? h)
  have rk : ∀ (k : Nat) {d : Jvm.Cond}, jdkStatics_1[k]? = some d → d.before _ s = true := fun k d h => hsets d (List.mem_of_getElem? h)
  have wS : ∀ a ∈ Bundle.stringAtoms, a.before _ s = true := fun a hm => by
    simp only [Bundle.stringAtoms, List.mem_cons, List.not_mem_nil, or_false] at hm
    rcases hm with rfl | rfl | rfl | rfl | rfl | rfl | rfl
    · exact (wk 3 rfl)
    · exact (wk 2 rfl)
    · exact (wk 19 rfl)
    · exact (wk 29 rfl)
    · exact (wk 27 rfl)
    · exact (wk 100 rfl)
    · exact (wk 101 rfl)
  have hEL : EW s _ EL0 := (EW.cons (wk 171 rfl) (by decide) (EW.cons (wk 170 rfl) (by decide) (EW.cons (wk 99 rfl) (by decide) EW.nil)))
  have hh : ∀ p ∈ EL0, Jvm.Lit.constHeld s p.1 p.2 := fun p hp => hcalls.1 p (by revert hp; revert p; decide)
  have hC : CHv s EL0 s.vm s.heap := CHv.start hEL hh (rk 2 rfl) (wk 19 rfl) (wk 2 rfl)
  obtain ⟨iCS, eCS⟩ := is_v (Cond.before_iff.mp (rk 1 rfl))
  have S_CS := Sta.start eCS (Or.inl (rk 0 rfl))
  have n_CS : ¬ iCS = 0 := gotF (Cond.eq_ints eCS (Term.int_eval 0)) (not_v (Cond.before_iff.mp (rk 2 rfl)))
  obtain ⟨vSI, eSI, r_SI⟩ := isR_v (Cond.before_iff.mp (rk 8 rfl))
  have S_SI := Sta.start eSI (Or.inl (rk 7 rfl))
  have G : Glob s _ iCS vSI := ⟨hw, hEL, wS, S_CS, n_CS, S_SI, r_SI⟩
  obtain ⟨n, o, h1, h2, h3, _, L, rfl, ⟨N, rfl⟩, hCr, hq⟩ := rm0 G i0 i1 i2 i3 i4 s.heap (Nat.le_refl _) (Old.start s) p e ha hc hk s m _ below hf ((Spec.applies_iff_loose hf).mp happ).1 ⟨rfl, State.Warmed39.refl s, rfl, hC, all0⟩ trivial
  refine ⟨n, _, h1, h2, h3, hpost _ _ _ _ _ _ ⟨Cond.after_iff.mpr rfl, Cond.after_iff.mpr (eq_i res_at (Term.int_eval (1)) rfl), trivial⟩ ⟨hq.1, hq.2.1, hq.2.2.1, (hq.2.2.2.sift fun y hy => Or.inr (N y hy)).mono (by decide) (by decide)⟩⟩
theorem main_1_1 : Claimed_1_1 := comes_1 fun _ _ _ _ _ _ h hF => ⟨h.1, hF⟩
theorem main_1_2 : Claimed_1_2 := comes_1 fun _ _ _ _ _ _ h hF => ⟨h.2.1, hF⟩
end Jvm.Pilot.@@N@@
namespace Jvm.Pilot.@@N@@
open Jvm Jvm.ClassFile Sem Op Lib Jvm.Free Jvm.Stand Jvm.Pilot.@@N@@.Jvm.D
/-! MADE BY PROGRAM (witnessworld.py) out of the Statement's table words and the real class files: 26 classes; the members and pool entries that the words name. The judged class is class 1, her method 1. -/
namespace start1
open Jvm.ClassFile
def u (s : String) : CpInfo := .utf8 (stringToUtf16 s)
/-- a pool by its gaps: so many unusable entries, then the entry; so many at the end -/
def gap : Nat → List CpInfo → List CpInfo
  | 0, r => r
  | n + 1, r => .unusable :: gap n r
def poolList (es : List (Nat × CpInfo)) (last : Nat) : List CpInfo := es.foldr (fun e r => gap e.1 (e.2 :: r)) (gap last [])
def pool (es : List (Nat × CpInfo)) (last : Nat) : Array CpInfo := ⟨poolList es last⟩
def fileOf (pool : Array CpInfo) (this : Nat) (attrs : Array Attribute := #[]) (ms : Array MethodInfo := #[]) (fl : Nat := 33) (sup : Nat := 0) (ifs : Array Nat := #[]) (fds : Array FieldInfo := #[]) : ClassFile where
  minorVersion := 0
  majorVersion := 65
  constantPool := pool
  accessFlags := fl
  thisClass := this
  superClass := sup
  interfaces := ifs
  fields := fds
  methods := ms
  attributes := attrs
def plain (name : String) (sup : Option ClassId) : Class where
  name := name
  kind := .ordinary
  loader := none
  accessFlags := 33
  super := sup
  interfaces := #[]
  cf := none
  fields := #[]
  methods := #[]
  instanceTypes := #[]
  staticTypes := #[]
  resolved := #[]
  callSites := []
  init := .initialized
  statics := none
  mirror := none

def pool0 : Array CpInfo := pool [(5, u "<init>"), (0, u "()V"), (1, .class_ 10), (1, u "java/lang/Object")] 113

def k0c0 : Code := { maxStack := 0, maxLocals := 1, code := object_method_1_code, exceptionTable := #[], attributes := #[] }
def k0m0 : Method := { name := "<init>", desc := "()V", sig := { parameters := [], returnType := none }, accessFlags := 1, code := some k0c0 }
/-- java/lang/Object -/
def k0 : Class := { plain "java/lang/Object" none with
  accessFlags := 33
  interfaces := #[]
  cf := some (fileOf pool0 8 #[] #[{ accessFlags := 1, nameIndex := 5, descriptorIndex := 6, attributes := #[] }] 33 0 #[] #[])
  fields := #[]
  methods := #[k0m0]
  instanceTypes := #[]
  staticTypes := #[]
  resolved := Array.replicate 124 none
  statics := none }

def pool1 : Array CpInfo := pool [(2, .class_ 4), (1, u "java/lang/Object"), (0, u "<init>"), (0, u "()V"), (0, .class_ 8), (0, u "java/lang/String"), (0, .methodref 7 10), (0, .nameAndType 5 11), (0, u "([C)V"), (0, .methodref 13 14), (0, .class_ 15), (0, .nameAndType 16 17), (0, u "com/example/tight_calculus/tightcalculus/Component"), (0, u "curveName"), (0, u "(Ljava/lang/String;Z)Ljava/lang/String;"), (0, .methodref 7 19), (0, .nameAndType 20 21), (0, u "length"), (0, u "()I"), (0, .methodref 7 23), (0, .nameAndType 24 25), (0, u "charAt"), (0, u "(I)C"), (0, .class_ 27), (0, u "com/example/tight_calculus/tightcalculus/ComponentCurveNamePinLaw"), (2, u "law"), (0, u "(IIIII)Z")] 5

def k1m0 : Method := { name := "<init>", desc := "()V", sig := { parameters := [], returnType := none }, accessFlags := 1, code := none }
def k1c1 : Code := { maxStack := 4, maxLocals := 16, code := code, exceptionTable := #[], attributes := #[] }
def k1m1 : Method := { name := "law", desc := "(IIIII)Z", sig := { parameters := [.int, .int, .int, .int, .int], returnType := some .boolean }, accessFlags := 9, code := some k1c1 }
/-- com/example/tight_calculus/tightcalculus/ComponentCurveNamePinLaw -/
def k1 : Class := { plain "com/example/tight_calculus/tightcalculus/ComponentCurveNamePinLaw" (some 0) with
  accessFlags := 49
  interfaces := #[]
  cf := some (fileOf pool1 26 #[] #[{ accessFlags := 1, nameIndex := 5, descriptorIndex := 6, attributes := #[] }, { accessFlags := 9, nameIndex := 30, descriptorIndex := 31, attributes := #[] }] 49 2 #[] #[])
  fields := #[]
  methods := #[k1m0, k1m1]
  instanceTypes := #[]
  staticTypes := #[]
  resolved := Array.replicate 37 none
  statics := none }

def pool2 : Array CpInfo := pool [(1, .class_ 2), (0, u "java/io/Serializable"), (0, .class_ 4), (0, u "java/lang/Object")] 2

/-- java/io/Serializable -/
def k2 : Class := { plain "java/io/Serializable" (some 0) with
  accessFlags := 1537
  interfaces := #[]
  cf := some (fileOf pool2 1 #[] #[] 1537 3 #[] #[])
  fields := #[]
  methods := #[]
  instanceTypes := #[]
  staticTypes := #[]
  resolved := Array.replicate 7 none
  statics := none }

def pool3 : Array CpInfo := pool [(1, .class_ 2), (0, u "java/lang/Comparable"), (0, .class_ 4), (0, u "java/lang/Object")] 7

/-- java/lang/Comparable -/
def k3 : Class := { plain "java/lang/Comparable" (some 0) with
  accessFlags := 1537
  interfaces := #[]
  cf := some (fileOf pool3 1 #[] #[] 1537 3 #[] #[])
  fields := #[]
  methods := #[]
  instanceTypes := #[]
  staticTypes := #[]
  resolved := Array.replicate 12 none
  statics := none }

def pool4 : Array CpInfo := pool [(2, .class_ 4), (1, u "java/lang/CharSequence"), (42, .class_ 48), (0, u "java/lang/CharSequence$1CodePointIterator"), (10, .class_ 60), (0, u "java/lang/CharSequence$1CharIterator"), (5, .class_ 67), (0, u "java/lang/Object")] 63

/-- java/lang/CharSequence -/
def k4 : Class := { plain "java/lang/CharSequence" (some 0) with
  accessFlags := 1537
  interfaces := #[]
  cf := some (fileOf pool4 2 #[.nestMembers #[47, 59]] #[] 1537 66 #[] #[])
  fields := #[]
  methods := #[]
  instanceTypes := #[]
  staticTypes := #[]
  resolved := Array.replicate 131 none
  statics := none }

def pool5 : Array CpInfo := pool [(1, .class_ 2), (0, u "java/lang/constant/Constable"), (0, .class_ 4), (0, u "java/lang/Object")] 6

/-- java/lang/constant/Constable -/
def k5 : Class := { plain "java/lang/constant/Constable" (some 0) with
  accessFlags := 1537
  interfaces := #[]
  cf := some (fileOf pool5 1 #[] #[] 1537 3 #[] #[])
  fields := #[]
  methods := #[]
  instanceTypes := #[]
  staticTypes := #[]
  resolved := Array.replicate 11 none
  statics := none }

def pool6 : Array CpInfo := pool [(1, .class_ 2), (0, u "java/lang/constant/ConstantDesc"), (0, .class_ 4), (0, u "java/lang/Object")] 32

/-- java/lang/constant/ConstantDesc -/
def k6 : Class := { plain "java/lang/constant/ConstantDesc" (some 0) with
  accessFlags := 1537
  interfaces := #[]
  cf := some (fileOf pool6 1 #[] #[] 1537 3 #[] #[])
  fields := #[]
  methods := #[]
  instanceTypes := #[]
  staticTypes := #[]
  resolved := Array.replicate 37 none
  statics := none }

def pool7 : Array CpInfo := pool [(1, .methodref 2 3), (0, .class_ 4), (0, .nameAndType 5 6), (0, u "java/lang/Object"), (0, u "<init>"), (0, u "()V"), (0, .string 8), (0, u ""), (0, .fieldref 10 11), (0, .class_ 12), (0, .nameAndType 13 14), (0, u "java/lang/String"), (0, u "value"), (0, u "[B"), (0, .fieldref 10 16), (0, .nameAndType 17 18), (0, u "coder"), (0, u "B"), (2, u "hash"), (0, u "I"), (2, u "hashIsZero"), (0, u "Z"), (0, .methodref 10 28), (0, .nameAndType 5 29), (0, u "([CIILjava/lang/Void;)V"), (8, .fieldref 10 39), (0, .nameAndType 40 26), (0, u "COMPACT_STRINGS"), (1, .class_ 44), (1, u "java/lang/StringUTF16"), (0, u "compress"), (1, .methodref 42 48), (0, .nameAndType 49 50), (0, u "coderFromArrayLen"), (0, u "([BI)B"), (3, .methodref 55 56), (0, .class_ 57), (0, .nameAndType 58 59), (0, u "java/util/Arrays"), (0, u "copyOfRange"), (0, u "([BII)[B"), (47, .class_ 109), (1, u "java/lang/StringLatin1"), (32, u "()Z"), (34, .methodref 42 178), (0, .nameAndType 45 179), (0, u "([CII)[B"), (13, .class_ 195), (1, u "java/lang/System"), (16, .methodref 193 213), (0, .nameAndType 214 215), (0, u "arraycopy"), (0, u "(Ljava/lang/Object;ILjava/lang/Object;II)V"), (118, u "()I"), (0, .methodref 10 336), (0, .nameAndType 17 337), (0, u "()B"), (2, u "()[B"), (22, u "([BI)C"), (27, u "(II)V"), (35, u "(I)C"), (61, .methodref 10 490), (0, .nameAndType 5 491), (0, u "(Ljava/lang/AbstractStringBuilder;Ljava/lang/Void;)V"), (0, .methodref 10 493), (0, .nameAndType 494 142), (0, u "isLatin1"), (0, .methodref 107 496), (0, .nameAndType 497 363), (0, u "charAt"), (3, u "checkIndex"), (4, .nameAndType 507 334), (0, u "length"), (24, u "getBytes"), (16, .methodref 550 506), (0, .class_ 551), (0, u "java/lang/AbstractStringBuilder"), (0, .methodref 550 553), (0, .nameAndType 554 340), (0, u "getValue"), (20, .class_ 576), (0, u "java/lang/CharSequence"), (22, u "CASE_INSENSITIVE_ORDER"), (0, u "Ljava/util/Comparator;"), (220, u "([BIB)V"), (188, u "([C)V"), (36, .methodref 550 493), (5, .fieldref 1054 1055), (0, .class_ 1056), (0, .nameAndType 1057 1058), (0, u "jdk/internal/util/Preconditions"), (0, u "SIOOBE_FORMATTER"), (0, u "Ljava/util/function/BiFunction;"), (0, .methodref 1054 1060), (0, .nameAndType 501 1061), (0, u "(IILjava/util/function/BiFunction;)I"), (39, u "serialPersistentFields"), (0, u "[Ljava/io/ObjectStreamField;"), (0, .class_ 1104), (0, u "java/lang/String$CaseInsensitiveComparator"), (1, .class_ 1107), (0, u "java/io/Serializable"), (0, .class_ 1109), (0, u "java/lang/Comparable"), (0, .class_ 1111), (0, u "java/lang/constant/Constable"), (0, .class_ 1113), (0, u "java/lang/constant/ConstantDesc"), (2, u "serialVersionUID"), (0, u "J"), (3, u "REPL"), (0, u "C"), (2, u "LATIN1"), (1, u "UTF16"), (105, u "(Ljava/lang/StringBuilder;)V")] 217

def k7m0 : Method := { name := "<init>", desc := "()V", sig := { parameters := [], returnType := none }, accessFlags := 1, code := none }
def k7c1 : Code := { maxStack := 5, maxLocals := 2, code := jdk_42_method_3_code, exceptionTable := #[], attributes := #[] }
def k7m1 : Method := { name := "<init>", desc := "([C)V", sig := { parameters := [(.array .char)], returnType := none }, accessFlags := 1, code := some k7c1 }
def k7c2 : Code := { maxStack := 3, maxLocals := 2, code := jdk_42_method_53_code, exceptionTable := #[], attributes := #[] }
def k7m2 : Method := { name := "<init>", desc := "(Ljava/lang/StringBuilder;)V", sig := { parameters := [(.object "java/lang/StringBuilder")], returnType := none }, accessFlags := 1, code := some k7c2 }
def k7c3 : Code := { maxStack := 2, maxLocals := 1, code := jdk_42_method_54_code, exceptionTable := #[], attributes := #[] }
def k7m3 : Method := { name := "length", desc := "()I", sig := { parameters := [], returnType := some .int }, accessFlags := 1, code := some k7c3 }
def k7c4 : Code := { maxStack := 2, maxLocals := 2, code := jdk_42_method_56_code, exceptionTable := #[], attributes := #[] }
def k7m4 : Method := { name := "charAt", desc := "(I)C", sig := { parameters := [.int], returnType := some .char }, accessFlags := 1, code := some k7c4 }
def k7c5 : Code := { maxStack := 5, maxLocals := 4, code := jdk_42_method_147_code, exceptionTable := #[], attributes := #[] }
def k7m5 : Method := { name := "getBytes", desc := "([BIB)V", sig := { parameters := [(.array .byte), .int, .byte], returnType := none }, accessFlags := 0, code := some k7c5 }
def k7c6 : Code := { maxStack := 4, maxLocals := 6, code := jdk_42_method_149_code, exceptionTable := #[], attributes := #[] }
def k7m6 : Method := { name := "<init>", desc := "([CIILjava/lang/Void;)V", sig := { parameters := [(.array .char), .int, .int, (.object "java/lang/Void")], returnType := none }, accessFlags := 2, code := some k7c6 }
def k7c7 : Code := { maxStack := 5, maxLocals := 5, code := jdk_42_method_150_code, exceptionTable := #[], attributes := #[] }
def k7m7 : Method := { name := "<init>", desc := "(Ljava/lang/AbstractStringBuilder;Ljava/lang/Void;)V", sig := { parameters := [(.object "java/lang/AbstractStringBuilder"), (.object "java/lang/Void")], returnType := none }, accessFlags := 0, code := some k7c7 }
def k7c8 : Code := { maxStack := 1, maxLocals := 1, code := jdk_42_method_152_code, exceptionTable := #[], attributes := #[] }
def k7m8 : Method := { name := "coder", desc := "()B", sig := { parameters := [], returnType := some .byte }, accessFlags := 0, code := some k7c8 }
def k7c9 : Code := { maxStack := 1, maxLocals := 1, code := jdk_42_method_154_code, exceptionTable := #[], attributes := #[] }
def k7m9 : Method := { name := "isLatin1", desc := "()Z", sig := { parameters := [], returnType := some .boolean }, accessFlags := 0, code := some k7c9 }
def k7c10 : Code := { maxStack := 3, maxLocals := 2, code := jdk_42_method_155_code, exceptionTable := #[], attributes := #[] }
def k7m10 : Method := { name := "checkIndex", desc := "(II)V", sig := { parameters := [.int, .int], returnType := none }, accessFlags := 8, code := some k7c10 }
/-- java/lang/String -/
def k7 : Class := { plain "java/lang/String" (some 0) with
  accessFlags := 49
  interfaces := #[2, 3, 4, 5, 6]
  cf := some (fileOf pool7 10 #[.nestMembers #[1103]] #[{ accessFlags := 1, nameIndex := 5, descriptorIndex := 6, attributes := #[] }, { accessFlags := 1, nameIndex := 5, descriptorIndex := 1010, attributes := #[] }, { accessFlags := 1, nameIndex := 5, descriptorIndex := 1233, attributes := #[] }, { accessFlags := 1, nameIndex := 507, descriptorIndex := 334, attributes := #[] }, { accessFlags := 1, nameIndex := 497, descriptorIndex := 427, attributes := #[] }, { accessFlags := 0, nameIndex := 532, descriptorIndex := 821, attributes := #[] }, { accessFlags := 2, nameIndex := 5, descriptorIndex := 29, attributes := #[] }, { accessFlags := 0, nameIndex := 5, descriptorIndex := 491, attributes := #[] }, { accessFlags := 0, nameIndex := 17, descriptorIndex := 337, attributes := #[] }, { accessFlags := 0, nameIndex := 494, descriptorIndex := 142, attributes := #[] }, { accessFlags := 8, nameIndex := 501, descriptorIndex := 391, attributes := #[] }] 49 2 #[1106, 1108, 575, 1110, 1112] #[{ accessFlags := 18, nameIndex := 13, descriptorIndex := 14, attributes := #[] }, { accessFlags := 18, nameIndex := 17, descriptorIndex := 18, attributes := #[] }, { accessFlags := 2, nameIndex := 21, descriptorIndex := 22, attributes := #[] }, { accessFlags := 2, nameIndex := 25, descriptorIndex := 26, attributes := #[] }, { accessFlags := 26, nameIndex := 1116, descriptorIndex := 1117, attributes := #[] }, { accessFlags := 24, nameIndex := 40, descriptorIndex := 26, attributes := #[] }, { accessFlags := 26, nameIndex := 1101, descriptorIndex := 1102, attributes := #[] }, { accessFlags := 26, nameIndex := 1121, descriptorIndex := 1122, attributes := #[] }, { accessFlags := 25, nameIndex := 599, descriptorIndex := 600, attributes := #[] }, { accessFlags := 24, nameIndex := 1125, descriptorIndex := 18, attributes := #[] }, { accessFlags := 24, nameIndex := 1127, descriptorIndex := 18, attributes := #[] }])
  fields := #[{ name := "value", type := (.array .byte), accessFlags := 18, slot := 0, constantValue := 0 }, { name := "coder", type := .byte, accessFlags := 18, slot := 1, constantValue := 0 }, { name := "hash", type := .int, accessFlags := 2, slot := 2, constantValue := 0 }, { name := "hashIsZero", type := .boolean, accessFlags := 2, slot := 3, constantValue := 0 }, { name := "serialVersionUID", type := .long, accessFlags := 26, slot := 0, constantValue := 0 }, { name := "COMPACT_STRINGS", type := .boolean, accessFlags := 24, slot := 1, constantValue := 0 }, { name := "serialPersistentFields", type := (.array (.object "java/io/ObjectStreamField")), accessFlags := 26, slot := 2, constantValue := 0 }, { name := "REPL", type := .char, accessFlags := 26, slot := 3, constantValue := 0 }, { name := "CASE_INSENSITIVE_ORDER", type := (.object "java/util/Comparator"), accessFlags := 25, slot := 4, constantValue := 0 }, { name := "LATIN1", type := .byte, accessFlags := 24, slot := 5, constantValue := 0 }, { name := "UTF16", type := .byte, accessFlags := 24, slot := 6, constantValue := 0 }]
  methods := #[k7m0, k7m1, k7m2, k7m3, k7m4, k7m5, k7m6, k7m7, k7m8, k7m9, k7m10]
  instanceTypes := #[(.array .byte), .byte, .int, .boolean]
  staticTypes := #[.long, .boolean, (.array (.object "java/io/ObjectStreamField")), .char, (.object "java/util/Comparator"), .byte, .byte]
  resolved := Array.replicate 1451 none
  statics := some 0 }

def pool8 : Array CpInfo := pool [(6, .class_ 8), (1, u "java/lang/Object"), (0, u "<init>"), (0, u "()V"), (1, .class_ 14), (1, u "java/lang/StringUTF16"), (31, u "$assertionsDisabled"), (0, u "Z"), (13, u "HI_BYTE_SHIFT"), (0, u "I"), (2, u "LO_BYTE_SHIFT"), (49, .methodref 12 116), (0, .nameAndType 117 118), (0, u "compress"), (0, u "([CI[BII)I"), (3, u "([CII)[B"), (138, u "coderFromArrayLen"), (0, u "([BI)B"), (106, .class_ 371), (1, u "java/lang/StringUTF16$LinesSpliterator"), (58, u "MAX_LENGTH"), (196, .class_ 628), (0, u "java/lang/StringUTF16$CodePointsSpliterator"), (0, .class_ 630), (0, u "java/lang/StringUTF16$CharsSpliterator")] 4

def k8m0 : Method := { name := "<init>", desc := "()V", sig := { parameters := [], returnType := none }, accessFlags := 0, code := none }
def k8c1 : Code := { maxStack := 2, maxLocals := 2, code := jdk_52_method_15_code, exceptionTable := #[], attributes := #[] }
def k8m1 : Method := { name := "coderFromArrayLen", desc := "([BI)B", sig := { parameters := [(.array .byte), .int], returnType := some .byte }, accessFlags := 8, code := some k8c1 }
def k8c2 : Code := { maxStack := 5, maxLocals := 6, code := jdk_52_method_16_code, exceptionTable := #[], attributes := #[] }
def k8m2 : Method := { name := "compress", desc := "([CII)[B", sig := { parameters := [(.array .char), .int, .int], returnType := some (.array .byte) }, accessFlags := 9, code := some k8c2 }
def k8c3 : Code := { maxStack := 3, maxLocals := 7, code := jdk_52_method_21_code, exceptionTable := #[], attributes := #[] }
def k8m3 : Method := { name := "compress", desc := "([CI[BII)I", sig := { parameters := [(.array .char), .int, (.array .byte), .int, .int], returnType := some .int }, accessFlags := 9, code := some k8c3 }
/-- java/lang/StringUTF16 -/
def k8 : Class := { plain "java/lang/StringUTF16" (some 0) with
  accessFlags := 48
  interfaces := #[]
  cf := some (fileOf pool8 12 #[.nestMembers #[627, 629, 369]] #[{ accessFlags := 0, nameIndex := 9, descriptorIndex := 10, attributes := #[] }, { accessFlags := 8, nameIndex := 261, descriptorIndex := 262, attributes := #[] }, { accessFlags := 9, nameIndex := 117, descriptorIndex := 122, attributes := #[] }, { accessFlags := 9, nameIndex := 117, descriptorIndex := 118, attributes := #[] }] 48 6 #[] #[{ accessFlags := 26, nameIndex := 61, descriptorIndex := 62, attributes := #[] }, { accessFlags := 26, nameIndex := 65, descriptorIndex := 62, attributes := #[] }, { accessFlags := 24, nameIndex := 430, descriptorIndex := 62, attributes := #[] }, { accessFlags := 4120, nameIndex := 46, descriptorIndex := 47, attributes := #[] }])
  fields := #[{ name := "HI_BYTE_SHIFT", type := .int, accessFlags := 26, slot := 0, constantValue := 0 }, { name := "LO_BYTE_SHIFT", type := .int, accessFlags := 26, slot := 1, constantValue := 0 }, { name := "MAX_LENGTH", type := .int, accessFlags := 24, slot := 2, constantValue := 0 }, { name := "$assertionsDisabled", type := .boolean, accessFlags := 4120, slot := 3, constantValue := 0 }]
  methods := #[k8m0, k8m1, k8m2, k8m3]
  instanceTypes := #[]
  staticTypes := #[.int, .int, .int, .boolean]
  resolved := Array.replicate 635 none
  statics := none }

def pool9 : Array CpInfo := pool [(2, .class_ 4), (0, .nameAndType 5 6), (0, u "java/lang/Object"), (0, u "<init>"), (0, u "()V"), (4, .class_ 13), (1, u "com/example/tight_calculus/tightcalculus/Component"), (25, u "curveName"), (0, u "(Ljava/lang/String;Z)Ljava/lang/String;"), (21, .class_ 63), (0, u "java/lang/StringBuilder"), (0, .methodref 62 3), (0, .methodref 62 66), (0, .nameAndType 67 68), (0, u "append"), (0, u "(Ljava/lang/String;)Ljava/lang/StringBuilder;"), (0, .string 70), (0, u ".upper"), (0, .string 72), (0, u ".lower"), (0, .methodref 62 74), (0, .nameAndType 75 76), (0, u "toString"), (0, u "()Ljava/lang/String;"), (0, u "OUT"), (0, u "Ljava/lang/String;"), (3, u "REST"), (18, .class_ 102), (0, u "com/example/tight_calculus/tightcalculus/Component$Method")] 2

def k9m0 : Method := { name := "<init>", desc := "()V", sig := { parameters := [], returnType := none }, accessFlags := 0, code := none }
def k9c1 : Code := { maxStack := 2, maxLocals := 2, code := prog_3_method_8_code, exceptionTable := #[], attributes := #[] }
def k9m1 : Method := { name := "curveName", desc := "(Ljava/lang/String;Z)Ljava/lang/String;", sig := { parameters := [(.object "java/lang/String"), .boolean], returnType := some (.object "java/lang/String") }, accessFlags := 8, code := some k9c1 }
/-- com/example/tight_calculus/tightcalculus/Component -/
def k9 : Class := { plain "com/example/tight_calculus/tightcalculus/Component" (some 0) with
  accessFlags := 1057
  interfaces := #[]
  cf := some (fileOf pool9 11 #[.nestMembers #[101]] #[{ accessFlags := 0, nameIndex := 5, descriptorIndex := 6, attributes := #[] }, { accessFlags := 8, nameIndex := 39, descriptorIndex := 40, attributes := #[] }] 1057 2 #[] #[{ accessFlags := 24, nameIndex := 77, descriptorIndex := 78, attributes := #[] }, { accessFlags := 24, nameIndex := 82, descriptorIndex := 78, attributes := #[] }])
  fields := #[{ name := "OUT", type := (.object "java/lang/String"), accessFlags := 24, slot := 0, constantValue := 0 }, { name := "REST", type := (.object "java/lang/String"), accessFlags := 24, slot := 1, constantValue := 0 }]
  methods := #[k9m0, k9m1]
  instanceTypes := #[]
  staticTypes := #[(.object "java/lang/String"), (.object "java/lang/String")]
  resolved := Array.replicate 105 none
  statics := none }

def pool10 : Array CpInfo := pool [(1, .class_ 2), (0, u "java/lang/Appendable"), (0, .class_ 4), (0, u "java/lang/Object")] 9

/-- java/lang/Appendable -/
def k10 : Class := { plain "java/lang/Appendable" (some 0) with
  accessFlags := 1537
  interfaces := #[]
  cf := some (fileOf pool10 1 #[] #[] 1537 3 #[] #[])
  fields := #[]
  methods := #[]
  instanceTypes := #[]
  staticTypes := #[]
  resolved := Array.replicate 14 none
  statics := none }

def pool11 : Array CpInfo := pool [(1, .class_ 2), (0, u "java/lang/String"), (0, .methodref 4 5), (0, .class_ 6), (0, .nameAndType 7 8), (0, u "java/lang/Object"), (0, u "<init>"), (0, u "()V"), (1, .class_ 12), (1, u "java/lang/AbstractStringBuilder"), (0, u "EMPTYVALUE"), (0, u "[B"), (0, .fieldref 10 16), (0, .nameAndType 17 14), (0, u "value"), (0, .fieldref 1 19), (0, .nameAndType 20 21), (0, u "COMPACT_STRINGS"), (0, u "Z"), (0, .fieldref 10 23), (0, .nameAndType 24 25), (0, u "coder"), (0, u "B"), (6, .methodref 1 33), (0, .nameAndType 34 35), (0, u "length"), (0, u "()I"), (4, .methodref 1 41), (0, .nameAndType 24 42), (0, u "()B"), (2, u "append"), (0, u "(Ljava/lang/String;)Ljava/lang/AbstractStringBuilder;"), (1, .class_ 49), (0, u "java/lang/CharSequence"), (19, u "(Ljava/lang/String;)V"), (5, u "maybeLatin1"), (3, .fieldref 10 80), (0, .nameAndType 81 82), (0, u "count"), (0, u "I"), (2, u "isLatin1"), (0, u "()Z"), (13, .methodref 10 101), (0, .nameAndType 102 103), (0, u "ensureCapacityInternal"), (0, u "(I)V"), (104, .methodref 10 209), (0, .nameAndType 210 211), (0, u "putStringAt"), (0, u "(ILjava/lang/String;)V"), (5, u "inflateIfNeededFor"), (2, .nameAndType 221 222), (0, u "getBytes"), (0, u "([BIB)V"), (174, .methodref 10 398), (0, .nameAndType 217 69), (0, .methodref 1 220), (3, u "()[B"), (40, .class_ 445), (0, u "java/lang/Appendable"), (106, u "getValue")] 56

def k11m0 : Method := { name := "<init>", desc := "()V", sig := { parameters := [], returnType := none }, accessFlags := 0, code := none }
def k11c1 : Code := { maxStack := 2, maxLocals := 2, code := jdk_68_method_2_code, exceptionTable := #[], attributes := #[] }
def k11m1 : Method := { name := "<init>", desc := "(I)V", sig := { parameters := [.int], returnType := none }, accessFlags := 0, code := some k11c1 }
def k11c2 : Code := { maxStack := 1, maxLocals := 1, code := jdk_68_method_6_code, exceptionTable := #[], attributes := #[] }
def k11m2 : Method := { name := "length", desc := "()I", sig := { parameters := [], returnType := some .int }, accessFlags := 1, code := some k11c2 }
def k11c3 : Code := { maxStack := 4, maxLocals := 3, code := jdk_68_method_9_code, exceptionTable := #[], attributes := #[] }
def k11m3 : Method := { name := "ensureCapacityInternal", desc := "(I)V", sig := { parameters := [.int], returnType := none }, accessFlags := 2, code := some k11c3 }
def k11c4 : Code := { maxStack := 3, maxLocals := 3, code := jdk_68_method_22_code, exceptionTable := #[], attributes := #[] }
def k11m4 : Method := { name := "append", desc := "(Ljava/lang/String;)Ljava/lang/AbstractStringBuilder;", sig := { parameters := [(.object "java/lang/String")], returnType := some (.object "java/lang/AbstractStringBuilder") }, accessFlags := 1, code := some k11c4 }
def k11c5 : Code := { maxStack := 1, maxLocals := 1, code := jdk_68_method_64_code, exceptionTable := #[], attributes := #[] }
def k11m5 : Method := { name := "getValue", desc := "()[B", sig := { parameters := [], returnType := some (.array .byte) }, accessFlags := 16, code := some k11c5 }
def k11c6 : Code := { maxStack := 1, maxLocals := 1, code := jdk_68_method_68_code, exceptionTable := #[], attributes := #[] }
def k11m6 : Method := { name := "isLatin1", desc := "()Z", sig := { parameters := [], returnType := some .boolean }, accessFlags := 16, code := some k11c6 }
def k11c7 : Code := { maxStack := 2, maxLocals := 2, code := jdk_68_method_71_code, exceptionTable := #[], attributes := #[] }
def k11m7 : Method := { name := "inflateIfNeededFor", desc := "(Ljava/lang/String;)V", sig := { parameters := [(.object "java/lang/String")], returnType := none }, accessFlags := 2, code := some k11c7 }
def k11c8 : Code := { maxStack := 4, maxLocals := 3, code := jdk_68_method_73_code, exceptionTable := #[], attributes := #[] }
def k11m8 : Method := { name := "putStringAt", desc := "(ILjava/lang/String;)V", sig := { parameters := [.int, (.object "java/lang/String")], returnType := none }, accessFlags := 2, code := some k11c8 }
/-- java/lang/AbstractStringBuilder -/
def k11 : Class := { plain "java/lang/AbstractStringBuilder" (some 0) with
  accessFlags := 1056
  interfaces := #[10, 4]
  cf := some (fileOf pool11 10 #[] #[{ accessFlags := 0, nameIndex := 7, descriptorIndex := 8, attributes := #[] }, { accessFlags := 0, nameIndex := 7, descriptorIndex := 103, attributes := #[] }, { accessFlags := 1, nameIndex := 34, descriptorIndex := 35, attributes := #[] }, { accessFlags := 2, nameIndex := 102, descriptorIndex := 103, attributes := #[] }, { accessFlags := 1, nameIndex := 45, descriptorIndex := 46, attributes := #[] }, { accessFlags := 16, nameIndex := 552, descriptorIndex := 403, attributes := #[] }, { accessFlags := 16, nameIndex := 85, descriptorIndex := 86, attributes := #[] }, { accessFlags := 2, nameIndex := 217, descriptorIndex := 69, attributes := #[] }, { accessFlags := 2, nameIndex := 210, descriptorIndex := 211, attributes := #[] }] 1056 4 #[444, 48] #[{ accessFlags := 0, nameIndex := 17, descriptorIndex := 14, attributes := #[] }, { accessFlags := 0, nameIndex := 24, descriptorIndex := 25, attributes := #[] }, { accessFlags := 0, nameIndex := 75, descriptorIndex := 21, attributes := #[] }, { accessFlags := 0, nameIndex := 81, descriptorIndex := 82, attributes := #[] }, { accessFlags := 26, nameIndex := 13, descriptorIndex := 14, attributes := #[] }])
  fields := #[{ name := "value", type := (.array .byte), accessFlags := 0, slot := 0, constantValue := 0 }, { name := "coder", type := .byte, accessFlags := 0, slot := 1, constantValue := 0 }, { name := "maybeLatin1", type := .boolean, accessFlags := 0, slot := 2, constantValue := 0 }, { name := "count", type := .int, accessFlags := 0, slot := 3, constantValue := 0 }, { name := "EMPTYVALUE", type := (.array .byte), accessFlags := 26, slot := 0, constantValue := 0 }]
  methods := #[k11m0, k11m1, k11m2, k11m3, k11m4, k11m5, k11m6, k11m7, k11m8]
  instanceTypes := #[(.array .byte), .byte, .boolean, .int]
  staticTypes := #[(.array .byte)]
  resolved := Array.replicate 609 none
  statics := none }

def pool12 : Array CpInfo := pool [(1, .methodref 2 3), (0, .class_ 4), (0, .nameAndType 5 6), (0, u "java/lang/AbstractStringBuilder"), (0, u "<init>"), (0, u "(I)V"), (11, .class_ 20), (1, u "java/lang/String"), (3, .class_ 26), (1, u "java/lang/StringBuilder"), (0, u "append"), (0, u "(Ljava/lang/String;)Ljava/lang/StringBuilder;"), (0, .methodref 2 30), (0, .nameAndType 27 31), (0, u "(Ljava/lang/String;)Ljava/lang/AbstractStringBuilder;"), (105, .methodref 18 138), (0, .nameAndType 5 139), (0, u "(Ljava/lang/StringBuilder;)V"), (5, u "()V"), (10, u "()I"), (186, .methodref 2 344), (0, .nameAndType 345 156), (0, u "length"), (3, .class_ 350), (0, u "java/lang/Appendable"), (0, .class_ 352), (0, u "java/io/Serializable"), (0, .class_ 354), (0, u "java/lang/Comparable"), (0, .class_ 356), (0, u "java/lang/CharSequence"), (0, u "serialVersionUID"), (0, u "J"), (40, u "toString"), (0, u "()Ljava/lang/String;")] 21

def k12c0 : Code := { maxStack := 2, maxLocals := 1, code := jdk_67_method_1_code, exceptionTable := #[], attributes := #[] }
def k12m0 : Method := { name := "<init>", desc := "()V", sig := { parameters := [], returnType := none }, accessFlags := 1, code := some k12c0 }
def k12c1 : Code := { maxStack := 2, maxLocals := 2, code := jdk_67_method_7_code, exceptionTable := #[], attributes := #[] }
def k12m1 : Method := { name := "append", desc := "(Ljava/lang/String;)Ljava/lang/StringBuilder;", sig := { parameters := [(.object "java/lang/String")], returnType := some (.object "java/lang/StringBuilder") }, accessFlags := 1, code := some k12c1 }
def k12c2 : Code := { maxStack := 3, maxLocals := 1, code := jdk_67_method_42_code, exceptionTable := #[], attributes := #[] }
def k12m2 : Method := { name := "toString", desc := "()Ljava/lang/String;", sig := { parameters := [], returnType := some (.object "java/lang/String") }, accessFlags := 1, code := some k12c2 }
def k12c3 : Code := { maxStack := 1, maxLocals := 1, code := jdk_67_method_93_code, exceptionTable := #[], attributes := #[] }
def k12m3 : Method := { name := "length", desc := "()I", sig := { parameters := [], returnType := some .int }, accessFlags := 4161, code := some k12c3 }
/-- java/lang/StringBuilder -/
def k12 : Class := { plain "java/lang/StringBuilder" (some 11) with
  accessFlags := 49
  interfaces := #[10, 2, 3, 4]
  cf := some (fileOf pool12 24 #[] #[{ accessFlags := 1, nameIndex := 5, descriptorIndex := 145, attributes := #[] }, { accessFlags := 1, nameIndex := 27, descriptorIndex := 28, attributes := #[] }, { accessFlags := 1, nameIndex := 399, descriptorIndex := 400, attributes := #[] }, { accessFlags := 4161, nameIndex := 345, descriptorIndex := 156, attributes := #[] }] 49 2 #[349, 351, 353, 355] #[{ accessFlags := 24, nameIndex := 357, descriptorIndex := 358, attributes := #[] }])
  fields := #[{ name := "serialVersionUID", type := .long, accessFlags := 24, slot := 0, constantValue := 0 }]
  methods := #[k12m0, k12m1, k12m2, k12m3]
  instanceTypes := #[(.array .byte), .byte, .boolean, .int]
  staticTypes := #[.long]
  resolved := Array.replicate 422 none
  statics := none }

def pool13 : Array CpInfo := pool [(2, .class_ 4), (1, u "java/lang/Object"), (0, u "<init>"), (0, u "()V"), (1, .class_ 10), (1, u "java/lang/System"), (0, u "allowSecurityManager"), (0, u "I"), (16, u "cons"), (0, u "Ljava/io/Console;"), (77, .class_ 110), (1, u "java/lang/System$CallersHolder"), (43, u "initialErrStream"), (0, u "Ljava/io/PrintStream;"), (19, u "security"), (0, u "Ljava/lang/SecurityManager;"), (31, .class_ 209), (0, u "java/lang/System$1"), (7, u "props"), (0, u "Ljava/util/Properties;"), (2, u "lineSeparator"), (0, u "Ljava/lang/String;"), (96, .class_ 321), (1, u "java/lang/System$LoggerFinder"), (5, .class_ 328), (0, u "java/lang/System$Logger"), (67, u "err"), (2, u "out"), (91, u "notSupportedJnuEncoding"), (15, u "in"), (17, u "initialIn"), (0, u "Ljava/io/InputStream;"), (35, u "bootLayer"), (0, u "Ljava/lang/ModuleLayer;"), (99, .class_ 664), (0, u "java/lang/System$2"), (9, u "NEVER"), (2, u "MAYBE"), (49, u "arraycopy"), (0, u "(Ljava/lang/Object;ILjava/lang/Object;II)V"), (72, .class_ 802), (0, u "java/lang/System$Logger$Level")] 31

def k13m0 : Method := { name := "<init>", desc := "()V", sig := { parameters := [], returnType := none }, accessFlags := 2, code := none }
def k13m1 : Method := { name := "arraycopy", desc := "(Ljava/lang/Object;ILjava/lang/Object;II)V", sig := { parameters := [(.object "java/lang/Object"), .int, (.object "java/lang/Object"), .int, .int], returnType := none }, accessFlags := 265, code := none }
/-- java/lang/System -/
def k13 : Class := { plain "java/lang/System" (some 0) with
  accessFlags := 49
  interfaces := #[]
  cf := some (fileOf pool13 8 #[.nestMembers #[319, 327, 801, 108, 663, 208]] #[{ accessFlags := 2, nameIndex := 5, descriptorIndex := 6, attributes := #[] }, { accessFlags := 265, nameIndex := 727, descriptorIndex := 728, attributes := #[] }] 49 2 #[] #[{ accessFlags := 25, nameIndex := 507, descriptorIndex := 526, attributes := #[] }, { accessFlags := 25, nameIndex := 399, descriptorIndex := 155, attributes := #[] }, { accessFlags := 25, nameIndex := 396, descriptorIndex := 155, attributes := #[] }, { accessFlags := 10, nameIndex := 525, descriptorIndex := 526, attributes := #[] }, { accessFlags := 26, nameIndex := 674, descriptorIndex := 12, attributes := #[] }, { accessFlags := 26, nameIndex := 677, descriptorIndex := 12, attributes := #[] }, { accessFlags := 10, nameIndex := 11, descriptorIndex := 12, attributes := #[] }, { accessFlags := 74, nameIndex := 175, descriptorIndex := 176, attributes := #[] }, { accessFlags := 10, nameIndex := 491, descriptorIndex := 222, attributes := #[] }, { accessFlags := 74, nameIndex := 29, descriptorIndex := 30, attributes := #[] }, { accessFlags := 74, nameIndex := 154, descriptorIndex := 155, attributes := #[] }, { accessFlags := 10, nameIndex := 217, descriptorIndex := 218, attributes := #[] }, { accessFlags := 10, nameIndex := 221, descriptorIndex := 222, attributes := #[] }, { accessFlags := 8, nameIndex := 562, descriptorIndex := 563, attributes := #[] }])
  fields := #[{ name := "in", type := (.object "java/io/InputStream"), accessFlags := 25, slot := 0, constantValue := 0 }, { name := "out", type := (.object "java/io/PrintStream"), accessFlags := 25, slot := 1, constantValue := 0 }, { name := "err", type := (.object "java/io/PrintStream"), accessFlags := 25, slot := 2, constantValue := 0 }, { name := "initialIn", type := (.object "java/io/InputStream"), accessFlags := 10, slot := 3, constantValue := 0 }, { name := "NEVER", type := .int, accessFlags := 26, slot := 4, constantValue := 0 }, { name := "MAYBE", type := .int, accessFlags := 26, slot := 5, constantValue := 0 }, { name := "allowSecurityManager", type := .int, accessFlags := 10, slot := 6, constantValue := 0 }, { name := "security", type := (.object "java/lang/SecurityManager"), accessFlags := 74, slot := 7, constantValue := 0 }, { name := "notSupportedJnuEncoding", type := (.object "java/lang/String"), accessFlags := 10, slot := 8, constantValue := 0 }, { name := "cons", type := (.object "java/io/Console"), accessFlags := 74, slot := 9, constantValue := 0 }, { name := "initialErrStream", type := (.object "java/io/PrintStream"), accessFlags := 74, slot := 10, constantValue := 0 }, { name := "props", type := (.object "java/util/Properties"), accessFlags := 10, slot := 11, constantValue := 0 }, { name := "lineSeparator", type := (.object "java/lang/String"), accessFlags := 10, slot := 12, constantValue := 0 }, { name := "bootLayer", type := (.object "java/lang/ModuleLayer"), accessFlags := 8, slot := 13, constantValue := 0 }]
  methods := #[k13m0, k13m1]
  instanceTypes := #[]
  staticTypes := #[(.object "java/io/InputStream"), (.object "java/io/PrintStream"), (.object "java/io/PrintStream"), (.object "java/io/InputStream"), .int, .int, .int, (.object "java/lang/SecurityManager"), (.object "java/lang/String"), (.object "java/io/Console"), (.object "java/io/PrintStream"), (.object "java/util/Properties"), (.object "java/lang/String"), (.object "java/lang/ModuleLayer")]
  resolved := Array.replicate 834 none
  statics := none }

def pool14 : Array CpInfo := pool [(2, .class_ 4), (1, u "java/lang/Object"), (0, u "<init>"), (0, u "()V"), (7, .class_ 16), (1, u "java/util/Arrays"), (57, .class_ 76), (1, u "java/util/Arrays$NaturalOrder"), (36, .class_ 115), (1, u "java/util/Arrays$LegacyMergeSort"), (1, u "Z"), (21, u "copyOfRange"), (10, .methodref 151 152), (0, .class_ 153), (0, .nameAndType 154 155), (0, u "java/lang/System"), (0, u "arraycopy"), (0, u "(Ljava/lang/Object;ILjava/lang/Object;II)V"), (148, .methodref 305 306), (0, .class_ 307), (0, .nameAndType 308 309), (0, u "java/lang/Math"), (0, u "min"), (0, u "(II)I"), (29, .methodref 14 340), (0, .nameAndType 341 342), (0, u "copyOfRangeByte"), (0, u "([BII)[B"), (0, .methodref 14 344), (0, .nameAndType 345 346), (0, u "checkLength"), (0, u "(II)V"), (28, .class_ 376), (0, u "java/util/Arrays$ArrayList"), (68, u "$assertionsDisabled"), (269, u "MIN_ARRAY_SORT_GRAN"), (0, u "I"), (2, u "INSERTIONSORT_THRESHOLD"), (255, .class_ 976), (0, u "java/util/Arrays$ArrayItr")] 52

def k14m0 : Method := { name := "<init>", desc := "()V", sig := { parameters := [], returnType := none }, accessFlags := 2, code := none }
def k14c1 : Code := { maxStack := 4, maxLocals := 2, code := jdk_65_method_131_code, exceptionTable := #[], attributes := #[] }
def k14m1 : Method := { name := "checkLength", desc := "(II)V", sig := { parameters := [.int, .int], returnType := none }, accessFlags := 10, code := some k14c1 }
def k14c2 : Code := { maxStack := 3, maxLocals := 3, code := jdk_65_method_132_code, exceptionTable := #[], attributes := #[] }
def k14m2 : Method := { name := "copyOfRange", desc := "([BII)[B", sig := { parameters := [(.array .byte), .int, .int], returnType := some (.array .byte) }, accessFlags := 9, code := some k14c2 }
def k14c3 : Code := { maxStack := 6, maxLocals := 5, code := jdk_65_method_133_code, exceptionTable := #[], attributes := #[] }
def k14m3 : Method := { name := "copyOfRangeByte", desc := "([BII)[B", sig := { parameters := [(.array .byte), .int, .int], returnType := some (.array .byte) }, accessFlags := 10, code := some k14c3 }
/-- java/util/Arrays -/
def k14 : Class := { plain "java/util/Arrays" (some 0) with
  accessFlags := 49
  interfaces := #[]
  cf := some (fileOf pool14 14 #[.nestMembers #[975, 375, 113, 74]] #[{ accessFlags := 2, nameIndex := 5, descriptorIndex := 6, attributes := #[] }, { accessFlags := 10, nameIndex := 345, descriptorIndex := 346, attributes := #[] }, { accessFlags := 9, nameIndex := 139, descriptorIndex := 342, attributes := #[] }, { accessFlags := 10, nameIndex := 341, descriptorIndex := 342, attributes := #[] }] 49 2 #[] #[{ accessFlags := 26, nameIndex := 715, descriptorIndex := 716, attributes := #[] }, { accessFlags := 26, nameIndex := 719, descriptorIndex := 716, attributes := #[] }, { accessFlags := 4120, nameIndex := 445, descriptorIndex := 117, attributes := #[] }])
  fields := #[{ name := "MIN_ARRAY_SORT_GRAN", type := .int, accessFlags := 26, slot := 0, constantValue := 0 }, { name := "INSERTIONSORT_THRESHOLD", type := .int, accessFlags := 26, slot := 1, constantValue := 0 }, { name := "$assertionsDisabled", type := .boolean, accessFlags := 4120, slot := 2, constantValue := 0 }]
  methods := #[k14m0, k14m1, k14m2, k14m3]
  instanceTypes := #[]
  staticTypes := #[.int, .int, .boolean]
  resolved := Array.replicate 1029 none
  statics := none }

def pool15 : Array CpInfo := pool [(1, .class_ 2), (0, u "java/lang/Math"), (1, .class_ 6), (1, u "java/lang/Object"), (0, u "<init>"), (0, u "()V"), (89, .class_ 100), (1, u "java/lang/Math$RandomNumberGeneratorHolder"), (71, u "negativeZeroFloatBits"), (0, u "J"), (2, u "negativeZeroDoubleBits"), (24, u "min"), (43, u "$assertionsDisabled"), (0, u "Z"), (88, u "(II)I"), (2, u "twoToTheDoubleScaleDown"), (0, u "D"), (4, u "twoToTheDoubleScaleUp"), (9, u "E"), (3, u "PI"), (2, u "TAU"), (2, u "DEGREES_TO_RADIANS"), (0, u "RADIANS_TO_DEGREES")] 94

def k15m0 : Method := { name := "<init>", desc := "()V", sig := { parameters := [], returnType := none }, accessFlags := 2, code := none }
def k15c1 : Code := { maxStack := 2, maxLocals := 2, code := jdk_29_method_69_code, exceptionTable := #[], attributes := #[] }
def k15m1 : Method := { name := "min", desc := "(II)I", sig := { parameters := [.int, .int], returnType := some .int }, accessFlags := 9, code := some k15c1 }
/-- java/lang/Math -/
def k15 : Class := { plain "java/lang/Math" (some 0) with
  accessFlags := 49
  interfaces := #[]
  cf := some (fileOf pool15 1 #[.nestMembers #[98]] #[{ accessFlags := 2, nameIndex := 7, descriptorIndex := 8, attributes := #[] }, { accessFlags := 9, nameIndex := 201, descriptorIndex := 335, attributes := #[] }] 49 4 #[] #[{ accessFlags := 25, nameIndex := 354, descriptorIndex := 339, attributes := #[] }, { accessFlags := 25, nameIndex := 358, descriptorIndex := 339, attributes := #[] }, { accessFlags := 25, nameIndex := 361, descriptorIndex := 339, attributes := #[] }, { accessFlags := 26, nameIndex := 364, descriptorIndex := 339, attributes := #[] }, { accessFlags := 26, nameIndex := 365, descriptorIndex := 339, attributes := #[] }, { accessFlags := 26, nameIndex := 172, descriptorIndex := 173, attributes := #[] }, { accessFlags := 26, nameIndex := 176, descriptorIndex := 173, attributes := #[] }, { accessFlags := 8, nameIndex := 344, descriptorIndex := 339, attributes := #[] }, { accessFlags := 8, nameIndex := 338, descriptorIndex := 339, attributes := #[] }, { accessFlags := 4120, nameIndex := 245, descriptorIndex := 246, attributes := #[] }])
  fields := #[{ name := "E", type := .double, accessFlags := 25, slot := 0, constantValue := 0 }, { name := "PI", type := .double, accessFlags := 25, slot := 1, constantValue := 0 }, { name := "TAU", type := .double, accessFlags := 25, slot := 2, constantValue := 0 }, { name := "DEGREES_TO_RADIANS", type := .double, accessFlags := 26, slot := 3, constantValue := 0 }, { name := "RADIANS_TO_DEGREES", type := .double, accessFlags := 26, slot := 4, constantValue := 0 }, { name := "negativeZeroFloatBits", type := .long, accessFlags := 26, slot := 5, constantValue := 0 }, { name := "negativeZeroDoubleBits", type := .long, accessFlags := 26, slot := 6, constantValue := 0 }, { name := "twoToTheDoubleScaleUp", type := .double, accessFlags := 8, slot := 7, constantValue := 0 }, { name := "twoToTheDoubleScaleDown", type := .double, accessFlags := 8, slot := 8, constantValue := 0 }, { name := "$assertionsDisabled", type := .boolean, accessFlags := 4120, slot := 9, constantValue := 0 }]
  methods := #[k15m0, k15m1]
  instanceTypes := #[]
  staticTypes := #[.double, .double, .double, .double, .double, .long, .long, .double, .double, .boolean]
  resolved := Array.replicate 460 none
  statics := none }

def pool16 : Array CpInfo := pool [(1, .class_ 2), (0, u "java/lang/String"), (1, .class_ 6), (1, u "java/lang/Object"), (0, u "<init>"), (0, u "()V"), (0, .methodref 1 10), (0, .nameAndType 11 12), (0, u "checkIndex"), (0, u "(II)V"), (1, .class_ 16), (1, u "java/lang/StringLatin1"), (36, u "([BI)C"), (67, u "$assertionsDisabled"), (0, u "Z"), (98, .class_ 223), (1, u "java/lang/StringLatin1$LinesSpliterator"), (28, u "charAt"), (137, .class_ 391), (0, u "java/lang/StringLatin1$CharsSpliterator")] 3

def k16m0 : Method := { name := "<init>", desc := "()V", sig := { parameters := [], returnType := none }, accessFlags := 0, code := none }
def k16c1 : Code := { maxStack := 2, maxLocals := 2, code := jdk_43_method_2_code, exceptionTable := #[], attributes := #[] }
def k16m1 : Method := { name := "charAt", desc := "([BI)C", sig := { parameters := [(.array .byte), .int], returnType := some .char }, accessFlags := 9, code := some k16c1 }
/-- java/lang/StringLatin1 -/
def k16 : Class := { plain "java/lang/StringLatin1" (some 0) with
  accessFlags := 48
  interfaces := #[]
  cf := some (fileOf pool16 14 #[.nestMembers #[390, 221]] #[{ accessFlags := 0, nameIndex := 7, descriptorIndex := 8, attributes := #[] }, { accessFlags := 9, nameIndex := 252, descriptorIndex := 53, attributes := #[] }] 48 4 #[] #[{ accessFlags := 4120, nameIndex := 121, descriptorIndex := 122, attributes := #[] }])
  fields := #[{ name := "$assertionsDisabled", type := .boolean, accessFlags := 4120, slot := 0, constantValue := 0 }]
  methods := #[k16m0, k16m1]
  instanceTypes := #[]
  staticTypes := #[.boolean]
  resolved := Array.replicate 395 none
  statics := none }

def pool17 : Array CpInfo := pool [(2, .class_ 4), (1, u "java/lang/Object"), (0, u "<init>"), (0, u "()V"), (17, .class_ 26), (1, u "jdk/internal/util/Preconditions"), (6, u "checkIndex"), (21, .class_ 56), (0, u "jdk/internal/util/Preconditions$4"), (57, .class_ 115), (0, u "jdk/internal/util/Preconditions$1"), (7, u "SIOOBE_FORMATTER"), (0, u "Ljava/util/function/BiFunction;"), (0, .class_ 126), (0, u "jdk/internal/util/Preconditions$2"), (3, u "AIOOBE_FORMATTER"), (0, .class_ 132), (0, u "jdk/internal/util/Preconditions$3"), (3, u "IOOBE_FORMATTER"), (41, u "(IILjava/util/function/BiFunction;)I")] 15

def k17m0 : Method := { name := "<init>", desc := "()V", sig := { parameters := [], returnType := none }, accessFlags := 1, code := none }
def k17c1 : Code := { maxStack := 3, maxLocals := 3, code := jdk_41_method_11_code, exceptionTable := #[], attributes := #[] }
def k17m1 : Method := { name := "checkIndex", desc := "(IILjava/util/function/BiFunction;)I", sig := { parameters := [.int, .int, (.object "java/util/function/BiFunction")], returnType := some .int }, accessFlags := 9, code := some k17c1 }
/-- jdk/internal/util/Preconditions -/
def k17 : Class := { plain "jdk/internal/util/Preconditions" (some 0) with
  accessFlags := 33
  interfaces := #[]
  cf := some (fileOf pool17 24 #[.nestMembers #[55, 131, 125, 114]] #[{ accessFlags := 1, nameIndex := 5, descriptorIndex := 6, attributes := #[] }, { accessFlags := 9, nameIndex := 33, descriptorIndex := 178, attributes := #[] }] 33 2 #[] #[{ accessFlags := 25, nameIndex := 123, descriptorIndex := 124, attributes := #[] }, { accessFlags := 25, nameIndex := 130, descriptorIndex := 124, attributes := #[] }, { accessFlags := 25, nameIndex := 136, descriptorIndex := 124, attributes := #[] }])
  fields := #[{ name := "SIOOBE_FORMATTER", type := (.object "java/util/function/BiFunction"), accessFlags := 25, slot := 0, constantValue := 0 }, { name := "AIOOBE_FORMATTER", type := (.object "java/util/function/BiFunction"), accessFlags := 25, slot := 1, constantValue := 0 }, { name := "IOOBE_FORMATTER", type := (.object "java/util/function/BiFunction"), accessFlags := 25, slot := 2, constantValue := 0 }]
  methods := #[k17m0, k17m1]
  instanceTypes := #[]
  staticTypes := #[(.object "java/util/function/BiFunction"), (.object "java/util/function/BiFunction"), (.object "java/util/function/BiFunction")]
  resolved := Array.replicate 194 none
  statics := some 1 }

def pool18 : Array CpInfo := pool [(9, u "<init>"), (6, .class_ 18), (1, u "java/lang/Object"), (0, u "()V"), (1, .class_ 23), (1, u "jdk/internal/util/ArraysSupport"), (0, u "LOG2_ARRAY_LONG_INDEX_SCALE"), (0, u "I"), (2, u "U"), (0, u "Ljdk/internal/misc/Unsafe;"), (8, u "BIG_ENDIAN"), (0, u "Z"), (8, u "LOG2_BYTE_BIT_SIZE"), (4, u "LOG2_ARRAY_INT_INDEX_SCALE"), (54, u "JLA"), (0, u "Ljdk/internal/access/JavaLangAccess;"), (11, u "LOG2_ARRAY_BOOLEAN_INDEX_SCALE"), (9, u "LOG2_ARRAY_BYTE_INDEX_SCALE"), (5, u "LOG2_ARRAY_CHAR_INDEX_SCALE"), (5, u "LOG2_ARRAY_SHORT_INDEX_SCALE"), (18, u "LOG2_ARRAY_FLOAT_INDEX_SCALE"), (24, u "LOG2_ARRAY_DOUBLE_INDEX_SCALE"), (89, u "T_BOOLEAN"), (2, u "T_CHAR"), (1, u "T_FLOAT"), (1, u "T_DOUBLE"), (1, u "T_BYTE"), (1, u "T_SHORT"), (1, u "T_INT"), (1, u "T_LONG"), (1, u "SOFT_MAX_ARRAY_LENGTH")] 83

def k18m0 : Method := { name := "<init>", desc := "()V", sig := { parameters := [], returnType := none }, accessFlags := 2, code := none }
/-- jdk/internal/util/ArraysSupport -/
def k18 : Class := { plain "jdk/internal/util/ArraysSupport" (some 0) with
  accessFlags := 33
  interfaces := #[]
  cf := some (fileOf pool18 21 #[] #[{ accessFlags := 2, nameIndex := 9, descriptorIndex := 19, attributes := #[] }] 33 16 #[] #[{ accessFlags := 24, nameIndex := 28, descriptorIndex := 29, attributes := #[] }, { accessFlags := 26, nameIndex := 38, descriptorIndex := 39, attributes := #[] }, { accessFlags := 25, nameIndex := 121, descriptorIndex := 25, attributes := #[] }, { accessFlags := 25, nameIndex := 131, descriptorIndex := 25, attributes := #[] }, { accessFlags := 25, nameIndex := 137, descriptorIndex := 25, attributes := #[] }, { accessFlags := 25, nameIndex := 143, descriptorIndex := 25, attributes := #[] }, { accessFlags := 25, nameIndex := 53, descriptorIndex := 25, attributes := #[] }, { accessFlags := 25, nameIndex := 24, descriptorIndex := 25, attributes := #[] }, { accessFlags := 25, nameIndex := 162, descriptorIndex := 25, attributes := #[] }, { accessFlags := 25, nameIndex := 187, descriptorIndex := 25, attributes := #[] }, { accessFlags := 26, nameIndex := 48, descriptorIndex := 25, attributes := #[] }, { accessFlags := 25, nameIndex := 277, descriptorIndex := 25, attributes := #[] }, { accessFlags := 25, nameIndex := 280, descriptorIndex := 25, attributes := #[] }, { accessFlags := 25, nameIndex := 282, descriptorIndex := 25, attributes := #[] }, { accessFlags := 25, nameIndex := 284, descriptorIndex := 25, attributes := #[] }, { accessFlags := 25, nameIndex := 286, descriptorIndex := 25, attributes := #[] }, { accessFlags := 25, nameIndex := 288, descriptorIndex := 25, attributes := #[] }, { accessFlags := 25, nameIndex := 290, descriptorIndex := 25, attributes := #[] }, { accessFlags := 25, nameIndex := 292, descriptorIndex := 25, attributes := #[] }, { accessFlags := 26, nameIndex := 108, descriptorIndex := 109, attributes := #[] }, { accessFlags := 25, nameIndex := 294, descriptorIndex := 25, attributes := #[] }])
  fields := #[{ name := "U", type := (.object "jdk/internal/misc/Unsafe"), accessFlags := 24, slot := 0, constantValue := 0 }, { name := "BIG_ENDIAN", type := .boolean, accessFlags := 26, slot := 1, constantValue := 0 }, { name := "LOG2_ARRAY_BOOLEAN_INDEX_SCALE", type := .int, accessFlags := 25, slot := 2, constantValue := 0 }, { name := "LOG2_ARRAY_BYTE_INDEX_SCALE", type := .int, accessFlags := 25, slot := 3, constantValue := 0 }, { name := "LOG2_ARRAY_CHAR_INDEX_SCALE", type := .int, accessFlags := 25, slot := 4, constantValue := 0 }, { name := "LOG2_ARRAY_SHORT_INDEX_SCALE", type := .int, accessFlags := 25, slot := 5, constantValue := 0 }, { name := "LOG2_ARRAY_INT_INDEX_SCALE", type := .int, accessFlags := 25, slot := 6, constantValue := 0 }, { name := "LOG2_ARRAY_LONG_INDEX_SCALE", type := .int, accessFlags := 25, slot := 7, constantValue := 0 }, { name := "LOG2_ARRAY_FLOAT_INDEX_SCALE", type := .int, accessFlags := 25, slot := 8, constantValue := 0 }, { name := "LOG2_ARRAY_DOUBLE_INDEX_SCALE", type := .int, accessFlags := 25, slot := 9, constantValue := 0 }, { name := "LOG2_BYTE_BIT_SIZE", type := .int, accessFlags := 26, slot := 10, constantValue := 0 }, { name := "T_BOOLEAN", type := .int, accessFlags := 25, slot := 11, constantValue := 0 }, { name := "T_CHAR", type := .int, accessFlags := 25, slot := 12, constantValue := 0 }, { name := "T_FLOAT", type := .int, accessFlags := 25, slot := 13, constantValue := 0 }, { name := "T_DOUBLE", type := .int, accessFlags := 25, slot := 14, constantValue := 0 }, { name := "T_BYTE", type := .int, accessFlags := 25, slot := 15, constantValue := 0 }, { name := "T_SHORT", type := .int, accessFlags := 25, slot := 16, constantValue := 0 }, { name := "T_INT", type := .int, accessFlags := 25, slot := 17, constantValue := 0 }, { name := "T_LONG", type := .int, accessFlags := 25, slot := 18, constantValue := 0 }, { name := "JLA", type := (.object "jdk/internal/access/JavaLangAccess"), accessFlags := 26, slot := 19, constantValue := 0 }, { name := "SOFT_MAX_ARRAY_LENGTH", type := .int, accessFlags := 25, slot := 20, constantValue := 0 }]
  methods := #[k18m0]
  instanceTypes := #[]
  staticTypes := #[(.object "jdk/internal/misc/Unsafe"), .boolean, .int, .int, .int, .int, .int, .int, .int, .int, .int, .int, .int, .int, .int, .int, .int, .int, .int, (.object "jdk/internal/access/JavaLangAccess"), .int]
  resolved := Array.replicate 378 none
  statics := none }

def pool19 : Array CpInfo := pool [(1, u "java/lang/Cloneable"), (0, .class_ 1), (0, u "java/lang/Object"), (0, .class_ 3)] 3

/-- java/lang/Cloneable -/
def k19 : Class := { plain "java/lang/Cloneable" (some 0) with
  accessFlags := 1537
  interfaces := #[]
  cf := some (fileOf pool19 2 #[] #[] 1537 4 #[] #[])
  fields := #[]
  methods := #[]
  instanceTypes := #[]
  staticTypes := #[]
  resolved := Array.replicate 8 none
  statics := none }

/-- the primitive byte -/
def k20 : Class := { plain "byte" none with kind := .primitive 'B', accessFlags := 0x411 }
/-- [B -/
def k21 : Class := { plain "[B" (some 0) with kind := .array 20 .byte, interfaces := #[19, 2], accessFlags := 1041 }

/-- the primitive char -/
def k22 : Class := { plain "char" none with kind := .primitive 'C', accessFlags := 0x411 }
/-- [C -/
def k23 : Class := { plain "[C" (some 0) with kind := .array 22 .char, interfaces := #[19, 2], accessFlags := 1041 }

/-- the primitive int -/
def k24 : Class := { plain "int" none with kind := .primitive 'I', accessFlags := 0x411 }
/-- [I -/
def k25 : Class := { plain "[I" (some 0) with kind := .array 24 .int, interfaces := #[19, 2], accessFlags := 1041 }

def heap : Heap := #[{ cls := 7, slots := #[.long 0, .int 1, .null, .int 0, .null, .int 0, .int 0], vm := .statics 7 },
  { cls := 17, slots := #[.null, .null, .null], vm := .statics 17 }]
def classes : Array Class := #[k0, k1, k2, k3, k4, k5, k6, k7, k8, k9, k10, k11, k12, k13, k14, k15, k16, k17, k18, k19, k20, k21, k22, k23, k24, k25]
def interned : List (Array UInt16 × Addr) := []
def slotsUsed : Nat := 10
def theMethod : MethodId := ⟨1, 1⟩
def args0 : Array Value := #[.int 65, .int 66, .int 67, .int 2, .int 1]
def aboutOver (below : List Frame) : State where
  vm := { classes := classes, interned := interned.toArray }
  heap := heap
  slotsUsed := slotsUsed
  threads := #[{ frames := .invoking theMethod args0 :: below }]
def below0 : List Frame := [.native { method := ⟨0, 0⟩, args := #[] }]
def about1 : State := aboutOver below0
def p0 : Program := .bare "" "" ""
def e0 : Env := launch0.env 0 0 0
theorem w_frames : about1.frames = Frame.invoking theMethod args0 :: below0 := rfl
set_option maxRecDepth 65536 in
theorem w_args : argsFit about1.vm theMethod args0 = true := by decide +kernel
set_option maxRecDepth 65536 in
theorem w_heap : heapFits about1 = true := by decide +kernel
set_option maxRecDepth 65536 in
theorem w_runnable : about1.curStatus? = some .runnable := by decide +kernel
set_option maxRecDepth 65536 in
theorem w_alone : about1.alone = true := by decide +kernel
set_option maxRecDepth 65536 in
theorem w_named : about1.methodNamed? x = some theMethod := by decide +kernel
set_option maxRecDepth 65536 in
theorem w_hears : about1.hears theMethod below0 = true := by decide +kernel
set_option maxRecDepth 65536 in
theorem w_ripe : about1.ripe theMethod args0 below0 = true := by decide +kernel
theorem w_running : about1.status = .running := rfl
set_option maxRecDepth 65536 in
theorem w_room : about1.hasRoom e0.platform room_1 = true :=
  launch0.hasRoom_least _ room_1 (by decide +kernel) (by decide +kernel) (by decide +kernel) (by decide +kernel) (by decide +kernel) (by decide +kernel)
theorem allAtoms_all (ts : List Jvm.Cond) (a : Array Jvm.Value) (st : Jvm.State) : (allAtoms ts).before a st = ts.all (fun c => c.before a st) := by
  induction ts with
  | nil => rfl
  | cons c t ih =>
    show (Jvm.Cond.and c (allAtoms t)).before a st = _
    rw [Jvm.Cond.before_and, ih, List.all_cons]
def words1 : List Jvm.Cond := Jvm.Cond.code x code maxLocals ret :: tables_1
/-- a 'code' word, met by the world's own term for the bytes: nothing is compared byte by byte -/
theorem code_word {y : MethodName} {bytes : ByteArray} {mx : Nat} {rt : Option FieldType} {a : Array Value} {s : State} {m : MethodId} {meth : Method} {c : Code} (h1 : s.methodNamed? y = some m) (h2 : s.vm.method? m = some meth) (h3 : meth.code = some c) (h4 : c.code = bytes)
    (h5 : (c.maxLocals == mx && c.exceptionTable.isEmpty && decide (c.maxStack ≤ mostOperands) && decide (meth.sig.returnType = rt) && !meth.locks && decide (parseMethodDescriptor y.desc = some meth.sig)) = true) : (Jvm.Cond.code y bytes mx rt).before a s = true := by
  simp only [Bool.and_eq_true, beq_iff_eq, Bool.not_eq_true', decide_eq_true_eq] at h5
  obtain ⟨⟨⟨⟨⟨g1, g2⟩, g3⟩, g4⟩, g5⟩, g6⟩ := h5
  simp [Cond.before, Cond.holds, Cond.value, h1, h2, h3, h4, g1, g2, g3, g4, g5, g6]
def isCode : Jvm.Cond → Bool
  | .code _ _ _ _ => true
  | _ => false
theorem all_split {L : List Jvm.Cond} {P : Jvm.Cond → Bool} (h1 : L.all (fun c => isCode c || P c) = true) (h2 : ∀ c ∈ L.filter isCode, P c = true) : L.all P = true := by
  refine List.all_eq_true.mpr fun c hc => ?_
  have h := List.all_eq_true.mp h1 c hc
  rcases Bool.eq_false_or_eq_true (isCode c) with hi | hi
  · exact h2 c (List.mem_filter.mpr ⟨hc, hi⟩)
  · simpa [hi] using h
set_option maxRecDepth 65536 in
theorem w_c0 : (Jvm.Cond.code x code maxLocals ret).before args0 about1 = true := code_word (m := ⟨1, 1⟩) (meth := k1m1) (c := k1c1) (by decide +kernel) rfl rfl rfl (by decide +kernel)
set_option maxRecDepth 65536 in
theorem w_c1 : (Jvm.Cond.code ({ cls := "java/lang/String", name := "<init>", desc := "([C)V" } : Jvm.MethodName) jdk_42_method_3_code (2 : Nat) (Option.none : Option Jvm.ClassFile.FieldType)).before args0 about1 = true := code_word (m := ⟨7, 1⟩) (meth := k7m1) (c := k7c1) (by decide +kernel) rfl rfl rfl (by decide +kernel)
set_option maxRecDepth 65536 in
theorem w_c2 : (Jvm.Cond.code ({ cls := "java/lang/String", name := "<init>", desc := "([CIILjava/lang/Void;)V" } : Jvm.MethodName) jdk_42_method_149_code (6 : Nat) (Option.none : Option Jvm.ClassFile.FieldType)).before args0 about1 = true := code_word (m := ⟨7, 6⟩) (meth := k7m6) (c := k7c6) (by decide +kernel) rfl rfl rfl (by decide +kernel)
set_option maxRecDepth 65536 in
theorem w_c3 : (Jvm.Cond.code ({ cls := "java/lang/Object", name := "<init>", desc := "()V" } : Jvm.MethodName) object_method_1_code (1 : Nat) (Option.none : Option Jvm.ClassFile.FieldType)).before args0 about1 = true := code_word (m := ⟨0, 0⟩) (meth := k0m0) (c := k0c0) (by decide +kernel) rfl rfl rfl (by decide +kernel)
set_option maxRecDepth 65536 in
theorem w_c4 : (Jvm.Cond.code ({ cls := "java/lang/StringUTF16", name := "compress", desc := "([CII)[B" } : Jvm.MethodName) jdk_52_method_16_code (6 : Nat) (Option.some (Jvm.ClassFile.FieldType.array Jvm.ClassFile.FieldType.byte))).before args0 about1 = true := code_word (m := ⟨8, 2⟩) (meth := k8m2) (c := k8c2) (by decide +kernel) rfl rfl rfl (by decide +kernel)
set_option maxRecDepth 65536 in
theorem w_c5 : (Jvm.Cond.code ({ cls := "java/lang/StringUTF16", name := "compress", desc := "([CI[BII)I" } : Jvm.MethodName) jdk_52_method_21_code (7 : Nat) (Option.some Jvm.ClassFile.FieldType.int)).before args0 about1 = true := code_word (m := ⟨8, 3⟩) (meth := k8m3) (c := k8c3) (by decide +kernel) rfl rfl rfl (by decide +kernel)
set_option maxRecDepth 65536 in
theorem w_c6 : (Jvm.Cond.code ({ cls := "java/lang/StringUTF16", name := "coderFromArrayLen", desc := "([BI)B" } : Jvm.MethodName) jdk_52_method_15_code (2 : Nat) (Option.some Jvm.ClassFile.FieldType.byte)).before args0 about1 = true := code_word (m := ⟨8, 1⟩) (meth := k8m1) (c := k8c1) (by decide +kernel) rfl rfl rfl (by decide +kernel)
set_option maxRecDepth 65536 in
theorem w_c7 : (Jvm.Cond.code ({ cls := "com/example/tight_calculus/tightcalculus/Component", name := "curveName", desc := "(Ljava/lang/String;Z)Ljava/lang/String;" } : Jvm.MethodName) prog_3_method_8_code (2 : Nat) (Option.some (Jvm.ClassFile.FieldType.object "java/lang/String"))).before args0 about1 = true := code_word (m := ⟨9, 1⟩) (meth := k9m1) (c := k9c1) (by decide +kernel) rfl rfl rfl (by decide +kernel)
set_option maxRecDepth 65536 in
theorem w_c8 : (Jvm.Cond.code ({ cls := "java/lang/StringBuilder", name := "<init>", desc := "()V" } : Jvm.MethodName) jdk_67_method_1_code (1 : Nat) (Option.none : Option Jvm.ClassFile.FieldType)).before args0 about1 = true := code_word (m := ⟨12, 0⟩) (meth := k12m0) (c := k12c0) (by decide +kernel) rfl rfl rfl (by decide +kernel)
set_option maxRecDepth 65536 in
theorem w_c9 : (Jvm.Cond.code ({ cls := "java/lang/AbstractStringBuilder", name := "<init>", desc := "(I)V" } : Jvm.MethodName) jdk_68_method_2_code (2 : Nat) (Option.none : Option Jvm.ClassFile.FieldType)).before args0 about1 = true := code_word (m := ⟨11, 1⟩) (meth := k11m1) (c := k11c1) (by decide +kernel) rfl rfl rfl (by decide +kernel)
set_option maxRecDepth 65536 in
theorem w_c10 : (Jvm.Cond.code ({ cls := "java/lang/StringBuilder", name := "append", desc := "(Ljava/lang/String;)Ljava/lang/StringBuilder;" } : Jvm.MethodName) jdk_67_method_7_code (2 : Nat) (Option.some (Jvm.ClassFile.FieldType.object "java/lang/StringBuilder"))).before args0 about1 = true := code_word (m := ⟨12, 1⟩) (meth := k12m1) (c := k12c1) (by decide +kernel) rfl rfl rfl (by decide +kernel)
set_option maxRecDepth 65536 in
theorem w_c11 : (Jvm.Cond.code ({ cls := "java/lang/AbstractStringBuilder", name := "append", desc := "(Ljava/lang/String;)Ljava/lang/AbstractStringBuilder;" } : Jvm.MethodName) jdk_68_method_22_code (3 : Nat) (Option.some (Jvm.ClassFile.FieldType.object "java/lang/AbstractStringBuilder"))).before args0 about1 = true := code_word (m := ⟨11, 4⟩) (meth := k11m4) (c := k11c4) (by decide +kernel) rfl rfl rfl (by decide +kernel)
set_option maxRecDepth 65536 in
theorem w_c12 : (Jvm.Cond.code ({ cls := "java/lang/String", name := "length", desc := "()I" } : Jvm.MethodName) jdk_42_method_54_code (1 : Nat) (Option.some Jvm.ClassFile.FieldType.int)).before args0 about1 = true := code_word (m := ⟨7, 3⟩) (meth := k7m3) (c := k7c3) (by decide +kernel) rfl rfl rfl (by decide +kernel)
set_option maxRecDepth 65536 in
theorem w_c13 : (Jvm.Cond.code ({ cls := "java/lang/String", name := "coder", desc := "()B" } : Jvm.MethodName) jdk_42_method_152_code (1 : Nat) (Option.some Jvm.ClassFile.FieldType.byte)).before args0 about1 = true := code_word (m := ⟨7, 8⟩) (meth := k7m8) (c := k7c8) (by decide +kernel) rfl rfl rfl (by decide +kernel)
set_option maxRecDepth 65536 in
theorem w_c14 : (Jvm.Cond.code ({ cls := "java/lang/AbstractStringBuilder", name := "ensureCapacityInternal", desc := "(I)V" } : Jvm.MethodName) jdk_68_method_9_code (3 : Nat) (Option.none : Option Jvm.ClassFile.FieldType)).before args0 about1 = true := code_word (m := ⟨11, 3⟩) (meth := k11m3) (c := k11c3) (by decide +kernel) rfl rfl rfl (by decide +kernel)
set_option maxRecDepth 65536 in
theorem w_c15 : (Jvm.Cond.code ({ cls := "java/lang/AbstractStringBuilder", name := "putStringAt", desc := "(ILjava/lang/String;)V" } : Jvm.MethodName) jdk_68_method_73_code (3 : Nat) (Option.none : Option Jvm.ClassFile.FieldType)).before args0 about1 = true := code_word (m := ⟨11, 8⟩) (meth := k11m8) (c := k11c8) (by decide +kernel) rfl rfl rfl (by decide +kernel)
set_option maxRecDepth 65536 in
theorem w_c16 : (Jvm.Cond.code ({ cls := "java/lang/AbstractStringBuilder", name := "inflateIfNeededFor", desc := "(Ljava/lang/String;)V" } : Jvm.MethodName) jdk_68_method_71_code (2 : Nat) (Option.none : Option Jvm.ClassFile.FieldType)).before args0 about1 = true := code_word (m := ⟨11, 7⟩) (meth := k11m7) (c := k11c7) (by decide +kernel) rfl rfl rfl (by decide +kernel)
set_option maxRecDepth 65536 in
theorem w_c17 : (Jvm.Cond.code ({ cls := "java/lang/String", name := "getBytes", desc := "([BIB)V" } : Jvm.MethodName) jdk_42_method_147_code (4 : Nat) (Option.none : Option Jvm.ClassFile.FieldType)).before args0 about1 = true := code_word (m := ⟨7, 5⟩) (meth := k7m5) (c := k7c5) (by decide +kernel) rfl rfl rfl (by decide +kernel)
set_option maxRecDepth 65536 in
theorem w_c18 : (Jvm.Cond.code ({ cls := "java/lang/StringBuilder", name := "toString", desc := "()Ljava/lang/String;" } : Jvm.MethodName) jdk_67_method_42_code (1 : Nat) (Option.some (Jvm.ClassFile.FieldType.object "java/lang/String"))).before args0 about1 = true := code_word (m := ⟨12, 2⟩) (meth := k12m2) (c := k12c2) (by decide +kernel) rfl rfl rfl (by decide +kernel)
set_option maxRecDepth 65536 in
theorem w_c19 : (Jvm.Cond.code ({ cls := "java/lang/String", name := "<init>", desc := "(Ljava/lang/StringBuilder;)V" } : Jvm.MethodName) jdk_42_method_53_code (2 : Nat) (Option.none : Option Jvm.ClassFile.FieldType)).before args0 about1 = true := code_word (m := ⟨7, 2⟩) (meth := k7m2) (c := k7c2) (by decide +kernel) rfl rfl rfl (by decide +kernel)
set_option maxRecDepth 65536 in
theorem w_c20 : (Jvm.Cond.code ({ cls := "java/lang/String", name := "<init>", desc := "(Ljava/lang/AbstractStringBuilder;Ljava/lang/Void;)V" } : Jvm.MethodName) jdk_42_method_150_code (5 : Nat) (Option.none : Option Jvm.ClassFile.FieldType)).before args0 about1 = true := code_word (m := ⟨7, 7⟩) (meth := k7m7) (c := k7c7) (by decide +kernel) rfl rfl rfl (by decide +kernel)
set_option maxRecDepth 65536 in
theorem w_c21 : (Jvm.Cond.code ({ cls := "java/lang/AbstractStringBuilder", name := "getValue", desc := "()[B" } : Jvm.MethodName) jdk_68_method_64_code (1 : Nat) (Option.some (Jvm.ClassFile.FieldType.array Jvm.ClassFile.FieldType.byte))).before args0 about1 = true := code_word (m := ⟨11, 5⟩) (meth := k11m5) (c := k11c5) (by decide +kernel) rfl rfl rfl (by decide +kernel)
set_option maxRecDepth 65536 in
theorem w_c22 : (Jvm.Cond.code ({ cls := "java/lang/StringBuilder", name := "length", desc := "()I" } : Jvm.MethodName) jdk_67_method_93_code (1 : Nat) (Option.some Jvm.ClassFile.FieldType.int)).before args0 about1 = true := code_word (m := ⟨12, 3⟩) (meth := k12m3) (c := k12c3) (by decide +kernel) rfl rfl rfl (by decide +kernel)
set_option maxRecDepth 65536 in
theorem w_c23 : (Jvm.Cond.code ({ cls := "java/lang/AbstractStringBuilder", name := "length", desc := "()I" } : Jvm.MethodName) jdk_68_method_6_code (1 : Nat) (Option.some Jvm.ClassFile.FieldType.int)).before args0 about1 = true := code_word (m := ⟨11, 2⟩) (meth := k11m2) (c := k11c2) (by decide +kernel) rfl rfl rfl (by decide +kernel)
set_option maxRecDepth 65536 in
theorem w_c24 : (Jvm.Cond.code ({ cls := "java/lang/AbstractStringBuilder", name := "isLatin1", desc := "()Z" } : Jvm.MethodName) jdk_68_method_68_code (1 : Nat) (Option.some Jvm.ClassFile.FieldType.boolean)).before args0 about1 = true := code_word (m := ⟨11, 6⟩) (meth := k11m6) (c := k11c6) (by decide +kernel) rfl rfl rfl (by decide +kernel)
set_option maxRecDepth 65536 in
theorem w_c25 : (Jvm.Cond.code ({ cls := "java/util/Arrays", name := "copyOfRange", desc := "([BII)[B" } : Jvm.MethodName) jdk_65_method_132_code (3 : Nat) (Option.some (Jvm.ClassFile.FieldType.array Jvm.ClassFile.FieldType.byte))).before args0 about1 = true := code_word (m := ⟨14, 2⟩) (meth := k14m2) (c := k14c2) (by decide +kernel) rfl rfl rfl (by decide +kernel)
set_option maxRecDepth 65536 in
theorem w_c26 : (Jvm.Cond.code ({ cls := "java/util/Arrays", name := "copyOfRangeByte", desc := "([BII)[B" } : Jvm.MethodName) jdk_65_method_133_code (5 : Nat) (Option.some (Jvm.ClassFile.FieldType.array Jvm.ClassFile.FieldType.byte))).before args0 about1 = true := code_word (m := ⟨14, 3⟩) (meth := k14m3) (c := k14c3) (by decide +kernel) rfl rfl rfl (by decide +kernel)
set_option maxRecDepth 65536 in
theorem w_c27 : (Jvm.Cond.code ({ cls := "java/util/Arrays", name := "checkLength", desc := "(II)V" } : Jvm.MethodName) jdk_65_method_131_code (2 : Nat) (Option.none : Option Jvm.ClassFile.FieldType)).before args0 about1 = true := code_word (m := ⟨14, 1⟩) (meth := k14m1) (c := k14c1) (by decide +kernel) rfl rfl rfl (by decide +kernel)
set_option maxRecDepth 65536 in
theorem w_c28 : (Jvm.Cond.code ({ cls := "java/lang/Math", name := "min", desc := "(II)I" } : Jvm.MethodName) jdk_29_method_69_code (2 : Nat) (Option.some Jvm.ClassFile.FieldType.int)).before args0 about1 = true := code_word (m := ⟨15, 1⟩) (meth := k15m1) (c := k15c1) (by decide +kernel) rfl rfl rfl (by decide +kernel)
set_option maxRecDepth 65536 in
theorem w_c29 : (Jvm.Cond.code ({ cls := "java/lang/String", name := "charAt", desc := "(I)C" } : Jvm.MethodName) jdk_42_method_56_code (2 : Nat) (Option.some Jvm.ClassFile.FieldType.char)).before args0 about1 = true := code_word (m := ⟨7, 4⟩) (meth := k7m4) (c := k7c4) (by decide +kernel) rfl rfl rfl (by decide +kernel)
set_option maxRecDepth 65536 in
theorem w_c30 : (Jvm.Cond.code ({ cls := "java/lang/String", name := "isLatin1", desc := "()Z" } : Jvm.MethodName) jdk_42_method_154_code (1 : Nat) (Option.some Jvm.ClassFile.FieldType.boolean)).before args0 about1 = true := code_word (m := ⟨7, 9⟩) (meth := k7m9) (c := k7c9) (by decide +kernel) rfl rfl rfl (by decide +kernel)
set_option maxRecDepth 65536 in
theorem w_c31 : (Jvm.Cond.code ({ cls := "java/lang/StringLatin1", name := "charAt", desc := "([BI)C" } : Jvm.MethodName) jdk_43_method_2_code (2 : Nat) (Option.some Jvm.ClassFile.FieldType.char)).before args0 about1 = true := code_word (m := ⟨16, 1⟩) (meth := k16m1) (c := k16c1) (by decide +kernel) rfl rfl rfl (by decide +kernel)
set_option maxRecDepth 65536 in
theorem w_c32 : (Jvm.Cond.code ({ cls := "java/lang/String", name := "checkIndex", desc := "(II)V" } : Jvm.MethodName) jdk_42_method_155_code (2 : Nat) (Option.none : Option Jvm.ClassFile.FieldType)).before args0 about1 = true := code_word (m := ⟨7, 10⟩) (meth := k7m10) (c := k7c10) (by decide +kernel) rfl rfl rfl (by decide +kernel)
set_option maxRecDepth 65536 in
theorem w_c33 : (Jvm.Cond.code ({ cls := "jdk/internal/util/Preconditions", name := "checkIndex", desc := "(IILjava/util/function/BiFunction;)I" } : Jvm.MethodName) jdk_41_method_11_code (3 : Nat) (Option.some Jvm.ClassFile.FieldType.int)).before args0 about1 = true := code_word (m := ⟨17, 1⟩) (meth := k17m1) (c := k17c1) (by decide +kernel) rfl rfl rfl (by decide +kernel)
def codes1 : List Jvm.Cond := [Jvm.Cond.code x code maxLocals ret, Jvm.Cond.code ({ cls := "java/lang/String", name := "<init>", desc := "([C)V" } : Jvm.MethodName) jdk_42_method_3_code (2 : Nat) (Option.none : Option Jvm.ClassFile.FieldType), Jvm.Cond.code ({ cls := "java/lang/String", name := "<init>", desc := "([CIILjava/lang/Void;)V" } : Jvm.MethodName) jdk_42_method_149_code (6 : Nat) (Option.none : Option Jvm.ClassFile.FieldType), Jvm.Cond.code ({ cls := "java/lang/Object", name := "<init>", desc := "()V" } : Jvm.MethodName) object_method_1_code (1 : Nat) (Option.none : Option Jvm.ClassFile.FieldType), Jvm.Cond.code ({ cls := "java/lang/StringUTF16", name := "compress", desc := "([CII)[B" } : Jvm.MethodName) jdk_52_method_16_code (6 : Nat) (Option.some (Jvm.ClassFile.FieldType.array Jvm.ClassFile.FieldType.byte)), Jvm.Cond.code ({ cls := "java/lang/StringUTF16", name := "compress", desc := "([CI[BII)I" } : Jvm.MethodName) jdk_52_method_21_code (7 : Nat) (Option.some Jvm.ClassFile.FieldType.int), Jvm.Cond.code ({ cls := "java/lang/StringUTF16", name := "coderFromArrayLen", desc := "([BI)B" } : Jvm.MethodName) jdk_52_method_15_code (2 : Nat) (Option.some Jvm.ClassFile.FieldType.byte), Jvm.Cond.code ({ cls := "com/example/tight_calculus/tightcalculus/Component", name := "curveName", desc := "(Ljava/lang/String;Z)Ljava/lang/String;" } : Jvm.MethodName) prog_3_method_8_code (2 : Nat) (Option.some (Jvm.ClassFile.FieldType.object "java/lang/String")), Jvm.Cond.code ({ cls := "java/lang/StringBuilder", name := "<init>", desc := "()V" } : Jvm.MethodName) jdk_67_method_1_code (1 : Nat) (Option.none : Option Jvm.ClassFile.FieldType), Jvm.Cond.code ({ cls := "java/lang/AbstractStringBuilder", name := "<init>", desc := "(I)V" } : Jvm.MethodName) jdk_68_method_2_code (2 : Nat) (Option.none : Option Jvm.ClassFile.FieldType), Jvm.Cond.code ({ cls := "java/lang/StringBuilder", name := "append", desc := "(Ljava/lang/String;)Ljava/lang/StringBuilder;" } : Jvm.MethodName) jdk_67_method_7_code (2 : Nat) (Option.some (Jvm.ClassFile.FieldType.object "java/lang/StringBuilder")), Jvm.Cond.code ({ cls := "java/lang/AbstractStringBuilder", name := "append", desc := "(Ljava/lang/String;)Ljava/lang/AbstractStringBuilder;" } : Jvm.MethodName) jdk_68_method_22_code (3 : Nat) (Option.some (Jvm.ClassFile.FieldType.object "java/lang/AbstractStringBuilder")), Jvm.Cond.code ({ cls := "java/lang/String", name := "length", desc := "()I" } : Jvm.MethodName) jdk_42_method_54_code (1 : Nat) (Option.some Jvm.ClassFile.FieldType.int), Jvm.Cond.code ({ cls := "java/lang/String", name := "coder", desc := "()B" } : Jvm.MethodName) jdk_42_method_152_code (1 : Nat) (Option.some Jvm.ClassFile.FieldType.byte), Jvm.Cond.code ({ cls := "java/lang/AbstractStringBuilder", name := "ensureCapacityInternal", desc := "(I)V" } : Jvm.MethodName) jdk_68_method_9_code (3 : Nat) (Option.none : Option Jvm.ClassFile.FieldType), Jvm.Cond.code ({ cls := "java/lang/AbstractStringBuilder", name := "putStringAt", desc := "(ILjava/lang/String;)V" } : Jvm.MethodName) jdk_68_method_73_code (3 : Nat) (Option.none : Option Jvm.ClassFile.FieldType), Jvm.Cond.code ({ cls := "java/lang/AbstractStringBuilder", name := "inflateIfNeededFor", desc := "(Ljava/lang/String;)V" } : Jvm.MethodName) jdk_68_method_71_code (2 : Nat) (Option.none : Option Jvm.ClassFile.FieldType), Jvm.Cond.code ({ cls := "java/lang/String", name := "getBytes", desc := "([BIB)V" } : Jvm.MethodName) jdk_42_method_147_code (4 : Nat) (Option.none : Option Jvm.ClassFile.FieldType), Jvm.Cond.code ({ cls := "java/lang/StringBuilder", name := "toString", desc := "()Ljava/lang/String;" } : Jvm.MethodName) jdk_67_method_42_code (1 : Nat) (Option.some (Jvm.ClassFile.FieldType.object "java/lang/String")), Jvm.Cond.code ({ cls := "java/lang/String", name := "<init>", desc := "(Ljava/lang/StringBuilder;)V" } : Jvm.MethodName) jdk_42_method_53_code (2 : Nat) (Option.none : Option Jvm.ClassFile.FieldType), Jvm.Cond.code ({ cls := "java/lang/String", name := "<init>", desc := "(Ljava/lang/AbstractStringBuilder;Ljava/lang/Void;)V" } : Jvm.MethodName) jdk_42_method_150_code (5 : Nat) (Option.none : Option Jvm.ClassFile.FieldType), Jvm.Cond.code ({ cls := "java/lang/AbstractStringBuilder", name := "getValue", desc := "()[B" } : Jvm.MethodName) jdk_68_method_64_code (1 : Nat) (Option.some (Jvm.ClassFile.FieldType.array Jvm.ClassFile.FieldType.byte)), Jvm.Cond.code ({ cls := "java/lang/StringBuilder", name := "length", desc := "()I" } : Jvm.MethodName) jdk_67_method_93_code (1 : Nat) (Option.some Jvm.ClassFile.FieldType.int), Jvm.Cond.code ({ cls := "java/lang/AbstractStringBuilder", name := "length", desc := "()I" } : Jvm.MethodName) jdk_68_method_6_code (1 : Nat) (Option.some Jvm.ClassFile.FieldType.int), Jvm.Cond.code ({ cls := "java/lang/AbstractStringBuilder", name := "isLatin1", desc := "()Z" } : Jvm.MethodName) jdk_68_method_68_code (1 : Nat) (Option.some Jvm.ClassFile.FieldType.boolean), Jvm.Cond.code ({ cls := "java/util/Arrays", name := "copyOfRange", desc := "([BII)[B" } : Jvm.MethodName) jdk_65_method_132_code (3 : Nat) (Option.some (Jvm.ClassFile.FieldType.array Jvm.ClassFile.FieldType.byte)), Jvm.Cond.code ({ cls := "java/util/Arrays", name := "copyOfRangeByte", desc := "([BII)[B" } : Jvm.MethodName) jdk_65_method_133_code (5 : Nat) (Option.some (Jvm.ClassFile.FieldType.array Jvm.ClassFile.FieldType.byte)), Jvm.Cond.code ({ cls := "java/util/Arrays", name := "checkLength", desc := "(II)V" } : Jvm.MethodName) jdk_65_method_131_code (2 : Nat) (Option.none : Option Jvm.ClassFile.FieldType), Jvm.Cond.code ({ cls := "java/lang/Math", name := "min", desc := "(II)I" } : Jvm.MethodName) jdk_29_method_69_code (2 : Nat) (Option.some Jvm.ClassFile.FieldType.int), Jvm.Cond.code ({ cls := "java/lang/String", name := "charAt", desc := "(I)C" } : Jvm.MethodName) jdk_42_method_56_code (2 : Nat) (Option.some Jvm.ClassFile.FieldType.char), Jvm.Cond.code ({ cls := "java/lang/String", name := "isLatin1", desc := "()Z" } : Jvm.MethodName) jdk_42_method_154_code (1 : Nat) (Option.some Jvm.ClassFile.FieldType.boolean), Jvm.Cond.code ({ cls := "java/lang/StringLatin1", name := "charAt", desc := "([BI)C" } : Jvm.MethodName) jdk_43_method_2_code (2 : Nat) (Option.some Jvm.ClassFile.FieldType.char), Jvm.Cond.code ({ cls := "java/lang/String", name := "checkIndex", desc := "(II)V" } : Jvm.MethodName) jdk_42_method_155_code (2 : Nat) (Option.none : Option Jvm.ClassFile.FieldType), Jvm.Cond.code ({ cls := "jdk/internal/util/Preconditions", name := "checkIndex", desc := "(IILjava/util/function/BiFunction;)I" } : Jvm.MethodName) jdk_41_method_11_code (3 : Nat) (Option.some Jvm.ClassFile.FieldType.int)]
set_option maxRecDepth 65536 in
theorem codes_eq : words1.filter isCode = codes1 := rfl
theorem w_codes : ∀ c ∈ words1.filter isCode, c.before args0 about1 = true := by
  rw [codes_eq]
  intro c hc
  simp only [codes1, List.mem_cons, List.not_mem_nil, or_false] at hc
  rcases hc with rfl | rfl | rfl | rfl | rfl | rfl | rfl | rfl | rfl | rfl | rfl | rfl | rfl | rfl | rfl | rfl | rfl | rfl | rfl | rfl | rfl | rfl | rfl | rfl | rfl | rfl | rfl | rfl | rfl | rfl | rfl | rfl | rfl | rfl
  · exact w_c0
  · exact w_c1
  · exact w_c2
  · exact w_c3
  · exact w_c4
  · exact w_c5
  · exact w_c6
  · exact w_c7
  · exact w_c8
  · exact w_c9
  · exact w_c10
  · exact w_c11
  · exact w_c12
  · exact w_c13
  · exact w_c14
  · exact w_c15
  · exact w_c16
  · exact w_c17
  · exact w_c18
  · exact w_c19
  · exact w_c20
  · exact w_c21
  · exact w_c22
  · exact w_c23
  · exact w_c24
  · exact w_c25
  · exact w_c26
  · exact w_c27
  · exact w_c28
  · exact w_c29
  · exact w_c30
  · exact w_c31
  · exact w_c32
  · exact w_c33
set_option maxRecDepth 65536 in
theorem w_t1 : (words1.take 24).all (fun c => isCode c || c.before args0 about1) = true := by decide +kernel
set_option maxRecDepth 65536 in
theorem w_t2 : ((words1.drop 24).take 24).all (fun c => isCode c || c.before args0 about1) = true := by decide +kernel
set_option maxRecDepth 65536 in
theorem w_t3 : (((words1.drop 24).drop 24).take 24).all (fun c => isCode c || c.before args0 about1) = true := by decide +kernel
set_option maxRecDepth 65536 in
theorem w_t4 : ((((words1.drop 24).drop 24).drop 24).take 24).all (fun c => isCode c || c.before args0 about1) = true := by decide +kernel
set_option maxRecDepth 65536 in
theorem w_t5 : (((((words1.drop 24).drop 24).drop 24).drop 24).take 24).all (fun c => isCode c || c.before args0 about1) = true := by decide +kernel
set_option maxRecDepth 65536 in
theorem w_t6 : ((((((words1.drop 24).drop 24).drop 24).drop 24).drop 24).take 24).all (fun c => isCode c || c.before args0 about1) = true := by decide +kernel
set_option maxRecDepth 65536 in
theorem w_t7 : (((((((words1.drop 24).drop 24).drop 24).drop 24).drop 24).drop 24).take 24).all (fun c => isCode c || c.before args0 about1) = true := by decide +kernel
set_option maxRecDepth 65536 in
theorem w_t8 : (((((((words1.drop 24).drop 24).drop 24).drop 24).drop 24).drop 24).drop 24).all (fun c => isCode c || c.before args0 about1) = true := by decide +kernel
theorem w_tables : (allAtoms (Jvm.Cond.code x code maxLocals ret :: tables_1)).before args0 about1 = true := by
  rw [allAtoms_all]
  show words1.all (fun c => c.before args0 about1) = true
  refine all_split ?_ w_codes
  rw [← List.take_append_drop 24 words1, List.all_append, w_t1, ← List.take_append_drop 24 (words1.drop 24), List.all_append, w_t2, ← List.take_append_drop 24 ((words1.drop 24).drop 24), List.all_append, w_t3, ← List.take_append_drop 24 (((words1.drop 24).drop 24).drop 24), List.all_append, w_t4, ← List.take_append_drop 24 ((((words1.drop 24).drop 24).drop 24).drop 24), List.all_append, w_t5, ← List.take_append_drop 24 (((((words1.drop 24).drop 24).drop 24).drop 24).drop 24), List.all_append, w_t6, ← List.take_append_drop 24 ((((((words1.drop 24).drop 24).drop 24).drop 24).drop 24).drop 24), List.all_append, w_t7, w_t8]
  rfl
set_option maxRecDepth 65536 in
theorem w_rest : rest_1_c.before args0 about1 = true := by decide +kernel
set_option maxRecDepth 65536 in
theorem w_case : (Jvm.Cond.and given_1 narrow_1).before args0 about1 = true := by decide +kernel
set_option maxRecDepth 65536 in
theorem w_consts : constsHeld consts_1 about1 := Jvm.Lit.constsHeldB_iff.mp (by decide +kernel)
theorem w_applies : (headSpec (Jvm.Cond.code x code maxLocals ret :: tables_1) room_1).applies x e0.platform about1 = true :=
  (Spec.applies_iff w_frames).mpr ⟨w_running, w_runnable, w_alone, w_named, w_hears, w_ripe, w_room, w_tables⟩
theorem atStart : AtStart classFile x code maxLocals ret World_1 tables_1 room_1 Calls_1 rest_1 Pre_1 launch0 p0 e0 about1 theMethod args0 below0 :=
  ⟨lists_1, trivial, launch0.admits_env _ _ _, launch0.least_env, fairChoices_fair.cas, fairChoices_fair.clock, w_frames, w_args, w_heap, w_applies, ⟨w_consts, trivial⟩, w_rest, w_case⟩
end start1
theorem witness_1 : WitnessClaimed_1 := ⟨start1.p0, start1.e0, start1.about1, start1.theMethod, start1.args0, start1.below0, start1.atStart⟩
end Jvm.Pilot.@@N@@
