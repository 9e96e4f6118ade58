import JvmDerived
import JvmDerived.Pilot.@@N@@Statement
import JvmDerived.Pilot.@@N@@Code
set_option linter.unusedVariables false
set_option linter.unusedSimpArgs false
set_option maxRecDepth 65536
set_option maxHeartbeats 40000000
namespace Jvm.Pilot.@@N@@
open Jvm Jvm.ClassFile Sem Op Lib Jvm.Free Jvm.Stand Jvm.LawKit Jvm.RoadKit Bundle Jvm.Pilot.@@N@@.Jvm.D
section OwnGo
variable {p : Program} {l : Launch} {e : Env} {R : Room} {s : State} {m : MethodId} {args : Array Value} {below : List Frame} {meth : Method} {c : Code} {T T' : State} {locs : List Loc} {cells slots : Nat} {g g' : JFrame} {F : State → Outcome → Prop} {Q : Option Value → Heap → List Loc → Prop} {ck sk : Nat}
/-- from this place the run ends, and F holds at the end -/
def Go (p : Program) (e : Env) (below : List Frame) (F : State → Outcome → Prop) (T : State) (g : JFrame) : Prop :=
  ∃ t o, Steps p.tables e below (T.setTop g) t ∧ t.status = .running ∧ Ended t below o ∧ F t o
def FinN (s : State) (Q : Option Value → Heap → List Loc → Prop) (ck sk : Nat) (t : State) (o : Outcome) : Prop :=
  ∃ v L, o = .returned v ∧ Q v t.heap L ∧ FrameEnd s o t L ck sk
theorem Go.by (h : ∀ target, Steps p.tables e below (T'.setTop g') target → Steps p.tables e below (T.setTop g) target) (k : Go p e below F T' g') : Go p e below F T g := by
  obtain ⟨t, o, h1, h2⟩ := k; exact ⟨t, o, h _ h1, h2⟩
theorem Go.call (h : Steps p.tables e below (T.setTop g) (T'.setTop g')) (k : Go p e below F T' g') : Go p e below F T g := by
  obtain ⟨t, o, h1, h2⟩ := k; exact ⟨t, o, h.trans h1, h2⟩
theorem Go.join (T' : State) (g' : JFrame) (h : Go p e below F T' g' → Go p e below F T g) (k : Go p e below F T' g') : Go p e below F T g := h k
theorem Go.done (X : Stand p l e R s m args below meth c T locs cells slots) {v : Option Value} (hv : meth.sig.returnType = none → v = none) (hlocks : meth.locks = false)
    (st : ∀ fs, (∀ (f : JFrame) (acts : List Action), f.method = m → f.locked = none → f.entered = [] → (doReturn e (T.setTop f) acts v).1 = T.setFrames fs) → Steps p.tables e below (T.setTop g) (T.setFrames fs))
    (hQ : Q v T.heap locs) (hc : cells ≤ ck) (hs : slots ≤ sk) : Go p e below (FinN s Q ck sk) T g := by
  obtain ⟨fs, hr, hrun, hended, hW, hsame⟩ := X.leave hv hlocks
  exact ⟨_, _, st fs hr, hrun, hended, v, locs, rfl, hQ, ⟨_, rfl⟩, hW, hsame.mono hc hs⟩
theorem Go.retZ (X : Stand p l e R s m args below meth c T locs cells slots) (hx : p.tables.exec = Jvm.exec) (hlocks : meth.locks = false) {pc : Nat} {Ls : Array Slot} {z : Int32} {t : FieldType} {rest : List Value} (hret : meth.sig.returnType = some t) (ht : t = .boolean ∨ t = .byte ∨ t = .char ∨ t = .short)
    (hd : decode c.code pc = .ok (.ireturn, 1)) (hQ : Q (some (.int (nar t z))) T.heap locs) (hc : cells ≤ ck) (hs : slots ≤ sk) : Go p e below (FinN s Q ck sk) T (mkF m pc Ls (.int z :: rest)) :=
  Go.done X (fun h => by rw [hret] at h; cases h) hlocks (fun fs hr => retN X hx hret ht hd hr) hQ hc hs
theorem Go.retO (X : Stand p l e R s m args below meth c T locs cells slots) (hx : p.tables.exec = Jvm.exec) (hlocks : meth.locks = false) {pc : Nat} {Ls : Array Slot} {w : Value} {t : FieldType} {i : Instr} {rest : List Value} (hret : meth.sig.returnType = some t) (hn : narrow t w = w)
    (hi : (i = .ireturn ∧ (t = .int ∨ t = .boolean ∨ t = .byte ∨ t = .char ∨ t = .short) ∧ ∃ z, w = .int z) ∨ (i = .lreturn ∧ t = .long ∧ ∃ z, w = .long z) ∨ (i = .dreturn ∧ t = .double ∧ ∃ z, w = .double z) ∨ (i = .freturn ∧ t = .float ∧ ∃ z, w = .float z) ∨ (i = .areturn ∧ t.isReference = true ∧ w.isRef = true))
    (hd : decode c.code pc = .ok (i, 1)) (hQ : Q (some w) T.heap locs) (hc : cells ≤ ck) (hs : slots ≤ sk) : Go p e below (FinN s Q ck sk) T (mkF m pc Ls (w :: rest)) :=
  Go.done X (fun h => by rw [hret] at h; cases h) hlocks (fun fs hr => retOut X hx hret hn hi hd hr) hQ hc hs
theorem Go.retI (X : Stand p l e R s m args below meth c T locs cells slots) (hx : p.tables.exec = Jvm.exec) (hlocks : meth.locks = false) {pc : Nat} {Ls : Array Slot} {z : Int32} {rest : List Value} (hret : meth.sig.returnType = some .int)
    (hd : decode c.code pc = .ok (.ireturn, 1)) (hQ : Q (some (.int z)) T.heap locs) (hc : cells ≤ ck) (hs : slots ≤ sk) : Go p e below (FinN s Q ck sk) T (mkF m pc Ls (.int z :: rest)) :=
  Go.retO X hx hlocks hret rfl (Or.inl ⟨rfl, Or.inl rfl, _, rfl⟩) hd hQ hc hs
theorem Go.retA (X : Stand p l e R s m args below meth c T locs cells slots) (hx : p.tables.exec = Jvm.exec) (hlocks : meth.locks = false) {pc : Nat} {Ls : Array Slot} {w : Value} {t : FieldType} {rest : List Value} (hret : meth.sig.returnType = some t) (ht : t.isReference = true) (hw : w.isRef = true)
    (hd : decode c.code pc = .ok (.areturn, 1)) (hQ : Q (some w) T.heap locs) (hc : cells ≤ ck) (hs : slots ≤ sk) : Go p e below (FinN s Q ck sk) T (mkF m pc Ls (w :: rest)) :=
  Go.retO X hx hlocks hret (by cases w <;> cases t <;> first | rfl | (cases hw; done) | (cases ht; done)) (Or.inr (Or.inr (Or.inr (Or.inr ⟨rfl, ht, hw⟩)))) hd hQ hc hs
theorem Go.retV (X : Stand p l e R s m args below meth c T locs cells slots) (hx : p.tables.exec = Jvm.exec) (hlocks : meth.locks = false) {pc : Nat} {Ls : Array Slot} (hret : meth.sig.returnType = none)
    (hd : decode c.code pc = .ok (.return_, 1)) (hQ : Q none T.heap locs) (hc : cells ≤ ck) (hs : slots ≤ sk) : Go p e below (FinN s Q ck sk) T (mkF m pc Ls []) :=
  Go.done X (fun _ => rfl) hlocks (fun fs hr => X.returnOut hx hret hd hr) hQ hc hs
end OwnGo
theorem own_modN (n : Nat) (N : Int32) (hN : N.toInt = (n : Int)) (hn : 0 < n) (hb : n < 2147483648) (i : Int32) : ∃ k : Fin n, (i &&& (2147483647 : Int32)) % N = Int32.ofInt k.1 := by
  have h1 := (c_and i (2147483647 : Int32) (by decide)).1
  have h2 := (c_irem (i &&& (2147483647 : Int32)) N n hN).1 h1
  have h3 := Int.emod_lt_of_pos (i &&& (2147483647 : Int32)).toInt (show (0 : Int) < (n : Int) by omega)
  have h4 := Int.emod_nonneg (i &&& (2147483647 : Int32)).toInt (show (n : Int) ≠ 0 by omega)
  refine ⟨⟨((i &&& (2147483647 : Int32)).toInt % (n : Int)).toNat, by omega⟩, ?_⟩
  rw [← Int32.toInt_inj, h2, Int32.toInt_ofInt]
  show _ = Int.bmod (((((i &&& (2147483647 : Int32)).toInt % (n : Int)).toNat : Nat) : Int)) _
  rw [Int.toNat_of_nonneg h4, show Int32.size = 4294967296 from rfl, Int.bmod_eq_of_le (by omega) (by omega)]
theorem own_safe0 {Z : State} {vm : Vm} {h : Heap} {x : Addr} : Safe Z [] vm h x := fun ⟨_, hp, _⟩ => nomatch hp
theorem own_rne {a b : Addr} (h : a ≠ b) : ¬ ((.ref a : Value) = (.ref b : Value)) := fun e => h (Value.ref.inj e)
theorem own_sto {Z : State} {h : Heap} {a y : Addr} {k : ClassId} {ty : FieldType} {z : Int32} {vs : List Value} {dv : Value} {C : String} (f : Arv Z h a k ty z vs dv) (O : Ovr Z k C) (I : Ins Z h y C true) : Sto Z h a (.ref y) := by
  obtain ⟨cl, A, q1, -⟩ := f
  exact Sto.ofV A q1 O I
def ownLay : List Value → List Slot
  | [] => []
  | v :: vs => if v.category = 2 then .val v :: .second :: ownLay vs else .val v :: ownLay vs
theorem own_lay (L : List Value) (acc : Array Slot) : L.foldl (fun acc v => if v.category = 2 then (acc.push (.val v)).push .second else acc.push (.val v)) acc = acc ++ (ownLay L).toArray := by
  induction L generalizing acc with
  | nil => simp [ownLay]
  | cons v vs ih =>
    rw [List.foldl_cons, ih]
    show _ = acc ++ (if v.category = 2 then Slot.val v :: Slot.second :: ownLay vs else Slot.val v :: ownLay vs).toArray
    split <;> simp
theorem own_entry (m : MethodId) (L : List Value) (n : Nat) : entryFrame m L.toArray n = mkF m 0 (ownLay L ++ List.replicate (n - (ownLay L).length) Slot.unset).toArray [] := by
  unfold entryFrame argsToLocals mkF
  simp [own_lay]
theorem own_ref {v : Value} (h : v.isRef = true) {P : Value → Prop} (h1 : P .null) (h2 : ∀ a, P (.ref a)) : P v := by
  cases v <;> first | exact h1 | exact h2 _ | cases h
theorem own_decl {Z : State} {a0 : Array Value} {y : MethodName} {bytes : ByteArray} {maxL : Nat} {ret : Option FieldType} (w : (Cond.instanceMethod y).before a0 Z = true) (wc : (Cond.code y bytes maxL ret).before a0 Z = true) : (Cond.declares y).before a0 Z = true := by
  obtain ⟨mk, meth, hn, hm, hst, hab⟩ := Cond.instanceMethod_spec w
  obtain ⟨meth', c, hm', -, -, -, -, -, -, hsig⟩ := Cond.code_spec hn wc
  cases hm.symm.trans hm'
  simp [Cond.before, Cond.holds, Cond.value, hn, hm, hst, hsig]
def NoFace (Z : State) (C : String) : Prop := ∃ c k, Z.vm.findClass C = some c ∧ Z.vm.classes[c]? = some k ∧ k.isInterface = false
theorem own_noface {Z : State} {a0 : Array Value} {C : String} {y z : MethodName} (w : (Cond.selects C y z).before a0 Z = true) {K : String} (hK : z.cls = K) : NoFace Z K := by
  subst hK
  obtain ⟨c2, r2, m2, q1, q2, q3, q4, kP, hkP, hkPi⟩ := Cond.selects_spec w
  exact ⟨m2.cls, kP, findClass_of_methodNamed q3, hkP, hkPi⟩
theorem own_nosup {Z : State} {a0 : Array Value} {C S : String} (w : (Cond.superclass C S).before a0 Z = true) : NoFace Z C := by
  obtain ⟨c, hc⟩ := found_sup w
  obtain ⟨p, k, kp, h1, h2, h3, h4, h5, -, h7⟩ := Cond.superclass_spec hc w
  exact ⟨c, k, hc, h2, h7⟩
theorem own_noinst {Z : State} {a0 : Array Value} {C : String} {n : Nat} (w : (Cond.instantiable C n).before a0 Z = true) : NoFace Z C := by
  obtain ⟨c, k, h1, h2, h3, h4⟩ := Cond.instantiable_spec w
  refine ⟨c, k, h1, h2, ?_⟩
  simp [Cond.before, Cond.holds, Cond.value, h1, h2] at w
  simp_all
theorem own_nf {Z s : State} {vm0 : Vm} {y : MethodName} (hZ : Z.Warmed39 vm0) (h : NoFace Z y.cls) : NotFace (s.setVm vm0) y := fun r0 h0 => by
  obtain ⟨c, k, h1, h2, h3⟩ := h
  have hc : vm0.findClass y.cls = some r0.cls := findClass_of_methodNamed h0
  rw [hZ.alike.findClass] at hc
  cases h1.symm.trans hc
  obtain ⟨k', q1, q2⟩ := hZ.alike.2.2 _ _ h2
  refine ⟨k', q1, ?_⟩
  have : k'.isInterface = k.isInterface := by rw [q2]; rfl
  rw [this]; exact h3
theorem own_same {Z : State} {a0 : Array Value} {y : MethodName} (w : (Cond.instanceMethod y).before a0 Z = true) (h : NoFace Z y.cls) (hy : y.cls ≠ "java/lang/invoke/MethodHandle" ∧ y.cls ≠ "java/lang/invoke/VarHandle") : (Cond.sameMethod y.cls y.cls y.name y.desc).before a0 Z = true := by
  obtain ⟨mk, meth, hn, hm, hst, hab⟩ := Cond.instanceMethod_spec w
  obtain ⟨c, k, h1, h2, h3⟩ := h
  have hf := State.methodFound?_of_named hn hy
  have hn' : Z.methodNamed? ⟨y.cls, y.name, y.desc⟩ = some mk := hn
  simp [Cond.before, Cond.holds, Cond.value, h1, hf, hn', h2, h3]
section OwnKit
variable {p : Program} {l : Launch} {e : Env} {R : Room} {s : State} {m : MethodId} {args : Array Value} {below : List Frame} {meth : Method} {c : Code} {T : State} {locs : List Loc} {cells slots : Nat} {F : State → Outcome → Prop} {bs : ByteArray} {own : String} {Z : State} {EL : List (String × Nat)} {n0 : Nat} {h0 h : Heap} {vm0 : Vm} {a0 : Array Value} {pc : Nat} {Ls : Array Slot} {st : List Value}
/-- where a walk stands: the tables may have grown by literals; the constants of EL are held -/
def Sit (p : Program) (l : Launch) (e : Env) (R : Room) (s : State) (m : MethodId) (args : Array Value) (below : List Frame) (meth : Method) (c : Code) (bs : ByteArray) (own : String) (Z : State) (EL : List (String × Nat)) (n0 : Nat) (h0 : Heap) (T : State) (h : Heap) (vm0 : Vm) (locs : List Loc) (cells slots : Nat) : Prop :=
  Stand p l e R (s.setVm vm0) m args below meth c T locs cells slots ∧ T.heap = h ∧ (∃ k0, s.Since vm0 k0 ∧ k0 ≤ h.size) ∧ Z.Warmed39 vm0 ∧ vm0.findClass own = some m.cls ∧ Fr n0 locs ∧ CHr Z EL s.vm s.heap vm0 h ∧ n0 ≤ h.size ∧ p.tables.exec = Jvm.exec ∧ c.code = bs ∧ meth.locks = false ∧ h0.size ≤ h.size
theorem Sit.hh (X : Sit p l e R s m args below meth c bs own Z EL n0 h0 T h vm0 locs cells slots) : T.heap = h := X.2.1
theorem Sit.hZ (X : Sit p l e R s m args below meth c bs own Z EL n0 h0 T h vm0 locs cells slots) : Z.Warmed39 vm0 := X.2.2.2.1
theorem Sit.hown (X : Sit p l e R s m args below meth c bs own Z EL n0 h0 T h vm0 locs cells slots) : vm0.findClass own = some m.cls := X.2.2.2.2.1
theorem Sit.N (X : Sit p l e R s m args below meth c bs own Z EL n0 h0 T h vm0 locs cells slots) : Fr n0 locs := X.2.2.2.2.2.1
theorem Sit.C (X : Sit p l e R s m args below meth c bs own Z EL n0 h0 T h vm0 locs cells slots) : CHr Z EL s.vm s.heap vm0 h := X.2.2.2.2.2.2.1
theorem Sit.n (X : Sit p l e R s m args below meth c bs own Z EL n0 h0 T h vm0 locs cells slots) : n0 ≤ h.size := X.2.2.2.2.2.2.2.1
theorem Sit.hx (X : Sit p l e R s m args below meth c bs own Z EL n0 h0 T h vm0 locs cells slots) : p.tables.exec = Jvm.exec := X.2.2.2.2.2.2.2.2.1
theorem Sit.hby (X : Sit p l e R s m args below meth c bs own Z EL n0 h0 T h vm0 locs cells slots) : c.code = bs := X.2.2.2.2.2.2.2.2.2.1
theorem Sit.hlk (X : Sit p l e R s m args below meth c bs own Z EL n0 h0 T h vm0 locs cells slots) : meth.locks = false := X.2.2.2.2.2.2.2.2.2.2.1
theorem Sit.g0 (X : Sit p l e R s m args below meth c bs own Z EL n0 h0 T h vm0 locs cells slots) : h0.size ≤ h.size := X.2.2.2.2.2.2.2.2.2.2.2
theorem Sit.mk2 (X : Sit p l e R s m args below meth c bs own Z EL n0 h0 T h vm0 locs cells slots) {T' : State} {h' : Heap} {vm1 : Vm} {locs' : List Loc} {cells' slots' k1 : Nat} (Y : Stand p l e R (s.setVm vm1) m args below meth c T' locs' cells' slots') (eh : T'.heap = h') (hS : s.Since vm1 k1) (hk : k1 ≤ h'.size) (hZ : Z.Warmed39 vm1) (ho : vm1.findClass own = some m.cls) (N : Fr n0 locs') (C : CHr Z EL vm0 h vm1 h') :
    Sit p l e R s m args below meth c bs own Z EL n0 h0 T' h' vm1 locs' cells' slots' :=
  ⟨Y, eh, ⟨k1, hS, hk⟩, hZ, ho, N, X.C.trans C, Nat.le_trans X.n C.2.1, X.hx, X.hby, X.hlk, Nat.le_trans X.g0 C.2.1⟩
theorem Sit.mk1 (X : Sit p l e R s m args below meth c bs own Z EL n0 h0 T h vm0 locs cells slots) {T' : State} {h' : Heap} {locs' : List Loc} {cells' slots' : Nat} (Y : Stand p l e R (s.setVm vm0) m args below meth c T' locs' cells' slots') (eh : T'.heap = h') (N : Fr n0 locs') (C : CHr Z EL vm0 h vm0 h') :
    Sit p l e R s m args below meth c bs own Z EL n0 h0 T' h' vm0 locs' cells' slots' := by
  obtain ⟨k0, hS, hk⟩ := X.2.2.1
  exact X.mk2 Y eh hS (Nat.le_trans hk C.2.1) X.hZ X.hown N C
theorem Sit.mk0 (X : Sit p l e R s m args below meth c bs own Z EL n0 h0 T h vm0 locs cells slots) {T' : State} {locs' : List Loc} {cells' slots' : Nat} (Y : Stand p l e R (s.setVm vm0) m args below meth c T' locs' cells' slots') (eh : T'.heap = h) (N : Fr n0 locs') : Sit p l e R s m args below meth c bs own Z EL n0 h0 T' h vm0 locs' cells' slots' :=
  X.mk1 Y eh N (CHr.refl X.C.1)
/-- the end -/
def FinH (Z : State) (EL : List (String × Nat)) (n0 : Nat) (s : State) (Q : Vm → Option Value → Heap → Vm → Prop) (ck sk : Nat) (t : State) (o : Outcome) : Prop :=
  ∃ v L, o = .returned v ∧ (Fr n0 L ∧ Q s.vm v t.heap t.vm) ∧ CHr Z EL s.vm s.heap t.vm t.heap ∧ ReturnedEndW s o t L ck sk
/-- a body's contract -/
def MetH (l : Launch) (Z : State) (EL : List (String × Nat)) (n0 : Nat) (y : MethodName) (bytes : ByteArray) (maxL : Nat) (ret : Option FieldType) (ws : List Jvm.Cond) (rm : Room) (as' : Array Value) (h0 : Heap) (SL : List Addr) (Q : Vm → Option Value → Heap → Vm → Prop) : Prop :=
  MetFree l y (head1 (Jvm.Cond.code y bytes maxL ret :: ws) rm) (fun a U => a = as' ∧ Z.Warmed39 U.vm ∧ U.heap = h0 ∧ CHv Z EL U.vm h0 ∧ ∀ x ∈ SL, Safe Z EL U.vm h0 x) (fun _ _ _ _ _ => True) (fun _ U o U' => ∃ v L, o = .returned v ∧ (Fr n0 L ∧ Q U.vm v U'.heap U'.vm) ∧ CHr Z EL U.vm U.heap U'.vm U'.heap ∧ ReturnedEndW U o U' L rm.cells rm.slots)
theorem MetH.of {l : Launch} {Z : State} {EL : List (String × Nat)} {y : MethodName} {bytes : ByteArray} {maxL : Nat} {ret : Option FieldType} {ws : List Jvm.Cond} {rm : Room} {L : List Value} {h0 : Heap} {SL : List Addr} {Q : Vm → Option Value → Heap → Vm → Prop} {n0 : Nat} (Ms : Array Slot)
    (pn : plainFor y = true) (ef : Ms = (ownLay L ++ List.replicate (maxL - (ownLay L).length) Slot.unset).toArray) (Z0 : n0 ≤ h0.size)
    (body : ∀ p e s m below meth c T, meth.sig.returnType = ret → c.maxLocals = maxL → meth.name = y.name → (∀ x ∈ SL, Safe Z EL s.vm h0 x) → s.heap = h0 → Sit p l e rm s m L.toArray below meth c bytes y.cls Z EL n0 h0 T h0 s.vm [] 0 0 → Go p e below (FinH Z EL n0 s Q rm.cells rm.slots) T (mkF m 0 Ms [])) :
    MetH l Z EL n0 y bytes maxL ret ws rm L.toArray h0 SL Q := by
  refine MetFree.of_bodySF pn hisR ?_
  intro p e s m args below meth c s₁ Bd hml0 hP hK
  obtain ⟨rfl, hZ, hh, hC, hSL⟩ := hP
  have X0 := Stand.of_body Bd
  have e0 : s₁.heap = h0 := by rw [← hh, Bd.state]; rfl
  have G := body p e s m below meth c s₁ Bd.returns hml0 (name_of_methodNamed Bd.named Bd.method).1 hSL hh
    ⟨X0, e0, ⟨0, (State.WarmedH.refl s).since 0, Nat.zero_le _⟩, hZ, findClass_of_methodNamed Bd.named, Fr.nil n0, by subst hh; exact CHr.refl hC, Z0, Bd.exec, Bd.bytes, Bd.notSynchronized, Nat.le_refl _⟩
  rw [ef, ← own_entry m L maxL] at G
  exact G
/-- the contract pays a call -/
theorem backX {y : MethodName} {bytes : ByteArray} {maxL : Nat} {ret : Option FieldType} {rm : Room} {len W : Nat} {as' : Array Value} {SL : List Addr} {Q : Vm → Option Value → Heap → Vm → Prop}
    (hM : MetH l Z EL n0 y bytes maxL ret [] rm as' h SL Q) (hZ : Z.Warmed39 vm0) (wc : (Cond.code y bytes maxL ret).before a0 Z = true) (wz : (Cond.initialized y.cls).before a0 Z = true) (hf : rm.frames + 1 ≤ R.frames) (hl : W + (maxL + 11) + rm.locals ≤ R.locals) (hEL : EW Z a0 EL) (H : CHv Z EL vm0 h) (hS : ∀ x ∈ SL, x < h.size ∧ Safe Z EL vm0 h x) :
    BackS l R p e below (s.setVm vm0) args y len W (fun A a => a = as' ∧ A.U.heap = h ∧ A.cells + rm.cells ≤ R.cells ∧ A.slots + rm.slots ≤ R.slots)
      (fun A _ v B => ∃ L vs, (Fr n0 L ∧ Q vs v B.U.heap B.U.vm) ∧ CHr Z EL vm0 h vs h ∧ B.locs = A.locs ++ L ∧ B.cells = A.cells + rm.cells ∧ B.slots = A.slots + rm.slots ∧ CHr Z EL vm0 h B.U.vm B.U.heap) :=
  BackS.of_freeW (bytes := bytes) (maxL := maxL) (ret := ret) (E := fun _ first o t L k n => k = rm.cells ∧ n = rm.slots ∧ (∃ v, o = .returned v ∧ (Fr n0 L ∧ Q first.vm v t.heap t.vm)) ∧ CHr Z EL first.vm first.heap t.vm t.heap) hM hf hl
    (fun m meth c A a Y hp => have hU : Z.Warmed39 A.U.vm := wtrans (s := s.setVm vm0) hZ Y.warmed
      ⟨by show (Jvm.Cond.and _ .tt).before a A.U = true; rw [Cond.before_and, mv hU wc]; rfl, mv hU wc, mv hU wz, hp.2.2.1, hp.2.2.2⟩)
    (fun m meth c A a g mk Y hp => ⟨hp.1, wtrans (s := s.setVm vm0) hZ Y.warmed, hp.2.1, (CHv.at Y hZ hEL H).1, fun x hx => by have A' := CHv.at Y hZ hEL H; exact CHr.safe A' (hS x hx).1 (hS x hx).2⟩) (fun _ _ _ _ _ _ _ _ _ => trivial)
    (fun _ _ _ _ ⟨v, L, h1, h2, h3, h4⟩ => ⟨L, _, _, h4, rfl, rfl, ⟨v, h1, h2⟩, h3⟩)
    (fun m meth c A a g mk v t L k n Y hp _ _ ⟨e1, e2, ⟨v', e3, e4⟩, e5⟩ => by
      cases e3; subst e1 e2
      refine ⟨L, A.U.vm, e4, CHv.at Y hZ hEL H, rfl, rfl, rfl, (CHv.at Y hZ hEL H).trans ?_⟩
      rw [← hp.2.1]; exact e5)
theorem kDONE (X : Sit p l e R s m args below meth c bs own Z EL n0 h0 T h vm0 locs cells slots) (hEL : EW Z a0 EL) {Q : Vm → Option Value → Heap → Vm → Prop} {ck sk : Nat} {g : JFrame} {v : Option Value} (hv : meth.sig.returnType = none → v = none)
    (st : ∀ fs, (∀ (f : JFrame) (acts : List Action), f.method = m → f.locked = none → f.entered = [] → (doReturn e (T.setTop f) acts v).1 = T.setFrames fs) → Steps p.tables e below (T.setTop g) (T.setFrames fs))
    (hQ : ∀ ve, CHr Z EL vm0 h ve h → Q s.vm v h ve) (hcs : cells ≤ ck ∧ slots ≤ sk) : Go p e below (FinH Z EL n0 s Q ck sk) T g := by
  obtain ⟨k0, hS, hk⟩ := X.2.2.1
  obtain ⟨fs, hr, hrun, hended, hW, hsame⟩ := X.1.leave hv X.hlk
  obtain ⟨a, b, c'⟩ := hS.ended (U := T.setFrames fs) hW (by show k0 ≤ T.heap.size; rw [X.hh]; exact hk) hsame
  refine ⟨_, _, st fs hr, hrun, hended, v, locs, rfl, ?_, ?_, ⟨v, rfl⟩, a, b, c'.mono hcs.1 hcs.2⟩
  · show Fr n0 locs ∧ Q s.vm v T.heap T.vm
    rw [X.hh]; exact ⟨X.N, hQ _ (CHv.at X.1 X.hZ hEL X.C.1)⟩
  · show CHr Z EL s.vm s.heap T.vm T.heap
    rw [X.hh]
    exact X.C.trans (CHv.at X.1 X.hZ hEL X.C.1)
theorem kRETV (X : Sit p l e R s m args below meth c bs own Z EL n0 h0 T h vm0 locs cells slots) (hEL : EW Z a0 EL) {Q : Vm → Option Value → Heap → Vm → Prop} {ck sk : Nat} (hret : meth.sig.returnType = none) (hd : decode bs pc = .ok (.return_, 1)) (hQ : ∀ ve, CHr Z EL vm0 h ve h → Q s.vm none h ve) (hcs : cells ≤ ck ∧ slots ≤ sk) : Go p e below (FinH Z EL n0 s Q ck sk) T (mkF m pc Ls []) :=
  kDONE X hEL (fun _ => rfl) (fun fs hr => X.1.returnOut X.hx hret (hb X.hby hd) hr) hQ hcs
theorem kRETZ (X : Sit p l e R s m args below meth c bs own Z EL n0 h0 T h vm0 locs cells slots) (hEL : EW Z a0 EL) {Q : Vm → Option Value → Heap → Vm → Prop} {ck sk : Nat} {z : Int32} {t : FieldType} (hret : meth.sig.returnType = some t) (ht : t = .boolean ∨ t = .byte ∨ t = .char ∨ t = .short) (hd : decode bs pc = .ok (.ireturn, 1)) (hQ : ∀ ve, CHr Z EL vm0 h ve h → Q s.vm (some (.int (nar t z))) h ve) (hcs : cells ≤ ck ∧ slots ≤ sk) : Go p e below (FinH Z EL n0 s Q ck sk) T (mkF m pc Ls (.int z :: st)) :=
  kDONE X hEL (fun h => by rw [hret] at h; cases h) (fun fs hr => retN X.1 X.hx hret ht (hb X.hby hd) hr) hQ hcs
theorem kRETI (X : Sit p l e R s m args below meth c bs own Z EL n0 h0 T h vm0 locs cells slots) (hEL : EW Z a0 EL) {Q : Vm → Option Value → Heap → Vm → Prop} {ck sk : Nat} {z : Int32} (hret : meth.sig.returnType = some .int) (hd : decode bs pc = .ok (.ireturn, 1)) (hQ : ∀ ve, CHr Z EL vm0 h ve h → Q s.vm (some (.int z)) h ve) (hcs : cells ≤ ck ∧ slots ≤ sk) : Go p e below (FinH Z EL n0 s Q ck sk) T (mkF m pc Ls (.int z :: st)) :=
  kDONE X hEL (fun h => by rw [hret] at h; cases h) (fun fs hr => retOut X.1 X.hx hret rfl (Or.inl ⟨rfl, Or.inl rfl, _, rfl⟩) (hb X.hby hd) hr) hQ hcs
theorem kRETA (X : Sit p l e R s m args below meth c bs own Z EL n0 h0 T h vm0 locs cells slots) (hEL : EW Z a0 EL) {Q : Vm → Option Value → Heap → Vm → Prop} {ck sk : Nat} {w : Value} {t : FieldType} (hret : meth.sig.returnType = some t) (ht : t.isReference = true) (hw : w.isRef = true) (hd : decode bs pc = .ok (.areturn, 1)) (hQ : ∀ ve, CHr Z EL vm0 h ve h → Q s.vm (some w) h ve) (hcs : cells ≤ ck ∧ slots ≤ sk) : Go p e below (FinH Z EL n0 s Q ck sk) T (mkF m pc Ls (w :: st)) :=
  kDONE X hEL (fun h => by rw [hret] at h; cases h) (fun fs hr => retOut X.1 X.hx hret (by cases w <;> cases t <;> first | rfl | (cases hw; done) | (cases ht; done)) (Or.inr (Or.inr (Or.inr (Or.inr ⟨rfl, ht, hw⟩)))) (hb X.hby hd) hr) hQ hcs
theorem kILn (X : Sit p l e R s m args below meth c bs own Z EL n0 h0 T h vm0 locs cells slots) {k : Fin 4} {v : Int32} (hd : decode bs pc = .ok (.iload_n k, 1)) (hl : Ls[k.val]? = some (.val (.int v))) (q : Go p e below F T (mkF m (pc + 1) Ls (.int v :: st))) : Go p e below F T (mkF m pc Ls st) :=
  Go.by (fun _ r => XS.iloadN X.1.here X.hx rfl (hb X.hby hd) hl r) q
theorem kLLn (X : Sit p l e R s m args below meth c bs own Z EL n0 h0 T h vm0 locs cells slots) {k : Fin 4} {v : Int64} (hd : decode bs pc = .ok (.lload_n k, 1)) (hl : Ls[k.val]? = some (.val (.long v))) (q : Go p e below F T (mkF m (pc + 1) Ls (.long v :: st))) : Go p e below F T (mkF m pc Ls st) :=
  Go.by (fun _ r => XT.lloadN X.1.here X.hx rfl (hb X.hby hd) hl r) q
theorem kALn (X : Sit p l e R s m args below meth c bs own Z EL n0 h0 T h vm0 locs cells slots) {k : Fin 4} {v : Value} (hd : decode bs pc = .ok (.aload_n k, 1)) (hl : Ls[k.val]? = some (.val v)) (hv : v.isRef = true) (q : Go p e below F T (mkF m (pc + 1) Ls (v :: st))) : Go p e below F T (mkF m pc Ls st) :=
  Go.by (fun _ r => XS.aloadN X.1.here X.hx rfl (hb X.hby hd) hl hv r) q
theorem kISn (X : Sit p l e R s m args below meth c bs own Z EL n0 h0 T h vm0 locs cells slots) {k : Fin 4} {v : Int32} (Ms : Array Slot) (hd : decode bs pc = .ok (.istore_n k, 1)) (hl : storeLocals Ls k.val (.int v) = some Ms) (q : Go p e below F T (mkF m (pc + 1) Ms st)) : Go p e below F T (mkF m pc Ls (.int v :: st)) :=
  Go.by (fun _ r => XS.istoreN X.1.here X.hx rfl (hb X.hby hd) rfl hl r) q
theorem kLSn (X : Sit p l e R s m args below meth c bs own Z EL n0 h0 T h vm0 locs cells slots) {k : Fin 4} {v : Int64} (Ms : Array Slot) (hd : decode bs pc = .ok (.lstore_n k, 1)) (hl : storeLocals Ls k.val (.long v) = some Ms) (q : Go p e below F T (mkF m (pc + 1) Ms st)) : Go p e below F T (mkF m pc Ls (.long v :: st)) :=
  Go.by (fun _ r => XT.lstoreN X.1.here X.hx rfl (hb X.hby hd) rfl hl r) q
theorem kASn (X : Sit p l e R s m args below meth c bs own Z EL n0 h0 T h vm0 locs cells slots) {k : Fin 4} {v : Value} (Ms : Array Slot) (hd : decode bs pc = .ok (.astore_n k, 1)) (hv : v.isRef = true) (hl : storeLocals Ls k.val v = some Ms) (q : Go p e below F T (mkF m (pc + 1) Ms st)) : Go p e below F T (mkF m pc Ls (v :: st)) :=
  Go.by (fun _ r => XS.astoreN X.1.here X.hx rfl (hb X.hby hd) rfl hv hl r) q
theorem kIL (X : Sit p l e R s m args below meth c bs own Z EL n0 h0 T h vm0 locs cells slots) {k : Nat} {v : Int32} (hd : decode bs pc = .ok (.iload k, 2)) (hl : Ls[k]? = some (.val (.int v))) (q : Go p e below F T (mkF m (pc + 2) Ls (.int v :: st))) : Go p e below F T (mkF m pc Ls st) :=
  Go.by (fun _ r => XS.iload X.1.here X.hx rfl (hb X.hby hd) hl r) q
theorem kLL (X : Sit p l e R s m args below meth c bs own Z EL n0 h0 T h vm0 locs cells slots) {k : Nat} {v : Int64} (hd : decode bs pc = .ok (.lload k, 2)) (hl : Ls[k]? = some (.val (.long v))) (q : Go p e below F T (mkF m (pc + 2) Ls (.long v :: st))) : Go p e below F T (mkF m pc Ls st) :=
  Go.by (fun _ r => XT.lload X.1.here X.hx rfl (hb X.hby hd) hl r) q
theorem kAL (X : Sit p l e R s m args below meth c bs own Z EL n0 h0 T h vm0 locs cells slots) {k : Nat} {v : Value} (hd : decode bs pc = .ok (.aload k, 2)) (hl : Ls[k]? = some (.val v)) (hv : v.isRef = true) (q : Go p e below F T (mkF m (pc + 2) Ls (v :: st))) : Go p e below F T (mkF m pc Ls st) :=
  Go.by (fun _ r => XS.aload X.1.here X.hx rfl (hb X.hby hd) hl hv r) q
theorem kIS (X : Sit p l e R s m args below meth c bs own Z EL n0 h0 T h vm0 locs cells slots) {k : Nat} {v : Int32} (Ms : Array Slot) (hd : decode bs pc = .ok (.istore k, 2)) (hl : storeLocals Ls k (.int v) = some Ms) (q : Go p e below F T (mkF m (pc + 2) Ms st)) : Go p e below F T (mkF m pc Ls (.int v :: st)) :=
  Go.by (fun _ r => XS.istore X.1.here X.hx rfl (hb X.hby hd) rfl hl r) q
theorem kLS (X : Sit p l e R s m args below meth c bs own Z EL n0 h0 T h vm0 locs cells slots) {k : Nat} {v : Int64} (Ms : Array Slot) (hd : decode bs pc = .ok (.lstore k, 2)) (hl : storeLocals Ls k (.long v) = some Ms) (q : Go p e below F T (mkF m (pc + 2) Ms st)) : Go p e below F T (mkF m pc Ls (.long v :: st)) :=
  Go.by (fun _ r => XT.lstore X.1.here X.hx rfl (hb X.hby hd) rfl hl r) q
theorem kAS (X : Sit p l e R s m args below meth c bs own Z EL n0 h0 T h vm0 locs cells slots) {k : Nat} {v : Value} (Ms : Array Slot) (hd : decode bs pc = .ok (.astore k, 2)) (hv : v.isRef = true) (hl : storeLocals Ls k v = some Ms) (q : Go p e below F T (mkF m (pc + 2) Ms st)) : Go p e below F T (mkF m pc Ls (v :: st)) :=
  Go.by (fun _ r => XS.astore X.1.here X.hx rfl (hb X.hby hd) rfl hv hl r) q
theorem kIC (X : Sit p l e R s m args below meth c bs own Z EL n0 h0 T h vm0 locs cells slots) {i : Int} (v : Int32) (hd : decode bs pc = .ok (.iconst i, 1)) (hv : Int32.ofInt i = v) (q : Go p e below F T (mkF m (pc + 1) Ls (.int v :: st))) : Go p e below F T (mkF m pc Ls st) :=
  Go.by (fun _ r => XT.iconstV X.1.here X.hx rfl v (hb X.hby hd) hv r) q
theorem kBI (X : Sit p l e R s m args below meth c bs own Z EL n0 h0 T h vm0 locs cells slots) {i : Int} (v : Int32) (hd : decode bs pc = .ok (.bipush i, 2)) (hv : (Int8.ofInt i).toInt32 = v) (q : Go p e below F T (mkF m (pc + 2) Ls (.int v :: st))) : Go p e below F T (mkF m pc Ls st) :=
  Go.by (fun _ r => XT.bipushV X.1.here X.hx rfl v (hb X.hby hd) hv r) q
theorem kSI (X : Sit p l e R s m args below meth c bs own Z EL n0 h0 T h vm0 locs cells slots) {i : Int} (v : Int32) (hd : decode bs pc = .ok (.sipush i, 3)) (hv : (Int16.ofInt i).toInt32 = v) (q : Go p e below F T (mkF m (pc + 3) Ls (.int v :: st))) : Go p e below F T (mkF m pc Ls st) :=
  Go.by (fun _ r => XT.sipushV X.1.here X.hx rfl v (hb X.hby hd) hv r) q
theorem kLC (X : Sit p l e R s m args below meth c bs own Z EL n0 h0 T h vm0 locs cells slots) {k : Fin 2} (v : Int64) (hd : decode bs pc = .ok (.lconst k, 1)) (hv : Int64.ofNat k = v) (q : Go p e below F T (mkF m (pc + 1) Ls (.long v :: st))) : Go p e below F T (mkF m pc Ls st) :=
  Go.by (fun _ r => XT.lconstV X.1.here X.hx rfl v (hb X.hby hd) hv r) q
theorem kNULL (X : Sit p l e R s m args below meth c bs own Z EL n0 h0 T h vm0 locs cells slots)  (hd : decode bs pc = .ok (.aconst_null, 1)) (q : Go p e below F T (mkF m (pc + 1) Ls (.null :: st))) : Go p e below F T (mkF m pc Ls st) :=
  Go.by (fun _ r => XS.aconstNull X.1.here X.hx rfl (hb X.hby hd) r) q
theorem kIADD (X : Sit p l e R s m args below meth c bs own Z EL n0 h0 T h vm0 locs cells slots) {x y : Int32} (z : Int32) (hd : decode bs pc = .ok (.iadd, 1)) (hz : x + y = z) (q : Go p e below F T (mkF m (pc + 1) Ls (.int z :: st))) : Go p e below F T (mkF m pc Ls (.int y :: .int x :: st)) :=
  Go.by (fun _ r => XS.iadd X.1.here X.hx rfl (hb X.hby hd) rfl (hz ▸ r)) q
theorem kISUB (X : Sit p l e R s m args below meth c bs own Z EL n0 h0 T h vm0 locs cells slots) {x y : Int32} (z : Int32) (hd : decode bs pc = .ok (.isub, 1)) (hz : x - y = z) (q : Go p e below F T (mkF m (pc + 1) Ls (.int z :: st))) : Go p e below F T (mkF m pc Ls (.int y :: .int x :: st)) :=
  Go.by (fun _ r => XS.isub X.1.here X.hx rfl (hb X.hby hd) rfl (hz ▸ r)) q
theorem kIMUL (X : Sit p l e R s m args below meth c bs own Z EL n0 h0 T h vm0 locs cells slots) {x y : Int32} (z : Int32) (hd : decode bs pc = .ok (.imul, 1)) (hz : x * y = z) (q : Go p e below F T (mkF m (pc + 1) Ls (.int z :: st))) : Go p e below F T (mkF m pc Ls (.int y :: .int x :: st)) :=
  Go.by (fun _ r => XS.imul X.1.here X.hx rfl (hb X.hby hd) rfl (hz ▸ r)) q
theorem kIAND (X : Sit p l e R s m args below meth c bs own Z EL n0 h0 T h vm0 locs cells slots) {x y : Int32} (z : Int32) (hd : decode bs pc = .ok (.iand, 1)) (hz : x &&& y = z) (q : Go p e below F T (mkF m (pc + 1) Ls (.int z :: st))) : Go p e below F T (mkF m pc Ls (.int y :: .int x :: st)) :=
  Go.by (fun _ r => XS.iand X.1.here X.hx rfl (hb X.hby hd) rfl (hz ▸ r)) q
theorem kIOR (X : Sit p l e R s m args below meth c bs own Z EL n0 h0 T h vm0 locs cells slots) {x y : Int32} (z : Int32) (hd : decode bs pc = .ok (.ior, 1)) (hz : x ||| y = z) (q : Go p e below F T (mkF m (pc + 1) Ls (.int z :: st))) : Go p e below F T (mkF m pc Ls (.int y :: .int x :: st)) :=
  Go.by (fun _ r => XT.ior X.1.here X.hx rfl (hb X.hby hd) rfl (hz ▸ r)) q
theorem kIXOR (X : Sit p l e R s m args below meth c bs own Z EL n0 h0 T h vm0 locs cells slots) {x y : Int32} (z : Int32) (hd : decode bs pc = .ok (.ixor, 1)) (hz : x ^^^ y = z) (q : Go p e below F T (mkF m (pc + 1) Ls (.int z :: st))) : Go p e below F T (mkF m pc Ls (.int y :: .int x :: st)) :=
  Go.by (fun _ r => XT.ixor X.1.here X.hx rfl (hb X.hby hd) rfl (hz ▸ r)) q
theorem kISHL (X : Sit p l e R s m args below meth c bs own Z EL n0 h0 T h vm0 locs cells slots) {x y : Int32} (z : Int32) (hd : decode bs pc = .ok (.ishl, 1)) (hz : x <<< (y &&& 31) = z) (q : Go p e below F T (mkF m (pc + 1) Ls (.int z :: st))) : Go p e below F T (mkF m pc Ls (.int y :: .int x :: st)) :=
  Go.by (fun _ r => XT.ishl X.1.here X.hx rfl (hb X.hby hd) rfl (hz ▸ r)) q
theorem kISHR (X : Sit p l e R s m args below meth c bs own Z EL n0 h0 T h vm0 locs cells slots) {x y : Int32} (z : Int32) (hd : decode bs pc = .ok (.ishr, 1)) (hz : x >>> (y &&& 31) = z) (q : Go p e below F T (mkF m (pc + 1) Ls (.int z :: st))) : Go p e below F T (mkF m pc Ls (.int y :: .int x :: st)) :=
  Go.by (fun _ r => XT.ishr X.1.here X.hx rfl (hb X.hby hd) rfl (hz ▸ r)) q
theorem kIUSHR (X : Sit p l e R s m args below meth c bs own Z EL n0 h0 T h vm0 locs cells slots) {x y : Int32} (z : Int32) (hd : decode bs pc = .ok (.iushr, 1)) (hz : XT.ushr x y = z) (q : Go p e below F T (mkF m (pc + 1) Ls (.int z :: st))) : Go p e below F T (mkF m pc Ls (.int y :: .int x :: st)) :=
  Go.by (fun _ r => XT.iushr X.1.here X.hx rfl (hb X.hby hd) rfl (hz ▸ r)) q
theorem kIREM (X : Sit p l e R s m args below meth c bs own Z EL n0 h0 T h vm0 locs cells slots) {x y : Int32} (z : Int32) (hd : decode bs pc = .ok (.irem, 1)) (hy : y ≠ 0) (hz : x % y = z) (q : Go p e below F T (mkF m (pc + 1) Ls (.int z :: st))) : Go p e below F T (mkF m pc Ls (.int y :: .int x :: st)) :=
  Go.by (fun _ r => iremM X.1 X.hx rfl (hb X.hby hd) rfl hy (hz ▸ r)) q
theorem kI2C (X : Sit p l e R s m args below meth c bs own Z EL n0 h0 T h vm0 locs cells slots) {x : Int32} (z : Int32) (hd : decode bs pc = .ok (.i2c, 1)) (hz : x.toUInt32.toUInt16.toUInt32.toInt32 = z) (q : Go p e below F T (mkF m (pc + 1) Ls (.int z :: st))) : Go p e below F T (mkF m pc Ls (.int x :: st)) :=
  Go.by (fun _ r => XT.i2c X.1.here X.hx rfl (hb X.hby hd) rfl (hz ▸ r)) q
theorem kI2B (X : Sit p l e R s m args below meth c bs own Z EL n0 h0 T h vm0 locs cells slots) {x : Int32} (z : Int32) (hd : decode bs pc = .ok (.i2b, 1)) (hz : x.toInt8.toInt32 = z) (q : Go p e below F T (mkF m (pc + 1) Ls (.int z :: st))) : Go p e below F T (mkF m pc Ls (.int x :: st)) :=
  Go.by (fun _ r => XT.i2b X.1.here X.hx rfl (hb X.hby hd) rfl (hz ▸ r)) q
theorem kI2L (X : Sit p l e R s m args below meth c bs own Z EL n0 h0 T h vm0 locs cells slots) {x : Int32} (hd : decode bs pc = .ok (.i2l, 1)) (q : Go p e below F T (mkF m (pc + 1) Ls (.long x.toInt64 :: st))) : Go p e below F T (mkF m pc Ls (.int x :: st)) :=
  Go.by (fun _ r => XT.i2l X.1.here X.hx rfl (hb X.hby hd) rfl r) q
theorem kDUP (X : Sit p l e R s m args below meth c bs own Z EL n0 h0 T h vm0 locs cells slots) {x : Value} (hd : decode bs pc = .ok (.dup, 1)) (hc : x.category = 1) (q : Go p e below F T (mkF m (pc + 1) Ls (x :: x :: st))) : Go p e below F T (mkF m pc Ls (x :: st)) :=
  Go.by (fun _ r => XS.dup X.1.here X.hx rfl (hb X.hby hd) rfl hc r) q
theorem kDUPX (X : Sit p l e R s m args below meth c bs own Z EL n0 h0 T h vm0 locs cells slots) {x y : Value} (hd : decode bs pc = .ok (.dup_x1, 1)) (hc : x.category = 1) (hc2 : y.category = 1) (q : Go p e below F T (mkF m (pc + 1) Ls (x :: y :: x :: st))) : Go p e below F T (mkF m pc Ls (x :: y :: st)) :=
  Go.by (fun _ r => XT.dupX1 X.1.here X.hx rfl (hb X.hby hd) rfl hc hc2 r) q
theorem kPOP (X : Sit p l e R s m args below meth c bs own Z EL n0 h0 T h vm0 locs cells slots) {x : Value} (hd : decode bs pc = .ok (.pop, 1)) (hc : x.category = 1) (q : Go p e below F T (mkF m (pc + 1) Ls st)) : Go p e below F T (mkF m pc Ls (x :: st)) :=
  Go.by (fun _ r => XT.pop X.1.here X.hx rfl (hb X.hby hd) rfl hc r) q
theorem kIINC (X : Sit p l e R s m args below meth c bs own Z EL n0 h0 T h vm0 locs cells slots) {k : Nat} {i : Int} {x : Int32} (v z : Int32) (Ms : Array Slot) (hd : decode bs pc = .ok (.iinc k i, 3)) (hv : Int32.ofInt i = v) (hl : Ls[k]? = some (.val (.int x))) (hz : x + v = z) (hl2 : storeLocals Ls k (.int z) = some Ms) (q : Go p e below F T (mkF m (pc + 3) Ms st)) : Go p e below F T (mkF m pc Ls st) :=
  Go.by (fun _ r => XT.iincV X.1.here X.hx rfl v (hb X.hby hd) hv hl (hz ▸ hl2) r) q
theorem kGOTO (X : Sit p l e R s m args below meth c bs own Z EL n0 h0 T h vm0 locs cells slots)  {o : Int} (pc2 : Nat) (hd : decode bs pc = .ok (.goto o, 3))  (ho : 0 ≤ (pc : Int) + o ∧ ((pc : Int) + o).toNat = pc2) (q : Go p e below F T (mkF m pc2 Ls st)) : Go p e below F T (mkF m pc Ls st) :=
  Go.by (fun _ r => XS.goto X.1.here X.hx rfl (pc0 := pc) (pc' := pc2) rfl (hb X.hby hd)  ho.1 ho.2 r) q
theorem kIFt (X : Sit p l e R s m args below meth c bs own Z EL n0 h0 T h vm0 locs cells slots) {cd : ClassFile.Cond} {x : Int32} {o : Int} (pc2 : Nat) (hd : decode bs pc = .ok (.ifCond cd o, 3)) (hc : ifCond.holds cd x = true) (ho : 0 ≤ (pc : Int) + o ∧ ((pc : Int) + o).toNat = pc2) (q : Go p e below F T (mkF m pc2 Ls st)) : Go p e below F T (mkF m pc Ls (.int x :: st)) :=
  Go.by (fun _ r => XS.ifYes X.1.here X.hx rfl (pc0 := pc) (pc' := pc2) rfl (hb X.hby hd) rfl hc ho.1 ho.2 r) q
theorem kICt (X : Sit p l e R s m args below meth c bs own Z EL n0 h0 T h vm0 locs cells slots) {cd : ClassFile.Cond} {x y : Int32} {o : Int} (pc2 : Nat) (hd : decode bs pc = .ok (.if_icmp cd o, 3)) (hc : if_icmp.holds cd x y = true) (ho : 0 ≤ (pc : Int) + o ∧ ((pc : Int) + o).toNat = pc2) (q : Go p e below F T (mkF m pc2 Ls st)) : Go p e below F T (mkF m pc Ls (.int y :: .int x :: st)) :=
  Go.by (fun _ r => XS.icmpYes X.1.here X.hx rfl (pc0 := pc) (pc' := pc2) rfl (hb X.hby hd) rfl hc ho.1 ho.2 r) q
theorem kACt (X : Sit p l e R s m args below meth c bs own Z EL n0 h0 T h vm0 locs cells slots) {cd : ClassFile.ACond} {x y : Value} {o : Int} (pc2 : Nat) (hd : decode bs pc = .ok (.if_acmp cd o, 3)) (hx1 : x.isRef = true) (hy1 : y.isRef = true) (hc : XT.acmp cd x y = true) (ho : 0 ≤ (pc : Int) + o ∧ ((pc : Int) + o).toNat = pc2) (q : Go p e below F T (mkF m pc2 Ls st)) : Go p e below F T (mkF m pc Ls (y :: x :: st)) :=
  Go.by (fun _ r => XT.acmpYes X.1.here X.hx rfl (pc0 := pc) (pc' := pc2) rfl (hb X.hby hd) rfl hx1 hy1 hc ho.1 ho.2 r) q
theorem kNUt (X : Sit p l e R s m args below meth c bs own Z EL n0 h0 T h vm0 locs cells slots)  {o : Int} (pc2 : Nat) (hd : decode bs pc = .ok (.ifnull o, 3))  (ho : 0 ≤ (pc : Int) + o ∧ ((pc : Int) + o).toNat = pc2) (q : Go p e below F T (mkF m pc2 Ls st)) : Go p e below F T (mkF m pc Ls (.null :: st)) :=
  Go.by (fun _ r => XS.ifnullYes X.1.here X.hx rfl (pc0 := pc) (pc' := pc2) rfl (hb X.hby hd) rfl ho.1 ho.2 r) q
theorem kNNt (X : Sit p l e R s m args below meth c bs own Z EL n0 h0 T h vm0 locs cells slots) {b : Addr} {o : Int} (pc2 : Nat) (hd : decode bs pc = .ok (.ifnonnull o, 3))  (ho : 0 ≤ (pc : Int) + o ∧ ((pc : Int) + o).toNat = pc2) (q : Go p e below F T (mkF m pc2 Ls st)) : Go p e below F T (mkF m pc Ls (.ref b :: st)) :=
  Go.by (fun _ r => XT.ifnonnullYes X.1.here X.hx rfl (pc0 := pc) (pc' := pc2) rfl (hb X.hby hd) rfl ho.1 ho.2 r) q
theorem kIFf (X : Sit p l e R s m args below meth c bs own Z EL n0 h0 T h vm0 locs cells slots) {cd : ClassFile.Cond} {x : Int32} {o : Int} (hd : decode bs pc = .ok (.ifCond cd o, 3)) (hc : ifCond.holds cd x = false) (q : Go p e below F T (mkF m (pc + 3) Ls st)) : Go p e below F T (mkF m pc Ls (.int x :: st)) :=
  Go.by (fun _ r => XS.ifNo X.1.here X.hx rfl (hb X.hby hd) rfl hc r) q
theorem kICf (X : Sit p l e R s m args below meth c bs own Z EL n0 h0 T h vm0 locs cells slots) {cd : ClassFile.Cond} {x y : Int32} {o : Int} (hd : decode bs pc = .ok (.if_icmp cd o, 3)) (hc : if_icmp.holds cd x y = false) (q : Go p e below F T (mkF m (pc + 3) Ls st)) : Go p e below F T (mkF m pc Ls (.int y :: .int x :: st)) :=
  Go.by (fun _ r => XS.icmpNo X.1.here X.hx rfl (hb X.hby hd) rfl hc r) q
theorem kACf (X : Sit p l e R s m args below meth c bs own Z EL n0 h0 T h vm0 locs cells slots) {cd : ClassFile.ACond} {x y : Value} {o : Int} (hd : decode bs pc = .ok (.if_acmp cd o, 3)) (hx1 : x.isRef = true) (hy1 : y.isRef = true) (hc : XT.acmp cd x y = false) (q : Go p e below F T (mkF m (pc + 3) Ls st)) : Go p e below F T (mkF m pc Ls (y :: x :: st)) :=
  Go.by (fun _ r => XT.acmpNo X.1.here X.hx rfl (hb X.hby hd) rfl hx1 hy1 hc r) q
theorem kNUf (X : Sit p l e R s m args below meth c bs own Z EL n0 h0 T h vm0 locs cells slots) {b : Addr} {o : Int} (hd : decode bs pc = .ok (.ifnull o, 3)) (q : Go p e below F T (mkF m (pc + 3) Ls st)) : Go p e below F T (mkF m pc Ls (.ref b :: st)) :=
  Go.by (fun _ r => XS.ifnullNo X.1.here X.hx rfl (hb X.hby hd) rfl r) q
theorem kNNf (X : Sit p l e R s m args below meth c bs own Z EL n0 h0 T h vm0 locs cells slots) {o : Int} (hd : decode bs pc = .ok (.ifnonnull o, 3)) (q : Go p e below F T (mkF m (pc + 3) Ls st)) : Go p e below F T (mkF m pc Ls (.null :: st)) :=
  Go.by (fun _ r => XT.ifnonnullNo X.1.here X.hx rfl (hb X.hby hd) rfl r) q
theorem kLDCI (X : Sit p l e R s m args below meth c bs own Z EL n0 h0 T h vm0 locs cells slots) {i : Nat} {v : Int32} (w : (Cond.constant own i v).before a0 Z = true) (hd : decode bs pc = .ok (.ldc i, 2)) (q : Go p e below F T (mkF m (pc + 2) Ls (.int v :: st))) : Go p e below F T (mkF m pc Ls st) :=
  Go.by (fun _ r => X.1.ldcI X.hx X.hown (mvT (s := s.setVm vm0) X.hZ w) rfl (hb X.hby hd) r) q
theorem kGETS (X : Sit p l e R s m args below meth c bs own Z EL n0 h0 T h vm0 locs cells slots) {R0 O n d : String} {i : Nat} {v : Value} (w : (Cond.fieldLink own i R0 n d).before a0 Z = true) (via : Via Z R0 O n d) (f : Sta Z h O n d v) (hd : decode bs pc = .ok (.getstatic i, 3))
    (q : ∀ T', Sit p l e R s m args below meth c bs own Z EL n0 h0 T' h vm0 locs cells slots → Go p e below F T' (mkF m (pc + 3) Ls (v :: st))) : Go p e below F T (mkF m pc Ls st) := by
  obtain ⟨T', Y, e', stp⟩ := getS X.1 X.hx X.hZ X.hown (host := "") w via X.hh f (g := mkF m pc Ls st) rfl (hb X.hby hd)
  exact Go.by stp (q T' (X.mk0 Y e' X.N))
theorem kGETF (X : Sit p l e R s m args below meth c bs own Z EL n0 h0 T h vm0 locs cells slots) {R0 O n d : String} {i : Nat} {a : Addr} {v : Value} (w : (Cond.fieldLink own i R0 n d).before a0 Z = true) (via : Via Z R0 O n d) (f : Fld Z h a O n d v) (hd : decode bs pc = .ok (.getfield i, 3))
    (q : ∀ T', Sit p l e R s m args below meth c bs own Z EL n0 h0 T' h vm0 locs cells slots → Go p e below F T' (mkF m (pc + 3) Ls (v :: st))) : Go p e below F T (mkF m pc Ls (.ref a :: st)) := by
  obtain ⟨T', Y, e', stp⟩ := getF X.1 X.hx X.hZ X.hown (host := "") (Or.inl w) via X.hh f (g := mkF m pc Ls (.ref a :: st)) rfl rfl (hb X.hby hd)
  exact Go.by stp (q T' (X.mk0 Y e' X.N))
theorem kPUTF (X : Sit p l e R s m args below meth c bs own Z EL n0 h0 T h vm0 locs cells slots) {R0 O n d C : String} {i kk : Nat} {ty : FieldType} {a : Addr} {v old : Value} (w : (Cond.fieldLink own i R0 n d).before a0 Z = true) (via : Via Z R0 O n d) (f : Fld Z h a O n d old) (E : Exa Z h a C) (L : (Cond.lays C O n d).before a0 Z = true ∨ ((Cond.laysFinal C O n d).before a0 Z = true ∧ own = O ∧ meth.name = "<init>")) (wi : (Cond.instantiable C kk).before a0 Z = true)
    (hty : parseFieldDescriptor d = some ty) (hn : narrow ty v = v) (hf : fits ty v = true) (ga : n0 ≤ a) (S : Safe Z EL vm0 h a) (hd : decode bs pc = .ok (.putfield i, 3))
    (q : ∀ T' h' locs', Wr h h' a (Jvm.RoadKit.slotOf Z O n d) v → Sit p l e R s m args below meth c bs own Z EL n0 h0 T' h' vm0 locs' cells slots → Go p e below F T' (mkF m (pc + 3) Ls st)) : Go p e below F T (mkF m pc Ls (v :: .ref a :: st)) := by
  obtain ⟨T', h', Y, e', W, stp⟩ := putF X.1 X.hx X.hZ X.hown (host := "") (Or.inl w) via X.hh f E L wi hty hn hf (g := mkF m pc Ls (v :: .ref a :: st)) rfl rfl (hb X.hby hd)
  exact Go.by stp (q T' h' _ W (X.mk1 Y e' (Fr.snoc Y X.N ga) (CHr.wr W S X.C.1)))
theorem kNEW (X : Sit p l e R s m args below meth c bs own Z EL n0 h0 T h vm0 locs cells slots) {C : String} {i n : Nat} (w : (Cond.classLink own i C).before a0 Z = true) (wi : (Cond.instantiable C n).before a0 Z = true) (wz : (Cond.initialized C).before a0 Z = true) (hd : decode bs pc = .ok (.new i, 3)) (hc : cells + 1 ≤ R.cells) (hl : slots + n ≤ R.slots)
    (q : ∀ T' h' a, Ext h h' → a = h.size → n0 ≤ a → Exa Z h' a C → (∀ {O nm d : String} {ty : FieldType}, Laid Z a0 C O nm d → parseFieldDescriptor d = some ty → Fld Z h' a O nm d (defaultValue ty)) → Safe Z EL vm0 h' a → Sit p l e R s m args below meth c bs own Z EL n0 h0 T' h' vm0 locs (cells + 1) (slots + n) → Go p e below F T' (mkF m (pc + 3) Ls (.ref a :: st))) : Go p e below F T (mkF m pc Ls st) := by
  obtain ⟨T', h', Y, e', E, A, D, -, stp⟩ := newO X.1 X.hx X.hZ X.hown w wi wz X.hh (g := mkF m pc Ls st) rfl (hb X.hby hd) hc hl
  exact Go.by stp (q T' h' h.size E rfl X.n A D (Safe.ext E X.C.1 (Safe.new (Nat.le_refl _))) (X.mk1 Y e' X.N (CHr.ext E X.C.1)))
theorem kNEWP (X : Sit p l e R s m args below meth c bs own Z EL n0 h0 T h vm0 locs cells slots) {aty : ArrayType} (w : (Cond.arrayClass (newarray.typeOf aty)).before a0 Z = true) {n : Int32} {cap : Nat} (hd : decode bs pc = .ok (.newarray aty, 2)) (hn : ¬ n < 0) (hcap : n.toNatClampNeg ≤ cap) (hb8 : cap * 8 ≤ 536870912) (hc : cells + 1 ≤ R.cells) (hl : slots + cap ≤ R.slots)
    (q : ∀ T' h' a k, Ext h h' → a = h.size → n0 ≤ a → Arv Z h' a k (newarray.typeOf aty) n [] (defaultValue (newarray.typeOf aty)) → Safe Z EL vm0 h' a → Sit p l e R s m args below meth c bs own Z EL n0 h0 T' h' vm0 locs (cells + 1) (slots + cap) → Go p e below F T' (mkF m (pc + 2) Ls (.ref a :: st))) : Go p e below F T (mkF m pc Ls (.int n :: st)) := by
  obtain ⟨T', h', k, Y, e', E, A, stp⟩ := newP X.1 X.hx X.hZ w X.hh (g := mkF m pc Ls (.int n :: st)) rfl (hb X.hby hd) rfl hn hcap hb8 hc hl
  exact Go.by stp (q T' h' h.size k E rfl X.n (Arv.new A hn) (Safe.ext E X.C.1 (Safe.new (Nat.le_refl _))) (X.mk1 Y e' X.N (CHr.ext E X.C.1)))
theorem kNEWR (X : Sit p l e R s m args below meth c bs own Z EL n0 h0 T h vm0 locs cells slots) {C : String} {i : Nat} (w1 : (Cond.classLink own i C).before a0 Z = true) (w2 : (Cond.arrayOver (.object C)).before a0 Z = true) {n : Int32} {cap : Nat} (hd : decode bs pc = .ok (.anewarray i, 3)) (hn : ¬ n < 0) (hcap : n.toNatClampNeg ≤ cap) (hb8 : cap * 8 ≤ 536870912) (hc : cells + 1 ≤ R.cells) (hl : slots + cap ≤ R.slots)
    (q : ∀ T' h' a k, Ext h h' → a = h.size → n0 ≤ a → Arv Z h' a k (.object C) n [] .null → Ovr Z k C → Safe Z EL vm0 h' a → Sit p l e R s m args below meth c bs own Z EL n0 h0 T' h' vm0 locs (cells + 1) (slots + cap) → Go p e below F T' (mkF m (pc + 3) Ls (.ref a :: st))) : Go p e below F T (mkF m pc Ls (.int n :: st)) := by
  obtain ⟨T', h', k, Y, e', E, A, O, stp⟩ := newR X.1 X.hx X.hZ X.hown w1 w2 X.hh (g := mkF m pc Ls (.int n :: st)) rfl (hb X.hby hd) rfl hn hcap hb8 hc hl
  exact Go.by stp (q T' h' h.size k E rfl X.n (Arv.new A hn) O (Safe.ext E X.C.1 (Safe.new (Nat.le_refl _))) (X.mk1 Y e' X.N (CHr.ext E X.C.1)))
theorem kAASTO (X : Sit p l e R s m args below meth c bs own Z EL n0 h0 T h vm0 locs cells slots) {a : Addr} {v : Value} {k : ClassId} {ty : FieldType} {z j : Int32} {vs : List Value} {dv : Value} (f : Arv Z h a k ty z vs dv) (hty : ty.isReference = true) (I : Sto Z h a v) (hvr : v.isRef = true) (hj : ¬ j < 0 ∧ j < z) (i : Nat) (hi : j.toNatClampNeg = i) (hl : i < vs.length) (ga : n0 ≤ a) (S : Safe Z EL vm0 h a) (hd : decode bs pc = .ok (.aastore, 1))
    (q : ∀ T' h' locs', Wr h h' a j.toNatClampNeg v → Arv Z h' a k ty z (vs.set i v) dv → Sit p l e R s m args below meth c bs own Z EL n0 h0 T' h' vm0 locs' cells slots → Go p e below F T' (mkF m (pc + 1) Ls st)) : Go p e below F T (mkF m pc Ls (v :: .int j :: .ref a :: st)) := by
  obtain ⟨cl, A, q1, S', q3, H, G⟩ := f
  obtain ⟨T', h', Y, e', W, stp⟩ := stR X.1 X.hx X.hZ X.hh A (inb_of S' hj) hty I (g := mkF m pc Ls (v :: .int j :: .ref a :: st)) rfl rfl (hb X.hby hd)
  exact Go.by stp (q T' h' _ W (Arv.set A q1 S' q3 H G (by cases v <;> first | (cases hvr; done) | (cases ty <;> first | rfl | (cases hty; done))) W i hi hl) (X.mk1 Y e' (Fr.snoc Y X.N ga) (CHr.wr W S X.C.1)))
theorem kCASTO (X : Sit p l e R s m args below meth c bs own Z EL n0 h0 T h vm0 locs cells slots) {a : Addr} {x : Int32} {k : ClassId} {z j : Int32} {vs : List Value} {dv : Value} (f : Arv Z h a k .char z vs dv) (hj : ¬ j < 0 ∧ j < z) (i : Nat) (y : Int32) (hy : nar .char x = y) (hi : j.toNatClampNeg = i) (hl : i < vs.length) (ga : n0 ≤ a) (S : Safe Z EL vm0 h a) (hd : decode bs pc = .ok (.castore, 1))
    (q : ∀ T' h' locs', Wr h h' a j.toNatClampNeg (.int y) → Arv Z h' a k .char z (vs.set i (.int y)) dv → Sit p l e R s m args below meth c bs own Z EL n0 h0 T' h' vm0 locs' cells slots → Go p e below F T' (mkF m (pc + 1) Ls st)) : Go p e below F T (mkF m pc Ls (.int x :: .int j :: .ref a :: st)) := by
  subst hy
  obtain ⟨cl, A, q1, S', q3, H, G⟩ := f
  obtain ⟨T', h', Y, e', W, stp⟩ := stC X.1 X.hx X.hZ X.hh A (inb_of S' hj) (g := mkF m pc Ls (.int x :: .int j :: .ref a :: st)) rfl rfl (hb X.hby hd)
  exact Go.by stp (q T' h' _ W (Arv.set A q1 S' q3 H G (fits_nar_char x) W i hi hl) (X.mk1 Y e' (Fr.snoc Y X.N ga) (CHr.wr W S X.C.1)))
theorem kBASTO (X : Sit p l e R s m args below meth c bs own Z EL n0 h0 T h vm0 locs cells slots) {a : Addr} {x : Int32} {k : ClassId} {z j : Int32} {vs : List Value} {dv : Value} (f : Arv Z h a k .byte z vs dv) (hj : ¬ j < 0 ∧ j < z) (i : Nat) (y : Int32) (hy : nar .byte x = y) (hi : j.toNatClampNeg = i) (hl : i < vs.length) (ga : n0 ≤ a) (S : Safe Z EL vm0 h a) (hd : decode bs pc = .ok (.bastore, 1))
    (q : ∀ T' h' locs', Wr h h' a j.toNatClampNeg (.int y) → Arv Z h' a k .byte z (vs.set i (.int y)) dv → Sit p l e R s m args below meth c bs own Z EL n0 h0 T' h' vm0 locs' cells slots → Go p e below F T' (mkF m (pc + 1) Ls st)) : Go p e below F T (mkF m pc Ls (.int x :: .int j :: .ref a :: st)) := by
  subst hy
  obtain ⟨cl, A, q1, S', q3, H, G⟩ := f
  obtain ⟨T', h', Y, e', W, stp⟩ := stB X.1 X.hx X.hZ X.hh A (inb_of S' hj) (g := mkF m pc Ls (.int x :: .int j :: .ref a :: st)) rfl rfl (hb X.hby hd)
  exact Go.by stp (q T' h' _ W (Arv.set A q1 S' q3 H G (fits_nar_byte x) W i hi hl) (X.mk1 Y e' (Fr.snoc Y X.N ga) (CHr.wr W S X.C.1)))
theorem kLEN (X : Sit p l e R s m args below meth c bs own Z EL n0 h0 T h vm0 locs cells slots) {a : Addr} {k : ClassId} {ty : FieldType} {z : Int32} {vs : List Value} {dv : Value} (f : Arv Z h a k ty z vs dv) (hd : decode bs pc = .ok (.arraylength, 1)) (q : Go p e below F T (mkF m (pc + 1) Ls (.int z :: st))) : Go p e below F T (mkF m pc Ls (.ref a :: st)) := by
  obtain ⟨cl, A, q1, S', q3, H, G⟩ := f
  refine Go.by (fun _ r => X.1.arraylength X.hx (by rw [X.hh]; exact A.1) (State.isArrayOf_alike X.hZ.alike A.2.1) (g := mkF m pc Ls (.ref a :: st)) rfl rfl (hb X.hby hd) _ ?_) q
  rw [len_of S' q3]; exact r
theorem kAALD (X : Sit p l e R s m args below meth c bs own Z EL n0 h0 T h vm0 locs cells slots) {a : Addr} {k : ClassId} {ty : FieldType} {z j : Int32} {vs : List Value} {dv : Value} (v : Value) (f : Arv Z h a k ty z vs dv) (hty : ty.isReference = true) (hj : ¬ j < 0 ∧ j < z) (hv : vs.getD j.toNatClampNeg dv = v) (hd : decode bs pc = .ok (.aaload, 1)) (q : Go p e below F T (mkF m (pc + 1) Ls (v :: st))) : Go p e below F T (mkF m pc Ls (.int j :: .ref a :: st)) := by
  obtain ⟨cl, A, q1, S', q3, H, G⟩ := f
  exact Go.by (X.1.aaload X.hx (by rw [X.hh]; exact A.1) (State.isArrayOf_alike X.hZ.alike A.2.1) hty A.2.2 (inb_of S' hj) (H.at (inb_of S' hj) hv) (g := mkF m pc Ls (.int j :: .ref a :: st)) rfl rfl (hb X.hby hd)) q
theorem kCALD (X : Sit p l e R s m args below meth c bs own Z EL n0 h0 T h vm0 locs cells slots) {a : Addr} {k : ClassId} {z j : Int32} {vs : List Value} {dv : Value} (v : Value) (f : Arv Z h a k .char z vs dv) (hj : ¬ j < 0 ∧ j < z) (hv : vs.getD j.toNatClampNeg dv = v) (hd : decode bs pc = .ok (.caload, 1)) (q : Go p e below F T (mkF m (pc + 1) Ls (v :: st))) : Go p e below F T (mkF m pc Ls (.int j :: .ref a :: st)) := by
  obtain ⟨cl, A, q1, S', q3, H, G⟩ := f
  exact Go.by (X.1.caload X.hx (by rw [X.hh]; exact A.1) (State.isArrayOf_alike X.hZ.alike A.2.1) A.2.2 (inb_of S' hj) (H.at (inb_of S' hj) hv) (g := mkF m pc Ls (.int j :: .ref a :: st)) rfl rfl (hb X.hby hd)) q
theorem kBALD (X : Sit p l e R s m args below meth c bs own Z EL n0 h0 T h vm0 locs cells slots) {a : Addr} {k : ClassId} {z j : Int32} {vs : List Value} {dv : Value} (v : Value) (f : Arv Z h a k .byte z vs dv) (hj : ¬ j < 0 ∧ j < z) (hv : vs.getD j.toNatClampNeg dv = v) (hd : decode bs pc = .ok (.baload, 1)) (q : Go p e below F T (mkF m (pc + 1) Ls (v :: st))) : Go p e below F T (mkF m pc Ls (.int j :: .ref a :: st)) := by
  obtain ⟨cl, A, q1, S', q3, H, G⟩ := f
  exact Go.by (X.1.baloadBytes X.hx (by rw [X.hh]; exact A.1) (State.isArrayOf_alike X.hZ.alike A.2.1) A.2.2 (inb_of S' hj) (H.at (inb_of S' hj) hv) (g := mkF m pc Ls (.int j :: .ref a :: st)) rfl rfl (hb X.hby hd)) q
theorem kIALD (X : Sit p l e R s m args below meth c bs own Z EL n0 h0 T h vm0 locs cells slots) {a : Addr} {k : ClassId} {z j : Int32} {vs : List Value} {dv : Value} (v : Value) (f : Arv Z h a k .int z vs dv) (hj : ¬ j < 0 ∧ j < z) (hv : vs.getD j.toNatClampNeg dv = v) (hd : decode bs pc = .ok (.iaload, 1)) (q : Go p e below F T (mkF m (pc + 1) Ls (v :: st))) : Go p e below F T (mkF m pc Ls (.int j :: .ref a :: st)) := by
  obtain ⟨cl, A, q1, S', q3, H, G⟩ := f
  exact Go.by (X.1.iaload X.hx (by rw [X.hh]; exact A.1) (State.isArrayOf_alike X.hZ.alike A.2.1) A.2.2 (inb_of S' hj) (H.at (inb_of S' hj) hv) (g := mkF m pc Ls (.int j :: .ref a :: st)) rfl rfl (hb X.hby hd)) q
theorem kLALD (X : Sit p l e R s m args below meth c bs own Z EL n0 h0 T h vm0 locs cells slots) {a : Addr} {k : ClassId} {z j : Int32} {vs : List Value} {dv : Value} (v : Value) (f : Arv Z h a k .long z vs dv) (hj : ¬ j < 0 ∧ j < z) (hv : vs.getD j.toNatClampNeg dv = v) (hd : decode bs pc = .ok (.laload, 1)) (q : Go p e below F T (mkF m (pc + 1) Ls (v :: st))) : Go p e below F T (mkF m pc Ls (.int j :: .ref a :: st)) := by
  obtain ⟨cl, A, q1, S', q3, H, G⟩ := f
  exact Go.by (X.1.laload X.hx (by rw [X.hh]; exact A.1) (State.isArrayOf_alike X.hZ.alike A.2.1) A.2.2 (inb_of S' hj) (H.at (inb_of S' hj) hv) (g := mkF m pc Ls (.int j :: .ref a :: st)) rfl rfl (hb X.hby hd)) q
theorem kINIT (X : Sit p l e R s m args below meth c bs own Z EL n0 h0 T h vm0 locs cells slots) {i : Nat} {a : Addr} (w1 : (Cond.methodLink own i ⟨"java/lang/Object", "<init>", "()V"⟩).before a0 Z = true) (w2 : (Cond.instanceMethod ⟨"java/lang/Object", "<init>", "()V"⟩).before a0 Z = true) (w3 : (Cond.code ⟨"java/lang/Object", "<init>", "()V"⟩ object_method_1_code 1 none).before a0 Z = true)
    (hsz : Ls.size = c.maxLocals) (hd : decode bs pc = .ok (.invokespecial i, 3)) (hf : 1 ≤ R.frames) (W : Nat) (hW : (st.map fun v => v.category).sum ≤ W) (hl : W + 12 ≤ R.locals) (q : ∀ T', Sit p l e R s m args below meth c bs own Z EL n0 h0 T' h vm0 locs cells slots → Go p e below F T' (mkF m (pc + 3) Ls st)) : Go p e below F T (mkF m pc Ls (.ref a :: st)) := by
  obtain ⟨T', Y, e', stp⟩ := initO X.1 X.hx X.hZ X.hown w1 w2 w3 X.hh (g := mkF m pc Ls (.ref a :: st)) rfl hsz rfl (hb X.hby hd) hf (W := W) (by show 2 * 0 + _ ≤ _; simpa using hW) (by omega)
  exact Go.by stp (q T' (X.mk0 Y e' X.N))
theorem kCAST (X : Sit p l e R s m args below meth c bs own Z EL n0 h0 T h vm0 locs cells slots) {K : String} {i : Nat} {a : Addr} (w : (Cond.classLink own i K).before a0 Z = true) (f : Ins Z h a K true) (hd : decode bs pc = .ok (.checkcast i, 3)) (q : ∀ T', Sit p l e R s m args below meth c bs own Z EL n0 h0 T' h vm0 locs cells slots → Go p e below F T' (mkF m (pc + 3) Ls (.ref a :: st))) : Go p e below F T (mkF m pc Ls (.ref a :: st)) := by
  obtain ⟨T', Y, e', stp⟩ := castY X.1 X.hx X.hZ X.hown w X.hh f (g := mkF m pc Ls (.ref a :: st)) rfl rfl (hb X.hby hd)
  exact Go.by stp (q T' (X.mk0 Y e' X.N))
theorem kINSY (X : Sit p l e R s m args below meth c bs own Z EL n0 h0 T h vm0 locs cells slots) {K : String} {i : Nat} {a : Addr} (w : (Cond.classLink own i K).before a0 Z = true) (f : Ins Z h a K true) (hd : decode bs pc = .ok (.instanceof i, 3)) (q : ∀ T', Sit p l e R s m args below meth c bs own Z EL n0 h0 T' h vm0 locs cells slots → Go p e below F T' (mkF m (pc + 3) Ls (.int 1 :: st))) : Go p e below F T (mkF m pc Ls (.ref a :: st)) := by
  obtain ⟨T', Y, e', stp⟩ := instY X.1 X.hx X.hZ X.hown w X.hh f (g := mkF m pc Ls (.ref a :: st)) rfl rfl (hb X.hby hd)
  exact Go.by stp (q T' (X.mk0 Y e' X.N))
theorem kLDCS (X : Sit p l e R s m args below meth c bs own Z EL n0 h0 T h vm0 locs cells slots) {text : String} {i : Nat} (hEL : EW Z a0 EL) (w : (Cond.stringLink own i text).before a0 Z = true) (wS : ∀ a ∈ Bundle.stringAtoms, a.before a0 Z = true) (hd : decode bs pc = .ok (.ldc i, 2)) {n : Nat} (hn : 4 * text.toList.length ≤ n) (hbig : n ≤ 536870912) (hc : cells + 2 ≤ R.cells) (hl : slots + (n + 4) ≤ R.slots)
    (q : ∀ T' h' vm1 a, Ext h h' → CHr Z EL vm0 h vm1 h' → Sit p l e R s m args below meth c bs own Z EL n0 h0 T' h' vm1 locs (cells + 2) (slots + (n + 4)) → Go p e below F T' (mkF m (pc + 2) Ls (.ref a :: st))) : Go p e below F T (mkF m pc Ls st) := by
  obtain ⟨k0, hS, hk⟩ := X.2.2.1
  obtain ⟨a, T', h', k1, Y, e', E, hS', hk', hZ', ho', hC, -, stp⟩ := ldcOH X.1 X.hx X.hZ X.hown w wS X.hh hS hk hEL X.C.1 (g := mkF m pc Ls st) rfl (hb X.hby hd) hn hbig hc hl
  exact Go.by stp (q T' h' _ a E hC (X.mk2 Y e' hS' hk' hZ' ho' X.N hC))
theorem kLDCT (X : Sit p l e R s m args below meth c bs own Z EL n0 h0 T h vm0 locs cells slots) {text : String} {i : Nat} (hEL : EW Z a0 EL) (w : (Cond.stringLink own i text).before a0 Z = true) (wS : ∀ a ∈ Bundle.stringAtoms, a.before a0 Z = true) (hmem : (own, i) ∈ EL) {vs : List Value} {z : Int32} (ht : (∀ c ∈ text.toList, c.toNat < 256) ∧ text.toList.map (fun c => Value.int (Jvm.Lit.byteI c.toNat.toUInt16)) = vs) (hz : ¬ z < 0) (hlz : z.toNatClampNeg = vs.length)
    (hd : decode bs pc = .ok (.ldc i, 2)) {n : Nat} (hn : 4 * text.toList.length ≤ n) (hbig : n ≤ 536870912) (hc : cells + 2 ≤ R.cells) (hl : slots + (n + 4) ≤ R.slots)
    (q : ∀ T' h' vm1 a b k, Ext h h' → CHr Z EL vm0 h vm1 h' → Exa Z h' a "java/lang/String" → Fld Z h' a "java/lang/String" "coder" "B" (.int 0) → Fld Z h' a "java/lang/String" "value" "[B" (.ref b) → Arv Z h' b k .byte z vs (.int 0) → (∀ x, Safe Z EL vm1 h' x → x ≠ a ∧ x ≠ b) → Sit p l e R s m args below meth c bs own Z EL n0 h0 T' h' vm1 locs (cells + 2) (slots + (n + 4)) → Go p e below F T' (mkF m (pc + 2) Ls (.ref a :: st))) : Go p e below F T (mkF m pc Ls st) := by
  obtain ⟨k0, hS, hk⟩ := X.2.2.1
  obtain ⟨a, T', h', k1, b, k, Y, e', E, hS', hk', hZ', ho', x1, x2, x3, x4, -, -, hC, -, hne, stp⟩ := ldcCH X.1 X.hx X.hZ X.hown w wS X.hh hS hk hEL hmem X.C.1 ht hz hlz (g := mkF m pc Ls st) rfl (hb X.hby hd) hn hbig hc hl
  exact Go.by stp (q T' h' _ a b k E hC x1 x2 x3 x4 hne (X.mk2 Y e' hS' hk' hZ' ho' X.N hC))
theorem kINSN (X : Sit p l e R s m args below meth c bs own Z EL n0 h0 T h vm0 locs cells slots) {K C : String} {i : Nat} {a : Addr} (w : (Cond.classLink own i K).before a0 Z = true) (E : Exa Z h a C) (f : ∃ c t, Z.vm.findClass C = some c ∧ Z.vm.findClass K = some t ∧ Z.vm.assignable c t = false) (hd : decode bs pc = .ok (.instanceof i, 3)) (q : ∀ T', Sit p l e R s m args below meth c bs own Z EL n0 h0 T' h vm0 locs cells slots → Go p e below F T' (mkF m (pc + 3) Ls (.int 0 :: st))) : Go p e below F T (mkF m pc Ls (.ref a :: st)) := by
  obtain ⟨T', Y, e', stp⟩ := instNo X.1 X.hx X.hZ X.hown w X.hh E f (g := mkF m pc Ls (.ref a :: st)) rfl rfl (hb X.hby hd)
  exact Go.by stp (q T' (X.mk0 Y e' X.N))
theorem kINSN0 (X : Sit p l e R s m args below meth c bs own Z EL n0 h0 T h vm0 locs cells slots) {i : Nat} (hd : decode bs pc = .ok (.instanceof i, 3)) (q : Go p e below F T (mkF m (pc + 3) Ls (.int 0 :: st))) : Go p e below F T (mkF m pc Ls (.null :: st)) :=
  Go.by (X.1.instanceofNull X.hx (g := mkF m pc Ls (.null :: st)) rfl rfl (hb X.hby hd)) q
theorem own_fitC {Z : State} {h : Heap} {a : Addr} {cl : Cell} {ty : FieldType} {vs : List Value} {dv : Value} (A : Arr Z h a cl ty) (H : Has cl vs dv) (G : ∀ i, i < cl.slots.size → fits ty (vs.getD i dv) = true) : FitC Z cl := fun i v hv => by
  obtain ⟨hi, -⟩ := Array.getElem?_eq_some_iff.mp hv
  have e := H i hi
  rw [hv] at e
  cases e
  obtain ⟨hs, k, hk, comp, hkind⟩ := A.2.1
  have g := G i hi
  simp [State.fitsSlot, State.slotType?, hk, hkind]
  simpa using g
theorem kCLONE (X : Sit p l e R s m args below meth c bs own Z EL n0 h0 T h vm0 locs cells slots) {ad : String} {i : Nat} {a : Addr} {k : ClassId} {ty : FieldType} {z : Int32} {vs : List Value} {dv : Value} (w1 : (Cond.methodLink own i ⟨ad, "clone", "()Ljava/lang/Object;"⟩).before a0 Z = true) (w2 : (Cond.sameMethod ad "java/lang/Object" "clone" "()Ljava/lang/Object;").before a0 Z = true) (w3 : (Cond.native ⟨"java/lang/Object", "clone", "()Ljava/lang/Object;"⟩).before a0 Z = true)
    (w4 : (Cond.instanceMethod ⟨"java/lang/Object", "clone", "()Ljava/lang/Object;"⟩).before a0 Z = true) (w5 : (Cond.selects ad ⟨ad, "clone", "()Ljava/lang/Object;"⟩ ⟨"java/lang/Object", "clone", "()Ljava/lang/Object;"⟩).before a0 Z = true) (w6 : (Cond.castable ad "java/lang/Cloneable").before a0 Z = true)
    (f : Arv Z h a k ty z vs dv) (E : Exa Z h a ad) (hsz : Ls.size = c.maxLocals) (hd : decode bs pc = .ok (.invokevirtual i, 3)) (hf : 1 ≤ R.frames) (W cap : Nat) (hW : (st.map fun v => v.category).sum ≤ W) (hl : W + 14 ≤ R.locals) (hcap : z.toNatClampNeg ≤ cap) (hc : cells + 1 ≤ R.cells) (hsl : slots + cap ≤ R.slots)
    (q : ∀ T' h' b, Ext h h' → b = h.size → n0 ≤ b → Arv Z h' b k ty z vs dv → Exa Z h' b ad → Safe Z EL vm0 h' b → Sit p l e R s m args below meth c bs own Z EL n0 h0 T' h' vm0 locs (cells + 1) (slots + cap) → Go p e below F T' (mkF m (pc + 3) Ls (.ref b :: st))) : Go p e below F T (mkF m pc Ls (.ref a :: st)) := by
  obtain ⟨cl, A, q1, S', q3, H, G⟩ := f
  obtain ⟨T', h', Y, e', Ex, A', E', stp⟩ := cloneA X.1 X.hx X.hZ X.hown w1 w2 w3 w4 w5 w6 X.hh A E (own_fitC A H G) (g := mkF m pc Ls (.ref a :: st)) rfl hsz rfl (hb X.hby hd) hf (W := W) (cap := cap) (by show 2 * 0 + _ ≤ _; simpa using hW) hl (by rw [S']; exact hcap) hc hsl
  exact Go.by stp (q T' h' h.size Ex rfl X.n ⟨_, A', q1, S', q3, H, G⟩ E' (Safe.ext Ex X.C.1 (Safe.new (Nat.le_refl _))) (X.mk1 Y e' X.N (CHr.ext Ex X.C.1)))
theorem kSTAT (X : Sit p l e R s m args below meth c bs own Z EL n0 h0 T h vm0 locs cells slots) (hEL : EW Z a0 EL) {i : Nat} {y : MethodName} {rm : Room} {SL : List Addr} {Q : Vm → Option Value → Heap → Vm → Prop} {bytes : ByteArray} {maxL : Nat} {ret : Option FieldType} {argsL rest stk : List Value} (w1 : (Cond.methodLink own i y).before a0 Z = true) (w2 : (Cond.static y).before a0 Z = true) (wz : (Cond.initialized y.cls).before a0 Z = true) (wc : (Cond.code y bytes maxL ret).before a0 Z = true) (hy : y.cls ≠ "java/lang/invoke/MethodHandle" ∧ y.cls ≠ "java/lang/invoke/VarHandle") (M : MetH l Z EL n0 y bytes maxL ret [] rm argsL.toArray h SL Q) (hSL : ∀ x ∈ SL, x < h.size ∧ Safe Z EL vm0 h x) (hlen : ∀ sig, parseMethodDescriptor y.desc = some sig → argsL.length = sig.parameters.length) (hst : stk = argsL.reverse ++ rest) (W : Nat) (hW : (rest.map fun v => v.category).sum = W) (hr : (rm.frames + 1 ≤ R.frames ∧ W + (maxL + 11) + rm.locals ≤ R.locals) ∧ cells + rm.cells ≤ R.cells ∧ slots + rm.slots ≤ R.slots) (hsz : Ls.size = c.maxLocals) (hd : decode bs pc = .ok (.invokestatic i, 3))
    (q : ∀ v T' h' vm1 locs' vs, Q vs v h' vm1 → CHr Z EL vm0 h vs h → CHr Z EL vm0 h vm1 h' → Sit p l e R s m args below meth c bs own Z EL n0 h0 T' h' vm1 locs' (cells + rm.cells) (slots + rm.slots) → Go p e below F T' (mkF m (pc + 3) Ls (v.toList ++ rest))) : Go p e below F T (mkF m pc Ls stk) := by
  obtain ⟨v, vm₁, ⟨U, L, k, n⟩, -, Y, hS1, hgr, ⟨Lc, vs, hQ, hCs, l1, y1, z1, hC⟩, stp⟩ := callSS X.1 X.hx (y := y) X.hown (mvT (s := s.setVm vm0) X.hZ w1) (mvT (s := s.setVm vm0) X.hZ w2) (mvT (s := s.setVm vm0) X.hZ wz) (mvT (s := s.setVm vm0) X.hZ wc) hy (backX (W := W) M X.hZ wc wz hr.1.1 hr.1.2 hEL X.C.1 hSL) (g := mkF m pc Ls stk) rfl hsz (argsL := argsL) (rest := rest) hlen hst (by show 2 * 0 + _ ≤ _; simpa using Nat.le_of_eq hW) (hb X.hby hd) (fun _ _ => ⟨rfl, X.hh, hr.2.1, hr.2.2⟩)
  dsimp only [Pt.U, Pt.locs, Pt.cells, Pt.slots] at Y hS1 hgr l1 y1 z1 stp hQ hC hCs
  subst l1 y1 z1
  obtain ⟨k0, hS, hk⟩ := X.2.2.1
  have hS2 := hS.trans hS1 (Nat.le_trans hk (by rw [← X.hh]; exact hgr))
  exact Go.call stp (q v U U.heap _ _ vs hQ.2 hCs hC (X.mk2 Y rfl hS2 (Nat.le_refl _) (State.Warmed39.trans (t := s.setVm vm0) X.hZ hS1.1) ((hS1.1.alike.findClass _ _).trans X.hown) (Fr.app X.N hQ.1) hC))
theorem kSPEC (X : Sit p l e R s m args below meth c bs own Z EL n0 h0 T h vm0 locs cells slots) (hEL : EW Z a0 EL) {i : Nat} {y : MethodName} {a : Addr} {rm : Room} {SL : List Addr} {Q : Vm → Option Value → Heap → Vm → Prop} {bytes : ByteArray} {maxL : Nat} {argsL rest stk : List Value} (w1 : (Cond.methodLink own i y).before a0 Z = true) (w2 : (Cond.instanceMethod y).before a0 Z = true) (wz : (Cond.initialized y.cls).before a0 Z = true) (wc : (Cond.code y bytes maxL none).before a0 Z = true) (hy1 : y.name = "<init>") (hy : y.cls ≠ "java/lang/invoke/MethodHandle" ∧ y.cls ≠ "java/lang/invoke/VarHandle") (M : MetH l Z EL n0 y bytes maxL none [] rm (.ref a :: argsL).toArray h SL Q) (hSL : ∀ x ∈ SL, x < h.size ∧ Safe Z EL vm0 h x) (hlen : ∀ sig, parseMethodDescriptor y.desc = some sig → argsL.length = sig.parameters.length) (hst : stk = argsL.reverse ++ .ref a :: rest) (W : Nat) (hW : (rest.map fun v => v.category).sum = W) (hr : (rm.frames + 1 ≤ R.frames ∧ W + (maxL + 11) + rm.locals ≤ R.locals) ∧ cells + rm.cells ≤ R.cells ∧ slots + rm.slots ≤ R.slots) (hsz : Ls.size = c.maxLocals) (hd : decode bs pc = .ok (.invokespecial i, 3))
    (q : ∀ v T' h' vm1 locs' vs, Q vs v h' vm1 → CHr Z EL vm0 h vs h → CHr Z EL vm0 h vm1 h' → Sit p l e R s m args below meth c bs own Z EL n0 h0 T' h' vm1 locs' (cells + rm.cells) (slots + rm.slots) → Go p e below F T' (mkF m (pc + 3) Ls (v.toList ++ rest))) : Go p e below F T (mkF m pc Ls stk) := by
  obtain ⟨v, vm₁, ⟨U, L, k, n⟩, -, Y, hS1, hgr, ⟨Lc, vs, hQ, hCs, l1, y1, z1, hC⟩, stp⟩ := X.1.specialBackS X.hx (y := y) hy1 X.hown (mvT (s := s.setVm vm0) X.hZ w1) (mvT (s := s.setVm vm0) X.hZ w2) (mvT (s := s.setVm vm0) X.hZ wc) hy (backX (W := W) M X.hZ wc wz hr.1.1 hr.1.2 hEL X.C.1 hSL) (g := mkF m pc Ls stk) rfl hsz (Steps.refl _) (a := a) (argsL := argsL) (rest := rest) hlen hst (by show 2 * 0 + _ ≤ _; simpa using Nat.le_of_eq hW) (hb X.hby hd) (fun _ _ => ⟨rfl, X.hh, hr.2.1, hr.2.2⟩)
  dsimp only [Pt.U, Pt.locs, Pt.cells, Pt.slots] at Y hS1 hgr l1 y1 z1 stp hQ hC hCs
  subst l1 y1 z1
  obtain ⟨k0, hS, hk⟩ := X.2.2.1
  have hS2 := hS.trans hS1 (Nat.le_trans hk (by rw [← X.hh]; exact hgr))
  exact Go.call stp (q v U U.heap _ _ vs hQ.2 hCs hC (X.mk2 Y rfl hS2 (Nat.le_refl _) (State.Warmed39.trans (t := s.setVm vm0) X.hZ hS1.1) ((hS1.1.alike.findClass _ _).trans X.hown) (Fr.app X.N hQ.1) hC))
theorem kVIRT (X : Sit p l e R s m args below meth c bs own Z EL n0 h0 T h vm0 locs cells slots) (hEL : EW Z a0 EL) {i : Nat} {y z : MethodName} {a : Addr} {C : String} {rm : Room} {SL : List Addr} {Q : Vm → Option Value → Heap → Vm → Prop} {bytes : ByteArray} {maxL : Nat} {ret : Option FieldType} {argsL rest stk : List Value} (w1 : (Cond.methodLink own i y).before a0 Z = true) (w2 : (Cond.declares y).before a0 Z = true) (nf : NotFace (s.setVm vm0) y) (w3 : (Cond.selects C y z).before a0 Z = true) (w4 : (Cond.instanceMethod z).before a0 Z = true) (wz : (Cond.initialized z.cls).before a0 Z = true) (wc : (Cond.code z bytes maxL ret).before a0 Z = true) (hy : y.cls ≠ "java/lang/invoke/MethodHandle" ∧ y.cls ≠ "java/lang/invoke/VarHandle") (E : Exa Z h a C) (M : MetH l Z EL n0 z bytes maxL ret [] rm (.ref a :: argsL).toArray h SL Q) (hSL : ∀ x ∈ SL, x < h.size ∧ Safe Z EL vm0 h x) (hlen : ∀ sig, parseMethodDescriptor y.desc = some sig → argsL.length = sig.parameters.length) (hst : stk = argsL.reverse ++ .ref a :: rest) (W : Nat) (hW : (rest.map fun v => v.category).sum = W) (hr : (rm.frames + 1 ≤ R.frames ∧ W + (maxL + 11) + rm.locals ≤ R.locals) ∧ cells + rm.cells ≤ R.cells ∧ slots + rm.slots ≤ R.slots) (hsz : Ls.size = c.maxLocals) (hd : decode bs pc = .ok (.invokevirtual i, 3))
    (q : ∀ v T' h' vm1 locs' vs, Q vs v h' vm1 → CHr Z EL vm0 h vs h → CHr Z EL vm0 h vm1 h' → Sit p l e R s m args below meth c bs own Z EL n0 h0 T' h' vm1 locs' (cells + rm.cells) (slots + rm.slots) → Go p e below F T' (mkF m (pc + 3) Ls (v.toList ++ rest))) : Go p e below F T (mkF m pc Ls stk) := by
  obtain ⟨cB, kB, qa, qb, qc⟩ := isOf (s := s.setVm vm0) X.hZ X.hh E
  obtain ⟨v, vm₁, ⟨U, L, k, n⟩, -, Y, hS1, hgr, ⟨Lc, vs, hQ, hCs, l1, y1, z1, hC⟩, stp⟩ := X.1.virtualBackS X.hx (y := y) (z := z) X.hown (mvT (s := s.setVm vm0) X.hZ w1) (mvT (s := s.setVm vm0) X.hZ w2) nf (mvT (s := s.setVm vm0) X.hZ w3) (mvT (s := s.setVm vm0) X.hZ w4) hy (backX (W := W) M X.hZ wc wz hr.1.1 hr.1.2 hEL X.C.1 hSL) qa qc (g := mkF m pc Ls stk) rfl hsz (Steps.refl _) (argsL := argsL) (rest := rest) hlen hst (by show 2 * 0 + _ ≤ _; simpa using Nat.le_of_eq hW) (hb X.hby hd) (fun _ _ => ⟨rfl, X.hh, hr.2.1, hr.2.2⟩)
  dsimp only [Pt.U, Pt.locs, Pt.cells, Pt.slots] at Y hS1 hgr l1 y1 z1 stp hQ hC hCs
  subst l1 y1 z1
  obtain ⟨k0, hS, hk⟩ := X.2.2.1
  have hS2 := hS.trans hS1 (Nat.le_trans hk (by rw [← X.hh]; exact hgr))
  exact Go.call stp (q v U U.heap _ _ vs hQ.2 hCs hC (X.mk2 Y rfl hS2 (Nat.le_refl _) (State.Warmed39.trans (t := s.setVm vm0) X.hZ hS1.1) ((hS1.1.alike.findClass _ _).trans X.hown) (Fr.app X.N hQ.1) hC))
theorem kPRIV (X : Sit p l e R s m args below meth c bs own Z EL n0 h0 T h vm0 locs cells slots) (hEL : EW Z a0 EL) {i : Nat} {y : MethodName} {a : Addr} {C : String} {rm : Room} {SL : List Addr} {Q : Vm → Option Value → Heap → Vm → Prop} {bytes : ByteArray} {maxL : Nat} {ret : Option FieldType} {argsL rest stk : List Value} (w1 : (Cond.methodLink own i y).before a0 Z = true) (w2 : (Cond.instanceMethod y).before a0 Z = true) (w3 : (Cond.selects y.cls y y).before a0 Z = true) (w4 : (Cond.privateMethod y).before a0 Z = true) (wz : (Cond.initialized y.cls).before a0 Z = true) (wc : (Cond.code y bytes maxL ret).before a0 Z = true) (hy : y.cls ≠ "java/lang/invoke/MethodHandle" ∧ y.cls ≠ "java/lang/invoke/VarHandle") (E : Exa Z h a C) (M : MetH l Z EL n0 y bytes maxL ret [] rm (.ref a :: argsL).toArray h SL Q) (hSL : ∀ x ∈ SL, x < h.size ∧ Safe Z EL vm0 h x) (hlen : ∀ sig, parseMethodDescriptor y.desc = some sig → argsL.length = sig.parameters.length) (hst : stk = argsL.reverse ++ .ref a :: rest) (W : Nat) (hW : (rest.map fun v => v.category).sum = W) (hr : (rm.frames + 1 ≤ R.frames ∧ W + (maxL + 11) + rm.locals ≤ R.locals) ∧ cells + rm.cells ≤ R.cells ∧ slots + rm.slots ≤ R.slots) (hsz : Ls.size = c.maxLocals) (hd : decode bs pc = .ok (.invokevirtual i, 3))
    (q : ∀ v T' h' vm1 locs' vs, Q vs v h' vm1 → CHr Z EL vm0 h vs h → CHr Z EL vm0 h vm1 h' → Sit p l e R s m args below meth c bs own Z EL n0 h0 T' h' vm1 locs' (cells + rm.cells) (slots + rm.slots) → Go p e below F T' (mkF m (pc + 3) Ls (v.toList ++ rest))) : Go p e below F T (mkF m pc Ls stk) := by
  obtain ⟨cE, hE1, hE2⟩ := Exa.cell E
  obtain ⟨v, vm₁, ⟨U, L, k, n⟩, -, Y, hS1, hgr, ⟨Lc, vs, hQ, hCs, l1, y1, z1, hC⟩, stp⟩ := X.1.privateBackS X.hx (y := y) X.hown (mvT (s := s.setVm vm0) X.hZ w1) (mvT (s := s.setVm vm0) X.hZ w2) (mvT (s := s.setVm vm0) X.hZ w3) (Cond.privateMethod_at (args := args) (mvP (s := s.setVm vm0) X.hZ w4)) (mvT (s := s.setVm vm0) X.hZ wc) hy (backX (W := W) M X.hZ wc wz hr.1.1 hr.1.2 hEL X.C.1 hSL) (g := mkF m pc Ls stk) rfl hsz (Steps.refl _) (a := a) (by rw [X.hh]; exact hE1) hE2 (argsL := argsL) (rest := rest) hlen hst (by show 2 * 0 + _ ≤ _; simpa using Nat.le_of_eq hW) (hb X.hby hd) (fun _ _ => ⟨rfl, X.hh, hr.2.1, hr.2.2⟩)
  dsimp only [Pt.U, Pt.locs, Pt.cells, Pt.slots] at Y hS1 hgr l1 y1 z1 stp hQ hC hCs
  subst l1 y1 z1
  obtain ⟨k0, hS, hk⟩ := X.2.2.1
  have hS2 := hS.trans hS1 (Nat.le_trans hk (by rw [← X.hh]; exact hgr))
  exact Go.call stp (q v U U.heap _ _ vs hQ.2 hCs hC (X.mk2 Y rfl hS2 (Nat.le_refl _) (State.Warmed39.trans (t := s.setVm vm0) X.hZ hS1.1) ((hS1.1.alike.findClass _ _).trans X.hown) (Fr.app X.N hQ.1) hC))
theorem kFACE (X : Sit p l e R s m args below meth c bs own Z EL n0 h0 T h vm0 locs cells slots) (hEL : EW Z a0 EL) {i cnt : Nat} {y z : MethodName} {a : Addr} {C : String} {rm : Room} {SL : List Addr} {Q : Vm → Option Value → Heap → Vm → Prop} {bytes : ByteArray} {maxL : Nat} {ret : Option FieldType} {argsL rest stk : List Value} (w1 : (Cond.methodLink own i y).before a0 Z = true) (w2 : (Cond.declares y).before a0 Z = true) (w3 : (Cond.interfaceMethod y.cls y.cls y.name y.desc).before a0 Z = true) (k3 : ((Cond.interfaceMethod y.cls y.cls y.name y.desc).onTables && (Cond.interfaceMethod y.cls y.cls y.name y.desc).keepsFace) = true) (w4 : (Cond.selects C y z).before a0 Z = true) (w5 : (Cond.instanceMethod z).before a0 Z = true) (w6 : (Cond.publicMethod z).before a0 Z = true) (w7 : (Cond.unhidden C y.name y.desc).before a0 Z = true) (w8 : (Cond.castable C y.cls).before a0 Z = true) (wz : (Cond.initialized z.cls).before a0 Z = true) (wc : (Cond.code z bytes maxL ret).before a0 Z = true) (hy : y.cls ≠ "java/lang/invoke/MethodHandle" ∧ y.cls ≠ "java/lang/invoke/VarHandle") (E : Exa Z h a C) (M : MetH l Z EL n0 z bytes maxL ret [] rm (.ref a :: argsL).toArray h SL Q) (hSL : ∀ x ∈ SL, x < h.size ∧ Safe Z EL vm0 h x) (hlen : ∀ sig, parseMethodDescriptor y.desc = some sig → argsL.length = sig.parameters.length) (hst : stk = argsL.reverse ++ .ref a :: rest) (W : Nat) (hW : (rest.map fun v => v.category).sum = W) (hr : (rm.frames + 1 ≤ R.frames ∧ W + (maxL + 11) + rm.locals ≤ R.locals) ∧ cells + rm.cells ≤ R.cells ∧ slots + rm.slots ≤ R.slots) (hsz : Ls.size = c.maxLocals) (hd : decode bs pc = .ok (.invokeinterface i cnt, 5))
    (q : ∀ v T' h' vm1 locs' vs, Q vs v h' vm1 → CHr Z EL vm0 h vs h → CHr Z EL vm0 h vm1 h' → Sit p l e R s m args below meth c bs own Z EL n0 h0 T' h' vm1 locs' (cells + rm.cells) (slots + rm.slots) → Go p e below F T' (mkF m (pc + 5) Ls (v.toList ++ rest))) : Go p e below F T (mkF m pc Ls stk) := by
  obtain ⟨cB, kB, qa, qb, qc⟩ := isOf (s := s.setVm vm0) X.hZ X.hh E
  obtain ⟨v, vm₁, ⟨U, L, k, n⟩, -, Y, hS1, hgr, ⟨Lc, vs, hQ, hCs, l1, y1, z1, hC⟩, stp⟩ := X.1.interfaceBackS X.hx (xi := y) (y := z) X.hown (mvT (s := s.setVm vm0) X.hZ w1) (mvT (s := s.setVm vm0) X.hZ w2) (mvT (s := s.setVm vm0) X.hZ w3 k3) (mvT (s := s.setVm vm0) X.hZ w4) (mvT (s := s.setVm vm0) X.hZ w5) (mvT (s := s.setVm vm0) X.hZ w6) (mvT (s := s.setVm vm0) X.hZ w7) (mvT (s := s.setVm vm0) X.hZ w8) hy (backX (W := W) M X.hZ wc wz hr.1.1 hr.1.2 hEL X.C.1 hSL) qa qb qc (g := mkF m pc Ls stk) rfl hsz (Steps.refl _) (argsL := argsL) (rest := rest) hlen hst (by show 2 * 0 + _ ≤ _; simpa using Nat.le_of_eq hW) (hb X.hby hd) (fun _ _ => ⟨rfl, X.hh, hr.2.1, hr.2.2⟩)
  dsimp only [Pt.U, Pt.locs, Pt.cells, Pt.slots] at Y hS1 hgr l1 y1 z1 stp hQ hC hCs
  subst l1 y1 z1
  obtain ⟨k0, hS, hk⟩ := X.2.2.1
  have hS2 := hS.trans hS1 (Nat.le_trans hk (by rw [← X.hh]; exact hgr))
  exact Go.call stp (q v U U.heap _ _ vs hQ.2 hCs hC (X.mk2 Y rfl hS2 (Nat.le_refl _) (State.Warmed39.trans (t := s.setVm vm0) X.hZ hS1.1) ((hS1.1.alike.findClass _ _).trans X.hown) (Fr.app X.N hQ.1) hC))
theorem kSUP (X : Sit p l e R s m args below meth c bs own Z EL n0 h0 T h vm0 locs cells slots) (hEL : EW Z a0 EL) {i : Nat} {y : MethodName} {a : Addr} {K : String} {rm : Room} {SL : List Addr} {Q : Vm → Option Value → Heap → Vm → Prop} {bytes : ByteArray} {maxL : Nat} {ret : Option FieldType} {argsL rest stk : List Value} (w1 : (Cond.methodLink own i y).before a0 Z = true) (w2 : (Cond.sameMethod y.cls y.cls y.name y.desc).before a0 Z = true) (w3 : (Cond.instanceMethod y).before a0 Z = true) (w4 : (Cond.superclass own y.cls).before a0 Z = true) (hn : y.name ≠ "<init>") (wz : (Cond.initialized y.cls).before a0 Z = true) (wc : (Cond.code y bytes maxL ret).before a0 Z = true) (E : Ins Z h a K true) (M : MetH l Z EL n0 y bytes maxL ret [] rm (.ref a :: argsL).toArray h SL Q) (hSL : ∀ x ∈ SL, x < h.size ∧ Safe Z EL vm0 h x) (hlen : ∀ sig, parseMethodDescriptor y.desc = some sig → argsL.length = sig.parameters.length) (hst : stk = argsL.reverse ++ .ref a :: rest) (W : Nat) (hW : (rest.map fun v => v.category).sum = W) (hr : (rm.frames + 1 ≤ R.frames ∧ W + (maxL + 11) + rm.locals ≤ R.locals) ∧ cells + rm.cells ≤ R.cells ∧ slots + rm.slots ≤ R.slots) (hsz : Ls.size = c.maxLocals) (hd : decode bs pc = .ok (.invokespecial i, 3))
    (q : ∀ v T' h' vm1 locs' vs, Q vs v h' vm1 → CHr Z EL vm0 h vs h → CHr Z EL vm0 h vm1 h' → Sit p l e R s m args below meth c bs own Z EL n0 h0 T' h' vm1 locs' (cells + rm.cells) (slots + rm.slots) → Go p e below F T' (mkF m (pc + 3) Ls (v.toList ++ rest))) : Go p e below F T (mkF m pc Ls stk) := by
  obtain ⟨v, vm₁, ⟨U, L, k, n⟩, -, Y, hS1, hgr, ⟨Lc, vs, hQ, hCs, l1, y1, z1, hC⟩, stp⟩ := superBackS X.1 X.hx (s := s.setVm vm0) X.hZ X.hown w1 w2 w3 w4 hn (backX (W := W) M X.hZ wc wz hr.1.1 hr.1.2 hEL X.C.1 hSL) X.hh E (g := mkF m pc Ls stk) rfl hsz wc (argsL := argsL) (rest := rest) hlen hst (by show 2 * 0 + _ ≤ _; simpa using Nat.le_of_eq hW) (hb X.hby hd) (fun _ _ => ⟨rfl, X.hh, hr.2.1, hr.2.2⟩)
  dsimp only [Pt.U, Pt.locs, Pt.cells, Pt.slots] at Y hS1 hgr l1 y1 z1 stp hQ hC hCs
  subst l1 y1 z1
  obtain ⟨k0, hS, hk⟩ := X.2.2.1
  have hS2 := hS.trans hS1 (Nat.le_trans hk (by rw [← X.hh]; exact hgr))
  exact Go.call stp (q v U U.heap _ _ vs hQ.2 hCs hC (X.mk2 Y rfl hS2 (Nat.le_refl _) (State.Warmed39.trans (t := s.setVm vm0) X.hZ hS1.1) ((hS1.1.alike.findClass _ _).trans X.hown) (Fr.app X.N hQ.1) hC))
theorem kCPA (X : Sit p l e R s m args below meth c bs own Z EL n0 h0 T h vm0 locs cells slots) {i : Nat} {a b : Addr} {k k' : ClassId} {ty ty' : FieldType} {z z' sp dp nn : Int32} {vs vd us : List Value} {dv dd : Value} (w1 : (Cond.methodLink own i Jvm.Stand.acN).before a0 Z = true) (w2 : (Cond.native Jvm.Stand.acN).before a0 Z = true) (w3 : (Cond.static Jvm.Stand.acN).before a0 Z = true) (w4 : (Cond.initialized "java/lang/System").before a0 Z = true)
    (A : Arv Z h a k ty z vs dv) (B : Arv Z h b k' ty' z' vd dd) (hty : (ty = ty' ∧ refKind ty = false) ∨ (refKind ty = true ∧ refKind ty' = true ∧ StoL Z h b us)) (hi : (¬ sp < 0) ∧ (¬ dp < 0) ∧ (¬ nn < 0) ∧ sp.toNatClampNeg + nn.toNatClampNeg ≤ z.toNatClampNeg ∧ dp.toNatClampNeg + nn.toNatClampNeg ≤ z'.toNatClampNeg)
    (hus : us = (List.range nn.toNatClampNeg).map fun i => vs.getD (sp.toNatClampNeg + i) dv) (hl : dp.toNatClampNeg + nn.toNatClampNeg ≤ vd.length) (ge : n0 ≤ b) (S : Safe Z EL vm0 h b) (hsz : Ls.size = c.maxLocals) (hd : decode bs pc = .ok (.invokestatic i, 3)) (hf : 1 ≤ R.frames) (W : Nat) (hW : (st.map fun v => v.category).sum ≤ W) (hlo : W + (nativeFrameWords "java/lang/System" "arraycopy" 5 + 11) ≤ R.locals)
    (q : ∀ T' h' locs', Keep h h' [b] → CHr Z EL vm0 h vm0 h' → Arv Z h' b k' ty' z' (vd.take dp.toNatClampNeg ++ us ++ vd.drop (dp.toNatClampNeg + nn.toNatClampNeg)) dd → Sit p l e R s m args below meth c bs own Z EL n0 h0 T' h' vm0 locs' cells slots → Go p e below F T' (mkF m (pc + 3) Ls st)) : Go p e below F T (mkF m pc Ls (.int nn :: .int dp :: .ref b :: .int sp :: .ref a :: st)) := by
  obtain ⟨T', h', L, Y, e', N, K, A', stp⟩ := cpA X.1 X.hx X.hZ X.hown w1 w2 w3 w4 X.hh A B hty hi.1 hi.2.1 hi.2.2.1 hi.2.2.2.1 hi.2.2.2.2 hus hl X.N ge (g := mkF m pc Ls (.int nn :: .int dp :: .ref b :: .int sp :: .ref a :: st)) rfl hsz rfl (hb X.hby hd) hf (W := W) (by show 2 * 0 + _ ≤ _; simpa using hW) hlo
  have hC := CHr.keep K (sfS S sf0) X.C.1
  exact Go.by stp (q T' h' L K hC A' (X.mk1 Y e' N hC))
end OwnKit
theorem own_cc {b c : Int32} (h : (b &&& (255 : Int32)) = c) : c.toUInt32.toUInt16.toUInt32.toInt32 = c := by
  subst h; exact i2c_mask _
theorem own_ncc {b c : Int32} (h : (b &&& (255 : Int32)) = c) : nar .char c = c := own_cc h
def ownB (c : Int32) : Int32 := c.toInt8.toInt32
theorem own_nb (c : Int32) : nar .byte (ownB c) = ownB c := by
  simp [nar, ownB]
theorem own_nc {c : Int32} (h1 : ¬ (255 : Int32) < c) (h2 : ¬ c < 0) : nar .char c = c := by
  have e1 : (255 : Int32).toInt = 255 := by decide
  have e2 : (0 : Int32).toInt = 0 := by decide
  rw [Int32.lt_iff_toInt_lt, e1] at h1
  rw [Int32.lt_iff_toInt_lt, e2] at h2
  have q := c_i2c c
  show c.toUInt32.toUInt16.toUInt32.toInt32 = c
  rw [← Int32.toInt_inj]
  omega
theorem own_mask (x : Int32) : ¬ (255 : Int32) < (x &&& (255 : Int32)) ∧ ¬ (x &&& (255 : Int32)) < 0 := by
  have e1 : (255 : Int32).toInt = 255 := by decide
  have e2 : (0 : Int32).toInt = 0 := by decide
  have q := c_and x (255 : Int32) (by decide)
  rw [Int32.lt_iff_toInt_lt, Int32.lt_iff_toInt_lt, e1, e2]
  omega
theorem own_b8 {c : Int32} (h1 : ¬ (255 : Int32) < c) (h2 : ¬ c < 0) : (ownB c).toInt = if c.toInt < 128 then c.toInt else c.toInt - 256 := by
  have e1 : (255 : Int32).toInt = 255 := by decide
  have e2 : (0 : Int32).toInt = 0 := by decide
  rw [Int32.lt_iff_toInt_lt, e1] at h1
  rw [Int32.lt_iff_toInt_lt, e2] at h2
  have q := c_i2b c
  unfold ownB
  split <;> omega
theorem own_rt {c : Int32} (h1 : ¬ (255 : Int32) < c) (h2 : ¬ c < 0) : (ownB c &&& (255 : Int32)) = c := by
  have q := own_b8 h1 h2
  have e1 : (255 : Int32).toInt = 255 := by decide
  have e2 : (0 : Int32).toInt = 0 := by decide
  rw [Int32.lt_iff_toInt_lt, e1] at h1
  rw [Int32.lt_iff_toInt_lt, e2] at h2
  have m := c_mask (ownB c) (255 : Int32) 8 (by decide) (by decide)
  rw [← Int32.toInt_inj, m, q]
  split <;> omega
theorem own_and3 (i : Int32) : i &&& (3 : Int32) = 0 ∨ i &&& (3 : Int32) = 1 ∨ i &&& (3 : Int32) = 2 ∨ i &&& (3 : Int32) = 3 := by
  have h1 := c_and i (3 : Int32) (by decide)
  have e3 : (3 : Int32).toInt = 3 := by decide
  have e2 : (2 : Int32).toInt = 2 := by decide
  have e1 : (1 : Int32).toInt = 1 := by decide
  have e0 : (0 : Int32).toInt = 0 := by decide
  rw [← Int32.toInt_inj, ← Int32.toInt_inj, ← Int32.toInt_inj, ← Int32.toInt_inj, e0, e1, e2]
  omega
theorem own_m3 (i : Int32) : (i &&& (255 : Int32)) % (3 : Int32) = 0 ∨ (i &&& (255 : Int32)) % (3 : Int32) = 1 ∨ (i &&& (255 : Int32)) % (3 : Int32) = 2 := by
  have h1 := (c_and i (255 : Int32) (by decide)).1
  have h2 := (c_irem (i &&& (255 : Int32)) 3 3 (by decide)).1 h1
  have e2 : (2 : Int32).toInt = 2 := by decide
  have e1 : (1 : Int32).toInt = 1 := by decide
  have e0 : (0 : Int32).toInt = 0 := by decide
  rw [← Int32.toInt_inj, ← Int32.toInt_inj, ← Int32.toInt_inj, e0, e1, e2]
  omega
def EL0 : List (String × Nat) := [("java/lang/String", 7), ("com/example/tight_calculus/tightcalculus/Report", 161)]
def Glob (Z : State) (a0 : Array Value) (iCS : Int32) (vSI : Value) : Prop := (∀ d ∈ tables_1, d.before a0 Z = true) ∧ EW Z a0 EL0 ∧ (∀ a ∈ Bundle.stringAtoms, a.before a0 Z = true) ∧ (Sta Z Z.heap "java/lang/String" "COMPACT_STRINGS" "Z" (.int iCS)) ∧ (¬ iCS = 0) ∧ (Sta Z Z.heap "jdk/internal/util/Preconditions" "SIOOBE_FORMATTER" "Ljava/util/function/BiFunction;" vSI) ∧ (vSI.isRef = true)
section OwnGlob
variable {Z : State} {a0 : Array Value} {iCS : Int32} {vSI : Value}
theorem wd (G : Glob Z a0 iCS vSI) (k : Nat) {d : Jvm.Cond} (h : tables_1[k]? = some d) : d.before a0 Z = true := G.1 d (List.mem_of_getElem? h)
theorem gEL (G : Glob Z a0 iCS vSI) : EW Z a0 EL0 := G.2.1
theorem gSA (G : Glob Z a0 iCS vSI) : ∀ a ∈ Bundle.stringAtoms, a.before a0 Z = true := G.2.2.1
theorem S_CS (G : Glob Z a0 iCS vSI) : Sta Z Z.heap "java/lang/String" "COMPACT_STRINGS" "Z" (.int iCS) := G.2.2.2.1
theorem n_CS (G : Glob Z a0 iCS vSI) : ¬ iCS = 0 := G.2.2.2.2.1
theorem S_SI (G : Glob Z a0 iCS vSI) : Sta Z Z.heap "jdk/internal/util/Preconditions" "SIOOBE_FORMATTER" "Ljava/util/function/BiFunction;" vSI := G.2.2.2.2.2.1
theorem r_SI (G : Glob Z a0 iCS vSI) : vSI.isRef = true := G.2.2.2.2.2.2
end OwnGlob
section OwnC
variable {l : Launch} {Z : State} {a0 : Array Value} {n0 : Nat} {iCS : Int32} {vSI : Value}
theorem pn_com_example_tight_calculus_tightcalculus_ReportWordsPinLaw : plainName "com/example/tight_calculus/tightcalculus/ReportWordsPinLaw" = true := by first | (simp [plainName, overriddenIn]; done) | decide +kernel
theorem d0_0 : decode method_3_code 0 = .ok (.iload_n 1, 1) := by decide +kernel
theorem d0_1 : decode method_3_code 1 = .ok (.bipush 8, 2) := by decide +kernel
theorem d0_3 : decode method_3_code 3 = .ok (.iushr, 1) := by decide +kernel
theorem d0_4 : decode method_3_code 4 = .ok (.sipush 255, 3) := by decide +kernel
theorem d0_7 : decode method_3_code 7 = .ok (.iand, 1) := by decide +kernel
theorem d0_8 : decode method_3_code 8 = .ok (.i2c, 1) := by decide +kernel
theorem d0_9 : decode method_3_code 9 = .ok (.istore_n 2, 1) := by decide +kernel
theorem d0_10 : decode method_3_code 10 = .ok (.iload_n 1, 1) := by decide +kernel
theorem d0_11 : decode method_3_code 11 = .ok (.bipush 16, 2) := by decide +kernel
theorem d0_13 : decode method_3_code 13 = .ok (.iushr, 1) := by decide +kernel
theorem d0_14 : decode method_3_code 14 = .ok (.sipush 255, 3) := by decide +kernel
theorem d0_17 : decode method_3_code 17 = .ok (.iand, 1) := by decide +kernel
theorem d0_18 : decode method_3_code 18 = .ok (.i2c, 1) := by decide +kernel
theorem d0_19 : decode method_3_code 19 = .ok (.istore_n 3, 1) := by decide +kernel
theorem d0_20 : decode method_3_code 20 = .ok (.iload_n 0, 1) := by decide +kernel
theorem d0_21 : decode method_3_code 21 = .ok (.ifCond .ne 11, 3) := by decide +kernel
theorem d0_24 : decode method_3_code 24 = .ok (.iconst 0, 1) := by decide +kernel
theorem d0_25 : decode method_3_code 25 = .ok (.newarray .char, 2) := by decide +kernel
theorem d0_27 : decode method_3_code 27 = .ok (.astore 4, 2) := by decide +kernel
theorem d0_29 : decode method_3_code 29 = .ok (.goto 33, 3) := by decide +kernel
theorem d0_62 : decode method_3_code 62 = .ok (.aload 4, 2) := by decide +kernel
theorem d0_64 : decode method_3_code 64 = .ok (.areturn, 1) := by decide +kernel
def N_m_3 : MethodName := ⟨"com/example/tight_calculus/tightcalculus/ReportWordsPinLaw", "chars", "(II)[C"⟩
def R_rm1 : Room := { frames := 0, cells := 1, slots := 0, locals := 0 }
theorem rm1 (G : Glob Z a0 iCS vSI) (i0 : Int32) (h0 : Heap) (Z0 : n0 ≤ h0.size) (O0 : Old Z n0 h0)  : MetH l Z EL0 n0 N_m_3 method_3_code 5 (some (.array (.char))) [] R_rm1 #[.int 0, .int i0] h0 [] (fun vs v h ve => (∃ (x0 : Addr), ∃ (z0 : ClassId), v = some (.ref x0) ∧ (Keep h0 h []) ∧ (h0.size ≤ x0) ∧ (Arv Z h x0 z0 .char 0 [] (.int 0)))) := by
  refine MetH.of #[.val (.int 0), .val (.int i0), .unset, .unset, .unset] (plainFor_of_name pn_com_example_tight_calculus_tightcalculus_ReportWordsPinLaw) rfl Z0 (fun p e s m below meth c T0 hret hml hnm hSL hs0 X0 => ?_)
  refine kILn X0 d0_0 rfl ?_
  refine kBI X0 8 d0_1 (by decide) ?_
  refine kIUSHR X0 (XT.ushr i0 (8 : Int32)) d0_3 rfl ?_
  refine kSI X0 255 d0_4 (by decide) ?_
  refine kIAND X0 ((XT.ushr i0 (8 : Int32)) &&& (255 : Int32)) d0_7 rfl ?_
  refine kI2C X0 ((XT.ushr i0 (8 : Int32)) &&& (255 : Int32)) d0_8 (i2c_mask _) ?_
  refine kISn X0 #[.val (.int 0), .val (.int i0), .val (.int ((XT.ushr i0 (8 : Int32)) &&& (255 : Int32))), .unset, .unset] d0_9 rfl ?_
  refine kILn X0 d0_10 rfl ?_
  refine kBI X0 16 d0_11 (by decide) ?_
  refine kIUSHR X0 (XT.ushr i0 (16 : Int32)) d0_13 rfl ?_
  refine kSI X0 255 d0_14 (by decide) ?_
  refine kIAND X0 ((XT.ushr i0 (16 : Int32)) &&& (255 : Int32)) d0_17 rfl ?_
  refine kI2C X0 ((XT.ushr i0 (16 : Int32)) &&& (255 : Int32)) d0_18 (i2c_mask _) ?_
  refine kISn X0 #[.val (.int 0), .val (.int i0), .val (.int ((XT.ushr i0 (8 : Int32)) &&& (255 : Int32))), .val (.int ((XT.ushr i0 (16 : Int32)) &&& (255 : Int32))), .unset] d0_19 rfl ?_
  refine kILn X0 d0_20 rfl ?_
  refine kIFf X0 d0_21 (XT.i0_ne_f (by decide)) ?_
  refine kIC X0 0 d0_24 (by decide) ?_
  refine kNEWP X0 (wd G 4 rfl) (cap := 0) d0_25 (by decide) (by decide) (by decide) (by decide) (by decide) (fun T1 h2 a4 k5 E6 q7 g8 A9 s10 X3 => ?_)
  have g11 : h0.size ≤ a4 := q7 ▸ X0.g0
  have f12 : Arv Z h2 a4 k5 .char 0 [] (.int 0) := A9.pad (pad_rep [] _ 0)
  refine kAS X3 #[.val (.int 0), .val (.int i0), .val (.int ((XT.ushr i0 (8 : Int32)) &&& (255 : Int32))), .val (.int ((XT.ushr i0 (16 : Int32)) &&& (255 : Int32))), .val (.ref a4)] d0_27 rfl rfl ?_
  refine kGOTO X3 62 d0_29 (by decide) ?_
  refine kAL X3 d0_62 rfl rfl ?_
  have K13 : Keep h0 h2 [] := (Keep.ext (Keep.refl h0 []) E6)
  exact kRETA X3 (gEL G) hret rfl rfl d0_64 (fun ve hve => ⟨a4, k5, rfl, K13, g11, f12⟩) (by decide)
theorem pn_java_lang_String : plainName "java/lang/String" = true := by first | (simp [plainName, overriddenIn]; done) | decide +kernel
theorem pd__II__C : parseMethodDescriptor "(II)[C" = some ⟨[.int, .int], some (.array (.char))⟩ := by decide +kernel
theorem d1_0 : decode jdk_42_method_3_code 0 = .ok (.aload_n 0, 1) := by decide +kernel
theorem d1_1 : decode jdk_42_method_3_code 1 = .ok (.aload_n 1, 1) := by decide +kernel
theorem d1_2 : decode jdk_42_method_3_code 2 = .ok (.iconst 0, 1) := by decide +kernel
theorem d1_3 : decode jdk_42_method_3_code 3 = .ok (.aload_n 1, 1) := by decide +kernel
theorem d1_4 : decode jdk_42_method_3_code 4 = .ok (.arraylength, 1) := by decide +kernel
theorem d1_5 : decode jdk_42_method_3_code 5 = .ok (.aconst_null, 1) := by decide +kernel
theorem d1_6 : decode jdk_42_method_3_code 6 = .ok (.invokespecial 27, 3) := by decide +kernel
theorem d2_0 : decode jdk_42_method_149_code 0 = .ok (.aload_n 0, 1) := by decide +kernel
theorem d2_1 : decode jdk_42_method_149_code 1 = .ok (.invokespecial 1, 3) := by decide +kernel
theorem d2_4 : decode jdk_42_method_149_code 4 = .ok (.iload_n 3, 1) := by decide +kernel
theorem d2_5 : decode jdk_42_method_149_code 5 = .ok (.ifCond .ne 22, 3) := by decide +kernel
theorem d2_8 : decode jdk_42_method_149_code 8 = .ok (.aload_n 0, 1) := by decide +kernel
theorem d2_9 : decode jdk_42_method_149_code 9 = .ok (.ldc 7, 2) := by decide +kernel
theorem d2_11 : decode jdk_42_method_149_code 11 = .ok (.getfield 9, 3) := by decide +kernel
theorem d2_14 : decode jdk_42_method_149_code 14 = .ok (.putfield 9, 3) := by decide +kernel
theorem d2_17 : decode jdk_42_method_149_code 17 = .ok (.aload_n 0, 1) := by decide +kernel
theorem d2_18 : decode jdk_42_method_149_code 18 = .ok (.ldc 7, 2) := by decide +kernel
theorem d2_20 : decode jdk_42_method_149_code 20 = .ok (.getfield 15, 3) := by decide +kernel
theorem d2_23 : decode jdk_42_method_149_code 23 = .ok (.putfield 15, 3) := by decide +kernel
theorem d2_26 : decode jdk_42_method_149_code 26 = .ok (.return_, 1) := by decide +kernel
def N_jdk_42_m_149 : MethodName := ⟨"java/lang/String", "<init>", "([CIILjava/lang/Void;)V"⟩
def R_rm3 : Room := { frames := 1, cells := 4, slots := 8, locals := 12 }
theorem rm3 (G : Glob Z a0 iCS vSI) (q0 q1 : Addr) (kp0 : ClassId) (h0 : Heap) (Z0 : n0 ≤ h0.size) (O0 : Old Z n0 h0) (E_q0 : Exa Z h0 q0 "java/lang/String") (A_q1 : Arv Z h0 q1 kp0 .char 0 [] (.int 0)) (F_q0_value : Fld Z h0 q0 "java/lang/String" "value" "[B" (.null)) (d_q1_q0 : q1 ≠ q0) (F_q0_coder : Fld Z h0 q0 "java/lang/String" "coder" "B" (.int 0)) (g_q0 : n0 ≤ q0) : MetH l Z EL0 n0 N_jdk_42_m_149 jdk_42_method_149_code 6 none [] R_rm3 #[.ref q0, .ref q1, .int 0, .int 0, .null] h0 [q0] (fun vs v h ve => (∃ (x0 : Addr), ∃ (z0 : ClassId), v = none ∧ (Keep h0 h [q0]) ∧ (∀ x, x < h0.size → Safe Z EL0 vs h0 x → x ≠ x0) ∧ (Arv Z h x0 z0 .byte 0 [] (.int 0)) ∧ (Fld Z h q0 "java/lang/String" "coder" "B" (.int 0)) ∧ (Fld Z h q0 "java/lang/String" "value" "[B" (.ref x0)))) := by
  refine MetH.of #[.val (.ref q0), .val (.ref q1), .val (.int 0), .val (.int 0), .val .null, .unset] (plainFor_of_name pn_java_lang_String) rfl Z0 (fun p e s m below meth c T0 hret hml hnm hSL hs0 X0 => ?_)
  have S_q0 := hSL q0 (List.mem_of_getElem? (i := 0) rfl)
  refine kALn X0 d2_0 rfl rfl ?_
  refine kINIT X0 (wd G 15 rfl) (wd G 16 rfl) (wd G 17 rfl) hml.symm d2_1 (by decide) 0 (Nat.le_of_eq rfl) (by decide) (fun T1 X2 => ?_)
  refine kILn X2 d2_4 rfl ?_
  refine kIFf X2 d2_5 (XT.i0_ne_f (by decide)) ?_
  refine kALn X2 d2_8 rfl rfl ?_
  refine kLDCT X2 (gEL G) (wd G 18 rfl) (gSA G) (by decide) (text := "") (vs := []) (z := 0) (by decide) (by decide) (by decide) d2_9 (n := 0) (by decide) (by decide) (by decide) (by decide) (fun T3 h4 vm6 a7 b8 k9 E10 C11 f12 f13 f14 f15 n16 X5 => ?_)
  have f17 := (CHr.safe C11 (E_q0.lt) S_q0)
  have n18 := (n16 q0 f17).1
  have n19 := (n16 q0 f17).2
  have f20 := (Arv.ext A_q1 E10)
  have n21 := (n16 q1 (Safe.arv X5.hZ.alike f20 (by decide))).1
  have n22 := (n16 q1 (Safe.arv X5.hZ.alike f20 (by decide))).2
  have n23 : ∀ x, x < h0.size → Safe Z EL0 s.vm h0 x → x ≠ b8 := fun x hx S => (n16 x (CHr.safe (hs0 ▸ X5.C) hx S)).2
  refine kGETF X5 (wd G 24 rfl) Via.refl f14 d2_11 (fun T24 X25 => ?_)
  have f26 := (Fld.ext E10 F_q0_value)
  have f27 := (Exa.ext E10 E_q0)
  refine kPUTF X25 (wd G 24 rfl) Via.refl f26 f27 (Or.inr ⟨(wd G 20 rfl), rfl, hnm⟩) (wd G 6 rfl) (ty := (.array (.byte))) (by decide) rfl rfl g_q0 f17 d2_14 (fun T28 h29 L32 W31 X30 => ?_)
  have f33 := Fld.same W31 f26
  refine kALn X30 d2_17 rfl rfl ?_
  refine kLDCT X30 (gEL G) (wd G 18 rfl) (gSA G) (by decide) (text := "") (vs := []) (z := 0) (by decide) (by decide) (by decide) d2_18 (n := 0) (by decide) (by decide) (by decide) (by decide) (fun T34 h35 vm37 a38 b39 k40 E41 C42 f43 f44 f45 f46 n47 X36 => ?_)
  have f48 := (CHr.safe C42 (f33.lt) (Safe.wr W31 f17 X25.C.1 f17))
  have n49 := (n47 q0 f48).1
  have n50 := (n47 q0 f48).2
  have f51 := (Arv.ext (Arv.other f20 W31 d_q1_q0) E41)
  have n52 := (n47 q1 (Safe.arv X36.hZ.alike f51 (by decide))).1
  have n53 := (n47 q1 (Safe.arv X36.hZ.alike f51 (by decide))).2
  have n54 : ∀ x, x < h0.size → Safe Z EL0 s.vm h0 x → x ≠ b39 := fun x hx S => (n47 x (CHr.safe (hs0 ▸ X36.C) hx S)).2
  refine kGETF X36 (wd G 25 rfl) Via.refl f44 d2_20 (fun T55 X56 => ?_)
  have f57 := (Fld.ext E41 (Fld.other W31 (Fld.ext E10 F_q0_coder) (Or.inr (slot_ne (Or.inr (wd G 21 rfl)) (Or.inr (wd G 20 rfl)) (by decide) (by decide : parseFieldDescriptor "B" = some .byte) (by decide : parseFieldDescriptor "[B" = some (.array (.byte)))))))
  have f58 := (Exa.ext E41 (Exa.wr W31 f27))
  refine kPUTF X56 (wd G 25 rfl) Via.refl f57 f58 (Or.inr ⟨(wd G 21 rfl), rfl, hnm⟩) (wd G 6 rfl) (ty := .byte) (by decide) (by decide) (by decide) g_q0 f48 d2_23 (fun T59 h60 L63 W62 X61 => ?_)
  have f64 := Fld.same W62 f57
  have K65 : Keep h0 h60 [q0] := (Keep.wr (Keep.ext (Keep.wr (Keep.ext (Keep.refl h0 [q0]) E10) W31 (Or.inl (List.mem_of_getElem? (i := 0) rfl))) E41) W62 (Or.inl (List.mem_of_getElem? (i := 0) rfl)))
  have f66 := (Arv.other (Arv.ext (Arv.other f15 W31 (Ne.symm n19)) E41) W62 (Ne.symm n19))
  have f67 := (Fld.other W62 (Fld.ext E41 f33) (Or.inr (slot_ne (Or.inr (wd G 20 rfl)) (Or.inr (wd G 21 rfl)) (by decide) (by decide : parseFieldDescriptor "[B" = some (.array (.byte))) (by decide : parseFieldDescriptor "B" = some .byte))))
  exact kRETV X61 (gEL G) hret d2_26 (fun ve hve => ⟨b8, k9, rfl, K65, n23, f66, f64, f67⟩) (by decide)
theorem pd___CIILjava_lang_Void__V : parseMethodDescriptor "([CIILjava/lang/Void;)V" = some ⟨[.array (.char), .int, .int, .object "java/lang/Void"], none⟩ := by decide +kernel
theorem d1_9 : decode jdk_42_method_3_code 9 = .ok (.return_, 1) := by decide +kernel
def N_jdk_42_m_3 : MethodName := ⟨"java/lang/String", "<init>", "([C)V"⟩
def R_rm2 : Room := { frames := 2, cells := 4, slots := 8, locals := 29 }
theorem rm2 (G : Glob Z a0 iCS vSI) (q0 q1 : Addr) (kp0 : ClassId) (h0 : Heap) (Z0 : n0 ≤ h0.size) (O0 : Old Z n0 h0) (A_q1 : Arv Z h0 q1 kp0 .char 0 [] (.int 0)) (E_q0 : Exa Z h0 q0 "java/lang/String") (F_q0_value : Fld Z h0 q0 "java/lang/String" "value" "[B" (.null)) (d_q1_q0 : q1 ≠ q0) (F_q0_coder : Fld Z h0 q0 "java/lang/String" "coder" "B" (.int 0)) (g_q0 : n0 ≤ q0) : MetH l Z EL0 n0 N_jdk_42_m_3 jdk_42_method_3_code 2 none [] R_rm2 #[.ref q0, .ref q1] h0 [q0] (fun vs v h ve => (∃ (x0 : Addr), ∃ (z0 : ClassId), v = none ∧ (Keep h0 h [q0]) ∧ (∀ x, x < h0.size → Safe Z EL0 vs h0 x → x ≠ x0) ∧ (Arv Z h x0 z0 .byte 0 [] (.int 0)) ∧ (Fld Z h q0 "java/lang/String" "coder" "B" (.int 0)) ∧ (Fld Z h q0 "java/lang/String" "value" "[B" (.ref x0)))) := by
  refine MetH.of #[.val (.ref q0), .val (.ref q1)] (plainFor_of_name pn_java_lang_String) rfl Z0 (fun p e s m below meth c T0 hret hml hnm hSL hs0 X0 => ?_)
  have S_q0 := hSL q0 (List.mem_of_getElem? (i := 0) rfl)
  refine kALn X0 d1_0 rfl rfl ?_
  refine kALn X0 d1_1 rfl rfl ?_
  refine kIC X0 0 d1_2 (by decide) ?_
  refine kALn X0 d1_3 rfl rfl ?_
  refine kLEN X0 A_q1 d1_4 ?_
  refine kNULL X0 d1_5 ?_
  refine kSPEC X0 (gEL G) (argsL := [.ref q1, .int 0, .int 0, .null]) (rest := []) (wd G 11 rfl) (wd G 12 rfl) (wd G 7 rfl) (wd G 14 rfl) rfl (by decide) (rm3 G q0 q1 kp0 h0 X0.n O0 E_q0 A_q1 F_q0_value d_q1_q0 F_q0_coder g_q0) (allS ⟨(E_q0.lt), S_q0⟩ all0) (lenOf pd___CIILjava_lang_Void__V rfl) rfl 0 rfl (by decide) hml.symm d1_6 (fun v1 T2 h3 vm4 _ w5 q6 C7 C8 X9 => ?_)
  obtain ⟨a11, k12, e13, f14, f15, f16, f17, f18⟩ := q6
  subst e13
  have n19 : q0 ≠ a11 := f15 q0 (E_q0.lt) (CHr.safe C7 (E_q0.lt) S_q0)
  have n20 : q1 ≠ a11 := f15 q1 (A_q1.lt) (CHr.safe C7 (A_q1.lt) (Safe.arv X0.hZ.alike A_q1 (by decide)))
  have n21 : ∀ x, x < h0.size → Safe Z EL0 s.vm h0 x → x ≠ a11 := fun x hx S => f15 x (Nat.lt_of_lt_of_le hx X0.g0) (CHr.safe C7 (Nat.lt_of_lt_of_le hx X0.g0) (CHr.safe (hs0 ▸ X0.C) hx S))
  show Go _ _ _ _ _ (mkF _ _ _ [])
  have K22 : Keep h0 h3 [q0] := (Keep.trans (Keep.refl h0 [q0]) f14 (allS (Or.inl (List.mem_of_getElem? (i := 0) rfl)) all0))
  exact kRETV X9 (gEL G) hret d1_9 (fun ve hve => ⟨a11, k12, rfl, K22, n21, f16, f17, f18⟩) (by decide)
theorem pd___C_V : parseMethodDescriptor "([C)V" = some ⟨[.array (.char)], none⟩ := by decide +kernel
theorem d4_0 : decode prog_30_method_3_code 0 = .ok (.aload_n 0, 1) := by decide +kernel
theorem d4_1 : decode prog_30_method_3_code 1 = .ok (.invokevirtual 158, 3) := by decide +kernel
theorem d5_0 : decode jdk_42_method_55_code 0 = .ok (.aload_n 0, 1) := by decide +kernel
theorem d5_1 : decode jdk_42_method_55_code 1 = .ok (.getfield 9, 3) := by decide +kernel
theorem d5_4 : decode jdk_42_method_55_code 4 = .ok (.arraylength, 1) := by decide +kernel
theorem d5_5 : decode jdk_42_method_55_code 5 = .ok (.ifCond .ne 7, 3) := by decide +kernel
theorem d5_8 : decode jdk_42_method_55_code 8 = .ok (.iconst 1, 1) := by decide +kernel
theorem d5_9 : decode jdk_42_method_55_code 9 = .ok (.goto 4, 3) := by decide +kernel
theorem d5_13 : decode jdk_42_method_55_code 13 = .ok (.ireturn, 1) := by decide +kernel
def N_jdk_42_m_55 : MethodName := ⟨"java/lang/String", "isEmpty", "()Z"⟩
def R_rm5 : Room := { frames := 0, cells := 0, slots := 0, locals := 0 }
theorem rm5 (G : Glob Z a0 iCS vSI) (q0 q1 : Addr) (kp0 : ClassId) (h0 : Heap) (Z0 : n0 ≤ h0.size) (O0 : Old Z n0 h0) (F_q0_value : Fld Z h0 q0 "java/lang/String" "value" "[B" (.ref q1)) (A_q1 : Arv Z h0 q1 kp0 .byte 0 [] (.int 0)) : MetH l Z EL0 n0 N_jdk_42_m_55 jdk_42_method_55_code 1 (some .boolean) [] R_rm5 #[.ref q0] h0 [] (fun vs v h ve => (v = some (.int 1) ∧ (h0 = h))) := by
  refine MetH.of #[.val (.ref q0)] (plainFor_of_name pn_java_lang_String) rfl Z0 (fun p e s m below meth c T0 hret hml hnm hSL hs0 X0 => ?_)
  refine kALn X0 d5_0 rfl rfl ?_
  refine kGETF X0 (wd G 24 rfl) Via.refl F_q0_value d5_1 (fun T1 X2 => ?_)
  refine kLEN X2 A_q1 d5_4 ?_
  refine kIFf X2 d5_5 (XT.i0_ne_f (by decide)) ?_
  refine kIC X2 1 d5_8 (by decide) ?_
  refine kGOTO X2 13 d5_9 (by decide) ?_
  exact kRETZ X2 (gEL G) (t := .boolean) hret (by simp) d5_13 (fun ve hve => ⟨rfl, rfl⟩) (by decide)
theorem pn_com_example_tight_calculus_tightcalculus_Report : plainName "com/example/tight_calculus/tightcalculus/Report" = true := by first | (simp [plainName, overriddenIn]; done) | decide +kernel
theorem pd___Z : parseMethodDescriptor "()Z" = some ⟨[], some .boolean⟩ := by decide +kernel
theorem d4_4 : decode prog_30_method_3_code 4 = .ok (.ifCond .eq 8, 3) := by decide +kernel
theorem d4_7 : decode prog_30_method_3_code 7 = .ok (.aload_n 1, 1) := by decide +kernel
theorem d4_8 : decode prog_30_method_3_code 8 = .ok (.astore_n 2, 1) := by decide +kernel
theorem d4_9 : decode prog_30_method_3_code 9 = .ok (.goto 39, 3) := by decide +kernel
theorem d4_48 : decode prog_30_method_3_code 48 = .ok (.aload_n 2, 1) := by decide +kernel
theorem d4_49 : decode prog_30_method_3_code 49 = .ok (.areturn, 1) := by decide +kernel
def N_prog_30_m_3 : MethodName := ⟨"com/example/tight_calculus/tightcalculus/Report", "words", "(Ljava/lang/String;Ljava/lang/String;)Ljava/lang/String;"⟩
def R_rm4 : Room := { frames := 1, cells := 0, slots := 0, locals := 12 }
theorem rm4 (G : Glob Z a0 iCS vSI) (q0 q1 q2 q3 : Addr) (kp0 kp1 : ClassId) (h0 : Heap) (Z0 : n0 ≤ h0.size) (O0 : Old Z n0 h0) (F_q0_value : Fld Z h0 q0 "java/lang/String" "value" "[B" (.ref q2)) (A_q2 : Arv Z h0 q2 kp0 .byte 0 [] (.int 0)) (E_q0 : Exa Z h0 q0 "java/lang/String") : MetH l Z EL0 n0 N_prog_30_m_3 prog_30_method_3_code 3 (some (.object "java/lang/String")) [] R_rm4 #[.ref q0, .ref q1] h0 [] (fun vs v h ve => (v = some (.ref q1) ∧ (h0 = h))) := by
  refine MetH.of #[.val (.ref q0), .val (.ref q1), .unset] (plainFor_of_name pn_com_example_tight_calculus_tightcalculus_Report) rfl Z0 (fun p e s m below meth c T0 hret hml hnm hSL hs0 X0 => ?_)
  refine kALn X0 d4_0 rfl rfl ?_
  refine kVIRT X0 (gEL G) (argsL := []) (rest := []) (wd G 30 rfl) (wd G 31 rfl) (own_nf X0.hZ (own_noinst (wd G 6 rfl))) (wd G 33 rfl) (wd G 32 rfl) (wd G 7 rfl) (wd G 34 rfl) (by decide) E_q0 (rm5 G q0 q2 kp0 h0 X0.n O0 F_q0_value A_q2) all0 (lenOf pd___Z rfl) rfl 0 rfl (by decide) hml.symm d4_1 (fun v1 T2 h3 vm4 _ w5 q6 C7 C8 X9 => ?_)
  obtain ⟨e11, f12⟩ := q6
  subst e11
  subst f12
  show Go _ _ _ _ _ (mkF _ _ _ [.int 1])
  refine kIFf X9 d4_4 (XT.i0_eq_f (by decide)) ?_
  refine kALn X9 d4_7 rfl rfl ?_
  refine kASn X9 #[.val (.ref q0), .val (.ref q1), .val (.ref q1)] d4_8 rfl rfl ?_
  refine kGOTO X9 48 d4_9 (by decide) ?_
  refine kALn X9 d4_48 rfl rfl ?_
  exact kRETA X9 (gEL G) hret rfl rfl d4_49 (fun ve hve => ⟨rfl, rfl⟩) (by decide)
theorem pd__Ljava_lang_String_Ljava_lang_String__Ljava_lang_String_ : parseMethodDescriptor "(Ljava/lang/String;Ljava/lang/String;)Ljava/lang/String;" = some ⟨[.object "java/lang/String", .object "java/lang/String"], some (.object "java/lang/String")⟩ := by decide +kernel
theorem d6_0 : decode jdk_42_method_54_code 0 = .ok (.aload_n 0, 1) := by decide +kernel
theorem d6_1 : decode jdk_42_method_54_code 1 = .ok (.getfield 9, 3) := by decide +kernel
theorem d6_4 : decode jdk_42_method_54_code 4 = .ok (.arraylength, 1) := by decide +kernel
theorem d6_5 : decode jdk_42_method_54_code 5 = .ok (.aload_n 0, 1) := by decide +kernel
theorem d6_6 : decode jdk_42_method_54_code 6 = .ok (.invokevirtual 335, 3) := by decide +kernel
theorem d7_0 : decode jdk_42_method_152_code 0 = .ok (.getstatic 38, 3) := by decide +kernel
theorem d7_3 : decode jdk_42_method_152_code 3 = .ok (.ifCond .eq 10, 3) := by decide +kernel
theorem d7_6 : decode jdk_42_method_152_code 6 = .ok (.aload_n 0, 1) := by decide +kernel
theorem d7_7 : decode jdk_42_method_152_code 7 = .ok (.getfield 15, 3) := by decide +kernel
theorem d7_10 : decode jdk_42_method_152_code 10 = .ok (.goto 4, 3) := by decide +kernel
theorem d7_14 : decode jdk_42_method_152_code 14 = .ok (.ireturn, 1) := by decide +kernel
def N_jdk_42_m_152 : MethodName := ⟨"java/lang/String", "coder", "()B"⟩
def R_rm7 : Room := { frames := 0, cells := 0, slots := 0, locals := 0 }
theorem rm7 (G : Glob Z a0 iCS vSI) (q0 q1 : Addr) (kp0 : ClassId) (h0 : Heap) (Z0 : n0 ≤ h0.size) (O0 : Old Z n0 h0) (F_q0_coder : Fld Z h0 q0 "java/lang/String" "coder" "B" (.int 0)) : MetH l Z EL0 n0 N_jdk_42_m_152 jdk_42_method_152_code 1 (some .byte) [] R_rm7 #[.ref q0] h0 [] (fun vs v h ve => (v = some (.int 0) ∧ (h0 = h))) := by
  refine MetH.of #[.val (.ref q0)] (plainFor_of_name pn_java_lang_String) rfl Z0 (fun p e s m below meth c T0 hret hml hnm hSL hs0 X0 => ?_)
  refine kGETS X0 (wd G 45 rfl) Via.refl (Sta.ext O0.2 (S_CS G)) d7_0 (fun T1 X2 => ?_)
  refine kIFf X2 d7_3 (XT.i0_eq_f (n_CS G)) ?_
  refine kALn X2 d7_6 rfl rfl ?_
  refine kGETF X2 (wd G 25 rfl) Via.refl F_q0_coder d7_7 (fun T3 X4 => ?_)
  refine kGOTO X4 14 d7_10 (by decide) ?_
  exact kRETZ X4 (gEL G) (t := .byte) hret (by simp) d7_14 (fun ve hve => ⟨rfl, rfl⟩) (by decide)
theorem pd___B : parseMethodDescriptor "()B" = some ⟨[], some .byte⟩ := by decide +kernel
theorem d6_9 : decode jdk_42_method_54_code 9 = .ok (.ishr, 1) := by decide +kernel
theorem d6_10 : decode jdk_42_method_54_code 10 = .ok (.ireturn, 1) := by decide +kernel
def N_jdk_42_m_54 : MethodName := ⟨"java/lang/String", "length", "()I"⟩
def R_rm6 : Room := { frames := 1, cells := 0, slots := 0, locals := 13 }
theorem rm6 (G : Glob Z a0 iCS vSI) (q0 q1 : Addr) (kp0 : ClassId) (h0 : Heap) (Z0 : n0 ≤ h0.size) (O0 : Old Z n0 h0) (F_q0_value : Fld Z h0 q0 "java/lang/String" "value" "[B" (.ref q1)) (A_q1 : Arv Z h0 q1 kp0 .byte 0 [] (.int 0)) (F_q0_coder : Fld Z h0 q0 "java/lang/String" "coder" "B" (.int 0)) (E_q0 : Exa Z h0 q0 "java/lang/String") : MetH l Z EL0 n0 N_jdk_42_m_54 jdk_42_method_54_code 1 (some .int) [] R_rm6 #[.ref q0] h0 [] (fun vs v h ve => (v = some (.int 0) ∧ (h0 = h))) := by
  refine MetH.of #[.val (.ref q0)] (plainFor_of_name pn_java_lang_String) rfl Z0 (fun p e s m below meth c T0 hret hml hnm hSL hs0 X0 => ?_)
  refine kALn X0 d6_0 rfl rfl ?_
  refine kGETF X0 (wd G 24 rfl) Via.refl F_q0_value d6_1 (fun T1 X2 => ?_)
  refine kLEN X2 A_q1 d6_4 ?_
  refine kALn X2 d6_5 rfl rfl ?_
  refine kVIRT X2 (gEL G) (argsL := []) (rest := [.int 0]) (wd G 40 rfl) (wd G 41 rfl) (own_nf X2.hZ (own_noinst (wd G 6 rfl))) (wd G 43 rfl) (wd G 42 rfl) (wd G 7 rfl) (wd G 44 rfl) (by decide) E_q0 (rm7 G q0 q1 kp0 h0 X2.n O0 F_q0_coder) all0 (lenOf pd___B rfl) rfl 1 rfl (by decide) hml.symm d6_6 (fun v3 T4 h5 vm6 _ w7 q8 C9 C10 X11 => ?_)
  obtain ⟨e13, f14⟩ := q8
  subst e13
  subst f14
  show Go _ _ _ _ _ (mkF _ _ _ [.int 0, .int 0])
  refine kISHR X11 0 d6_9 (by decide) ?_
  exact kRETI X11 (gEL G) hret d6_10 (fun ve hve => ⟨rfl, rfl⟩) (by decide)
theorem pd___I : parseMethodDescriptor "()I" = some ⟨[], some .int⟩ := by decide +kernel
theorem d8_0 : decode method_4_code 0 = .ok (.iload_n 1, 1) := by decide +kernel
theorem d8_1 : decode method_4_code 1 = .ok (.iload_n 2, 1) := by decide +kernel
theorem d8_2 : decode method_4_code 2 = .ok (.if_icmp .lt 5, 3) := by decide +kernel
theorem d8_5 : decode method_4_code 5 = .ok (.iconst 1, 1) := by decide +kernel
theorem d8_6 : decode method_4_code 6 = .ok (.ireturn, 1) := by decide +kernel
def N_m_4 : MethodName := ⟨"com/example/tight_calculus/tightcalculus/ReportWordsPinLaw", "check", "(Ljava/lang/String;II[CI[CI)Z"⟩
def R_rm8 : Room := { frames := 0, cells := 0, slots := 0, locals := 0 }
theorem rm8 (G : Glob Z a0 iCS vSI) (q0 q1 q2 q3 : Addr) (kp0 kp1 kp2 : ClassId) (h0 : Heap) (Z0 : n0 ≤ h0.size) (O0 : Old Z n0 h0)  : MetH l Z EL0 n0 N_m_4 method_4_code 7 (some .boolean) [] R_rm8 #[.ref q0, .int 0, .int 0, .ref q1, .int 0, .ref q2, .int 0] h0 [] (fun vs v h ve => (v = some (.int 1) ∧ (h0 = h))) := by
  refine MetH.of #[.val (.ref q0), .val (.int 0), .val (.int 0), .val (.ref q1), .val (.int 0), .val (.ref q2), .val (.int 0)] (plainFor_of_name pn_com_example_tight_calculus_tightcalculus_ReportWordsPinLaw) rfl Z0 (fun p e s m below meth c T0 hret hml hnm hSL hs0 X0 => ?_)
  refine kILn X0 d8_0 rfl ?_
  refine kILn X0 d8_1 rfl ?_
  refine kICf X0 d8_2 (XT.ii_lt_f (by decide)) ?_
  refine kIC X0 1 d8_5 (by decide) ?_
  exact kRETZ X0 (gEL G) (t := .boolean) hret (by simp) d8_6 (fun ve hve => ⟨rfl, rfl⟩) (by decide)
theorem pd__Ljava_lang_String_II_CI_CI_Z : parseMethodDescriptor "(Ljava/lang/String;II[CI[CI)Z" = some ⟨[.object "java/lang/String", .int, .int, .array (.char), .int, .array (.char), .int], some .boolean⟩ := by decide +kernel
def R_rm9 : Room := { frames := 0, cells := 0, slots := 0, locals := 0 }
theorem rm9 (G : Glob Z a0 iCS vSI) (q0 q1 q2 q3 : Addr) (kp0 kp1 kp2 : ClassId) (h0 : Heap) (Z0 : n0 ≤ h0.size) (O0 : Old Z n0 h0)  : MetH l Z EL0 n0 N_m_4 method_4_code 7 (some .boolean) [] R_rm9 #[.ref q0, .int 1, .int 0, .ref q1, .int 0, .ref q2, .int 0] h0 [] (fun vs v h ve => (v = some (.int 1) ∧ (h0 = h))) := by
  refine MetH.of #[.val (.ref q0), .val (.int 1), .val (.int 0), .val (.ref q1), .val (.int 0), .val (.ref q2), .val (.int 0)] (plainFor_of_name pn_com_example_tight_calculus_tightcalculus_ReportWordsPinLaw) rfl Z0 (fun p e s m below meth c T0 hret hml hnm hSL hs0 X0 => ?_)
  refine kILn X0 d8_0 rfl ?_
  refine kILn X0 d8_1 rfl ?_
  refine kICf X0 d8_2 (XT.ii_lt_f (by decide)) ?_
  refine kIC X0 1 d8_5 (by decide) ?_
  exact kRETZ X0 (gEL G) (t := .boolean) hret (by simp) d8_6 (fun ve hve => ⟨rfl, rfl⟩) (by decide)
def R_rm10 : Room := { frames := 0, cells := 0, slots := 0, locals := 0 }
theorem rm10 (G : Glob Z a0 iCS vSI) (q0 q1 q2 q3 : Addr) (kp0 kp1 kp2 : ClassId) (h0 : Heap) (Z0 : n0 ≤ h0.size) (O0 : Old Z n0 h0)  : MetH l Z EL0 n0 N_m_4 method_4_code 7 (some .boolean) [] R_rm10 #[.ref q0, .int 2, .int 0, .ref q1, .int 0, .ref q2, .int 0] h0 [] (fun vs v h ve => (v = some (.int 1) ∧ (h0 = h))) := by
  refine MetH.of #[.val (.ref q0), .val (.int 2), .val (.int 0), .val (.ref q1), .val (.int 0), .val (.ref q2), .val (.int 0)] (plainFor_of_name pn_com_example_tight_calculus_tightcalculus_ReportWordsPinLaw) rfl Z0 (fun p e s m below meth c T0 hret hml hnm hSL hs0 X0 => ?_)
  refine kILn X0 d8_0 rfl ?_
  refine kILn X0 d8_1 rfl ?_
  refine kICf X0 d8_2 (XT.ii_lt_f (by decide)) ?_
  refine kIC X0 1 d8_5 (by decide) ?_
  exact kRETZ X0 (gEL G) (t := .boolean) hret (by simp) d8_6 (fun ve hve => ⟨rfl, rfl⟩) (by decide)
def R_rm11 : Room := { frames := 0, cells := 0, slots := 0, locals := 0 }
theorem rm11 (G : Glob Z a0 iCS vSI) (q0 q1 q2 q3 : Addr) (kp0 kp1 kp2 : ClassId) (h0 : Heap) (Z0 : n0 ≤ h0.size) (O0 : Old Z n0 h0)  : MetH l Z EL0 n0 N_m_4 method_4_code 7 (some .boolean) [] R_rm11 #[.ref q0, .int 3, .int 0, .ref q1, .int 0, .ref q2, .int 0] h0 [] (fun vs v h ve => (v = some (.int 1) ∧ (h0 = h))) := by
  refine MetH.of #[.val (.ref q0), .val (.int 3), .val (.int 0), .val (.ref q1), .val (.int 0), .val (.ref q2), .val (.int 0)] (plainFor_of_name pn_com_example_tight_calculus_tightcalculus_ReportWordsPinLaw) rfl Z0 (fun p e s m below meth c T0 hret hml hnm hSL hs0 X0 => ?_)
  refine kILn X0 d8_0 rfl ?_
  refine kILn X0 d8_1 rfl ?_
  refine kICf X0 d8_2 (XT.ii_lt_f (by decide)) ?_
  refine kIC X0 1 d8_5 (by decide) ?_
  exact kRETZ X0 (gEL G) (t := .boolean) hret (by simp) d8_6 (fun ve hve => ⟨rfl, rfl⟩) (by decide)
def R_rm12 : Room := { frames := 0, cells := 0, slots := 0, locals := 0 }
theorem rm12 (G : Glob Z a0 iCS vSI) (q0 q1 q2 q3 : Addr) (kp0 kp1 kp2 : ClassId) (h0 : Heap) (Z0 : n0 ≤ h0.size) (O0 : Old Z n0 h0)  : MetH l Z EL0 n0 N_m_4 method_4_code 7 (some .boolean) [] R_rm12 #[.ref q0, .int 4, .int 0, .ref q1, .int 0, .ref q2, .int 0] h0 [] (fun vs v h ve => (v = some (.int 1) ∧ (h0 = h))) := by
  refine MetH.of #[.val (.ref q0), .val (.int 4), .val (.int 0), .val (.ref q1), .val (.int 0), .val (.ref q2), .val (.int 0)] (plainFor_of_name pn_com_example_tight_calculus_tightcalculus_ReportWordsPinLaw) rfl Z0 (fun p e s m below meth c T0 hret hml hnm hSL hs0 X0 => ?_)
  refine kILn X0 d8_0 rfl ?_
  refine kILn X0 d8_1 rfl ?_
  refine kICf X0 d8_2 (XT.ii_lt_f (by decide)) ?_
  refine kIC X0 1 d8_5 (by decide) ?_
  exact kRETZ X0 (gEL G) (t := .boolean) hret (by simp) d8_6 (fun ve hve => ⟨rfl, rfl⟩) (by decide)
theorem d0_32 : decode method_3_code 32 = .ok (.iload_n 0, 1) := by decide +kernel
theorem d0_33 : decode method_3_code 33 = .ok (.iconst 1, 1) := by decide +kernel
theorem d0_34 : decode method_3_code 34 = .ok (.if_icmp .ne 15, 3) := by decide +kernel
theorem d0_37 : decode method_3_code 37 = .ok (.iconst 1, 1) := by decide +kernel
theorem d0_38 : decode method_3_code 38 = .ok (.newarray .char, 2) := by decide +kernel
theorem d0_40 : decode method_3_code 40 = .ok (.dup, 1) := by decide +kernel
theorem d0_41 : decode method_3_code 41 = .ok (.iconst 0, 1) := by decide +kernel
theorem d0_42 : decode method_3_code 42 = .ok (.iload_n 2, 1) := by decide +kernel
theorem d0_43 : decode method_3_code 43 = .ok (.castore, 1) := by decide +kernel
theorem d0_44 : decode method_3_code 44 = .ok (.astore 4, 2) := by decide +kernel
theorem d0_46 : decode method_3_code 46 = .ok (.goto 16, 3) := by decide +kernel
def R_rm13 : Room := { frames := 0, cells := 1, slots := 1, locals := 0 }
theorem rm13 (G : Glob Z a0 iCS vSI) (i0 : Int32) (h0 : Heap) (Z0 : n0 ≤ h0.size) (O0 : Old Z n0 h0)  : MetH l Z EL0 n0 N_m_3 method_3_code 5 (some (.array (.char))) [] R_rm13 #[.int 1, .int i0] h0 [] (fun vs v h ve => (∃ (x0 : Addr), ∃ (z0 : ClassId), v = some (.ref x0) ∧ (Keep h0 h []) ∧ (h0.size ≤ x0) ∧ (Arv Z h x0 z0 .char 1 [.int ((XT.ushr i0 (8 : Int32)) &&& (255 : Int32))] (.int 0)))) := by
  refine MetH.of #[.val (.int 1), .val (.int i0), .unset, .unset, .unset] (plainFor_of_name pn_com_example_tight_calculus_tightcalculus_ReportWordsPinLaw) rfl Z0 (fun p e s m below meth c T0 hret hml hnm hSL hs0 X0 => ?_)
  refine kILn X0 d0_0 rfl ?_
  refine kBI X0 8 d0_1 (by decide) ?_
  refine kIUSHR X0 (XT.ushr i0 (8 : Int32)) d0_3 rfl ?_
  refine kSI X0 255 d0_4 (by decide) ?_
  refine kIAND X0 ((XT.ushr i0 (8 : Int32)) &&& (255 : Int32)) d0_7 rfl ?_
  refine kI2C X0 ((XT.ushr i0 (8 : Int32)) &&& (255 : Int32)) d0_8 (i2c_mask _) ?_
  refine kISn X0 #[.val (.int 1), .val (.int i0), .val (.int ((XT.ushr i0 (8 : Int32)) &&& (255 : Int32))), .unset, .unset] d0_9 rfl ?_
  refine kILn X0 d0_10 rfl ?_
  refine kBI X0 16 d0_11 (by decide) ?_
  refine kIUSHR X0 (XT.ushr i0 (16 : Int32)) d0_13 rfl ?_
  refine kSI X0 255 d0_14 (by decide) ?_
  refine kIAND X0 ((XT.ushr i0 (16 : Int32)) &&& (255 : Int32)) d0_17 rfl ?_
  refine kI2C X0 ((XT.ushr i0 (16 : Int32)) &&& (255 : Int32)) d0_18 (i2c_mask _) ?_
  refine kISn X0 #[.val (.int 1), .val (.int i0), .val (.int ((XT.ushr i0 (8 : Int32)) &&& (255 : Int32))), .val (.int ((XT.ushr i0 (16 : Int32)) &&& (255 : Int32))), .unset] d0_19 rfl ?_
  refine kILn X0 d0_20 rfl ?_
  refine kIFt X0 32 d0_21 (XT.i0_ne_t (by decide)) (by decide) ?_
  refine kILn X0 d0_32 rfl ?_
  refine kIC X0 1 d0_33 (by decide) ?_
  refine kICf X0 d0_34 (XT.ii_ne_f (by decide)) ?_
  refine kIC X0 1 d0_37 (by decide) ?_
  refine kNEWP X0 (wd G 4 rfl) (cap := 1) d0_38 (by decide) (by decide) (by decide) (by decide) (by decide) (fun T1 h2 a4 k5 E6 q7 g8 A9 s10 X3 => ?_)
  have g11 : h0.size ≤ a4 := q7 ▸ X0.g0
  have f12 : Arv Z h2 a4 k5 .char 1 [.int 0] (.int 0) := A9.pad (pad_rep [] _ 1)
  refine kDUP X3 d0_40 rfl ?_
  refine kIC X3 0 d0_41 (by decide) ?_
  refine kILn X3 d0_42 rfl ?_
  refine kCASTO X3 f12 (by decide) 0 ((XT.ushr i0 (8 : Int32)) &&& (255 : Int32)) (own_nc (own_mask _).1 (own_mask _).2) (by decide) (by show 0 < 1; decide) g8 (Safe.arv X3.hZ.alike f12 (by decide)) d0_43 (fun T13 h14 L16 W17 f18 X15 => ?_)
  have f19 : Arv Z h14 a4 k5 .char 1 [.int ((XT.ushr i0 (8 : Int32)) &&& (255 : Int32))] (.int 0) := f18
  refine kAS X15 #[.val (.int 1), .val (.int i0), .val (.int ((XT.ushr i0 (8 : Int32)) &&& (255 : Int32))), .val (.int ((XT.ushr i0 (16 : Int32)) &&& (255 : Int32))), .val (.ref a4)] d0_44 rfl rfl ?_
  refine kGOTO X15 62 d0_46 (by decide) ?_
  refine kAL X15 d0_62 rfl rfl ?_
  have K20 : Keep h0 h14 [] := (Keep.wr (Keep.ext (Keep.refl h0 []) E6) W17 (Or.inr g11))
  exact kRETA X15 (gEL G) hret rfl rfl d0_64 (fun ve hve => ⟨a4, k5, rfl, K20, g11, f19⟩) (by decide)
theorem pn_java_lang_StringUTF16 : plainName "java/lang/StringUTF16" = true := by first | (simp [plainName, overriddenIn]; done) | decide +kernel
theorem d2_27 : decode jdk_42_method_149_code 27 = .ok (.getstatic 38, 3) := by decide +kernel
theorem d2_30 : decode jdk_42_method_149_code 30 = .ok (.ifCond .eq 28, 3) := by decide +kernel
theorem d2_33 : decode jdk_42_method_149_code 33 = .ok (.aload_n 1, 1) := by decide +kernel
theorem d2_34 : decode jdk_42_method_149_code 34 = .ok (.iload_n 2, 1) := by decide +kernel
theorem d2_35 : decode jdk_42_method_149_code 35 = .ok (.iload_n 3, 1) := by decide +kernel
theorem d2_36 : decode jdk_42_method_149_code 36 = .ok (.invokestatic 177, 3) := by decide +kernel
theorem d9_0 : decode jdk_52_method_16_code 0 = .ok (.iload_n 2, 1) := by decide +kernel
theorem d9_1 : decode jdk_52_method_16_code 1 = .ok (.newarray .byte, 2) := by decide +kernel
theorem d9_3 : decode jdk_52_method_16_code 3 = .ok (.astore_n 3, 1) := by decide +kernel
theorem d9_4 : decode jdk_52_method_16_code 4 = .ok (.aload_n 0, 1) := by decide +kernel
theorem d9_5 : decode jdk_52_method_16_code 5 = .ok (.iload_n 1, 1) := by decide +kernel
theorem d9_6 : decode jdk_52_method_16_code 6 = .ok (.aload_n 3, 1) := by decide +kernel
theorem d9_7 : decode jdk_52_method_16_code 7 = .ok (.iconst 0, 1) := by decide +kernel
theorem d9_8 : decode jdk_52_method_16_code 8 = .ok (.iload_n 2, 1) := by decide +kernel
theorem d9_9 : decode jdk_52_method_16_code 9 = .ok (.invokestatic 115, 3) := by decide +kernel
theorem d10_0 : decode jdk_52_method_21_code 0 = .ok (.iconst 0, 1) := by decide +kernel
theorem d10_1 : decode jdk_52_method_21_code 1 = .ok (.istore 5, 2) := by decide +kernel
theorem d10_3 : decode jdk_52_method_21_code 3 = .ok (.iload 5, 2) := by decide +kernel
theorem d10_5 : decode jdk_52_method_21_code 5 = .ok (.iload 4, 2) := by decide +kernel
theorem d10_7 : decode jdk_52_method_21_code 7 = .ok (.if_icmp .ge 37, 3) := by decide +kernel
theorem d10_10 : decode jdk_52_method_21_code 10 = .ok (.aload_n 0, 1) := by decide +kernel
theorem d10_11 : decode jdk_52_method_21_code 11 = .ok (.iload_n 1, 1) := by decide +kernel
theorem d10_12 : decode jdk_52_method_21_code 12 = .ok (.caload, 1) := by decide +kernel
theorem d10_13 : decode jdk_52_method_21_code 13 = .ok (.istore 6, 2) := by decide +kernel
theorem d10_15 : decode jdk_52_method_21_code 15 = .ok (.iload 6, 2) := by decide +kernel
theorem d10_17 : decode jdk_52_method_21_code 17 = .ok (.sipush 255, 3) := by decide +kernel
theorem d10_20 : decode jdk_52_method_21_code 20 = .ok (.if_icmp .le 6, 3) := by decide +kernel
theorem d10_26 : decode jdk_52_method_21_code 26 = .ok (.aload_n 2, 1) := by decide +kernel
theorem d10_27 : decode jdk_52_method_21_code 27 = .ok (.iload_n 3, 1) := by decide +kernel
theorem d10_28 : decode jdk_52_method_21_code 28 = .ok (.iload 6, 2) := by decide +kernel
theorem d10_30 : decode jdk_52_method_21_code 30 = .ok (.i2b, 1) := by decide +kernel
theorem d10_31 : decode jdk_52_method_21_code 31 = .ok (.bastore, 1) := by decide +kernel
theorem d10_32 : decode jdk_52_method_21_code 32 = .ok (.iinc 1 1, 3) := by decide +kernel
theorem d10_35 : decode jdk_52_method_21_code 35 = .ok (.iinc 3 1, 3) := by decide +kernel
theorem d10_38 : decode jdk_52_method_21_code 38 = .ok (.iinc 5 1, 3) := by decide +kernel
theorem d10_41 : decode jdk_52_method_21_code 41 = .ok (.goto (-38), 3) := by decide +kernel
theorem d10_44 : decode jdk_52_method_21_code 44 = .ok (.iload 4, 2) := by decide +kernel
theorem d10_46 : decode jdk_52_method_21_code 46 = .ok (.ireturn, 1) := by decide +kernel
def N_jdk_52_m_21 : MethodName := ⟨"java/lang/StringUTF16", "compress", "([CI[BII)I"⟩
def R_rm17 : Room := { frames := 0, cells := 0, slots := 0, locals := 0 }
theorem rm17 (G : Glob Z a0 iCS vSI) (i0 : Int32) (q0 q1 : Addr) (kp0 kp1 : ClassId) (h0 : Heap) (Z0 : n0 ≤ h0.size) (O0 : Old Z n0 h0) (A_q0 : Arv Z h0 q0 kp0 .char 1 [.int i0] (.int 0)) (c_0 : ¬ (255 : Int32) < i0) (A_q1 : Arv Z h0 q1 kp1 .byte 1 [.int 0] (.int 0)) (g_q1 : n0 ≤ q1) : MetH l Z EL0 n0 N_jdk_52_m_21 jdk_52_method_21_code 7 (some .int) [] R_rm17 #[.ref q0, .int 0, .ref q1, .int 0, .int 1] h0 [q1] (fun vs v h ve => (v = some (.int 1) ∧ (Keep h0 h [q1]) ∧ (Arv Z h q1 kp1 .byte 1 [.int (ownB i0)] (.int 0)))) := by
  refine MetH.of #[.val (.ref q0), .val (.int 0), .val (.ref q1), .val (.int 0), .val (.int 1), .unset, .unset] (plainFor_of_name pn_java_lang_StringUTF16) rfl Z0 (fun p e s m below meth c T0 hret hml hnm hSL hs0 X0 => ?_)
  have S_q1 := hSL q1 (List.mem_of_getElem? (i := 0) rfl)
  refine kIC X0 0 d10_0 (by decide) ?_
  refine kIS X0 #[.val (.ref q0), .val (.int 0), .val (.ref q1), .val (.int 0), .val (.int 1), .val (.int 0), .unset] d10_1 rfl ?_
  refine kIL X0 d10_3 rfl ?_
  refine kIL X0 d10_5 rfl ?_
  refine kICf X0 d10_7 (XT.ii_ge_f (by decide)) ?_
  refine kALn X0 d10_10 rfl rfl ?_
  refine kILn X0 d10_11 rfl ?_
  refine kCALD X0 (.int i0) A_q0 (by decide) rfl d10_12 ?_
  refine kIS X0 #[.val (.ref q0), .val (.int 0), .val (.ref q1), .val (.int 0), .val (.int 1), .val (.int 0), .val (.int i0)] d10_13 rfl ?_
  refine kIL X0 d10_15 rfl ?_
  refine kSI X0 255 d10_17 (by decide) ?_
  refine kICt X0 26 d10_20 (XT.ii_le_t c_0) (by decide) ?_
  refine kALn X0 d10_26 rfl rfl ?_
  refine kILn X0 d10_27 rfl ?_
  refine kIL X0 d10_28 rfl ?_
  refine kI2B X0 (ownB i0) d10_30 rfl ?_
  refine kBASTO X0 A_q1 (by decide) 0 (ownB i0) (own_nb _) (by decide) (by show 0 < 1; decide) g_q1 S_q1 d10_31 (fun T1 h2 L4 W5 f6 X3 => ?_)
  have f7 : Arv Z h2 q1 kp1 .byte 1 [.int (ownB i0)] (.int 0) := f6
  refine kIINC X3 (1 : Int32) (1 : Int32) #[.val (.ref q0), .val (.int 1), .val (.ref q1), .val (.int 0), .val (.int 1), .val (.int 0), .val (.int i0)] d10_32 (by decide) rfl (by decide) rfl ?_
  refine kIINC X3 (1 : Int32) (1 : Int32) #[.val (.ref q0), .val (.int 1), .val (.ref q1), .val (.int 1), .val (.int 1), .val (.int 0), .val (.int i0)] d10_35 (by decide) rfl (by decide) rfl ?_
  refine kIINC X3 (1 : Int32) (1 : Int32) #[.val (.ref q0), .val (.int 1), .val (.ref q1), .val (.int 1), .val (.int 1), .val (.int 1), .val (.int i0)] d10_38 (by decide) rfl (by decide) rfl ?_
  refine kGOTO X3 3 d10_41 (by decide) ?_
  refine kIL X3 d10_3 rfl ?_
  refine kIL X3 d10_5 rfl ?_
  refine kICt X3 44 d10_7 (XT.ii_ge_t (by decide)) (by decide) ?_
  refine kIL X3 d10_44 rfl ?_
  have K8 : Keep h0 h2 [q1] := (Keep.wr (Keep.refl h0 [q1]) W5 (Or.inl (List.mem_of_getElem? (i := 0) rfl)))
  exact kRETI X3 (gEL G) hret d10_46 (fun ve hve => ⟨rfl, K8, f7⟩) (by decide)
theorem pd___CI_BII_I : parseMethodDescriptor "([CI[BII)I" = some ⟨[.array (.char), .int, .array (.byte), .int, .int], some .int⟩ := by decide +kernel
theorem d9_12 : decode jdk_52_method_16_code 12 = .ok (.istore 4, 2) := by decide +kernel
theorem d9_14 : decode jdk_52_method_16_code 14 = .ok (.iload 4, 2) := by decide +kernel
theorem d9_16 : decode jdk_52_method_16_code 16 = .ok (.iload_n 2, 1) := by decide +kernel
theorem d9_17 : decode jdk_52_method_16_code 17 = .ok (.if_icmp .eq 40, 3) := by decide +kernel
theorem d9_57 : decode jdk_52_method_16_code 57 = .ok (.aload_n 3, 1) := by decide +kernel
theorem d9_58 : decode jdk_52_method_16_code 58 = .ok (.areturn, 1) := by decide +kernel
def N_jdk_52_m_16 : MethodName := ⟨"java/lang/StringUTF16", "compress", "([CII)[B"⟩
def R_rm16 : Room := { frames := 1, cells := 1, slots := 1, locals := 18 }
theorem rm16 (G : Glob Z a0 iCS vSI) (i0 : Int32) (q0 : Addr) (kp0 : ClassId) (h0 : Heap) (Z0 : n0 ≤ h0.size) (O0 : Old Z n0 h0) (A_q0 : Arv Z h0 q0 kp0 .char 1 [.int i0] (.int 0)) (c_0 : ¬ (255 : Int32) < i0) (c_1 : ¬ i0 < 0) : MetH l Z EL0 n0 N_jdk_52_m_16 jdk_52_method_16_code 6 (some (.array (.byte))) [] R_rm16 #[.ref q0, .int 0, .int 1] h0 [] (fun vs v h ve => (∃ (x0 : Addr), ∃ (z0 : ClassId), v = some (.ref x0) ∧ (Keep h0 h []) ∧ (h0.size ≤ x0) ∧ (Arv Z h x0 z0 .byte 1 [.int (ownB i0)] (.int 0)) ∧ (Safe Z EL0 ve h x0))) := by
  refine MetH.of #[.val (.ref q0), .val (.int 0), .val (.int 1), .unset, .unset, .unset] (plainFor_of_name pn_java_lang_StringUTF16) rfl Z0 (fun p e s m below meth c T0 hret hml hnm hSL hs0 X0 => ?_)
  refine kILn X0 d9_0 rfl ?_
  refine kNEWP X0 (wd G 19 rfl) (cap := 1) d9_1 (by decide) (by decide) (by decide) (by decide) (by decide) (fun T1 h2 a4 k5 E6 q7 g8 A9 s10 X3 => ?_)
  have n11 : q0 ≠ a4 := Nat.ne_of_lt (Nat.lt_of_lt_of_le (A_q0.lt) (Nat.le_of_eq q7.symm))
  have g12 : h0.size ≤ a4 := q7 ▸ X0.g0
  have f13 : Arv Z h2 a4 k5 .byte 1 [.int 0] (.int 0) := A9.pad (pad_rep [] _ 1)
  refine kASn X3 #[.val (.ref q0), .val (.int 0), .val (.int 1), .val (.ref a4), .unset, .unset] d9_3 rfl rfl ?_
  refine kALn X3 d9_4 rfl rfl ?_
  refine kILn X3 d9_5 rfl ?_
  refine kALn X3 d9_6 rfl rfl ?_
  refine kIC X3 0 d9_7 (by decide) ?_
  refine kILn X3 d9_8 rfl ?_
  have f14 := (Arv.ext A_q0 E6)
  have f15 := (Old.ext O0 E6)
  refine kSTAT X3 (gEL G) (argsL := [.ref q0, .int 0, .ref a4, .int 0, .int 1]) (rest := []) (wd G 53 rfl) (wd G 54 rfl) (wd G 51 rfl) (wd G 55 rfl) (by decide) (rm17 G i0 q0 a4 kp0 k5 h2 X3.n f15 f14 c_0 f13 g8) (allS ⟨(f13.lt), s10⟩ all0) (lenOf pd___CI_BII_I rfl) rfl 0 rfl (by decide) hml.symm d9_9 (fun v16 T17 h18 vm19 _ w20 q21 C22 C23 X24 => ?_)
  obtain ⟨e26, f27, f28⟩ := q21
  subst e26
  show Go _ _ _ _ _ (mkF _ _ _ [.int 1])
  refine kIS X24 #[.val (.ref q0), .val (.int 0), .val (.int 1), .val (.ref a4), .val (.int 1), .unset] d9_12 rfl ?_
  refine kIL X24 d9_14 rfl ?_
  refine kILn X24 d9_16 rfl ?_
  refine kICt X24 57 d9_17 (XT.ii_eq_t (by decide)) (by decide) ?_
  refine kALn X24 d9_57 rfl rfl ?_
  have K29 : Keep h0 h18 [] := (Keep.trans (Keep.ext (Keep.refl h0 []) E6) f27 (allS (Or.inr g12) all0))
  have f30 := (CHr.safe C23 (f13.lt) s10)
  exact kRETA X24 (gEL G) hret rfl rfl d9_58 (fun ve hve => ⟨a4, k5, rfl, K29, g12, f28, (CHr.safe hve (f28.lt) f30)⟩) (by decide)
theorem pd___CII__B : parseMethodDescriptor "([CII)[B" = some ⟨[.array (.char), .int, .int], some (.array (.byte))⟩ := by decide +kernel
theorem d2_39 : decode jdk_42_method_149_code 39 = .ok (.astore 5, 2) := by decide +kernel
theorem d2_41 : decode jdk_42_method_149_code 41 = .ok (.aload_n 0, 1) := by decide +kernel
theorem d2_42 : decode jdk_42_method_149_code 42 = .ok (.aload 5, 2) := by decide +kernel
theorem d2_44 : decode jdk_42_method_149_code 44 = .ok (.iload_n 3, 1) := by decide +kernel
theorem d2_45 : decode jdk_42_method_149_code 45 = .ok (.invokestatic 47, 3) := by decide +kernel
theorem d11_0 : decode jdk_52_method_15_code 0 = .ok (.iload_n 1, 1) := by decide +kernel
theorem d11_1 : decode jdk_52_method_15_code 1 = .ok (.aload_n 0, 1) := by decide +kernel
theorem d11_2 : decode jdk_52_method_15_code 2 = .ok (.arraylength, 1) := by decide +kernel
theorem d11_3 : decode jdk_52_method_15_code 3 = .ok (.isub, 1) := by decide +kernel
theorem d11_4 : decode jdk_52_method_15_code 4 = .ok (.bipush 31, 2) := by decide +kernel
theorem d11_6 : decode jdk_52_method_15_code 6 = .ok (.iushr, 1) := by decide +kernel
theorem d11_7 : decode jdk_52_method_15_code 7 = .ok (.i2b, 1) := by decide +kernel
theorem d11_8 : decode jdk_52_method_15_code 8 = .ok (.ireturn, 1) := by decide +kernel
def N_jdk_52_m_15 : MethodName := ⟨"java/lang/StringUTF16", "coderFromArrayLen", "([BI)B"⟩
def R_rm18 : Room := { frames := 0, cells := 0, slots := 0, locals := 0 }
theorem rm18 (G : Glob Z a0 iCS vSI) (i0 : Int32) (q0 : Addr) (kp0 : ClassId) (h0 : Heap) (Z0 : n0 ≤ h0.size) (O0 : Old Z n0 h0) (A_q0 : Arv Z h0 q0 kp0 .byte 1 [.int i0] (.int 0)) : MetH l Z EL0 n0 N_jdk_52_m_15 jdk_52_method_15_code 2 (some .byte) [] R_rm18 #[.ref q0, .int 1] h0 [] (fun vs v h ve => (v = some (.int 0) ∧ (h0 = h))) := by
  refine MetH.of #[.val (.ref q0), .val (.int 1)] (plainFor_of_name pn_java_lang_StringUTF16) rfl Z0 (fun p e s m below meth c T0 hret hml hnm hSL hs0 X0 => ?_)
  refine kILn X0 d11_0 rfl ?_
  refine kALn X0 d11_1 rfl rfl ?_
  refine kLEN X0 A_q0 d11_2 ?_
  refine kISUB X0 0 d11_3 (by decide) ?_
  refine kBI X0 31 d11_4 (by decide) ?_
  refine kIUSHR X0 0 d11_6 (by decide) ?_
  refine kI2B X0 (0 : Int32) d11_7 (by decide) ?_
  exact kRETZ X0 (gEL G) (t := .byte) hret (by simp) d11_8 (fun ve hve => ⟨rfl, rfl⟩) (by decide)
theorem pd___BI_B : parseMethodDescriptor "([BI)B" = some ⟨[.array (.byte), .int], some .byte⟩ := by decide +kernel
theorem d2_48 : decode jdk_42_method_149_code 48 = .ok (.putfield 15, 3) := by decide +kernel
theorem d2_51 : decode jdk_42_method_149_code 51 = .ok (.aload_n 0, 1) := by decide +kernel
theorem d2_52 : decode jdk_42_method_149_code 52 = .ok (.aload 5, 2) := by decide +kernel
theorem d2_54 : decode jdk_42_method_149_code 54 = .ok (.putfield 9, 3) := by decide +kernel
theorem d2_57 : decode jdk_42_method_149_code 57 = .ok (.return_, 1) := by decide +kernel
def R_rm15 : Room := { frames := 2, cells := 1, slots := 1, locals := 35 }
theorem rm15 (G : Glob Z a0 iCS vSI) (i0 : Int32) (q0 q1 : Addr) (kp0 : ClassId) (h0 : Heap) (Z0 : n0 ≤ h0.size) (O0 : Old Z n0 h0) (c_0 : ¬ (255 : Int32) < i0) (c_1 : ¬ i0 < 0) (A_q1 : Arv Z h0 q1 kp0 .char 1 [.int i0] (.int 0)) (E_q0 : Exa Z h0 q0 "java/lang/String") (F_q0_coder : Fld Z h0 q0 "java/lang/String" "coder" "B" (.int 0)) (F_q0_value : Fld Z h0 q0 "java/lang/String" "value" "[B" (.null)) (g_q0 : n0 ≤ q0) : MetH l Z EL0 n0 N_jdk_42_m_149 jdk_42_method_149_code 6 none [] R_rm15 #[.ref q0, .ref q1, .int 0, .int 1, .null] h0 [q0] (fun vs v h ve => (∃ (x0 : Addr), ∃ (z0 : ClassId), v = none ∧ (Keep h0 h [q0]) ∧ (h0.size ≤ x0) ∧ (Arv Z h x0 z0 .byte 1 [.int (ownB i0)] (.int 0)) ∧ (Safe Z EL0 ve h x0) ∧ (Fld Z h q0 "java/lang/String" "coder" "B" (.int 0)) ∧ (Fld Z h q0 "java/lang/String" "value" "[B" (.ref x0)))) := by
  refine MetH.of #[.val (.ref q0), .val (.ref q1), .val (.int 0), .val (.int 1), .val .null, .unset] (plainFor_of_name pn_java_lang_String) rfl Z0 (fun p e s m below meth c T0 hret hml hnm hSL hs0 X0 => ?_)
  have S_q0 := hSL q0 (List.mem_of_getElem? (i := 0) rfl)
  refine kALn X0 d2_0 rfl rfl ?_
  refine kINIT X0 (wd G 15 rfl) (wd G 16 rfl) (wd G 17 rfl) hml.symm d2_1 (by decide) 0 (Nat.le_of_eq rfl) (by decide) (fun T1 X2 => ?_)
  refine kILn X2 d2_4 rfl ?_
  refine kIFt X2 27 d2_5 (XT.i0_ne_t (by decide)) (by decide) ?_
  refine kGETS X2 (wd G 45 rfl) Via.refl (Sta.ext O0.2 (S_CS G)) d2_27 (fun T3 X4 => ?_)
  refine kIFf X4 d2_30 (XT.i0_eq_f (n_CS G)) ?_
  refine kALn X4 d2_33 rfl rfl ?_
  refine kILn X4 d2_34 rfl ?_
  refine kILn X4 d2_35 rfl ?_
  refine kSTAT X4 (gEL G) (argsL := [.ref q1, .int 0, .int 1]) (rest := []) (wd G 49 rfl) (wd G 50 rfl) (wd G 51 rfl) (wd G 52 rfl) (by decide) (rm16 G i0 q1 kp0 h0 X4.n O0 A_q1 c_0 c_1) all0 (lenOf pd___CII__B rfl) rfl 0 rfl (by decide) hml.symm d2_36 (fun v5 T6 h7 vm8 _ w9 q10 C11 C12 X13 => ?_)
  obtain ⟨a15, k16, e17, f18, f19, f20, f21⟩ := q10
  subst e17
  have n22 : q0 ≠ a15 := Nat.ne_of_lt (Nat.lt_of_lt_of_le (E_q0.lt) f19)
  have n23 : q1 ≠ a15 := Nat.ne_of_lt (Nat.lt_of_lt_of_le (A_q1.lt) f19)
  have g24 : n0 ≤ a15 := Nat.le_trans X4.n f19
  have g25 : h0.size ≤ a15 := Nat.le_trans X4.g0 f19
  show Go _ _ _ _ _ (mkF _ _ _ [.ref a15])
  refine kAS X13 #[.val (.ref q0), .val (.ref q1), .val (.int 0), .val (.int 1), .val .null, .val (.ref a15)] d2_39 rfl rfl ?_
  refine kALn X13 d2_41 rfl rfl ?_
  refine kAL X13 d2_42 rfl rfl ?_
  refine kILn X13 d2_44 rfl ?_
  have f26 := (Old.keep O0 f18 all0)
  refine kSTAT X13 (gEL G) (argsL := [.ref a15, .int 1]) (rest := [.ref q0]) (wd G 56 rfl) (wd G 57 rfl) (wd G 51 rfl) (wd G 58 rfl) (by decide) (rm18 G (ownB i0) a15 k16 h7 X13.n f26 f20) all0 (lenOf pd___BI_B rfl) rfl 1 rfl (by decide) hml.symm d2_45 (fun v27 T28 h29 vm30 _ w31 q32 C33 C34 X35 => ?_)
  obtain ⟨e37, f38⟩ := q32
  subst e37
  subst f38
  show Go _ _ _ _ _ (mkF _ _ _ [.int 0, .ref q0])
  have f39 := (Fld.keep F_q0_coder f18 nin0)
  have f40 := (Exa.keep E_q0 f18)
  have f41 := (CHr.safe C34 ((Fld.keep F_q0_value f18 nin0)).lt (CHr.safe C12 (F_q0_value.lt) S_q0))
  refine kPUTF X35 (wd G 25 rfl) Via.refl f39 f40 (Or.inr ⟨(wd G 21 rfl), rfl, hnm⟩) (wd G 6 rfl) (ty := .byte) (by decide) (by decide) (by decide) g_q0 f41 d2_48 (fun T42 h43 L46 W45 X44 => ?_)
  have f47 := Fld.same W45 f39
  refine kALn X44 d2_51 rfl rfl ?_
  refine kAL X44 d2_52 rfl rfl ?_
  have f48 := (Fld.other W45 (Fld.keep F_q0_value f18 nin0) (Or.inr (slot_ne (Or.inr (wd G 20 rfl)) (Or.inr (wd G 21 rfl)) (by decide) (by decide : parseFieldDescriptor "[B" = some (.array (.byte))) (by decide : parseFieldDescriptor "B" = some .byte))))
  have f49 := (Exa.wr W45 f40)
  have f50 := (Safe.wr W45 f41 X35.C.1 f41)
  refine kPUTF X44 (wd G 24 rfl) Via.refl f48 f49 (Or.inr ⟨(wd G 20 rfl), rfl, hnm⟩) (wd G 6 rfl) (ty := (.array (.byte))) (by decide) rfl rfl g_q0 f50 d2_54 (fun T51 h52 L55 W54 X53 => ?_)
  have f56 := Fld.same W54 f48
  have K57 : Keep h0 h52 [q0] := (Keep.wr (Keep.wr (Keep.trans (Keep.refl h0 [q0]) f18 all0) W45 (Or.inl (List.mem_of_getElem? (i := 0) rfl))) W54 (Or.inl (List.mem_of_getElem? (i := 0) rfl)))
  have f58 := (Arv.other (Arv.other f20 W45 (Ne.symm n22)) W54 (Ne.symm n22))
  have f59 := (Safe.wr W54 f50 X44.C.1 (Safe.wr W45 f41 X35.C.1 (CHr.safe C34 (f20.lt) f21)))
  have f60 := (Fld.other W54 f47 (Or.inr (slot_ne (Or.inr (wd G 21 rfl)) (Or.inr (wd G 20 rfl)) (by decide) (by decide : parseFieldDescriptor "B" = some .byte) (by decide : parseFieldDescriptor "[B" = some (.array (.byte))))))
  exact kRETV X53 (gEL G) hret d2_57 (fun ve hve => ⟨a15, k16, rfl, K57, g25, f58, (CHr.safe hve (f58.lt) f59), f60, f56⟩) (by decide)
def R_rm14 : Room := { frames := 3, cells := 1, slots := 1, locals := 52 }
theorem rm14 (G : Glob Z a0 iCS vSI) (i0 : Int32) (q0 q1 : Addr) (kp0 : ClassId) (h0 : Heap) (Z0 : n0 ≤ h0.size) (O0 : Old Z n0 h0) (A_q1 : Arv Z h0 q1 kp0 .char 1 [.int i0] (.int 0)) (c_0 : ¬ (255 : Int32) < i0) (c_1 : ¬ i0 < 0) (E_q0 : Exa Z h0 q0 "java/lang/String") (F_q0_coder : Fld Z h0 q0 "java/lang/String" "coder" "B" (.int 0)) (F_q0_value : Fld Z h0 q0 "java/lang/String" "value" "[B" (.null)) (g_q0 : n0 ≤ q0) : MetH l Z EL0 n0 N_jdk_42_m_3 jdk_42_method_3_code 2 none [] R_rm14 #[.ref q0, .ref q1] h0 [q0] (fun vs v h ve => (∃ (x0 : Addr), ∃ (z0 : ClassId), v = none ∧ (Keep h0 h [q0]) ∧ (h0.size ≤ x0) ∧ (Arv Z h x0 z0 .byte 1 [.int (ownB i0)] (.int 0)) ∧ (Safe Z EL0 ve h x0) ∧ (Fld Z h q0 "java/lang/String" "coder" "B" (.int 0)) ∧ (Fld Z h q0 "java/lang/String" "value" "[B" (.ref x0)))) := by
  refine MetH.of #[.val (.ref q0), .val (.ref q1)] (plainFor_of_name pn_java_lang_String) rfl Z0 (fun p e s m below meth c T0 hret hml hnm hSL hs0 X0 => ?_)
  have S_q0 := hSL q0 (List.mem_of_getElem? (i := 0) rfl)
  refine kALn X0 d1_0 rfl rfl ?_
  refine kALn X0 d1_1 rfl rfl ?_
  refine kIC X0 0 d1_2 (by decide) ?_
  refine kALn X0 d1_3 rfl rfl ?_
  refine kLEN X0 A_q1 d1_4 ?_
  refine kNULL X0 d1_5 ?_
  refine kSPEC X0 (gEL G) (argsL := [.ref q1, .int 0, .int 1, .null]) (rest := []) (wd G 11 rfl) (wd G 12 rfl) (wd G 7 rfl) (wd G 14 rfl) rfl (by decide) (rm15 G i0 q0 q1 kp0 h0 X0.n O0 c_0 c_1 A_q1 E_q0 F_q0_coder F_q0_value g_q0) (allS ⟨(E_q0.lt), S_q0⟩ all0) (lenOf pd___CIILjava_lang_Void__V rfl) rfl 0 rfl (by decide) hml.symm d1_6 (fun v1 T2 h3 vm4 _ w5 q6 C7 C8 X9 => ?_)
  obtain ⟨a11, k12, e13, f14, f15, f16, f17, f18, f19⟩ := q6
  subst e13
  have n20 : q0 ≠ a11 := Nat.ne_of_lt (Nat.lt_of_lt_of_le (E_q0.lt) f15)
  have n21 : q1 ≠ a11 := Nat.ne_of_lt (Nat.lt_of_lt_of_le (A_q1.lt) f15)
  have g22 : n0 ≤ a11 := Nat.le_trans X0.n f15
  have g23 : h0.size ≤ a11 := Nat.le_trans X0.g0 f15
  show Go _ _ _ _ _ (mkF _ _ _ [])
  have K24 : Keep h0 h3 [q0] := (Keep.trans (Keep.refl h0 [q0]) f14 (allS (Or.inl (List.mem_of_getElem? (i := 0) rfl)) all0))
  exact kRETV X9 (gEL G) hret d1_9 (fun ve hve => ⟨a11, k12, rfl, K24, g23, f16, (CHr.safe hve (f16.lt) f17), f18, f19⟩) (by decide)
def R_rm19 : Room := { frames := 1, cells := 0, slots := 0, locals := 12 }
theorem rm19 (G : Glob Z a0 iCS vSI) (i0 : Int32) (q0 q1 q2 q3 : Addr) (kp0 kp1 : ClassId) (h0 : Heap) (Z0 : n0 ≤ h0.size) (O0 : Old Z n0 h0) (F_q0_value : Fld Z h0 q0 "java/lang/String" "value" "[B" (.ref q2)) (A_q2 : Arv Z h0 q2 kp0 .byte 0 [] (.int 0)) (E_q0 : Exa Z h0 q0 "java/lang/String") : MetH l Z EL0 n0 N_prog_30_m_3 prog_30_method_3_code 3 (some (.object "java/lang/String")) [] R_rm19 #[.ref q0, .ref q1] h0 [] (fun vs v h ve => (v = some (.ref q1) ∧ (h0 = h))) := by
  refine MetH.of #[.val (.ref q0), .val (.ref q1), .unset] (plainFor_of_name pn_com_example_tight_calculus_tightcalculus_Report) rfl Z0 (fun p e s m below meth c T0 hret hml hnm hSL hs0 X0 => ?_)
  refine kALn X0 d4_0 rfl rfl ?_
  refine kVIRT X0 (gEL G) (argsL := []) (rest := []) (wd G 30 rfl) (wd G 31 rfl) (own_nf X0.hZ (own_noinst (wd G 6 rfl))) (wd G 33 rfl) (wd G 32 rfl) (wd G 7 rfl) (wd G 34 rfl) (by decide) E_q0 (rm5 G q0 q2 kp0 h0 X0.n O0 F_q0_value A_q2) all0 (lenOf pd___Z rfl) rfl 0 rfl (by decide) hml.symm d4_1 (fun v1 T2 h3 vm4 _ w5 q6 C7 C8 X9 => ?_)
  obtain ⟨e11, f12⟩ := q6
  subst e11
  subst f12
  show Go _ _ _ _ _ (mkF _ _ _ [.int 1])
  refine kIFf X9 d4_4 (XT.i0_eq_f (by decide)) ?_
  refine kALn X9 d4_7 rfl rfl ?_
  refine kASn X9 #[.val (.ref q0), .val (.ref q1), .val (.ref q1)] d4_8 rfl rfl ?_
  refine kGOTO X9 48 d4_9 (by decide) ?_
  refine kALn X9 d4_48 rfl rfl ?_
  exact kRETA X9 (gEL G) hret rfl rfl d4_49 (fun ve hve => ⟨rfl, rfl⟩) (by decide)
def R_rm21 : Room := { frames := 0, cells := 0, slots := 0, locals := 0 }
theorem rm21 (G : Glob Z a0 iCS vSI) (i0 : Int32) (q0 q1 : Addr) (kp0 : ClassId) (h0 : Heap) (Z0 : n0 ≤ h0.size) (O0 : Old Z n0 h0) (F_q0_coder : Fld Z h0 q0 "java/lang/String" "coder" "B" (.int 0)) : MetH l Z EL0 n0 N_jdk_42_m_152 jdk_42_method_152_code 1 (some .byte) [] R_rm21 #[.ref q0] h0 [] (fun vs v h ve => (v = some (.int 0) ∧ (h0 = h))) := by
  refine MetH.of #[.val (.ref q0)] (plainFor_of_name pn_java_lang_String) rfl Z0 (fun p e s m below meth c T0 hret hml hnm hSL hs0 X0 => ?_)
  refine kGETS X0 (wd G 45 rfl) Via.refl (Sta.ext O0.2 (S_CS G)) d7_0 (fun T1 X2 => ?_)
  refine kIFf X2 d7_3 (XT.i0_eq_f (n_CS G)) ?_
  refine kALn X2 d7_6 rfl rfl ?_
  refine kGETF X2 (wd G 25 rfl) Via.refl F_q0_coder d7_7 (fun T3 X4 => ?_)
  refine kGOTO X4 14 d7_10 (by decide) ?_
  exact kRETZ X4 (gEL G) (t := .byte) hret (by simp) d7_14 (fun ve hve => ⟨rfl, rfl⟩) (by decide)
def R_rm20 : Room := { frames := 1, cells := 0, slots := 0, locals := 13 }
theorem rm20 (G : Glob Z a0 iCS vSI) (i0 : Int32) (q0 q1 : Addr) (kp0 : ClassId) (h0 : Heap) (Z0 : n0 ≤ h0.size) (O0 : Old Z n0 h0) (F_q0_value : Fld Z h0 q0 "java/lang/String" "value" "[B" (.ref q1)) (A_q1 : Arv Z h0 q1 kp0 .byte 1 [.int i0] (.int 0)) (F_q0_coder : Fld Z h0 q0 "java/lang/String" "coder" "B" (.int 0)) (E_q0 : Exa Z h0 q0 "java/lang/String") : MetH l Z EL0 n0 N_jdk_42_m_54 jdk_42_method_54_code 1 (some .int) [] R_rm20 #[.ref q0] h0 [] (fun vs v h ve => (v = some (.int 1) ∧ (h0 = h))) := by
  refine MetH.of #[.val (.ref q0)] (plainFor_of_name pn_java_lang_String) rfl Z0 (fun p e s m below meth c T0 hret hml hnm hSL hs0 X0 => ?_)
  refine kALn X0 d6_0 rfl rfl ?_
  refine kGETF X0 (wd G 24 rfl) Via.refl F_q0_value d6_1 (fun T1 X2 => ?_)
  refine kLEN X2 A_q1 d6_4 ?_
  refine kALn X2 d6_5 rfl rfl ?_
  refine kVIRT X2 (gEL G) (argsL := []) (rest := [.int 1]) (wd G 40 rfl) (wd G 41 rfl) (own_nf X2.hZ (own_noinst (wd G 6 rfl))) (wd G 43 rfl) (wd G 42 rfl) (wd G 7 rfl) (wd G 44 rfl) (by decide) E_q0 (rm21 G i0 q0 q1 kp0 h0 X2.n O0 F_q0_coder) all0 (lenOf pd___B rfl) rfl 1 rfl (by decide) hml.symm d6_6 (fun v3 T4 h5 vm6 _ w7 q8 C9 C10 X11 => ?_)
  obtain ⟨e13, f14⟩ := q8
  subst e13
  subst f14
  show Go _ _ _ _ _ (mkF _ _ _ [.int 0, .int 1])
  refine kISHR X11 1 d6_9 (by decide) ?_
  exact kRETI X11 (gEL G) hret d6_10 (fun ve hve => ⟨rfl, rfl⟩) (by decide)
theorem d8_7 : decode method_4_code 7 = .ok (.aload_n 0, 1) := by decide +kernel
theorem d8_8 : decode method_4_code 8 = .ok (.iload_n 1, 1) := by decide +kernel
theorem d8_9 : decode method_4_code 9 = .ok (.invokevirtual 32, 3) := by decide +kernel
theorem d31_0 : decode jdk_42_method_56_code 0 = .ok (.aload_n 0, 1) := by decide +kernel
theorem d31_1 : decode jdk_42_method_56_code 1 = .ok (.invokevirtual 492, 3) := by decide +kernel
theorem d32_0 : decode jdk_42_method_154_code 0 = .ok (.getstatic 38, 3) := by decide +kernel
theorem d32_3 : decode jdk_42_method_154_code 3 = .ok (.ifCond .eq 14, 3) := by decide +kernel
theorem d32_6 : decode jdk_42_method_154_code 6 = .ok (.aload_n 0, 1) := by decide +kernel
theorem d32_7 : decode jdk_42_method_154_code 7 = .ok (.getfield 15, 3) := by decide +kernel
theorem d32_10 : decode jdk_42_method_154_code 10 = .ok (.ifCond .ne 7, 3) := by decide +kernel
theorem d32_13 : decode jdk_42_method_154_code 13 = .ok (.iconst 1, 1) := by decide +kernel
theorem d32_14 : decode jdk_42_method_154_code 14 = .ok (.goto 4, 3) := by decide +kernel
theorem d32_18 : decode jdk_42_method_154_code 18 = .ok (.ireturn, 1) := by decide +kernel
def N_jdk_42_m_154 : MethodName := ⟨"java/lang/String", "isLatin1", "()Z"⟩
def R_rm23 : Room := { frames := 0, cells := 0, slots := 0, locals := 0 }
theorem rm23 (G : Glob Z a0 iCS vSI) (i0 : Int32) (q0 q1 : Addr) (kp0 : ClassId) (L0 : List Value) (h0 : Heap) (Z0 : n0 ≤ h0.size) (O0 : Old Z n0 h0) (F_q0_coder : Fld Z h0 q0 "java/lang/String" "coder" "B" (.int 0)) : MetH l Z EL0 n0 N_jdk_42_m_154 jdk_42_method_154_code 1 (some .boolean) [] R_rm23 #[.ref q0] h0 [] (fun vs v h ve => (v = some (.int 1) ∧ (h0 = h))) := by
  refine MetH.of #[.val (.ref q0)] (plainFor_of_name pn_java_lang_String) rfl Z0 (fun p e s m below meth c T0 hret hml hnm hSL hs0 X0 => ?_)
  refine kGETS X0 (wd G 45 rfl) Via.refl (Sta.ext O0.2 (S_CS G)) d32_0 (fun T1 X2 => ?_)
  refine kIFf X2 d32_3 (XT.i0_eq_f (n_CS G)) ?_
  refine kALn X2 d32_6 rfl rfl ?_
  refine kGETF X2 (wd G 25 rfl) Via.refl F_q0_coder d32_7 (fun T3 X4 => ?_)
  refine kIFf X4 d32_10 (XT.i0_ne_f (by decide)) ?_
  refine kIC X4 1 d32_13 (by decide) ?_
  refine kGOTO X4 18 d32_14 (by decide) ?_
  exact kRETZ X4 (gEL G) (t := .boolean) hret (by simp) d32_18 (fun ve hve => ⟨rfl, rfl⟩) (by decide)
theorem pn_jdk_internal_util_Preconditions : plainName "jdk/internal/util/Preconditions" = true := by first | (simp [plainName, overriddenIn]; done) | decide +kernel
theorem d31_4 : decode jdk_42_method_56_code 4 = .ok (.ifCond .eq 12, 3) := by decide +kernel
theorem d31_7 : decode jdk_42_method_56_code 7 = .ok (.aload_n 0, 1) := by decide +kernel
theorem d31_8 : decode jdk_42_method_56_code 8 = .ok (.getfield 9, 3) := by decide +kernel
theorem d31_11 : decode jdk_42_method_56_code 11 = .ok (.iload_n 1, 1) := by decide +kernel
theorem d31_12 : decode jdk_42_method_56_code 12 = .ok (.invokestatic 495, 3) := by decide +kernel
theorem d33_0 : decode jdk_43_method_2_code 0 = .ok (.iload_n 1, 1) := by decide +kernel
theorem d33_1 : decode jdk_43_method_2_code 1 = .ok (.aload_n 0, 1) := by decide +kernel
theorem d33_2 : decode jdk_43_method_2_code 2 = .ok (.arraylength, 1) := by decide +kernel
theorem d33_3 : decode jdk_43_method_2_code 3 = .ok (.invokestatic 9, 3) := by decide +kernel
theorem d34_0 : decode jdk_42_method_155_code 0 = .ok (.iload_n 0, 1) := by decide +kernel
theorem d34_1 : decode jdk_42_method_155_code 1 = .ok (.iload_n 1, 1) := by decide +kernel
theorem d34_2 : decode jdk_42_method_155_code 2 = .ok (.getstatic 1053, 3) := by decide +kernel
theorem d34_5 : decode jdk_42_method_155_code 5 = .ok (.invokestatic 1059, 3) := by decide +kernel
theorem d35_0 : decode jdk_41_method_11_code 0 = .ok (.iload_n 0, 1) := by decide +kernel
theorem d35_1 : decode jdk_41_method_11_code 1 = .ok (.ifCond .lt 8, 3) := by decide +kernel
theorem d35_4 : decode jdk_41_method_11_code 4 = .ok (.iload_n 0, 1) := by decide +kernel
theorem d35_5 : decode jdk_41_method_11_code 5 = .ok (.iload_n 1, 1) := by decide +kernel
theorem d35_6 : decode jdk_41_method_11_code 6 = .ok (.if_icmp .lt 10, 3) := by decide +kernel
theorem d35_16 : decode jdk_41_method_11_code 16 = .ok (.iload_n 0, 1) := by decide +kernel
theorem d35_17 : decode jdk_41_method_11_code 17 = .ok (.ireturn, 1) := by decide +kernel
def N_jdk_41_m_11 : MethodName := ⟨"jdk/internal/util/Preconditions", "checkIndex", "(IILjava/util/function/BiFunction;)I"⟩
def R_gm_jdk_internal_util_Preconditions_checkIndex : Room := { frames := 0, cells := 0, slots := 0, locals := 0 }
theorem gm_jdk_internal_util_Preconditions_checkIndex (G : Glob Z a0 iCS vSI) (i0 i1 : Int32) (h0 : Heap) (Z0 : n0 ≤ h0.size) (O0 : Old Z n0 h0) (c_0 : ¬ i0 < 0) (c_1 : i0 < i1) : MetH l Z EL0 n0 N_jdk_41_m_11 jdk_41_method_11_code 3 (some .int) [] R_gm_jdk_internal_util_Preconditions_checkIndex #[.int i0, .int i1, vSI] h0 [] (fun vs v h ve => (v = some (.int i0) ∧ (h0 = h))) := by
  refine MetH.of #[.val (.int i0), .val (.int i1), .val (vSI)] (plainFor_of_name pn_jdk_internal_util_Preconditions) (own_ref (P := fun v => (#[.val (.int i0), .val (.int i1), .val (v)] : Array Slot) = (ownLay [.int i0, .int i1, v] ++ List.replicate (3 - (ownLay [.int i0, .int i1, v]).length) Slot.unset).toArray) (r_SI G) rfl (fun _ => rfl)) Z0 (fun p e s m below meth c T0 hret hml hnm hSL hs0 X0 => ?_)
  refine kILn X0 d35_0 rfl ?_
  refine kIFf X0 d35_1 (XT.i0_lt_f c_0) ?_
  refine kILn X0 d35_4 rfl ?_
  refine kILn X0 d35_5 rfl ?_
  refine kICt X0 16 d35_6 (XT.ii_lt_t c_1) (by decide) ?_
  refine kILn X0 d35_16 rfl ?_
  exact kRETI X0 (gEL G) hret d35_17 (fun ve hve => ⟨rfl, rfl⟩) (by decide)
theorem pd__IILjava_util_function_BiFunction__I : parseMethodDescriptor "(IILjava/util/function/BiFunction;)I" = some ⟨[.int, .int, .object "java/util/function/BiFunction"], some .int⟩ := by decide +kernel
theorem d34_8 : decode jdk_42_method_155_code 8 = .ok (.pop, 1) := by decide +kernel
theorem d34_9 : decode jdk_42_method_155_code 9 = .ok (.return_, 1) := by decide +kernel
def N_jdk_42_m_155 : MethodName := ⟨"java/lang/String", "checkIndex", "(II)V"⟩
def R_gm_java_lang_String_checkIndex : Room := { frames := 1, cells := 0, slots := 0, locals := 14 }
theorem gm_java_lang_String_checkIndex (G : Glob Z a0 iCS vSI) (i0 i1 : Int32) (h0 : Heap) (Z0 : n0 ≤ h0.size) (O0 : Old Z n0 h0) (c_0 : ¬ i0 < 0) (c_1 : i0 < i1) : MetH l Z EL0 n0 N_jdk_42_m_155 jdk_42_method_155_code 2 none [] R_gm_java_lang_String_checkIndex #[.int i0, .int i1] h0 [] (fun vs v h ve => (v = none ∧ (h0 = h))) := by
  refine MetH.of #[.val (.int i0), .val (.int i1)] (plainFor_of_name pn_java_lang_String) rfl Z0 (fun p e s m below meth c T0 hret hml hnm hSL hs0 X0 => ?_)
  refine kILn X0 d34_0 rfl ?_
  refine kILn X0 d34_1 rfl ?_
  refine kGETS X0 (wd G 178 rfl) Via.refl (Sta.ext O0.2 (S_SI G)) d34_2 (fun T1 X2 => ?_)
  refine kSTAT X2 (gEL G) (argsL := [.int i0, .int i1, vSI]) (rest := []) (wd G 180 rfl) (wd G 181 rfl) (wd G 179 rfl) (wd G 182 rfl) (by decide) (gm_jdk_internal_util_Preconditions_checkIndex G i0 i1 h0 X2.n O0 c_0 c_1) all0 (lenOf pd__IILjava_util_function_BiFunction__I rfl) rfl 0 rfl (by decide) hml.symm d34_5 (fun v3 T4 h5 vm6 _ w7 q8 C9 C10 X11 => ?_)
  obtain ⟨e13, f14⟩ := q8
  subst e13
  subst f14
  show Go _ _ _ _ _ (mkF _ _ _ [.int i0])
  refine kPOP X11 d34_8 rfl ?_
  exact kRETV X11 (gEL G) hret d34_9 (fun ve hve => ⟨rfl, rfl⟩) (by decide)
theorem pn_java_lang_StringLatin1 : plainName "java/lang/StringLatin1" = true := by first | (simp [plainName, overriddenIn]; done) | decide +kernel
theorem pd__II_V : parseMethodDescriptor "(II)V" = some ⟨[.int, .int], none⟩ := by decide +kernel
theorem d33_6 : decode jdk_43_method_2_code 6 = .ok (.aload_n 0, 1) := by decide +kernel
theorem d33_7 : decode jdk_43_method_2_code 7 = .ok (.iload_n 1, 1) := by decide +kernel
theorem d33_8 : decode jdk_43_method_2_code 8 = .ok (.baload, 1) := by decide +kernel
theorem d33_9 : decode jdk_43_method_2_code 9 = .ok (.sipush 255, 3) := by decide +kernel
theorem d33_12 : decode jdk_43_method_2_code 12 = .ok (.iand, 1) := by decide +kernel
theorem d33_13 : decode jdk_43_method_2_code 13 = .ok (.i2c, 1) := by decide +kernel
theorem d33_14 : decode jdk_43_method_2_code 14 = .ok (.ireturn, 1) := by decide +kernel
def N_jdk_43_m_2 : MethodName := ⟨"java/lang/StringLatin1", "charAt", "([BI)C"⟩
def R_gm_ca1 : Room := { frames := 2, cells := 0, slots := 0, locals := 27 }
theorem gm_ca1 (G : Glob Z a0 iCS vSI) (i0 i1 bb cc : Int32) (L0 : List Value) (q0 : Addr) (kp0 : ClassId) (h0 : Heap) (Z0 : n0 ≤ h0.size) (O0 : Old Z n0 h0) (hv : L0.getD i0.toNatClampNeg (.int 0) = .int bb) (hcc : (bb &&& (255 : Int32)) = cc) (A_q0 : Arv Z h0 q0 kp0 .byte i1 L0 (.int 0)) (c_0 : ¬ i0 < 0) (c_1 : i0 < i1) : MetH l Z EL0 n0 N_jdk_43_m_2 jdk_43_method_2_code 2 (some .char) [] R_gm_ca1 #[.ref q0, .int i0] h0 [] (fun vs v h ve => (v = some (.int cc) ∧ (h0 = h))) := by
  refine MetH.of #[.val (.ref q0), .val (.int i0)] (plainFor_of_name pn_java_lang_StringLatin1) rfl Z0 (fun p e s m below meth c T0 hret hml hnm hSL hs0 X0 => ?_)
  refine kILn X0 d33_0 rfl ?_
  refine kALn X0 d33_1 rfl rfl ?_
  refine kLEN X0 A_q0 d33_2 ?_
  refine kSTAT X0 (gEL G) (argsL := [.int i0, .int i1]) (rest := []) (wd G 175 rfl) (wd G 176 rfl) (wd G 7 rfl) (wd G 177 rfl) (by decide) (gm_java_lang_String_checkIndex G i0 i1 h0 X0.n O0 c_0 c_1) all0 (lenOf pd__II_V rfl) rfl 0 rfl (by decide) hml.symm d33_3 (fun v1 T2 h3 vm4 _ w5 q6 C7 C8 X9 => ?_)
  obtain ⟨e11, f12⟩ := q6
  subst e11
  subst f12
  show Go _ _ _ _ _ (mkF _ _ _ [])
  refine kALn X9 d33_6 rfl rfl ?_
  refine kILn X9 d33_7 rfl ?_
  refine kBALD X9 (.int bb) A_q0 ⟨c_0, c_1⟩ hv d33_8 ?_
  refine kSI X9 255 d33_9 (by decide) ?_
  refine kIAND X9 cc d33_12 hcc ?_
  refine kI2C X9 cc d33_13 (own_cc hcc) ?_
  exact kRETZ X9 (gEL G) (t := .char) hret (by simp) d33_14 (fun ve hve => ⟨(by rw [own_ncc hcc]), rfl⟩) (by decide)
theorem pd___BI_C : parseMethodDescriptor "([BI)C" = some ⟨[.array (.byte), .int], some .char⟩ := by decide +kernel
theorem d31_15 : decode jdk_42_method_56_code 15 = .ok (.ireturn, 1) := by decide +kernel
def N_jdk_42_m_56 : MethodName := ⟨"java/lang/String", "charAt", "(I)C"⟩
def R_gm_ca2 : Room := { frames := 3, cells := 0, slots := 0, locals := 40 }
theorem gm_ca2 (G : Glob Z a0 iCS vSI) (i0 i1 bb cc : Int32) (L0 : List Value) (q0 q1 : Addr) (kp0 : ClassId) (h0 : Heap) (Z0 : n0 ≤ h0.size) (O0 : Old Z n0 h0) (hv : L0.getD i0.toNatClampNeg (.int 0) = .int bb) (hcc : (bb &&& (255 : Int32)) = cc) (F_q0_coder : Fld Z h0 q0 "java/lang/String" "coder" "B" (.int 0)) (E_q0 : Exa Z h0 q0 "java/lang/String") (F_q0_value : Fld Z h0 q0 "java/lang/String" "value" "[B" (.ref q1)) (A_q1 : Arv Z h0 q1 kp0 .byte i1 L0 (.int 0)) (c_0 : ¬ i0 < 0) (c_1 : i0 < i1) : MetH l Z EL0 n0 N_jdk_42_m_56 jdk_42_method_56_code 2 (some .char) [] R_gm_ca2 #[.ref q0, .int i0] h0 [] (fun vs v h ve => (v = some (.int cc) ∧ (h0 = h))) := by
  refine MetH.of #[.val (.ref q0), .val (.int i0)] (plainFor_of_name pn_java_lang_String) rfl Z0 (fun p e s m below meth c T0 hret hml hnm hSL hs0 X0 => ?_)
  refine kALn X0 d31_0 rfl rfl ?_
  refine kVIRT X0 (gEL G) (argsL := []) (rest := []) (wd G 166 rfl) (wd G 167 rfl) (own_nf X0.hZ (own_noinst (wd G 6 rfl))) (wd G 169 rfl) (wd G 168 rfl) (wd G 7 rfl) (wd G 170 rfl) (by decide) E_q0 (rm23 G i1 q0 q1 kp0 L0 h0 X0.n O0 F_q0_coder) all0 (lenOf pd___Z rfl) rfl 0 rfl (by decide) hml.symm d31_1 (fun v1 T2 h3 vm4 _ w5 q6 C7 C8 X9 => ?_)
  obtain ⟨e11, f12⟩ := q6
  subst e11
  subst f12
  show Go _ _ _ _ _ (mkF _ _ _ [.int 1])
  refine kIFf X9 d31_4 (XT.i0_eq_f (by decide)) ?_
  refine kALn X9 d31_7 rfl rfl ?_
  refine kGETF X9 (wd G 24 rfl) Via.refl F_q0_value d31_8 (fun T13 X14 => ?_)
  refine kILn X14 d31_11 rfl ?_
  refine kSTAT X14 (gEL G) (argsL := [.ref q1, .int i0]) (rest := []) (wd G 171 rfl) (wd G 172 rfl) (wd G 173 rfl) (wd G 174 rfl) (by decide) (gm_ca1 G i0 i1 bb cc L0 q1 kp0 h0 X14.n O0 hv hcc A_q1 c_0 c_1) all0 (lenOf pd___BI_C rfl) rfl 0 rfl (by decide) hml.symm d31_12 (fun v15 T16 h17 vm18 _ w19 q20 C21 C22 X23 => ?_)
  obtain ⟨e25, f26⟩ := q20
  subst e25
  subst f26
  show Go _ _ _ _ _ (mkF _ _ _ [.int cc])
  exact kRETZ X23 (gEL G) (t := .char) hret (by simp) d31_15 (fun ve hve => ⟨(by rw [own_ncc hcc]), rfl⟩) (by decide)
theorem pd__I_C : parseMethodDescriptor "(I)C" = some ⟨[.int], some .char⟩ := by decide +kernel
theorem d8_12 : decode method_4_code 12 = .ok (.iload_n 1, 1) := by decide +kernel
theorem d8_13 : decode method_4_code 13 = .ok (.aload_n 3, 1) := by decide +kernel
theorem d8_14 : decode method_4_code 14 = .ok (.iload 4, 2) := by decide +kernel
theorem d8_16 : decode method_4_code 16 = .ok (.aload 5, 2) := by decide +kernel
theorem d8_18 : decode method_4_code 18 = .ok (.iload 6, 2) := by decide +kernel
theorem d8_20 : decode method_4_code 20 = .ok (.invokestatic 36, 3) := by decide +kernel
theorem d36_0 : decode method_5_code 0 = .ok (.iload_n 0, 1) := by decide +kernel
theorem d36_1 : decode method_5_code 1 = .ok (.iload_n 2, 1) := by decide +kernel
theorem d36_2 : decode method_5_code 2 = .ok (.if_icmp .ge 11, 3) := by decide +kernel
theorem d36_13 : decode method_5_code 13 = .ok (.iload_n 2, 1) := by decide +kernel
theorem d36_14 : decode method_5_code 14 = .ok (.ifCond .le 32, 3) := by decide +kernel
theorem d36_46 : decode method_5_code 46 = .ok (.aload_n 3, 1) := by decide +kernel
theorem d36_47 : decode method_5_code 47 = .ok (.iload_n 0, 1) := by decide +kernel
theorem d36_48 : decode method_5_code 48 = .ok (.iload_n 2, 1) := by decide +kernel
theorem d36_49 : decode method_5_code 49 = .ok (.isub, 1) := by decide +kernel
theorem d36_50 : decode method_5_code 50 = .ok (.caload, 1) := by decide +kernel
theorem d36_51 : decode method_5_code 51 = .ok (.istore 5, 2) := by decide +kernel
theorem d36_53 : decode method_5_code 53 = .ok (.iload 5, 2) := by decide +kernel
theorem d36_55 : decode method_5_code 55 = .ok (.ireturn, 1) := by decide +kernel
def N_m_5 : MethodName := ⟨"com/example/tight_calculus/tightcalculus/ReportWordsPinLaw", "expectedAt", "(I[CI[CI)C"⟩
def R_rm24 : Room := { frames := 0, cells := 0, slots := 0, locals := 0 }
theorem rm24 (G : Glob Z a0 iCS vSI) (i0 : Int32) (q0 q1 : Addr) (kp0 kp1 : ClassId) (h0 : Heap) (Z0 : n0 ≤ h0.size) (O0 : Old Z n0 h0) (A_q1 : Arv Z h0 q1 kp1 .char 1 [.int i0] (.int 0)) (c_0 : ¬ (255 : Int32) < i0) (c_1 : ¬ i0 < 0) : MetH l Z EL0 n0 N_m_5 method_5_code 6 (some .char) [] R_rm24 #[.int 0, .ref q0, .int 0, .ref q1, .int 1] h0 [] (fun vs v h ve => (v = some (.int i0) ∧ (h0 = h))) := by
  refine MetH.of #[.val (.int 0), .val (.ref q0), .val (.int 0), .val (.ref q1), .val (.int 1), .unset] (plainFor_of_name pn_com_example_tight_calculus_tightcalculus_ReportWordsPinLaw) rfl Z0 (fun p e s m below meth c T0 hret hml hnm hSL hs0 X0 => ?_)
  refine kILn X0 d36_0 rfl ?_
  refine kILn X0 d36_1 rfl ?_
  refine kICt X0 13 d36_2 (XT.ii_ge_t (by decide)) (by decide) ?_
  refine kILn X0 d36_13 rfl ?_
  refine kIFt X0 46 d36_14 (XT.i0_le_t (by decide)) (by decide) ?_
  refine kALn X0 d36_46 rfl rfl ?_
  refine kILn X0 d36_47 rfl ?_
  refine kILn X0 d36_48 rfl ?_
  refine kISUB X0 0 d36_49 (by decide) ?_
  refine kCALD X0 (.int i0) A_q1 (by decide) rfl d36_50 ?_
  refine kIS X0 #[.val (.int 0), .val (.ref q0), .val (.int 0), .val (.ref q1), .val (.int 1), .val (.int i0)] d36_51 rfl ?_
  refine kIL X0 d36_53 rfl ?_
  exact kRETZ X0 (gEL G) (t := .char) hret (by simp) d36_55 (fun ve hve => ⟨(by rw [(own_nc c_0 c_1)]), rfl⟩) (by decide)
theorem pd__I_CI_CI_C : parseMethodDescriptor "(I[CI[CI)C" = some ⟨[.int, .array (.char), .int, .array (.char), .int], some .char⟩ := by decide +kernel
theorem d8_23 : decode method_4_code 23 = .ok (.if_icmp .ne 7, 3) := by decide +kernel
theorem d8_26 : decode method_4_code 26 = .ok (.iconst 1, 1) := by decide +kernel
theorem d8_27 : decode method_4_code 27 = .ok (.goto 4, 3) := by decide +kernel
theorem d8_31 : decode method_4_code 31 = .ok (.ireturn, 1) := by decide +kernel
theorem d8_30 : decode method_4_code 30 = .ok (.iconst 0, 1) := by decide +kernel
def R_rm22 : Room := { frames := 4, cells := 0, slots := 0, locals := 53 }
theorem rm22 (G : Glob Z a0 iCS vSI) (i0 i1 : Int32) (q0 q1 q2 q3 : Addr) (kp0 kp1 kp2 : ClassId) (h0 : Heap) (Z0 : n0 ≤ h0.size) (O0 : Old Z n0 h0) (F_q0_coder : Fld Z h0 q0 "java/lang/String" "coder" "B" (.int 0)) (E_q0 : Exa Z h0 q0 "java/lang/String") (F_q0_value : Fld Z h0 q0 "java/lang/String" "value" "[B" (.ref q3)) (A_q3 : Arv Z h0 q3 kp2 .byte 1 [.int i1] (.int 0)) (c_0 : ¬ (255 : Int32) < i0) (c_1 : ¬ i0 < 0) (A_q2 : Arv Z h0 q2 kp1 .char 1 [.int i0] (.int 0)) : MetH l Z EL0 n0 N_m_4 method_4_code 7 (some .boolean) [] R_rm22 #[.ref q0, .int 0, .int 1, .ref q1, .int 0, .ref q2, .int 1] h0 [] (fun vs v h ve => (v = some (.int 1) ∧ ((i1 &&& (255 : Int32)) = i0) ∧ (h0 = h)) ∨ (v = some (.int 0) ∧ (¬ (i1 &&& (255 : Int32)) = i0) ∧ (h0 = h))) := by
  refine MetH.of #[.val (.ref q0), .val (.int 0), .val (.int 1), .val (.ref q1), .val (.int 0), .val (.ref q2), .val (.int 1)] (plainFor_of_name pn_com_example_tight_calculus_tightcalculus_ReportWordsPinLaw) rfl Z0 (fun p e s m below meth c T0 hret hml hnm hSL hs0 X0 => ?_)
  refine kILn X0 d8_0 rfl ?_
  refine kILn X0 d8_1 rfl ?_
  refine kICt X0 7 d8_2 (XT.ii_lt_t (by decide)) (by decide) ?_
  refine kALn X0 d8_7 rfl rfl ?_
  refine kILn X0 d8_8 rfl ?_
  refine kVIRT X0 (gEL G) (argsL := [.int 0]) (rest := []) (wd G 161 rfl) (wd G 162 rfl) (own_nf X0.hZ (own_noinst (wd G 6 rfl))) (wd G 164 rfl) (wd G 163 rfl) (wd G 7 rfl) (wd G 165 rfl) (by decide) E_q0 (gm_ca2 G (0 : Int32) (1 : Int32) i1 (i1 &&& (255 : Int32)) ([.int i1]) q0 q3 kp2 h0 X0.n O0 rfl rfl F_q0_coder E_q0 F_q0_value A_q3 (by decide) (by decide)) all0 (lenOf pd__I_C rfl) rfl 0 rfl (by decide) hml.symm d8_9 (fun v1 T2 h3 vm4 _ w5 q6 C7 C8 X9 => ?_)
  obtain ⟨e11, f12⟩ := q6
  subst e11
  subst f12
  show Go _ _ _ _ _ (mkF _ _ _ [.int (i1 &&& (255 : Int32))])
  refine kILn X9 d8_12 rfl ?_
  refine kALn X9 d8_13 rfl rfl ?_
  refine kIL X9 d8_14 rfl ?_
  refine kAL X9 d8_16 rfl rfl ?_
  refine kIL X9 d8_18 rfl ?_
  refine kSTAT X9 (gEL G) (argsL := [.int 0, .ref q1, .int 0, .ref q2, .int 1]) (rest := [.int (i1 &&& (255 : Int32))]) (wd G 183 rfl) (wd G 184 rfl) (wd G 2 rfl) (wd G 185 rfl) (by decide) (rm24 G i0 q1 q2 kp0 kp1 h0 X9.n O0 A_q2 c_0 c_1) all0 (lenOf pd__I_CI_CI_C rfl) rfl 1 rfl (by decide) hml.symm d8_20 (fun v13 T14 h15 vm16 _ w17 q18 C19 C20 X21 => ?_)
  obtain ⟨e23, f24⟩ := q18
  subst e23
  subst f24
  show Go _ _ _ _ _ (mkF _ _ _ [.int i0, .int (i1 &&& (255 : Int32))])
  by_cases c25 : (i1 &&& (255 : Int32)) = i0
  · refine kICf X21 d8_23 (XT.ii_ne_f c25) ?_
    refine kIC X21 1 d8_26 (by decide) ?_
    refine kGOTO X21 31 d8_27 (by decide) ?_
    exact kRETZ X21 (gEL G) (t := .boolean) hret (by simp) d8_31 (fun ve hve => Or.inl (⟨rfl, c25, rfl⟩)) (by decide)
  · refine kICt X21 30 d8_23 (XT.ii_ne_t c25) (by decide) ?_
    refine kIC X21 0 d8_30 (by decide) ?_
    exact kRETZ X21 (gEL G) (t := .boolean) hret (by simp) d8_31 (fun ve hve => Or.inr (⟨rfl, c25, rfl⟩)) (by decide)
def R_rm25 : Room := { frames := 0, cells := 0, slots := 0, locals := 0 }
theorem rm25 (G : Glob Z a0 iCS vSI) (i0 i1 : Int32) (q0 q1 q2 q3 : Addr) (kp0 kp1 kp2 : ClassId) (h0 : Heap) (Z0 : n0 ≤ h0.size) (O0 : Old Z n0 h0)  : MetH l Z EL0 n0 N_m_4 method_4_code 7 (some .boolean) [] R_rm25 #[.ref q0, .int 1, .int 1, .ref q1, .int 0, .ref q2, .int 1] h0 [] (fun vs v h ve => (v = some (.int 1) ∧ (h0 = h))) := by
  refine MetH.of #[.val (.ref q0), .val (.int 1), .val (.int 1), .val (.ref q1), .val (.int 0), .val (.ref q2), .val (.int 1)] (plainFor_of_name pn_com_example_tight_calculus_tightcalculus_ReportWordsPinLaw) rfl Z0 (fun p e s m below meth c T0 hret hml hnm hSL hs0 X0 => ?_)
  refine kILn X0 d8_0 rfl ?_
  refine kILn X0 d8_1 rfl ?_
  refine kICf X0 d8_2 (XT.ii_lt_f (by decide)) ?_
  refine kIC X0 1 d8_5 (by decide) ?_
  exact kRETZ X0 (gEL G) (t := .boolean) hret (by simp) d8_6 (fun ve hve => ⟨rfl, rfl⟩) (by decide)
def R_rm26 : Room := { frames := 0, cells := 0, slots := 0, locals := 0 }
theorem rm26 (G : Glob Z a0 iCS vSI) (i0 i1 : Int32) (q0 q1 q2 q3 : Addr) (kp0 kp1 kp2 : ClassId) (h0 : Heap) (Z0 : n0 ≤ h0.size) (O0 : Old Z n0 h0)  : MetH l Z EL0 n0 N_m_4 method_4_code 7 (some .boolean) [] R_rm26 #[.ref q0, .int 2, .int 1, .ref q1, .int 0, .ref q2, .int 1] h0 [] (fun vs v h ve => (v = some (.int 1) ∧ (h0 = h))) := by
  refine MetH.of #[.val (.ref q0), .val (.int 2), .val (.int 1), .val (.ref q1), .val (.int 0), .val (.ref q2), .val (.int 1)] (plainFor_of_name pn_com_example_tight_calculus_tightcalculus_ReportWordsPinLaw) rfl Z0 (fun p e s m below meth c T0 hret hml hnm hSL hs0 X0 => ?_)
  refine kILn X0 d8_0 rfl ?_
  refine kILn X0 d8_1 rfl ?_
  refine kICf X0 d8_2 (XT.ii_lt_f (by decide)) ?_
  refine kIC X0 1 d8_5 (by decide) ?_
  exact kRETZ X0 (gEL G) (t := .boolean) hret (by simp) d8_6 (fun ve hve => ⟨rfl, rfl⟩) (by decide)
def R_rm27 : Room := { frames := 0, cells := 0, slots := 0, locals := 0 }
theorem rm27 (G : Glob Z a0 iCS vSI) (i0 i1 : Int32) (q0 q1 q2 q3 : Addr) (kp0 kp1 kp2 : ClassId) (h0 : Heap) (Z0 : n0 ≤ h0.size) (O0 : Old Z n0 h0)  : MetH l Z EL0 n0 N_m_4 method_4_code 7 (some .boolean) [] R_rm27 #[.ref q0, .int 3, .int 1, .ref q1, .int 0, .ref q2, .int 1] h0 [] (fun vs v h ve => (v = some (.int 1) ∧ (h0 = h))) := by
  refine MetH.of #[.val (.ref q0), .val (.int 3), .val (.int 1), .val (.ref q1), .val (.int 0), .val (.ref q2), .val (.int 1)] (plainFor_of_name pn_com_example_tight_calculus_tightcalculus_ReportWordsPinLaw) rfl Z0 (fun p e s m below meth c T0 hret hml hnm hSL hs0 X0 => ?_)
  refine kILn X0 d8_0 rfl ?_
  refine kILn X0 d8_1 rfl ?_
  refine kICf X0 d8_2 (XT.ii_lt_f (by decide)) ?_
  refine kIC X0 1 d8_5 (by decide) ?_
  exact kRETZ X0 (gEL G) (t := .boolean) hret (by simp) d8_6 (fun ve hve => ⟨rfl, rfl⟩) (by decide)
def R_rm28 : Room := { frames := 0, cells := 0, slots := 0, locals := 0 }
theorem rm28 (G : Glob Z a0 iCS vSI) (i0 i1 : Int32) (q0 q1 q2 q3 : Addr) (kp0 kp1 kp2 : ClassId) (h0 : Heap) (Z0 : n0 ≤ h0.size) (O0 : Old Z n0 h0)  : MetH l Z EL0 n0 N_m_4 method_4_code 7 (some .boolean) [] R_rm28 #[.ref q0, .int 4, .int 1, .ref q1, .int 0, .ref q2, .int 1] h0 [] (fun vs v h ve => (v = some (.int 1) ∧ (h0 = h))) := by
  refine MetH.of #[.val (.ref q0), .val (.int 4), .val (.int 1), .val (.ref q1), .val (.int 0), .val (.ref q2), .val (.int 1)] (plainFor_of_name pn_com_example_tight_calculus_tightcalculus_ReportWordsPinLaw) rfl Z0 (fun p e s m below meth c T0 hret hml hnm hSL hs0 X0 => ?_)
  refine kILn X0 d8_0 rfl ?_
  refine kILn X0 d8_1 rfl ?_
  refine kICf X0 d8_2 (XT.ii_lt_f (by decide)) ?_
  refine kIC X0 1 d8_5 (by decide) ?_
  exact kRETZ X0 (gEL G) (t := .boolean) hret (by simp) d8_6 (fun ve hve => ⟨rfl, rfl⟩) (by decide)
theorem d0_49 : decode method_3_code 49 = .ok (.iconst 2, 1) := by decide +kernel
theorem d0_50 : decode method_3_code 50 = .ok (.newarray .char, 2) := by decide +kernel
theorem d0_52 : decode method_3_code 52 = .ok (.dup, 1) := by decide +kernel
theorem d0_53 : decode method_3_code 53 = .ok (.iconst 0, 1) := by decide +kernel
theorem d0_54 : decode method_3_code 54 = .ok (.iload_n 2, 1) := by decide +kernel
theorem d0_55 : decode method_3_code 55 = .ok (.castore, 1) := by decide +kernel
theorem d0_56 : decode method_3_code 56 = .ok (.dup, 1) := by decide +kernel
theorem d0_57 : decode method_3_code 57 = .ok (.iconst 1, 1) := by decide +kernel
theorem d0_58 : decode method_3_code 58 = .ok (.iload_n 3, 1) := by decide +kernel
theorem d0_59 : decode method_3_code 59 = .ok (.castore, 1) := by decide +kernel
theorem d0_60 : decode method_3_code 60 = .ok (.astore 4, 2) := by decide +kernel
def R_rm29 : Room := { frames := 0, cells := 1, slots := 2, locals := 0 }
theorem rm29 (G : Glob Z a0 iCS vSI) (i0 : Int32) (h0 : Heap) (Z0 : n0 ≤ h0.size) (O0 : Old Z n0 h0)  : MetH l Z EL0 n0 N_m_3 method_3_code 5 (some (.array (.char))) [] R_rm29 #[.int 2, .int i0] h0 [] (fun vs v h ve => (∃ (x0 : Addr), ∃ (z0 : ClassId), v = some (.ref x0) ∧ (Keep h0 h []) ∧ (h0.size ≤ x0) ∧ (Arv Z h x0 z0 .char 2 [.int ((XT.ushr i0 (8 : Int32)) &&& (255 : Int32)), .int ((XT.ushr i0 (16 : Int32)) &&& (255 : Int32))] (.int 0)))) := by
  refine MetH.of #[.val (.int 2), .val (.int i0), .unset, .unset, .unset] (plainFor_of_name pn_com_example_tight_calculus_tightcalculus_ReportWordsPinLaw) rfl Z0 (fun p e s m below meth c T0 hret hml hnm hSL hs0 X0 => ?_)
  refine kILn X0 d0_0 rfl ?_
  refine kBI X0 8 d0_1 (by decide) ?_
  refine kIUSHR X0 (XT.ushr i0 (8 : Int32)) d0_3 rfl ?_
  refine kSI X0 255 d0_4 (by decide) ?_
  refine kIAND X0 ((XT.ushr i0 (8 : Int32)) &&& (255 : Int32)) d0_7 rfl ?_
  refine kI2C X0 ((XT.ushr i0 (8 : Int32)) &&& (255 : Int32)) d0_8 (i2c_mask _) ?_
  refine kISn X0 #[.val (.int 2), .val (.int i0), .val (.int ((XT.ushr i0 (8 : Int32)) &&& (255 : Int32))), .unset, .unset] d0_9 rfl ?_
  refine kILn X0 d0_10 rfl ?_
  refine kBI X0 16 d0_11 (by decide) ?_
  refine kIUSHR X0 (XT.ushr i0 (16 : Int32)) d0_13 rfl ?_
  refine kSI X0 255 d0_14 (by decide) ?_
  refine kIAND X0 ((XT.ushr i0 (16 : Int32)) &&& (255 : Int32)) d0_17 rfl ?_
  refine kI2C X0 ((XT.ushr i0 (16 : Int32)) &&& (255 : Int32)) d0_18 (i2c_mask _) ?_
  refine kISn X0 #[.val (.int 2), .val (.int i0), .val (.int ((XT.ushr i0 (8 : Int32)) &&& (255 : Int32))), .val (.int ((XT.ushr i0 (16 : Int32)) &&& (255 : Int32))), .unset] d0_19 rfl ?_
  refine kILn X0 d0_20 rfl ?_
  refine kIFt X0 32 d0_21 (XT.i0_ne_t (by decide)) (by decide) ?_
  refine kILn X0 d0_32 rfl ?_
  refine kIC X0 1 d0_33 (by decide) ?_
  refine kICt X0 49 d0_34 (XT.ii_ne_t (by decide)) (by decide) ?_
  refine kIC X0 2 d0_49 (by decide) ?_
  refine kNEWP X0 (wd G 4 rfl) (cap := 2) d0_50 (by decide) (by decide) (by decide) (by decide) (by decide) (fun T1 h2 a4 k5 E6 q7 g8 A9 s10 X3 => ?_)
  have g11 : h0.size ≤ a4 := q7 ▸ X0.g0
  have f12 : Arv Z h2 a4 k5 .char 2 [.int 0, .int 0] (.int 0) := A9.pad (pad_rep [] _ 2)
  refine kDUP X3 d0_52 rfl ?_
  refine kIC X3 0 d0_53 (by decide) ?_
  refine kILn X3 d0_54 rfl ?_
  refine kCASTO X3 f12 (by decide) 0 ((XT.ushr i0 (8 : Int32)) &&& (255 : Int32)) (own_nc (own_mask _).1 (own_mask _).2) (by decide) (by show 0 < 2; decide) g8 (Safe.arv X3.hZ.alike f12 (by decide)) d0_55 (fun T13 h14 L16 W17 f18 X15 => ?_)
  have f19 : Arv Z h14 a4 k5 .char 2 [.int ((XT.ushr i0 (8 : Int32)) &&& (255 : Int32)), .int 0] (.int 0) := f18
  refine kDUP X15 d0_56 rfl ?_
  refine kIC X15 1 d0_57 (by decide) ?_
  refine kILn X15 d0_58 rfl ?_
  refine kCASTO X15 f19 (by decide) 1 ((XT.ushr i0 (16 : Int32)) &&& (255 : Int32)) (own_nc (own_mask _).1 (own_mask _).2) (by decide) (by show 1 < 2; decide) g8 (Safe.arv X15.hZ.alike f19 (by decide)) d0_59 (fun T20 h21 L23 W24 f25 X22 => ?_)
  have f26 : Arv Z h21 a4 k5 .char 2 [.int ((XT.ushr i0 (8 : Int32)) &&& (255 : Int32)), .int ((XT.ushr i0 (16 : Int32)) &&& (255 : Int32))] (.int 0) := f25
  refine kAS X22 #[.val (.int 2), .val (.int i0), .val (.int ((XT.ushr i0 (8 : Int32)) &&& (255 : Int32))), .val (.int ((XT.ushr i0 (16 : Int32)) &&& (255 : Int32))), .val (.ref a4)] d0_60 rfl rfl ?_
  refine kAL X22 d0_62 rfl rfl ?_
  have K27 : Keep h0 h21 [] := (Keep.wr (Keep.wr (Keep.ext (Keep.refl h0 []) E6) W17 (Or.inr g11)) W24 (Or.inr g11))
  exact kRETA X22 (gEL G) hret rfl rfl d0_64 (fun ve hve => ⟨a4, k5, rfl, K27, g11, f26⟩) (by decide)
def R_rm33 : Room := { frames := 0, cells := 0, slots := 0, locals := 0 }
theorem rm33 (G : Glob Z a0 iCS vSI) (i0 i1 : Int32) (q0 q1 : Addr) (kp0 kp1 : ClassId) (h0 : Heap) (Z0 : n0 ≤ h0.size) (O0 : Old Z n0 h0) (A_q0 : Arv Z h0 q0 kp0 .char 2 [.int i0, .int i1] (.int 0)) (c_0 : ¬ (255 : Int32) < i0) (A_q1 : Arv Z h0 q1 kp1 .byte 2 [.int 0, .int 0] (.int 0)) (d_q0_q1 : q0 ≠ q1) (c_1 : ¬ (255 : Int32) < i1) (g_q1 : n0 ≤ q1) : MetH l Z EL0 n0 N_jdk_52_m_21 jdk_52_method_21_code 7 (some .int) [] R_rm33 #[.ref q0, .int 0, .ref q1, .int 0, .int 2] h0 [q1] (fun vs v h ve => (v = some (.int 2) ∧ (Keep h0 h [q1]) ∧ (Arv Z h q1 kp1 .byte 2 [.int (ownB i0), .int (ownB i1)] (.int 0)))) := by
  refine MetH.of #[.val (.ref q0), .val (.int 0), .val (.ref q1), .val (.int 0), .val (.int 2), .unset, .unset] (plainFor_of_name pn_java_lang_StringUTF16) rfl Z0 (fun p e s m below meth c T0 hret hml hnm hSL hs0 X0 => ?_)
  have S_q1 := hSL q1 (List.mem_of_getElem? (i := 0) rfl)
  refine kIC X0 0 d10_0 (by decide) ?_
  refine kIS X0 #[.val (.ref q0), .val (.int 0), .val (.ref q1), .val (.int 0), .val (.int 2), .val (.int 0), .unset] d10_1 rfl ?_
  refine kIL X0 d10_3 rfl ?_
  refine kIL X0 d10_5 rfl ?_
  refine kICf X0 d10_7 (XT.ii_ge_f (by decide)) ?_
  refine kALn X0 d10_10 rfl rfl ?_
  refine kILn X0 d10_11 rfl ?_
  refine kCALD X0 (.int i0) A_q0 (by decide) rfl d10_12 ?_
  refine kIS X0 #[.val (.ref q0), .val (.int 0), .val (.ref q1), .val (.int 0), .val (.int 2), .val (.int 0), .val (.int i0)] d10_13 rfl ?_
  refine kIL X0 d10_15 rfl ?_
  refine kSI X0 255 d10_17 (by decide) ?_
  refine kICt X0 26 d10_20 (XT.ii_le_t c_0) (by decide) ?_
  refine kALn X0 d10_26 rfl rfl ?_
  refine kILn X0 d10_27 rfl ?_
  refine kIL X0 d10_28 rfl ?_
  refine kI2B X0 (ownB i0) d10_30 rfl ?_
  refine kBASTO X0 A_q1 (by decide) 0 (ownB i0) (own_nb _) (by decide) (by show 0 < 2; decide) g_q1 S_q1 d10_31 (fun T1 h2 L4 W5 f6 X3 => ?_)
  have f7 : Arv Z h2 q1 kp1 .byte 2 [.int (ownB i0), .int 0] (.int 0) := f6
  refine kIINC X3 (1 : Int32) (1 : Int32) #[.val (.ref q0), .val (.int 1), .val (.ref q1), .val (.int 0), .val (.int 2), .val (.int 0), .val (.int i0)] d10_32 (by decide) rfl (by decide) rfl ?_
  refine kIINC X3 (1 : Int32) (1 : Int32) #[.val (.ref q0), .val (.int 1), .val (.ref q1), .val (.int 1), .val (.int 2), .val (.int 0), .val (.int i0)] d10_35 (by decide) rfl (by decide) rfl ?_
  refine kIINC X3 (1 : Int32) (1 : Int32) #[.val (.ref q0), .val (.int 1), .val (.ref q1), .val (.int 1), .val (.int 2), .val (.int 1), .val (.int i0)] d10_38 (by decide) rfl (by decide) rfl ?_
  refine kGOTO X3 3 d10_41 (by decide) ?_
  refine kIL X3 d10_3 rfl ?_
  refine kIL X3 d10_5 rfl ?_
  refine kICf X3 d10_7 (XT.ii_ge_f (by decide)) ?_
  refine kALn X3 d10_10 rfl rfl ?_
  refine kILn X3 d10_11 rfl ?_
  have f8 := (Arv.other A_q0 W5 d_q0_q1)
  refine kCALD X3 (.int i1) f8 (by decide) rfl d10_12 ?_
  refine kIS X3 #[.val (.ref q0), .val (.int 1), .val (.ref q1), .val (.int 1), .val (.int 2), .val (.int 1), .val (.int i1)] d10_13 rfl ?_
  refine kIL X3 d10_15 rfl ?_
  refine kSI X3 255 d10_17 (by decide) ?_
  refine kICt X3 26 d10_20 (XT.ii_le_t c_1) (by decide) ?_
  refine kALn X3 d10_26 rfl rfl ?_
  refine kILn X3 d10_27 rfl ?_
  refine kIL X3 d10_28 rfl ?_
  refine kI2B X3 (ownB i1) d10_30 rfl ?_
  have f9 := (Safe.wr W5 S_q1 X0.C.1 S_q1)
  refine kBASTO X3 f7 (by decide) 1 (ownB i1) (own_nb _) (by decide) (by show 1 < 2; decide) g_q1 f9 d10_31 (fun T10 h11 L13 W14 f15 X12 => ?_)
  have f16 : Arv Z h11 q1 kp1 .byte 2 [.int (ownB i0), .int (ownB i1)] (.int 0) := f15
  refine kIINC X12 (1 : Int32) (2 : Int32) #[.val (.ref q0), .val (.int 2), .val (.ref q1), .val (.int 1), .val (.int 2), .val (.int 1), .val (.int i1)] d10_32 (by decide) rfl (by decide) rfl ?_
  refine kIINC X12 (1 : Int32) (2 : Int32) #[.val (.ref q0), .val (.int 2), .val (.ref q1), .val (.int 2), .val (.int 2), .val (.int 1), .val (.int i1)] d10_35 (by decide) rfl (by decide) rfl ?_
  refine kIINC X12 (1 : Int32) (2 : Int32) #[.val (.ref q0), .val (.int 2), .val (.ref q1), .val (.int 2), .val (.int 2), .val (.int 2), .val (.int i1)] d10_38 (by decide) rfl (by decide) rfl ?_
  refine kGOTO X12 3 d10_41 (by decide) ?_
  refine kIL X12 d10_3 rfl ?_
  refine kIL X12 d10_5 rfl ?_
  refine kICt X12 44 d10_7 (XT.ii_ge_t (by decide)) (by decide) ?_
  refine kIL X12 d10_44 rfl ?_
  have K17 : Keep h0 h11 [q1] := (Keep.wr (Keep.wr (Keep.refl h0 [q1]) W5 (Or.inl (List.mem_of_getElem? (i := 0) rfl))) W14 (Or.inl (List.mem_of_getElem? (i := 0) rfl)))
  exact kRETI X12 (gEL G) hret d10_46 (fun ve hve => ⟨rfl, K17, f16⟩) (by decide)
def R_rm32 : Room := { frames := 1, cells := 1, slots := 2, locals := 18 }
theorem rm32 (G : Glob Z a0 iCS vSI) (i0 i1 : Int32) (q0 : Addr) (kp0 : ClassId) (h0 : Heap) (Z0 : n0 ≤ h0.size) (O0 : Old Z n0 h0) (A_q0 : Arv Z h0 q0 kp0 .char 2 [.int i0, .int i1] (.int 0)) (c_0 : ¬ (255 : Int32) < i0) (c_2 : ¬ i0 < 0) (c_1 : ¬ (255 : Int32) < i1) (c_3 : ¬ i1 < 0) : MetH l Z EL0 n0 N_jdk_52_m_16 jdk_52_method_16_code 6 (some (.array (.byte))) [] R_rm32 #[.ref q0, .int 0, .int 2] h0 [] (fun vs v h ve => (∃ (x0 : Addr), ∃ (z0 : ClassId), v = some (.ref x0) ∧ (Keep h0 h []) ∧ (h0.size ≤ x0) ∧ (Arv Z h x0 z0 .byte 2 [.int (ownB i0), .int (ownB i1)] (.int 0)) ∧ (Safe Z EL0 ve h x0))) := by
  refine MetH.of #[.val (.ref q0), .val (.int 0), .val (.int 2), .unset, .unset, .unset] (plainFor_of_name pn_java_lang_StringUTF16) rfl Z0 (fun p e s m below meth c T0 hret hml hnm hSL hs0 X0 => ?_)
  refine kILn X0 d9_0 rfl ?_
  refine kNEWP X0 (wd G 19 rfl) (cap := 2) d9_1 (by decide) (by decide) (by decide) (by decide) (by decide) (fun T1 h2 a4 k5 E6 q7 g8 A9 s10 X3 => ?_)
  have n11 : q0 ≠ a4 := Nat.ne_of_lt (Nat.lt_of_lt_of_le (A_q0.lt) (Nat.le_of_eq q7.symm))
  have g12 : h0.size ≤ a4 := q7 ▸ X0.g0
  have f13 : Arv Z h2 a4 k5 .byte 2 [.int 0, .int 0] (.int 0) := A9.pad (pad_rep [] _ 2)
  refine kASn X3 #[.val (.ref q0), .val (.int 0), .val (.int 2), .val (.ref a4), .unset, .unset] d9_3 rfl rfl ?_
  refine kALn X3 d9_4 rfl rfl ?_
  refine kILn X3 d9_5 rfl ?_
  refine kALn X3 d9_6 rfl rfl ?_
  refine kIC X3 0 d9_7 (by decide) ?_
  refine kILn X3 d9_8 rfl ?_
  have f14 := (Arv.ext A_q0 E6)
  have f15 := (Old.ext O0 E6)
  refine kSTAT X3 (gEL G) (argsL := [.ref q0, .int 0, .ref a4, .int 0, .int 2]) (rest := []) (wd G 53 rfl) (wd G 54 rfl) (wd G 51 rfl) (wd G 55 rfl) (by decide) (rm33 G i0 i1 q0 a4 kp0 k5 h2 X3.n f15 f14 c_0 f13 n11 c_1 g8) (allS ⟨(f13.lt), s10⟩ all0) (lenOf pd___CI_BII_I rfl) rfl 0 rfl (by decide) hml.symm d9_9 (fun v16 T17 h18 vm19 _ w20 q21 C22 C23 X24 => ?_)
  obtain ⟨e26, f27, f28⟩ := q21
  subst e26
  show Go _ _ _ _ _ (mkF _ _ _ [.int 2])
  refine kIS X24 #[.val (.ref q0), .val (.int 0), .val (.int 2), .val (.ref a4), .val (.int 2), .unset] d9_12 rfl ?_
  refine kIL X24 d9_14 rfl ?_
  refine kILn X24 d9_16 rfl ?_
  refine kICt X24 57 d9_17 (XT.ii_eq_t (by decide)) (by decide) ?_
  refine kALn X24 d9_57 rfl rfl ?_
  have K29 : Keep h0 h18 [] := (Keep.trans (Keep.ext (Keep.refl h0 []) E6) f27 (allS (Or.inr g12) all0))
  have f30 := (CHr.safe C23 (f13.lt) s10)
  exact kRETA X24 (gEL G) hret rfl rfl d9_58 (fun ve hve => ⟨a4, k5, rfl, K29, g12, f28, (CHr.safe hve (f28.lt) f30)⟩) (by decide)
def R_rm34 : Room := { frames := 0, cells := 0, slots := 0, locals := 0 }
theorem rm34 (G : Glob Z a0 iCS vSI) (i0 i1 : Int32) (q0 : Addr) (kp0 : ClassId) (h0 : Heap) (Z0 : n0 ≤ h0.size) (O0 : Old Z n0 h0) (A_q0 : Arv Z h0 q0 kp0 .byte 2 [.int i0, .int i1] (.int 0)) : MetH l Z EL0 n0 N_jdk_52_m_15 jdk_52_method_15_code 2 (some .byte) [] R_rm34 #[.ref q0, .int 2] h0 [] (fun vs v h ve => (v = some (.int 0) ∧ (h0 = h))) := by
  refine MetH.of #[.val (.ref q0), .val (.int 2)] (plainFor_of_name pn_java_lang_StringUTF16) rfl Z0 (fun p e s m below meth c T0 hret hml hnm hSL hs0 X0 => ?_)
  refine kILn X0 d11_0 rfl ?_
  refine kALn X0 d11_1 rfl rfl ?_
  refine kLEN X0 A_q0 d11_2 ?_
  refine kISUB X0 0 d11_3 (by decide) ?_
  refine kBI X0 31 d11_4 (by decide) ?_
  refine kIUSHR X0 0 d11_6 (by decide) ?_
  refine kI2B X0 (0 : Int32) d11_7 (by decide) ?_
  exact kRETZ X0 (gEL G) (t := .byte) hret (by simp) d11_8 (fun ve hve => ⟨rfl, rfl⟩) (by decide)
def R_rm31 : Room := { frames := 2, cells := 1, slots := 2, locals := 35 }
theorem rm31 (G : Glob Z a0 iCS vSI) (i0 i1 : Int32) (q0 q1 : Addr) (kp0 : ClassId) (h0 : Heap) (Z0 : n0 ≤ h0.size) (O0 : Old Z n0 h0) (c_0 : ¬ (255 : Int32) < i0) (c_2 : ¬ i0 < 0) (c_1 : ¬ (255 : Int32) < i1) (c_3 : ¬ i1 < 0) (A_q1 : Arv Z h0 q1 kp0 .char 2 [.int i0, .int i1] (.int 0)) (E_q0 : Exa Z h0 q0 "java/lang/String") (F_q0_coder : Fld Z h0 q0 "java/lang/String" "coder" "B" (.int 0)) (F_q0_value : Fld Z h0 q0 "java/lang/String" "value" "[B" (.null)) (g_q0 : n0 ≤ q0) : MetH l Z EL0 n0 N_jdk_42_m_149 jdk_42_method_149_code 6 none [] R_rm31 #[.ref q0, .ref q1, .int 0, .int 2, .null] h0 [q0] (fun vs v h ve => (∃ (x0 : Addr), ∃ (z0 : ClassId), v = none ∧ (Keep h0 h [q0]) ∧ (h0.size ≤ x0) ∧ (Arv Z h x0 z0 .byte 2 [.int (ownB i0), .int (ownB i1)] (.int 0)) ∧ (Safe Z EL0 ve h x0) ∧ (Fld Z h q0 "java/lang/String" "coder" "B" (.int 0)) ∧ (Fld Z h q0 "java/lang/String" "value" "[B" (.ref x0)))) := by
  refine MetH.of #[.val (.ref q0), .val (.ref q1), .val (.int 0), .val (.int 2), .val .null, .unset] (plainFor_of_name pn_java_lang_String) rfl Z0 (fun p e s m below meth c T0 hret hml hnm hSL hs0 X0 => ?_)
  have S_q0 := hSL q0 (List.mem_of_getElem? (i := 0) rfl)
  refine kALn X0 d2_0 rfl rfl ?_
  refine kINIT X0 (wd G 15 rfl) (wd G 16 rfl) (wd G 17 rfl) hml.symm d2_1 (by decide) 0 (Nat.le_of_eq rfl) (by decide) (fun T1 X2 => ?_)
  refine kILn X2 d2_4 rfl ?_
  refine kIFt X2 27 d2_5 (XT.i0_ne_t (by decide)) (by decide) ?_
  refine kGETS X2 (wd G 45 rfl) Via.refl (Sta.ext O0.2 (S_CS G)) d2_27 (fun T3 X4 => ?_)
  refine kIFf X4 d2_30 (XT.i0_eq_f (n_CS G)) ?_
  refine kALn X4 d2_33 rfl rfl ?_
  refine kILn X4 d2_34 rfl ?_
  refine kILn X4 d2_35 rfl ?_
  refine kSTAT X4 (gEL G) (argsL := [.ref q1, .int 0, .int 2]) (rest := []) (wd G 49 rfl) (wd G 50 rfl) (wd G 51 rfl) (wd G 52 rfl) (by decide) (rm32 G i0 i1 q1 kp0 h0 X4.n O0 A_q1 c_0 c_2 c_1 c_3) all0 (lenOf pd___CII__B rfl) rfl 0 rfl (by decide) hml.symm d2_36 (fun v5 T6 h7 vm8 _ w9 q10 C11 C12 X13 => ?_)
  obtain ⟨a15, k16, e17, f18, f19, f20, f21⟩ := q10
  subst e17
  have n22 : q0 ≠ a15 := Nat.ne_of_lt (Nat.lt_of_lt_of_le (E_q0.lt) f19)
  have n23 : q1 ≠ a15 := Nat.ne_of_lt (Nat.lt_of_lt_of_le (A_q1.lt) f19)
  have g24 : n0 ≤ a15 := Nat.le_trans X4.n f19
  have g25 : h0.size ≤ a15 := Nat.le_trans X4.g0 f19
  show Go _ _ _ _ _ (mkF _ _ _ [.ref a15])
  refine kAS X13 #[.val (.ref q0), .val (.ref q1), .val (.int 0), .val (.int 2), .val .null, .val (.ref a15)] d2_39 rfl rfl ?_
  refine kALn X13 d2_41 rfl rfl ?_
  refine kAL X13 d2_42 rfl rfl ?_
  refine kILn X13 d2_44 rfl ?_
  have f26 := (Old.keep O0 f18 all0)
  refine kSTAT X13 (gEL G) (argsL := [.ref a15, .int 2]) (rest := [.ref q0]) (wd G 56 rfl) (wd G 57 rfl) (wd G 51 rfl) (wd G 58 rfl) (by decide) (rm34 G (ownB i0) (ownB i1) a15 k16 h7 X13.n f26 f20) all0 (lenOf pd___BI_B rfl) rfl 1 rfl (by decide) hml.symm d2_45 (fun v27 T28 h29 vm30 _ w31 q32 C33 C34 X35 => ?_)
  obtain ⟨e37, f38⟩ := q32
  subst e37
  subst f38
  show Go _ _ _ _ _ (mkF _ _ _ [.int 0, .ref q0])
  have f39 := (Fld.keep F_q0_coder f18 nin0)
  have f40 := (Exa.keep E_q0 f18)
  have f41 := (CHr.safe C34 ((Fld.keep F_q0_value f18 nin0)).lt (CHr.safe C12 (F_q0_value.lt) S_q0))
  refine kPUTF X35 (wd G 25 rfl) Via.refl f39 f40 (Or.inr ⟨(wd G 21 rfl), rfl, hnm⟩) (wd G 6 rfl) (ty := .byte) (by decide) (by decide) (by decide) g_q0 f41 d2_48 (fun T42 h43 L46 W45 X44 => ?_)
  have f47 := Fld.same W45 f39
  refine kALn X44 d2_51 rfl rfl ?_
  refine kAL X44 d2_52 rfl rfl ?_
  have f48 := (Fld.other W45 (Fld.keep F_q0_value f18 nin0) (Or.inr (slot_ne (Or.inr (wd G 20 rfl)) (Or.inr (wd G 21 rfl)) (by decide) (by decide : parseFieldDescriptor "[B" = some (.array (.byte))) (by decide : parseFieldDescriptor "B" = some .byte))))
  have f49 := (Exa.wr W45 f40)
  have f50 := (Safe.wr W45 f41 X35.C.1 f41)
  refine kPUTF X44 (wd G 24 rfl) Via.refl f48 f49 (Or.inr ⟨(wd G 20 rfl), rfl, hnm⟩) (wd G 6 rfl) (ty := (.array (.byte))) (by decide) rfl rfl g_q0 f50 d2_54 (fun T51 h52 L55 W54 X53 => ?_)
  have f56 := Fld.same W54 f48
  have K57 : Keep h0 h52 [q0] := (Keep.wr (Keep.wr (Keep.trans (Keep.refl h0 [q0]) f18 all0) W45 (Or.inl (List.mem_of_getElem? (i := 0) rfl))) W54 (Or.inl (List.mem_of_getElem? (i := 0) rfl)))
  have f58 := (Arv.other (Arv.other f20 W45 (Ne.symm n22)) W54 (Ne.symm n22))
  have f59 := (Safe.wr W54 f50 X44.C.1 (Safe.wr W45 f41 X35.C.1 (CHr.safe C34 (f20.lt) f21)))
  have f60 := (Fld.other W54 f47 (Or.inr (slot_ne (Or.inr (wd G 21 rfl)) (Or.inr (wd G 20 rfl)) (by decide) (by decide : parseFieldDescriptor "B" = some .byte) (by decide : parseFieldDescriptor "[B" = some (.array (.byte))))))
  exact kRETV X53 (gEL G) hret d2_57 (fun ve hve => ⟨a15, k16, rfl, K57, g25, f58, (CHr.safe hve (f58.lt) f59), f60, f56⟩) (by decide)
def R_rm30 : Room := { frames := 3, cells := 1, slots := 2, locals := 52 }
theorem rm30 (G : Glob Z a0 iCS vSI) (i0 i1 : Int32) (q0 q1 : Addr) (kp0 : ClassId) (h0 : Heap) (Z0 : n0 ≤ h0.size) (O0 : Old Z n0 h0) (A_q1 : Arv Z h0 q1 kp0 .char 2 [.int i0, .int i1] (.int 0)) (c_0 : ¬ (255 : Int32) < i0) (c_2 : ¬ i0 < 0) (c_1 : ¬ (255 : Int32) < i1) (c_3 : ¬ i1 < 0) (E_q0 : Exa Z h0 q0 "java/lang/String") (F_q0_coder : Fld Z h0 q0 "java/lang/String" "coder" "B" (.int 0)) (F_q0_value : Fld Z h0 q0 "java/lang/String" "value" "[B" (.null)) (g_q0 : n0 ≤ q0) : MetH l Z EL0 n0 N_jdk_42_m_3 jdk_42_method_3_code 2 none [] R_rm30 #[.ref q0, .ref q1] h0 [q0] (fun vs v h ve => (∃ (x0 : Addr), ∃ (z0 : ClassId), v = none ∧ (Keep h0 h [q0]) ∧ (h0.size ≤ x0) ∧ (Arv Z h x0 z0 .byte 2 [.int (ownB i0), .int (ownB i1)] (.int 0)) ∧ (Safe Z EL0 ve h x0) ∧ (Fld Z h q0 "java/lang/String" "coder" "B" (.int 0)) ∧ (Fld Z h q0 "java/lang/String" "value" "[B" (.ref x0)))) := by
  refine MetH.of #[.val (.ref q0), .val (.ref q1)] (plainFor_of_name pn_java_lang_String) rfl Z0 (fun p e s m below meth c T0 hret hml hnm hSL hs0 X0 => ?_)
  have S_q0 := hSL q0 (List.mem_of_getElem? (i := 0) rfl)
  refine kALn X0 d1_0 rfl rfl ?_
  refine kALn X0 d1_1 rfl rfl ?_
  refine kIC X0 0 d1_2 (by decide) ?_
  refine kALn X0 d1_3 rfl rfl ?_
  refine kLEN X0 A_q1 d1_4 ?_
  refine kNULL X0 d1_5 ?_
  refine kSPEC X0 (gEL G) (argsL := [.ref q1, .int 0, .int 2, .null]) (rest := []) (wd G 11 rfl) (wd G 12 rfl) (wd G 7 rfl) (wd G 14 rfl) rfl (by decide) (rm31 G i0 i1 q0 q1 kp0 h0 X0.n O0 c_0 c_2 c_1 c_3 A_q1 E_q0 F_q0_coder F_q0_value g_q0) (allS ⟨(E_q0.lt), S_q0⟩ all0) (lenOf pd___CIILjava_lang_Void__V rfl) rfl 0 rfl (by decide) hml.symm d1_6 (fun v1 T2 h3 vm4 _ w5 q6 C7 C8 X9 => ?_)
  obtain ⟨a11, k12, e13, f14, f15, f16, f17, f18, f19⟩ := q6
  subst e13
  have n20 : q0 ≠ a11 := Nat.ne_of_lt (Nat.lt_of_lt_of_le (E_q0.lt) f15)
  have n21 : q1 ≠ a11 := Nat.ne_of_lt (Nat.lt_of_lt_of_le (A_q1.lt) f15)
  have g22 : n0 ≤ a11 := Nat.le_trans X0.n f15
  have g23 : h0.size ≤ a11 := Nat.le_trans X0.g0 f15
  show Go _ _ _ _ _ (mkF _ _ _ [])
  have K24 : Keep h0 h3 [q0] := (Keep.trans (Keep.refl h0 [q0]) f14 (allS (Or.inl (List.mem_of_getElem? (i := 0) rfl)) all0))
  exact kRETV X9 (gEL G) hret d1_9 (fun ve hve => ⟨a11, k12, rfl, K24, g23, f16, (CHr.safe hve (f16.lt) f17), f18, f19⟩) (by decide)
def R_rm35 : Room := { frames := 1, cells := 0, slots := 0, locals := 12 }
theorem rm35 (G : Glob Z a0 iCS vSI) (i0 i1 : Int32) (q0 q1 q2 q3 : Addr) (kp0 kp1 : ClassId) (h0 : Heap) (Z0 : n0 ≤ h0.size) (O0 : Old Z n0 h0) (F_q0_value : Fld Z h0 q0 "java/lang/String" "value" "[B" (.ref q2)) (A_q2 : Arv Z h0 q2 kp0 .byte 0 [] (.int 0)) (E_q0 : Exa Z h0 q0 "java/lang/String") : MetH l Z EL0 n0 N_prog_30_m_3 prog_30_method_3_code 3 (some (.object "java/lang/String")) [] R_rm35 #[.ref q0, .ref q1] h0 [] (fun vs v h ve => (v = some (.ref q1) ∧ (h0 = h))) := by
  refine MetH.of #[.val (.ref q0), .val (.ref q1), .unset] (plainFor_of_name pn_com_example_tight_calculus_tightcalculus_Report) rfl Z0 (fun p e s m below meth c T0 hret hml hnm hSL hs0 X0 => ?_)
  refine kALn X0 d4_0 rfl rfl ?_
  refine kVIRT X0 (gEL G) (argsL := []) (rest := []) (wd G 30 rfl) (wd G 31 rfl) (own_nf X0.hZ (own_noinst (wd G 6 rfl))) (wd G 33 rfl) (wd G 32 rfl) (wd G 7 rfl) (wd G 34 rfl) (by decide) E_q0 (rm5 G q0 q2 kp0 h0 X0.n O0 F_q0_value A_q2) all0 (lenOf pd___Z rfl) rfl 0 rfl (by decide) hml.symm d4_1 (fun v1 T2 h3 vm4 _ w5 q6 C7 C8 X9 => ?_)
  obtain ⟨e11, f12⟩ := q6
  subst e11
  subst f12
  show Go _ _ _ _ _ (mkF _ _ _ [.int 1])
  refine kIFf X9 d4_4 (XT.i0_eq_f (by decide)) ?_
  refine kALn X9 d4_7 rfl rfl ?_
  refine kASn X9 #[.val (.ref q0), .val (.ref q1), .val (.ref q1)] d4_8 rfl rfl ?_
  refine kGOTO X9 48 d4_9 (by decide) ?_
  refine kALn X9 d4_48 rfl rfl ?_
  exact kRETA X9 (gEL G) hret rfl rfl d4_49 (fun ve hve => ⟨rfl, rfl⟩) (by decide)
def R_rm37 : Room := { frames := 0, cells := 0, slots := 0, locals := 0 }
theorem rm37 (G : Glob Z a0 iCS vSI) (i0 i1 : Int32) (q0 q1 : Addr) (kp0 : ClassId) (h0 : Heap) (Z0 : n0 ≤ h0.size) (O0 : Old Z n0 h0) (F_q0_coder : Fld Z h0 q0 "java/lang/String" "coder" "B" (.int 0)) : MetH l Z EL0 n0 N_jdk_42_m_152 jdk_42_method_152_code 1 (some .byte) [] R_rm37 #[.ref q0] h0 [] (fun vs v h ve => (v = some (.int 0) ∧ (h0 = h))) := by
  refine MetH.of #[.val (.ref q0)] (plainFor_of_name pn_java_lang_String) rfl Z0 (fun p e s m below meth c T0 hret hml hnm hSL hs0 X0 => ?_)
  refine kGETS X0 (wd G 45 rfl) Via.refl (Sta.ext O0.2 (S_CS G)) d7_0 (fun T1 X2 => ?_)
  refine kIFf X2 d7_3 (XT.i0_eq_f (n_CS G)) ?_
  refine kALn X2 d7_6 rfl rfl ?_
  refine kGETF X2 (wd G 25 rfl) Via.refl F_q0_coder d7_7 (fun T3 X4 => ?_)
  refine kGOTO X4 14 d7_10 (by decide) ?_
  exact kRETZ X4 (gEL G) (t := .byte) hret (by simp) d7_14 (fun ve hve => ⟨rfl, rfl⟩) (by decide)
def R_rm36 : Room := { frames := 1, cells := 0, slots := 0, locals := 13 }
theorem rm36 (G : Glob Z a0 iCS vSI) (i0 i1 : Int32) (q0 q1 : Addr) (kp0 : ClassId) (h0 : Heap) (Z0 : n0 ≤ h0.size) (O0 : Old Z n0 h0) (F_q0_value : Fld Z h0 q0 "java/lang/String" "value" "[B" (.ref q1)) (A_q1 : Arv Z h0 q1 kp0 .byte 2 [.int i0, .int i1] (.int 0)) (F_q0_coder : Fld Z h0 q0 "java/lang/String" "coder" "B" (.int 0)) (E_q0 : Exa Z h0 q0 "java/lang/String") : MetH l Z EL0 n0 N_jdk_42_m_54 jdk_42_method_54_code 1 (some .int) [] R_rm36 #[.ref q0] h0 [] (fun vs v h ve => (v = some (.int 2) ∧ (h0 = h))) := by
  refine MetH.of #[.val (.ref q0)] (plainFor_of_name pn_java_lang_String) rfl Z0 (fun p e s m below meth c T0 hret hml hnm hSL hs0 X0 => ?_)
  refine kALn X0 d6_0 rfl rfl ?_
  refine kGETF X0 (wd G 24 rfl) Via.refl F_q0_value d6_1 (fun T1 X2 => ?_)
  refine kLEN X2 A_q1 d6_4 ?_
  refine kALn X2 d6_5 rfl rfl ?_
  refine kVIRT X2 (gEL G) (argsL := []) (rest := [.int 2]) (wd G 40 rfl) (wd G 41 rfl) (own_nf X2.hZ (own_noinst (wd G 6 rfl))) (wd G 43 rfl) (wd G 42 rfl) (wd G 7 rfl) (wd G 44 rfl) (by decide) E_q0 (rm37 G i0 i1 q0 q1 kp0 h0 X2.n O0 F_q0_coder) all0 (lenOf pd___B rfl) rfl 1 rfl (by decide) hml.symm d6_6 (fun v3 T4 h5 vm6 _ w7 q8 C9 C10 X11 => ?_)
  obtain ⟨e13, f14⟩ := q8
  subst e13
  subst f14
  show Go _ _ _ _ _ (mkF _ _ _ [.int 0, .int 2])
  refine kISHR X11 2 d6_9 (by decide) ?_
  exact kRETI X11 (gEL G) hret d6_10 (fun ve hve => ⟨rfl, rfl⟩) (by decide)
def R_rm39 : Room := { frames := 0, cells := 0, slots := 0, locals := 0 }
theorem rm39 (G : Glob Z a0 iCS vSI) (i0 i1 : Int32) (q0 q1 : Addr) (kp0 kp1 : ClassId) (h0 : Heap) (Z0 : n0 ≤ h0.size) (O0 : Old Z n0 h0) (A_q1 : Arv Z h0 q1 kp1 .char 2 [.int i0, .int i1] (.int 0)) (c_0 : ¬ (255 : Int32) < i0) (c_2 : ¬ i0 < 0) : MetH l Z EL0 n0 N_m_5 method_5_code 6 (some .char) [] R_rm39 #[.int 0, .ref q0, .int 0, .ref q1, .int 2] h0 [] (fun vs v h ve => (v = some (.int i0) ∧ (h0 = h))) := by
  refine MetH.of #[.val (.int 0), .val (.ref q0), .val (.int 0), .val (.ref q1), .val (.int 2), .unset] (plainFor_of_name pn_com_example_tight_calculus_tightcalculus_ReportWordsPinLaw) rfl Z0 (fun p e s m below meth c T0 hret hml hnm hSL hs0 X0 => ?_)
  refine kILn X0 d36_0 rfl ?_
  refine kILn X0 d36_1 rfl ?_
  refine kICt X0 13 d36_2 (XT.ii_ge_t (by decide)) (by decide) ?_
  refine kILn X0 d36_13 rfl ?_
  refine kIFt X0 46 d36_14 (XT.i0_le_t (by decide)) (by decide) ?_
  refine kALn X0 d36_46 rfl rfl ?_
  refine kILn X0 d36_47 rfl ?_
  refine kILn X0 d36_48 rfl ?_
  refine kISUB X0 0 d36_49 (by decide) ?_
  refine kCALD X0 (.int i0) A_q1 (by decide) rfl d36_50 ?_
  refine kIS X0 #[.val (.int 0), .val (.ref q0), .val (.int 0), .val (.ref q1), .val (.int 2), .val (.int i0)] d36_51 rfl ?_
  refine kIL X0 d36_53 rfl ?_
  exact kRETZ X0 (gEL G) (t := .char) hret (by simp) d36_55 (fun ve hve => ⟨(by rw [(own_nc c_0 c_2)]), rfl⟩) (by decide)
def R_rm38 : Room := { frames := 4, cells := 0, slots := 0, locals := 53 }
theorem rm38 (G : Glob Z a0 iCS vSI) (i0 i1 i2 i3 : Int32) (q0 q1 q2 q3 : Addr) (kp0 kp1 kp2 : ClassId) (h0 : Heap) (Z0 : n0 ≤ h0.size) (O0 : Old Z n0 h0) (F_q0_coder : Fld Z h0 q0 "java/lang/String" "coder" "B" (.int 0)) (E_q0 : Exa Z h0 q0 "java/lang/String") (F_q0_value : Fld Z h0 q0 "java/lang/String" "value" "[B" (.ref q3)) (A_q3 : Arv Z h0 q3 kp2 .byte 2 [.int i2, .int i3] (.int 0)) (c_0 : ¬ (255 : Int32) < i0) (c_2 : ¬ i0 < 0) (c_1 : ¬ (255 : Int32) < i1) (c_3 : ¬ i1 < 0) (A_q2 : Arv Z h0 q2 kp1 .char 2 [.int i0, .int i1] (.int 0)) : MetH l Z EL0 n0 N_m_4 method_4_code 7 (some .boolean) [] R_rm38 #[.ref q0, .int 0, .int 2, .ref q1, .int 0, .ref q2, .int 2] h0 [] (fun vs v h ve => (v = some (.int 1) ∧ ((i2 &&& (255 : Int32)) = i0) ∧ (h0 = h)) ∨ (v = some (.int 0) ∧ (¬ (i2 &&& (255 : Int32)) = i0) ∧ (h0 = h))) := by
  refine MetH.of #[.val (.ref q0), .val (.int 0), .val (.int 2), .val (.ref q1), .val (.int 0), .val (.ref q2), .val (.int 2)] (plainFor_of_name pn_com_example_tight_calculus_tightcalculus_ReportWordsPinLaw) rfl Z0 (fun p e s m below meth c T0 hret hml hnm hSL hs0 X0 => ?_)
  refine kILn X0 d8_0 rfl ?_
  refine kILn X0 d8_1 rfl ?_
  refine kICt X0 7 d8_2 (XT.ii_lt_t (by decide)) (by decide) ?_
  refine kALn X0 d8_7 rfl rfl ?_
  refine kILn X0 d8_8 rfl ?_
  refine kVIRT X0 (gEL G) (argsL := [.int 0]) (rest := []) (wd G 161 rfl) (wd G 162 rfl) (own_nf X0.hZ (own_noinst (wd G 6 rfl))) (wd G 164 rfl) (wd G 163 rfl) (wd G 7 rfl) (wd G 165 rfl) (by decide) E_q0 (gm_ca2 G (0 : Int32) (2 : Int32) i2 (i2 &&& (255 : Int32)) ([.int i2, .int i3]) q0 q3 kp2 h0 X0.n O0 rfl rfl F_q0_coder E_q0 F_q0_value A_q3 (by decide) (by decide)) all0 (lenOf pd__I_C rfl) rfl 0 rfl (by decide) hml.symm d8_9 (fun v1 T2 h3 vm4 _ w5 q6 C7 C8 X9 => ?_)
  obtain ⟨e11, f12⟩ := q6
  subst e11
  subst f12
  show Go _ _ _ _ _ (mkF _ _ _ [.int (i2 &&& (255 : Int32))])
  refine kILn X9 d8_12 rfl ?_
  refine kALn X9 d8_13 rfl rfl ?_
  refine kIL X9 d8_14 rfl ?_
  refine kAL X9 d8_16 rfl rfl ?_
  refine kIL X9 d8_18 rfl ?_
  refine kSTAT X9 (gEL G) (argsL := [.int 0, .ref q1, .int 0, .ref q2, .int 2]) (rest := [.int (i2 &&& (255 : Int32))]) (wd G 183 rfl) (wd G 184 rfl) (wd G 2 rfl) (wd G 185 rfl) (by decide) (rm39 G i0 i1 q1 q2 kp0 kp1 h0 X9.n O0 A_q2 c_0 c_2) all0 (lenOf pd__I_CI_CI_C rfl) rfl 1 rfl (by decide) hml.symm d8_20 (fun v13 T14 h15 vm16 _ w17 q18 C19 C20 X21 => ?_)
  obtain ⟨e23, f24⟩ := q18
  subst e23
  subst f24
  show Go _ _ _ _ _ (mkF _ _ _ [.int i0, .int (i2 &&& (255 : Int32))])
  by_cases c25 : (i2 &&& (255 : Int32)) = i0
  · refine kICf X21 d8_23 (XT.ii_ne_f c25) ?_
    refine kIC X21 1 d8_26 (by decide) ?_
    refine kGOTO X21 31 d8_27 (by decide) ?_
    exact kRETZ X21 (gEL G) (t := .boolean) hret (by simp) d8_31 (fun ve hve => Or.inl (⟨rfl, c25, rfl⟩)) (by decide)
  · refine kICt X21 30 d8_23 (XT.ii_ne_t c25) (by decide) ?_
    refine kIC X21 0 d8_30 (by decide) ?_
    exact kRETZ X21 (gEL G) (t := .boolean) hret (by simp) d8_31 (fun ve hve => Or.inr (⟨rfl, c25, rfl⟩)) (by decide)
def R_rm41 : Room := { frames := 0, cells := 0, slots := 0, locals := 0 }
theorem rm41 (G : Glob Z a0 iCS vSI) (i0 i1 : Int32) (q0 q1 : Addr) (kp0 kp1 : ClassId) (h0 : Heap) (Z0 : n0 ≤ h0.size) (O0 : Old Z n0 h0) (A_q1 : Arv Z h0 q1 kp1 .char 2 [.int i0, .int i1] (.int 0)) (c_1 : ¬ (255 : Int32) < i1) (c_3 : ¬ i1 < 0) : MetH l Z EL0 n0 N_m_5 method_5_code 6 (some .char) [] R_rm41 #[.int 1, .ref q0, .int 0, .ref q1, .int 2] h0 [] (fun vs v h ve => (v = some (.int i1) ∧ (h0 = h))) := by
  refine MetH.of #[.val (.int 1), .val (.ref q0), .val (.int 0), .val (.ref q1), .val (.int 2), .unset] (plainFor_of_name pn_com_example_tight_calculus_tightcalculus_ReportWordsPinLaw) rfl Z0 (fun p e s m below meth c T0 hret hml hnm hSL hs0 X0 => ?_)
  refine kILn X0 d36_0 rfl ?_
  refine kILn X0 d36_1 rfl ?_
  refine kICt X0 13 d36_2 (XT.ii_ge_t (by decide)) (by decide) ?_
  refine kILn X0 d36_13 rfl ?_
  refine kIFt X0 46 d36_14 (XT.i0_le_t (by decide)) (by decide) ?_
  refine kALn X0 d36_46 rfl rfl ?_
  refine kILn X0 d36_47 rfl ?_
  refine kILn X0 d36_48 rfl ?_
  refine kISUB X0 1 d36_49 (by decide) ?_
  refine kCALD X0 (.int i1) A_q1 (by decide) rfl d36_50 ?_
  refine kIS X0 #[.val (.int 1), .val (.ref q0), .val (.int 0), .val (.ref q1), .val (.int 2), .val (.int i1)] d36_51 rfl ?_
  refine kIL X0 d36_53 rfl ?_
  exact kRETZ X0 (gEL G) (t := .char) hret (by simp) d36_55 (fun ve hve => ⟨(by rw [(own_nc c_1 c_3)]), rfl⟩) (by decide)
def R_rm40 : Room := { frames := 4, cells := 0, slots := 0, locals := 53 }
theorem rm40 (G : Glob Z a0 iCS vSI) (i0 i1 i2 i3 : Int32) (q0 q1 q2 q3 : Addr) (kp0 kp1 kp2 : ClassId) (h0 : Heap) (Z0 : n0 ≤ h0.size) (O0 : Old Z n0 h0) (F_q0_coder : Fld Z h0 q0 "java/lang/String" "coder" "B" (.int 0)) (E_q0 : Exa Z h0 q0 "java/lang/String") (F_q0_value : Fld Z h0 q0 "java/lang/String" "value" "[B" (.ref q3)) (A_q3 : Arv Z h0 q3 kp2 .byte 2 [.int i2, .int i3] (.int 0)) (c_0 : ¬ (255 : Int32) < i0) (c_2 : ¬ i0 < 0) (c_1 : ¬ (255 : Int32) < i1) (c_3 : ¬ i1 < 0) (A_q2 : Arv Z h0 q2 kp1 .char 2 [.int i0, .int i1] (.int 0)) : MetH l Z EL0 n0 N_m_4 method_4_code 7 (some .boolean) [] R_rm40 #[.ref q0, .int 1, .int 2, .ref q1, .int 0, .ref q2, .int 2] h0 [] (fun vs v h ve => (v = some (.int 1) ∧ ((i3 &&& (255 : Int32)) = i1) ∧ (h0 = h)) ∨ (v = some (.int 0) ∧ (¬ (i3 &&& (255 : Int32)) = i1) ∧ (h0 = h))) := by
  refine MetH.of #[.val (.ref q0), .val (.int 1), .val (.int 2), .val (.ref q1), .val (.int 0), .val (.ref q2), .val (.int 2)] (plainFor_of_name pn_com_example_tight_calculus_tightcalculus_ReportWordsPinLaw) rfl Z0 (fun p e s m below meth c T0 hret hml hnm hSL hs0 X0 => ?_)
  refine kILn X0 d8_0 rfl ?_
  refine kILn X0 d8_1 rfl ?_
  refine kICt X0 7 d8_2 (XT.ii_lt_t (by decide)) (by decide) ?_
  refine kALn X0 d8_7 rfl rfl ?_
  refine kILn X0 d8_8 rfl ?_
  refine kVIRT X0 (gEL G) (argsL := [.int 1]) (rest := []) (wd G 161 rfl) (wd G 162 rfl) (own_nf X0.hZ (own_noinst (wd G 6 rfl))) (wd G 164 rfl) (wd G 163 rfl) (wd G 7 rfl) (wd G 165 rfl) (by decide) E_q0 (gm_ca2 G (1 : Int32) (2 : Int32) i3 (i3 &&& (255 : Int32)) ([.int i2, .int i3]) q0 q3 kp2 h0 X0.n O0 rfl rfl F_q0_coder E_q0 F_q0_value A_q3 (by decide) (by decide)) all0 (lenOf pd__I_C rfl) rfl 0 rfl (by decide) hml.symm d8_9 (fun v1 T2 h3 vm4 _ w5 q6 C7 C8 X9 => ?_)
  obtain ⟨e11, f12⟩ := q6
  subst e11
  subst f12
  show Go _ _ _ _ _ (mkF _ _ _ [.int (i3 &&& (255 : Int32))])
  refine kILn X9 d8_12 rfl ?_
  refine kALn X9 d8_13 rfl rfl ?_
  refine kIL X9 d8_14 rfl ?_
  refine kAL X9 d8_16 rfl rfl ?_
  refine kIL X9 d8_18 rfl ?_
  refine kSTAT X9 (gEL G) (argsL := [.int 1, .ref q1, .int 0, .ref q2, .int 2]) (rest := [.int (i3 &&& (255 : Int32))]) (wd G 183 rfl) (wd G 184 rfl) (wd G 2 rfl) (wd G 185 rfl) (by decide) (rm41 G i0 i1 q1 q2 kp0 kp1 h0 X9.n O0 A_q2 c_1 c_3) all0 (lenOf pd__I_CI_CI_C rfl) rfl 1 rfl (by decide) hml.symm d8_20 (fun v13 T14 h15 vm16 _ w17 q18 C19 C20 X21 => ?_)
  obtain ⟨e23, f24⟩ := q18
  subst e23
  subst f24
  show Go _ _ _ _ _ (mkF _ _ _ [.int i1, .int (i3 &&& (255 : Int32))])
  by_cases c25 : (i3 &&& (255 : Int32)) = i1
  · refine kICf X21 d8_23 (XT.ii_ne_f c25) ?_
    refine kIC X21 1 d8_26 (by decide) ?_
    refine kGOTO X21 31 d8_27 (by decide) ?_
    exact kRETZ X21 (gEL G) (t := .boolean) hret (by simp) d8_31 (fun ve hve => Or.inl (⟨rfl, c25, rfl⟩)) (by decide)
  · refine kICt X21 30 d8_23 (XT.ii_ne_t c25) (by decide) ?_
    refine kIC X21 0 d8_30 (by decide) ?_
    exact kRETZ X21 (gEL G) (t := .boolean) hret (by simp) d8_31 (fun ve hve => Or.inr (⟨rfl, c25, rfl⟩)) (by decide)
def R_rm42 : Room := { frames := 0, cells := 0, slots := 0, locals := 0 }
theorem rm42 (G : Glob Z a0 iCS vSI) (i0 i1 i2 i3 : Int32) (q0 q1 q2 q3 : Addr) (kp0 kp1 kp2 : ClassId) (h0 : Heap) (Z0 : n0 ≤ h0.size) (O0 : Old Z n0 h0)  : MetH l Z EL0 n0 N_m_4 method_4_code 7 (some .boolean) [] R_rm42 #[.ref q0, .int 2, .int 2, .ref q1, .int 0, .ref q2, .int 2] h0 [] (fun vs v h ve => (v = some (.int 1) ∧ (h0 = h))) := by
  refine MetH.of #[.val (.ref q0), .val (.int 2), .val (.int 2), .val (.ref q1), .val (.int 0), .val (.ref q2), .val (.int 2)] (plainFor_of_name pn_com_example_tight_calculus_tightcalculus_ReportWordsPinLaw) rfl Z0 (fun p e s m below meth c T0 hret hml hnm hSL hs0 X0 => ?_)
  refine kILn X0 d8_0 rfl ?_
  refine kILn X0 d8_1 rfl ?_
  refine kICf X0 d8_2 (XT.ii_lt_f (by decide)) ?_
  refine kIC X0 1 d8_5 (by decide) ?_
  exact kRETZ X0 (gEL G) (t := .boolean) hret (by simp) d8_6 (fun ve hve => ⟨rfl, rfl⟩) (by decide)
def R_rm43 : Room := { frames := 0, cells := 0, slots := 0, locals := 0 }
theorem rm43 (G : Glob Z a0 iCS vSI) (i0 i1 i2 i3 : Int32) (q0 q1 q2 q3 : Addr) (kp0 kp1 kp2 : ClassId) (h0 : Heap) (Z0 : n0 ≤ h0.size) (O0 : Old Z n0 h0)  : MetH l Z EL0 n0 N_m_4 method_4_code 7 (some .boolean) [] R_rm43 #[.ref q0, .int 3, .int 2, .ref q1, .int 0, .ref q2, .int 2] h0 [] (fun vs v h ve => (v = some (.int 1) ∧ (h0 = h))) := by
  refine MetH.of #[.val (.ref q0), .val (.int 3), .val (.int 2), .val (.ref q1), .val (.int 0), .val (.ref q2), .val (.int 2)] (plainFor_of_name pn_com_example_tight_calculus_tightcalculus_ReportWordsPinLaw) rfl Z0 (fun p e s m below meth c T0 hret hml hnm hSL hs0 X0 => ?_)
  refine kILn X0 d8_0 rfl ?_
  refine kILn X0 d8_1 rfl ?_
  refine kICf X0 d8_2 (XT.ii_lt_f (by decide)) ?_
  refine kIC X0 1 d8_5 (by decide) ?_
  exact kRETZ X0 (gEL G) (t := .boolean) hret (by simp) d8_6 (fun ve hve => ⟨rfl, rfl⟩) (by decide)
def R_rm44 : Room := { frames := 0, cells := 0, slots := 0, locals := 0 }
theorem rm44 (G : Glob Z a0 iCS vSI) (i0 i1 i2 i3 : Int32) (q0 q1 q2 q3 : Addr) (kp0 kp1 kp2 : ClassId) (h0 : Heap) (Z0 : n0 ≤ h0.size) (O0 : Old Z n0 h0)  : MetH l Z EL0 n0 N_m_4 method_4_code 7 (some .boolean) [] R_rm44 #[.ref q0, .int 4, .int 2, .ref q1, .int 0, .ref q2, .int 2] h0 [] (fun vs v h ve => (v = some (.int 1) ∧ (h0 = h))) := by
  refine MetH.of #[.val (.ref q0), .val (.int 4), .val (.int 2), .val (.ref q1), .val (.int 0), .val (.ref q2), .val (.int 2)] (plainFor_of_name pn_com_example_tight_calculus_tightcalculus_ReportWordsPinLaw) rfl Z0 (fun p e s m below meth c T0 hret hml hnm hSL hs0 X0 => ?_)
  refine kILn X0 d8_0 rfl ?_
  refine kILn X0 d8_1 rfl ?_
  refine kICf X0 d8_2 (XT.ii_lt_f (by decide)) ?_
  refine kIC X0 1 d8_5 (by decide) ?_
  exact kRETZ X0 (gEL G) (t := .boolean) hret (by simp) d8_6 (fun ve hve => ⟨rfl, rfl⟩) (by decide)
theorem d5_12 : decode jdk_42_method_55_code 12 = .ok (.iconst 0, 1) := by decide +kernel
def R_rm46 : Room := { frames := 0, cells := 0, slots := 0, locals := 0 }
theorem rm46 (G : Glob Z a0 iCS vSI) (i0 : Int32) (q0 q1 : Addr) (kp0 : ClassId) (h0 : Heap) (Z0 : n0 ≤ h0.size) (O0 : Old Z n0 h0) (F_q0_value : Fld Z h0 q0 "java/lang/String" "value" "[B" (.ref q1)) (A_q1 : Arv Z h0 q1 kp0 .byte 1 [.int i0] (.int 0)) : MetH l Z EL0 n0 N_jdk_42_m_55 jdk_42_method_55_code 1 (some .boolean) [] R_rm46 #[.ref q0] h0 [] (fun vs v h ve => (v = some (.int 0) ∧ (h0 = h))) := by
  refine MetH.of #[.val (.ref q0)] (plainFor_of_name pn_java_lang_String) rfl Z0 (fun p e s m below meth c T0 hret hml hnm hSL hs0 X0 => ?_)
  refine kALn X0 d5_0 rfl rfl ?_
  refine kGETF X0 (wd G 24 rfl) Via.refl F_q0_value d5_1 (fun T1 X2 => ?_)
  refine kLEN X2 A_q1 d5_4 ?_
  refine kIFt X2 12 d5_5 (XT.i0_ne_t (by decide)) (by decide) ?_
  refine kIC X2 0 d5_12 (by decide) ?_
  exact kRETZ X2 (gEL G) (t := .boolean) hret (by simp) d5_13 (fun ve hve => ⟨rfl, rfl⟩) (by decide)
theorem d4_12 : decode prog_30_method_3_code 12 = .ok (.aload_n 1, 1) := by decide +kernel
theorem d4_13 : decode prog_30_method_3_code 13 = .ok (.invokevirtual 158, 3) := by decide +kernel
theorem d4_16 : decode prog_30_method_3_code 16 = .ok (.ifCond .eq 8, 3) := by decide +kernel
theorem d4_19 : decode prog_30_method_3_code 19 = .ok (.aload_n 0, 1) := by decide +kernel
theorem d4_20 : decode prog_30_method_3_code 20 = .ok (.astore_n 2, 1) := by decide +kernel
theorem d4_21 : decode prog_30_method_3_code 21 = .ok (.goto 27, 3) := by decide +kernel
def R_rm45 : Room := { frames := 1, cells := 0, slots := 0, locals := 12 }
theorem rm45 (G : Glob Z a0 iCS vSI) (i0 : Int32) (q0 q1 q2 q3 : Addr) (kp0 kp1 : ClassId) (h0 : Heap) (Z0 : n0 ≤ h0.size) (O0 : Old Z n0 h0) (F_q0_value : Fld Z h0 q0 "java/lang/String" "value" "[B" (.ref q2)) (A_q2 : Arv Z h0 q2 kp0 .byte 1 [.int i0] (.int 0)) (E_q0 : Exa Z h0 q0 "java/lang/String") (F_q1_value : Fld Z h0 q1 "java/lang/String" "value" "[B" (.ref q3)) (A_q3 : Arv Z h0 q3 kp1 .byte 0 [] (.int 0)) (E_q1 : Exa Z h0 q1 "java/lang/String") : MetH l Z EL0 n0 N_prog_30_m_3 prog_30_method_3_code 3 (some (.object "java/lang/String")) [] R_rm45 #[.ref q0, .ref q1] h0 [] (fun vs v h ve => (v = some (.ref q0) ∧ (h0 = h))) := by
  refine MetH.of #[.val (.ref q0), .val (.ref q1), .unset] (plainFor_of_name pn_com_example_tight_calculus_tightcalculus_Report) rfl Z0 (fun p e s m below meth c T0 hret hml hnm hSL hs0 X0 => ?_)
  refine kALn X0 d4_0 rfl rfl ?_
  refine kVIRT X0 (gEL G) (argsL := []) (rest := []) (wd G 30 rfl) (wd G 31 rfl) (own_nf X0.hZ (own_noinst (wd G 6 rfl))) (wd G 33 rfl) (wd G 32 rfl) (wd G 7 rfl) (wd G 34 rfl) (by decide) E_q0 (rm46 G i0 q0 q2 kp0 h0 X0.n O0 F_q0_value A_q2) all0 (lenOf pd___Z rfl) rfl 0 rfl (by decide) hml.symm d4_1 (fun v1 T2 h3 vm4 _ w5 q6 C7 C8 X9 => ?_)
  obtain ⟨e11, f12⟩ := q6
  subst e11
  subst f12
  show Go _ _ _ _ _ (mkF _ _ _ [.int 0])
  refine kIFt X9 12 d4_4 (XT.i0_eq_t (by decide)) (by decide) ?_
  refine kALn X9 d4_12 rfl rfl ?_
  refine kVIRT X9 (gEL G) (argsL := []) (rest := []) (wd G 30 rfl) (wd G 31 rfl) (own_nf X9.hZ (own_noinst (wd G 6 rfl))) (wd G 33 rfl) (wd G 32 rfl) (wd G 7 rfl) (wd G 34 rfl) (by decide) E_q1 (rm5 G q1 q3 kp1 h0 X9.n O0 F_q1_value A_q3) all0 (lenOf pd___Z rfl) rfl 0 rfl (by decide) hml.symm d4_13 (fun v13 T14 h15 vm16 _ w17 q18 C19 C20 X21 => ?_)
  obtain ⟨e23, f24⟩ := q18
  subst e23
  subst f24
  show Go _ _ _ _ _ (mkF _ _ _ [.int 1])
  refine kIFf X21 d4_16 (XT.i0_eq_f (by decide)) ?_
  refine kALn X21 d4_19 rfl rfl ?_
  refine kASn X21 #[.val (.ref q0), .val (.ref q1), .val (.ref q0)] d4_20 rfl rfl ?_
  refine kGOTO X21 48 d4_21 (by decide) ?_
  refine kALn X21 d4_48 rfl rfl ?_
  exact kRETA X21 (gEL G) hret rfl rfl d4_49 (fun ve hve => ⟨rfl, rfl⟩) (by decide)
theorem d36_5 : decode method_5_code 5 = .ok (.aload_n 1, 1) := by decide +kernel
theorem d36_6 : decode method_5_code 6 = .ok (.iload_n 0, 1) := by decide +kernel
theorem d36_7 : decode method_5_code 7 = .ok (.caload, 1) := by decide +kernel
theorem d36_8 : decode method_5_code 8 = .ok (.istore 5, 2) := by decide +kernel
theorem d36_10 : decode method_5_code 10 = .ok (.goto 43, 3) := by decide +kernel
def R_rm48 : Room := { frames := 0, cells := 0, slots := 0, locals := 0 }
theorem rm48 (G : Glob Z a0 iCS vSI) (i0 : Int32) (q0 q1 : Addr) (kp0 kp1 : ClassId) (h0 : Heap) (Z0 : n0 ≤ h0.size) (O0 : Old Z n0 h0) (A_q0 : Arv Z h0 q0 kp0 .char 1 [.int i0] (.int 0)) (c_0 : ¬ (255 : Int32) < i0) (c_1 : ¬ i0 < 0) : MetH l Z EL0 n0 N_m_5 method_5_code 6 (some .char) [] R_rm48 #[.int 0, .ref q0, .int 1, .ref q1, .int 0] h0 [] (fun vs v h ve => (v = some (.int i0) ∧ (h0 = h))) := by
  refine MetH.of #[.val (.int 0), .val (.ref q0), .val (.int 1), .val (.ref q1), .val (.int 0), .unset] (plainFor_of_name pn_com_example_tight_calculus_tightcalculus_ReportWordsPinLaw) rfl Z0 (fun p e s m below meth c T0 hret hml hnm hSL hs0 X0 => ?_)
  refine kILn X0 d36_0 rfl ?_
  refine kILn X0 d36_1 rfl ?_
  refine kICf X0 d36_2 (XT.ii_ge_f (by decide)) ?_
  refine kALn X0 d36_5 rfl rfl ?_
  refine kILn X0 d36_6 rfl ?_
  refine kCALD X0 (.int i0) A_q0 (by decide) rfl d36_7 ?_
  refine kIS X0 #[.val (.int 0), .val (.ref q0), .val (.int 1), .val (.ref q1), .val (.int 0), .val (.int i0)] d36_8 rfl ?_
  refine kGOTO X0 53 d36_10 (by decide) ?_
  refine kIL X0 d36_53 rfl ?_
  exact kRETZ X0 (gEL G) (t := .char) hret (by simp) d36_55 (fun ve hve => ⟨(by rw [(own_nc c_0 c_1)]), rfl⟩) (by decide)
def R_rm47 : Room := { frames := 4, cells := 0, slots := 0, locals := 53 }
theorem rm47 (G : Glob Z a0 iCS vSI) (i0 i1 : Int32) (q0 q1 q2 q3 : Addr) (kp0 kp1 kp2 : ClassId) (h0 : Heap) (Z0 : n0 ≤ h0.size) (O0 : Old Z n0 h0) (F_q0_coder : Fld Z h0 q0 "java/lang/String" "coder" "B" (.int 0)) (E_q0 : Exa Z h0 q0 "java/lang/String") (F_q0_value : Fld Z h0 q0 "java/lang/String" "value" "[B" (.ref q3)) (A_q3 : Arv Z h0 q3 kp2 .byte 1 [.int i1] (.int 0)) (c_0 : ¬ (255 : Int32) < i0) (c_1 : ¬ i0 < 0) (A_q1 : Arv Z h0 q1 kp0 .char 1 [.int i0] (.int 0)) : MetH l Z EL0 n0 N_m_4 method_4_code 7 (some .boolean) [] R_rm47 #[.ref q0, .int 0, .int 1, .ref q1, .int 1, .ref q2, .int 0] h0 [] (fun vs v h ve => (v = some (.int 1) ∧ ((i1 &&& (255 : Int32)) = i0) ∧ (h0 = h)) ∨ (v = some (.int 0) ∧ (¬ (i1 &&& (255 : Int32)) = i0) ∧ (h0 = h))) := by
  refine MetH.of #[.val (.ref q0), .val (.int 0), .val (.int 1), .val (.ref q1), .val (.int 1), .val (.ref q2), .val (.int 0)] (plainFor_of_name pn_com_example_tight_calculus_tightcalculus_ReportWordsPinLaw) rfl Z0 (fun p e s m below meth c T0 hret hml hnm hSL hs0 X0 => ?_)
  refine kILn X0 d8_0 rfl ?_
  refine kILn X0 d8_1 rfl ?_
  refine kICt X0 7 d8_2 (XT.ii_lt_t (by decide)) (by decide) ?_
  refine kALn X0 d8_7 rfl rfl ?_
  refine kILn X0 d8_8 rfl ?_
  refine kVIRT X0 (gEL G) (argsL := [.int 0]) (rest := []) (wd G 161 rfl) (wd G 162 rfl) (own_nf X0.hZ (own_noinst (wd G 6 rfl))) (wd G 164 rfl) (wd G 163 rfl) (wd G 7 rfl) (wd G 165 rfl) (by decide) E_q0 (gm_ca2 G (0 : Int32) (1 : Int32) i1 (i1 &&& (255 : Int32)) ([.int i1]) q0 q3 kp2 h0 X0.n O0 rfl rfl F_q0_coder E_q0 F_q0_value A_q3 (by decide) (by decide)) all0 (lenOf pd__I_C rfl) rfl 0 rfl (by decide) hml.symm d8_9 (fun v1 T2 h3 vm4 _ w5 q6 C7 C8 X9 => ?_)
  obtain ⟨e11, f12⟩ := q6
  subst e11
  subst f12
  show Go _ _ _ _ _ (mkF _ _ _ [.int (i1 &&& (255 : Int32))])
  refine kILn X9 d8_12 rfl ?_
  refine kALn X9 d8_13 rfl rfl ?_
  refine kIL X9 d8_14 rfl ?_
  refine kAL X9 d8_16 rfl rfl ?_
  refine kIL X9 d8_18 rfl ?_
  refine kSTAT X9 (gEL G) (argsL := [.int 0, .ref q1, .int 1, .ref q2, .int 0]) (rest := [.int (i1 &&& (255 : Int32))]) (wd G 183 rfl) (wd G 184 rfl) (wd G 2 rfl) (wd G 185 rfl) (by decide) (rm48 G i0 q1 q2 kp0 kp1 h0 X9.n O0 A_q1 c_0 c_1) all0 (lenOf pd__I_CI_CI_C rfl) rfl 1 rfl (by decide) hml.symm d8_20 (fun v13 T14 h15 vm16 _ w17 q18 C19 C20 X21 => ?_)
  obtain ⟨e23, f24⟩ := q18
  subst e23
  subst f24
  show Go _ _ _ _ _ (mkF _ _ _ [.int i0, .int (i1 &&& (255 : Int32))])
  by_cases c25 : (i1 &&& (255 : Int32)) = i0
  · refine kICf X21 d8_23 (XT.ii_ne_f c25) ?_
    refine kIC X21 1 d8_26 (by decide) ?_
    refine kGOTO X21 31 d8_27 (by decide) ?_
    exact kRETZ X21 (gEL G) (t := .boolean) hret (by simp) d8_31 (fun ve hve => Or.inl (⟨rfl, c25, rfl⟩)) (by decide)
  · refine kICt X21 30 d8_23 (XT.ii_ne_t c25) (by decide) ?_
    refine kIC X21 0 d8_30 (by decide) ?_
    exact kRETZ X21 (gEL G) (t := .boolean) hret (by simp) d8_31 (fun ve hve => Or.inr (⟨rfl, c25, rfl⟩)) (by decide)
def R_rm49 : Room := { frames := 0, cells := 0, slots := 0, locals := 0 }
theorem rm49 (G : Glob Z a0 iCS vSI) (i0 i1 : Int32) (q0 q1 q2 q3 : Addr) (kp0 kp1 kp2 : ClassId) (h0 : Heap) (Z0 : n0 ≤ h0.size) (O0 : Old Z n0 h0)  : MetH l Z EL0 n0 N_m_4 method_4_code 7 (some .boolean) [] R_rm49 #[.ref q0, .int 1, .int 1, .ref q1, .int 1, .ref q2, .int 0] h0 [] (fun vs v h ve => (v = some (.int 1) ∧ (h0 = h))) := by
  refine MetH.of #[.val (.ref q0), .val (.int 1), .val (.int 1), .val (.ref q1), .val (.int 1), .val (.ref q2), .val (.int 0)] (plainFor_of_name pn_com_example_tight_calculus_tightcalculus_ReportWordsPinLaw) rfl Z0 (fun p e s m below meth c T0 hret hml hnm hSL hs0 X0 => ?_)
  refine kILn X0 d8_0 rfl ?_
  refine kILn X0 d8_1 rfl ?_
  refine kICf X0 d8_2 (XT.ii_lt_f (by decide)) ?_
  refine kIC X0 1 d8_5 (by decide) ?_
  exact kRETZ X0 (gEL G) (t := .boolean) hret (by simp) d8_6 (fun ve hve => ⟨rfl, rfl⟩) (by decide)
def R_rm50 : Room := { frames := 0, cells := 0, slots := 0, locals := 0 }
theorem rm50 (G : Glob Z a0 iCS vSI) (i0 i1 : Int32) (q0 q1 q2 q3 : Addr) (kp0 kp1 kp2 : ClassId) (h0 : Heap) (Z0 : n0 ≤ h0.size) (O0 : Old Z n0 h0)  : MetH l Z EL0 n0 N_m_4 method_4_code 7 (some .boolean) [] R_rm50 #[.ref q0, .int 2, .int 1, .ref q1, .int 1, .ref q2, .int 0] h0 [] (fun vs v h ve => (v = some (.int 1) ∧ (h0 = h))) := by
  refine MetH.of #[.val (.ref q0), .val (.int 2), .val (.int 1), .val (.ref q1), .val (.int 1), .val (.ref q2), .val (.int 0)] (plainFor_of_name pn_com_example_tight_calculus_tightcalculus_ReportWordsPinLaw) rfl Z0 (fun p e s m below meth c T0 hret hml hnm hSL hs0 X0 => ?_)
  refine kILn X0 d8_0 rfl ?_
  refine kILn X0 d8_1 rfl ?_
  refine kICf X0 d8_2 (XT.ii_lt_f (by decide)) ?_
  refine kIC X0 1 d8_5 (by decide) ?_
  exact kRETZ X0 (gEL G) (t := .boolean) hret (by simp) d8_6 (fun ve hve => ⟨rfl, rfl⟩) (by decide)
def R_rm51 : Room := { frames := 0, cells := 0, slots := 0, locals := 0 }
theorem rm51 (G : Glob Z a0 iCS vSI) (i0 i1 : Int32) (q0 q1 q2 q3 : Addr) (kp0 kp1 kp2 : ClassId) (h0 : Heap) (Z0 : n0 ≤ h0.size) (O0 : Old Z n0 h0)  : MetH l Z EL0 n0 N_m_4 method_4_code 7 (some .boolean) [] R_rm51 #[.ref q0, .int 3, .int 1, .ref q1, .int 1, .ref q2, .int 0] h0 [] (fun vs v h ve => (v = some (.int 1) ∧ (h0 = h))) := by
  refine MetH.of #[.val (.ref q0), .val (.int 3), .val (.int 1), .val (.ref q1), .val (.int 1), .val (.ref q2), .val (.int 0)] (plainFor_of_name pn_com_example_tight_calculus_tightcalculus_ReportWordsPinLaw) rfl Z0 (fun p e s m below meth c T0 hret hml hnm hSL hs0 X0 => ?_)
  refine kILn X0 d8_0 rfl ?_
  refine kILn X0 d8_1 rfl ?_
  refine kICf X0 d8_2 (XT.ii_lt_f (by decide)) ?_
  refine kIC X0 1 d8_5 (by decide) ?_
  exact kRETZ X0 (gEL G) (t := .boolean) hret (by simp) d8_6 (fun ve hve => ⟨rfl, rfl⟩) (by decide)
def R_rm52 : Room := { frames := 0, cells := 0, slots := 0, locals := 0 }
theorem rm52 (G : Glob Z a0 iCS vSI) (i0 i1 : Int32) (q0 q1 q2 q3 : Addr) (kp0 kp1 kp2 : ClassId) (h0 : Heap) (Z0 : n0 ≤ h0.size) (O0 : Old Z n0 h0)  : MetH l Z EL0 n0 N_m_4 method_4_code 7 (some .boolean) [] R_rm52 #[.ref q0, .int 4, .int 1, .ref q1, .int 1, .ref q2, .int 0] h0 [] (fun vs v h ve => (v = some (.int 1) ∧ (h0 = h))) := by
  refine MetH.of #[.val (.ref q0), .val (.int 4), .val (.int 1), .val (.ref q1), .val (.int 1), .val (.ref q2), .val (.int 0)] (plainFor_of_name pn_com_example_tight_calculus_tightcalculus_ReportWordsPinLaw) rfl Z0 (fun p e s m below meth c T0 hret hml hnm hSL hs0 X0 => ?_)
  refine kILn X0 d8_0 rfl ?_
  refine kILn X0 d8_1 rfl ?_
  refine kICf X0 d8_2 (XT.ii_lt_f (by decide)) ?_
  refine kIC X0 1 d8_5 (by decide) ?_
  exact kRETZ X0 (gEL G) (t := .boolean) hret (by simp) d8_6 (fun ve hve => ⟨rfl, rfl⟩) (by decide)
theorem pn_java_lang_AbstractStringBuilder : plainName "java/lang/AbstractStringBuilder" = true := by first | (simp [plainName, overriddenIn]; done) | decide +kernel
theorem d4_24 : decode prog_30_method_3_code 24 = .ok (.new 13, 3) := by decide +kernel
theorem d4_27 : decode prog_30_method_3_code 27 = .ok (.dup, 1) := by decide +kernel
theorem d4_28 : decode prog_30_method_3_code 28 = .ok (.invokespecial 15, 3) := by decide +kernel
theorem d12_0 : decode jdk_67_method_1_code 0 = .ok (.aload_n 0, 1) := by decide +kernel
theorem d12_1 : decode jdk_67_method_1_code 1 = .ok (.bipush 16, 2) := by decide +kernel
theorem d12_3 : decode jdk_67_method_1_code 3 = .ok (.invokespecial 1, 3) := by decide +kernel
theorem d13_0 : decode jdk_68_method_2_code 0 = .ok (.aload_n 0, 1) := by decide +kernel
theorem d13_1 : decode jdk_68_method_2_code 1 = .ok (.invokespecial 3, 3) := by decide +kernel
theorem d13_4 : decode jdk_68_method_2_code 4 = .ok (.getstatic 18, 3) := by decide +kernel
theorem d13_7 : decode jdk_68_method_2_code 7 = .ok (.ifCond .eq 18, 3) := by decide +kernel
theorem d13_10 : decode jdk_68_method_2_code 10 = .ok (.aload_n 0, 1) := by decide +kernel
theorem d13_11 : decode jdk_68_method_2_code 11 = .ok (.iload_n 1, 1) := by decide +kernel
theorem d13_12 : decode jdk_68_method_2_code 12 = .ok (.newarray .byte, 2) := by decide +kernel
theorem d13_14 : decode jdk_68_method_2_code 14 = .ok (.putfield 15, 3) := by decide +kernel
theorem d13_17 : decode jdk_68_method_2_code 17 = .ok (.aload_n 0, 1) := by decide +kernel
theorem d13_18 : decode jdk_68_method_2_code 18 = .ok (.iconst 0, 1) := by decide +kernel
theorem d13_19 : decode jdk_68_method_2_code 19 = .ok (.putfield 22, 3) := by decide +kernel
theorem d13_22 : decode jdk_68_method_2_code 22 = .ok (.goto 16, 3) := by decide +kernel
theorem d13_38 : decode jdk_68_method_2_code 38 = .ok (.return_, 1) := by decide +kernel
def N_jdk_68_m_2 : MethodName := ⟨"java/lang/AbstractStringBuilder", "<init>", "(I)V"⟩
def R_rm55 : Room := { frames := 1, cells := 1, slots := 16, locals := 12 }
theorem rm55 (G : Glob Z a0 iCS vSI) (q0 : Addr) (h0 : Heap) (Z0 : n0 ≤ h0.size) (O0 : Old Z n0 h0) (E_q0 : Exa Z h0 q0 "java/lang/StringBuilder") (F_q0_value : Fld Z h0 q0 "java/lang/AbstractStringBuilder" "value" "[B" (.null)) (F_q0_coder : Fld Z h0 q0 "java/lang/AbstractStringBuilder" "coder" "B" (.int 0)) (F_q0_count : Fld Z h0 q0 "java/lang/AbstractStringBuilder" "count" "I" (.int 0)) (g_q0 : n0 ≤ q0) : MetH l Z EL0 n0 N_jdk_68_m_2 jdk_68_method_2_code 2 none [] R_rm55 #[.ref q0, .int 16] h0 [] (fun vs v h ve => (∃ (x0 : Addr), ∃ (z0 : ClassId), v = none ∧ (Keep h0 h [q0]) ∧ (h0.size ≤ x0) ∧ (Arv Z h x0 z0 .byte 16 [.int 0, .int 0, .int 0, .int 0, .int 0, .int 0, .int 0, .int 0, .int 0, .int 0, .int 0, .int 0, .int 0, .int 0, .int 0, .int 0] (.int 0)) ∧ (Safe Z EL0 ve h x0) ∧ (Fld Z h q0 "java/lang/AbstractStringBuilder" "coder" "B" (.int 0)) ∧ (Fld Z h q0 "java/lang/AbstractStringBuilder" "count" "I" (.int 0)) ∧ (Fld Z h q0 "java/lang/AbstractStringBuilder" "value" "[B" (.ref x0)))) := by
  refine MetH.of #[.val (.ref q0), .val (.int 16)] (plainFor_of_name pn_java_lang_AbstractStringBuilder) rfl Z0 (fun p e s m below meth c T0 hret hml hnm hSL hs0 X0 => ?_)
  refine kALn X0 d13_0 rfl rfl ?_
  refine kINIT X0 (wd G 71 rfl) (wd G 16 rfl) (wd G 17 rfl) hml.symm d13_1 (by decide) 0 (Nat.le_of_eq rfl) (by decide) (fun T1 X2 => ?_)
  refine kGETS X2 (wd G 72 rfl) Via.refl (Sta.ext O0.2 (S_CS G)) d13_4 (fun T3 X4 => ?_)
  refine kIFf X4 d13_7 (XT.i0_eq_f (n_CS G)) ?_
  refine kALn X4 d13_10 rfl rfl ?_
  refine kILn X4 d13_11 rfl ?_
  refine kNEWP X4 (wd G 19 rfl) (cap := 16) d13_12 (by decide) (by decide) (by decide) (by decide) (by decide) (fun T5 h6 a8 k9 E10 q11 g12 A13 s14 X7 => ?_)
  have n15 : q0 ≠ a8 := Nat.ne_of_lt (Nat.lt_of_lt_of_le (E_q0.lt) (Nat.le_of_eq q11.symm))
  have g16 : h0.size ≤ a8 := q11 ▸ X4.g0
  have f17 : Arv Z h6 a8 k9 .byte 16 [.int 0, .int 0, .int 0, .int 0, .int 0, .int 0, .int 0, .int 0, .int 0, .int 0, .int 0, .int 0, .int 0, .int 0, .int 0, .int 0] (.int 0) := A13.pad (pad_rep [] _ 16)
  have f18 := (Fld.ext E10 F_q0_value)
  have f19 := (Exa.ext E10 E_q0)
  refine kPUTF X7 (wd G 73 rfl) Via.refl f18 f19 (Or.inl (wd G 74 rfl)) (wd G 60 rfl) (ty := (.array (.byte))) (by decide) rfl rfl g_q0 (Safe.exa X7.hZ.alike f19 (by decide) (by decide)) d13_14 (fun T20 h21 L24 W23 X22 => ?_)
  have f25 := Fld.same W23 f18
  refine kALn X22 d13_17 rfl rfl ?_
  refine kIC X22 0 d13_18 (by decide) ?_
  have f26 := (Fld.other W23 (Fld.ext E10 F_q0_coder) (Or.inr (slot_ne (Or.inl (wd G 76 rfl)) (Or.inl (wd G 74 rfl)) (by decide) (by decide : parseFieldDescriptor "B" = some .byte) (by decide : parseFieldDescriptor "[B" = some (.array (.byte))))))
  have f27 := (Exa.wr W23 f19)
  refine kPUTF X22 (wd G 75 rfl) Via.refl f26 f27 (Or.inl (wd G 76 rfl)) (wd G 60 rfl) (ty := .byte) (by decide) (by decide) (by decide) g_q0 (Safe.exa X22.hZ.alike f27 (by decide) (by decide)) d13_19 (fun T28 h29 L32 W31 X30 => ?_)
  have f33 := Fld.same W31 f26
  refine kGOTO X30 38 d13_22 (by decide) ?_
  have K34 : Keep h0 h29 [q0] := (Keep.wr (Keep.wr (Keep.ext (Keep.refl h0 [q0]) E10) W23 (Or.inl (List.mem_of_getElem? (i := 0) rfl))) W31 (Or.inl (List.mem_of_getElem? (i := 0) rfl)))
  have f35 := (Arv.other (Arv.other f17 W23 (Ne.symm n15)) W31 (Ne.symm n15))
  have f36 := (Safe.wr W31 (Safe.exa X22.hZ.alike f27 (by decide) (by decide)) X22.C.1 (Safe.wr W23 (Safe.exa X7.hZ.alike f19 (by decide) (by decide)) X7.C.1 s14))
  have f37 := (Fld.other W31 (Fld.other W23 (Fld.ext E10 F_q0_count) (Or.inr (slot_ne (Or.inl (wd G 89 rfl)) (Or.inl (wd G 74 rfl)) (by decide) (by decide : parseFieldDescriptor "I" = some .int) (by decide : parseFieldDescriptor "[B" = some (.array (.byte)))))) (Or.inr (slot_ne (Or.inl (wd G 89 rfl)) (Or.inl (wd G 76 rfl)) (by decide) (by decide : parseFieldDescriptor "I" = some .int) (by decide : parseFieldDescriptor "B" = some .byte))))
  have f38 := (Fld.other W31 f25 (Or.inr (slot_ne (Or.inl (wd G 74 rfl)) (Or.inl (wd G 76 rfl)) (by decide) (by decide : parseFieldDescriptor "[B" = some (.array (.byte))) (by decide : parseFieldDescriptor "B" = some .byte))))
  exact kRETV X30 (gEL G) hret d13_38 (fun ve hve => ⟨a8, k9, rfl, K34, g16, f35, (CHr.safe hve (f35.lt) f36), f33, f37, f38⟩) (by decide)
theorem pn_java_lang_StringBuilder : plainName "java/lang/StringBuilder" = true := by first | (simp [plainName, overriddenIn]; done) | decide +kernel
theorem pd__I_V : parseMethodDescriptor "(I)V" = some ⟨[.int], none⟩ := by decide +kernel
theorem d12_6 : decode jdk_67_method_1_code 6 = .ok (.return_, 1) := by decide +kernel
def N_jdk_67_m_1 : MethodName := ⟨"java/lang/StringBuilder", "<init>", "()V"⟩
def R_rm54 : Room := { frames := 2, cells := 1, slots := 16, locals := 25 }
theorem rm54 (G : Glob Z a0 iCS vSI) (q0 : Addr) (h0 : Heap) (Z0 : n0 ≤ h0.size) (O0 : Old Z n0 h0) (E_q0 : Exa Z h0 q0 "java/lang/StringBuilder") (F_q0_value : Fld Z h0 q0 "java/lang/AbstractStringBuilder" "value" "[B" (.null)) (F_q0_coder : Fld Z h0 q0 "java/lang/AbstractStringBuilder" "coder" "B" (.int 0)) (F_q0_count : Fld Z h0 q0 "java/lang/AbstractStringBuilder" "count" "I" (.int 0)) (g_q0 : n0 ≤ q0) : MetH l Z EL0 n0 N_jdk_67_m_1 jdk_67_method_1_code 1 none [] R_rm54 #[.ref q0] h0 [] (fun vs v h ve => (∃ (x0 : Addr), ∃ (z0 : ClassId), v = none ∧ (Keep h0 h [q0]) ∧ (h0.size ≤ x0) ∧ (Arv Z h x0 z0 .byte 16 [.int 0, .int 0, .int 0, .int 0, .int 0, .int 0, .int 0, .int 0, .int 0, .int 0, .int 0, .int 0, .int 0, .int 0, .int 0, .int 0] (.int 0)) ∧ (Safe Z EL0 ve h x0) ∧ (Fld Z h q0 "java/lang/AbstractStringBuilder" "coder" "B" (.int 0)) ∧ (Fld Z h q0 "java/lang/AbstractStringBuilder" "count" "I" (.int 0)) ∧ (Fld Z h q0 "java/lang/AbstractStringBuilder" "value" "[B" (.ref x0)))) := by
  refine MetH.of #[.val (.ref q0)] (plainFor_of_name pn_java_lang_StringBuilder) rfl Z0 (fun p e s m below meth c T0 hret hml hnm hSL hs0 X0 => ?_)
  refine kALn X0 d12_0 rfl rfl ?_
  refine kBI X0 16 d12_1 (by decide) ?_
  refine kSPEC X0 (gEL G) (argsL := [.int 16]) (rest := []) (wd G 65 rfl) (wd G 66 rfl) (wd G 69 rfl) (wd G 70 rfl) rfl (by decide) (rm55 G q0 h0 X0.n O0 E_q0 F_q0_value F_q0_coder F_q0_count g_q0) all0 (lenOf pd__I_V rfl) rfl 0 rfl (by decide) hml.symm d12_3 (fun v1 T2 h3 vm4 _ w5 q6 C7 C8 X9 => ?_)
  obtain ⟨a11, k12, e13, f14, f15, f16, f17, f18, f19, f20⟩ := q6
  subst e13
  have n21 : q0 ≠ a11 := Nat.ne_of_lt (Nat.lt_of_lt_of_le (E_q0.lt) f15)
  have g22 : n0 ≤ a11 := Nat.le_trans X0.n f15
  have g23 : h0.size ≤ a11 := Nat.le_trans X0.g0 f15
  show Go _ _ _ _ _ (mkF _ _ _ [])
  have K24 : Keep h0 h3 [q0] := (Keep.trans (Keep.refl h0 [q0]) f14 (allS (Or.inl (List.mem_of_getElem? (i := 0) rfl)) all0))
  exact kRETV X9 (gEL G) hret d12_6 (fun ve hve => ⟨a11, k12, rfl, K24, g23, f16, (CHr.safe hve (f16.lt) f17), f18, f19, f20⟩) (by decide)
theorem pd___V : parseMethodDescriptor "()V" = some ⟨[], none⟩ := by decide +kernel
theorem d4_31 : decode prog_30_method_3_code 31 = .ok (.aload_n 0, 1) := by decide +kernel
theorem d4_32 : decode prog_30_method_3_code 32 = .ok (.invokevirtual 68, 3) := by decide +kernel
theorem d14_0 : decode jdk_67_method_7_code 0 = .ok (.aload_n 0, 1) := by decide +kernel
theorem d14_1 : decode jdk_67_method_7_code 1 = .ok (.aload_n 1, 1) := by decide +kernel
theorem d14_2 : decode jdk_67_method_7_code 2 = .ok (.invokespecial 29, 3) := by decide +kernel
theorem d15_0 : decode jdk_68_method_22_code 0 = .ok (.aload_n 1, 1) := by decide +kernel
theorem d15_1 : decode jdk_68_method_22_code 1 = .ok (.ifnonnull 8, 3) := by decide +kernel
theorem d15_9 : decode jdk_68_method_22_code 9 = .ok (.aload_n 1, 1) := by decide +kernel
theorem d15_10 : decode jdk_68_method_22_code 10 = .ok (.invokevirtual 32, 3) := by decide +kernel
theorem d15_13 : decode jdk_68_method_22_code 13 = .ok (.istore_n 2, 1) := by decide +kernel
theorem d15_14 : decode jdk_68_method_22_code 14 = .ok (.aload_n 0, 1) := by decide +kernel
theorem d15_15 : decode jdk_68_method_22_code 15 = .ok (.aload_n 0, 1) := by decide +kernel
theorem d15_16 : decode jdk_68_method_22_code 16 = .ok (.getfield 79, 3) := by decide +kernel
theorem d15_19 : decode jdk_68_method_22_code 19 = .ok (.iload_n 2, 1) := by decide +kernel
theorem d15_20 : decode jdk_68_method_22_code 20 = .ok (.iadd, 1) := by decide +kernel
theorem d15_21 : decode jdk_68_method_22_code 21 = .ok (.invokevirtual 100, 3) := by decide +kernel
theorem d16_0 : decode jdk_68_method_9_code 0 = .ok (.aload_n 0, 1) := by decide +kernel
theorem d16_1 : decode jdk_68_method_9_code 1 = .ok (.getfield 15, 3) := by decide +kernel
theorem d16_4 : decode jdk_68_method_9_code 4 = .ok (.arraylength, 1) := by decide +kernel
theorem d16_5 : decode jdk_68_method_9_code 5 = .ok (.aload_n 0, 1) := by decide +kernel
theorem d16_6 : decode jdk_68_method_9_code 6 = .ok (.getfield 22, 3) := by decide +kernel
theorem d16_9 : decode jdk_68_method_9_code 9 = .ok (.ishr, 1) := by decide +kernel
theorem d16_10 : decode jdk_68_method_9_code 10 = .ok (.istore_n 2, 1) := by decide +kernel
theorem d16_11 : decode jdk_68_method_9_code 11 = .ok (.iload_n 1, 1) := by decide +kernel
theorem d16_12 : decode jdk_68_method_9_code 12 = .ok (.iload_n 2, 1) := by decide +kernel
theorem d16_13 : decode jdk_68_method_9_code 13 = .ok (.isub, 1) := by decide +kernel
theorem d16_14 : decode jdk_68_method_9_code 14 = .ok (.ifCond .le 24, 3) := by decide +kernel
theorem d16_38 : decode jdk_68_method_9_code 38 = .ok (.return_, 1) := by decide +kernel
def N_jdk_68_m_9 : MethodName := ⟨"java/lang/AbstractStringBuilder", "ensureCapacityInternal", "(I)V"⟩
def R_rm58 : Room := { frames := 0, cells := 0, slots := 0, locals := 0 }
theorem rm58 (G : Glob Z a0 iCS vSI) (q0 q1 : Addr) (kp0 : ClassId) (h0 : Heap) (Z0 : n0 ≤ h0.size) (O0 : Old Z n0 h0) (F_q0_value : Fld Z h0 q0 "java/lang/AbstractStringBuilder" "value" "[B" (.ref q1)) (A_q1 : Arv Z h0 q1 kp0 .byte 16 [.int 0, .int 0, .int 0, .int 0, .int 0, .int 0, .int 0, .int 0, .int 0, .int 0, .int 0, .int 0, .int 0, .int 0, .int 0, .int 0] (.int 0)) (F_q0_coder : Fld Z h0 q0 "java/lang/AbstractStringBuilder" "coder" "B" (.int 0)) : MetH l Z EL0 n0 N_jdk_68_m_9 jdk_68_method_9_code 3 none [] R_rm58 #[.ref q0, .int 1] h0 [] (fun vs v h ve => (v = none ∧ (h0 = h))) := by
  refine MetH.of #[.val (.ref q0), .val (.int 1), .unset] (plainFor_of_name pn_java_lang_AbstractStringBuilder) rfl Z0 (fun p e s m below meth c T0 hret hml hnm hSL hs0 X0 => ?_)
  refine kALn X0 d16_0 rfl rfl ?_
  refine kGETF X0 (wd G 73 rfl) Via.refl F_q0_value d16_1 (fun T1 X2 => ?_)
  refine kLEN X2 A_q1 d16_4 ?_
  refine kALn X2 d16_5 rfl rfl ?_
  refine kGETF X2 (wd G 75 rfl) Via.refl F_q0_coder d16_6 (fun T3 X4 => ?_)
  refine kISHR X4 16 d16_9 (by decide) ?_
  refine kISn X4 #[.val (.ref q0), .val (.int 1), .val (.int 16)] d16_10 rfl ?_
  refine kILn X4 d16_11 rfl ?_
  refine kILn X4 d16_12 rfl ?_
  refine kISUB X4 (-15) d16_13 (by decide) ?_
  refine kIFt X4 38 d16_14 (XT.i0_le_t (by decide)) (by decide) ?_
  exact kRETV X4 (gEL G) hret d16_38 (fun ve hve => ⟨rfl, rfl⟩) (by decide)
theorem d15_24 : decode jdk_68_method_22_code 24 = .ok (.aload_n 0, 1) := by decide +kernel
theorem d15_25 : decode jdk_68_method_22_code 25 = .ok (.aload_n 0, 1) := by decide +kernel
theorem d15_26 : decode jdk_68_method_22_code 26 = .ok (.getfield 79, 3) := by decide +kernel
theorem d15_29 : decode jdk_68_method_22_code 29 = .ok (.aload_n 1, 1) := by decide +kernel
theorem d15_30 : decode jdk_68_method_22_code 30 = .ok (.invokevirtual 208, 3) := by decide +kernel
theorem d17_0 : decode jdk_68_method_73_code 0 = .ok (.aload_n 0, 1) := by decide +kernel
theorem d17_1 : decode jdk_68_method_73_code 1 = .ok (.aload_n 2, 1) := by decide +kernel
theorem d17_2 : decode jdk_68_method_73_code 2 = .ok (.invokevirtual 397, 3) := by decide +kernel
theorem d18_0 : decode jdk_68_method_71_code 0 = .ok (.getstatic 18, 3) := by decide +kernel
theorem d18_3 : decode jdk_68_method_71_code 3 = .ok (.ifCond .eq 18, 3) := by decide +kernel
theorem d18_6 : decode jdk_68_method_71_code 6 = .ok (.aload_n 0, 1) := by decide +kernel
theorem d18_7 : decode jdk_68_method_71_code 7 = .ok (.getfield 22, 3) := by decide +kernel
theorem d18_10 : decode jdk_68_method_71_code 10 = .ok (.aload_n 1, 1) := by decide +kernel
theorem d18_11 : decode jdk_68_method_71_code 11 = .ok (.invokevirtual 40, 3) := by decide +kernel
theorem d18_14 : decode jdk_68_method_71_code 14 = .ok (.if_icmp .eq 7, 3) := by decide +kernel
theorem d18_21 : decode jdk_68_method_71_code 21 = .ok (.return_, 1) := by decide +kernel
def N_jdk_68_m_71 : MethodName := ⟨"java/lang/AbstractStringBuilder", "inflateIfNeededFor", "(Ljava/lang/String;)V"⟩
def R_rm60 : Room := { frames := 1, cells := 0, slots := 0, locals := 13 }
theorem rm60 (G : Glob Z a0 iCS vSI) (i0 : Int32) (q0 q1 q2 q3 : Addr) (kp0 kp1 : ClassId) (h0 : Heap) (Z0 : n0 ≤ h0.size) (O0 : Old Z n0 h0) (F_q0_coder : Fld Z h0 q0 "java/lang/AbstractStringBuilder" "coder" "B" (.int 0)) (F_q1_coder : Fld Z h0 q1 "java/lang/String" "coder" "B" (.int 0)) (E_q1 : Exa Z h0 q1 "java/lang/String") : MetH l Z EL0 n0 N_jdk_68_m_71 jdk_68_method_71_code 2 none [] R_rm60 #[.ref q0, .ref q1] h0 [] (fun vs v h ve => (v = none ∧ (h0 = h))) := by
  refine MetH.of #[.val (.ref q0), .val (.ref q1)] (plainFor_of_name pn_java_lang_AbstractStringBuilder) rfl Z0 (fun p e s m below meth c T0 hret hml hnm hSL hs0 X0 => ?_)
  refine kGETS X0 (wd G 72 rfl) Via.refl (Sta.ext O0.2 (S_CS G)) d18_0 (fun T1 X2 => ?_)
  refine kIFf X2 d18_3 (XT.i0_eq_f (n_CS G)) ?_
  refine kALn X2 d18_6 rfl rfl ?_
  refine kGETF X2 (wd G 75 rfl) Via.refl F_q0_coder d18_7 (fun T3 X4 => ?_)
  refine kALn X4 d18_10 rfl rfl ?_
  refine kVIRT X4 (gEL G) (argsL := []) (rest := [.int 0]) (wd G 105 rfl) (wd G 41 rfl) (own_nf X4.hZ (own_noinst (wd G 6 rfl))) (wd G 43 rfl) (wd G 42 rfl) (wd G 7 rfl) (wd G 44 rfl) (by decide) E_q1 (rm21 G i0 q1 q3 kp1 h0 X4.n O0 F_q1_coder) all0 (lenOf pd___B rfl) rfl 1 rfl (by decide) hml.symm d18_11 (fun v5 T6 h7 vm8 _ w9 q10 C11 C12 X13 => ?_)
  obtain ⟨e15, f16⟩ := q10
  subst e15
  subst f16
  show Go _ _ _ _ _ (mkF _ _ _ [.int 0, .int 0])
  refine kICt X13 21 d18_14 (XT.ii_eq_t (by decide)) (by decide) ?_
  exact kRETV X13 (gEL G) hret d18_21 (fun ve hve => ⟨rfl, rfl⟩) (by decide)
theorem pd__Ljava_lang_String__V : parseMethodDescriptor "(Ljava/lang/String;)V" = some ⟨[.object "java/lang/String"], none⟩ := by decide +kernel
theorem d17_5 : decode jdk_68_method_73_code 5 = .ok (.aload_n 2, 1) := by decide +kernel
theorem d17_6 : decode jdk_68_method_73_code 6 = .ok (.aload_n 0, 1) := by decide +kernel
theorem d17_7 : decode jdk_68_method_73_code 7 = .ok (.getfield 15, 3) := by decide +kernel
theorem d17_10 : decode jdk_68_method_73_code 10 = .ok (.iload_n 1, 1) := by decide +kernel
theorem d17_11 : decode jdk_68_method_73_code 11 = .ok (.aload_n 0, 1) := by decide +kernel
theorem d17_12 : decode jdk_68_method_73_code 12 = .ok (.getfield 22, 3) := by decide +kernel
theorem d17_15 : decode jdk_68_method_73_code 15 = .ok (.invokevirtual 399, 3) := by decide +kernel
theorem d19_0 : decode jdk_42_method_147_code 0 = .ok (.aload_n 0, 1) := by decide +kernel
theorem d19_1 : decode jdk_42_method_147_code 1 = .ok (.invokevirtual 335, 3) := by decide +kernel
theorem d19_4 : decode jdk_42_method_147_code 4 = .ok (.iload_n 3, 1) := by decide +kernel
theorem d19_5 : decode jdk_42_method_147_code 5 = .ok (.if_icmp .ne 23, 3) := by decide +kernel
theorem d19_8 : decode jdk_42_method_147_code 8 = .ok (.aload_n 0, 1) := by decide +kernel
theorem d19_9 : decode jdk_42_method_147_code 9 = .ok (.getfield 9, 3) := by decide +kernel
theorem d19_12 : decode jdk_42_method_147_code 12 = .ok (.iconst 0, 1) := by decide +kernel
theorem d19_13 : decode jdk_42_method_147_code 13 = .ok (.aload_n 1, 1) := by decide +kernel
theorem d19_14 : decode jdk_42_method_147_code 14 = .ok (.iload_n 2, 1) := by decide +kernel
theorem d19_15 : decode jdk_42_method_147_code 15 = .ok (.iload_n 3, 1) := by decide +kernel
theorem d19_16 : decode jdk_42_method_147_code 16 = .ok (.ishl, 1) := by decide +kernel
theorem d19_17 : decode jdk_42_method_147_code 17 = .ok (.aload_n 0, 1) := by decide +kernel
theorem d19_18 : decode jdk_42_method_147_code 18 = .ok (.getfield 9, 3) := by decide +kernel
theorem d19_21 : decode jdk_42_method_147_code 21 = .ok (.arraylength, 1) := by decide +kernel
theorem d19_22 : decode jdk_42_method_147_code 22 = .ok (.invokestatic 212, 3) := by decide +kernel
theorem d19_25 : decode jdk_42_method_147_code 25 = .ok (.goto 18, 3) := by decide +kernel
theorem d19_43 : decode jdk_42_method_147_code 43 = .ok (.return_, 1) := by decide +kernel
def N_jdk_42_m_147 : MethodName := ⟨"java/lang/String", "getBytes", "([BIB)V"⟩
def R_rm61 : Room := { frames := 1, cells := 0, slots := 0, locals := 18 }
theorem rm61 (G : Glob Z a0 iCS vSI) (i0 : Int32) (q0 q1 q2 : Addr) (kp0 kp1 : ClassId) (h0 : Heap) (Z0 : n0 ≤ h0.size) (O0 : Old Z n0 h0) (F_q0_coder : Fld Z h0 q0 "java/lang/String" "coder" "B" (.int 0)) (E_q0 : Exa Z h0 q0 "java/lang/String") (F_q0_value : Fld Z h0 q0 "java/lang/String" "value" "[B" (.ref q2)) (A_q2 : Arv Z h0 q2 kp1 .byte 1 [.int i0] (.int 0)) (A_q1 : Arv Z h0 q1 kp0 .byte 16 [.int 0, .int 0, .int 0, .int 0, .int 0, .int 0, .int 0, .int 0, .int 0, .int 0, .int 0, .int 0, .int 0, .int 0, .int 0, .int 0] (.int 0)) (g_q1 : n0 ≤ q1) : MetH l Z EL0 n0 N_jdk_42_m_147 jdk_42_method_147_code 4 none [] R_rm61 #[.ref q0, .ref q1, .int 0, .int 0] h0 [q1] (fun vs v h ve => (v = none ∧ (Keep h0 h [q1]) ∧ (Arv Z h q1 kp0 .byte 16 [.int i0, .int 0, .int 0, .int 0, .int 0, .int 0, .int 0, .int 0, .int 0, .int 0, .int 0, .int 0, .int 0, .int 0, .int 0, .int 0] (.int 0)))) := by
  refine MetH.of #[.val (.ref q0), .val (.ref q1), .val (.int 0), .val (.int 0)] (plainFor_of_name pn_java_lang_String) rfl Z0 (fun p e s m below meth c T0 hret hml hnm hSL hs0 X0 => ?_)
  have S_q1 := hSL q1 (List.mem_of_getElem? (i := 0) rfl)
  refine kALn X0 d19_0 rfl rfl ?_
  refine kVIRT X0 (gEL G) (argsL := []) (rest := []) (wd G 40 rfl) (wd G 41 rfl) (own_nf X0.hZ (own_noinst (wd G 6 rfl))) (wd G 43 rfl) (wd G 42 rfl) (wd G 7 rfl) (wd G 44 rfl) (by decide) E_q0 (rm21 G i0 q0 q2 kp1 h0 X0.n O0 F_q0_coder) all0 (lenOf pd___B rfl) rfl 0 rfl (by decide) hml.symm d19_1 (fun v1 T2 h3 vm4 _ w5 q6 C7 C8 X9 => ?_)
  obtain ⟨e11, f12⟩ := q6
  subst e11
  subst f12
  show Go _ _ _ _ _ (mkF _ _ _ [.int 0])
  refine kILn X9 d19_4 rfl ?_
  refine kICf X9 d19_5 (XT.ii_ne_f (by decide)) ?_
  refine kALn X9 d19_8 rfl rfl ?_
  refine kGETF X9 (wd G 24 rfl) Via.refl F_q0_value d19_9 (fun T13 X14 => ?_)
  refine kIC X14 0 d19_12 (by decide) ?_
  refine kALn X14 d19_13 rfl rfl ?_
  refine kILn X14 d19_14 rfl ?_
  refine kILn X14 d19_15 rfl ?_
  refine kISHL X14 0 d19_16 (by decide) ?_
  refine kALn X14 d19_17 rfl rfl ?_
  refine kGETF X14 (wd G 24 rfl) Via.refl F_q0_value d19_18 (fun T15 X16 => ?_)
  refine kLEN X16 A_q2 d19_21 ?_
  have f17 := (CHr.safe C8 (A_q1.lt) S_q1)
  refine kCPA X16 (wd G 111 rfl) (wd G 114 rfl) (wd G 112 rfl) (wd G 113 rfl) A_q2 A_q1 (Or.inl ⟨rfl, rfl⟩) (us := [.int i0]) (by decide) rfl (by show 1 ≤ 16; decide) g_q1 f17 hml.symm d19_22 (by decide) 0 (Nat.le_of_eq rfl) (by decide) (fun T18 h19 L21 K22 C23 f24 X20 => ?_)
  have f25 : Arv Z h19 q1 kp0 .byte 16 [.int i0, .int 0, .int 0, .int 0, .int 0, .int 0, .int 0, .int 0, .int 0, .int 0, .int 0, .int 0, .int 0, .int 0, .int 0, .int 0] (.int 0) := f24
  refine kGOTO X20 43 d19_25 (by decide) ?_
  have K26 : Keep h0 h19 [q1] := (Keep.trans (Keep.refl h0 [q1]) K22 (allS (Or.inl (List.mem_of_getElem? (i := 0) rfl)) all0))
  exact kRETV X20 (gEL G) hret d19_43 (fun ve hve => ⟨rfl, K26, f25⟩) (by decide)
theorem pd___BIB_V : parseMethodDescriptor "([BIB)V" = some ⟨[.array (.byte), .int, .byte], none⟩ := by decide +kernel
theorem d17_18 : decode jdk_68_method_73_code 18 = .ok (.return_, 1) := by decide +kernel
def N_jdk_68_m_73 : MethodName := ⟨"java/lang/AbstractStringBuilder", "putStringAt", "(ILjava/lang/String;)V"⟩
def R_rm59 : Room := { frames := 2, cells := 0, slots := 0, locals := 33 }
theorem rm59 (G : Glob Z a0 iCS vSI) (i0 : Int32) (q0 q1 q2 q3 : Addr) (kp0 kp1 : ClassId) (h0 : Heap) (Z0 : n0 ≤ h0.size) (O0 : Old Z n0 h0) (F_q0_coder : Fld Z h0 q0 "java/lang/AbstractStringBuilder" "coder" "B" (.int 0)) (F_q1_coder : Fld Z h0 q1 "java/lang/String" "coder" "B" (.int 0)) (E_q1 : Exa Z h0 q1 "java/lang/String") (E_q0 : Exa Z h0 q0 "java/lang/StringBuilder") (F_q0_value : Fld Z h0 q0 "java/lang/AbstractStringBuilder" "value" "[B" (.ref q2)) (F_q1_value : Fld Z h0 q1 "java/lang/String" "value" "[B" (.ref q3)) (A_q3 : Arv Z h0 q3 kp1 .byte 1 [.int i0] (.int 0)) (A_q2 : Arv Z h0 q2 kp0 .byte 16 [.int 0, .int 0, .int 0, .int 0, .int 0, .int 0, .int 0, .int 0, .int 0, .int 0, .int 0, .int 0, .int 0, .int 0, .int 0, .int 0] (.int 0)) (g_q2 : n0 ≤ q2) : MetH l Z EL0 n0 N_jdk_68_m_73 jdk_68_method_73_code 3 none [] R_rm59 #[.ref q0, .int 0, .ref q1] h0 [q2] (fun vs v h ve => (v = none ∧ (Keep h0 h [q2]) ∧ (Arv Z h q2 kp0 .byte 16 [.int i0, .int 0, .int 0, .int 0, .int 0, .int 0, .int 0, .int 0, .int 0, .int 0, .int 0, .int 0, .int 0, .int 0, .int 0, .int 0] (.int 0)))) := by
  refine MetH.of #[.val (.ref q0), .val (.int 0), .val (.ref q1)] (plainFor_of_name pn_java_lang_AbstractStringBuilder) rfl Z0 (fun p e s m below meth c T0 hret hml hnm hSL hs0 X0 => ?_)
  have S_q2 := hSL q2 (List.mem_of_getElem? (i := 0) rfl)
  refine kALn X0 d17_0 rfl rfl ?_
  refine kALn X0 d17_1 rfl rfl ?_
  refine kVIRT X0 (gEL G) (argsL := [.ref q1]) (rest := []) (wd G 100 rfl) (own_decl (wd G 101 rfl) (wd G 104 rfl)) (own_nf X0.hZ (own_noface (wd G 93 rfl) rfl)) (wd G 103 rfl) (wd G 101 rfl) (wd G 69 rfl) (wd G 104 rfl) (by decide) E_q0 (rm60 G i0 q0 q1 q2 q3 kp0 kp1 h0 X0.n O0 F_q0_coder F_q1_coder E_q1) all0 (lenOf pd__Ljava_lang_String__V rfl) rfl 0 rfl (by decide) hml.symm d17_2 (fun v1 T2 h3 vm4 _ w5 q6 C7 C8 X9 => ?_)
  obtain ⟨e11, f12⟩ := q6
  subst e11
  subst f12
  show Go _ _ _ _ _ (mkF _ _ _ [])
  refine kALn X9 d17_5 rfl rfl ?_
  refine kALn X9 d17_6 rfl rfl ?_
  refine kGETF X9 (wd G 73 rfl) Via.refl F_q0_value d17_7 (fun T13 X14 => ?_)
  refine kILn X14 d17_10 rfl ?_
  refine kALn X14 d17_11 rfl rfl ?_
  refine kGETF X14 (wd G 75 rfl) Via.refl F_q0_coder d17_12 (fun T15 X16 => ?_)
  have f26 := (CHr.safe C8 (A_q2.lt) S_q2)
  refine kVIRT X16 (gEL G) (argsL := [.ref q2, .int 0, .int 0]) (rest := []) (wd G 106 rfl) (wd G 107 rfl) (own_nf X16.hZ (own_noinst (wd G 6 rfl))) (wd G 109 rfl) (wd G 108 rfl) (wd G 7 rfl) (wd G 110 rfl) (by decide) E_q1 (rm61 G i0 q1 q2 q3 kp0 kp1 h0 X16.n O0 F_q1_coder E_q1 F_q1_value A_q3 A_q2 g_q2) (allS ⟨(A_q2.lt), f26⟩ all0) (lenOf pd___BIB_V rfl) rfl 0 rfl (by decide) hml.symm d17_15 (fun v17 T18 h19 vm20 _ w21 q22 C23 C24 X25 => ?_)
  obtain ⟨e28, f29, f30⟩ := q22
  subst e28
  show Go _ _ _ _ _ (mkF _ _ _ [])
  have K31 : Keep h0 h19 [q2] := (Keep.trans (Keep.refl h0 [q2]) f29 (allS (Or.inl (List.mem_of_getElem? (i := 0) rfl)) all0))
  exact kRETV X25 (gEL G) hret d17_18 (fun ve hve => ⟨rfl, K31, f30⟩) (by decide)
theorem pd__ILjava_lang_String__V : parseMethodDescriptor "(ILjava/lang/String;)V" = some ⟨[.int, .object "java/lang/String"], none⟩ := by decide +kernel
theorem d15_33 : decode jdk_68_method_22_code 33 = .ok (.aload_n 0, 1) := by decide +kernel
theorem d15_34 : decode jdk_68_method_22_code 34 = .ok (.dup, 1) := by decide +kernel
theorem d15_35 : decode jdk_68_method_22_code 35 = .ok (.getfield 79, 3) := by decide +kernel
theorem d15_38 : decode jdk_68_method_22_code 38 = .ok (.iload_n 2, 1) := by decide +kernel
theorem d15_39 : decode jdk_68_method_22_code 39 = .ok (.iadd, 1) := by decide +kernel
theorem d15_40 : decode jdk_68_method_22_code 40 = .ok (.putfield 79, 3) := by decide +kernel
theorem d15_43 : decode jdk_68_method_22_code 43 = .ok (.aload_n 0, 1) := by decide +kernel
theorem d15_44 : decode jdk_68_method_22_code 44 = .ok (.areturn, 1) := by decide +kernel
def N_jdk_68_m_22 : MethodName := ⟨"java/lang/AbstractStringBuilder", "append", "(Ljava/lang/String;)Ljava/lang/AbstractStringBuilder;"⟩
def R_rm57 : Room := { frames := 3, cells := 0, slots := 0, locals := 47 }
theorem rm57 (G : Glob Z a0 iCS vSI) (i0 : Int32) (q0 q1 q2 q3 : Addr) (kp0 kp1 : ClassId) (h0 : Heap) (Z0 : n0 ≤ h0.size) (O0 : Old Z n0 h0) (F_q1_value : Fld Z h0 q1 "java/lang/String" "value" "[B" (.ref q3)) (A_q3 : Arv Z h0 q3 kp1 .byte 1 [.int i0] (.int 0)) (F_q1_coder : Fld Z h0 q1 "java/lang/String" "coder" "B" (.int 0)) (E_q1 : Exa Z h0 q1 "java/lang/String") (F_q0_count : Fld Z h0 q0 "java/lang/AbstractStringBuilder" "count" "I" (.int 0)) (F_q0_value : Fld Z h0 q0 "java/lang/AbstractStringBuilder" "value" "[B" (.ref q2)) (A_q2 : Arv Z h0 q2 kp0 .byte 16 [.int 0, .int 0, .int 0, .int 0, .int 0, .int 0, .int 0, .int 0, .int 0, .int 0, .int 0, .int 0, .int 0, .int 0, .int 0, .int 0] (.int 0)) (F_q0_coder : Fld Z h0 q0 "java/lang/AbstractStringBuilder" "coder" "B" (.int 0)) (E_q0 : Exa Z h0 q0 "java/lang/StringBuilder") (d_q0_q2 : q0 ≠ q2) (g_q0 : n0 ≤ q0) (g_q2 : n0 ≤ q2) : MetH l Z EL0 n0 N_jdk_68_m_22 jdk_68_method_22_code 3 (some (.object "java/lang/AbstractStringBuilder")) [] R_rm57 #[.ref q0, .ref q1] h0 [q2] (fun vs v h ve => (v = some (.ref q0) ∧ (Keep h0 h [q2, q0]) ∧ (Arv Z h q2 kp0 .byte 16 [.int i0, .int 0, .int 0, .int 0, .int 0, .int 0, .int 0, .int 0, .int 0, .int 0, .int 0, .int 0, .int 0, .int 0, .int 0, .int 0] (.int 0)) ∧ (Fld Z h q0 "java/lang/AbstractStringBuilder" "coder" "B" (.int 0)) ∧ (Fld Z h q0 "java/lang/AbstractStringBuilder" "count" "I" (.int 1)) ∧ (Fld Z h q0 "java/lang/AbstractStringBuilder" "value" "[B" (.ref q2)))) := by
  refine MetH.of #[.val (.ref q0), .val (.ref q1), .unset] (plainFor_of_name pn_java_lang_AbstractStringBuilder) rfl Z0 (fun p e s m below meth c T0 hret hml hnm hSL hs0 X0 => ?_)
  have S_q2 := hSL q2 (List.mem_of_getElem? (i := 0) rfl)
  refine kALn X0 d15_0 rfl rfl ?_
  refine kNNt X0 9 d15_1 (by decide) ?_
  refine kALn X0 d15_9 rfl rfl ?_
  refine kVIRT X0 (gEL G) (argsL := []) (rest := []) (wd G 87 rfl) (wd G 36 rfl) (own_nf X0.hZ (own_noinst (wd G 6 rfl))) (wd G 38 rfl) (wd G 37 rfl) (wd G 7 rfl) (wd G 39 rfl) (by decide) E_q1 (rm20 G i0 q1 q3 kp1 h0 X0.n O0 F_q1_value A_q3 F_q1_coder E_q1) all0 (lenOf pd___I rfl) rfl 0 rfl (by decide) hml.symm d15_10 (fun v1 T2 h3 vm4 _ w5 q6 C7 C8 X9 => ?_)
  obtain ⟨e11, f12⟩ := q6
  subst e11
  subst f12
  show Go _ _ _ _ _ (mkF _ _ _ [.int 1])
  refine kISn X9 #[.val (.ref q0), .val (.ref q1), .val (.int 1)] d15_13 rfl ?_
  refine kALn X9 d15_14 rfl rfl ?_
  refine kALn X9 d15_15 rfl rfl ?_
  refine kGETF X9 (wd G 88 rfl) Via.refl F_q0_count d15_16 (fun T13 X14 => ?_)
  refine kILn X14 d15_19 rfl ?_
  refine kIADD X14 1 d15_20 (by decide) ?_
  refine kVIRT X14 (gEL G) (argsL := [.int 1]) (rest := []) (wd G 90 rfl) (own_decl (wd G 91 rfl) (wd G 94 rfl)) (own_nf X14.hZ (own_noface (wd G 93 rfl) rfl)) (wd G 93 rfl) (wd G 91 rfl) (wd G 69 rfl) (wd G 94 rfl) (by decide) E_q0 (rm58 G q0 q2 kp0 h0 X14.n O0 F_q0_value A_q2 F_q0_coder) all0 (lenOf pd__I_V rfl) rfl 0 rfl (by decide) hml.symm d15_21 (fun v15 T16 h17 vm18 _ w19 q20 C21 C22 X23 => ?_)
  obtain ⟨e25, f26⟩ := q20
  subst e25
  subst f26
  show Go _ _ _ _ _ (mkF _ _ _ [])
  refine kALn X23 d15_24 rfl rfl ?_
  refine kALn X23 d15_25 rfl rfl ?_
  refine kGETF X23 (wd G 88 rfl) Via.refl F_q0_count d15_26 (fun T27 X28 => ?_)
  refine kALn X28 d15_29 rfl rfl ?_
  have f38 := (CHr.safe C22 (A_q2.lt) (CHr.safe C8 (A_q2.lt) S_q2))
  refine kVIRT X28 (gEL G) (argsL := [.int 0, .ref q1]) (rest := []) (wd G 95 rfl) (own_decl (wd G 96 rfl) (wd G 99 rfl)) (own_nf X28.hZ (own_noface (wd G 93 rfl) rfl)) (wd G 98 rfl) (wd G 96 rfl) (wd G 69 rfl) (wd G 99 rfl) (by decide) E_q0 (rm59 G i0 q0 q1 q2 q3 kp0 kp1 h0 X28.n O0 F_q0_coder F_q1_coder E_q1 E_q0 F_q0_value F_q1_value A_q3 A_q2 g_q2) (allS ⟨(A_q2.lt), f38⟩ all0) (lenOf pd__ILjava_lang_String__V rfl) rfl 0 rfl (by decide) hml.symm d15_30 (fun v29 T30 h31 vm32 _ w33 q34 C35 C36 X37 => ?_)
  obtain ⟨e40, f41, f42⟩ := q34
  subst e40
  show Go _ _ _ _ _ (mkF _ _ _ [])
  refine kALn X37 d15_33 rfl rfl ?_
  refine kDUP X37 d15_34 rfl ?_
  have f43 := (Fld.keep F_q0_count f41 (ninS d_q0_q2 nin0))
  refine kGETF X37 (wd G 88 rfl) Via.refl f43 d15_35 (fun T44 X45 => ?_)
  refine kILn X45 d15_38 rfl ?_
  refine kIADD X45 1 d15_39 (by decide) ?_
  have f46 := (Exa.keep E_q0 f41)
  refine kPUTF X45 (wd G 88 rfl) Via.refl f43 f46 (Or.inl (wd G 89 rfl)) (wd G 60 rfl) (ty := .int) (by decide) rfl rfl g_q0 (Safe.exa X45.hZ.alike f46 (by decide) (by decide)) d15_40 (fun T47 h48 L51 W50 X49 => ?_)
  have f52 := Fld.same W50 f43
  refine kALn X49 d15_43 rfl rfl ?_
  have K53 : Keep h0 h48 [q2, q0] := (Keep.wr (Keep.trans (Keep.refl h0 [q2, q0]) f41 (allS (Or.inl (List.mem_of_getElem? (i := 0) rfl)) all0)) W50 (Or.inl (List.mem_of_getElem? (i := 1) rfl)))
  have f54 := (Arv.other f42 W50 (Ne.symm d_q0_q2))
  have f55 := (Fld.other W50 (Fld.keep F_q0_coder f41 (ninS d_q0_q2 nin0)) (Or.inr (slot_ne (Or.inl (wd G 76 rfl)) (Or.inl (wd G 89 rfl)) (by decide) (by decide : parseFieldDescriptor "B" = some .byte) (by decide : parseFieldDescriptor "I" = some .int))))
  have f56 := (Fld.other W50 (Fld.keep F_q0_value f41 (ninS d_q0_q2 nin0)) (Or.inr (slot_ne (Or.inl (wd G 74 rfl)) (Or.inl (wd G 89 rfl)) (by decide) (by decide : parseFieldDescriptor "[B" = some (.array (.byte))) (by decide : parseFieldDescriptor "I" = some .int))))
  exact kRETA X49 (gEL G) hret rfl rfl d15_44 (fun ve hve => ⟨rfl, K53, f54, f55, f52, f56⟩) (by decide)
theorem pd__Ljava_lang_String__Ljava_lang_AbstractStringBuilder_ : parseMethodDescriptor "(Ljava/lang/String;)Ljava/lang/AbstractStringBuilder;" = some ⟨[.object "java/lang/String"], some (.object "java/lang/AbstractStringBuilder")⟩ := by decide +kernel
theorem d14_5 : decode jdk_67_method_7_code 5 = .ok (.pop, 1) := by decide +kernel
theorem d14_6 : decode jdk_67_method_7_code 6 = .ok (.aload_n 0, 1) := by decide +kernel
theorem d14_7 : decode jdk_67_method_7_code 7 = .ok (.areturn, 1) := by decide +kernel
def N_jdk_67_m_7 : MethodName := ⟨"java/lang/StringBuilder", "append", "(Ljava/lang/String;)Ljava/lang/StringBuilder;"⟩
def R_rm56 : Room := { frames := 4, cells := 0, slots := 0, locals := 61 }
theorem rm56 (G : Glob Z a0 iCS vSI) (i0 : Int32) (q0 q1 q2 q3 : Addr) (kp0 kp1 : ClassId) (h0 : Heap) (Z0 : n0 ≤ h0.size) (O0 : Old Z n0 h0) (F_q1_value : Fld Z h0 q1 "java/lang/String" "value" "[B" (.ref q3)) (A_q3 : Arv Z h0 q3 kp1 .byte 1 [.int i0] (.int 0)) (F_q1_coder : Fld Z h0 q1 "java/lang/String" "coder" "B" (.int 0)) (E_q1 : Exa Z h0 q1 "java/lang/String") (F_q0_count : Fld Z h0 q0 "java/lang/AbstractStringBuilder" "count" "I" (.int 0)) (F_q0_value : Fld Z h0 q0 "java/lang/AbstractStringBuilder" "value" "[B" (.ref q2)) (A_q2 : Arv Z h0 q2 kp0 .byte 16 [.int 0, .int 0, .int 0, .int 0, .int 0, .int 0, .int 0, .int 0, .int 0, .int 0, .int 0, .int 0, .int 0, .int 0, .int 0, .int 0] (.int 0)) (F_q0_coder : Fld Z h0 q0 "java/lang/AbstractStringBuilder" "coder" "B" (.int 0)) (E_q0 : Exa Z h0 q0 "java/lang/StringBuilder") (d_q0_q2 : q0 ≠ q2) (g_q0 : n0 ≤ q0) (g_q2 : n0 ≤ q2) : MetH l Z EL0 n0 N_jdk_67_m_7 jdk_67_method_7_code 2 (some (.object "java/lang/StringBuilder")) [] R_rm56 #[.ref q0, .ref q1] h0 [q2] (fun vs v h ve => (v = some (.ref q0) ∧ (Keep h0 h [q2, q0]) ∧ (Arv Z h q2 kp0 .byte 16 [.int i0, .int 0, .int 0, .int 0, .int 0, .int 0, .int 0, .int 0, .int 0, .int 0, .int 0, .int 0, .int 0, .int 0, .int 0, .int 0] (.int 0)) ∧ (Fld Z h q0 "java/lang/AbstractStringBuilder" "coder" "B" (.int 0)) ∧ (Fld Z h q0 "java/lang/AbstractStringBuilder" "count" "I" (.int 1)) ∧ (Fld Z h q0 "java/lang/AbstractStringBuilder" "value" "[B" (.ref q2)))) := by
  refine MetH.of #[.val (.ref q0), .val (.ref q1)] (plainFor_of_name pn_java_lang_StringBuilder) rfl Z0 (fun p e s m below meth c T0 hret hml hnm hSL hs0 X0 => ?_)
  have S_q2 := hSL q2 (List.mem_of_getElem? (i := 0) rfl)
  refine kALn X0 d14_0 rfl rfl ?_
  refine kALn X0 d14_1 rfl rfl ?_
  refine kSUP X0 (gEL G) (argsL := [.ref q1]) (rest := []) (wd G 82 rfl) (own_same (wd G 83 rfl) (own_noface (wd G 93 rfl) rfl) (by decide)) (wd G 83 rfl) (wd G 84 rfl) (by decide) (wd G 69 rfl) (wd G 86 rfl) (Ins.of_exa E_q0 (wd G 68 rfl)) (rm57 G i0 q0 q1 q2 q3 kp0 kp1 h0 X0.n O0 F_q1_value A_q3 F_q1_coder E_q1 F_q0_count F_q0_value A_q2 F_q0_coder E_q0 d_q0_q2 g_q0 g_q2) (allS ⟨(A_q2.lt), S_q2⟩ all0) (lenOf pd__Ljava_lang_String__Ljava_lang_AbstractStringBuilder_ rfl) rfl 0 rfl (by decide) hml.symm d14_2 (fun v1 T2 h3 vm4 _ w5 q6 C7 C8 X9 => ?_)
  obtain ⟨e11, f12, f13, f14, f15, f16⟩ := q6
  subst e11
  show Go _ _ _ _ _ (mkF _ _ _ [.ref q0])
  refine kPOP X9 d14_5 rfl ?_
  refine kALn X9 d14_6 rfl rfl ?_
  have K17 : Keep h0 h3 [q2, q0] := (Keep.trans (Keep.refl h0 [q2, q0]) f12 (allS (Or.inl (List.mem_of_getElem? (i := 0) rfl)) (allS (Or.inl (List.mem_of_getElem? (i := 1) rfl)) all0)))
  exact kRETA X9 (gEL G) hret rfl rfl d14_7 (fun ve hve => ⟨rfl, K17, f13, f14, f15, f16⟩) (by decide)
theorem pd__Ljava_lang_String__Ljava_lang_StringBuilder_ : parseMethodDescriptor "(Ljava/lang/String;)Ljava/lang/StringBuilder;" = some ⟨[.object "java/lang/String"], some (.object "java/lang/StringBuilder")⟩ := by decide +kernel
theorem d4_35 : decode prog_30_method_3_code 35 = .ok (.ldc 161, 2) := by decide +kernel
theorem d4_37 : decode prog_30_method_3_code 37 = .ok (.invokevirtual 68, 3) := by decide +kernel
def R_rm65 : Room := { frames := 0, cells := 0, slots := 0, locals := 0 }
theorem rm65 (G : Glob Z a0 iCS vSI) (q0 q1 : Addr) (kp0 : ClassId) (h0 : Heap) (Z0 : n0 ≤ h0.size) (O0 : Old Z n0 h0) (F_q0_coder : Fld Z h0 q0 "java/lang/String" "coder" "B" (.int 0)) : MetH l Z EL0 n0 N_jdk_42_m_152 jdk_42_method_152_code 1 (some .byte) [] R_rm65 #[.ref q0] h0 [] (fun vs v h ve => (v = some (.int 0) ∧ (h0 = h))) := by
  refine MetH.of #[.val (.ref q0)] (plainFor_of_name pn_java_lang_String) rfl Z0 (fun p e s m below meth c T0 hret hml hnm hSL hs0 X0 => ?_)
  refine kGETS X0 (wd G 45 rfl) Via.refl (Sta.ext O0.2 (S_CS G)) d7_0 (fun T1 X2 => ?_)
  refine kIFf X2 d7_3 (XT.i0_eq_f (n_CS G)) ?_
  refine kALn X2 d7_6 rfl rfl ?_
  refine kGETF X2 (wd G 25 rfl) Via.refl F_q0_coder d7_7 (fun T3 X4 => ?_)
  refine kGOTO X4 14 d7_10 (by decide) ?_
  exact kRETZ X4 (gEL G) (t := .byte) hret (by simp) d7_14 (fun ve hve => ⟨rfl, rfl⟩) (by decide)
def R_rm64 : Room := { frames := 1, cells := 0, slots := 0, locals := 13 }
theorem rm64 (G : Glob Z a0 iCS vSI) (q0 q1 : Addr) (kp0 : ClassId) (h0 : Heap) (Z0 : n0 ≤ h0.size) (O0 : Old Z n0 h0) (F_q0_value : Fld Z h0 q0 "java/lang/String" "value" "[B" (.ref q1)) (A_q1 : Arv Z h0 q1 kp0 .byte 1 [.int 32] (.int 0)) (F_q0_coder : Fld Z h0 q0 "java/lang/String" "coder" "B" (.int 0)) (E_q0 : Exa Z h0 q0 "java/lang/String") : MetH l Z EL0 n0 N_jdk_42_m_54 jdk_42_method_54_code 1 (some .int) [] R_rm64 #[.ref q0] h0 [] (fun vs v h ve => (v = some (.int 1) ∧ (h0 = h))) := by
  refine MetH.of #[.val (.ref q0)] (plainFor_of_name pn_java_lang_String) rfl Z0 (fun p e s m below meth c T0 hret hml hnm hSL hs0 X0 => ?_)
  refine kALn X0 d6_0 rfl rfl ?_
  refine kGETF X0 (wd G 24 rfl) Via.refl F_q0_value d6_1 (fun T1 X2 => ?_)
  refine kLEN X2 A_q1 d6_4 ?_
  refine kALn X2 d6_5 rfl rfl ?_
  refine kVIRT X2 (gEL G) (argsL := []) (rest := [.int 1]) (wd G 40 rfl) (wd G 41 rfl) (own_nf X2.hZ (own_noinst (wd G 6 rfl))) (wd G 43 rfl) (wd G 42 rfl) (wd G 7 rfl) (wd G 44 rfl) (by decide) E_q0 (rm65 G q0 q1 kp0 h0 X2.n O0 F_q0_coder) all0 (lenOf pd___B rfl) rfl 1 rfl (by decide) hml.symm d6_6 (fun v3 T4 h5 vm6 _ w7 q8 C9 C10 X11 => ?_)
  obtain ⟨e13, f14⟩ := q8
  subst e13
  subst f14
  show Go _ _ _ _ _ (mkF _ _ _ [.int 0, .int 1])
  refine kISHR X11 1 d6_9 (by decide) ?_
  exact kRETI X11 (gEL G) hret d6_10 (fun ve hve => ⟨rfl, rfl⟩) (by decide)
def R_rm66 : Room := { frames := 0, cells := 0, slots := 0, locals := 0 }
theorem rm66 (G : Glob Z a0 iCS vSI) (i0 : Int32) (q0 q1 : Addr) (kp0 : ClassId) (h0 : Heap) (Z0 : n0 ≤ h0.size) (O0 : Old Z n0 h0) (F_q0_value : Fld Z h0 q0 "java/lang/AbstractStringBuilder" "value" "[B" (.ref q1)) (A_q1 : Arv Z h0 q1 kp0 .byte 16 [.int i0, .int 0, .int 0, .int 0, .int 0, .int 0, .int 0, .int 0, .int 0, .int 0, .int 0, .int 0, .int 0, .int 0, .int 0, .int 0] (.int 0)) (F_q0_coder : Fld Z h0 q0 "java/lang/AbstractStringBuilder" "coder" "B" (.int 0)) : MetH l Z EL0 n0 N_jdk_68_m_9 jdk_68_method_9_code 3 none [] R_rm66 #[.ref q0, .int 2] h0 [] (fun vs v h ve => (v = none ∧ (h0 = h))) := by
  refine MetH.of #[.val (.ref q0), .val (.int 2), .unset] (plainFor_of_name pn_java_lang_AbstractStringBuilder) rfl Z0 (fun p e s m below meth c T0 hret hml hnm hSL hs0 X0 => ?_)
  refine kALn X0 d16_0 rfl rfl ?_
  refine kGETF X0 (wd G 73 rfl) Via.refl F_q0_value d16_1 (fun T1 X2 => ?_)
  refine kLEN X2 A_q1 d16_4 ?_
  refine kALn X2 d16_5 rfl rfl ?_
  refine kGETF X2 (wd G 75 rfl) Via.refl F_q0_coder d16_6 (fun T3 X4 => ?_)
  refine kISHR X4 16 d16_9 (by decide) ?_
  refine kISn X4 #[.val (.ref q0), .val (.int 2), .val (.int 16)] d16_10 rfl ?_
  refine kILn X4 d16_11 rfl ?_
  refine kILn X4 d16_12 rfl ?_
  refine kISUB X4 (-14) d16_13 (by decide) ?_
  refine kIFt X4 38 d16_14 (XT.i0_le_t (by decide)) (by decide) ?_
  exact kRETV X4 (gEL G) hret d16_38 (fun ve hve => ⟨rfl, rfl⟩) (by decide)
def R_rm68 : Room := { frames := 1, cells := 0, slots := 0, locals := 13 }
theorem rm68 (G : Glob Z a0 iCS vSI) (i0 : Int32) (q0 q1 q2 q3 : Addr) (kp0 kp1 : ClassId) (h0 : Heap) (Z0 : n0 ≤ h0.size) (O0 : Old Z n0 h0) (F_q0_coder : Fld Z h0 q0 "java/lang/AbstractStringBuilder" "coder" "B" (.int 0)) (F_q1_coder : Fld Z h0 q1 "java/lang/String" "coder" "B" (.int 0)) (E_q1 : Exa Z h0 q1 "java/lang/String") : MetH l Z EL0 n0 N_jdk_68_m_71 jdk_68_method_71_code 2 none [] R_rm68 #[.ref q0, .ref q1] h0 [] (fun vs v h ve => (v = none ∧ (h0 = h))) := by
  refine MetH.of #[.val (.ref q0), .val (.ref q1)] (plainFor_of_name pn_java_lang_AbstractStringBuilder) rfl Z0 (fun p e s m below meth c T0 hret hml hnm hSL hs0 X0 => ?_)
  refine kGETS X0 (wd G 72 rfl) Via.refl (Sta.ext O0.2 (S_CS G)) d18_0 (fun T1 X2 => ?_)
  refine kIFf X2 d18_3 (XT.i0_eq_f (n_CS G)) ?_
  refine kALn X2 d18_6 rfl rfl ?_
  refine kGETF X2 (wd G 75 rfl) Via.refl F_q0_coder d18_7 (fun T3 X4 => ?_)
  refine kALn X4 d18_10 rfl rfl ?_
  refine kVIRT X4 (gEL G) (argsL := []) (rest := [.int 0]) (wd G 105 rfl) (wd G 41 rfl) (own_nf X4.hZ (own_noinst (wd G 6 rfl))) (wd G 43 rfl) (wd G 42 rfl) (wd G 7 rfl) (wd G 44 rfl) (by decide) E_q1 (rm65 G q1 q3 kp1 h0 X4.n O0 F_q1_coder) all0 (lenOf pd___B rfl) rfl 1 rfl (by decide) hml.symm d18_11 (fun v5 T6 h7 vm8 _ w9 q10 C11 C12 X13 => ?_)
  obtain ⟨e15, f16⟩ := q10
  subst e15
  subst f16
  show Go _ _ _ _ _ (mkF _ _ _ [.int 0, .int 0])
  refine kICt X13 21 d18_14 (XT.ii_eq_t (by decide)) (by decide) ?_
  exact kRETV X13 (gEL G) hret d18_21 (fun ve hve => ⟨rfl, rfl⟩) (by decide)
def R_rm69 : Room := { frames := 1, cells := 0, slots := 0, locals := 18 }
theorem rm69 (G : Glob Z a0 iCS vSI) (i0 : Int32) (q0 q1 q2 : Addr) (kp0 kp1 : ClassId) (h0 : Heap) (Z0 : n0 ≤ h0.size) (O0 : Old Z n0 h0) (F_q0_coder : Fld Z h0 q0 "java/lang/String" "coder" "B" (.int 0)) (E_q0 : Exa Z h0 q0 "java/lang/String") (F_q0_value : Fld Z h0 q0 "java/lang/String" "value" "[B" (.ref q2)) (A_q2 : Arv Z h0 q2 kp1 .byte 1 [.int 32] (.int 0)) (A_q1 : Arv Z h0 q1 kp0 .byte 16 [.int i0, .int 0, .int 0, .int 0, .int 0, .int 0, .int 0, .int 0, .int 0, .int 0, .int 0, .int 0, .int 0, .int 0, .int 0, .int 0] (.int 0)) (g_q1 : n0 ≤ q1) : MetH l Z EL0 n0 N_jdk_42_m_147 jdk_42_method_147_code 4 none [] R_rm69 #[.ref q0, .ref q1, .int 1, .int 0] h0 [q1] (fun vs v h ve => (v = none ∧ (Keep h0 h [q1]) ∧ (Arv Z h q1 kp0 .byte 16 [.int i0, .int 32, .int 0, .int 0, .int 0, .int 0, .int 0, .int 0, .int 0, .int 0, .int 0, .int 0, .int 0, .int 0, .int 0, .int 0] (.int 0)))) := by
  refine MetH.of #[.val (.ref q0), .val (.ref q1), .val (.int 1), .val (.int 0)] (plainFor_of_name pn_java_lang_String) rfl Z0 (fun p e s m below meth c T0 hret hml hnm hSL hs0 X0 => ?_)
  have S_q1 := hSL q1 (List.mem_of_getElem? (i := 0) rfl)
  refine kALn X0 d19_0 rfl rfl ?_
  refine kVIRT X0 (gEL G) (argsL := []) (rest := []) (wd G 40 rfl) (wd G 41 rfl) (own_nf X0.hZ (own_noinst (wd G 6 rfl))) (wd G 43 rfl) (wd G 42 rfl) (wd G 7 rfl) (wd G 44 rfl) (by decide) E_q0 (rm65 G q0 q2 kp1 h0 X0.n O0 F_q0_coder) all0 (lenOf pd___B rfl) rfl 0 rfl (by decide) hml.symm d19_1 (fun v1 T2 h3 vm4 _ w5 q6 C7 C8 X9 => ?_)
  obtain ⟨e11, f12⟩ := q6
  subst e11
  subst f12
  show Go _ _ _ _ _ (mkF _ _ _ [.int 0])
  refine kILn X9 d19_4 rfl ?_
  refine kICf X9 d19_5 (XT.ii_ne_f (by decide)) ?_
  refine kALn X9 d19_8 rfl rfl ?_
  refine kGETF X9 (wd G 24 rfl) Via.refl F_q0_value d19_9 (fun T13 X14 => ?_)
  refine kIC X14 0 d19_12 (by decide) ?_
  refine kALn X14 d19_13 rfl rfl ?_
  refine kILn X14 d19_14 rfl ?_
  refine kILn X14 d19_15 rfl ?_
  refine kISHL X14 1 d19_16 (by decide) ?_
  refine kALn X14 d19_17 rfl rfl ?_
  refine kGETF X14 (wd G 24 rfl) Via.refl F_q0_value d19_18 (fun T15 X16 => ?_)
  refine kLEN X16 A_q2 d19_21 ?_
  have f17 := (CHr.safe C8 (A_q1.lt) S_q1)
  refine kCPA X16 (wd G 111 rfl) (wd G 114 rfl) (wd G 112 rfl) (wd G 113 rfl) A_q2 A_q1 (Or.inl ⟨rfl, rfl⟩) (us := [.int 32]) (by decide) rfl (by show 2 ≤ 16; decide) g_q1 f17 hml.symm d19_22 (by decide) 0 (Nat.le_of_eq rfl) (by decide) (fun T18 h19 L21 K22 C23 f24 X20 => ?_)
  have f25 : Arv Z h19 q1 kp0 .byte 16 [.int i0, .int 32, .int 0, .int 0, .int 0, .int 0, .int 0, .int 0, .int 0, .int 0, .int 0, .int 0, .int 0, .int 0, .int 0, .int 0] (.int 0) := f24
  refine kGOTO X20 43 d19_25 (by decide) ?_
  have K26 : Keep h0 h19 [q1] := (Keep.trans (Keep.refl h0 [q1]) K22 (allS (Or.inl (List.mem_of_getElem? (i := 0) rfl)) all0))
  exact kRETV X20 (gEL G) hret d19_43 (fun ve hve => ⟨rfl, K26, f25⟩) (by decide)
def R_rm67 : Room := { frames := 2, cells := 0, slots := 0, locals := 33 }
theorem rm67 (G : Glob Z a0 iCS vSI) (i0 : Int32) (q0 q1 q2 q3 : Addr) (kp0 kp1 : ClassId) (h0 : Heap) (Z0 : n0 ≤ h0.size) (O0 : Old Z n0 h0) (F_q0_coder : Fld Z h0 q0 "java/lang/AbstractStringBuilder" "coder" "B" (.int 0)) (F_q1_coder : Fld Z h0 q1 "java/lang/String" "coder" "B" (.int 0)) (E_q1 : Exa Z h0 q1 "java/lang/String") (E_q0 : Exa Z h0 q0 "java/lang/StringBuilder") (F_q0_value : Fld Z h0 q0 "java/lang/AbstractStringBuilder" "value" "[B" (.ref q2)) (F_q1_value : Fld Z h0 q1 "java/lang/String" "value" "[B" (.ref q3)) (A_q3 : Arv Z h0 q3 kp1 .byte 1 [.int 32] (.int 0)) (A_q2 : Arv Z h0 q2 kp0 .byte 16 [.int i0, .int 0, .int 0, .int 0, .int 0, .int 0, .int 0, .int 0, .int 0, .int 0, .int 0, .int 0, .int 0, .int 0, .int 0, .int 0] (.int 0)) (g_q2 : n0 ≤ q2) : MetH l Z EL0 n0 N_jdk_68_m_73 jdk_68_method_73_code 3 none [] R_rm67 #[.ref q0, .int 1, .ref q1] h0 [q2] (fun vs v h ve => (v = none ∧ (Keep h0 h [q2]) ∧ (Arv Z h q2 kp0 .byte 16 [.int i0, .int 32, .int 0, .int 0, .int 0, .int 0, .int 0, .int 0, .int 0, .int 0, .int 0, .int 0, .int 0, .int 0, .int 0, .int 0] (.int 0)))) := by
  refine MetH.of #[.val (.ref q0), .val (.int 1), .val (.ref q1)] (plainFor_of_name pn_java_lang_AbstractStringBuilder) rfl Z0 (fun p e s m below meth c T0 hret hml hnm hSL hs0 X0 => ?_)
  have S_q2 := hSL q2 (List.mem_of_getElem? (i := 0) rfl)
  refine kALn X0 d17_0 rfl rfl ?_
  refine kALn X0 d17_1 rfl rfl ?_
  refine kVIRT X0 (gEL G) (argsL := [.ref q1]) (rest := []) (wd G 100 rfl) (own_decl (wd G 101 rfl) (wd G 104 rfl)) (own_nf X0.hZ (own_noface (wd G 93 rfl) rfl)) (wd G 103 rfl) (wd G 101 rfl) (wd G 69 rfl) (wd G 104 rfl) (by decide) E_q0 (rm68 G i0 q0 q1 q2 q3 kp0 kp1 h0 X0.n O0 F_q0_coder F_q1_coder E_q1) all0 (lenOf pd__Ljava_lang_String__V rfl) rfl 0 rfl (by decide) hml.symm d17_2 (fun v1 T2 h3 vm4 _ w5 q6 C7 C8 X9 => ?_)
  obtain ⟨e11, f12⟩ := q6
  subst e11
  subst f12
  show Go _ _ _ _ _ (mkF _ _ _ [])
  refine kALn X9 d17_5 rfl rfl ?_
  refine kALn X9 d17_6 rfl rfl ?_
  refine kGETF X9 (wd G 73 rfl) Via.refl F_q0_value d17_7 (fun T13 X14 => ?_)
  refine kILn X14 d17_10 rfl ?_
  refine kALn X14 d17_11 rfl rfl ?_
  refine kGETF X14 (wd G 75 rfl) Via.refl F_q0_coder d17_12 (fun T15 X16 => ?_)
  have f26 := (CHr.safe C8 (A_q2.lt) S_q2)
  refine kVIRT X16 (gEL G) (argsL := [.ref q2, .int 1, .int 0]) (rest := []) (wd G 106 rfl) (wd G 107 rfl) (own_nf X16.hZ (own_noinst (wd G 6 rfl))) (wd G 109 rfl) (wd G 108 rfl) (wd G 7 rfl) (wd G 110 rfl) (by decide) E_q1 (rm69 G i0 q1 q2 q3 kp0 kp1 h0 X16.n O0 F_q1_coder E_q1 F_q1_value A_q3 A_q2 g_q2) (allS ⟨(A_q2.lt), f26⟩ all0) (lenOf pd___BIB_V rfl) rfl 0 rfl (by decide) hml.symm d17_15 (fun v17 T18 h19 vm20 _ w21 q22 C23 C24 X25 => ?_)
  obtain ⟨e28, f29, f30⟩ := q22
  subst e28
  show Go _ _ _ _ _ (mkF _ _ _ [])
  have K31 : Keep h0 h19 [q2] := (Keep.trans (Keep.refl h0 [q2]) f29 (allS (Or.inl (List.mem_of_getElem? (i := 0) rfl)) all0))
  exact kRETV X25 (gEL G) hret d17_18 (fun ve hve => ⟨rfl, K31, f30⟩) (by decide)
def R_rm63 : Room := { frames := 3, cells := 0, slots := 0, locals := 47 }
theorem rm63 (G : Glob Z a0 iCS vSI) (i0 : Int32) (q0 q1 q2 q3 : Addr) (kp0 kp1 : ClassId) (h0 : Heap) (Z0 : n0 ≤ h0.size) (O0 : Old Z n0 h0) (F_q1_value : Fld Z h0 q1 "java/lang/String" "value" "[B" (.ref q3)) (A_q3 : Arv Z h0 q3 kp1 .byte 1 [.int 32] (.int 0)) (F_q1_coder : Fld Z h0 q1 "java/lang/String" "coder" "B" (.int 0)) (E_q1 : Exa Z h0 q1 "java/lang/String") (F_q0_count : Fld Z h0 q0 "java/lang/AbstractStringBuilder" "count" "I" (.int 1)) (F_q0_value : Fld Z h0 q0 "java/lang/AbstractStringBuilder" "value" "[B" (.ref q2)) (A_q2 : Arv Z h0 q2 kp0 .byte 16 [.int i0, .int 0, .int 0, .int 0, .int 0, .int 0, .int 0, .int 0, .int 0, .int 0, .int 0, .int 0, .int 0, .int 0, .int 0, .int 0] (.int 0)) (F_q0_coder : Fld Z h0 q0 "java/lang/AbstractStringBuilder" "coder" "B" (.int 0)) (E_q0 : Exa Z h0 q0 "java/lang/StringBuilder") (d_q0_q2 : q0 ≠ q2) (g_q0 : n0 ≤ q0) (g_q2 : n0 ≤ q2) : MetH l Z EL0 n0 N_jdk_68_m_22 jdk_68_method_22_code 3 (some (.object "java/lang/AbstractStringBuilder")) [] R_rm63 #[.ref q0, .ref q1] h0 [q2] (fun vs v h ve => (v = some (.ref q0) ∧ (Keep h0 h [q2, q0]) ∧ (Arv Z h q2 kp0 .byte 16 [.int i0, .int 32, .int 0, .int 0, .int 0, .int 0, .int 0, .int 0, .int 0, .int 0, .int 0, .int 0, .int 0, .int 0, .int 0, .int 0] (.int 0)) ∧ (Fld Z h q0 "java/lang/AbstractStringBuilder" "coder" "B" (.int 0)) ∧ (Fld Z h q0 "java/lang/AbstractStringBuilder" "count" "I" (.int 2)) ∧ (Fld Z h q0 "java/lang/AbstractStringBuilder" "value" "[B" (.ref q2)))) := by
  refine MetH.of #[.val (.ref q0), .val (.ref q1), .unset] (plainFor_of_name pn_java_lang_AbstractStringBuilder) rfl Z0 (fun p e s m below meth c T0 hret hml hnm hSL hs0 X0 => ?_)
  have S_q2 := hSL q2 (List.mem_of_getElem? (i := 0) rfl)
  refine kALn X0 d15_0 rfl rfl ?_
  refine kNNt X0 9 d15_1 (by decide) ?_
  refine kALn X0 d15_9 rfl rfl ?_
  refine kVIRT X0 (gEL G) (argsL := []) (rest := []) (wd G 87 rfl) (wd G 36 rfl) (own_nf X0.hZ (own_noinst (wd G 6 rfl))) (wd G 38 rfl) (wd G 37 rfl) (wd G 7 rfl) (wd G 39 rfl) (by decide) E_q1 (rm64 G q1 q3 kp1 h0 X0.n O0 F_q1_value A_q3 F_q1_coder E_q1) all0 (lenOf pd___I rfl) rfl 0 rfl (by decide) hml.symm d15_10 (fun v1 T2 h3 vm4 _ w5 q6 C7 C8 X9 => ?_)
  obtain ⟨e11, f12⟩ := q6
  subst e11
  subst f12
  show Go _ _ _ _ _ (mkF _ _ _ [.int 1])
  refine kISn X9 #[.val (.ref q0), .val (.ref q1), .val (.int 1)] d15_13 rfl ?_
  refine kALn X9 d15_14 rfl rfl ?_
  refine kALn X9 d15_15 rfl rfl ?_
  refine kGETF X9 (wd G 88 rfl) Via.refl F_q0_count d15_16 (fun T13 X14 => ?_)
  refine kILn X14 d15_19 rfl ?_
  refine kIADD X14 2 d15_20 (by decide) ?_
  refine kVIRT X14 (gEL G) (argsL := [.int 2]) (rest := []) (wd G 90 rfl) (own_decl (wd G 91 rfl) (wd G 94 rfl)) (own_nf X14.hZ (own_noface (wd G 93 rfl) rfl)) (wd G 93 rfl) (wd G 91 rfl) (wd G 69 rfl) (wd G 94 rfl) (by decide) E_q0 (rm66 G i0 q0 q2 kp0 h0 X14.n O0 F_q0_value A_q2 F_q0_coder) all0 (lenOf pd__I_V rfl) rfl 0 rfl (by decide) hml.symm d15_21 (fun v15 T16 h17 vm18 _ w19 q20 C21 C22 X23 => ?_)
  obtain ⟨e25, f26⟩ := q20
  subst e25
  subst f26
  show Go _ _ _ _ _ (mkF _ _ _ [])
  refine kALn X23 d15_24 rfl rfl ?_
  refine kALn X23 d15_25 rfl rfl ?_
  refine kGETF X23 (wd G 88 rfl) Via.refl F_q0_count d15_26 (fun T27 X28 => ?_)
  refine kALn X28 d15_29 rfl rfl ?_
  have f38 := (CHr.safe C22 (A_q2.lt) (CHr.safe C8 (A_q2.lt) S_q2))
  refine kVIRT X28 (gEL G) (argsL := [.int 1, .ref q1]) (rest := []) (wd G 95 rfl) (own_decl (wd G 96 rfl) (wd G 99 rfl)) (own_nf X28.hZ (own_noface (wd G 93 rfl) rfl)) (wd G 98 rfl) (wd G 96 rfl) (wd G 69 rfl) (wd G 99 rfl) (by decide) E_q0 (rm67 G i0 q0 q1 q2 q3 kp0 kp1 h0 X28.n O0 F_q0_coder F_q1_coder E_q1 E_q0 F_q0_value F_q1_value A_q3 A_q2 g_q2) (allS ⟨(A_q2.lt), f38⟩ all0) (lenOf pd__ILjava_lang_String__V rfl) rfl 0 rfl (by decide) hml.symm d15_30 (fun v29 T30 h31 vm32 _ w33 q34 C35 C36 X37 => ?_)
  obtain ⟨e40, f41, f42⟩ := q34
  subst e40
  show Go _ _ _ _ _ (mkF _ _ _ [])
  refine kALn X37 d15_33 rfl rfl ?_
  refine kDUP X37 d15_34 rfl ?_
  have f43 := (Fld.keep F_q0_count f41 (ninS d_q0_q2 nin0))
  refine kGETF X37 (wd G 88 rfl) Via.refl f43 d15_35 (fun T44 X45 => ?_)
  refine kILn X45 d15_38 rfl ?_
  refine kIADD X45 2 d15_39 (by decide) ?_
  have f46 := (Exa.keep E_q0 f41)
  refine kPUTF X45 (wd G 88 rfl) Via.refl f43 f46 (Or.inl (wd G 89 rfl)) (wd G 60 rfl) (ty := .int) (by decide) rfl rfl g_q0 (Safe.exa X45.hZ.alike f46 (by decide) (by decide)) d15_40 (fun T47 h48 L51 W50 X49 => ?_)
  have f52 := Fld.same W50 f43
  refine kALn X49 d15_43 rfl rfl ?_
  have K53 : Keep h0 h48 [q2, q0] := (Keep.wr (Keep.trans (Keep.refl h0 [q2, q0]) f41 (allS (Or.inl (List.mem_of_getElem? (i := 0) rfl)) all0)) W50 (Or.inl (List.mem_of_getElem? (i := 1) rfl)))
  have f54 := (Arv.other f42 W50 (Ne.symm d_q0_q2))
  have f55 := (Fld.other W50 (Fld.keep F_q0_coder f41 (ninS d_q0_q2 nin0)) (Or.inr (slot_ne (Or.inl (wd G 76 rfl)) (Or.inl (wd G 89 rfl)) (by decide) (by decide : parseFieldDescriptor "B" = some .byte) (by decide : parseFieldDescriptor "I" = some .int))))
  have f56 := (Fld.other W50 (Fld.keep F_q0_value f41 (ninS d_q0_q2 nin0)) (Or.inr (slot_ne (Or.inl (wd G 74 rfl)) (Or.inl (wd G 89 rfl)) (by decide) (by decide : parseFieldDescriptor "[B" = some (.array (.byte))) (by decide : parseFieldDescriptor "I" = some .int))))
  exact kRETA X49 (gEL G) hret rfl rfl d15_44 (fun ve hve => ⟨rfl, K53, f54, f55, f52, f56⟩) (by decide)
def R_rm62 : Room := { frames := 4, cells := 0, slots := 0, locals := 61 }
theorem rm62 (G : Glob Z a0 iCS vSI) (i0 : Int32) (q0 q1 q2 q3 : Addr) (kp0 kp1 : ClassId) (h0 : Heap) (Z0 : n0 ≤ h0.size) (O0 : Old Z n0 h0) (F_q1_value : Fld Z h0 q1 "java/lang/String" "value" "[B" (.ref q3)) (A_q3 : Arv Z h0 q3 kp1 .byte 1 [.int 32] (.int 0)) (F_q1_coder : Fld Z h0 q1 "java/lang/String" "coder" "B" (.int 0)) (E_q1 : Exa Z h0 q1 "java/lang/String") (F_q0_count : Fld Z h0 q0 "java/lang/AbstractStringBuilder" "count" "I" (.int 1)) (F_q0_value : Fld Z h0 q0 "java/lang/AbstractStringBuilder" "value" "[B" (.ref q2)) (A_q2 : Arv Z h0 q2 kp0 .byte 16 [.int i0, .int 0, .int 0, .int 0, .int 0, .int 0, .int 0, .int 0, .int 0, .int 0, .int 0, .int 0, .int 0, .int 0, .int 0, .int 0] (.int 0)) (F_q0_coder : Fld Z h0 q0 "java/lang/AbstractStringBuilder" "coder" "B" (.int 0)) (E_q0 : Exa Z h0 q0 "java/lang/StringBuilder") (d_q0_q2 : q0 ≠ q2) (g_q0 : n0 ≤ q0) (g_q2 : n0 ≤ q2) : MetH l Z EL0 n0 N_jdk_67_m_7 jdk_67_method_7_code 2 (some (.object "java/lang/StringBuilder")) [] R_rm62 #[.ref q0, .ref q1] h0 [q2] (fun vs v h ve => (v = some (.ref q0) ∧ (Keep h0 h [q2, q0]) ∧ (Arv Z h q2 kp0 .byte 16 [.int i0, .int 32, .int 0, .int 0, .int 0, .int 0, .int 0, .int 0, .int 0, .int 0, .int 0, .int 0, .int 0, .int 0, .int 0, .int 0] (.int 0)) ∧ (Fld Z h q0 "java/lang/AbstractStringBuilder" "coder" "B" (.int 0)) ∧ (Fld Z h q0 "java/lang/AbstractStringBuilder" "count" "I" (.int 2)) ∧ (Fld Z h q0 "java/lang/AbstractStringBuilder" "value" "[B" (.ref q2)))) := by
  refine MetH.of #[.val (.ref q0), .val (.ref q1)] (plainFor_of_name pn_java_lang_StringBuilder) rfl Z0 (fun p e s m below meth c T0 hret hml hnm hSL hs0 X0 => ?_)
  have S_q2 := hSL q2 (List.mem_of_getElem? (i := 0) rfl)
  refine kALn X0 d14_0 rfl rfl ?_
  refine kALn X0 d14_1 rfl rfl ?_
  refine kSUP X0 (gEL G) (argsL := [.ref q1]) (rest := []) (wd G 82 rfl) (own_same (wd G 83 rfl) (own_noface (wd G 93 rfl) rfl) (by decide)) (wd G 83 rfl) (wd G 84 rfl) (by decide) (wd G 69 rfl) (wd G 86 rfl) (Ins.of_exa E_q0 (wd G 68 rfl)) (rm63 G i0 q0 q1 q2 q3 kp0 kp1 h0 X0.n O0 F_q1_value A_q3 F_q1_coder E_q1 F_q0_count F_q0_value A_q2 F_q0_coder E_q0 d_q0_q2 g_q0 g_q2) (allS ⟨(A_q2.lt), S_q2⟩ all0) (lenOf pd__Ljava_lang_String__Ljava_lang_AbstractStringBuilder_ rfl) rfl 0 rfl (by decide) hml.symm d14_2 (fun v1 T2 h3 vm4 _ w5 q6 C7 C8 X9 => ?_)
  obtain ⟨e11, f12, f13, f14, f15, f16⟩ := q6
  subst e11
  show Go _ _ _ _ _ (mkF _ _ _ [.ref q0])
  refine kPOP X9 d14_5 rfl ?_
  refine kALn X9 d14_6 rfl rfl ?_
  have K17 : Keep h0 h3 [q2, q0] := (Keep.trans (Keep.refl h0 [q2, q0]) f12 (allS (Or.inl (List.mem_of_getElem? (i := 0) rfl)) (allS (Or.inl (List.mem_of_getElem? (i := 1) rfl)) all0)))
  exact kRETA X9 (gEL G) hret rfl rfl d14_7 (fun ve hve => ⟨rfl, K17, f13, f14, f15, f16⟩) (by decide)
theorem d4_40 : decode prog_30_method_3_code 40 = .ok (.aload_n 1, 1) := by decide +kernel
theorem d4_41 : decode prog_30_method_3_code 41 = .ok (.invokevirtual 68, 3) := by decide +kernel
def R_rm72 : Room := { frames := 0, cells := 0, slots := 0, locals := 0 }
theorem rm72 (G : Glob Z a0 iCS vSI) (i0 : Int32) (q0 q1 : Addr) (kp0 : ClassId) (h0 : Heap) (Z0 : n0 ≤ h0.size) (O0 : Old Z n0 h0) (F_q0_value : Fld Z h0 q0 "java/lang/AbstractStringBuilder" "value" "[B" (.ref q1)) (A_q1 : Arv Z h0 q1 kp0 .byte 16 [.int i0, .int 32, .int 0, .int 0, .int 0, .int 0, .int 0, .int 0, .int 0, .int 0, .int 0, .int 0, .int 0, .int 0, .int 0, .int 0] (.int 0)) (F_q0_coder : Fld Z h0 q0 "java/lang/AbstractStringBuilder" "coder" "B" (.int 0)) : MetH l Z EL0 n0 N_jdk_68_m_9 jdk_68_method_9_code 3 none [] R_rm72 #[.ref q0, .int 3] h0 [] (fun vs v h ve => (v = none ∧ (h0 = h))) := by
  refine MetH.of #[.val (.ref q0), .val (.int 3), .unset] (plainFor_of_name pn_java_lang_AbstractStringBuilder) rfl Z0 (fun p e s m below meth c T0 hret hml hnm hSL hs0 X0 => ?_)
  refine kALn X0 d16_0 rfl rfl ?_
  refine kGETF X0 (wd G 73 rfl) Via.refl F_q0_value d16_1 (fun T1 X2 => ?_)
  refine kLEN X2 A_q1 d16_4 ?_
  refine kALn X2 d16_5 rfl rfl ?_
  refine kGETF X2 (wd G 75 rfl) Via.refl F_q0_coder d16_6 (fun T3 X4 => ?_)
  refine kISHR X4 16 d16_9 (by decide) ?_
  refine kISn X4 #[.val (.ref q0), .val (.int 3), .val (.int 16)] d16_10 rfl ?_
  refine kILn X4 d16_11 rfl ?_
  refine kILn X4 d16_12 rfl ?_
  refine kISUB X4 (-13) d16_13 (by decide) ?_
  refine kIFt X4 38 d16_14 (XT.i0_le_t (by decide)) (by decide) ?_
  exact kRETV X4 (gEL G) hret d16_38 (fun ve hve => ⟨rfl, rfl⟩) (by decide)
def R_rm74 : Room := { frames := 1, cells := 0, slots := 0, locals := 13 }
theorem rm74 (G : Glob Z a0 iCS vSI) (i0 i1 : Int32) (q0 q1 q2 q3 : Addr) (kp0 kp1 : ClassId) (h0 : Heap) (Z0 : n0 ≤ h0.size) (O0 : Old Z n0 h0) (F_q0_coder : Fld Z h0 q0 "java/lang/AbstractStringBuilder" "coder" "B" (.int 0)) (F_q1_coder : Fld Z h0 q1 "java/lang/String" "coder" "B" (.int 0)) (E_q1 : Exa Z h0 q1 "java/lang/String") : MetH l Z EL0 n0 N_jdk_68_m_71 jdk_68_method_71_code 2 none [] R_rm74 #[.ref q0, .ref q1] h0 [] (fun vs v h ve => (v = none ∧ (h0 = h))) := by
  refine MetH.of #[.val (.ref q0), .val (.ref q1)] (plainFor_of_name pn_java_lang_AbstractStringBuilder) rfl Z0 (fun p e s m below meth c T0 hret hml hnm hSL hs0 X0 => ?_)
  refine kGETS X0 (wd G 72 rfl) Via.refl (Sta.ext O0.2 (S_CS G)) d18_0 (fun T1 X2 => ?_)
  refine kIFf X2 d18_3 (XT.i0_eq_f (n_CS G)) ?_
  refine kALn X2 d18_6 rfl rfl ?_
  refine kGETF X2 (wd G 75 rfl) Via.refl F_q0_coder d18_7 (fun T3 X4 => ?_)
  refine kALn X4 d18_10 rfl rfl ?_
  refine kVIRT X4 (gEL G) (argsL := []) (rest := [.int 0]) (wd G 105 rfl) (wd G 41 rfl) (own_nf X4.hZ (own_noinst (wd G 6 rfl))) (wd G 43 rfl) (wd G 42 rfl) (wd G 7 rfl) (wd G 44 rfl) (by decide) E_q1 (rm21 G i1 q1 q3 kp1 h0 X4.n O0 F_q1_coder) all0 (lenOf pd___B rfl) rfl 1 rfl (by decide) hml.symm d18_11 (fun v5 T6 h7 vm8 _ w9 q10 C11 C12 X13 => ?_)
  obtain ⟨e15, f16⟩ := q10
  subst e15
  subst f16
  show Go _ _ _ _ _ (mkF _ _ _ [.int 0, .int 0])
  refine kICt X13 21 d18_14 (XT.ii_eq_t (by decide)) (by decide) ?_
  exact kRETV X13 (gEL G) hret d18_21 (fun ve hve => ⟨rfl, rfl⟩) (by decide)
def R_rm75 : Room := { frames := 1, cells := 0, slots := 0, locals := 18 }
theorem rm75 (G : Glob Z a0 iCS vSI) (i0 i1 : Int32) (q0 q1 q2 : Addr) (kp0 kp1 : ClassId) (h0 : Heap) (Z0 : n0 ≤ h0.size) (O0 : Old Z n0 h0) (F_q0_coder : Fld Z h0 q0 "java/lang/String" "coder" "B" (.int 0)) (E_q0 : Exa Z h0 q0 "java/lang/String") (F_q0_value : Fld Z h0 q0 "java/lang/String" "value" "[B" (.ref q2)) (A_q2 : Arv Z h0 q2 kp1 .byte 1 [.int i1] (.int 0)) (A_q1 : Arv Z h0 q1 kp0 .byte 16 [.int i0, .int 32, .int 0, .int 0, .int 0, .int 0, .int 0, .int 0, .int 0, .int 0, .int 0, .int 0, .int 0, .int 0, .int 0, .int 0] (.int 0)) (g_q1 : n0 ≤ q1) : MetH l Z EL0 n0 N_jdk_42_m_147 jdk_42_method_147_code 4 none [] R_rm75 #[.ref q0, .ref q1, .int 2, .int 0] h0 [q1] (fun vs v h ve => (v = none ∧ (Keep h0 h [q1]) ∧ (Arv Z h q1 kp0 .byte 16 [.int i0, .int 32, .int i1, .int 0, .int 0, .int 0, .int 0, .int 0, .int 0, .int 0, .int 0, .int 0, .int 0, .int 0, .int 0, .int 0] (.int 0)))) := by
  refine MetH.of #[.val (.ref q0), .val (.ref q1), .val (.int 2), .val (.int 0)] (plainFor_of_name pn_java_lang_String) rfl Z0 (fun p e s m below meth c T0 hret hml hnm hSL hs0 X0 => ?_)
  have S_q1 := hSL q1 (List.mem_of_getElem? (i := 0) rfl)
  refine kALn X0 d19_0 rfl rfl ?_
  refine kVIRT X0 (gEL G) (argsL := []) (rest := []) (wd G 40 rfl) (wd G 41 rfl) (own_nf X0.hZ (own_noinst (wd G 6 rfl))) (wd G 43 rfl) (wd G 42 rfl) (wd G 7 rfl) (wd G 44 rfl) (by decide) E_q0 (rm21 G i1 q0 q2 kp1 h0 X0.n O0 F_q0_coder) all0 (lenOf pd___B rfl) rfl 0 rfl (by decide) hml.symm d19_1 (fun v1 T2 h3 vm4 _ w5 q6 C7 C8 X9 => ?_)
  obtain ⟨e11, f12⟩ := q6
  subst e11
  subst f12
  show Go _ _ _ _ _ (mkF _ _ _ [.int 0])
  refine kILn X9 d19_4 rfl ?_
  refine kICf X9 d19_5 (XT.ii_ne_f (by decide)) ?_
  refine kALn X9 d19_8 rfl rfl ?_
  refine kGETF X9 (wd G 24 rfl) Via.refl F_q0_value d19_9 (fun T13 X14 => ?_)
  refine kIC X14 0 d19_12 (by decide) ?_
  refine kALn X14 d19_13 rfl rfl ?_
  refine kILn X14 d19_14 rfl ?_
  refine kILn X14 d19_15 rfl ?_
  refine kISHL X14 2 d19_16 (by decide) ?_
  refine kALn X14 d19_17 rfl rfl ?_
  refine kGETF X14 (wd G 24 rfl) Via.refl F_q0_value d19_18 (fun T15 X16 => ?_)
  refine kLEN X16 A_q2 d19_21 ?_
  have f17 := (CHr.safe C8 (A_q1.lt) S_q1)
  refine kCPA X16 (wd G 111 rfl) (wd G 114 rfl) (wd G 112 rfl) (wd G 113 rfl) A_q2 A_q1 (Or.inl ⟨rfl, rfl⟩) (us := [.int i1]) (by decide) rfl (by show 3 ≤ 16; decide) g_q1 f17 hml.symm d19_22 (by decide) 0 (Nat.le_of_eq rfl) (by decide) (fun T18 h19 L21 K22 C23 f24 X20 => ?_)
  have f25 : Arv Z h19 q1 kp0 .byte 16 [.int i0, .int 32, .int i1, .int 0, .int 0, .int 0, .int 0, .int 0, .int 0, .int 0, .int 0, .int 0, .int 0, .int 0, .int 0, .int 0] (.int 0) := f24
  refine kGOTO X20 43 d19_25 (by decide) ?_
  have K26 : Keep h0 h19 [q1] := (Keep.trans (Keep.refl h0 [q1]) K22 (allS (Or.inl (List.mem_of_getElem? (i := 0) rfl)) all0))
  exact kRETV X20 (gEL G) hret d19_43 (fun ve hve => ⟨rfl, K26, f25⟩) (by decide)
def R_rm73 : Room := { frames := 2, cells := 0, slots := 0, locals := 33 }
theorem rm73 (G : Glob Z a0 iCS vSI) (i0 i1 : Int32) (q0 q1 q2 q3 : Addr) (kp0 kp1 : ClassId) (h0 : Heap) (Z0 : n0 ≤ h0.size) (O0 : Old Z n0 h0) (F_q0_coder : Fld Z h0 q0 "java/lang/AbstractStringBuilder" "coder" "B" (.int 0)) (F_q1_coder : Fld Z h0 q1 "java/lang/String" "coder" "B" (.int 0)) (E_q1 : Exa Z h0 q1 "java/lang/String") (E_q0 : Exa Z h0 q0 "java/lang/StringBuilder") (F_q0_value : Fld Z h0 q0 "java/lang/AbstractStringBuilder" "value" "[B" (.ref q2)) (F_q1_value : Fld Z h0 q1 "java/lang/String" "value" "[B" (.ref q3)) (A_q3 : Arv Z h0 q3 kp1 .byte 1 [.int i1] (.int 0)) (A_q2 : Arv Z h0 q2 kp0 .byte 16 [.int i0, .int 32, .int 0, .int 0, .int 0, .int 0, .int 0, .int 0, .int 0, .int 0, .int 0, .int 0, .int 0, .int 0, .int 0, .int 0] (.int 0)) (g_q2 : n0 ≤ q2) : MetH l Z EL0 n0 N_jdk_68_m_73 jdk_68_method_73_code 3 none [] R_rm73 #[.ref q0, .int 2, .ref q1] h0 [q2] (fun vs v h ve => (v = none ∧ (Keep h0 h [q2]) ∧ (Arv Z h q2 kp0 .byte 16 [.int i0, .int 32, .int i1, .int 0, .int 0, .int 0, .int 0, .int 0, .int 0, .int 0, .int 0, .int 0, .int 0, .int 0, .int 0, .int 0] (.int 0)))) := by
  refine MetH.of #[.val (.ref q0), .val (.int 2), .val (.ref q1)] (plainFor_of_name pn_java_lang_AbstractStringBuilder) rfl Z0 (fun p e s m below meth c T0 hret hml hnm hSL hs0 X0 => ?_)
  have S_q2 := hSL q2 (List.mem_of_getElem? (i := 0) rfl)
  refine kALn X0 d17_0 rfl rfl ?_
  refine kALn X0 d17_1 rfl rfl ?_
  refine kVIRT X0 (gEL G) (argsL := [.ref q1]) (rest := []) (wd G 100 rfl) (own_decl (wd G 101 rfl) (wd G 104 rfl)) (own_nf X0.hZ (own_noface (wd G 93 rfl) rfl)) (wd G 103 rfl) (wd G 101 rfl) (wd G 69 rfl) (wd G 104 rfl) (by decide) E_q0 (rm74 G i0 i1 q0 q1 q2 q3 kp0 kp1 h0 X0.n O0 F_q0_coder F_q1_coder E_q1) all0 (lenOf pd__Ljava_lang_String__V rfl) rfl 0 rfl (by decide) hml.symm d17_2 (fun v1 T2 h3 vm4 _ w5 q6 C7 C8 X9 => ?_)
  obtain ⟨e11, f12⟩ := q6
  subst e11
  subst f12
  show Go _ _ _ _ _ (mkF _ _ _ [])
  refine kALn X9 d17_5 rfl rfl ?_
  refine kALn X9 d17_6 rfl rfl ?_
  refine kGETF X9 (wd G 73 rfl) Via.refl F_q0_value d17_7 (fun T13 X14 => ?_)
  refine kILn X14 d17_10 rfl ?_
  refine kALn X14 d17_11 rfl rfl ?_
  refine kGETF X14 (wd G 75 rfl) Via.refl F_q0_coder d17_12 (fun T15 X16 => ?_)
  have f26 := (CHr.safe C8 (A_q2.lt) S_q2)
  refine kVIRT X16 (gEL G) (argsL := [.ref q2, .int 2, .int 0]) (rest := []) (wd G 106 rfl) (wd G 107 rfl) (own_nf X16.hZ (own_noinst (wd G 6 rfl))) (wd G 109 rfl) (wd G 108 rfl) (wd G 7 rfl) (wd G 110 rfl) (by decide) E_q1 (rm75 G i0 i1 q1 q2 q3 kp0 kp1 h0 X16.n O0 F_q1_coder E_q1 F_q1_value A_q3 A_q2 g_q2) (allS ⟨(A_q2.lt), f26⟩ all0) (lenOf pd___BIB_V rfl) rfl 0 rfl (by decide) hml.symm d17_15 (fun v17 T18 h19 vm20 _ w21 q22 C23 C24 X25 => ?_)
  obtain ⟨e28, f29, f30⟩ := q22
  subst e28
  show Go _ _ _ _ _ (mkF _ _ _ [])
  have K31 : Keep h0 h19 [q2] := (Keep.trans (Keep.refl h0 [q2]) f29 (allS (Or.inl (List.mem_of_getElem? (i := 0) rfl)) all0))
  exact kRETV X25 (gEL G) hret d17_18 (fun ve hve => ⟨rfl, K31, f30⟩) (by decide)
def R_rm71 : Room := { frames := 3, cells := 0, slots := 0, locals := 47 }
theorem rm71 (G : Glob Z a0 iCS vSI) (i0 i1 : Int32) (q0 q1 q2 q3 : Addr) (kp0 kp1 : ClassId) (h0 : Heap) (Z0 : n0 ≤ h0.size) (O0 : Old Z n0 h0) (F_q1_value : Fld Z h0 q1 "java/lang/String" "value" "[B" (.ref q3)) (A_q3 : Arv Z h0 q3 kp1 .byte 1 [.int i1] (.int 0)) (F_q1_coder : Fld Z h0 q1 "java/lang/String" "coder" "B" (.int 0)) (E_q1 : Exa Z h0 q1 "java/lang/String") (F_q0_count : Fld Z h0 q0 "java/lang/AbstractStringBuilder" "count" "I" (.int 2)) (F_q0_value : Fld Z h0 q0 "java/lang/AbstractStringBuilder" "value" "[B" (.ref q2)) (A_q2 : Arv Z h0 q2 kp0 .byte 16 [.int i0, .int 32, .int 0, .int 0, .int 0, .int 0, .int 0, .int 0, .int 0, .int 0, .int 0, .int 0, .int 0, .int 0, .int 0, .int 0] (.int 0)) (F_q0_coder : Fld Z h0 q0 "java/lang/AbstractStringBuilder" "coder" "B" (.int 0)) (E_q0 : Exa Z h0 q0 "java/lang/StringBuilder") (d_q0_q2 : q0 ≠ q2) (g_q0 : n0 ≤ q0) (g_q2 : n0 ≤ q2) : MetH l Z EL0 n0 N_jdk_68_m_22 jdk_68_method_22_code 3 (some (.object "java/lang/AbstractStringBuilder")) [] R_rm71 #[.ref q0, .ref q1] h0 [q2] (fun vs v h ve => (v = some (.ref q0) ∧ (Keep h0 h [q2, q0]) ∧ (Arv Z h q2 kp0 .byte 16 [.int i0, .int 32, .int i1, .int 0, .int 0, .int 0, .int 0, .int 0, .int 0, .int 0, .int 0, .int 0, .int 0, .int 0, .int 0, .int 0] (.int 0)) ∧ (Fld Z h q0 "java/lang/AbstractStringBuilder" "coder" "B" (.int 0)) ∧ (Fld Z h q0 "java/lang/AbstractStringBuilder" "count" "I" (.int 3)) ∧ (Fld Z h q0 "java/lang/AbstractStringBuilder" "value" "[B" (.ref q2)))) := by
  refine MetH.of #[.val (.ref q0), .val (.ref q1), .unset] (plainFor_of_name pn_java_lang_AbstractStringBuilder) rfl Z0 (fun p e s m below meth c T0 hret hml hnm hSL hs0 X0 => ?_)
  have S_q2 := hSL q2 (List.mem_of_getElem? (i := 0) rfl)
  refine kALn X0 d15_0 rfl rfl ?_
  refine kNNt X0 9 d15_1 (by decide) ?_
  refine kALn X0 d15_9 rfl rfl ?_
  refine kVIRT X0 (gEL G) (argsL := []) (rest := []) (wd G 87 rfl) (wd G 36 rfl) (own_nf X0.hZ (own_noinst (wd G 6 rfl))) (wd G 38 rfl) (wd G 37 rfl) (wd G 7 rfl) (wd G 39 rfl) (by decide) E_q1 (rm20 G i1 q1 q3 kp1 h0 X0.n O0 F_q1_value A_q3 F_q1_coder E_q1) all0 (lenOf pd___I rfl) rfl 0 rfl (by decide) hml.symm d15_10 (fun v1 T2 h3 vm4 _ w5 q6 C7 C8 X9 => ?_)
  obtain ⟨e11, f12⟩ := q6
  subst e11
  subst f12
  show Go _ _ _ _ _ (mkF _ _ _ [.int 1])
  refine kISn X9 #[.val (.ref q0), .val (.ref q1), .val (.int 1)] d15_13 rfl ?_
  refine kALn X9 d15_14 rfl rfl ?_
  refine kALn X9 d15_15 rfl rfl ?_
  refine kGETF X9 (wd G 88 rfl) Via.refl F_q0_count d15_16 (fun T13 X14 => ?_)
  refine kILn X14 d15_19 rfl ?_
  refine kIADD X14 3 d15_20 (by decide) ?_
  refine kVIRT X14 (gEL G) (argsL := [.int 3]) (rest := []) (wd G 90 rfl) (own_decl (wd G 91 rfl) (wd G 94 rfl)) (own_nf X14.hZ (own_noface (wd G 93 rfl) rfl)) (wd G 93 rfl) (wd G 91 rfl) (wd G 69 rfl) (wd G 94 rfl) (by decide) E_q0 (rm72 G i0 q0 q2 kp0 h0 X14.n O0 F_q0_value A_q2 F_q0_coder) all0 (lenOf pd__I_V rfl) rfl 0 rfl (by decide) hml.symm d15_21 (fun v15 T16 h17 vm18 _ w19 q20 C21 C22 X23 => ?_)
  obtain ⟨e25, f26⟩ := q20
  subst e25
  subst f26
  show Go _ _ _ _ _ (mkF _ _ _ [])
  refine kALn X23 d15_24 rfl rfl ?_
  refine kALn X23 d15_25 rfl rfl ?_
  refine kGETF X23 (wd G 88 rfl) Via.refl F_q0_count d15_26 (fun T27 X28 => ?_)
  refine kALn X28 d15_29 rfl rfl ?_
  have f38 := (CHr.safe C22 (A_q2.lt) (CHr.safe C8 (A_q2.lt) S_q2))
  refine kVIRT X28 (gEL G) (argsL := [.int 2, .ref q1]) (rest := []) (wd G 95 rfl) (own_decl (wd G 96 rfl) (wd G 99 rfl)) (own_nf X28.hZ (own_noface (wd G 93 rfl) rfl)) (wd G 98 rfl) (wd G 96 rfl) (wd G 69 rfl) (wd G 99 rfl) (by decide) E_q0 (rm73 G i0 i1 q0 q1 q2 q3 kp0 kp1 h0 X28.n O0 F_q0_coder F_q1_coder E_q1 E_q0 F_q0_value F_q1_value A_q3 A_q2 g_q2) (allS ⟨(A_q2.lt), f38⟩ all0) (lenOf pd__ILjava_lang_String__V rfl) rfl 0 rfl (by decide) hml.symm d15_30 (fun v29 T30 h31 vm32 _ w33 q34 C35 C36 X37 => ?_)
  obtain ⟨e40, f41, f42⟩ := q34
  subst e40
  show Go _ _ _ _ _ (mkF _ _ _ [])
  refine kALn X37 d15_33 rfl rfl ?_
  refine kDUP X37 d15_34 rfl ?_
  have f43 := (Fld.keep F_q0_count f41 (ninS d_q0_q2 nin0))
  refine kGETF X37 (wd G 88 rfl) Via.refl f43 d15_35 (fun T44 X45 => ?_)
  refine kILn X45 d15_38 rfl ?_
  refine kIADD X45 3 d15_39 (by decide) ?_
  have f46 := (Exa.keep E_q0 f41)
  refine kPUTF X45 (wd G 88 rfl) Via.refl f43 f46 (Or.inl (wd G 89 rfl)) (wd G 60 rfl) (ty := .int) (by decide) rfl rfl g_q0 (Safe.exa X45.hZ.alike f46 (by decide) (by decide)) d15_40 (fun T47 h48 L51 W50 X49 => ?_)
  have f52 := Fld.same W50 f43
  refine kALn X49 d15_43 rfl rfl ?_
  have K53 : Keep h0 h48 [q2, q0] := (Keep.wr (Keep.trans (Keep.refl h0 [q2, q0]) f41 (allS (Or.inl (List.mem_of_getElem? (i := 0) rfl)) all0)) W50 (Or.inl (List.mem_of_getElem? (i := 1) rfl)))
  have f54 := (Arv.other f42 W50 (Ne.symm d_q0_q2))
  have f55 := (Fld.other W50 (Fld.keep F_q0_coder f41 (ninS d_q0_q2 nin0)) (Or.inr (slot_ne (Or.inl (wd G 76 rfl)) (Or.inl (wd G 89 rfl)) (by decide) (by decide : parseFieldDescriptor "B" = some .byte) (by decide : parseFieldDescriptor "I" = some .int))))
  have f56 := (Fld.other W50 (Fld.keep F_q0_value f41 (ninS d_q0_q2 nin0)) (Or.inr (slot_ne (Or.inl (wd G 74 rfl)) (Or.inl (wd G 89 rfl)) (by decide) (by decide : parseFieldDescriptor "[B" = some (.array (.byte))) (by decide : parseFieldDescriptor "I" = some .int))))
  exact kRETA X49 (gEL G) hret rfl rfl d15_44 (fun ve hve => ⟨rfl, K53, f54, f55, f52, f56⟩) (by decide)
def R_rm70 : Room := { frames := 4, cells := 0, slots := 0, locals := 61 }
theorem rm70 (G : Glob Z a0 iCS vSI) (i0 i1 : Int32) (q0 q1 q2 q3 : Addr) (kp0 kp1 : ClassId) (h0 : Heap) (Z0 : n0 ≤ h0.size) (O0 : Old Z n0 h0) (F_q1_value : Fld Z h0 q1 "java/lang/String" "value" "[B" (.ref q3)) (A_q3 : Arv Z h0 q3 kp1 .byte 1 [.int i1] (.int 0)) (F_q1_coder : Fld Z h0 q1 "java/lang/String" "coder" "B" (.int 0)) (E_q1 : Exa Z h0 q1 "java/lang/String") (F_q0_count : Fld Z h0 q0 "java/lang/AbstractStringBuilder" "count" "I" (.int 2)) (F_q0_value : Fld Z h0 q0 "java/lang/AbstractStringBuilder" "value" "[B" (.ref q2)) (A_q2 : Arv Z h0 q2 kp0 .byte 16 [.int i0, .int 32, .int 0, .int 0, .int 0, .int 0, .int 0, .int 0, .int 0, .int 0, .int 0, .int 0, .int 0, .int 0, .int 0, .int 0] (.int 0)) (F_q0_coder : Fld Z h0 q0 "java/lang/AbstractStringBuilder" "coder" "B" (.int 0)) (E_q0 : Exa Z h0 q0 "java/lang/StringBuilder") (d_q0_q2 : q0 ≠ q2) (g_q0 : n0 ≤ q0) (g_q2 : n0 ≤ q2) : MetH l Z EL0 n0 N_jdk_67_m_7 jdk_67_method_7_code 2 (some (.object "java/lang/StringBuilder")) [] R_rm70 #[.ref q0, .ref q1] h0 [q2] (fun vs v h ve => (v = some (.ref q0) ∧ (Keep h0 h [q2, q0]) ∧ (Arv Z h q2 kp0 .byte 16 [.int i0, .int 32, .int i1, .int 0, .int 0, .int 0, .int 0, .int 0, .int 0, .int 0, .int 0, .int 0, .int 0, .int 0, .int 0, .int 0] (.int 0)) ∧ (Fld Z h q0 "java/lang/AbstractStringBuilder" "coder" "B" (.int 0)) ∧ (Fld Z h q0 "java/lang/AbstractStringBuilder" "count" "I" (.int 3)) ∧ (Fld Z h q0 "java/lang/AbstractStringBuilder" "value" "[B" (.ref q2)))) := by
  refine MetH.of #[.val (.ref q0), .val (.ref q1)] (plainFor_of_name pn_java_lang_StringBuilder) rfl Z0 (fun p e s m below meth c T0 hret hml hnm hSL hs0 X0 => ?_)
  have S_q2 := hSL q2 (List.mem_of_getElem? (i := 0) rfl)
  refine kALn X0 d14_0 rfl rfl ?_
  refine kALn X0 d14_1 rfl rfl ?_
  refine kSUP X0 (gEL G) (argsL := [.ref q1]) (rest := []) (wd G 82 rfl) (own_same (wd G 83 rfl) (own_noface (wd G 93 rfl) rfl) (by decide)) (wd G 83 rfl) (wd G 84 rfl) (by decide) (wd G 69 rfl) (wd G 86 rfl) (Ins.of_exa E_q0 (wd G 68 rfl)) (rm71 G i0 i1 q0 q1 q2 q3 kp0 kp1 h0 X0.n O0 F_q1_value A_q3 F_q1_coder E_q1 F_q0_count F_q0_value A_q2 F_q0_coder E_q0 d_q0_q2 g_q0 g_q2) (allS ⟨(A_q2.lt), S_q2⟩ all0) (lenOf pd__Ljava_lang_String__Ljava_lang_AbstractStringBuilder_ rfl) rfl 0 rfl (by decide) hml.symm d14_2 (fun v1 T2 h3 vm4 _ w5 q6 C7 C8 X9 => ?_)
  obtain ⟨e11, f12, f13, f14, f15, f16⟩ := q6
  subst e11
  show Go _ _ _ _ _ (mkF _ _ _ [.ref q0])
  refine kPOP X9 d14_5 rfl ?_
  refine kALn X9 d14_6 rfl rfl ?_
  have K17 : Keep h0 h3 [q2, q0] := (Keep.trans (Keep.refl h0 [q2, q0]) f12 (allS (Or.inl (List.mem_of_getElem? (i := 0) rfl)) (allS (Or.inl (List.mem_of_getElem? (i := 1) rfl)) all0)))
  exact kRETA X9 (gEL G) hret rfl rfl d14_7 (fun ve hve => ⟨rfl, K17, f13, f14, f15, f16⟩) (by decide)
theorem d4_44 : decode prog_30_method_3_code 44 = .ok (.invokevirtual 123, 3) := by decide +kernel
theorem d20_0 : decode jdk_67_method_42_code 0 = .ok (.new 18, 3) := by decide +kernel
theorem d20_3 : decode jdk_67_method_42_code 3 = .ok (.dup, 1) := by decide +kernel
theorem d20_4 : decode jdk_67_method_42_code 4 = .ok (.aload_n 0, 1) := by decide +kernel
theorem d20_5 : decode jdk_67_method_42_code 5 = .ok (.invokespecial 137, 3) := by decide +kernel
theorem d21_0 : decode jdk_42_method_53_code 0 = .ok (.aload_n 0, 1) := by decide +kernel
theorem d21_1 : decode jdk_42_method_53_code 1 = .ok (.aload_n 1, 1) := by decide +kernel
theorem d21_2 : decode jdk_42_method_53_code 2 = .ok (.aconst_null, 1) := by decide +kernel
theorem d21_3 : decode jdk_42_method_53_code 3 = .ok (.invokespecial 489, 3) := by decide +kernel
theorem d22_0 : decode jdk_42_method_150_code 0 = .ok (.aload_n 0, 1) := by decide +kernel
theorem d22_1 : decode jdk_42_method_150_code 1 = .ok (.invokespecial 1, 3) := by decide +kernel
theorem d22_4 : decode jdk_42_method_150_code 4 = .ok (.aload_n 1, 1) := by decide +kernel
theorem d22_5 : decode jdk_42_method_150_code 5 = .ok (.invokevirtual 552, 3) := by decide +kernel
theorem d23_0 : decode jdk_68_method_64_code 0 = .ok (.aload_n 0, 1) := by decide +kernel
theorem d23_1 : decode jdk_68_method_64_code 1 = .ok (.getfield 15, 3) := by decide +kernel
theorem d23_4 : decode jdk_68_method_64_code 4 = .ok (.areturn, 1) := by decide +kernel
def N_jdk_68_m_64 : MethodName := ⟨"java/lang/AbstractStringBuilder", "getValue", "()[B"⟩
def R_rm79 : Room := { frames := 0, cells := 0, slots := 0, locals := 0 }
theorem rm79 (G : Glob Z a0 iCS vSI) (i0 i1 : Int32) (q0 q1 : Addr) (kp0 : ClassId) (h0 : Heap) (Z0 : n0 ≤ h0.size) (O0 : Old Z n0 h0) (F_q0_value : Fld Z h0 q0 "java/lang/AbstractStringBuilder" "value" "[B" (.ref q1)) : MetH l Z EL0 n0 N_jdk_68_m_64 jdk_68_method_64_code 1 (some (.array (.byte))) [] R_rm79 #[.ref q0] h0 [] (fun vs v h ve => (v = some (.ref q1) ∧ (h0 = h))) := by
  refine MetH.of #[.val (.ref q0)] (plainFor_of_name pn_java_lang_AbstractStringBuilder) rfl Z0 (fun p e s m below meth c T0 hret hml hnm hSL hs0 X0 => ?_)
  refine kALn X0 d23_0 rfl rfl ?_
  refine kGETF X0 (wd G 73 rfl) Via.refl F_q0_value d23_1 (fun T1 X2 => ?_)
  exact kRETA X2 (gEL G) hret rfl rfl d23_4 (fun ve hve => ⟨rfl, rfl⟩) (by decide)
theorem pd____B : parseMethodDescriptor "()[B" = some ⟨[], some (.array (.byte))⟩ := by decide +kernel
theorem d22_8 : decode jdk_42_method_150_code 8 = .ok (.astore_n 3, 1) := by decide +kernel
theorem d22_9 : decode jdk_42_method_150_code 9 = .ok (.aload_n 1, 1) := by decide +kernel
theorem d22_10 : decode jdk_42_method_150_code 10 = .ok (.invokevirtual 549, 3) := by decide +kernel
theorem d24_0 : decode jdk_67_method_93_code 0 = .ok (.aload_n 0, 1) := by decide +kernel
theorem d24_1 : decode jdk_67_method_93_code 1 = .ok (.invokespecial 343, 3) := by decide +kernel
theorem d25_0 : decode jdk_68_method_6_code 0 = .ok (.aload_n 0, 1) := by decide +kernel
theorem d25_1 : decode jdk_68_method_6_code 1 = .ok (.getfield 79, 3) := by decide +kernel
theorem d25_4 : decode jdk_68_method_6_code 4 = .ok (.ireturn, 1) := by decide +kernel
def N_jdk_68_m_6 : MethodName := ⟨"java/lang/AbstractStringBuilder", "length", "()I"⟩
def R_rm81 : Room := { frames := 0, cells := 0, slots := 0, locals := 0 }
theorem rm81 (G : Glob Z a0 iCS vSI) (i0 i1 : Int32) (q0 q1 : Addr) (kp0 : ClassId) (h0 : Heap) (Z0 : n0 ≤ h0.size) (O0 : Old Z n0 h0) (F_q0_count : Fld Z h0 q0 "java/lang/AbstractStringBuilder" "count" "I" (.int 3)) : MetH l Z EL0 n0 N_jdk_68_m_6 jdk_68_method_6_code 1 (some .int) [] R_rm81 #[.ref q0] h0 [] (fun vs v h ve => (v = some (.int 3) ∧ (h0 = h))) := by
  refine MetH.of #[.val (.ref q0)] (plainFor_of_name pn_java_lang_AbstractStringBuilder) rfl Z0 (fun p e s m below meth c T0 hret hml hnm hSL hs0 X0 => ?_)
  refine kALn X0 d25_0 rfl rfl ?_
  refine kGETF X0 (wd G 88 rfl) Via.refl F_q0_count d25_1 (fun T1 X2 => ?_)
  exact kRETI X2 (gEL G) hret d25_4 (fun ve hve => ⟨rfl, rfl⟩) (by decide)
theorem d24_4 : decode jdk_67_method_93_code 4 = .ok (.ireturn, 1) := by decide +kernel
def N_jdk_67_m_93 : MethodName := ⟨"java/lang/StringBuilder", "length", "()I"⟩
def R_rm80 : Room := { frames := 1, cells := 0, slots := 0, locals := 12 }
theorem rm80 (G : Glob Z a0 iCS vSI) (i0 i1 : Int32) (q0 q1 : Addr) (kp0 : ClassId) (h0 : Heap) (Z0 : n0 ≤ h0.size) (O0 : Old Z n0 h0) (F_q0_count : Fld Z h0 q0 "java/lang/AbstractStringBuilder" "count" "I" (.int 3)) (E_q0 : Exa Z h0 q0 "java/lang/StringBuilder") : MetH l Z EL0 n0 N_jdk_67_m_93 jdk_67_method_93_code 1 (some .int) [] R_rm80 #[.ref q0] h0 [] (fun vs v h ve => (v = some (.int 3) ∧ (h0 = h))) := by
  refine MetH.of #[.val (.ref q0)] (plainFor_of_name pn_java_lang_StringBuilder) rfl Z0 (fun p e s m below meth c T0 hret hml hnm hSL hs0 X0 => ?_)
  refine kALn X0 d24_0 rfl rfl ?_
  refine kSUP X0 (gEL G) (argsL := []) (rest := []) (wd G 139 rfl) (own_same (wd G 135 rfl) (own_noface (wd G 93 rfl) rfl) (by decide)) (wd G 135 rfl) (wd G 84 rfl) (by decide) (wd G 69 rfl) (wd G 140 rfl) (Ins.of_exa E_q0 (wd G 68 rfl)) (rm81 G i0 i1 q0 q1 kp0 h0 X0.n O0 F_q0_count) all0 (lenOf pd___I rfl) rfl 0 rfl (by decide) hml.symm d24_1 (fun v1 T2 h3 vm4 _ w5 q6 C7 C8 X9 => ?_)
  obtain ⟨e11, f12⟩ := q6
  subst e11
  subst f12
  show Go _ _ _ _ _ (mkF _ _ _ [.int 3])
  exact kRETI X9 (gEL G) hret d24_4 (fun ve hve => ⟨rfl, rfl⟩) (by decide)
theorem d22_13 : decode jdk_42_method_150_code 13 = .ok (.istore 4, 2) := by decide +kernel
theorem d22_15 : decode jdk_42_method_150_code 15 = .ok (.aload_n 1, 1) := by decide +kernel
theorem d22_16 : decode jdk_42_method_150_code 16 = .ok (.invokevirtual 1047, 3) := by decide +kernel
theorem d26_0 : decode jdk_68_method_68_code 0 = .ok (.getstatic 18, 3) := by decide +kernel
theorem d26_3 : decode jdk_68_method_68_code 3 = .ok (.ifCond .eq 14, 3) := by decide +kernel
theorem d26_6 : decode jdk_68_method_68_code 6 = .ok (.aload_n 0, 1) := by decide +kernel
theorem d26_7 : decode jdk_68_method_68_code 7 = .ok (.getfield 22, 3) := by decide +kernel
theorem d26_10 : decode jdk_68_method_68_code 10 = .ok (.ifCond .ne 7, 3) := by decide +kernel
theorem d26_13 : decode jdk_68_method_68_code 13 = .ok (.iconst 1, 1) := by decide +kernel
theorem d26_14 : decode jdk_68_method_68_code 14 = .ok (.goto 4, 3) := by decide +kernel
theorem d26_18 : decode jdk_68_method_68_code 18 = .ok (.ireturn, 1) := by decide +kernel
def N_jdk_68_m_68 : MethodName := ⟨"java/lang/AbstractStringBuilder", "isLatin1", "()Z"⟩
def R_rm82 : Room := { frames := 0, cells := 0, slots := 0, locals := 0 }
theorem rm82 (G : Glob Z a0 iCS vSI) (i0 i1 : Int32) (q0 q1 : Addr) (kp0 : ClassId) (h0 : Heap) (Z0 : n0 ≤ h0.size) (O0 : Old Z n0 h0) (F_q0_coder : Fld Z h0 q0 "java/lang/AbstractStringBuilder" "coder" "B" (.int 0)) : MetH l Z EL0 n0 N_jdk_68_m_68 jdk_68_method_68_code 1 (some .boolean) [] R_rm82 #[.ref q0] h0 [] (fun vs v h ve => (v = some (.int 1) ∧ (h0 = h))) := by
  refine MetH.of #[.val (.ref q0)] (plainFor_of_name pn_java_lang_AbstractStringBuilder) rfl Z0 (fun p e s m below meth c T0 hret hml hnm hSL hs0 X0 => ?_)
  refine kGETS X0 (wd G 72 rfl) Via.refl (Sta.ext O0.2 (S_CS G)) d26_0 (fun T1 X2 => ?_)
  refine kIFf X2 d26_3 (XT.i0_eq_f (n_CS G)) ?_
  refine kALn X2 d26_6 rfl rfl ?_
  refine kGETF X2 (wd G 75 rfl) Via.refl F_q0_coder d26_7 (fun T3 X4 => ?_)
  refine kIFf X4 d26_10 (XT.i0_ne_f (by decide)) ?_
  refine kIC X4 1 d26_13 (by decide) ?_
  refine kGOTO X4 18 d26_14 (by decide) ?_
  exact kRETZ X4 (gEL G) (t := .boolean) hret (by simp) d26_18 (fun ve hve => ⟨rfl, rfl⟩) (by decide)
theorem pn_java_util_Arrays : plainName "java/util/Arrays" = true := by first | (simp [plainName, overriddenIn]; done) | decide +kernel
theorem d22_19 : decode jdk_42_method_150_code 19 = .ok (.ifCond .eq 22, 3) := by decide +kernel
theorem d22_22 : decode jdk_42_method_150_code 22 = .ok (.aload_n 0, 1) := by decide +kernel
theorem d22_23 : decode jdk_42_method_150_code 23 = .ok (.iconst 0, 1) := by decide +kernel
theorem d22_24 : decode jdk_42_method_150_code 24 = .ok (.putfield 15, 3) := by decide +kernel
theorem d22_27 : decode jdk_42_method_150_code 27 = .ok (.aload_n 0, 1) := by decide +kernel
theorem d22_28 : decode jdk_42_method_150_code 28 = .ok (.aload_n 3, 1) := by decide +kernel
theorem d22_29 : decode jdk_42_method_150_code 29 = .ok (.iconst 0, 1) := by decide +kernel
theorem d22_30 : decode jdk_42_method_150_code 30 = .ok (.iload 4, 2) := by decide +kernel
theorem d22_32 : decode jdk_42_method_150_code 32 = .ok (.invokestatic 54, 3) := by decide +kernel
theorem d27_0 : decode jdk_65_method_132_code 0 = .ok (.iload_n 1, 1) := by decide +kernel
theorem d27_1 : decode jdk_65_method_132_code 1 = .ok (.ifCond .ne 9, 3) := by decide +kernel
theorem d27_4 : decode jdk_65_method_132_code 4 = .ok (.iload_n 2, 1) := by decide +kernel
theorem d27_5 : decode jdk_65_method_132_code 5 = .ok (.aload_n 0, 1) := by decide +kernel
theorem d27_6 : decode jdk_65_method_132_code 6 = .ok (.arraylength, 1) := by decide +kernel
theorem d27_7 : decode jdk_65_method_132_code 7 = .ok (.if_icmp .eq 10, 3) := by decide +kernel
theorem d27_10 : decode jdk_65_method_132_code 10 = .ok (.aload_n 0, 1) := by decide +kernel
theorem d27_11 : decode jdk_65_method_132_code 11 = .ok (.iload_n 1, 1) := by decide +kernel
theorem d27_12 : decode jdk_65_method_132_code 12 = .ok (.iload_n 2, 1) := by decide +kernel
theorem d27_13 : decode jdk_65_method_132_code 13 = .ok (.invokestatic 339, 3) := by decide +kernel
theorem d28_0 : decode jdk_65_method_133_code 0 = .ok (.iload_n 1, 1) := by decide +kernel
theorem d28_1 : decode jdk_65_method_133_code 1 = .ok (.iload_n 2, 1) := by decide +kernel
theorem d28_2 : decode jdk_65_method_133_code 2 = .ok (.invokestatic 343, 3) := by decide +kernel
theorem d29_0 : decode jdk_65_method_131_code 0 = .ok (.iload_n 1, 1) := by decide +kernel
theorem d29_1 : decode jdk_65_method_131_code 1 = .ok (.iload_n 0, 1) := by decide +kernel
theorem d29_2 : decode jdk_65_method_131_code 2 = .ok (.if_icmp .ge 35, 3) := by decide +kernel
theorem d29_37 : decode jdk_65_method_131_code 37 = .ok (.return_, 1) := by decide +kernel
def N_jdk_65_m_131 : MethodName := ⟨"java/util/Arrays", "checkLength", "(II)V"⟩
def R_rm85 : Room := { frames := 0, cells := 0, slots := 0, locals := 0 }
theorem rm85 (G : Glob Z a0 iCS vSI)  (h0 : Heap) (Z0 : n0 ≤ h0.size) (O0 : Old Z n0 h0)  : MetH l Z EL0 n0 N_jdk_65_m_131 jdk_65_method_131_code 2 none [] R_rm85 #[.int 0, .int 3] h0 [] (fun vs v h ve => (v = none ∧ (h0 = h))) := by
  refine MetH.of #[.val (.int 0), .val (.int 3)] (plainFor_of_name pn_java_util_Arrays) rfl Z0 (fun p e s m below meth c T0 hret hml hnm hSL hs0 X0 => ?_)
  refine kILn X0 d29_0 rfl ?_
  refine kILn X0 d29_1 rfl ?_
  refine kICt X0 37 d29_2 (XT.ii_ge_t (by decide)) (by decide) ?_
  exact kRETV X0 (gEL G) hret d29_37 (fun ve hve => ⟨rfl, rfl⟩) (by decide)
theorem pf_java_lang_Math_min : plainFor ⟨"java/lang/Math", "min", "(II)I"⟩ = true := by decide +kernel
theorem d28_5 : decode jdk_65_method_133_code 5 = .ok (.iload_n 2, 1) := by decide +kernel
theorem d28_6 : decode jdk_65_method_133_code 6 = .ok (.iload_n 1, 1) := by decide +kernel
theorem d28_7 : decode jdk_65_method_133_code 7 = .ok (.isub, 1) := by decide +kernel
theorem d28_8 : decode jdk_65_method_133_code 8 = .ok (.istore_n 3, 1) := by decide +kernel
theorem d28_9 : decode jdk_65_method_133_code 9 = .ok (.iload_n 3, 1) := by decide +kernel
theorem d28_10 : decode jdk_65_method_133_code 10 = .ok (.newarray .byte, 2) := by decide +kernel
theorem d28_12 : decode jdk_65_method_133_code 12 = .ok (.astore 4, 2) := by decide +kernel
theorem d28_14 : decode jdk_65_method_133_code 14 = .ok (.aload_n 0, 1) := by decide +kernel
theorem d28_15 : decode jdk_65_method_133_code 15 = .ok (.iload_n 1, 1) := by decide +kernel
theorem d28_16 : decode jdk_65_method_133_code 16 = .ok (.aload 4, 2) := by decide +kernel
theorem d28_18 : decode jdk_65_method_133_code 18 = .ok (.iconst 0, 1) := by decide +kernel
theorem d28_19 : decode jdk_65_method_133_code 19 = .ok (.aload_n 0, 1) := by decide +kernel
theorem d28_20 : decode jdk_65_method_133_code 20 = .ok (.arraylength, 1) := by decide +kernel
theorem d28_21 : decode jdk_65_method_133_code 21 = .ok (.iload_n 1, 1) := by decide +kernel
theorem d28_22 : decode jdk_65_method_133_code 22 = .ok (.isub, 1) := by decide +kernel
theorem d28_23 : decode jdk_65_method_133_code 23 = .ok (.iload_n 3, 1) := by decide +kernel
theorem d28_24 : decode jdk_65_method_133_code 24 = .ok (.invokestatic 304, 3) := by decide +kernel
theorem d30_0 : decode jdk_29_method_69_code 0 = .ok (.iload_n 0, 1) := by decide +kernel
theorem d30_1 : decode jdk_29_method_69_code 1 = .ok (.iload_n 1, 1) := by decide +kernel
theorem d30_2 : decode jdk_29_method_69_code 2 = .ok (.if_icmp .gt 7, 3) := by decide +kernel
theorem d30_9 : decode jdk_29_method_69_code 9 = .ok (.iload_n 1, 1) := by decide +kernel
theorem d30_10 : decode jdk_29_method_69_code 10 = .ok (.ireturn, 1) := by decide +kernel
def N_jdk_29_m_69 : MethodName := ⟨"java/lang/Math", "min", "(II)I"⟩
def R_rm86 : Room := { frames := 0, cells := 0, slots := 0, locals := 0 }
theorem rm86 (G : Glob Z a0 iCS vSI)  (h0 : Heap) (Z0 : n0 ≤ h0.size) (O0 : Old Z n0 h0)  : MetH l Z EL0 n0 N_jdk_29_m_69 jdk_29_method_69_code 2 (some .int) [] R_rm86 #[.int 16, .int 3] h0 [] (fun vs v h ve => (v = some (.int 3) ∧ (h0 = h))) := by
  refine MetH.of #[.val (.int 16), .val (.int 3)] pf_java_lang_Math_min rfl Z0 (fun p e s m below meth c T0 hret hml hnm hSL hs0 X0 => ?_)
  refine kILn X0 d30_0 rfl ?_
  refine kILn X0 d30_1 rfl ?_
  refine kICt X0 9 d30_2 (XT.ii_gt_t (by decide)) (by decide) ?_
  refine kILn X0 d30_9 rfl ?_
  exact kRETI X0 (gEL G) hret d30_10 (fun ve hve => ⟨rfl, rfl⟩) (by decide)
theorem pd__II_I : parseMethodDescriptor "(II)I" = some ⟨[.int, .int], some .int⟩ := by decide +kernel
theorem d28_27 : decode jdk_65_method_133_code 27 = .ok (.invokestatic 150, 3) := by decide +kernel
theorem d28_30 : decode jdk_65_method_133_code 30 = .ok (.aload 4, 2) := by decide +kernel
theorem d28_32 : decode jdk_65_method_133_code 32 = .ok (.areturn, 1) := by decide +kernel
def N_jdk_65_m_133 : MethodName := ⟨"java/util/Arrays", "copyOfRangeByte", "([BII)[B"⟩
def R_rm84 : Room := { frames := 1, cells := 1, slots := 3, locals := 18 }
theorem rm84 (G : Glob Z a0 iCS vSI) (i0 i1 : Int32) (q0 : Addr) (kp0 : ClassId) (h0 : Heap) (Z0 : n0 ≤ h0.size) (O0 : Old Z n0 h0) (A_q0 : Arv Z h0 q0 kp0 .byte 16 [.int i0, .int 32, .int i1, .int 0, .int 0, .int 0, .int 0, .int 0, .int 0, .int 0, .int 0, .int 0, .int 0, .int 0, .int 0, .int 0] (.int 0)) : MetH l Z EL0 n0 N_jdk_65_m_133 jdk_65_method_133_code 5 (some (.array (.byte))) [] R_rm84 #[.ref q0, .int 0, .int 3] h0 [] (fun vs v h ve => (∃ (x0 : Addr), ∃ (z0 : ClassId), v = some (.ref x0) ∧ (Keep h0 h []) ∧ (h0.size ≤ x0) ∧ (Arv Z h x0 z0 .byte 3 [.int i0, .int 32, .int i1] (.int 0)) ∧ (Safe Z EL0 ve h x0))) := by
  refine MetH.of #[.val (.ref q0), .val (.int 0), .val (.int 3), .unset, .unset] (plainFor_of_name pn_java_util_Arrays) rfl Z0 (fun p e s m below meth c T0 hret hml hnm hSL hs0 X0 => ?_)
  refine kILn X0 d28_0 rfl ?_
  refine kILn X0 d28_1 rfl ?_
  refine kSTAT X0 (gEL G) (argsL := [.int 0, .int 3]) (rest := []) (wd G 153 rfl) (wd G 154 rfl) (wd G 148 rfl) (wd G 155 rfl) (by decide) (rm85 G  h0 X0.n O0 ) all0 (lenOf pd__II_V rfl) rfl 0 rfl (by decide) hml.symm d28_2 (fun v1 T2 h3 vm4 _ w5 q6 C7 C8 X9 => ?_)
  obtain ⟨e11, f12⟩ := q6
  subst e11
  subst f12
  show Go _ _ _ _ _ (mkF _ _ _ [])
  refine kILn X9 d28_5 rfl ?_
  refine kILn X9 d28_6 rfl ?_
  refine kISUB X9 3 d28_7 (by decide) ?_
  refine kISn X9 #[.val (.ref q0), .val (.int 0), .val (.int 3), .val (.int 3), .unset] d28_8 rfl ?_
  refine kILn X9 d28_9 rfl ?_
  refine kNEWP X9 (wd G 19 rfl) (cap := 3) d28_10 (by decide) (by decide) (by decide) (by decide) (by decide) (fun T13 h14 a16 k17 E18 q19 g20 A21 s22 X15 => ?_)
  have n23 : q0 ≠ a16 := Nat.ne_of_lt (Nat.lt_of_lt_of_le (A_q0.lt) (Nat.le_of_eq q19.symm))
  have g24 : h0.size ≤ a16 := q19 ▸ X9.g0
  have f25 : Arv Z h14 a16 k17 .byte 3 [.int 0, .int 0, .int 0] (.int 0) := A21.pad (pad_rep [] _ 3)
  refine kAS X15 #[.val (.ref q0), .val (.int 0), .val (.int 3), .val (.int 3), .val (.ref a16)] d28_12 rfl rfl ?_
  refine kALn X15 d28_14 rfl rfl ?_
  refine kILn X15 d28_15 rfl ?_
  refine kAL X15 d28_16 rfl rfl ?_
  refine kIC X15 0 d28_18 (by decide) ?_
  refine kALn X15 d28_19 rfl rfl ?_
  have f26 := (Arv.ext A_q0 E18)
  refine kLEN X15 f26 d28_20 ?_
  refine kILn X15 d28_21 rfl ?_
  refine kISUB X15 16 d28_22 (by decide) ?_
  refine kILn X15 d28_23 rfl ?_
  have f27 := (Old.ext O0 E18)
  refine kSTAT X15 (gEL G) (argsL := [.int 16, .int 3]) (rest := [.int 0, .ref a16, .int 0, .ref q0]) (wd G 156 rfl) (wd G 157 rfl) (wd G 158 rfl) (wd G 159 rfl) (by decide) (rm86 G  h14 X15.n f27 ) all0 (lenOf pd__II_I rfl) rfl 4 rfl (by decide) hml.symm d28_24 (fun v28 T29 h30 vm31 _ w32 q33 C34 C35 X36 => ?_)
  obtain ⟨e38, f39⟩ := q33
  subst e38
  subst f39
  show Go _ _ _ _ _ (mkF _ _ _ [.int 3, .int 0, .ref a16, .int 0, .ref q0])
  have f40 := (CHr.safe C35 (f25.lt) s22)
  refine kCPA X36 (wd G 160 rfl) (wd G 114 rfl) (wd G 112 rfl) (wd G 113 rfl) f26 f25 (Or.inl ⟨rfl, rfl⟩) (us := [.int i0, .int 32, .int i1]) (by decide) rfl (by show 3 ≤ 3; decide) g20 f40 hml.symm d28_27 (by decide) 0 (Nat.le_of_eq rfl) (by decide) (fun T41 h42 L44 K45 C46 f47 X43 => ?_)
  have f48 : Arv Z h42 a16 k17 .byte 3 [.int i0, .int 32, .int i1] (.int 0) := f47
  refine kAL X43 d28_30 rfl rfl ?_
  have K49 : Keep h0 h42 [] := (Keep.trans (Keep.ext (Keep.refl h0 []) E18) K45 (allS (Or.inr g24) all0))
  have f50 := (CHr.safe C46 (f25.lt) f40)
  exact kRETA X43 (gEL G) hret rfl rfl d28_32 (fun ve hve => ⟨a16, k17, rfl, K49, g24, f48, (CHr.safe hve (f48.lt) f50)⟩) (by decide)
theorem pd___BII__B : parseMethodDescriptor "([BII)[B" = some ⟨[.array (.byte), .int, .int], some (.array (.byte))⟩ := by decide +kernel
theorem d27_16 : decode jdk_65_method_132_code 16 = .ok (.areturn, 1) := by decide +kernel
def N_jdk_65_m_132 : MethodName := ⟨"java/util/Arrays", "copyOfRange", "([BII)[B"⟩
def R_rm83 : Room := { frames := 2, cells := 1, slots := 3, locals := 34 }
theorem rm83 (G : Glob Z a0 iCS vSI) (i0 i1 : Int32) (q0 : Addr) (kp0 : ClassId) (h0 : Heap) (Z0 : n0 ≤ h0.size) (O0 : Old Z n0 h0) (A_q0 : Arv Z h0 q0 kp0 .byte 16 [.int i0, .int 32, .int i1, .int 0, .int 0, .int 0, .int 0, .int 0, .int 0, .int 0, .int 0, .int 0, .int 0, .int 0, .int 0, .int 0] (.int 0)) : MetH l Z EL0 n0 N_jdk_65_m_132 jdk_65_method_132_code 3 (some (.array (.byte))) [] R_rm83 #[.ref q0, .int 0, .int 3] h0 [] (fun vs v h ve => (∃ (x0 : Addr), ∃ (z0 : ClassId), v = some (.ref x0) ∧ (Keep h0 h []) ∧ (h0.size ≤ x0) ∧ (Arv Z h x0 z0 .byte 3 [.int i0, .int 32, .int i1] (.int 0)) ∧ (Safe Z EL0 ve h x0))) := by
  refine MetH.of #[.val (.ref q0), .val (.int 0), .val (.int 3)] (plainFor_of_name pn_java_util_Arrays) rfl Z0 (fun p e s m below meth c T0 hret hml hnm hSL hs0 X0 => ?_)
  refine kILn X0 d27_0 rfl ?_
  refine kIFf X0 d27_1 (XT.i0_ne_f (by decide)) ?_
  refine kILn X0 d27_4 rfl ?_
  refine kALn X0 d27_5 rfl rfl ?_
  refine kLEN X0 A_q0 d27_6 ?_
  refine kICf X0 d27_7 (XT.ii_eq_f (by decide)) ?_
  refine kALn X0 d27_10 rfl rfl ?_
  refine kILn X0 d27_11 rfl ?_
  refine kILn X0 d27_12 rfl ?_
  refine kSTAT X0 (gEL G) (argsL := [.ref q0, .int 0, .int 3]) (rest := []) (wd G 150 rfl) (wd G 151 rfl) (wd G 148 rfl) (wd G 152 rfl) (by decide) (rm84 G i0 i1 q0 kp0 h0 X0.n O0 A_q0) all0 (lenOf pd___BII__B rfl) rfl 0 rfl (by decide) hml.symm d27_13 (fun v1 T2 h3 vm4 _ w5 q6 C7 C8 X9 => ?_)
  obtain ⟨a11, k12, e13, f14, f15, f16, f17⟩ := q6
  subst e13
  have n18 : q0 ≠ a11 := Nat.ne_of_lt (Nat.lt_of_lt_of_le (A_q0.lt) f15)
  have g19 : n0 ≤ a11 := Nat.le_trans X0.n f15
  have g20 : h0.size ≤ a11 := Nat.le_trans X0.g0 f15
  show Go _ _ _ _ _ (mkF _ _ _ [.ref a11])
  have K21 : Keep h0 h3 [] := (Keep.trans (Keep.refl h0 []) f14 all0)
  exact kRETA X9 (gEL G) hret rfl rfl d27_16 (fun ve hve => ⟨a11, k12, rfl, K21, g20, f16, (CHr.safe hve (f16.lt) f17)⟩) (by decide)
theorem d22_35 : decode jdk_42_method_150_code 35 = .ok (.putfield 9, 3) := by decide +kernel
theorem d22_38 : decode jdk_42_method_150_code 38 = .ok (.goto 59, 3) := by decide +kernel
theorem d22_97 : decode jdk_42_method_150_code 97 = .ok (.return_, 1) := by decide +kernel
def N_jdk_42_m_150 : MethodName := ⟨"java/lang/String", "<init>", "(Ljava/lang/AbstractStringBuilder;Ljava/lang/Void;)V"⟩
def R_rm78 : Room := { frames := 3, cells := 1, slots := 3, locals := 49 }
theorem rm78 (G : Glob Z a0 iCS vSI) (i0 i1 : Int32) (q0 q1 q2 : Addr) (kp0 : ClassId) (h0 : Heap) (Z0 : n0 ≤ h0.size) (O0 : Old Z n0 h0) (F_q1_value : Fld Z h0 q1 "java/lang/AbstractStringBuilder" "value" "[B" (.ref q2)) (E_q1 : Exa Z h0 q1 "java/lang/StringBuilder") (F_q1_count : Fld Z h0 q1 "java/lang/AbstractStringBuilder" "count" "I" (.int 3)) (F_q1_coder : Fld Z h0 q1 "java/lang/AbstractStringBuilder" "coder" "B" (.int 0)) (F_q0_coder : Fld Z h0 q0 "java/lang/String" "coder" "B" (.int 0)) (E_q0 : Exa Z h0 q0 "java/lang/String") (F_q0_value : Fld Z h0 q0 "java/lang/String" "value" "[B" (.null)) (A_q2 : Arv Z h0 q2 kp0 .byte 16 [.int i0, .int 32, .int i1, .int 0, .int 0, .int 0, .int 0, .int 0, .int 0, .int 0, .int 0, .int 0, .int 0, .int 0, .int 0, .int 0] (.int 0)) (d_q2_q0 : q2 ≠ q0) (g_q0 : n0 ≤ q0) : MetH l Z EL0 n0 N_jdk_42_m_150 jdk_42_method_150_code 5 none [] R_rm78 #[.ref q0, .ref q1, .null] h0 [q0] (fun vs v h ve => (∃ (x0 : Addr), ∃ (z0 : ClassId), v = none ∧ (Keep h0 h [q0]) ∧ (h0.size ≤ x0) ∧ (Arv Z h x0 z0 .byte 3 [.int i0, .int 32, .int i1] (.int 0)) ∧ (Safe Z EL0 ve h x0) ∧ (Fld Z h q0 "java/lang/String" "coder" "B" (.int 0)) ∧ (Fld Z h q0 "java/lang/String" "value" "[B" (.ref x0)))) := by
  refine MetH.of #[.val (.ref q0), .val (.ref q1), .val .null, .unset, .unset] (plainFor_of_name pn_java_lang_String) rfl Z0 (fun p e s m below meth c T0 hret hml hnm hSL hs0 X0 => ?_)
  have S_q0 := hSL q0 (List.mem_of_getElem? (i := 0) rfl)
  refine kALn X0 d22_0 rfl rfl ?_
  refine kINIT X0 (wd G 15 rfl) (wd G 16 rfl) (wd G 17 rfl) hml.symm d22_1 (by decide) 0 (Nat.le_of_eq rfl) (by decide) (fun T1 X2 => ?_)
  refine kALn X2 d22_4 rfl rfl ?_
  refine kVIRT X2 (gEL G) (argsL := []) (rest := []) (wd G 128 rfl) (wd G 129 rfl) (own_nf X2.hZ (own_noface (wd G 93 rfl) rfl)) (wd G 131 rfl) (wd G 130 rfl) (wd G 69 rfl) (wd G 132 rfl) (by decide) E_q1 (rm79 G i0 i1 q1 q2 kp0 h0 X2.n O0 F_q1_value) all0 (lenOf pd____B rfl) rfl 0 rfl (by decide) hml.symm d22_5 (fun v3 T4 h5 vm6 _ w7 q8 C9 C10 X11 => ?_)
  obtain ⟨e13, f14⟩ := q8
  subst e13
  subst f14
  show Go _ _ _ _ _ (mkF _ _ _ [.ref q2])
  refine kASn X11 #[.val (.ref q0), .val (.ref q1), .val .null, .val (.ref q2), .unset] d22_8 rfl rfl ?_
  refine kALn X11 d22_9 rfl rfl ?_
  refine kVIRT X11 (gEL G) (argsL := []) (rest := []) (wd G 133 rfl) (wd G 134 rfl) (own_nf X11.hZ (own_noface (wd G 93 rfl) rfl)) (wd G 136 rfl) (wd G 137 rfl) (wd G 61 rfl) (wd G 138 rfl) (by decide) E_q1 (rm80 G i0 i1 q1 q2 kp0 h0 X11.n O0 F_q1_count E_q1) all0 (lenOf pd___I rfl) rfl 0 rfl (by decide) hml.symm d22_10 (fun v15 T16 h17 vm18 _ w19 q20 C21 C22 X23 => ?_)
  obtain ⟨e25, f26⟩ := q20
  subst e25
  subst f26
  show Go _ _ _ _ _ (mkF _ _ _ [.int 3])
  refine kIS X23 #[.val (.ref q0), .val (.ref q1), .val .null, .val (.ref q2), .val (.int 3)] d22_13 rfl ?_
  refine kALn X23 d22_15 rfl rfl ?_
  refine kVIRT X23 (gEL G) (argsL := []) (rest := []) (wd G 141 rfl) (wd G 142 rfl) (own_nf X23.hZ (own_noface (wd G 93 rfl) rfl)) (wd G 144 rfl) (wd G 143 rfl) (wd G 69 rfl) (wd G 145 rfl) (by decide) E_q1 (rm82 G i0 i1 q1 q2 kp0 h0 X23.n O0 F_q1_coder) all0 (lenOf pd___Z rfl) rfl 0 rfl (by decide) hml.symm d22_16 (fun v27 T28 h29 vm30 _ w31 q32 C33 C34 X35 => ?_)
  obtain ⟨e37, f38⟩ := q32
  subst e37
  subst f38
  show Go _ _ _ _ _ (mkF _ _ _ [.int 1])
  refine kIFf X35 d22_19 (XT.i0_eq_f (by decide)) ?_
  refine kALn X35 d22_22 rfl rfl ?_
  refine kIC X35 0 d22_23 (by decide) ?_
  have f39 := (CHr.safe C34 (F_q0_value.lt) (CHr.safe C22 (F_q0_value.lt) (CHr.safe C10 (F_q0_value.lt) S_q0)))
  refine kPUTF X35 (wd G 25 rfl) Via.refl F_q0_coder E_q0 (Or.inr ⟨(wd G 21 rfl), rfl, hnm⟩) (wd G 6 rfl) (ty := .byte) (by decide) (by decide) (by decide) g_q0 f39 d22_24 (fun T40 h41 L44 W43 X42 => ?_)
  have f45 := Fld.same W43 F_q0_coder
  refine kALn X42 d22_27 rfl rfl ?_
  refine kALn X42 d22_28 rfl rfl ?_
  refine kIC X42 0 d22_29 (by decide) ?_
  refine kIL X42 d22_30 rfl ?_
  have f46 := (Arv.other A_q2 W43 d_q2_q0)
  have f47 := (Old.wr O0 W43 g_q0)
  refine kSTAT X42 (gEL G) (argsL := [.ref q2, .int 0, .int 3]) (rest := [.ref q0]) (wd G 146 rfl) (wd G 147 rfl) (wd G 148 rfl) (wd G 149 rfl) (by decide) (rm83 G i0 i1 q2 kp0 h41 X42.n f47 f46) all0 (lenOf pd___BII__B rfl) rfl 1 rfl (by decide) hml.symm d22_32 (fun v48 T49 h50 vm51 _ w52 q53 C54 C55 X56 => ?_)
  obtain ⟨a58, k59, e60, f61, f62, f63, f64⟩ := q53
  subst e60
  have n65 : q0 ≠ a58 := Nat.ne_of_lt (Nat.lt_of_lt_of_le (f45.lt) f62)
  have f67 := (Exa.wr W43 E_q1)
  have n66 : q1 ≠ a58 := Nat.ne_of_lt (Nat.lt_of_lt_of_le (f67.lt) f62)
  have n68 : q2 ≠ a58 := Nat.ne_of_lt (Nat.lt_of_lt_of_le (f46.lt) f62)
  have g69 : n0 ≤ a58 := Nat.le_trans X42.n f62
  have g70 : h0.size ≤ a58 := Nat.le_trans X42.g0 f62
  show Go _ _ _ _ _ (mkF _ _ _ [.ref a58, .ref q0])
  have f71 := (Fld.keep (Fld.other W43 F_q0_value (Or.inr (slot_ne (Or.inr (wd G 20 rfl)) (Or.inr (wd G 21 rfl)) (by decide) (by decide : parseFieldDescriptor "[B" = some (.array (.byte))) (by decide : parseFieldDescriptor "B" = some .byte)))) f61 nin0)
  have f72 := (Exa.keep (Exa.wr W43 E_q0) f61)
  have f73 := (CHr.safe C55 (f45.lt) (Safe.wr W43 f39 X35.C.1 f39))
  refine kPUTF X56 (wd G 24 rfl) Via.refl f71 f72 (Or.inr ⟨(wd G 20 rfl), rfl, hnm⟩) (wd G 6 rfl) (ty := (.array (.byte))) (by decide) rfl rfl g_q0 f73 d22_35 (fun T74 h75 L78 W77 X76 => ?_)
  have f79 := Fld.same W77 f71
  refine kGOTO X76 97 d22_38 (by decide) ?_
  have K80 : Keep h0 h75 [q0] := (Keep.wr (Keep.trans (Keep.wr (Keep.refl h0 [q0]) W43 (Or.inl (List.mem_of_getElem? (i := 0) rfl))) f61 all0) W77 (Or.inl (List.mem_of_getElem? (i := 0) rfl)))
  have f81 := (Arv.other f63 W77 (Ne.symm n65))
  have f82 := (Safe.wr W77 f73 X56.C.1 f64)
  have f83 := (Fld.other W77 (Fld.keep f45 f61 nin0) (Or.inr (slot_ne (Or.inr (wd G 21 rfl)) (Or.inr (wd G 20 rfl)) (by decide) (by decide : parseFieldDescriptor "B" = some .byte) (by decide : parseFieldDescriptor "[B" = some (.array (.byte))))))
  exact kRETV X76 (gEL G) hret d22_97 (fun ve hve => ⟨a58, k59, rfl, K80, g70, f81, (CHr.safe hve (f81.lt) f82), f83, f79⟩) (by decide)
theorem pd__Ljava_lang_AbstractStringBuilder_Ljava_lang_Void__V : parseMethodDescriptor "(Ljava/lang/AbstractStringBuilder;Ljava/lang/Void;)V" = some ⟨[.object "java/lang/AbstractStringBuilder", .object "java/lang/Void"], none⟩ := by decide +kernel
theorem d21_6 : decode jdk_42_method_53_code 6 = .ok (.return_, 1) := by decide +kernel
def N_jdk_42_m_53 : MethodName := ⟨"java/lang/String", "<init>", "(Ljava/lang/StringBuilder;)V"⟩
def R_rm77 : Room := { frames := 4, cells := 1, slots := 3, locals := 65 }
theorem rm77 (G : Glob Z a0 iCS vSI) (i0 i1 : Int32) (q0 q1 q2 : Addr) (kp0 : ClassId) (h0 : Heap) (Z0 : n0 ≤ h0.size) (O0 : Old Z n0 h0) (F_q1_value : Fld Z h0 q1 "java/lang/AbstractStringBuilder" "value" "[B" (.ref q2)) (E_q1 : Exa Z h0 q1 "java/lang/StringBuilder") (F_q1_count : Fld Z h0 q1 "java/lang/AbstractStringBuilder" "count" "I" (.int 3)) (F_q1_coder : Fld Z h0 q1 "java/lang/AbstractStringBuilder" "coder" "B" (.int 0)) (F_q0_coder : Fld Z h0 q0 "java/lang/String" "coder" "B" (.int 0)) (E_q0 : Exa Z h0 q0 "java/lang/String") (F_q0_value : Fld Z h0 q0 "java/lang/String" "value" "[B" (.null)) (A_q2 : Arv Z h0 q2 kp0 .byte 16 [.int i0, .int 32, .int i1, .int 0, .int 0, .int 0, .int 0, .int 0, .int 0, .int 0, .int 0, .int 0, .int 0, .int 0, .int 0, .int 0] (.int 0)) (d_q2_q0 : q2 ≠ q0) (g_q0 : n0 ≤ q0) : MetH l Z EL0 n0 N_jdk_42_m_53 jdk_42_method_53_code 2 none [] R_rm77 #[.ref q0, .ref q1] h0 [q0] (fun vs v h ve => (∃ (x0 : Addr), ∃ (z0 : ClassId), v = none ∧ (Keep h0 h [q0]) ∧ (h0.size ≤ x0) ∧ (Arv Z h x0 z0 .byte 3 [.int i0, .int 32, .int i1] (.int 0)) ∧ (Safe Z EL0 ve h x0) ∧ (Fld Z h q0 "java/lang/String" "coder" "B" (.int 0)) ∧ (Fld Z h q0 "java/lang/String" "value" "[B" (.ref x0)))) := by
  refine MetH.of #[.val (.ref q0), .val (.ref q1)] (plainFor_of_name pn_java_lang_String) rfl Z0 (fun p e s m below meth c T0 hret hml hnm hSL hs0 X0 => ?_)
  have S_q0 := hSL q0 (List.mem_of_getElem? (i := 0) rfl)
  refine kALn X0 d21_0 rfl rfl ?_
  refine kALn X0 d21_1 rfl rfl ?_
  refine kNULL X0 d21_2 ?_
  refine kSPEC X0 (gEL G) (argsL := [.ref q1, .null]) (rest := []) (wd G 125 rfl) (wd G 126 rfl) (wd G 7 rfl) (wd G 127 rfl) rfl (by decide) (rm78 G i0 i1 q0 q1 q2 kp0 h0 X0.n O0 F_q1_value E_q1 F_q1_count F_q1_coder F_q0_coder E_q0 F_q0_value A_q2 d_q2_q0 g_q0) (allS ⟨(E_q0.lt), S_q0⟩ all0) (lenOf pd__Ljava_lang_AbstractStringBuilder_Ljava_lang_Void__V rfl) rfl 0 rfl (by decide) hml.symm d21_3 (fun v1 T2 h3 vm4 _ w5 q6 C7 C8 X9 => ?_)
  obtain ⟨a11, k12, e13, f14, f15, f16, f17, f18, f19⟩ := q6
  subst e13
  have n20 : q0 ≠ a11 := Nat.ne_of_lt (Nat.lt_of_lt_of_le (E_q0.lt) f15)
  have n21 : q1 ≠ a11 := Nat.ne_of_lt (Nat.lt_of_lt_of_le (E_q1.lt) f15)
  have n22 : q2 ≠ a11 := Nat.ne_of_lt (Nat.lt_of_lt_of_le (A_q2.lt) f15)
  have g23 : n0 ≤ a11 := Nat.le_trans X0.n f15
  have g24 : h0.size ≤ a11 := Nat.le_trans X0.g0 f15
  show Go _ _ _ _ _ (mkF _ _ _ [])
  have K25 : Keep h0 h3 [q0] := (Keep.trans (Keep.refl h0 [q0]) f14 (allS (Or.inl (List.mem_of_getElem? (i := 0) rfl)) all0))
  exact kRETV X9 (gEL G) hret d21_6 (fun ve hve => ⟨a11, k12, rfl, K25, g24, f16, (CHr.safe hve (f16.lt) f17), f18, f19⟩) (by decide)
theorem pd__Ljava_lang_StringBuilder__V : parseMethodDescriptor "(Ljava/lang/StringBuilder;)V" = some ⟨[.object "java/lang/StringBuilder"], none⟩ := by decide +kernel
theorem d20_8 : decode jdk_67_method_42_code 8 = .ok (.areturn, 1) := by decide +kernel
def N_jdk_67_m_42 : MethodName := ⟨"java/lang/StringBuilder", "toString", "()Ljava/lang/String;"⟩
def R_rm76 : Room := { frames := 5, cells := 2, slots := 7, locals := 79 }
theorem rm76 (G : Glob Z a0 iCS vSI) (i0 i1 : Int32) (q0 q1 : Addr) (kp0 : ClassId) (h0 : Heap) (Z0 : n0 ≤ h0.size) (O0 : Old Z n0 h0) (E_q0 : Exa Z h0 q0 "java/lang/StringBuilder") (A_q1 : Arv Z h0 q1 kp0 .byte 16 [.int i0, .int 32, .int i1, .int 0, .int 0, .int 0, .int 0, .int 0, .int 0, .int 0, .int 0, .int 0, .int 0, .int 0, .int 0, .int 0] (.int 0)) (F_q0_value : Fld Z h0 q0 "java/lang/AbstractStringBuilder" "value" "[B" (.ref q1)) (F_q0_count : Fld Z h0 q0 "java/lang/AbstractStringBuilder" "count" "I" (.int 3)) (F_q0_coder : Fld Z h0 q0 "java/lang/AbstractStringBuilder" "coder" "B" (.int 0)) : MetH l Z EL0 n0 N_jdk_67_m_42 jdk_67_method_42_code 1 (some (.object "java/lang/String")) [] R_rm76 #[.ref q0] h0 [] (fun vs v h ve => (∃ (x0 : Addr), ∃ (x1 : Addr), ∃ (z0 : ClassId), v = some (.ref x0) ∧ (Keep h0 h []) ∧ (h0.size ≤ x0) ∧ (h0.size ≤ x1) ∧ (x0 ≠ x1) ∧ (Exa Z h x0 "java/lang/String") ∧ (Fld Z h x0 "java/lang/String" "coder" "B" (.int 0)) ∧ (Fld Z h x0 "java/lang/String" "value" "[B" (.ref x1)) ∧ (Safe Z EL0 ve h x0) ∧ (Arv Z h x1 z0 .byte 3 [.int i0, .int 32, .int i1] (.int 0)) ∧ (Safe Z EL0 ve h x1))) := by
  refine MetH.of #[.val (.ref q0)] (plainFor_of_name pn_java_lang_StringBuilder) rfl Z0 (fun p e s m below meth c T0 hret hml hnm hSL hs0 X0 => ?_)
  refine kNEW X0 (wd G 121 rfl) (wd G 6 rfl) (wd G 7 rfl) d20_0 (by decide) (by decide) (fun T1 h2 a4 E5 q6 g7 A8 D9 s10 X3 => ?_)
  have n11 : q0 ≠ a4 := Nat.ne_of_lt (Nat.lt_of_lt_of_le (E_q0.lt) (Nat.le_of_eq q6.symm))
  have n12 : q1 ≠ a4 := Nat.ne_of_lt (Nat.lt_of_lt_of_le (A_q1.lt) (Nat.le_of_eq q6.symm))
  have g13 : h0.size ≤ a4 := q6 ▸ X0.g0
  have f14 : Fld Z h2 a4 "java/lang/String" "value" "[B" (.null) := D9 (Or.inr (wd G 20 rfl)) (ty := (.array (.byte))) (by decide)
  have f15 : Fld Z h2 a4 "java/lang/String" "coder" "B" (.int 0) := D9 (Or.inr (wd G 21 rfl)) (ty := .byte) (by decide)
  refine kDUP X3 d20_3 rfl ?_
  refine kALn X3 d20_4 rfl rfl ?_
  have f16 := (Fld.ext E5 F_q0_value)
  have f17 := (Exa.ext E5 E_q0)
  have f18 := (Fld.ext E5 F_q0_count)
  have f19 := (Fld.ext E5 F_q0_coder)
  have f20 := (Arv.ext A_q1 E5)
  have f21 := (Old.ext O0 E5)
  refine kSPEC X3 (gEL G) (argsL := [.ref q0]) (rest := [.ref a4]) (wd G 122 rfl) (wd G 123 rfl) (wd G 7 rfl) (wd G 124 rfl) rfl (by decide) (rm77 G i0 i1 a4 q0 q1 kp0 h2 X3.n f21 f16 f17 f18 f19 f15 A8 f14 f20 n12 g7) (allS ⟨(A8.lt), s10⟩ all0) (lenOf pd__Ljava_lang_StringBuilder__V rfl) rfl 1 rfl (by decide) hml.symm d20_5 (fun v22 T23 h24 vm25 _ w26 q27 C28 C29 X30 => ?_)
  obtain ⟨a32, k33, e34, f35, f36, f37, f38, f39, f40⟩ := q27
  subst e34
  have n41 : q0 ≠ a32 := Nat.ne_of_lt (Nat.lt_of_lt_of_le (f17.lt) f36)
  have n42 : q1 ≠ a32 := Nat.ne_of_lt (Nat.lt_of_lt_of_le (f20.lt) f36)
  have n43 : a4 ≠ a32 := Nat.ne_of_lt (Nat.lt_of_lt_of_le (A8.lt) f36)
  have g44 : n0 ≤ a32 := Nat.le_trans X3.n f36
  have g45 : h0.size ≤ a32 := Nat.le_trans X3.g0 f36
  show Go _ _ _ _ _ (mkF _ _ _ [.ref a4])
  have K46 : Keep h0 h24 [] := (Keep.trans (Keep.ext (Keep.refl h0 []) E5) f35 (allS (Or.inr g13) all0))
  have f47 := (Exa.keep A8 f35)
  have f48 := (CHr.safe C29 (f15.lt) s10)
  exact kRETA X30 (gEL G) hret rfl rfl d20_8 (fun ve hve => ⟨a4, a32, k33, rfl, K46, g13, g45, n43, f47, f39, f40, (CHr.safe hve (f47.lt) f48), f37, (CHr.safe hve (f37.lt) f38)⟩) (by decide)
theorem pd___Ljava_lang_String_ : parseMethodDescriptor "()Ljava/lang/String;" = some ⟨[], some (.object "java/lang/String")⟩ := by decide +kernel
theorem d4_47 : decode prog_30_method_3_code 47 = .ok (.astore_n 2, 1) := by decide +kernel
def R_rm53 : Room := { frames := 6, cells := 6, slots := 35, locals := 91 }
theorem rm53 (G : Glob Z a0 iCS vSI) (i0 i1 : Int32) (q0 q1 q2 q3 : Addr) (kp0 kp1 : ClassId) (h0 : Heap) (Z0 : n0 ≤ h0.size) (O0 : Old Z n0 h0) (F_q0_value : Fld Z h0 q0 "java/lang/String" "value" "[B" (.ref q2)) (A_q2 : Arv Z h0 q2 kp0 .byte 1 [.int i0] (.int 0)) (E_q0 : Exa Z h0 q0 "java/lang/String") (F_q1_value : Fld Z h0 q1 "java/lang/String" "value" "[B" (.ref q3)) (A_q3 : Arv Z h0 q3 kp1 .byte 1 [.int i1] (.int 0)) (E_q1 : Exa Z h0 q1 "java/lang/String") (F_q0_coder : Fld Z h0 q0 "java/lang/String" "coder" "B" (.int 0)) (F_q1_coder : Fld Z h0 q1 "java/lang/String" "coder" "B" (.int 0)) : MetH l Z EL0 n0 N_prog_30_m_3 prog_30_method_3_code 3 (some (.object "java/lang/String")) [] R_rm53 #[.ref q0, .ref q1] h0 [q0, q1, q2, q3] (fun vs v h ve => (∃ (x0 : Addr), ∃ (x1 : Addr), ∃ (z0 : ClassId), v = some (.ref x0) ∧ (Keep h0 h []) ∧ (h0.size ≤ x0) ∧ (h0.size ≤ x1) ∧ (x0 ≠ x1) ∧ (Exa Z h x0 "java/lang/String") ∧ (Fld Z h x0 "java/lang/String" "coder" "B" (.int 0)) ∧ (Fld Z h x0 "java/lang/String" "value" "[B" (.ref x1)) ∧ (Safe Z EL0 ve h x0) ∧ (Arv Z h x1 z0 .byte 3 [.int i0, .int 32, .int i1] (.int 0)) ∧ (Safe Z EL0 ve h x1))) := by
  refine MetH.of #[.val (.ref q0), .val (.ref q1), .unset] (plainFor_of_name pn_com_example_tight_calculus_tightcalculus_Report) rfl Z0 (fun p e s m below meth c T0 hret hml hnm hSL hs0 X0 => ?_)
  have S_q0 := hSL q0 (List.mem_of_getElem? (i := 0) rfl)
  have S_q1 := hSL q1 (List.mem_of_getElem? (i := 1) rfl)
  have S_q2 := hSL q2 (List.mem_of_getElem? (i := 2) rfl)
  have S_q3 := hSL q3 (List.mem_of_getElem? (i := 3) rfl)
  refine kALn X0 d4_0 rfl rfl ?_
  refine kVIRT X0 (gEL G) (argsL := []) (rest := []) (wd G 30 rfl) (wd G 31 rfl) (own_nf X0.hZ (own_noinst (wd G 6 rfl))) (wd G 33 rfl) (wd G 32 rfl) (wd G 7 rfl) (wd G 34 rfl) (by decide) E_q0 (rm46 G i0 q0 q2 kp0 h0 X0.n O0 F_q0_value A_q2) all0 (lenOf pd___Z rfl) rfl 0 rfl (by decide) hml.symm d4_1 (fun v1 T2 h3 vm4 _ w5 q6 C7 C8 X9 => ?_)
  obtain ⟨e11, f12⟩ := q6
  subst e11
  subst f12
  show Go _ _ _ _ _ (mkF _ _ _ [.int 0])
  refine kIFt X9 12 d4_4 (XT.i0_eq_t (by decide)) (by decide) ?_
  refine kALn X9 d4_12 rfl rfl ?_
  refine kVIRT X9 (gEL G) (argsL := []) (rest := []) (wd G 30 rfl) (wd G 31 rfl) (own_nf X9.hZ (own_noinst (wd G 6 rfl))) (wd G 33 rfl) (wd G 32 rfl) (wd G 7 rfl) (wd G 34 rfl) (by decide) E_q1 (rm46 G i1 q1 q3 kp1 h0 X9.n O0 F_q1_value A_q3) all0 (lenOf pd___Z rfl) rfl 0 rfl (by decide) hml.symm d4_13 (fun v13 T14 h15 vm16 _ w17 q18 C19 C20 X21 => ?_)
  obtain ⟨e23, f24⟩ := q18
  subst e23
  subst f24
  show Go _ _ _ _ _ (mkF _ _ _ [.int 0])
  refine kIFt X21 24 d4_16 (XT.i0_eq_t (by decide)) (by decide) ?_
  refine kNEW X21 (wd G 59 rfl) (wd G 60 rfl) (wd G 61 rfl) d4_24 (by decide) (by decide) (fun T25 h26 a28 E29 q30 g31 A32 D33 s34 X27 => ?_)
  have n35 : q0 ≠ a28 := Nat.ne_of_lt (Nat.lt_of_lt_of_le (E_q0.lt) (Nat.le_of_eq q30.symm))
  have n36 : q1 ≠ a28 := Nat.ne_of_lt (Nat.lt_of_lt_of_le (E_q1.lt) (Nat.le_of_eq q30.symm))
  have n37 : q2 ≠ a28 := Nat.ne_of_lt (Nat.lt_of_lt_of_le (A_q2.lt) (Nat.le_of_eq q30.symm))
  have n38 : q3 ≠ a28 := Nat.ne_of_lt (Nat.lt_of_lt_of_le (A_q3.lt) (Nat.le_of_eq q30.symm))
  have g39 : h0.size ≤ a28 := q30 ▸ X21.g0
  have f40 : Fld Z h26 a28 "java/lang/AbstractStringBuilder" "value" "[B" (.null) := D33 (Or.inl (wd G 74 rfl)) (ty := (.array (.byte))) (by decide)
  have f41 : Fld Z h26 a28 "java/lang/AbstractStringBuilder" "coder" "B" (.int 0) := D33 (Or.inl (wd G 76 rfl)) (ty := .byte) (by decide)
  have f42 : Fld Z h26 a28 "java/lang/AbstractStringBuilder" "count" "I" (.int 0) := D33 (Or.inl (wd G 89 rfl)) (ty := .int) (by decide)
  refine kDUP X27 d4_27 rfl ?_
  have f43 := (Old.ext O0 E29)
  refine kSPEC X27 (gEL G) (argsL := []) (rest := [.ref a28]) (wd G 62 rfl) (wd G 63 rfl) (wd G 61 rfl) (wd G 64 rfl) rfl (by decide) (rm54 G a28 h26 X27.n f43 A32 f40 f41 f42 g31) all0 (lenOf pd___V rfl) rfl 1 rfl (by decide) hml.symm d4_28 (fun v44 T45 h46 vm47 _ w48 q49 C50 C51 X52 => ?_)
  obtain ⟨a54, k55, e56, f57, f58, f59, f60, f61, f62, f63⟩ := q49
  subst e56
  have f65 := (Exa.ext E29 E_q0)
  have n64 : q0 ≠ a54 := Nat.ne_of_lt (Nat.lt_of_lt_of_le (f65.lt) f58)
  have f67 := (Exa.ext E29 E_q1)
  have n66 : q1 ≠ a54 := Nat.ne_of_lt (Nat.lt_of_lt_of_le (f67.lt) f58)
  have f69 := (Arv.ext A_q2 E29)
  have n68 : q2 ≠ a54 := Nat.ne_of_lt (Nat.lt_of_lt_of_le (f69.lt) f58)
  have f71 := (Arv.ext A_q3 E29)
  have n70 : q3 ≠ a54 := Nat.ne_of_lt (Nat.lt_of_lt_of_le (f71.lt) f58)
  have n72 : a28 ≠ a54 := Nat.ne_of_lt (Nat.lt_of_lt_of_le (A32.lt) f58)
  have g73 : n0 ≤ a54 := Nat.le_trans X27.n f58
  have g74 : h0.size ≤ a54 := Nat.le_trans X27.g0 f58
  show Go _ _ _ _ _ (mkF _ _ _ [.ref a28])
  refine kALn X52 d4_31 rfl rfl ?_
  have f75 := (Fld.keep (Fld.ext E29 F_q0_value) f57 (ninS n35 nin0))
  have f76 := (Arv.keep f69 f57 (ninS n37 nin0))
  have f77 := (Fld.keep (Fld.ext E29 F_q0_coder) f57 (ninS n35 nin0))
  have f78 := (Exa.keep f65 f57)
  have f79 := (Exa.keep A32 f57)
  have f80 := (Old.keep f43 f57 (allS g31 all0))
  refine kVIRT X52 (gEL G) (argsL := [.ref q0]) (rest := []) (wd G 77 rfl) (wd G 78 rfl) (own_nf X52.hZ (own_noinst (wd G 60 rfl))) (wd G 80 rfl) (wd G 79 rfl) (wd G 61 rfl) (wd G 81 rfl) (by decide) f79 (rm56 G i0 a28 q0 a54 q2 k55 kp0 h46 X52.n f80 f75 f76 f77 f78 f62 f63 f59 f61 f79 n72 g31 g73) (allS ⟨(f59.lt), f60⟩ all0) (lenOf pd__Ljava_lang_String__Ljava_lang_StringBuilder_ rfl) rfl 0 rfl (by decide) hml.symm d4_32 (fun v81 T82 h83 vm84 _ w85 q86 C87 C88 X89 => ?_)
  obtain ⟨e91, f92, f93, f94, f95, f96⟩ := q86
  subst e91
  show Go _ _ _ _ _ (mkF _ _ _ [.ref a28])
  refine kLDCT X89 (gEL G) (wd G 115 rfl) (gSA G) (by decide) (text := " ") (vs := [.int 32]) (z := 1) (by decide) (by decide) (by decide) d4_35 (n := 4) (by decide) (by decide) (by decide) (by decide) (fun T97 h98 vm100 a101 b102 k103 E104 C105 f106 f107 f108 f109 n110 X99 => ?_)
  have f111 := (CHr.safe C105 ((Exa.keep f78 f92)).lt (CHr.safe C88 (f78.lt) (CHr.safe C51 (f65.lt) (Safe.ext E29 X21.C.1 (CHr.safe C20 (E_q0.lt) (CHr.safe C8 (E_q0.lt) S_q0))))))
  have n112 := (n110 q0 f111).1
  have n113 := (n110 q0 f111).2
  have f114 := (CHr.safe C105 ((Exa.keep (Exa.keep f67 f57) f92)).lt (CHr.safe C88 ((Exa.keep f67 f57)).lt (CHr.safe C51 (f67.lt) (Safe.ext E29 X21.C.1 (CHr.safe C20 (F_q1_value.lt) (CHr.safe C8 (F_q1_coder.lt) S_q1))))))
  have n115 := (n110 q1 f114).1
  have n116 := (n110 q1 f114).2
  have f117 := (CHr.safe C105 ((Arv.keep f76 f92 (ninS n68 (ninS n37 nin0)))).lt (CHr.safe C88 (f76.lt) (CHr.safe C51 (f69.lt) (Safe.ext E29 X21.C.1 (CHr.safe C20 (A_q2.lt) (CHr.safe C8 (A_q2.lt) S_q2))))))
  have n118 := (n110 q2 f117).1
  have n119 := (n110 q2 f117).2
  have f120 := (CHr.safe C105 ((Arv.keep (Arv.keep f71 f57 (ninS n38 nin0)) f92 (ninS n70 (ninS n38 nin0)))).lt (CHr.safe C88 ((Arv.keep f71 f57 (ninS n38 nin0))).lt (CHr.safe C51 (f71.lt) (Safe.ext E29 X21.C.1 (CHr.safe C20 (A_q3.lt) (CHr.safe C8 (A_q3.lt) S_q3))))))
  have n121 := (n110 q3 f120).1
  have n122 := (n110 q3 f120).2
  have f123 := (Exa.ext E104 (Exa.keep f79 f92))
  have n124 := (n110 a28 (Safe.exa X99.hZ.alike f123 (by decide) (by decide))).1
  have n125 := (n110 a28 (Safe.exa X99.hZ.alike f123 (by decide) (by decide))).2
  have f126 := (CHr.safe C105 (f93.lt) (CHr.safe C88 (f59.lt) f60))
  have n127 := (n110 a54 f126).1
  have n128 := (n110 a54 f126).2
  have n129 : ∀ x, x < h0.size → Safe Z EL0 s.vm h0 x → x ≠ b102 := fun x hx S => (n110 x (CHr.safe (hs0 ▸ X99.C) hx S)).2
  have f130 := (Fld.ext E104 f95)
  have f131 := (Fld.ext E104 f96)
  have f132 := (Arv.ext f93 E104)
  have f133 := (Fld.ext E104 f94)
  have f134 := (Old.ext (Old.keep f80 f92 (allS g73 (allS g31 all0))) E104)
  refine kVIRT X99 (gEL G) (argsL := [.ref a101]) (rest := []) (wd G 77 rfl) (wd G 78 rfl) (own_nf X99.hZ (own_noinst (wd G 60 rfl))) (wd G 80 rfl) (wd G 79 rfl) (wd G 61 rfl) (wd G 81 rfl) (by decide) f123 (rm62 G i0 a28 a101 a54 b102 k55 k103 h98 X99.n f134 f108 f109 f107 f106 f130 f131 f132 f133 f123 n72 g31 g73) (allS ⟨(f132.lt), f126⟩ all0) (lenOf pd__Ljava_lang_String__Ljava_lang_StringBuilder_ rfl) rfl 0 rfl (by decide) hml.symm d4_37 (fun v135 T136 h137 vm138 _ w139 q140 C141 C142 X143 => ?_)
  obtain ⟨e145, f146, f147, f148, f149, f150⟩ := q140
  subst e145
  show Go _ _ _ _ _ (mkF _ _ _ [.ref a28])
  refine kALn X143 d4_40 rfl rfl ?_
  have f151 := (Fld.keep (Fld.ext E104 (Fld.keep (Fld.keep (Fld.ext E29 F_q1_value) f57 (ninS n36 nin0)) f92 (ninS n66 (ninS n36 nin0)))) f146 (ninS n66 (ninS n36 nin0)))
  have f152 := (Arv.keep (Arv.ext (Arv.keep (Arv.keep f71 f57 (ninS n38 nin0)) f92 (ninS n70 (ninS n38 nin0))) E104) f146 (ninS n70 (ninS n38 nin0)))
  have f153 := (Fld.keep (Fld.ext E104 (Fld.keep (Fld.keep (Fld.ext E29 F_q1_coder) f57 (ninS n36 nin0)) f92 (ninS n66 (ninS n36 nin0)))) f146 (ninS n66 (ninS n36 nin0)))
  have f154 := (Exa.keep (Exa.ext E104 (Exa.keep (Exa.keep f67 f57) f92)) f146)
  have f155 := (Exa.keep f123 f146)
  have f156 := (Old.keep f134 f146 (allS g73 (allS g31 all0)))
  have f166 := (CHr.safe C142 (f132.lt) f126)
  refine kVIRT X143 (gEL G) (argsL := [.ref q1]) (rest := []) (wd G 77 rfl) (wd G 78 rfl) (own_nf X143.hZ (own_noinst (wd G 60 rfl))) (wd G 80 rfl) (wd G 79 rfl) (wd G 61 rfl) (wd G 81 rfl) (by decide) f155 (rm70 G i0 i1 a28 q1 a54 q3 k55 kp1 h137 X143.n f156 f151 f152 f153 f154 f149 f150 f147 f148 f155 n72 g31 g73) (allS ⟨(f147.lt), f166⟩ all0) (lenOf pd__Ljava_lang_String__Ljava_lang_StringBuilder_ rfl) rfl 0 rfl (by decide) hml.symm d4_41 (fun v157 T158 h159 vm160 _ w161 q162 C163 C164 X165 => ?_)
  obtain ⟨e168, f169, f170, f171, f172, f173⟩ := q162
  subst e168
  show Go _ _ _ _ _ (mkF _ _ _ [.ref a28])
  have f174 := (Exa.keep f155 f169)
  have f175 := (Old.keep f156 f169 (allS g73 (allS g31 all0)))
  refine kVIRT X165 (gEL G) (argsL := []) (rest := []) (wd G 116 rfl) (wd G 117 rfl) (own_nf X165.hZ (own_noinst (wd G 60 rfl))) (wd G 119 rfl) (wd G 118 rfl) (wd G 61 rfl) (wd G 120 rfl) (by decide) f174 (rm76 G i0 i1 a28 a54 k55 h159 X165.n f175 f174 f170 f173 f172 f171) all0 (lenOf pd___Ljava_lang_String_ rfl) rfl 0 rfl (by decide) hml.symm d4_44 (fun v176 T177 h178 vm179 _ w180 q181 C182 C183 X184 => ?_)
  obtain ⟨a186, a187, k188, e189, f190, f191, f192, f193, f194, f195, f196, f197, f198, f199⟩ := q181
  subst e189
  have f201 := (Exa.keep (Exa.keep (Exa.ext E104 (Exa.keep f78 f92)) f146) f169)
  have n200 : q0 ≠ a186 := Nat.ne_of_lt (Nat.lt_of_lt_of_le (f201.lt) f191)
  have f203 := (Exa.keep f154 f169)
  have n202 : q1 ≠ a186 := Nat.ne_of_lt (Nat.lt_of_lt_of_le (f203.lt) f191)
  have f205 := (Arv.keep (Arv.keep (Arv.ext (Arv.keep f76 f92 (ninS n68 (ninS n37 nin0))) E104) f146 (ninS n68 (ninS n37 nin0))) f169 (ninS n68 (ninS n37 nin0)))
  have n204 : q2 ≠ a186 := Nat.ne_of_lt (Nat.lt_of_lt_of_le (f205.lt) f191)
  have f207 := (Arv.keep f152 f169 (ninS n70 (ninS n38 nin0)))
  have n206 : q3 ≠ a186 := Nat.ne_of_lt (Nat.lt_of_lt_of_le (f207.lt) f191)
  have n208 : a28 ≠ a186 := Nat.ne_of_lt (Nat.lt_of_lt_of_le (f174.lt) f191)
  have n209 : a54 ≠ a186 := Nat.ne_of_lt (Nat.lt_of_lt_of_le (f170.lt) f191)
  have f211 := (Exa.keep (Exa.keep f106 f146) f169)
  have n210 : a101 ≠ a186 := Nat.ne_of_lt (Nat.lt_of_lt_of_le (f211.lt) f191)
  have f213 := (Arv.keep (Arv.keep f109 f146 (ninS (Ne.symm n128) (ninS (Ne.symm n125) nin0))) f169 (ninS (Ne.symm n128) (ninS (Ne.symm n125) nin0)))
  have n212 : b102 ≠ a186 := Nat.ne_of_lt (Nat.lt_of_lt_of_le (f213.lt) f191)
  have n214 : q0 ≠ a187 := Nat.ne_of_lt (Nat.lt_of_lt_of_le (f201.lt) f192)
  have n215 : q1 ≠ a187 := Nat.ne_of_lt (Nat.lt_of_lt_of_le (f203.lt) f192)
  have n216 : q2 ≠ a187 := Nat.ne_of_lt (Nat.lt_of_lt_of_le (f205.lt) f192)
  have n217 : q3 ≠ a187 := Nat.ne_of_lt (Nat.lt_of_lt_of_le (f207.lt) f192)
  have n218 : a28 ≠ a187 := Nat.ne_of_lt (Nat.lt_of_lt_of_le (f174.lt) f192)
  have n219 : a54 ≠ a187 := Nat.ne_of_lt (Nat.lt_of_lt_of_le (f170.lt) f192)
  have n220 : a101 ≠ a187 := Nat.ne_of_lt (Nat.lt_of_lt_of_le (f211.lt) f192)
  have n221 : b102 ≠ a187 := Nat.ne_of_lt (Nat.lt_of_lt_of_le (f213.lt) f192)
  have g222 : n0 ≤ a186 := Nat.le_trans X165.n f191
  have g223 : h0.size ≤ a186 := Nat.le_trans X165.g0 f191
  have g224 : n0 ≤ a187 := Nat.le_trans X165.n f192
  have g225 : h0.size ≤ a187 := Nat.le_trans X165.g0 f192
  show Go _ _ _ _ _ (mkF _ _ _ [.ref a186])
  refine kASn X184 #[.val (.ref q0), .val (.ref q1), .val (.ref a186)] d4_47 rfl rfl ?_
  refine kALn X184 d4_48 rfl rfl ?_
  have K226 : Keep h0 h178 [] := (Keep.trans (Keep.trans (Keep.trans (Keep.ext (Keep.trans (Keep.trans (Keep.ext (Keep.refl h0 []) E29) f57 (allS (Or.inr g39) all0)) f92 (allS (Or.inr g74) (allS (Or.inr g39) all0))) E104) f146 (allS (Or.inr g74) (allS (Or.inr g39) all0))) f169 (allS (Or.inr g74) (allS (Or.inr g39) all0))) f190 all0)
  exact kRETA X184 (gEL G) hret rfl rfl d4_49 (fun ve hve => ⟨a186, a187, k188, rfl, K226, g223, g225, f193, f194, f195, f196, (CHr.safe hve (f194.lt) f197), f198, (CHr.safe hve (f198.lt) f199)⟩) (by decide)
def R_rm88 : Room := { frames := 0, cells := 0, slots := 0, locals := 0 }
theorem rm88 (G : Glob Z a0 iCS vSI) (i0 i1 : Int32) (q0 q1 : Addr) (kp0 : ClassId) (h0 : Heap) (Z0 : n0 ≤ h0.size) (O0 : Old Z n0 h0) (F_q0_coder : Fld Z h0 q0 "java/lang/String" "coder" "B" (.int 0)) : MetH l Z EL0 n0 N_jdk_42_m_152 jdk_42_method_152_code 1 (some .byte) [] R_rm88 #[.ref q0] h0 [] (fun vs v h ve => (v = some (.int 0) ∧ (h0 = h))) := by
  refine MetH.of #[.val (.ref q0)] (plainFor_of_name pn_java_lang_String) rfl Z0 (fun p e s m below meth c T0 hret hml hnm hSL hs0 X0 => ?_)
  refine kGETS X0 (wd G 45 rfl) Via.refl (Sta.ext O0.2 (S_CS G)) d7_0 (fun T1 X2 => ?_)
  refine kIFf X2 d7_3 (XT.i0_eq_f (n_CS G)) ?_
  refine kALn X2 d7_6 rfl rfl ?_
  refine kGETF X2 (wd G 25 rfl) Via.refl F_q0_coder d7_7 (fun T3 X4 => ?_)
  refine kGOTO X4 14 d7_10 (by decide) ?_
  exact kRETZ X4 (gEL G) (t := .byte) hret (by simp) d7_14 (fun ve hve => ⟨rfl, rfl⟩) (by decide)
def R_rm87 : Room := { frames := 1, cells := 0, slots := 0, locals := 13 }
theorem rm87 (G : Glob Z a0 iCS vSI) (i0 i1 : Int32) (q0 q1 : Addr) (kp0 : ClassId) (h0 : Heap) (Z0 : n0 ≤ h0.size) (O0 : Old Z n0 h0) (F_q0_value : Fld Z h0 q0 "java/lang/String" "value" "[B" (.ref q1)) (A_q1 : Arv Z h0 q1 kp0 .byte 3 [.int i0, .int 32, .int i1] (.int 0)) (F_q0_coder : Fld Z h0 q0 "java/lang/String" "coder" "B" (.int 0)) (E_q0 : Exa Z h0 q0 "java/lang/String") : MetH l Z EL0 n0 N_jdk_42_m_54 jdk_42_method_54_code 1 (some .int) [] R_rm87 #[.ref q0] h0 [] (fun vs v h ve => (v = some (.int 3) ∧ (h0 = h))) := by
  refine MetH.of #[.val (.ref q0)] (plainFor_of_name pn_java_lang_String) rfl Z0 (fun p e s m below meth c T0 hret hml hnm hSL hs0 X0 => ?_)
  refine kALn X0 d6_0 rfl rfl ?_
  refine kGETF X0 (wd G 24 rfl) Via.refl F_q0_value d6_1 (fun T1 X2 => ?_)
  refine kLEN X2 A_q1 d6_4 ?_
  refine kALn X2 d6_5 rfl rfl ?_
  refine kVIRT X2 (gEL G) (argsL := []) (rest := [.int 3]) (wd G 40 rfl) (wd G 41 rfl) (own_nf X2.hZ (own_noinst (wd G 6 rfl))) (wd G 43 rfl) (wd G 42 rfl) (wd G 7 rfl) (wd G 44 rfl) (by decide) E_q0 (rm88 G i0 i1 q0 q1 kp0 h0 X2.n O0 F_q0_coder) all0 (lenOf pd___B rfl) rfl 1 rfl (by decide) hml.symm d6_6 (fun v3 T4 h5 vm6 _ w7 q8 C9 C10 X11 => ?_)
  obtain ⟨e13, f14⟩ := q8
  subst e13
  subst f14
  show Go _ _ _ _ _ (mkF _ _ _ [.int 0, .int 3])
  refine kISHR X11 3 d6_9 (by decide) ?_
  exact kRETI X11 (gEL G) hret d6_10 (fun ve hve => ⟨rfl, rfl⟩) (by decide)
def R_rm90 : Room := { frames := 0, cells := 0, slots := 0, locals := 0 }
theorem rm90 (G : Glob Z a0 iCS vSI) (i0 i1 : Int32) (q0 q1 : Addr) (kp0 kp1 : ClassId) (h0 : Heap) (Z0 : n0 ≤ h0.size) (O0 : Old Z n0 h0) (A_q0 : Arv Z h0 q0 kp0 .char 1 [.int i0] (.int 0)) (c_0 : ¬ (255 : Int32) < i0) (c_2 : ¬ i0 < 0) : MetH l Z EL0 n0 N_m_5 method_5_code 6 (some .char) [] R_rm90 #[.int 0, .ref q0, .int 1, .ref q1, .int 1] h0 [] (fun vs v h ve => (v = some (.int i0) ∧ (h0 = h))) := by
  refine MetH.of #[.val (.int 0), .val (.ref q0), .val (.int 1), .val (.ref q1), .val (.int 1), .unset] (plainFor_of_name pn_com_example_tight_calculus_tightcalculus_ReportWordsPinLaw) rfl Z0 (fun p e s m below meth c T0 hret hml hnm hSL hs0 X0 => ?_)
  refine kILn X0 d36_0 rfl ?_
  refine kILn X0 d36_1 rfl ?_
  refine kICf X0 d36_2 (XT.ii_ge_f (by decide)) ?_
  refine kALn X0 d36_5 rfl rfl ?_
  refine kILn X0 d36_6 rfl ?_
  refine kCALD X0 (.int i0) A_q0 (by decide) rfl d36_7 ?_
  refine kIS X0 #[.val (.int 0), .val (.ref q0), .val (.int 1), .val (.ref q1), .val (.int 1), .val (.int i0)] d36_8 rfl ?_
  refine kGOTO X0 53 d36_10 (by decide) ?_
  refine kIL X0 d36_53 rfl ?_
  exact kRETZ X0 (gEL G) (t := .char) hret (by simp) d36_55 (fun ve hve => ⟨(by rw [(own_nc c_0 c_2)]), rfl⟩) (by decide)
def R_rm89 : Room := { frames := 4, cells := 0, slots := 0, locals := 53 }
theorem rm89 (G : Glob Z a0 iCS vSI) (i0 i1 i2 i3 : Int32) (q0 q1 q2 q3 : Addr) (kp0 kp1 kp2 : ClassId) (h0 : Heap) (Z0 : n0 ≤ h0.size) (O0 : Old Z n0 h0) (F_q0_coder : Fld Z h0 q0 "java/lang/String" "coder" "B" (.int 0)) (E_q0 : Exa Z h0 q0 "java/lang/String") (F_q0_value : Fld Z h0 q0 "java/lang/String" "value" "[B" (.ref q3)) (A_q3 : Arv Z h0 q3 kp2 .byte 3 [.int i2, .int 32, .int i3] (.int 0)) (c_0 : ¬ (255 : Int32) < i0) (c_2 : ¬ i0 < 0) (c_1 : ¬ (255 : Int32) < i1) (c_3 : ¬ i1 < 0) (A_q1 : Arv Z h0 q1 kp0 .char 1 [.int i0] (.int 0)) : MetH l Z EL0 n0 N_m_4 method_4_code 7 (some .boolean) [] R_rm89 #[.ref q0, .int 0, .int 3, .ref q1, .int 1, .ref q2, .int 1] h0 [] (fun vs v h ve => (v = some (.int 1) ∧ ((i2 &&& (255 : Int32)) = i0) ∧ (h0 = h)) ∨ (v = some (.int 0) ∧ (¬ (i2 &&& (255 : Int32)) = i0) ∧ (h0 = h))) := by
  refine MetH.of #[.val (.ref q0), .val (.int 0), .val (.int 3), .val (.ref q1), .val (.int 1), .val (.ref q2), .val (.int 1)] (plainFor_of_name pn_com_example_tight_calculus_tightcalculus_ReportWordsPinLaw) rfl Z0 (fun p e s m below meth c T0 hret hml hnm hSL hs0 X0 => ?_)
  refine kILn X0 d8_0 rfl ?_
  refine kILn X0 d8_1 rfl ?_
  refine kICt X0 7 d8_2 (XT.ii_lt_t (by decide)) (by decide) ?_
  refine kALn X0 d8_7 rfl rfl ?_
  refine kILn X0 d8_8 rfl ?_
  refine kVIRT X0 (gEL G) (argsL := [.int 0]) (rest := []) (wd G 161 rfl) (wd G 162 rfl) (own_nf X0.hZ (own_noinst (wd G 6 rfl))) (wd G 164 rfl) (wd G 163 rfl) (wd G 7 rfl) (wd G 165 rfl) (by decide) E_q0 (gm_ca2 G (0 : Int32) (3 : Int32) i2 (i2 &&& (255 : Int32)) ([.int i2, .int 32, .int i3]) q0 q3 kp2 h0 X0.n O0 rfl rfl F_q0_coder E_q0 F_q0_value A_q3 (by decide) (by decide)) all0 (lenOf pd__I_C rfl) rfl 0 rfl (by decide) hml.symm d8_9 (fun v1 T2 h3 vm4 _ w5 q6 C7 C8 X9 => ?_)
  obtain ⟨e11, f12⟩ := q6
  subst e11
  subst f12
  show Go _ _ _ _ _ (mkF _ _ _ [.int (i2 &&& (255 : Int32))])
  refine kILn X9 d8_12 rfl ?_
  refine kALn X9 d8_13 rfl rfl ?_
  refine kIL X9 d8_14 rfl ?_
  refine kAL X9 d8_16 rfl rfl ?_
  refine kIL X9 d8_18 rfl ?_
  refine kSTAT X9 (gEL G) (argsL := [.int 0, .ref q1, .int 1, .ref q2, .int 1]) (rest := [.int (i2 &&& (255 : Int32))]) (wd G 183 rfl) (wd G 184 rfl) (wd G 2 rfl) (wd G 185 rfl) (by decide) (rm90 G i0 i1 q1 q2 kp0 kp1 h0 X9.n O0 A_q1 c_0 c_2) all0 (lenOf pd__I_CI_CI_C rfl) rfl 1 rfl (by decide) hml.symm d8_20 (fun v13 T14 h15 vm16 _ w17 q18 C19 C20 X21 => ?_)
  obtain ⟨e23, f24⟩ := q18
  subst e23
  subst f24
  show Go _ _ _ _ _ (mkF _ _ _ [.int i0, .int (i2 &&& (255 : Int32))])
  by_cases c25 : (i2 &&& (255 : Int32)) = i0
  · refine kICf X21 d8_23 (XT.ii_ne_f c25) ?_
    refine kIC X21 1 d8_26 (by decide) ?_
    refine kGOTO X21 31 d8_27 (by decide) ?_
    exact kRETZ X21 (gEL G) (t := .boolean) hret (by simp) d8_31 (fun ve hve => Or.inl (⟨rfl, c25, rfl⟩)) (by decide)
  · refine kICt X21 30 d8_23 (XT.ii_ne_t c25) (by decide) ?_
    refine kIC X21 0 d8_30 (by decide) ?_
    exact kRETZ X21 (gEL G) (t := .boolean) hret (by simp) d8_31 (fun ve hve => Or.inr (⟨rfl, c25, rfl⟩)) (by decide)
theorem d36_17 : decode method_5_code 17 = .ok (.iload 4, 2) := by decide +kernel
theorem d36_19 : decode method_5_code 19 = .ok (.ifCond .le 27, 3) := by decide +kernel
theorem d36_22 : decode method_5_code 22 = .ok (.iload_n 0, 1) := by decide +kernel
theorem d36_23 : decode method_5_code 23 = .ok (.iload_n 2, 1) := by decide +kernel
theorem d36_24 : decode method_5_code 24 = .ok (.if_icmp .ne 10, 3) := by decide +kernel
theorem d36_27 : decode method_5_code 27 = .ok (.bipush 32, 2) := by decide +kernel
theorem d36_29 : decode method_5_code 29 = .ok (.istore 5, 2) := by decide +kernel
theorem d36_31 : decode method_5_code 31 = .ok (.goto 22, 3) := by decide +kernel
def R_rm92 : Room := { frames := 0, cells := 0, slots := 0, locals := 0 }
theorem rm92 (G : Glob Z a0 iCS vSI) (i0 i1 : Int32) (q0 q1 : Addr) (kp0 kp1 : ClassId) (h0 : Heap) (Z0 : n0 ≤ h0.size) (O0 : Old Z n0 h0)  : MetH l Z EL0 n0 N_m_5 method_5_code 6 (some .char) [] R_rm92 #[.int 1, .ref q0, .int 1, .ref q1, .int 1] h0 [] (fun vs v h ve => (v = some (.int 32) ∧ (h0 = h))) := by
  refine MetH.of #[.val (.int 1), .val (.ref q0), .val (.int 1), .val (.ref q1), .val (.int 1), .unset] (plainFor_of_name pn_com_example_tight_calculus_tightcalculus_ReportWordsPinLaw) rfl Z0 (fun p e s m below meth c T0 hret hml hnm hSL hs0 X0 => ?_)
  refine kILn X0 d36_0 rfl ?_
  refine kILn X0 d36_1 rfl ?_
  refine kICt X0 13 d36_2 (XT.ii_ge_t (by decide)) (by decide) ?_
  refine kILn X0 d36_13 rfl ?_
  refine kIFf X0 d36_14 (XT.i0_le_f (by decide)) ?_
  refine kIL X0 d36_17 rfl ?_
  refine kIFf X0 d36_19 (XT.i0_le_f (by decide)) ?_
  refine kILn X0 d36_22 rfl ?_
  refine kILn X0 d36_23 rfl ?_
  refine kICf X0 d36_24 (XT.ii_ne_f (by decide)) ?_
  refine kBI X0 32 d36_27 (by decide) ?_
  refine kIS X0 #[.val (.int 1), .val (.ref q0), .val (.int 1), .val (.ref q1), .val (.int 1), .val (.int 32)] d36_29 rfl ?_
  refine kGOTO X0 53 d36_31 (by decide) ?_
  refine kIL X0 d36_53 rfl ?_
  exact kRETZ X0 (gEL G) (t := .char) hret (by simp) d36_55 (fun ve hve => ⟨rfl, rfl⟩) (by decide)
def R_rm91 : Room := { frames := 4, cells := 0, slots := 0, locals := 53 }
theorem rm91 (G : Glob Z a0 iCS vSI) (i0 i1 i2 i3 : Int32) (q0 q1 q2 q3 : Addr) (kp0 kp1 kp2 : ClassId) (h0 : Heap) (Z0 : n0 ≤ h0.size) (O0 : Old Z n0 h0) (F_q0_coder : Fld Z h0 q0 "java/lang/String" "coder" "B" (.int 0)) (E_q0 : Exa Z h0 q0 "java/lang/String") (F_q0_value : Fld Z h0 q0 "java/lang/String" "value" "[B" (.ref q3)) (A_q3 : Arv Z h0 q3 kp2 .byte 3 [.int i2, .int 32, .int i3] (.int 0)) (c_0 : ¬ (255 : Int32) < i0) (c_2 : ¬ i0 < 0) (c_1 : ¬ (255 : Int32) < i1) (c_3 : ¬ i1 < 0) : MetH l Z EL0 n0 N_m_4 method_4_code 7 (some .boolean) [] R_rm91 #[.ref q0, .int 1, .int 3, .ref q1, .int 1, .ref q2, .int 1] h0 [] (fun vs v h ve => (v = some (.int 1) ∧ (h0 = h))) := by
  refine MetH.of #[.val (.ref q0), .val (.int 1), .val (.int 3), .val (.ref q1), .val (.int 1), .val (.ref q2), .val (.int 1)] (plainFor_of_name pn_com_example_tight_calculus_tightcalculus_ReportWordsPinLaw) rfl Z0 (fun p e s m below meth c T0 hret hml hnm hSL hs0 X0 => ?_)
  refine kILn X0 d8_0 rfl ?_
  refine kILn X0 d8_1 rfl ?_
  refine kICt X0 7 d8_2 (XT.ii_lt_t (by decide)) (by decide) ?_
  refine kALn X0 d8_7 rfl rfl ?_
  refine kILn X0 d8_8 rfl ?_
  refine kVIRT X0 (gEL G) (argsL := [.int 1]) (rest := []) (wd G 161 rfl) (wd G 162 rfl) (own_nf X0.hZ (own_noinst (wd G 6 rfl))) (wd G 164 rfl) (wd G 163 rfl) (wd G 7 rfl) (wd G 165 rfl) (by decide) E_q0 (gm_ca2 G (1 : Int32) (3 : Int32) (32 : Int32) (32 : Int32) ([.int i2, .int 32, .int i3]) q0 q3 kp2 h0 X0.n O0 rfl (by decide) F_q0_coder E_q0 F_q0_value A_q3 (by decide) (by decide)) all0 (lenOf pd__I_C rfl) rfl 0 rfl (by decide) hml.symm d8_9 (fun v1 T2 h3 vm4 _ w5 q6 C7 C8 X9 => ?_)
  obtain ⟨e11, f12⟩ := q6
  subst e11
  subst f12
  show Go _ _ _ _ _ (mkF _ _ _ [.int 32])
  refine kILn X9 d8_12 rfl ?_
  refine kALn X9 d8_13 rfl rfl ?_
  refine kIL X9 d8_14 rfl ?_
  refine kAL X9 d8_16 rfl rfl ?_
  refine kIL X9 d8_18 rfl ?_
  refine kSTAT X9 (gEL G) (argsL := [.int 1, .ref q1, .int 1, .ref q2, .int 1]) (rest := [.int 32]) (wd G 183 rfl) (wd G 184 rfl) (wd G 2 rfl) (wd G 185 rfl) (by decide) (rm92 G i0 i1 q1 q2 kp0 kp1 h0 X9.n O0 ) all0 (lenOf pd__I_CI_CI_C rfl) rfl 1 rfl (by decide) hml.symm d8_20 (fun v13 T14 h15 vm16 _ w17 q18 C19 C20 X21 => ?_)
  obtain ⟨e23, f24⟩ := q18
  subst e23
  subst f24
  show Go _ _ _ _ _ (mkF _ _ _ [.int 32, .int 32])
  refine kICf X21 d8_23 (XT.ii_ne_f (by decide)) ?_
  refine kIC X21 1 d8_26 (by decide) ?_
  refine kGOTO X21 31 d8_27 (by decide) ?_
  exact kRETZ X21 (gEL G) (t := .boolean) hret (by simp) d8_31 (fun ve hve => ⟨rfl, rfl⟩) (by decide)
theorem d36_34 : decode method_5_code 34 = .ok (.aload_n 3, 1) := by decide +kernel
theorem d36_35 : decode method_5_code 35 = .ok (.iload_n 0, 1) := by decide +kernel
theorem d36_36 : decode method_5_code 36 = .ok (.iload_n 2, 1) := by decide +kernel
theorem d36_37 : decode method_5_code 37 = .ok (.isub, 1) := by decide +kernel
theorem d36_38 : decode method_5_code 38 = .ok (.iconst 1, 1) := by decide +kernel
theorem d36_39 : decode method_5_code 39 = .ok (.isub, 1) := by decide +kernel
theorem d36_40 : decode method_5_code 40 = .ok (.caload, 1) := by decide +kernel
theorem d36_41 : decode method_5_code 41 = .ok (.istore 5, 2) := by decide +kernel
theorem d36_43 : decode method_5_code 43 = .ok (.goto 10, 3) := by decide +kernel
def R_rm94 : Room := { frames := 0, cells := 0, slots := 0, locals := 0 }
theorem rm94 (G : Glob Z a0 iCS vSI) (i0 i1 : Int32) (q0 q1 : Addr) (kp0 kp1 : ClassId) (h0 : Heap) (Z0 : n0 ≤ h0.size) (O0 : Old Z n0 h0) (A_q1 : Arv Z h0 q1 kp1 .char 1 [.int i1] (.int 0)) (c_1 : ¬ (255 : Int32) < i1) (c_3 : ¬ i1 < 0) : MetH l Z EL0 n0 N_m_5 method_5_code 6 (some .char) [] R_rm94 #[.int 2, .ref q0, .int 1, .ref q1, .int 1] h0 [] (fun vs v h ve => (v = some (.int i1) ∧ (h0 = h))) := by
  refine MetH.of #[.val (.int 2), .val (.ref q0), .val (.int 1), .val (.ref q1), .val (.int 1), .unset] (plainFor_of_name pn_com_example_tight_calculus_tightcalculus_ReportWordsPinLaw) rfl Z0 (fun p e s m below meth c T0 hret hml hnm hSL hs0 X0 => ?_)
  refine kILn X0 d36_0 rfl ?_
  refine kILn X0 d36_1 rfl ?_
  refine kICt X0 13 d36_2 (XT.ii_ge_t (by decide)) (by decide) ?_
  refine kILn X0 d36_13 rfl ?_
  refine kIFf X0 d36_14 (XT.i0_le_f (by decide)) ?_
  refine kIL X0 d36_17 rfl ?_
  refine kIFf X0 d36_19 (XT.i0_le_f (by decide)) ?_
  refine kILn X0 d36_22 rfl ?_
  refine kILn X0 d36_23 rfl ?_
  refine kICt X0 34 d36_24 (XT.ii_ne_t (by decide)) (by decide) ?_
  refine kALn X0 d36_34 rfl rfl ?_
  refine kILn X0 d36_35 rfl ?_
  refine kILn X0 d36_36 rfl ?_
  refine kISUB X0 1 d36_37 (by decide) ?_
  refine kIC X0 1 d36_38 (by decide) ?_
  refine kISUB X0 0 d36_39 (by decide) ?_
  refine kCALD X0 (.int i1) A_q1 (by decide) rfl d36_40 ?_
  refine kIS X0 #[.val (.int 2), .val (.ref q0), .val (.int 1), .val (.ref q1), .val (.int 1), .val (.int i1)] d36_41 rfl ?_
  refine kGOTO X0 53 d36_43 (by decide) ?_
  refine kIL X0 d36_53 rfl ?_
  exact kRETZ X0 (gEL G) (t := .char) hret (by simp) d36_55 (fun ve hve => ⟨(by rw [(own_nc c_1 c_3)]), rfl⟩) (by decide)
def R_rm93 : Room := { frames := 4, cells := 0, slots := 0, locals := 53 }
theorem rm93 (G : Glob Z a0 iCS vSI) (i0 i1 i2 i3 : Int32) (q0 q1 q2 q3 : Addr) (kp0 kp1 kp2 : ClassId) (h0 : Heap) (Z0 : n0 ≤ h0.size) (O0 : Old Z n0 h0) (F_q0_coder : Fld Z h0 q0 "java/lang/String" "coder" "B" (.int 0)) (E_q0 : Exa Z h0 q0 "java/lang/String") (F_q0_value : Fld Z h0 q0 "java/lang/String" "value" "[B" (.ref q3)) (A_q3 : Arv Z h0 q3 kp2 .byte 3 [.int i2, .int 32, .int i3] (.int 0)) (c_0 : ¬ (255 : Int32) < i0) (c_2 : ¬ i0 < 0) (c_1 : ¬ (255 : Int32) < i1) (c_3 : ¬ i1 < 0) (A_q2 : Arv Z h0 q2 kp1 .char 1 [.int i1] (.int 0)) : MetH l Z EL0 n0 N_m_4 method_4_code 7 (some .boolean) [] R_rm93 #[.ref q0, .int 2, .int 3, .ref q1, .int 1, .ref q2, .int 1] h0 [] (fun vs v h ve => (v = some (.int 1) ∧ ((i3 &&& (255 : Int32)) = i1) ∧ (h0 = h)) ∨ (v = some (.int 0) ∧ (¬ (i3 &&& (255 : Int32)) = i1) ∧ (h0 = h))) := by
  refine MetH.of #[.val (.ref q0), .val (.int 2), .val (.int 3), .val (.ref q1), .val (.int 1), .val (.ref q2), .val (.int 1)] (plainFor_of_name pn_com_example_tight_calculus_tightcalculus_ReportWordsPinLaw) rfl Z0 (fun p e s m below meth c T0 hret hml hnm hSL hs0 X0 => ?_)
  refine kILn X0 d8_0 rfl ?_
  refine kILn X0 d8_1 rfl ?_
  refine kICt X0 7 d8_2 (XT.ii_lt_t (by decide)) (by decide) ?_
  refine kALn X0 d8_7 rfl rfl ?_
  refine kILn X0 d8_8 rfl ?_
  refine kVIRT X0 (gEL G) (argsL := [.int 2]) (rest := []) (wd G 161 rfl) (wd G 162 rfl) (own_nf X0.hZ (own_noinst (wd G 6 rfl))) (wd G 164 rfl) (wd G 163 rfl) (wd G 7 rfl) (wd G 165 rfl) (by decide) E_q0 (gm_ca2 G (2 : Int32) (3 : Int32) i3 (i3 &&& (255 : Int32)) ([.int i2, .int 32, .int i3]) q0 q3 kp2 h0 X0.n O0 rfl rfl F_q0_coder E_q0 F_q0_value A_q3 (by decide) (by decide)) all0 (lenOf pd__I_C rfl) rfl 0 rfl (by decide) hml.symm d8_9 (fun v1 T2 h3 vm4 _ w5 q6 C7 C8 X9 => ?_)
  obtain ⟨e11, f12⟩ := q6
  subst e11
  subst f12
  show Go _ _ _ _ _ (mkF _ _ _ [.int (i3 &&& (255 : Int32))])
  refine kILn X9 d8_12 rfl ?_
  refine kALn X9 d8_13 rfl rfl ?_
  refine kIL X9 d8_14 rfl ?_
  refine kAL X9 d8_16 rfl rfl ?_
  refine kIL X9 d8_18 rfl ?_
  refine kSTAT X9 (gEL G) (argsL := [.int 2, .ref q1, .int 1, .ref q2, .int 1]) (rest := [.int (i3 &&& (255 : Int32))]) (wd G 183 rfl) (wd G 184 rfl) (wd G 2 rfl) (wd G 185 rfl) (by decide) (rm94 G i0 i1 q1 q2 kp0 kp1 h0 X9.n O0 A_q2 c_1 c_3) all0 (lenOf pd__I_CI_CI_C rfl) rfl 1 rfl (by decide) hml.symm d8_20 (fun v13 T14 h15 vm16 _ w17 q18 C19 C20 X21 => ?_)
  obtain ⟨e23, f24⟩ := q18
  subst e23
  subst f24
  show Go _ _ _ _ _ (mkF _ _ _ [.int i1, .int (i3 &&& (255 : Int32))])
  by_cases c25 : (i3 &&& (255 : Int32)) = i1
  · refine kICf X21 d8_23 (XT.ii_ne_f c25) ?_
    refine kIC X21 1 d8_26 (by decide) ?_
    refine kGOTO X21 31 d8_27 (by decide) ?_
    exact kRETZ X21 (gEL G) (t := .boolean) hret (by simp) d8_31 (fun ve hve => Or.inl (⟨rfl, c25, rfl⟩)) (by decide)
  · refine kICt X21 30 d8_23 (XT.ii_ne_t c25) (by decide) ?_
    refine kIC X21 0 d8_30 (by decide) ?_
    exact kRETZ X21 (gEL G) (t := .boolean) hret (by simp) d8_31 (fun ve hve => Or.inr (⟨rfl, c25, rfl⟩)) (by decide)
def R_rm95 : Room := { frames := 0, cells := 0, slots := 0, locals := 0 }
theorem rm95 (G : Glob Z a0 iCS vSI) (i0 i1 i2 i3 : Int32) (q0 q1 q2 q3 : Addr) (kp0 kp1 kp2 : ClassId) (h0 : Heap) (Z0 : n0 ≤ h0.size) (O0 : Old Z n0 h0)  : MetH l Z EL0 n0 N_m_4 method_4_code 7 (some .boolean) [] R_rm95 #[.ref q0, .int 3, .int 3, .ref q1, .int 1, .ref q2, .int 1] h0 [] (fun vs v h ve => (v = some (.int 1) ∧ (h0 = h))) := by
  refine MetH.of #[.val (.ref q0), .val (.int 3), .val (.int 3), .val (.ref q1), .val (.int 1), .val (.ref q2), .val (.int 1)] (plainFor_of_name pn_com_example_tight_calculus_tightcalculus_ReportWordsPinLaw) rfl Z0 (fun p e s m below meth c T0 hret hml hnm hSL hs0 X0 => ?_)
  refine kILn X0 d8_0 rfl ?_
  refine kILn X0 d8_1 rfl ?_
  refine kICf X0 d8_2 (XT.ii_lt_f (by decide)) ?_
  refine kIC X0 1 d8_5 (by decide) ?_
  exact kRETZ X0 (gEL G) (t := .boolean) hret (by simp) d8_6 (fun ve hve => ⟨rfl, rfl⟩) (by decide)
def R_rm96 : Room := { frames := 0, cells := 0, slots := 0, locals := 0 }
theorem rm96 (G : Glob Z a0 iCS vSI) (i0 i1 i2 i3 : Int32) (q0 q1 q2 q3 : Addr) (kp0 kp1 kp2 : ClassId) (h0 : Heap) (Z0 : n0 ≤ h0.size) (O0 : Old Z n0 h0)  : MetH l Z EL0 n0 N_m_4 method_4_code 7 (some .boolean) [] R_rm96 #[.ref q0, .int 4, .int 3, .ref q1, .int 1, .ref q2, .int 1] h0 [] (fun vs v h ve => (v = some (.int 1) ∧ (h0 = h))) := by
  refine MetH.of #[.val (.ref q0), .val (.int 4), .val (.int 3), .val (.ref q1), .val (.int 1), .val (.ref q2), .val (.int 1)] (plainFor_of_name pn_com_example_tight_calculus_tightcalculus_ReportWordsPinLaw) rfl Z0 (fun p e s m below meth c T0 hret hml hnm hSL hs0 X0 => ?_)
  refine kILn X0 d8_0 rfl ?_
  refine kILn X0 d8_1 rfl ?_
  refine kICf X0 d8_2 (XT.ii_lt_f (by decide)) ?_
  refine kIC X0 1 d8_5 (by decide) ?_
  exact kRETZ X0 (gEL G) (t := .boolean) hret (by simp) d8_6 (fun ve hve => ⟨rfl, rfl⟩) (by decide)
def R_rm98 : Room := { frames := 0, cells := 0, slots := 0, locals := 0 }
theorem rm98 (G : Glob Z a0 iCS vSI) (i0 i1 : Int32) (q0 q1 : Addr) (kp0 : ClassId) (h0 : Heap) (Z0 : n0 ≤ h0.size) (O0 : Old Z n0 h0) (F_q0_value : Fld Z h0 q0 "java/lang/String" "value" "[B" (.ref q1)) (A_q1 : Arv Z h0 q1 kp0 .byte 2 [.int i0, .int i1] (.int 0)) : MetH l Z EL0 n0 N_jdk_42_m_55 jdk_42_method_55_code 1 (some .boolean) [] R_rm98 #[.ref q0] h0 [] (fun vs v h ve => (v = some (.int 0) ∧ (h0 = h))) := by
  refine MetH.of #[.val (.ref q0)] (plainFor_of_name pn_java_lang_String) rfl Z0 (fun p e s m below meth c T0 hret hml hnm hSL hs0 X0 => ?_)
  refine kALn X0 d5_0 rfl rfl ?_
  refine kGETF X0 (wd G 24 rfl) Via.refl F_q0_value d5_1 (fun T1 X2 => ?_)
  refine kLEN X2 A_q1 d5_4 ?_
  refine kIFt X2 12 d5_5 (XT.i0_ne_t (by decide)) (by decide) ?_
  refine kIC X2 0 d5_12 (by decide) ?_
  exact kRETZ X2 (gEL G) (t := .boolean) hret (by simp) d5_13 (fun ve hve => ⟨rfl, rfl⟩) (by decide)
def R_rm101 : Room := { frames := 0, cells := 0, slots := 0, locals := 0 }
theorem rm101 (G : Glob Z a0 iCS vSI) (i0 : Int32) (q0 q1 : Addr) (kp0 : ClassId) (h0 : Heap) (Z0 : n0 ≤ h0.size) (O0 : Old Z n0 h0) (F_q0_value : Fld Z h0 q0 "java/lang/AbstractStringBuilder" "value" "[B" (.ref q1)) (A_q1 : Arv Z h0 q1 kp0 .byte 16 [.int i0, .int 32, .int 0, .int 0, .int 0, .int 0, .int 0, .int 0, .int 0, .int 0, .int 0, .int 0, .int 0, .int 0, .int 0, .int 0] (.int 0)) (F_q0_coder : Fld Z h0 q0 "java/lang/AbstractStringBuilder" "coder" "B" (.int 0)) : MetH l Z EL0 n0 N_jdk_68_m_9 jdk_68_method_9_code 3 none [] R_rm101 #[.ref q0, .int 4] h0 [] (fun vs v h ve => (v = none ∧ (h0 = h))) := by
  refine MetH.of #[.val (.ref q0), .val (.int 4), .unset] (plainFor_of_name pn_java_lang_AbstractStringBuilder) rfl Z0 (fun p e s m below meth c T0 hret hml hnm hSL hs0 X0 => ?_)
  refine kALn X0 d16_0 rfl rfl ?_
  refine kGETF X0 (wd G 73 rfl) Via.refl F_q0_value d16_1 (fun T1 X2 => ?_)
  refine kLEN X2 A_q1 d16_4 ?_
  refine kALn X2 d16_5 rfl rfl ?_
  refine kGETF X2 (wd G 75 rfl) Via.refl F_q0_coder d16_6 (fun T3 X4 => ?_)
  refine kISHR X4 16 d16_9 (by decide) ?_
  refine kISn X4 #[.val (.ref q0), .val (.int 4), .val (.int 16)] d16_10 rfl ?_
  refine kILn X4 d16_11 rfl ?_
  refine kILn X4 d16_12 rfl ?_
  refine kISUB X4 (-12) d16_13 (by decide) ?_
  refine kIFt X4 38 d16_14 (XT.i0_le_t (by decide)) (by decide) ?_
  exact kRETV X4 (gEL G) hret d16_38 (fun ve hve => ⟨rfl, rfl⟩) (by decide)
def R_rm103 : Room := { frames := 1, cells := 0, slots := 0, locals := 13 }
theorem rm103 (G : Glob Z a0 iCS vSI) (i0 i1 i2 : Int32) (q0 q1 q2 q3 : Addr) (kp0 kp1 : ClassId) (h0 : Heap) (Z0 : n0 ≤ h0.size) (O0 : Old Z n0 h0) (F_q0_coder : Fld Z h0 q0 "java/lang/AbstractStringBuilder" "coder" "B" (.int 0)) (F_q1_coder : Fld Z h0 q1 "java/lang/String" "coder" "B" (.int 0)) (E_q1 : Exa Z h0 q1 "java/lang/String") : MetH l Z EL0 n0 N_jdk_68_m_71 jdk_68_method_71_code 2 none [] R_rm103 #[.ref q0, .ref q1] h0 [] (fun vs v h ve => (v = none ∧ (h0 = h))) := by
  refine MetH.of #[.val (.ref q0), .val (.ref q1)] (plainFor_of_name pn_java_lang_AbstractStringBuilder) rfl Z0 (fun p e s m below meth c T0 hret hml hnm hSL hs0 X0 => ?_)
  refine kGETS X0 (wd G 72 rfl) Via.refl (Sta.ext O0.2 (S_CS G)) d18_0 (fun T1 X2 => ?_)
  refine kIFf X2 d18_3 (XT.i0_eq_f (n_CS G)) ?_
  refine kALn X2 d18_6 rfl rfl ?_
  refine kGETF X2 (wd G 75 rfl) Via.refl F_q0_coder d18_7 (fun T3 X4 => ?_)
  refine kALn X4 d18_10 rfl rfl ?_
  refine kVIRT X4 (gEL G) (argsL := []) (rest := [.int 0]) (wd G 105 rfl) (wd G 41 rfl) (own_nf X4.hZ (own_noinst (wd G 6 rfl))) (wd G 43 rfl) (wd G 42 rfl) (wd G 7 rfl) (wd G 44 rfl) (by decide) E_q1 (rm37 G i1 i2 q1 q3 kp1 h0 X4.n O0 F_q1_coder) all0 (lenOf pd___B rfl) rfl 1 rfl (by decide) hml.symm d18_11 (fun v5 T6 h7 vm8 _ w9 q10 C11 C12 X13 => ?_)
  obtain ⟨e15, f16⟩ := q10
  subst e15
  subst f16
  show Go _ _ _ _ _ (mkF _ _ _ [.int 0, .int 0])
  refine kICt X13 21 d18_14 (XT.ii_eq_t (by decide)) (by decide) ?_
  exact kRETV X13 (gEL G) hret d18_21 (fun ve hve => ⟨rfl, rfl⟩) (by decide)
def R_rm104 : Room := { frames := 1, cells := 0, slots := 0, locals := 18 }
theorem rm104 (G : Glob Z a0 iCS vSI) (i0 i1 i2 : Int32) (q0 q1 q2 : Addr) (kp0 kp1 : ClassId) (h0 : Heap) (Z0 : n0 ≤ h0.size) (O0 : Old Z n0 h0) (F_q0_coder : Fld Z h0 q0 "java/lang/String" "coder" "B" (.int 0)) (E_q0 : Exa Z h0 q0 "java/lang/String") (F_q0_value : Fld Z h0 q0 "java/lang/String" "value" "[B" (.ref q2)) (A_q2 : Arv Z h0 q2 kp1 .byte 2 [.int i1, .int i2] (.int 0)) (A_q1 : Arv Z h0 q1 kp0 .byte 16 [.int i0, .int 32, .int 0, .int 0, .int 0, .int 0, .int 0, .int 0, .int 0, .int 0, .int 0, .int 0, .int 0, .int 0, .int 0, .int 0] (.int 0)) (g_q1 : n0 ≤ q1) : MetH l Z EL0 n0 N_jdk_42_m_147 jdk_42_method_147_code 4 none [] R_rm104 #[.ref q0, .ref q1, .int 2, .int 0] h0 [q1] (fun vs v h ve => (v = none ∧ (Keep h0 h [q1]) ∧ (Arv Z h q1 kp0 .byte 16 [.int i0, .int 32, .int i1, .int i2, .int 0, .int 0, .int 0, .int 0, .int 0, .int 0, .int 0, .int 0, .int 0, .int 0, .int 0, .int 0] (.int 0)))) := by
  refine MetH.of #[.val (.ref q0), .val (.ref q1), .val (.int 2), .val (.int 0)] (plainFor_of_name pn_java_lang_String) rfl Z0 (fun p e s m below meth c T0 hret hml hnm hSL hs0 X0 => ?_)
  have S_q1 := hSL q1 (List.mem_of_getElem? (i := 0) rfl)
  refine kALn X0 d19_0 rfl rfl ?_
  refine kVIRT X0 (gEL G) (argsL := []) (rest := []) (wd G 40 rfl) (wd G 41 rfl) (own_nf X0.hZ (own_noinst (wd G 6 rfl))) (wd G 43 rfl) (wd G 42 rfl) (wd G 7 rfl) (wd G 44 rfl) (by decide) E_q0 (rm37 G i1 i2 q0 q2 kp1 h0 X0.n O0 F_q0_coder) all0 (lenOf pd___B rfl) rfl 0 rfl (by decide) hml.symm d19_1 (fun v1 T2 h3 vm4 _ w5 q6 C7 C8 X9 => ?_)
  obtain ⟨e11, f12⟩ := q6
  subst e11
  subst f12
  show Go _ _ _ _ _ (mkF _ _ _ [.int 0])
  refine kILn X9 d19_4 rfl ?_
  refine kICf X9 d19_5 (XT.ii_ne_f (by decide)) ?_
  refine kALn X9 d19_8 rfl rfl ?_
  refine kGETF X9 (wd G 24 rfl) Via.refl F_q0_value d19_9 (fun T13 X14 => ?_)
  refine kIC X14 0 d19_12 (by decide) ?_
  refine kALn X14 d19_13 rfl rfl ?_
  refine kILn X14 d19_14 rfl ?_
  refine kILn X14 d19_15 rfl ?_
  refine kISHL X14 2 d19_16 (by decide) ?_
  refine kALn X14 d19_17 rfl rfl ?_
  refine kGETF X14 (wd G 24 rfl) Via.refl F_q0_value d19_18 (fun T15 X16 => ?_)
  refine kLEN X16 A_q2 d19_21 ?_
  have f17 := (CHr.safe C8 (A_q1.lt) S_q1)
  refine kCPA X16 (wd G 111 rfl) (wd G 114 rfl) (wd G 112 rfl) (wd G 113 rfl) A_q2 A_q1 (Or.inl ⟨rfl, rfl⟩) (us := [.int i1, .int i2]) (by decide) rfl (by show 4 ≤ 16; decide) g_q1 f17 hml.symm d19_22 (by decide) 0 (Nat.le_of_eq rfl) (by decide) (fun T18 h19 L21 K22 C23 f24 X20 => ?_)
  have f25 : Arv Z h19 q1 kp0 .byte 16 [.int i0, .int 32, .int i1, .int i2, .int 0, .int 0, .int 0, .int 0, .int 0, .int 0, .int 0, .int 0, .int 0, .int 0, .int 0, .int 0] (.int 0) := f24
  refine kGOTO X20 43 d19_25 (by decide) ?_
  have K26 : Keep h0 h19 [q1] := (Keep.trans (Keep.refl h0 [q1]) K22 (allS (Or.inl (List.mem_of_getElem? (i := 0) rfl)) all0))
  exact kRETV X20 (gEL G) hret d19_43 (fun ve hve => ⟨rfl, K26, f25⟩) (by decide)
def R_rm102 : Room := { frames := 2, cells := 0, slots := 0, locals := 33 }
theorem rm102 (G : Glob Z a0 iCS vSI) (i0 i1 i2 : Int32) (q0 q1 q2 q3 : Addr) (kp0 kp1 : ClassId) (h0 : Heap) (Z0 : n0 ≤ h0.size) (O0 : Old Z n0 h0) (F_q0_coder : Fld Z h0 q0 "java/lang/AbstractStringBuilder" "coder" "B" (.int 0)) (F_q1_coder : Fld Z h0 q1 "java/lang/String" "coder" "B" (.int 0)) (E_q1 : Exa Z h0 q1 "java/lang/String") (E_q0 : Exa Z h0 q0 "java/lang/StringBuilder") (F_q0_value : Fld Z h0 q0 "java/lang/AbstractStringBuilder" "value" "[B" (.ref q2)) (F_q1_value : Fld Z h0 q1 "java/lang/String" "value" "[B" (.ref q3)) (A_q3 : Arv Z h0 q3 kp1 .byte 2 [.int i1, .int i2] (.int 0)) (A_q2 : Arv Z h0 q2 kp0 .byte 16 [.int i0, .int 32, .int 0, .int 0, .int 0, .int 0, .int 0, .int 0, .int 0, .int 0, .int 0, .int 0, .int 0, .int 0, .int 0, .int 0] (.int 0)) (g_q2 : n0 ≤ q2) : MetH l Z EL0 n0 N_jdk_68_m_73 jdk_68_method_73_code 3 none [] R_rm102 #[.ref q0, .int 2, .ref q1] h0 [q2] (fun vs v h ve => (v = none ∧ (Keep h0 h [q2]) ∧ (Arv Z h q2 kp0 .byte 16 [.int i0, .int 32, .int i1, .int i2, .int 0, .int 0, .int 0, .int 0, .int 0, .int 0, .int 0, .int 0, .int 0, .int 0, .int 0, .int 0] (.int 0)))) := by
  refine MetH.of #[.val (.ref q0), .val (.int 2), .val (.ref q1)] (plainFor_of_name pn_java_lang_AbstractStringBuilder) rfl Z0 (fun p e s m below meth c T0 hret hml hnm hSL hs0 X0 => ?_)
  have S_q2 := hSL q2 (List.mem_of_getElem? (i := 0) rfl)
  refine kALn X0 d17_0 rfl rfl ?_
  refine kALn X0 d17_1 rfl rfl ?_
  refine kVIRT X0 (gEL G) (argsL := [.ref q1]) (rest := []) (wd G 100 rfl) (own_decl (wd G 101 rfl) (wd G 104 rfl)) (own_nf X0.hZ (own_noface (wd G 93 rfl) rfl)) (wd G 103 rfl) (wd G 101 rfl) (wd G 69 rfl) (wd G 104 rfl) (by decide) E_q0 (rm103 G i0 i1 i2 q0 q1 q2 q3 kp0 kp1 h0 X0.n O0 F_q0_coder F_q1_coder E_q1) all0 (lenOf pd__Ljava_lang_String__V rfl) rfl 0 rfl (by decide) hml.symm d17_2 (fun v1 T2 h3 vm4 _ w5 q6 C7 C8 X9 => ?_)
  obtain ⟨e11, f12⟩ := q6
  subst e11
  subst f12
  show Go _ _ _ _ _ (mkF _ _ _ [])
  refine kALn X9 d17_5 rfl rfl ?_
  refine kALn X9 d17_6 rfl rfl ?_
  refine kGETF X9 (wd G 73 rfl) Via.refl F_q0_value d17_7 (fun T13 X14 => ?_)
  refine kILn X14 d17_10 rfl ?_
  refine kALn X14 d17_11 rfl rfl ?_
  refine kGETF X14 (wd G 75 rfl) Via.refl F_q0_coder d17_12 (fun T15 X16 => ?_)
  have f26 := (CHr.safe C8 (A_q2.lt) S_q2)
  refine kVIRT X16 (gEL G) (argsL := [.ref q2, .int 2, .int 0]) (rest := []) (wd G 106 rfl) (wd G 107 rfl) (own_nf X16.hZ (own_noinst (wd G 6 rfl))) (wd G 109 rfl) (wd G 108 rfl) (wd G 7 rfl) (wd G 110 rfl) (by decide) E_q1 (rm104 G i0 i1 i2 q1 q2 q3 kp0 kp1 h0 X16.n O0 F_q1_coder E_q1 F_q1_value A_q3 A_q2 g_q2) (allS ⟨(A_q2.lt), f26⟩ all0) (lenOf pd___BIB_V rfl) rfl 0 rfl (by decide) hml.symm d17_15 (fun v17 T18 h19 vm20 _ w21 q22 C23 C24 X25 => ?_)
  obtain ⟨e28, f29, f30⟩ := q22
  subst e28
  show Go _ _ _ _ _ (mkF _ _ _ [])
  have K31 : Keep h0 h19 [q2] := (Keep.trans (Keep.refl h0 [q2]) f29 (allS (Or.inl (List.mem_of_getElem? (i := 0) rfl)) all0))
  exact kRETV X25 (gEL G) hret d17_18 (fun ve hve => ⟨rfl, K31, f30⟩) (by decide)
def R_rm100 : Room := { frames := 3, cells := 0, slots := 0, locals := 47 }
theorem rm100 (G : Glob Z a0 iCS vSI) (i0 i1 i2 : Int32) (q0 q1 q2 q3 : Addr) (kp0 kp1 : ClassId) (h0 : Heap) (Z0 : n0 ≤ h0.size) (O0 : Old Z n0 h0) (F_q1_value : Fld Z h0 q1 "java/lang/String" "value" "[B" (.ref q3)) (A_q3 : Arv Z h0 q3 kp1 .byte 2 [.int i1, .int i2] (.int 0)) (F_q1_coder : Fld Z h0 q1 "java/lang/String" "coder" "B" (.int 0)) (E_q1 : Exa Z h0 q1 "java/lang/String") (F_q0_count : Fld Z h0 q0 "java/lang/AbstractStringBuilder" "count" "I" (.int 2)) (F_q0_value : Fld Z h0 q0 "java/lang/AbstractStringBuilder" "value" "[B" (.ref q2)) (A_q2 : Arv Z h0 q2 kp0 .byte 16 [.int i0, .int 32, .int 0, .int 0, .int 0, .int 0, .int 0, .int 0, .int 0, .int 0, .int 0, .int 0, .int 0, .int 0, .int 0, .int 0] (.int 0)) (F_q0_coder : Fld Z h0 q0 "java/lang/AbstractStringBuilder" "coder" "B" (.int 0)) (E_q0 : Exa Z h0 q0 "java/lang/StringBuilder") (d_q0_q2 : q0 ≠ q2) (g_q0 : n0 ≤ q0) (g_q2 : n0 ≤ q2) : MetH l Z EL0 n0 N_jdk_68_m_22 jdk_68_method_22_code 3 (some (.object "java/lang/AbstractStringBuilder")) [] R_rm100 #[.ref q0, .ref q1] h0 [q2] (fun vs v h ve => (v = some (.ref q0) ∧ (Keep h0 h [q2, q0]) ∧ (Arv Z h q2 kp0 .byte 16 [.int i0, .int 32, .int i1, .int i2, .int 0, .int 0, .int 0, .int 0, .int 0, .int 0, .int 0, .int 0, .int 0, .int 0, .int 0, .int 0] (.int 0)) ∧ (Fld Z h q0 "java/lang/AbstractStringBuilder" "coder" "B" (.int 0)) ∧ (Fld Z h q0 "java/lang/AbstractStringBuilder" "count" "I" (.int 4)) ∧ (Fld Z h q0 "java/lang/AbstractStringBuilder" "value" "[B" (.ref q2)))) := by
  refine MetH.of #[.val (.ref q0), .val (.ref q1), .unset] (plainFor_of_name pn_java_lang_AbstractStringBuilder) rfl Z0 (fun p e s m below meth c T0 hret hml hnm hSL hs0 X0 => ?_)
  have S_q2 := hSL q2 (List.mem_of_getElem? (i := 0) rfl)
  refine kALn X0 d15_0 rfl rfl ?_
  refine kNNt X0 9 d15_1 (by decide) ?_
  refine kALn X0 d15_9 rfl rfl ?_
  refine kVIRT X0 (gEL G) (argsL := []) (rest := []) (wd G 87 rfl) (wd G 36 rfl) (own_nf X0.hZ (own_noinst (wd G 6 rfl))) (wd G 38 rfl) (wd G 37 rfl) (wd G 7 rfl) (wd G 39 rfl) (by decide) E_q1 (rm36 G i1 i2 q1 q3 kp1 h0 X0.n O0 F_q1_value A_q3 F_q1_coder E_q1) all0 (lenOf pd___I rfl) rfl 0 rfl (by decide) hml.symm d15_10 (fun v1 T2 h3 vm4 _ w5 q6 C7 C8 X9 => ?_)
  obtain ⟨e11, f12⟩ := q6
  subst e11
  subst f12
  show Go _ _ _ _ _ (mkF _ _ _ [.int 2])
  refine kISn X9 #[.val (.ref q0), .val (.ref q1), .val (.int 2)] d15_13 rfl ?_
  refine kALn X9 d15_14 rfl rfl ?_
  refine kALn X9 d15_15 rfl rfl ?_
  refine kGETF X9 (wd G 88 rfl) Via.refl F_q0_count d15_16 (fun T13 X14 => ?_)
  refine kILn X14 d15_19 rfl ?_
  refine kIADD X14 4 d15_20 (by decide) ?_
  refine kVIRT X14 (gEL G) (argsL := [.int 4]) (rest := []) (wd G 90 rfl) (own_decl (wd G 91 rfl) (wd G 94 rfl)) (own_nf X14.hZ (own_noface (wd G 93 rfl) rfl)) (wd G 93 rfl) (wd G 91 rfl) (wd G 69 rfl) (wd G 94 rfl) (by decide) E_q0 (rm101 G i0 q0 q2 kp0 h0 X14.n O0 F_q0_value A_q2 F_q0_coder) all0 (lenOf pd__I_V rfl) rfl 0 rfl (by decide) hml.symm d15_21 (fun v15 T16 h17 vm18 _ w19 q20 C21 C22 X23 => ?_)
  obtain ⟨e25, f26⟩ := q20
  subst e25
  subst f26
  show Go _ _ _ _ _ (mkF _ _ _ [])
  refine kALn X23 d15_24 rfl rfl ?_
  refine kALn X23 d15_25 rfl rfl ?_
  refine kGETF X23 (wd G 88 rfl) Via.refl F_q0_count d15_26 (fun T27 X28 => ?_)
  refine kALn X28 d15_29 rfl rfl ?_
  have f38 := (CHr.safe C22 (A_q2.lt) (CHr.safe C8 (A_q2.lt) S_q2))
  refine kVIRT X28 (gEL G) (argsL := [.int 2, .ref q1]) (rest := []) (wd G 95 rfl) (own_decl (wd G 96 rfl) (wd G 99 rfl)) (own_nf X28.hZ (own_noface (wd G 93 rfl) rfl)) (wd G 98 rfl) (wd G 96 rfl) (wd G 69 rfl) (wd G 99 rfl) (by decide) E_q0 (rm102 G i0 i1 i2 q0 q1 q2 q3 kp0 kp1 h0 X28.n O0 F_q0_coder F_q1_coder E_q1 E_q0 F_q0_value F_q1_value A_q3 A_q2 g_q2) (allS ⟨(A_q2.lt), f38⟩ all0) (lenOf pd__ILjava_lang_String__V rfl) rfl 0 rfl (by decide) hml.symm d15_30 (fun v29 T30 h31 vm32 _ w33 q34 C35 C36 X37 => ?_)
  obtain ⟨e40, f41, f42⟩ := q34
  subst e40
  show Go _ _ _ _ _ (mkF _ _ _ [])
  refine kALn X37 d15_33 rfl rfl ?_
  refine kDUP X37 d15_34 rfl ?_
  have f43 := (Fld.keep F_q0_count f41 (ninS d_q0_q2 nin0))
  refine kGETF X37 (wd G 88 rfl) Via.refl f43 d15_35 (fun T44 X45 => ?_)
  refine kILn X45 d15_38 rfl ?_
  refine kIADD X45 4 d15_39 (by decide) ?_
  have f46 := (Exa.keep E_q0 f41)
  refine kPUTF X45 (wd G 88 rfl) Via.refl f43 f46 (Or.inl (wd G 89 rfl)) (wd G 60 rfl) (ty := .int) (by decide) rfl rfl g_q0 (Safe.exa X45.hZ.alike f46 (by decide) (by decide)) d15_40 (fun T47 h48 L51 W50 X49 => ?_)
  have f52 := Fld.same W50 f43
  refine kALn X49 d15_43 rfl rfl ?_
  have K53 : Keep h0 h48 [q2, q0] := (Keep.wr (Keep.trans (Keep.refl h0 [q2, q0]) f41 (allS (Or.inl (List.mem_of_getElem? (i := 0) rfl)) all0)) W50 (Or.inl (List.mem_of_getElem? (i := 1) rfl)))
  have f54 := (Arv.other f42 W50 (Ne.symm d_q0_q2))
  have f55 := (Fld.other W50 (Fld.keep F_q0_coder f41 (ninS d_q0_q2 nin0)) (Or.inr (slot_ne (Or.inl (wd G 76 rfl)) (Or.inl (wd G 89 rfl)) (by decide) (by decide : parseFieldDescriptor "B" = some .byte) (by decide : parseFieldDescriptor "I" = some .int))))
  have f56 := (Fld.other W50 (Fld.keep F_q0_value f41 (ninS d_q0_q2 nin0)) (Or.inr (slot_ne (Or.inl (wd G 74 rfl)) (Or.inl (wd G 89 rfl)) (by decide) (by decide : parseFieldDescriptor "[B" = some (.array (.byte))) (by decide : parseFieldDescriptor "I" = some .int))))
  exact kRETA X49 (gEL G) hret rfl rfl d15_44 (fun ve hve => ⟨rfl, K53, f54, f55, f52, f56⟩) (by decide)
def R_rm99 : Room := { frames := 4, cells := 0, slots := 0, locals := 61 }
theorem rm99 (G : Glob Z a0 iCS vSI) (i0 i1 i2 : Int32) (q0 q1 q2 q3 : Addr) (kp0 kp1 : ClassId) (h0 : Heap) (Z0 : n0 ≤ h0.size) (O0 : Old Z n0 h0) (F_q1_value : Fld Z h0 q1 "java/lang/String" "value" "[B" (.ref q3)) (A_q3 : Arv Z h0 q3 kp1 .byte 2 [.int i1, .int i2] (.int 0)) (F_q1_coder : Fld Z h0 q1 "java/lang/String" "coder" "B" (.int 0)) (E_q1 : Exa Z h0 q1 "java/lang/String") (F_q0_count : Fld Z h0 q0 "java/lang/AbstractStringBuilder" "count" "I" (.int 2)) (F_q0_value : Fld Z h0 q0 "java/lang/AbstractStringBuilder" "value" "[B" (.ref q2)) (A_q2 : Arv Z h0 q2 kp0 .byte 16 [.int i0, .int 32, .int 0, .int 0, .int 0, .int 0, .int 0, .int 0, .int 0, .int 0, .int 0, .int 0, .int 0, .int 0, .int 0, .int 0] (.int 0)) (F_q0_coder : Fld Z h0 q0 "java/lang/AbstractStringBuilder" "coder" "B" (.int 0)) (E_q0 : Exa Z h0 q0 "java/lang/StringBuilder") (d_q0_q2 : q0 ≠ q2) (g_q0 : n0 ≤ q0) (g_q2 : n0 ≤ q2) : MetH l Z EL0 n0 N_jdk_67_m_7 jdk_67_method_7_code 2 (some (.object "java/lang/StringBuilder")) [] R_rm99 #[.ref q0, .ref q1] h0 [q2] (fun vs v h ve => (v = some (.ref q0) ∧ (Keep h0 h [q2, q0]) ∧ (Arv Z h q2 kp0 .byte 16 [.int i0, .int 32, .int i1, .int i2, .int 0, .int 0, .int 0, .int 0, .int 0, .int 0, .int 0, .int 0, .int 0, .int 0, .int 0, .int 0] (.int 0)) ∧ (Fld Z h q0 "java/lang/AbstractStringBuilder" "coder" "B" (.int 0)) ∧ (Fld Z h q0 "java/lang/AbstractStringBuilder" "count" "I" (.int 4)) ∧ (Fld Z h q0 "java/lang/AbstractStringBuilder" "value" "[B" (.ref q2)))) := by
  refine MetH.of #[.val (.ref q0), .val (.ref q1)] (plainFor_of_name pn_java_lang_StringBuilder) rfl Z0 (fun p e s m below meth c T0 hret hml hnm hSL hs0 X0 => ?_)
  have S_q2 := hSL q2 (List.mem_of_getElem? (i := 0) rfl)
  refine kALn X0 d14_0 rfl rfl ?_
  refine kALn X0 d14_1 rfl rfl ?_
  refine kSUP X0 (gEL G) (argsL := [.ref q1]) (rest := []) (wd G 82 rfl) (own_same (wd G 83 rfl) (own_noface (wd G 93 rfl) rfl) (by decide)) (wd G 83 rfl) (wd G 84 rfl) (by decide) (wd G 69 rfl) (wd G 86 rfl) (Ins.of_exa E_q0 (wd G 68 rfl)) (rm100 G i0 i1 i2 q0 q1 q2 q3 kp0 kp1 h0 X0.n O0 F_q1_value A_q3 F_q1_coder E_q1 F_q0_count F_q0_value A_q2 F_q0_coder E_q0 d_q0_q2 g_q0 g_q2) (allS ⟨(A_q2.lt), S_q2⟩ all0) (lenOf pd__Ljava_lang_String__Ljava_lang_AbstractStringBuilder_ rfl) rfl 0 rfl (by decide) hml.symm d14_2 (fun v1 T2 h3 vm4 _ w5 q6 C7 C8 X9 => ?_)
  obtain ⟨e11, f12, f13, f14, f15, f16⟩ := q6
  subst e11
  show Go _ _ _ _ _ (mkF _ _ _ [.ref q0])
  refine kPOP X9 d14_5 rfl ?_
  refine kALn X9 d14_6 rfl rfl ?_
  have K17 : Keep h0 h3 [q2, q0] := (Keep.trans (Keep.refl h0 [q2, q0]) f12 (allS (Or.inl (List.mem_of_getElem? (i := 0) rfl)) (allS (Or.inl (List.mem_of_getElem? (i := 1) rfl)) all0)))
  exact kRETA X9 (gEL G) hret rfl rfl d14_7 (fun ve hve => ⟨rfl, K17, f13, f14, f15, f16⟩) (by decide)
def R_rm108 : Room := { frames := 0, cells := 0, slots := 0, locals := 0 }
theorem rm108 (G : Glob Z a0 iCS vSI) (i0 i1 i2 : Int32) (q0 q1 : Addr) (kp0 : ClassId) (h0 : Heap) (Z0 : n0 ≤ h0.size) (O0 : Old Z n0 h0) (F_q0_value : Fld Z h0 q0 "java/lang/AbstractStringBuilder" "value" "[B" (.ref q1)) : MetH l Z EL0 n0 N_jdk_68_m_64 jdk_68_method_64_code 1 (some (.array (.byte))) [] R_rm108 #[.ref q0] h0 [] (fun vs v h ve => (v = some (.ref q1) ∧ (h0 = h))) := by
  refine MetH.of #[.val (.ref q0)] (plainFor_of_name pn_java_lang_AbstractStringBuilder) rfl Z0 (fun p e s m below meth c T0 hret hml hnm hSL hs0 X0 => ?_)
  refine kALn X0 d23_0 rfl rfl ?_
  refine kGETF X0 (wd G 73 rfl) Via.refl F_q0_value d23_1 (fun T1 X2 => ?_)
  exact kRETA X2 (gEL G) hret rfl rfl d23_4 (fun ve hve => ⟨rfl, rfl⟩) (by decide)
def R_rm110 : Room := { frames := 0, cells := 0, slots := 0, locals := 0 }
theorem rm110 (G : Glob Z a0 iCS vSI) (i0 i1 i2 : Int32) (q0 q1 : Addr) (kp0 : ClassId) (h0 : Heap) (Z0 : n0 ≤ h0.size) (O0 : Old Z n0 h0) (F_q0_count : Fld Z h0 q0 "java/lang/AbstractStringBuilder" "count" "I" (.int 4)) : MetH l Z EL0 n0 N_jdk_68_m_6 jdk_68_method_6_code 1 (some .int) [] R_rm110 #[.ref q0] h0 [] (fun vs v h ve => (v = some (.int 4) ∧ (h0 = h))) := by
  refine MetH.of #[.val (.ref q0)] (plainFor_of_name pn_java_lang_AbstractStringBuilder) rfl Z0 (fun p e s m below meth c T0 hret hml hnm hSL hs0 X0 => ?_)
  refine kALn X0 d25_0 rfl rfl ?_
  refine kGETF X0 (wd G 88 rfl) Via.refl F_q0_count d25_1 (fun T1 X2 => ?_)
  exact kRETI X2 (gEL G) hret d25_4 (fun ve hve => ⟨rfl, rfl⟩) (by decide)
def R_rm109 : Room := { frames := 1, cells := 0, slots := 0, locals := 12 }
theorem rm109 (G : Glob Z a0 iCS vSI) (i0 i1 i2 : Int32) (q0 q1 : Addr) (kp0 : ClassId) (h0 : Heap) (Z0 : n0 ≤ h0.size) (O0 : Old Z n0 h0) (F_q0_count : Fld Z h0 q0 "java/lang/AbstractStringBuilder" "count" "I" (.int 4)) (E_q0 : Exa Z h0 q0 "java/lang/StringBuilder") : MetH l Z EL0 n0 N_jdk_67_m_93 jdk_67_method_93_code 1 (some .int) [] R_rm109 #[.ref q0] h0 [] (fun vs v h ve => (v = some (.int 4) ∧ (h0 = h))) := by
  refine MetH.of #[.val (.ref q0)] (plainFor_of_name pn_java_lang_StringBuilder) rfl Z0 (fun p e s m below meth c T0 hret hml hnm hSL hs0 X0 => ?_)
  refine kALn X0 d24_0 rfl rfl ?_
  refine kSUP X0 (gEL G) (argsL := []) (rest := []) (wd G 139 rfl) (own_same (wd G 135 rfl) (own_noface (wd G 93 rfl) rfl) (by decide)) (wd G 135 rfl) (wd G 84 rfl) (by decide) (wd G 69 rfl) (wd G 140 rfl) (Ins.of_exa E_q0 (wd G 68 rfl)) (rm110 G i0 i1 i2 q0 q1 kp0 h0 X0.n O0 F_q0_count) all0 (lenOf pd___I rfl) rfl 0 rfl (by decide) hml.symm d24_1 (fun v1 T2 h3 vm4 _ w5 q6 C7 C8 X9 => ?_)
  obtain ⟨e11, f12⟩ := q6
  subst e11
  subst f12
  show Go _ _ _ _ _ (mkF _ _ _ [.int 4])
  exact kRETI X9 (gEL G) hret d24_4 (fun ve hve => ⟨rfl, rfl⟩) (by decide)
def R_rm111 : Room := { frames := 0, cells := 0, slots := 0, locals := 0 }
theorem rm111 (G : Glob Z a0 iCS vSI) (i0 i1 i2 : Int32) (q0 q1 : Addr) (kp0 : ClassId) (h0 : Heap) (Z0 : n0 ≤ h0.size) (O0 : Old Z n0 h0) (F_q0_coder : Fld Z h0 q0 "java/lang/AbstractStringBuilder" "coder" "B" (.int 0)) : MetH l Z EL0 n0 N_jdk_68_m_68 jdk_68_method_68_code 1 (some .boolean) [] R_rm111 #[.ref q0] h0 [] (fun vs v h ve => (v = some (.int 1) ∧ (h0 = h))) := by
  refine MetH.of #[.val (.ref q0)] (plainFor_of_name pn_java_lang_AbstractStringBuilder) rfl Z0 (fun p e s m below meth c T0 hret hml hnm hSL hs0 X0 => ?_)
  refine kGETS X0 (wd G 72 rfl) Via.refl (Sta.ext O0.2 (S_CS G)) d26_0 (fun T1 X2 => ?_)
  refine kIFf X2 d26_3 (XT.i0_eq_f (n_CS G)) ?_
  refine kALn X2 d26_6 rfl rfl ?_
  refine kGETF X2 (wd G 75 rfl) Via.refl F_q0_coder d26_7 (fun T3 X4 => ?_)
  refine kIFf X4 d26_10 (XT.i0_ne_f (by decide)) ?_
  refine kIC X4 1 d26_13 (by decide) ?_
  refine kGOTO X4 18 d26_14 (by decide) ?_
  exact kRETZ X4 (gEL G) (t := .boolean) hret (by simp) d26_18 (fun ve hve => ⟨rfl, rfl⟩) (by decide)
def R_rm114 : Room := { frames := 0, cells := 0, slots := 0, locals := 0 }
theorem rm114 (G : Glob Z a0 iCS vSI)  (h0 : Heap) (Z0 : n0 ≤ h0.size) (O0 : Old Z n0 h0)  : MetH l Z EL0 n0 N_jdk_65_m_131 jdk_65_method_131_code 2 none [] R_rm114 #[.int 0, .int 4] h0 [] (fun vs v h ve => (v = none ∧ (h0 = h))) := by
  refine MetH.of #[.val (.int 0), .val (.int 4)] (plainFor_of_name pn_java_util_Arrays) rfl Z0 (fun p e s m below meth c T0 hret hml hnm hSL hs0 X0 => ?_)
  refine kILn X0 d29_0 rfl ?_
  refine kILn X0 d29_1 rfl ?_
  refine kICt X0 37 d29_2 (XT.ii_ge_t (by decide)) (by decide) ?_
  exact kRETV X0 (gEL G) hret d29_37 (fun ve hve => ⟨rfl, rfl⟩) (by decide)
def R_rm115 : Room := { frames := 0, cells := 0, slots := 0, locals := 0 }
theorem rm115 (G : Glob Z a0 iCS vSI)  (h0 : Heap) (Z0 : n0 ≤ h0.size) (O0 : Old Z n0 h0)  : MetH l Z EL0 n0 N_jdk_29_m_69 jdk_29_method_69_code 2 (some .int) [] R_rm115 #[.int 16, .int 4] h0 [] (fun vs v h ve => (v = some (.int 4) ∧ (h0 = h))) := by
  refine MetH.of #[.val (.int 16), .val (.int 4)] pf_java_lang_Math_min rfl Z0 (fun p e s m below meth c T0 hret hml hnm hSL hs0 X0 => ?_)
  refine kILn X0 d30_0 rfl ?_
  refine kILn X0 d30_1 rfl ?_
  refine kICt X0 9 d30_2 (XT.ii_gt_t (by decide)) (by decide) ?_
  refine kILn X0 d30_9 rfl ?_
  exact kRETI X0 (gEL G) hret d30_10 (fun ve hve => ⟨rfl, rfl⟩) (by decide)
def R_rm113 : Room := { frames := 1, cells := 1, slots := 4, locals := 18 }
theorem rm113 (G : Glob Z a0 iCS vSI) (i0 i1 i2 : Int32) (q0 : Addr) (kp0 : ClassId) (h0 : Heap) (Z0 : n0 ≤ h0.size) (O0 : Old Z n0 h0) (A_q0 : Arv Z h0 q0 kp0 .byte 16 [.int i0, .int 32, .int i1, .int i2, .int 0, .int 0, .int 0, .int 0, .int 0, .int 0, .int 0, .int 0, .int 0, .int 0, .int 0, .int 0] (.int 0)) : MetH l Z EL0 n0 N_jdk_65_m_133 jdk_65_method_133_code 5 (some (.array (.byte))) [] R_rm113 #[.ref q0, .int 0, .int 4] h0 [] (fun vs v h ve => (∃ (x0 : Addr), ∃ (z0 : ClassId), v = some (.ref x0) ∧ (Keep h0 h []) ∧ (h0.size ≤ x0) ∧ (Arv Z h x0 z0 .byte 4 [.int i0, .int 32, .int i1, .int i2] (.int 0)) ∧ (Safe Z EL0 ve h x0))) := by
  refine MetH.of #[.val (.ref q0), .val (.int 0), .val (.int 4), .unset, .unset] (plainFor_of_name pn_java_util_Arrays) rfl Z0 (fun p e s m below meth c T0 hret hml hnm hSL hs0 X0 => ?_)
  refine kILn X0 d28_0 rfl ?_
  refine kILn X0 d28_1 rfl ?_
  refine kSTAT X0 (gEL G) (argsL := [.int 0, .int 4]) (rest := []) (wd G 153 rfl) (wd G 154 rfl) (wd G 148 rfl) (wd G 155 rfl) (by decide) (rm114 G  h0 X0.n O0 ) all0 (lenOf pd__II_V rfl) rfl 0 rfl (by decide) hml.symm d28_2 (fun v1 T2 h3 vm4 _ w5 q6 C7 C8 X9 => ?_)
  obtain ⟨e11, f12⟩ := q6
  subst e11
  subst f12
  show Go _ _ _ _ _ (mkF _ _ _ [])
  refine kILn X9 d28_5 rfl ?_
  refine kILn X9 d28_6 rfl ?_
  refine kISUB X9 4 d28_7 (by decide) ?_
  refine kISn X9 #[.val (.ref q0), .val (.int 0), .val (.int 4), .val (.int 4), .unset] d28_8 rfl ?_
  refine kILn X9 d28_9 rfl ?_
  refine kNEWP X9 (wd G 19 rfl) (cap := 4) d28_10 (by decide) (by decide) (by decide) (by decide) (by decide) (fun T13 h14 a16 k17 E18 q19 g20 A21 s22 X15 => ?_)
  have n23 : q0 ≠ a16 := Nat.ne_of_lt (Nat.lt_of_lt_of_le (A_q0.lt) (Nat.le_of_eq q19.symm))
  have g24 : h0.size ≤ a16 := q19 ▸ X9.g0
  have f25 : Arv Z h14 a16 k17 .byte 4 [.int 0, .int 0, .int 0, .int 0] (.int 0) := A21.pad (pad_rep [] _ 4)
  refine kAS X15 #[.val (.ref q0), .val (.int 0), .val (.int 4), .val (.int 4), .val (.ref a16)] d28_12 rfl rfl ?_
  refine kALn X15 d28_14 rfl rfl ?_
  refine kILn X15 d28_15 rfl ?_
  refine kAL X15 d28_16 rfl rfl ?_
  refine kIC X15 0 d28_18 (by decide) ?_
  refine kALn X15 d28_19 rfl rfl ?_
  have f26 := (Arv.ext A_q0 E18)
  refine kLEN X15 f26 d28_20 ?_
  refine kILn X15 d28_21 rfl ?_
  refine kISUB X15 16 d28_22 (by decide) ?_
  refine kILn X15 d28_23 rfl ?_
  have f27 := (Old.ext O0 E18)
  refine kSTAT X15 (gEL G) (argsL := [.int 16, .int 4]) (rest := [.int 0, .ref a16, .int 0, .ref q0]) (wd G 156 rfl) (wd G 157 rfl) (wd G 158 rfl) (wd G 159 rfl) (by decide) (rm115 G  h14 X15.n f27 ) all0 (lenOf pd__II_I rfl) rfl 4 rfl (by decide) hml.symm d28_24 (fun v28 T29 h30 vm31 _ w32 q33 C34 C35 X36 => ?_)
  obtain ⟨e38, f39⟩ := q33
  subst e38
  subst f39
  show Go _ _ _ _ _ (mkF _ _ _ [.int 4, .int 0, .ref a16, .int 0, .ref q0])
  have f40 := (CHr.safe C35 (f25.lt) s22)
  refine kCPA X36 (wd G 160 rfl) (wd G 114 rfl) (wd G 112 rfl) (wd G 113 rfl) f26 f25 (Or.inl ⟨rfl, rfl⟩) (us := [.int i0, .int 32, .int i1, .int i2]) (by decide) rfl (by show 4 ≤ 4; decide) g20 f40 hml.symm d28_27 (by decide) 0 (Nat.le_of_eq rfl) (by decide) (fun T41 h42 L44 K45 C46 f47 X43 => ?_)
  have f48 : Arv Z h42 a16 k17 .byte 4 [.int i0, .int 32, .int i1, .int i2] (.int 0) := f47
  refine kAL X43 d28_30 rfl rfl ?_
  have K49 : Keep h0 h42 [] := (Keep.trans (Keep.ext (Keep.refl h0 []) E18) K45 (allS (Or.inr g24) all0))
  have f50 := (CHr.safe C46 (f25.lt) f40)
  exact kRETA X43 (gEL G) hret rfl rfl d28_32 (fun ve hve => ⟨a16, k17, rfl, K49, g24, f48, (CHr.safe hve (f48.lt) f50)⟩) (by decide)
def R_rm112 : Room := { frames := 2, cells := 1, slots := 4, locals := 34 }
theorem rm112 (G : Glob Z a0 iCS vSI) (i0 i1 i2 : Int32) (q0 : Addr) (kp0 : ClassId) (h0 : Heap) (Z0 : n0 ≤ h0.size) (O0 : Old Z n0 h0) (A_q0 : Arv Z h0 q0 kp0 .byte 16 [.int i0, .int 32, .int i1, .int i2, .int 0, .int 0, .int 0, .int 0, .int 0, .int 0, .int 0, .int 0, .int 0, .int 0, .int 0, .int 0] (.int 0)) : MetH l Z EL0 n0 N_jdk_65_m_132 jdk_65_method_132_code 3 (some (.array (.byte))) [] R_rm112 #[.ref q0, .int 0, .int 4] h0 [] (fun vs v h ve => (∃ (x0 : Addr), ∃ (z0 : ClassId), v = some (.ref x0) ∧ (Keep h0 h []) ∧ (h0.size ≤ x0) ∧ (Arv Z h x0 z0 .byte 4 [.int i0, .int 32, .int i1, .int i2] (.int 0)) ∧ (Safe Z EL0 ve h x0))) := by
  refine MetH.of #[.val (.ref q0), .val (.int 0), .val (.int 4)] (plainFor_of_name pn_java_util_Arrays) rfl Z0 (fun p e s m below meth c T0 hret hml hnm hSL hs0 X0 => ?_)
  refine kILn X0 d27_0 rfl ?_
  refine kIFf X0 d27_1 (XT.i0_ne_f (by decide)) ?_
  refine kILn X0 d27_4 rfl ?_
  refine kALn X0 d27_5 rfl rfl ?_
  refine kLEN X0 A_q0 d27_6 ?_
  refine kICf X0 d27_7 (XT.ii_eq_f (by decide)) ?_
  refine kALn X0 d27_10 rfl rfl ?_
  refine kILn X0 d27_11 rfl ?_
  refine kILn X0 d27_12 rfl ?_
  refine kSTAT X0 (gEL G) (argsL := [.ref q0, .int 0, .int 4]) (rest := []) (wd G 150 rfl) (wd G 151 rfl) (wd G 148 rfl) (wd G 152 rfl) (by decide) (rm113 G i0 i1 i2 q0 kp0 h0 X0.n O0 A_q0) all0 (lenOf pd___BII__B rfl) rfl 0 rfl (by decide) hml.symm d27_13 (fun v1 T2 h3 vm4 _ w5 q6 C7 C8 X9 => ?_)
  obtain ⟨a11, k12, e13, f14, f15, f16, f17⟩ := q6
  subst e13
  have n18 : q0 ≠ a11 := Nat.ne_of_lt (Nat.lt_of_lt_of_le (A_q0.lt) f15)
  have g19 : n0 ≤ a11 := Nat.le_trans X0.n f15
  have g20 : h0.size ≤ a11 := Nat.le_trans X0.g0 f15
  show Go _ _ _ _ _ (mkF _ _ _ [.ref a11])
  have K21 : Keep h0 h3 [] := (Keep.trans (Keep.refl h0 []) f14 all0)
  exact kRETA X9 (gEL G) hret rfl rfl d27_16 (fun ve hve => ⟨a11, k12, rfl, K21, g20, f16, (CHr.safe hve (f16.lt) f17)⟩) (by decide)
def R_rm107 : Room := { frames := 3, cells := 1, slots := 4, locals := 49 }
theorem rm107 (G : Glob Z a0 iCS vSI) (i0 i1 i2 : Int32) (q0 q1 q2 : Addr) (kp0 : ClassId) (h0 : Heap) (Z0 : n0 ≤ h0.size) (O0 : Old Z n0 h0) (F_q1_value : Fld Z h0 q1 "java/lang/AbstractStringBuilder" "value" "[B" (.ref q2)) (E_q1 : Exa Z h0 q1 "java/lang/StringBuilder") (F_q1_count : Fld Z h0 q1 "java/lang/AbstractStringBuilder" "count" "I" (.int 4)) (F_q1_coder : Fld Z h0 q1 "java/lang/AbstractStringBuilder" "coder" "B" (.int 0)) (F_q0_coder : Fld Z h0 q0 "java/lang/String" "coder" "B" (.int 0)) (E_q0 : Exa Z h0 q0 "java/lang/String") (F_q0_value : Fld Z h0 q0 "java/lang/String" "value" "[B" (.null)) (A_q2 : Arv Z h0 q2 kp0 .byte 16 [.int i0, .int 32, .int i1, .int i2, .int 0, .int 0, .int 0, .int 0, .int 0, .int 0, .int 0, .int 0, .int 0, .int 0, .int 0, .int 0] (.int 0)) (d_q2_q0 : q2 ≠ q0) (g_q0 : n0 ≤ q0) : MetH l Z EL0 n0 N_jdk_42_m_150 jdk_42_method_150_code 5 none [] R_rm107 #[.ref q0, .ref q1, .null] h0 [q0] (fun vs v h ve => (∃ (x0 : Addr), ∃ (z0 : ClassId), v = none ∧ (Keep h0 h [q0]) ∧ (h0.size ≤ x0) ∧ (Arv Z h x0 z0 .byte 4 [.int i0, .int 32, .int i1, .int i2] (.int 0)) ∧ (Safe Z EL0 ve h x0) ∧ (Fld Z h q0 "java/lang/String" "coder" "B" (.int 0)) ∧ (Fld Z h q0 "java/lang/String" "value" "[B" (.ref x0)))) := by
  refine MetH.of #[.val (.ref q0), .val (.ref q1), .val .null, .unset, .unset] (plainFor_of_name pn_java_lang_String) rfl Z0 (fun p e s m below meth c T0 hret hml hnm hSL hs0 X0 => ?_)
  have S_q0 := hSL q0 (List.mem_of_getElem? (i := 0) rfl)
  refine kALn X0 d22_0 rfl rfl ?_
  refine kINIT X0 (wd G 15 rfl) (wd G 16 rfl) (wd G 17 rfl) hml.symm d22_1 (by decide) 0 (Nat.le_of_eq rfl) (by decide) (fun T1 X2 => ?_)
  refine kALn X2 d22_4 rfl rfl ?_
  refine kVIRT X2 (gEL G) (argsL := []) (rest := []) (wd G 128 rfl) (wd G 129 rfl) (own_nf X2.hZ (own_noface (wd G 93 rfl) rfl)) (wd G 131 rfl) (wd G 130 rfl) (wd G 69 rfl) (wd G 132 rfl) (by decide) E_q1 (rm108 G i0 i1 i2 q1 q2 kp0 h0 X2.n O0 F_q1_value) all0 (lenOf pd____B rfl) rfl 0 rfl (by decide) hml.symm d22_5 (fun v3 T4 h5 vm6 _ w7 q8 C9 C10 X11 => ?_)
  obtain ⟨e13, f14⟩ := q8
  subst e13
  subst f14
  show Go _ _ _ _ _ (mkF _ _ _ [.ref q2])
  refine kASn X11 #[.val (.ref q0), .val (.ref q1), .val .null, .val (.ref q2), .unset] d22_8 rfl rfl ?_
  refine kALn X11 d22_9 rfl rfl ?_
  refine kVIRT X11 (gEL G) (argsL := []) (rest := []) (wd G 133 rfl) (wd G 134 rfl) (own_nf X11.hZ (own_noface (wd G 93 rfl) rfl)) (wd G 136 rfl) (wd G 137 rfl) (wd G 61 rfl) (wd G 138 rfl) (by decide) E_q1 (rm109 G i0 i1 i2 q1 q2 kp0 h0 X11.n O0 F_q1_count E_q1) all0 (lenOf pd___I rfl) rfl 0 rfl (by decide) hml.symm d22_10 (fun v15 T16 h17 vm18 _ w19 q20 C21 C22 X23 => ?_)
  obtain ⟨e25, f26⟩ := q20
  subst e25
  subst f26
  show Go _ _ _ _ _ (mkF _ _ _ [.int 4])
  refine kIS X23 #[.val (.ref q0), .val (.ref q1), .val .null, .val (.ref q2), .val (.int 4)] d22_13 rfl ?_
  refine kALn X23 d22_15 rfl rfl ?_
  refine kVIRT X23 (gEL G) (argsL := []) (rest := []) (wd G 141 rfl) (wd G 142 rfl) (own_nf X23.hZ (own_noface (wd G 93 rfl) rfl)) (wd G 144 rfl) (wd G 143 rfl) (wd G 69 rfl) (wd G 145 rfl) (by decide) E_q1 (rm111 G i0 i1 i2 q1 q2 kp0 h0 X23.n O0 F_q1_coder) all0 (lenOf pd___Z rfl) rfl 0 rfl (by decide) hml.symm d22_16 (fun v27 T28 h29 vm30 _ w31 q32 C33 C34 X35 => ?_)
  obtain ⟨e37, f38⟩ := q32
  subst e37
  subst f38
  show Go _ _ _ _ _ (mkF _ _ _ [.int 1])
  refine kIFf X35 d22_19 (XT.i0_eq_f (by decide)) ?_
  refine kALn X35 d22_22 rfl rfl ?_
  refine kIC X35 0 d22_23 (by decide) ?_
  have f39 := (CHr.safe C34 (F_q0_value.lt) (CHr.safe C22 (F_q0_value.lt) (CHr.safe C10 (F_q0_value.lt) S_q0)))
  refine kPUTF X35 (wd G 25 rfl) Via.refl F_q0_coder E_q0 (Or.inr ⟨(wd G 21 rfl), rfl, hnm⟩) (wd G 6 rfl) (ty := .byte) (by decide) (by decide) (by decide) g_q0 f39 d22_24 (fun T40 h41 L44 W43 X42 => ?_)
  have f45 := Fld.same W43 F_q0_coder
  refine kALn X42 d22_27 rfl rfl ?_
  refine kALn X42 d22_28 rfl rfl ?_
  refine kIC X42 0 d22_29 (by decide) ?_
  refine kIL X42 d22_30 rfl ?_
  have f46 := (Arv.other A_q2 W43 d_q2_q0)
  have f47 := (Old.wr O0 W43 g_q0)
  refine kSTAT X42 (gEL G) (argsL := [.ref q2, .int 0, .int 4]) (rest := [.ref q0]) (wd G 146 rfl) (wd G 147 rfl) (wd G 148 rfl) (wd G 149 rfl) (by decide) (rm112 G i0 i1 i2 q2 kp0 h41 X42.n f47 f46) all0 (lenOf pd___BII__B rfl) rfl 1 rfl (by decide) hml.symm d22_32 (fun v48 T49 h50 vm51 _ w52 q53 C54 C55 X56 => ?_)
  obtain ⟨a58, k59, e60, f61, f62, f63, f64⟩ := q53
  subst e60
  have n65 : q0 ≠ a58 := Nat.ne_of_lt (Nat.lt_of_lt_of_le (f45.lt) f62)
  have f67 := (Exa.wr W43 E_q1)
  have n66 : q1 ≠ a58 := Nat.ne_of_lt (Nat.lt_of_lt_of_le (f67.lt) f62)
  have n68 : q2 ≠ a58 := Nat.ne_of_lt (Nat.lt_of_lt_of_le (f46.lt) f62)
  have g69 : n0 ≤ a58 := Nat.le_trans X42.n f62
  have g70 : h0.size ≤ a58 := Nat.le_trans X42.g0 f62
  show Go _ _ _ _ _ (mkF _ _ _ [.ref a58, .ref q0])
  have f71 := (Fld.keep (Fld.other W43 F_q0_value (Or.inr (slot_ne (Or.inr (wd G 20 rfl)) (Or.inr (wd G 21 rfl)) (by decide) (by decide : parseFieldDescriptor "[B" = some (.array (.byte))) (by decide : parseFieldDescriptor "B" = some .byte)))) f61 nin0)
  have f72 := (Exa.keep (Exa.wr W43 E_q0) f61)
  have f73 := (CHr.safe C55 (f45.lt) (Safe.wr W43 f39 X35.C.1 f39))
  refine kPUTF X56 (wd G 24 rfl) Via.refl f71 f72 (Or.inr ⟨(wd G 20 rfl), rfl, hnm⟩) (wd G 6 rfl) (ty := (.array (.byte))) (by decide) rfl rfl g_q0 f73 d22_35 (fun T74 h75 L78 W77 X76 => ?_)
  have f79 := Fld.same W77 f71
  refine kGOTO X76 97 d22_38 (by decide) ?_
  have K80 : Keep h0 h75 [q0] := (Keep.wr (Keep.trans (Keep.wr (Keep.refl h0 [q0]) W43 (Or.inl (List.mem_of_getElem? (i := 0) rfl))) f61 all0) W77 (Or.inl (List.mem_of_getElem? (i := 0) rfl)))
  have f81 := (Arv.other f63 W77 (Ne.symm n65))
  have f82 := (Safe.wr W77 f73 X56.C.1 f64)
  have f83 := (Fld.other W77 (Fld.keep f45 f61 nin0) (Or.inr (slot_ne (Or.inr (wd G 21 rfl)) (Or.inr (wd G 20 rfl)) (by decide) (by decide : parseFieldDescriptor "B" = some .byte) (by decide : parseFieldDescriptor "[B" = some (.array (.byte))))))
  exact kRETV X76 (gEL G) hret d22_97 (fun ve hve => ⟨a58, k59, rfl, K80, g70, f81, (CHr.safe hve (f81.lt) f82), f83, f79⟩) (by decide)
def R_rm106 : Room := { frames := 4, cells := 1, slots := 4, locals := 65 }
theorem rm106 (G : Glob Z a0 iCS vSI) (i0 i1 i2 : Int32) (q0 q1 q2 : Addr) (kp0 : ClassId) (h0 : Heap) (Z0 : n0 ≤ h0.size) (O0 : Old Z n0 h0) (F_q1_value : Fld Z h0 q1 "java/lang/AbstractStringBuilder" "value" "[B" (.ref q2)) (E_q1 : Exa Z h0 q1 "java/lang/StringBuilder") (F_q1_count : Fld Z h0 q1 "java/lang/AbstractStringBuilder" "count" "I" (.int 4)) (F_q1_coder : Fld Z h0 q1 "java/lang/AbstractStringBuilder" "coder" "B" (.int 0)) (F_q0_coder : Fld Z h0 q0 "java/lang/String" "coder" "B" (.int 0)) (E_q0 : Exa Z h0 q0 "java/lang/String") (F_q0_value : Fld Z h0 q0 "java/lang/String" "value" "[B" (.null)) (A_q2 : Arv Z h0 q2 kp0 .byte 16 [.int i0, .int 32, .int i1, .int i2, .int 0, .int 0, .int 0, .int 0, .int 0, .int 0, .int 0, .int 0, .int 0, .int 0, .int 0, .int 0] (.int 0)) (d_q2_q0 : q2 ≠ q0) (g_q0 : n0 ≤ q0) : MetH l Z EL0 n0 N_jdk_42_m_53 jdk_42_method_53_code 2 none [] R_rm106 #[.ref q0, .ref q1] h0 [q0] (fun vs v h ve => (∃ (x0 : Addr), ∃ (z0 : ClassId), v = none ∧ (Keep h0 h [q0]) ∧ (h0.size ≤ x0) ∧ (Arv Z h x0 z0 .byte 4 [.int i0, .int 32, .int i1, .int i2] (.int 0)) ∧ (Safe Z EL0 ve h x0) ∧ (Fld Z h q0 "java/lang/String" "coder" "B" (.int 0)) ∧ (Fld Z h q0 "java/lang/String" "value" "[B" (.ref x0)))) := by
  refine MetH.of #[.val (.ref q0), .val (.ref q1)] (plainFor_of_name pn_java_lang_String) rfl Z0 (fun p e s m below meth c T0 hret hml hnm hSL hs0 X0 => ?_)
  have S_q0 := hSL q0 (List.mem_of_getElem? (i := 0) rfl)
  refine kALn X0 d21_0 rfl rfl ?_
  refine kALn X0 d21_1 rfl rfl ?_
  refine kNULL X0 d21_2 ?_
  refine kSPEC X0 (gEL G) (argsL := [.ref q1, .null]) (rest := []) (wd G 125 rfl) (wd G 126 rfl) (wd G 7 rfl) (wd G 127 rfl) rfl (by decide) (rm107 G i0 i1 i2 q0 q1 q2 kp0 h0 X0.n O0 F_q1_value E_q1 F_q1_count F_q1_coder F_q0_coder E_q0 F_q0_value A_q2 d_q2_q0 g_q0) (allS ⟨(E_q0.lt), S_q0⟩ all0) (lenOf pd__Ljava_lang_AbstractStringBuilder_Ljava_lang_Void__V rfl) rfl 0 rfl (by decide) hml.symm d21_3 (fun v1 T2 h3 vm4 _ w5 q6 C7 C8 X9 => ?_)
  obtain ⟨a11, k12, e13, f14, f15, f16, f17, f18, f19⟩ := q6
  subst e13
  have n20 : q0 ≠ a11 := Nat.ne_of_lt (Nat.lt_of_lt_of_le (E_q0.lt) f15)
  have n21 : q1 ≠ a11 := Nat.ne_of_lt (Nat.lt_of_lt_of_le (E_q1.lt) f15)
  have n22 : q2 ≠ a11 := Nat.ne_of_lt (Nat.lt_of_lt_of_le (A_q2.lt) f15)
  have g23 : n0 ≤ a11 := Nat.le_trans X0.n f15
  have g24 : h0.size ≤ a11 := Nat.le_trans X0.g0 f15
  show Go _ _ _ _ _ (mkF _ _ _ [])
  have K25 : Keep h0 h3 [q0] := (Keep.trans (Keep.refl h0 [q0]) f14 (allS (Or.inl (List.mem_of_getElem? (i := 0) rfl)) all0))
  exact kRETV X9 (gEL G) hret d21_6 (fun ve hve => ⟨a11, k12, rfl, K25, g24, f16, (CHr.safe hve (f16.lt) f17), f18, f19⟩) (by decide)
def R_rm105 : Room := { frames := 5, cells := 2, slots := 8, locals := 79 }
theorem rm105 (G : Glob Z a0 iCS vSI) (i0 i1 i2 : Int32) (q0 q1 : Addr) (kp0 : ClassId) (h0 : Heap) (Z0 : n0 ≤ h0.size) (O0 : Old Z n0 h0) (E_q0 : Exa Z h0 q0 "java/lang/StringBuilder") (A_q1 : Arv Z h0 q1 kp0 .byte 16 [.int i0, .int 32, .int i1, .int i2, .int 0, .int 0, .int 0, .int 0, .int 0, .int 0, .int 0, .int 0, .int 0, .int 0, .int 0, .int 0] (.int 0)) (F_q0_value : Fld Z h0 q0 "java/lang/AbstractStringBuilder" "value" "[B" (.ref q1)) (F_q0_count : Fld Z h0 q0 "java/lang/AbstractStringBuilder" "count" "I" (.int 4)) (F_q0_coder : Fld Z h0 q0 "java/lang/AbstractStringBuilder" "coder" "B" (.int 0)) : MetH l Z EL0 n0 N_jdk_67_m_42 jdk_67_method_42_code 1 (some (.object "java/lang/String")) [] R_rm105 #[.ref q0] h0 [] (fun vs v h ve => (∃ (x0 : Addr), ∃ (x1 : Addr), ∃ (z0 : ClassId), v = some (.ref x0) ∧ (Keep h0 h []) ∧ (h0.size ≤ x0) ∧ (h0.size ≤ x1) ∧ (x0 ≠ x1) ∧ (Exa Z h x0 "java/lang/String") ∧ (Fld Z h x0 "java/lang/String" "coder" "B" (.int 0)) ∧ (Fld Z h x0 "java/lang/String" "value" "[B" (.ref x1)) ∧ (Safe Z EL0 ve h x0) ∧ (Arv Z h x1 z0 .byte 4 [.int i0, .int 32, .int i1, .int i2] (.int 0)) ∧ (Safe Z EL0 ve h x1))) := by
  refine MetH.of #[.val (.ref q0)] (plainFor_of_name pn_java_lang_StringBuilder) rfl Z0 (fun p e s m below meth c T0 hret hml hnm hSL hs0 X0 => ?_)
  refine kNEW X0 (wd G 121 rfl) (wd G 6 rfl) (wd G 7 rfl) d20_0 (by decide) (by decide) (fun T1 h2 a4 E5 q6 g7 A8 D9 s10 X3 => ?_)
  have n11 : q0 ≠ a4 := Nat.ne_of_lt (Nat.lt_of_lt_of_le (E_q0.lt) (Nat.le_of_eq q6.symm))
  have n12 : q1 ≠ a4 := Nat.ne_of_lt (Nat.lt_of_lt_of_le (A_q1.lt) (Nat.le_of_eq q6.symm))
  have g13 : h0.size ≤ a4 := q6 ▸ X0.g0
  have f14 : Fld Z h2 a4 "java/lang/String" "value" "[B" (.null) := D9 (Or.inr (wd G 20 rfl)) (ty := (.array (.byte))) (by decide)
  have f15 : Fld Z h2 a4 "java/lang/String" "coder" "B" (.int 0) := D9 (Or.inr (wd G 21 rfl)) (ty := .byte) (by decide)
  refine kDUP X3 d20_3 rfl ?_
  refine kALn X3 d20_4 rfl rfl ?_
  have f16 := (Fld.ext E5 F_q0_value)
  have f17 := (Exa.ext E5 E_q0)
  have f18 := (Fld.ext E5 F_q0_count)
  have f19 := (Fld.ext E5 F_q0_coder)
  have f20 := (Arv.ext A_q1 E5)
  have f21 := (Old.ext O0 E5)
  refine kSPEC X3 (gEL G) (argsL := [.ref q0]) (rest := [.ref a4]) (wd G 122 rfl) (wd G 123 rfl) (wd G 7 rfl) (wd G 124 rfl) rfl (by decide) (rm106 G i0 i1 i2 a4 q0 q1 kp0 h2 X3.n f21 f16 f17 f18 f19 f15 A8 f14 f20 n12 g7) (allS ⟨(A8.lt), s10⟩ all0) (lenOf pd__Ljava_lang_StringBuilder__V rfl) rfl 1 rfl (by decide) hml.symm d20_5 (fun v22 T23 h24 vm25 _ w26 q27 C28 C29 X30 => ?_)
  obtain ⟨a32, k33, e34, f35, f36, f37, f38, f39, f40⟩ := q27
  subst e34
  have n41 : q0 ≠ a32 := Nat.ne_of_lt (Nat.lt_of_lt_of_le (f17.lt) f36)
  have n42 : q1 ≠ a32 := Nat.ne_of_lt (Nat.lt_of_lt_of_le (f20.lt) f36)
  have n43 : a4 ≠ a32 := Nat.ne_of_lt (Nat.lt_of_lt_of_le (A8.lt) f36)
  have g44 : n0 ≤ a32 := Nat.le_trans X3.n f36
  have g45 : h0.size ≤ a32 := Nat.le_trans X3.g0 f36
  show Go _ _ _ _ _ (mkF _ _ _ [.ref a4])
  have K46 : Keep h0 h24 [] := (Keep.trans (Keep.ext (Keep.refl h0 []) E5) f35 (allS (Or.inr g13) all0))
  have f47 := (Exa.keep A8 f35)
  have f48 := (CHr.safe C29 (f15.lt) s10)
  exact kRETA X30 (gEL G) hret rfl rfl d20_8 (fun ve hve => ⟨a4, a32, k33, rfl, K46, g13, g45, n43, f47, f39, f40, (CHr.safe hve (f47.lt) f48), f37, (CHr.safe hve (f37.lt) f38)⟩) (by decide)
def R_rm97 : Room := { frames := 6, cells := 6, slots := 36, locals := 91 }
theorem rm97 (G : Glob Z a0 iCS vSI) (i0 i1 i2 : Int32) (q0 q1 q2 q3 : Addr) (kp0 kp1 : ClassId) (h0 : Heap) (Z0 : n0 ≤ h0.size) (O0 : Old Z n0 h0) (F_q0_value : Fld Z h0 q0 "java/lang/String" "value" "[B" (.ref q2)) (A_q2 : Arv Z h0 q2 kp0 .byte 1 [.int i0] (.int 0)) (E_q0 : Exa Z h0 q0 "java/lang/String") (F_q1_value : Fld Z h0 q1 "java/lang/String" "value" "[B" (.ref q3)) (A_q3 : Arv Z h0 q3 kp1 .byte 2 [.int i1, .int i2] (.int 0)) (E_q1 : Exa Z h0 q1 "java/lang/String") (F_q0_coder : Fld Z h0 q0 "java/lang/String" "coder" "B" (.int 0)) (F_q1_coder : Fld Z h0 q1 "java/lang/String" "coder" "B" (.int 0)) : MetH l Z EL0 n0 N_prog_30_m_3 prog_30_method_3_code 3 (some (.object "java/lang/String")) [] R_rm97 #[.ref q0, .ref q1] h0 [q0, q1, q2, q3] (fun vs v h ve => (∃ (x0 : Addr), ∃ (x1 : Addr), ∃ (z0 : ClassId), v = some (.ref x0) ∧ (Keep h0 h []) ∧ (h0.size ≤ x0) ∧ (h0.size ≤ x1) ∧ (x0 ≠ x1) ∧ (Exa Z h x0 "java/lang/String") ∧ (Fld Z h x0 "java/lang/String" "coder" "B" (.int 0)) ∧ (Fld Z h x0 "java/lang/String" "value" "[B" (.ref x1)) ∧ (Safe Z EL0 ve h x0) ∧ (Arv Z h x1 z0 .byte 4 [.int i0, .int 32, .int i1, .int i2] (.int 0)) ∧ (Safe Z EL0 ve h x1))) := by
  refine MetH.of #[.val (.ref q0), .val (.ref q1), .unset] (plainFor_of_name pn_com_example_tight_calculus_tightcalculus_Report) rfl Z0 (fun p e s m below meth c T0 hret hml hnm hSL hs0 X0 => ?_)
  have S_q0 := hSL q0 (List.mem_of_getElem? (i := 0) rfl)
  have S_q1 := hSL q1 (List.mem_of_getElem? (i := 1) rfl)
  have S_q2 := hSL q2 (List.mem_of_getElem? (i := 2) rfl)
  have S_q3 := hSL q3 (List.mem_of_getElem? (i := 3) rfl)
  refine kALn X0 d4_0 rfl rfl ?_
  refine kVIRT X0 (gEL G) (argsL := []) (rest := []) (wd G 30 rfl) (wd G 31 rfl) (own_nf X0.hZ (own_noinst (wd G 6 rfl))) (wd G 33 rfl) (wd G 32 rfl) (wd G 7 rfl) (wd G 34 rfl) (by decide) E_q0 (rm46 G i0 q0 q2 kp0 h0 X0.n O0 F_q0_value A_q2) all0 (lenOf pd___Z rfl) rfl 0 rfl (by decide) hml.symm d4_1 (fun v1 T2 h3 vm4 _ w5 q6 C7 C8 X9 => ?_)
  obtain ⟨e11, f12⟩ := q6
  subst e11
  subst f12
  show Go _ _ _ _ _ (mkF _ _ _ [.int 0])
  refine kIFt X9 12 d4_4 (XT.i0_eq_t (by decide)) (by decide) ?_
  refine kALn X9 d4_12 rfl rfl ?_
  refine kVIRT X9 (gEL G) (argsL := []) (rest := []) (wd G 30 rfl) (wd G 31 rfl) (own_nf X9.hZ (own_noinst (wd G 6 rfl))) (wd G 33 rfl) (wd G 32 rfl) (wd G 7 rfl) (wd G 34 rfl) (by decide) E_q1 (rm98 G i1 i2 q1 q3 kp1 h0 X9.n O0 F_q1_value A_q3) all0 (lenOf pd___Z rfl) rfl 0 rfl (by decide) hml.symm d4_13 (fun v13 T14 h15 vm16 _ w17 q18 C19 C20 X21 => ?_)
  obtain ⟨e23, f24⟩ := q18
  subst e23
  subst f24
  show Go _ _ _ _ _ (mkF _ _ _ [.int 0])
  refine kIFt X21 24 d4_16 (XT.i0_eq_t (by decide)) (by decide) ?_
  refine kNEW X21 (wd G 59 rfl) (wd G 60 rfl) (wd G 61 rfl) d4_24 (by decide) (by decide) (fun T25 h26 a28 E29 q30 g31 A32 D33 s34 X27 => ?_)
  have n35 : q0 ≠ a28 := Nat.ne_of_lt (Nat.lt_of_lt_of_le (E_q0.lt) (Nat.le_of_eq q30.symm))
  have n36 : q1 ≠ a28 := Nat.ne_of_lt (Nat.lt_of_lt_of_le (E_q1.lt) (Nat.le_of_eq q30.symm))
  have n37 : q2 ≠ a28 := Nat.ne_of_lt (Nat.lt_of_lt_of_le (A_q2.lt) (Nat.le_of_eq q30.symm))
  have n38 : q3 ≠ a28 := Nat.ne_of_lt (Nat.lt_of_lt_of_le (A_q3.lt) (Nat.le_of_eq q30.symm))
  have g39 : h0.size ≤ a28 := q30 ▸ X21.g0
  have f40 : Fld Z h26 a28 "java/lang/AbstractStringBuilder" "value" "[B" (.null) := D33 (Or.inl (wd G 74 rfl)) (ty := (.array (.byte))) (by decide)
  have f41 : Fld Z h26 a28 "java/lang/AbstractStringBuilder" "coder" "B" (.int 0) := D33 (Or.inl (wd G 76 rfl)) (ty := .byte) (by decide)
  have f42 : Fld Z h26 a28 "java/lang/AbstractStringBuilder" "count" "I" (.int 0) := D33 (Or.inl (wd G 89 rfl)) (ty := .int) (by decide)
  refine kDUP X27 d4_27 rfl ?_
  have f43 := (Old.ext O0 E29)
  refine kSPEC X27 (gEL G) (argsL := []) (rest := [.ref a28]) (wd G 62 rfl) (wd G 63 rfl) (wd G 61 rfl) (wd G 64 rfl) rfl (by decide) (rm54 G a28 h26 X27.n f43 A32 f40 f41 f42 g31) all0 (lenOf pd___V rfl) rfl 1 rfl (by decide) hml.symm d4_28 (fun v44 T45 h46 vm47 _ w48 q49 C50 C51 X52 => ?_)
  obtain ⟨a54, k55, e56, f57, f58, f59, f60, f61, f62, f63⟩ := q49
  subst e56
  have f65 := (Exa.ext E29 E_q0)
  have n64 : q0 ≠ a54 := Nat.ne_of_lt (Nat.lt_of_lt_of_le (f65.lt) f58)
  have f67 := (Exa.ext E29 E_q1)
  have n66 : q1 ≠ a54 := Nat.ne_of_lt (Nat.lt_of_lt_of_le (f67.lt) f58)
  have f69 := (Arv.ext A_q2 E29)
  have n68 : q2 ≠ a54 := Nat.ne_of_lt (Nat.lt_of_lt_of_le (f69.lt) f58)
  have f71 := (Arv.ext A_q3 E29)
  have n70 : q3 ≠ a54 := Nat.ne_of_lt (Nat.lt_of_lt_of_le (f71.lt) f58)
  have n72 : a28 ≠ a54 := Nat.ne_of_lt (Nat.lt_of_lt_of_le (A32.lt) f58)
  have g73 : n0 ≤ a54 := Nat.le_trans X27.n f58
  have g74 : h0.size ≤ a54 := Nat.le_trans X27.g0 f58
  show Go _ _ _ _ _ (mkF _ _ _ [.ref a28])
  refine kALn X52 d4_31 rfl rfl ?_
  have f75 := (Fld.keep (Fld.ext E29 F_q0_value) f57 (ninS n35 nin0))
  have f76 := (Arv.keep f69 f57 (ninS n37 nin0))
  have f77 := (Fld.keep (Fld.ext E29 F_q0_coder) f57 (ninS n35 nin0))
  have f78 := (Exa.keep f65 f57)
  have f79 := (Exa.keep A32 f57)
  have f80 := (Old.keep f43 f57 (allS g31 all0))
  refine kVIRT X52 (gEL G) (argsL := [.ref q0]) (rest := []) (wd G 77 rfl) (wd G 78 rfl) (own_nf X52.hZ (own_noinst (wd G 60 rfl))) (wd G 80 rfl) (wd G 79 rfl) (wd G 61 rfl) (wd G 81 rfl) (by decide) f79 (rm56 G i0 a28 q0 a54 q2 k55 kp0 h46 X52.n f80 f75 f76 f77 f78 f62 f63 f59 f61 f79 n72 g31 g73) (allS ⟨(f59.lt), f60⟩ all0) (lenOf pd__Ljava_lang_String__Ljava_lang_StringBuilder_ rfl) rfl 0 rfl (by decide) hml.symm d4_32 (fun v81 T82 h83 vm84 _ w85 q86 C87 C88 X89 => ?_)
  obtain ⟨e91, f92, f93, f94, f95, f96⟩ := q86
  subst e91
  show Go _ _ _ _ _ (mkF _ _ _ [.ref a28])
  refine kLDCT X89 (gEL G) (wd G 115 rfl) (gSA G) (by decide) (text := " ") (vs := [.int 32]) (z := 1) (by decide) (by decide) (by decide) d4_35 (n := 4) (by decide) (by decide) (by decide) (by decide) (fun T97 h98 vm100 a101 b102 k103 E104 C105 f106 f107 f108 f109 n110 X99 => ?_)
  have f111 := (CHr.safe C105 ((Exa.keep f78 f92)).lt (CHr.safe C88 (f78.lt) (CHr.safe C51 (f65.lt) (Safe.ext E29 X21.C.1 (CHr.safe C20 (E_q0.lt) (CHr.safe C8 (E_q0.lt) S_q0))))))
  have n112 := (n110 q0 f111).1
  have n113 := (n110 q0 f111).2
  have f114 := (CHr.safe C105 ((Exa.keep (Exa.keep f67 f57) f92)).lt (CHr.safe C88 ((Exa.keep f67 f57)).lt (CHr.safe C51 (f67.lt) (Safe.ext E29 X21.C.1 (CHr.safe C20 (F_q1_value.lt) (CHr.safe C8 (F_q1_coder.lt) S_q1))))))
  have n115 := (n110 q1 f114).1
  have n116 := (n110 q1 f114).2
  have f117 := (CHr.safe C105 ((Arv.keep f76 f92 (ninS n68 (ninS n37 nin0)))).lt (CHr.safe C88 (f76.lt) (CHr.safe C51 (f69.lt) (Safe.ext E29 X21.C.1 (CHr.safe C20 (A_q2.lt) (CHr.safe C8 (A_q2.lt) S_q2))))))
  have n118 := (n110 q2 f117).1
  have n119 := (n110 q2 f117).2
  have f120 := (CHr.safe C105 ((Arv.keep (Arv.keep f71 f57 (ninS n38 nin0)) f92 (ninS n70 (ninS n38 nin0)))).lt (CHr.safe C88 ((Arv.keep f71 f57 (ninS n38 nin0))).lt (CHr.safe C51 (f71.lt) (Safe.ext E29 X21.C.1 (CHr.safe C20 (A_q3.lt) (CHr.safe C8 (A_q3.lt) S_q3))))))
  have n121 := (n110 q3 f120).1
  have n122 := (n110 q3 f120).2
  have f123 := (Exa.ext E104 (Exa.keep f79 f92))
  have n124 := (n110 a28 (Safe.exa X99.hZ.alike f123 (by decide) (by decide))).1
  have n125 := (n110 a28 (Safe.exa X99.hZ.alike f123 (by decide) (by decide))).2
  have f126 := (CHr.safe C105 (f93.lt) (CHr.safe C88 (f59.lt) f60))
  have n127 := (n110 a54 f126).1
  have n128 := (n110 a54 f126).2
  have n129 : ∀ x, x < h0.size → Safe Z EL0 s.vm h0 x → x ≠ b102 := fun x hx S => (n110 x (CHr.safe (hs0 ▸ X99.C) hx S)).2
  have f130 := (Fld.ext E104 f95)
  have f131 := (Fld.ext E104 f96)
  have f132 := (Arv.ext f93 E104)
  have f133 := (Fld.ext E104 f94)
  have f134 := (Old.ext (Old.keep f80 f92 (allS g73 (allS g31 all0))) E104)
  refine kVIRT X99 (gEL G) (argsL := [.ref a101]) (rest := []) (wd G 77 rfl) (wd G 78 rfl) (own_nf X99.hZ (own_noinst (wd G 60 rfl))) (wd G 80 rfl) (wd G 79 rfl) (wd G 61 rfl) (wd G 81 rfl) (by decide) f123 (rm62 G i0 a28 a101 a54 b102 k55 k103 h98 X99.n f134 f108 f109 f107 f106 f130 f131 f132 f133 f123 n72 g31 g73) (allS ⟨(f132.lt), f126⟩ all0) (lenOf pd__Ljava_lang_String__Ljava_lang_StringBuilder_ rfl) rfl 0 rfl (by decide) hml.symm d4_37 (fun v135 T136 h137 vm138 _ w139 q140 C141 C142 X143 => ?_)
  obtain ⟨e145, f146, f147, f148, f149, f150⟩ := q140
  subst e145
  show Go _ _ _ _ _ (mkF _ _ _ [.ref a28])
  refine kALn X143 d4_40 rfl rfl ?_
  have f151 := (Fld.keep (Fld.ext E104 (Fld.keep (Fld.keep (Fld.ext E29 F_q1_value) f57 (ninS n36 nin0)) f92 (ninS n66 (ninS n36 nin0)))) f146 (ninS n66 (ninS n36 nin0)))
  have f152 := (Arv.keep (Arv.ext (Arv.keep (Arv.keep f71 f57 (ninS n38 nin0)) f92 (ninS n70 (ninS n38 nin0))) E104) f146 (ninS n70 (ninS n38 nin0)))
  have f153 := (Fld.keep (Fld.ext E104 (Fld.keep (Fld.keep (Fld.ext E29 F_q1_coder) f57 (ninS n36 nin0)) f92 (ninS n66 (ninS n36 nin0)))) f146 (ninS n66 (ninS n36 nin0)))
  have f154 := (Exa.keep (Exa.ext E104 (Exa.keep (Exa.keep f67 f57) f92)) f146)
  have f155 := (Exa.keep f123 f146)
  have f156 := (Old.keep f134 f146 (allS g73 (allS g31 all0)))
  have f166 := (CHr.safe C142 (f132.lt) f126)
  refine kVIRT X143 (gEL G) (argsL := [.ref q1]) (rest := []) (wd G 77 rfl) (wd G 78 rfl) (own_nf X143.hZ (own_noinst (wd G 60 rfl))) (wd G 80 rfl) (wd G 79 rfl) (wd G 61 rfl) (wd G 81 rfl) (by decide) f155 (rm99 G i0 i1 i2 a28 q1 a54 q3 k55 kp1 h137 X143.n f156 f151 f152 f153 f154 f149 f150 f147 f148 f155 n72 g31 g73) (allS ⟨(f147.lt), f166⟩ all0) (lenOf pd__Ljava_lang_String__Ljava_lang_StringBuilder_ rfl) rfl 0 rfl (by decide) hml.symm d4_41 (fun v157 T158 h159 vm160 _ w161 q162 C163 C164 X165 => ?_)
  obtain ⟨e168, f169, f170, f171, f172, f173⟩ := q162
  subst e168
  show Go _ _ _ _ _ (mkF _ _ _ [.ref a28])
  have f174 := (Exa.keep f155 f169)
  have f175 := (Old.keep f156 f169 (allS g73 (allS g31 all0)))
  refine kVIRT X165 (gEL G) (argsL := []) (rest := []) (wd G 116 rfl) (wd G 117 rfl) (own_nf X165.hZ (own_noinst (wd G 60 rfl))) (wd G 119 rfl) (wd G 118 rfl) (wd G 61 rfl) (wd G 120 rfl) (by decide) f174 (rm105 G i0 i1 i2 a28 a54 k55 h159 X165.n f175 f174 f170 f173 f172 f171) all0 (lenOf pd___Ljava_lang_String_ rfl) rfl 0 rfl (by decide) hml.symm d4_44 (fun v176 T177 h178 vm179 _ w180 q181 C182 C183 X184 => ?_)
  obtain ⟨a186, a187, k188, e189, f190, f191, f192, f193, f194, f195, f196, f197, f198, f199⟩ := q181
  subst e189
  have f201 := (Exa.keep (Exa.keep (Exa.ext E104 (Exa.keep f78 f92)) f146) f169)
  have n200 : q0 ≠ a186 := Nat.ne_of_lt (Nat.lt_of_lt_of_le (f201.lt) f191)
  have f203 := (Exa.keep f154 f169)
  have n202 : q1 ≠ a186 := Nat.ne_of_lt (Nat.lt_of_lt_of_le (f203.lt) f191)
  have f205 := (Arv.keep (Arv.keep (Arv.ext (Arv.keep f76 f92 (ninS n68 (ninS n37 nin0))) E104) f146 (ninS n68 (ninS n37 nin0))) f169 (ninS n68 (ninS n37 nin0)))
  have n204 : q2 ≠ a186 := Nat.ne_of_lt (Nat.lt_of_lt_of_le (f205.lt) f191)
  have f207 := (Arv.keep f152 f169 (ninS n70 (ninS n38 nin0)))
  have n206 : q3 ≠ a186 := Nat.ne_of_lt (Nat.lt_of_lt_of_le (f207.lt) f191)
  have n208 : a28 ≠ a186 := Nat.ne_of_lt (Nat.lt_of_lt_of_le (f174.lt) f191)
  have n209 : a54 ≠ a186 := Nat.ne_of_lt (Nat.lt_of_lt_of_le (f170.lt) f191)
  have f211 := (Exa.keep (Exa.keep f106 f146) f169)
  have n210 : a101 ≠ a186 := Nat.ne_of_lt (Nat.lt_of_lt_of_le (f211.lt) f191)
  have f213 := (Arv.keep (Arv.keep f109 f146 (ninS (Ne.symm n128) (ninS (Ne.symm n125) nin0))) f169 (ninS (Ne.symm n128) (ninS (Ne.symm n125) nin0)))
  have n212 : b102 ≠ a186 := Nat.ne_of_lt (Nat.lt_of_lt_of_le (f213.lt) f191)
  have n214 : q0 ≠ a187 := Nat.ne_of_lt (Nat.lt_of_lt_of_le (f201.lt) f192)
  have n215 : q1 ≠ a187 := Nat.ne_of_lt (Nat.lt_of_lt_of_le (f203.lt) f192)
  have n216 : q2 ≠ a187 := Nat.ne_of_lt (Nat.lt_of_lt_of_le (f205.lt) f192)
  have n217 : q3 ≠ a187 := Nat.ne_of_lt (Nat.lt_of_lt_of_le (f207.lt) f192)
  have n218 : a28 ≠ a187 := Nat.ne_of_lt (Nat.lt_of_lt_of_le (f174.lt) f192)
  have n219 : a54 ≠ a187 := Nat.ne_of_lt (Nat.lt_of_lt_of_le (f170.lt) f192)
  have n220 : a101 ≠ a187 := Nat.ne_of_lt (Nat.lt_of_lt_of_le (f211.lt) f192)
  have n221 : b102 ≠ a187 := Nat.ne_of_lt (Nat.lt_of_lt_of_le (f213.lt) f192)
  have g222 : n0 ≤ a186 := Nat.le_trans X165.n f191
  have g223 : h0.size ≤ a186 := Nat.le_trans X165.g0 f191
  have g224 : n0 ≤ a187 := Nat.le_trans X165.n f192
  have g225 : h0.size ≤ a187 := Nat.le_trans X165.g0 f192
  show Go _ _ _ _ _ (mkF _ _ _ [.ref a186])
  refine kASn X184 #[.val (.ref q0), .val (.ref q1), .val (.ref a186)] d4_47 rfl rfl ?_
  refine kALn X184 d4_48 rfl rfl ?_
  have K226 : Keep h0 h178 [] := (Keep.trans (Keep.trans (Keep.trans (Keep.ext (Keep.trans (Keep.trans (Keep.ext (Keep.refl h0 []) E29) f57 (allS (Or.inr g39) all0)) f92 (allS (Or.inr g74) (allS (Or.inr g39) all0))) E104) f146 (allS (Or.inr g74) (allS (Or.inr g39) all0))) f169 (allS (Or.inr g74) (allS (Or.inr g39) all0))) f190 all0)
  exact kRETA X184 (gEL G) hret rfl rfl d4_49 (fun ve hve => ⟨a186, a187, k188, rfl, K226, g223, g225, f193, f194, f195, f196, (CHr.safe hve (f194.lt) f197), f198, (CHr.safe hve (f198.lt) f199)⟩) (by decide)
def R_rm117 : Room := { frames := 0, cells := 0, slots := 0, locals := 0 }
theorem rm117 (G : Glob Z a0 iCS vSI) (i0 i1 i2 : Int32) (q0 q1 : Addr) (kp0 : ClassId) (h0 : Heap) (Z0 : n0 ≤ h0.size) (O0 : Old Z n0 h0) (F_q0_coder : Fld Z h0 q0 "java/lang/String" "coder" "B" (.int 0)) : MetH l Z EL0 n0 N_jdk_42_m_152 jdk_42_method_152_code 1 (some .byte) [] R_rm117 #[.ref q0] h0 [] (fun vs v h ve => (v = some (.int 0) ∧ (h0 = h))) := by
  refine MetH.of #[.val (.ref q0)] (plainFor_of_name pn_java_lang_String) rfl Z0 (fun p e s m below meth c T0 hret hml hnm hSL hs0 X0 => ?_)
  refine kGETS X0 (wd G 45 rfl) Via.refl (Sta.ext O0.2 (S_CS G)) d7_0 (fun T1 X2 => ?_)
  refine kIFf X2 d7_3 (XT.i0_eq_f (n_CS G)) ?_
  refine kALn X2 d7_6 rfl rfl ?_
  refine kGETF X2 (wd G 25 rfl) Via.refl F_q0_coder d7_7 (fun T3 X4 => ?_)
  refine kGOTO X4 14 d7_10 (by decide) ?_
  exact kRETZ X4 (gEL G) (t := .byte) hret (by simp) d7_14 (fun ve hve => ⟨rfl, rfl⟩) (by decide)
def R_rm116 : Room := { frames := 1, cells := 0, slots := 0, locals := 13 }
theorem rm116 (G : Glob Z a0 iCS vSI) (i0 i1 i2 : Int32) (q0 q1 : Addr) (kp0 : ClassId) (h0 : Heap) (Z0 : n0 ≤ h0.size) (O0 : Old Z n0 h0) (F_q0_value : Fld Z h0 q0 "java/lang/String" "value" "[B" (.ref q1)) (A_q1 : Arv Z h0 q1 kp0 .byte 4 [.int i0, .int 32, .int i1, .int i2] (.int 0)) (F_q0_coder : Fld Z h0 q0 "java/lang/String" "coder" "B" (.int 0)) (E_q0 : Exa Z h0 q0 "java/lang/String") : MetH l Z EL0 n0 N_jdk_42_m_54 jdk_42_method_54_code 1 (some .int) [] R_rm116 #[.ref q0] h0 [] (fun vs v h ve => (v = some (.int 4) ∧ (h0 = h))) := by
  refine MetH.of #[.val (.ref q0)] (plainFor_of_name pn_java_lang_String) rfl Z0 (fun p e s m below meth c T0 hret hml hnm hSL hs0 X0 => ?_)
  refine kALn X0 d6_0 rfl rfl ?_
  refine kGETF X0 (wd G 24 rfl) Via.refl F_q0_value d6_1 (fun T1 X2 => ?_)
  refine kLEN X2 A_q1 d6_4 ?_
  refine kALn X2 d6_5 rfl rfl ?_
  refine kVIRT X2 (gEL G) (argsL := []) (rest := [.int 4]) (wd G 40 rfl) (wd G 41 rfl) (own_nf X2.hZ (own_noinst (wd G 6 rfl))) (wd G 43 rfl) (wd G 42 rfl) (wd G 7 rfl) (wd G 44 rfl) (by decide) E_q0 (rm117 G i0 i1 i2 q0 q1 kp0 h0 X2.n O0 F_q0_coder) all0 (lenOf pd___B rfl) rfl 1 rfl (by decide) hml.symm d6_6 (fun v3 T4 h5 vm6 _ w7 q8 C9 C10 X11 => ?_)
  obtain ⟨e13, f14⟩ := q8
  subst e13
  subst f14
  show Go _ _ _ _ _ (mkF _ _ _ [.int 0, .int 4])
  refine kISHR X11 4 d6_9 (by decide) ?_
  exact kRETI X11 (gEL G) hret d6_10 (fun ve hve => ⟨rfl, rfl⟩) (by decide)
def R_rm119 : Room := { frames := 0, cells := 0, slots := 0, locals := 0 }
theorem rm119 (G : Glob Z a0 iCS vSI) (i0 i1 i2 : Int32) (q0 q1 : Addr) (kp0 kp1 : ClassId) (h0 : Heap) (Z0 : n0 ≤ h0.size) (O0 : Old Z n0 h0) (A_q0 : Arv Z h0 q0 kp0 .char 1 [.int i0] (.int 0)) (c_0 : ¬ (255 : Int32) < i0) (c_3 : ¬ i0 < 0) : MetH l Z EL0 n0 N_m_5 method_5_code 6 (some .char) [] R_rm119 #[.int 0, .ref q0, .int 1, .ref q1, .int 2] h0 [] (fun vs v h ve => (v = some (.int i0) ∧ (h0 = h))) := by
  refine MetH.of #[.val (.int 0), .val (.ref q0), .val (.int 1), .val (.ref q1), .val (.int 2), .unset] (plainFor_of_name pn_com_example_tight_calculus_tightcalculus_ReportWordsPinLaw) rfl Z0 (fun p e s m below meth c T0 hret hml hnm hSL hs0 X0 => ?_)
  refine kILn X0 d36_0 rfl ?_
  refine kILn X0 d36_1 rfl ?_
  refine kICf X0 d36_2 (XT.ii_ge_f (by decide)) ?_
  refine kALn X0 d36_5 rfl rfl ?_
  refine kILn X0 d36_6 rfl ?_
  refine kCALD X0 (.int i0) A_q0 (by decide) rfl d36_7 ?_
  refine kIS X0 #[.val (.int 0), .val (.ref q0), .val (.int 1), .val (.ref q1), .val (.int 2), .val (.int i0)] d36_8 rfl ?_
  refine kGOTO X0 53 d36_10 (by decide) ?_
  refine kIL X0 d36_53 rfl ?_
  exact kRETZ X0 (gEL G) (t := .char) hret (by simp) d36_55 (fun ve hve => ⟨(by rw [(own_nc c_0 c_3)]), rfl⟩) (by decide)
def R_rm118 : Room := { frames := 4, cells := 0, slots := 0, locals := 53 }
theorem rm118 (G : Glob Z a0 iCS vSI) (i0 i1 i2 i3 i4 i5 : Int32) (q0 q1 q2 q3 : Addr) (kp0 kp1 kp2 : ClassId) (h0 : Heap) (Z0 : n0 ≤ h0.size) (O0 : Old Z n0 h0) (F_q0_coder : Fld Z h0 q0 "java/lang/String" "coder" "B" (.int 0)) (E_q0 : Exa Z h0 q0 "java/lang/String") (F_q0_value : Fld Z h0 q0 "java/lang/String" "value" "[B" (.ref q3)) (A_q3 : Arv Z h0 q3 kp2 .byte 4 [.int i3, .int 32, .int i4, .int i5] (.int 0)) (c_0 : ¬ (255 : Int32) < i0) (c_3 : ¬ i0 < 0) (c_1 : ¬ (255 : Int32) < i1) (c_4 : ¬ i1 < 0) (c_2 : ¬ (255 : Int32) < i2) (c_5 : ¬ i2 < 0) (A_q1 : Arv Z h0 q1 kp0 .char 1 [.int i0] (.int 0)) : MetH l Z EL0 n0 N_m_4 method_4_code 7 (some .boolean) [] R_rm118 #[.ref q0, .int 0, .int 4, .ref q1, .int 1, .ref q2, .int 2] h0 [] (fun vs v h ve => (v = some (.int 1) ∧ ((i3 &&& (255 : Int32)) = i0) ∧ (h0 = h)) ∨ (v = some (.int 0) ∧ (¬ (i3 &&& (255 : Int32)) = i0) ∧ (h0 = h))) := by
  refine MetH.of #[.val (.ref q0), .val (.int 0), .val (.int 4), .val (.ref q1), .val (.int 1), .val (.ref q2), .val (.int 2)] (plainFor_of_name pn_com_example_tight_calculus_tightcalculus_ReportWordsPinLaw) rfl Z0 (fun p e s m below meth c T0 hret hml hnm hSL hs0 X0 => ?_)
  refine kILn X0 d8_0 rfl ?_
  refine kILn X0 d8_1 rfl ?_
  refine kICt X0 7 d8_2 (XT.ii_lt_t (by decide)) (by decide) ?_
  refine kALn X0 d8_7 rfl rfl ?_
  refine kILn X0 d8_8 rfl ?_
  refine kVIRT X0 (gEL G) (argsL := [.int 0]) (rest := []) (wd G 161 rfl) (wd G 162 rfl) (own_nf X0.hZ (own_noinst (wd G 6 rfl))) (wd G 164 rfl) (wd G 163 rfl) (wd G 7 rfl) (wd G 165 rfl) (by decide) E_q0 (gm_ca2 G (0 : Int32) (4 : Int32) i3 (i3 &&& (255 : Int32)) ([.int i3, .int 32, .int i4, .int i5]) q0 q3 kp2 h0 X0.n O0 rfl rfl F_q0_coder E_q0 F_q0_value A_q3 (by decide) (by decide)) all0 (lenOf pd__I_C rfl) rfl 0 rfl (by decide) hml.symm d8_9 (fun v1 T2 h3 vm4 _ w5 q6 C7 C8 X9 => ?_)
  obtain ⟨e11, f12⟩ := q6
  subst e11
  subst f12
  show Go _ _ _ _ _ (mkF _ _ _ [.int (i3 &&& (255 : Int32))])
  refine kILn X9 d8_12 rfl ?_
  refine kALn X9 d8_13 rfl rfl ?_
  refine kIL X9 d8_14 rfl ?_
  refine kAL X9 d8_16 rfl rfl ?_
  refine kIL X9 d8_18 rfl ?_
  refine kSTAT X9 (gEL G) (argsL := [.int 0, .ref q1, .int 1, .ref q2, .int 2]) (rest := [.int (i3 &&& (255 : Int32))]) (wd G 183 rfl) (wd G 184 rfl) (wd G 2 rfl) (wd G 185 rfl) (by decide) (rm119 G i0 i1 i2 q1 q2 kp0 kp1 h0 X9.n O0 A_q1 c_0 c_3) all0 (lenOf pd__I_CI_CI_C rfl) rfl 1 rfl (by decide) hml.symm d8_20 (fun v13 T14 h15 vm16 _ w17 q18 C19 C20 X21 => ?_)
  obtain ⟨e23, f24⟩ := q18
  subst e23
  subst f24
  show Go _ _ _ _ _ (mkF _ _ _ [.int i0, .int (i3 &&& (255 : Int32))])
  by_cases c25 : (i3 &&& (255 : Int32)) = i0
  · refine kICf X21 d8_23 (XT.ii_ne_f c25) ?_
    refine kIC X21 1 d8_26 (by decide) ?_
    refine kGOTO X21 31 d8_27 (by decide) ?_
    exact kRETZ X21 (gEL G) (t := .boolean) hret (by simp) d8_31 (fun ve hve => Or.inl (⟨rfl, c25, rfl⟩)) (by decide)
  · refine kICt X21 30 d8_23 (XT.ii_ne_t c25) (by decide) ?_
    refine kIC X21 0 d8_30 (by decide) ?_
    exact kRETZ X21 (gEL G) (t := .boolean) hret (by simp) d8_31 (fun ve hve => Or.inr (⟨rfl, c25, rfl⟩)) (by decide)
def R_rm121 : Room := { frames := 0, cells := 0, slots := 0, locals := 0 }
theorem rm121 (G : Glob Z a0 iCS vSI) (i0 i1 i2 : Int32) (q0 q1 : Addr) (kp0 kp1 : ClassId) (h0 : Heap) (Z0 : n0 ≤ h0.size) (O0 : Old Z n0 h0)  : MetH l Z EL0 n0 N_m_5 method_5_code 6 (some .char) [] R_rm121 #[.int 1, .ref q0, .int 1, .ref q1, .int 2] h0 [] (fun vs v h ve => (v = some (.int 32) ∧ (h0 = h))) := by
  refine MetH.of #[.val (.int 1), .val (.ref q0), .val (.int 1), .val (.ref q1), .val (.int 2), .unset] (plainFor_of_name pn_com_example_tight_calculus_tightcalculus_ReportWordsPinLaw) rfl Z0 (fun p e s m below meth c T0 hret hml hnm hSL hs0 X0 => ?_)
  refine kILn X0 d36_0 rfl ?_
  refine kILn X0 d36_1 rfl ?_
  refine kICt X0 13 d36_2 (XT.ii_ge_t (by decide)) (by decide) ?_
  refine kILn X0 d36_13 rfl ?_
  refine kIFf X0 d36_14 (XT.i0_le_f (by decide)) ?_
  refine kIL X0 d36_17 rfl ?_
  refine kIFf X0 d36_19 (XT.i0_le_f (by decide)) ?_
  refine kILn X0 d36_22 rfl ?_
  refine kILn X0 d36_23 rfl ?_
  refine kICf X0 d36_24 (XT.ii_ne_f (by decide)) ?_
  refine kBI X0 32 d36_27 (by decide) ?_
  refine kIS X0 #[.val (.int 1), .val (.ref q0), .val (.int 1), .val (.ref q1), .val (.int 2), .val (.int 32)] d36_29 rfl ?_
  refine kGOTO X0 53 d36_31 (by decide) ?_
  refine kIL X0 d36_53 rfl ?_
  exact kRETZ X0 (gEL G) (t := .char) hret (by simp) d36_55 (fun ve hve => ⟨rfl, rfl⟩) (by decide)
def R_rm120 : Room := { frames := 4, cells := 0, slots := 0, locals := 53 }
theorem rm120 (G : Glob Z a0 iCS vSI) (i0 i1 i2 i3 i4 i5 : Int32) (q0 q1 q2 q3 : Addr) (kp0 kp1 kp2 : ClassId) (h0 : Heap) (Z0 : n0 ≤ h0.size) (O0 : Old Z n0 h0) (F_q0_coder : Fld Z h0 q0 "java/lang/String" "coder" "B" (.int 0)) (E_q0 : Exa Z h0 q0 "java/lang/String") (F_q0_value : Fld Z h0 q0 "java/lang/String" "value" "[B" (.ref q3)) (A_q3 : Arv Z h0 q3 kp2 .byte 4 [.int i3, .int 32, .int i4, .int i5] (.int 0)) (c_0 : ¬ (255 : Int32) < i0) (c_3 : ¬ i0 < 0) (c_1 : ¬ (255 : Int32) < i1) (c_4 : ¬ i1 < 0) (c_2 : ¬ (255 : Int32) < i2) (c_5 : ¬ i2 < 0) : MetH l Z EL0 n0 N_m_4 method_4_code 7 (some .boolean) [] R_rm120 #[.ref q0, .int 1, .int 4, .ref q1, .int 1, .ref q2, .int 2] h0 [] (fun vs v h ve => (v = some (.int 1) ∧ (h0 = h))) := by
  refine MetH.of #[.val (.ref q0), .val (.int 1), .val (.int 4), .val (.ref q1), .val (.int 1), .val (.ref q2), .val (.int 2)] (plainFor_of_name pn_com_example_tight_calculus_tightcalculus_ReportWordsPinLaw) rfl Z0 (fun p e s m below meth c T0 hret hml hnm hSL hs0 X0 => ?_)
  refine kILn X0 d8_0 rfl ?_
  refine kILn X0 d8_1 rfl ?_
  refine kICt X0 7 d8_2 (XT.ii_lt_t (by decide)) (by decide) ?_
  refine kALn X0 d8_7 rfl rfl ?_
  refine kILn X0 d8_8 rfl ?_
  refine kVIRT X0 (gEL G) (argsL := [.int 1]) (rest := []) (wd G 161 rfl) (wd G 162 rfl) (own_nf X0.hZ (own_noinst (wd G 6 rfl))) (wd G 164 rfl) (wd G 163 rfl) (wd G 7 rfl) (wd G 165 rfl) (by decide) E_q0 (gm_ca2 G (1 : Int32) (4 : Int32) (32 : Int32) (32 : Int32) ([.int i3, .int 32, .int i4, .int i5]) q0 q3 kp2 h0 X0.n O0 rfl (by decide) F_q0_coder E_q0 F_q0_value A_q3 (by decide) (by decide)) all0 (lenOf pd__I_C rfl) rfl 0 rfl (by decide) hml.symm d8_9 (fun v1 T2 h3 vm4 _ w5 q6 C7 C8 X9 => ?_)
  obtain ⟨e11, f12⟩ := q6
  subst e11
  subst f12
  show Go _ _ _ _ _ (mkF _ _ _ [.int 32])
  refine kILn X9 d8_12 rfl ?_
  refine kALn X9 d8_13 rfl rfl ?_
  refine kIL X9 d8_14 rfl ?_
  refine kAL X9 d8_16 rfl rfl ?_
  refine kIL X9 d8_18 rfl ?_
  refine kSTAT X9 (gEL G) (argsL := [.int 1, .ref q1, .int 1, .ref q2, .int 2]) (rest := [.int 32]) (wd G 183 rfl) (wd G 184 rfl) (wd G 2 rfl) (wd G 185 rfl) (by decide) (rm121 G i0 i1 i2 q1 q2 kp0 kp1 h0 X9.n O0 ) all0 (lenOf pd__I_CI_CI_C rfl) rfl 1 rfl (by decide) hml.symm d8_20 (fun v13 T14 h15 vm16 _ w17 q18 C19 C20 X21 => ?_)
  obtain ⟨e23, f24⟩ := q18
  subst e23
  subst f24
  show Go _ _ _ _ _ (mkF _ _ _ [.int 32, .int 32])
  refine kICf X21 d8_23 (XT.ii_ne_f (by decide)) ?_
  refine kIC X21 1 d8_26 (by decide) ?_
  refine kGOTO X21 31 d8_27 (by decide) ?_
  exact kRETZ X21 (gEL G) (t := .boolean) hret (by simp) d8_31 (fun ve hve => ⟨rfl, rfl⟩) (by decide)
def R_rm123 : Room := { frames := 0, cells := 0, slots := 0, locals := 0 }
theorem rm123 (G : Glob Z a0 iCS vSI) (i0 i1 i2 : Int32) (q0 q1 : Addr) (kp0 kp1 : ClassId) (h0 : Heap) (Z0 : n0 ≤ h0.size) (O0 : Old Z n0 h0) (A_q1 : Arv Z h0 q1 kp1 .char 2 [.int i1, .int i2] (.int 0)) (c_1 : ¬ (255 : Int32) < i1) (c_4 : ¬ i1 < 0) : MetH l Z EL0 n0 N_m_5 method_5_code 6 (some .char) [] R_rm123 #[.int 2, .ref q0, .int 1, .ref q1, .int 2] h0 [] (fun vs v h ve => (v = some (.int i1) ∧ (h0 = h))) := by
  refine MetH.of #[.val (.int 2), .val (.ref q0), .val (.int 1), .val (.ref q1), .val (.int 2), .unset] (plainFor_of_name pn_com_example_tight_calculus_tightcalculus_ReportWordsPinLaw) rfl Z0 (fun p e s m below meth c T0 hret hml hnm hSL hs0 X0 => ?_)
  refine kILn X0 d36_0 rfl ?_
  refine kILn X0 d36_1 rfl ?_
  refine kICt X0 13 d36_2 (XT.ii_ge_t (by decide)) (by decide) ?_
  refine kILn X0 d36_13 rfl ?_
  refine kIFf X0 d36_14 (XT.i0_le_f (by decide)) ?_
  refine kIL X0 d36_17 rfl ?_
  refine kIFf X0 d36_19 (XT.i0_le_f (by decide)) ?_
  refine kILn X0 d36_22 rfl ?_
  refine kILn X0 d36_23 rfl ?_
  refine kICt X0 34 d36_24 (XT.ii_ne_t (by decide)) (by decide) ?_
  refine kALn X0 d36_34 rfl rfl ?_
  refine kILn X0 d36_35 rfl ?_
  refine kILn X0 d36_36 rfl ?_
  refine kISUB X0 1 d36_37 (by decide) ?_
  refine kIC X0 1 d36_38 (by decide) ?_
  refine kISUB X0 0 d36_39 (by decide) ?_
  refine kCALD X0 (.int i1) A_q1 (by decide) rfl d36_40 ?_
  refine kIS X0 #[.val (.int 2), .val (.ref q0), .val (.int 1), .val (.ref q1), .val (.int 2), .val (.int i1)] d36_41 rfl ?_
  refine kGOTO X0 53 d36_43 (by decide) ?_
  refine kIL X0 d36_53 rfl ?_
  exact kRETZ X0 (gEL G) (t := .char) hret (by simp) d36_55 (fun ve hve => ⟨(by rw [(own_nc c_1 c_4)]), rfl⟩) (by decide)
def R_rm122 : Room := { frames := 4, cells := 0, slots := 0, locals := 53 }
theorem rm122 (G : Glob Z a0 iCS vSI) (i0 i1 i2 i3 i4 i5 : Int32) (q0 q1 q2 q3 : Addr) (kp0 kp1 kp2 : ClassId) (h0 : Heap) (Z0 : n0 ≤ h0.size) (O0 : Old Z n0 h0) (F_q0_coder : Fld Z h0 q0 "java/lang/String" "coder" "B" (.int 0)) (E_q0 : Exa Z h0 q0 "java/lang/String") (F_q0_value : Fld Z h0 q0 "java/lang/String" "value" "[B" (.ref q3)) (A_q3 : Arv Z h0 q3 kp2 .byte 4 [.int i3, .int 32, .int i4, .int i5] (.int 0)) (c_0 : ¬ (255 : Int32) < i0) (c_3 : ¬ i0 < 0) (c_1 : ¬ (255 : Int32) < i1) (c_4 : ¬ i1 < 0) (c_2 : ¬ (255 : Int32) < i2) (c_5 : ¬ i2 < 0) (A_q2 : Arv Z h0 q2 kp1 .char 2 [.int i1, .int i2] (.int 0)) : MetH l Z EL0 n0 N_m_4 method_4_code 7 (some .boolean) [] R_rm122 #[.ref q0, .int 2, .int 4, .ref q1, .int 1, .ref q2, .int 2] h0 [] (fun vs v h ve => (v = some (.int 1) ∧ ((i4 &&& (255 : Int32)) = i1) ∧ (h0 = h)) ∨ (v = some (.int 0) ∧ (¬ (i4 &&& (255 : Int32)) = i1) ∧ (h0 = h))) := by
  refine MetH.of #[.val (.ref q0), .val (.int 2), .val (.int 4), .val (.ref q1), .val (.int 1), .val (.ref q2), .val (.int 2)] (plainFor_of_name pn_com_example_tight_calculus_tightcalculus_ReportWordsPinLaw) rfl Z0 (fun p e s m below meth c T0 hret hml hnm hSL hs0 X0 => ?_)
  refine kILn X0 d8_0 rfl ?_
  refine kILn X0 d8_1 rfl ?_
  refine kICt X0 7 d8_2 (XT.ii_lt_t (by decide)) (by decide) ?_
  refine kALn X0 d8_7 rfl rfl ?_
  refine kILn X0 d8_8 rfl ?_
  refine kVIRT X0 (gEL G) (argsL := [.int 2]) (rest := []) (wd G 161 rfl) (wd G 162 rfl) (own_nf X0.hZ (own_noinst (wd G 6 rfl))) (wd G 164 rfl) (wd G 163 rfl) (wd G 7 rfl) (wd G 165 rfl) (by decide) E_q0 (gm_ca2 G (2 : Int32) (4 : Int32) i4 (i4 &&& (255 : Int32)) ([.int i3, .int 32, .int i4, .int i5]) q0 q3 kp2 h0 X0.n O0 rfl rfl F_q0_coder E_q0 F_q0_value A_q3 (by decide) (by decide)) all0 (lenOf pd__I_C rfl) rfl 0 rfl (by decide) hml.symm d8_9 (fun v1 T2 h3 vm4 _ w5 q6 C7 C8 X9 => ?_)
  obtain ⟨e11, f12⟩ := q6
  subst e11
  subst f12
  show Go _ _ _ _ _ (mkF _ _ _ [.int (i4 &&& (255 : Int32))])
  refine kILn X9 d8_12 rfl ?_
  refine kALn X9 d8_13 rfl rfl ?_
  refine kIL X9 d8_14 rfl ?_
  refine kAL X9 d8_16 rfl rfl ?_
  refine kIL X9 d8_18 rfl ?_
  refine kSTAT X9 (gEL G) (argsL := [.int 2, .ref q1, .int 1, .ref q2, .int 2]) (rest := [.int (i4 &&& (255 : Int32))]) (wd G 183 rfl) (wd G 184 rfl) (wd G 2 rfl) (wd G 185 rfl) (by decide) (rm123 G i0 i1 i2 q1 q2 kp0 kp1 h0 X9.n O0 A_q2 c_1 c_4) all0 (lenOf pd__I_CI_CI_C rfl) rfl 1 rfl (by decide) hml.symm d8_20 (fun v13 T14 h15 vm16 _ w17 q18 C19 C20 X21 => ?_)
  obtain ⟨e23, f24⟩ := q18
  subst e23
  subst f24
  show Go _ _ _ _ _ (mkF _ _ _ [.int i1, .int (i4 &&& (255 : Int32))])
  by_cases c25 : (i4 &&& (255 : Int32)) = i1
  · refine kICf X21 d8_23 (XT.ii_ne_f c25) ?_
    refine kIC X21 1 d8_26 (by decide) ?_
    refine kGOTO X21 31 d8_27 (by decide) ?_
    exact kRETZ X21 (gEL G) (t := .boolean) hret (by simp) d8_31 (fun ve hve => Or.inl (⟨rfl, c25, rfl⟩)) (by decide)
  · refine kICt X21 30 d8_23 (XT.ii_ne_t c25) (by decide) ?_
    refine kIC X21 0 d8_30 (by decide) ?_
    exact kRETZ X21 (gEL G) (t := .boolean) hret (by simp) d8_31 (fun ve hve => Or.inr (⟨rfl, c25, rfl⟩)) (by decide)
def R_rm125 : Room := { frames := 0, cells := 0, slots := 0, locals := 0 }
theorem rm125 (G : Glob Z a0 iCS vSI) (i0 i1 i2 : Int32) (q0 q1 : Addr) (kp0 kp1 : ClassId) (h0 : Heap) (Z0 : n0 ≤ h0.size) (O0 : Old Z n0 h0) (A_q1 : Arv Z h0 q1 kp1 .char 2 [.int i1, .int i2] (.int 0)) (c_2 : ¬ (255 : Int32) < i2) (c_5 : ¬ i2 < 0) : MetH l Z EL0 n0 N_m_5 method_5_code 6 (some .char) [] R_rm125 #[.int 3, .ref q0, .int 1, .ref q1, .int 2] h0 [] (fun vs v h ve => (v = some (.int i2) ∧ (h0 = h))) := by
  refine MetH.of #[.val (.int 3), .val (.ref q0), .val (.int 1), .val (.ref q1), .val (.int 2), .unset] (plainFor_of_name pn_com_example_tight_calculus_tightcalculus_ReportWordsPinLaw) rfl Z0 (fun p e s m below meth c T0 hret hml hnm hSL hs0 X0 => ?_)
  refine kILn X0 d36_0 rfl ?_
  refine kILn X0 d36_1 rfl ?_
  refine kICt X0 13 d36_2 (XT.ii_ge_t (by decide)) (by decide) ?_
  refine kILn X0 d36_13 rfl ?_
  refine kIFf X0 d36_14 (XT.i0_le_f (by decide)) ?_
  refine kIL X0 d36_17 rfl ?_
  refine kIFf X0 d36_19 (XT.i0_le_f (by decide)) ?_
  refine kILn X0 d36_22 rfl ?_
  refine kILn X0 d36_23 rfl ?_
  refine kICt X0 34 d36_24 (XT.ii_ne_t (by decide)) (by decide) ?_
  refine kALn X0 d36_34 rfl rfl ?_
  refine kILn X0 d36_35 rfl ?_
  refine kILn X0 d36_36 rfl ?_
  refine kISUB X0 2 d36_37 (by decide) ?_
  refine kIC X0 1 d36_38 (by decide) ?_
  refine kISUB X0 1 d36_39 (by decide) ?_
  refine kCALD X0 (.int i2) A_q1 (by decide) rfl d36_40 ?_
  refine kIS X0 #[.val (.int 3), .val (.ref q0), .val (.int 1), .val (.ref q1), .val (.int 2), .val (.int i2)] d36_41 rfl ?_
  refine kGOTO X0 53 d36_43 (by decide) ?_
  refine kIL X0 d36_53 rfl ?_
  exact kRETZ X0 (gEL G) (t := .char) hret (by simp) d36_55 (fun ve hve => ⟨(by rw [(own_nc c_2 c_5)]), rfl⟩) (by decide)
def R_rm124 : Room := { frames := 4, cells := 0, slots := 0, locals := 53 }
theorem rm124 (G : Glob Z a0 iCS vSI) (i0 i1 i2 i3 i4 i5 : Int32) (q0 q1 q2 q3 : Addr) (kp0 kp1 kp2 : ClassId) (h0 : Heap) (Z0 : n0 ≤ h0.size) (O0 : Old Z n0 h0) (F_q0_coder : Fld Z h0 q0 "java/lang/String" "coder" "B" (.int 0)) (E_q0 : Exa Z h0 q0 "java/lang/String") (F_q0_value : Fld Z h0 q0 "java/lang/String" "value" "[B" (.ref q3)) (A_q3 : Arv Z h0 q3 kp2 .byte 4 [.int i3, .int 32, .int i4, .int i5] (.int 0)) (c_0 : ¬ (255 : Int32) < i0) (c_3 : ¬ i0 < 0) (c_1 : ¬ (255 : Int32) < i1) (c_4 : ¬ i1 < 0) (c_2 : ¬ (255 : Int32) < i2) (c_5 : ¬ i2 < 0) (A_q2 : Arv Z h0 q2 kp1 .char 2 [.int i1, .int i2] (.int 0)) : MetH l Z EL0 n0 N_m_4 method_4_code 7 (some .boolean) [] R_rm124 #[.ref q0, .int 3, .int 4, .ref q1, .int 1, .ref q2, .int 2] h0 [] (fun vs v h ve => (v = some (.int 1) ∧ ((i5 &&& (255 : Int32)) = i2) ∧ (h0 = h)) ∨ (v = some (.int 0) ∧ (¬ (i5 &&& (255 : Int32)) = i2) ∧ (h0 = h))) := by
  refine MetH.of #[.val (.ref q0), .val (.int 3), .val (.int 4), .val (.ref q1), .val (.int 1), .val (.ref q2), .val (.int 2)] (plainFor_of_name pn_com_example_tight_calculus_tightcalculus_ReportWordsPinLaw) rfl Z0 (fun p e s m below meth c T0 hret hml hnm hSL hs0 X0 => ?_)
  refine kILn X0 d8_0 rfl ?_
  refine kILn X0 d8_1 rfl ?_
  refine kICt X0 7 d8_2 (XT.ii_lt_t (by decide)) (by decide) ?_
  refine kALn X0 d8_7 rfl rfl ?_
  refine kILn X0 d8_8 rfl ?_
  refine kVIRT X0 (gEL G) (argsL := [.int 3]) (rest := []) (wd G 161 rfl) (wd G 162 rfl) (own_nf X0.hZ (own_noinst (wd G 6 rfl))) (wd G 164 rfl) (wd G 163 rfl) (wd G 7 rfl) (wd G 165 rfl) (by decide) E_q0 (gm_ca2 G (3 : Int32) (4 : Int32) i5 (i5 &&& (255 : Int32)) ([.int i3, .int 32, .int i4, .int i5]) q0 q3 kp2 h0 X0.n O0 rfl rfl F_q0_coder E_q0 F_q0_value A_q3 (by decide) (by decide)) all0 (lenOf pd__I_C rfl) rfl 0 rfl (by decide) hml.symm d8_9 (fun v1 T2 h3 vm4 _ w5 q6 C7 C8 X9 => ?_)
  obtain ⟨e11, f12⟩ := q6
  subst e11
  subst f12
  show Go _ _ _ _ _ (mkF _ _ _ [.int (i5 &&& (255 : Int32))])
  refine kILn X9 d8_12 rfl ?_
  refine kALn X9 d8_13 rfl rfl ?_
  refine kIL X9 d8_14 rfl ?_
  refine kAL X9 d8_16 rfl rfl ?_
  refine kIL X9 d8_18 rfl ?_
  refine kSTAT X9 (gEL G) (argsL := [.int 3, .ref q1, .int 1, .ref q2, .int 2]) (rest := [.int (i5 &&& (255 : Int32))]) (wd G 183 rfl) (wd G 184 rfl) (wd G 2 rfl) (wd G 185 rfl) (by decide) (rm125 G i0 i1 i2 q1 q2 kp0 kp1 h0 X9.n O0 A_q2 c_2 c_5) all0 (lenOf pd__I_CI_CI_C rfl) rfl 1 rfl (by decide) hml.symm d8_20 (fun v13 T14 h15 vm16 _ w17 q18 C19 C20 X21 => ?_)
  obtain ⟨e23, f24⟩ := q18
  subst e23
  subst f24
  show Go _ _ _ _ _ (mkF _ _ _ [.int i2, .int (i5 &&& (255 : Int32))])
  by_cases c25 : (i5 &&& (255 : Int32)) = i2
  · refine kICf X21 d8_23 (XT.ii_ne_f c25) ?_
    refine kIC X21 1 d8_26 (by decide) ?_
    refine kGOTO X21 31 d8_27 (by decide) ?_
    exact kRETZ X21 (gEL G) (t := .boolean) hret (by simp) d8_31 (fun ve hve => Or.inl (⟨rfl, c25, rfl⟩)) (by decide)
  · refine kICt X21 30 d8_23 (XT.ii_ne_t c25) (by decide) ?_
    refine kIC X21 0 d8_30 (by decide) ?_
    exact kRETZ X21 (gEL G) (t := .boolean) hret (by simp) d8_31 (fun ve hve => Or.inr (⟨rfl, c25, rfl⟩)) (by decide)
def R_rm126 : Room := { frames := 0, cells := 0, slots := 0, locals := 0 }
theorem rm126 (G : Glob Z a0 iCS vSI) (i0 i1 i2 i3 i4 i5 : Int32) (q0 q1 q2 q3 : Addr) (kp0 kp1 kp2 : ClassId) (h0 : Heap) (Z0 : n0 ≤ h0.size) (O0 : Old Z n0 h0)  : MetH l Z EL0 n0 N_m_4 method_4_code 7 (some .boolean) [] R_rm126 #[.ref q0, .int 4, .int 4, .ref q1, .int 1, .ref q2, .int 2] h0 [] (fun vs v h ve => (v = some (.int 1) ∧ (h0 = h))) := by
  refine MetH.of #[.val (.ref q0), .val (.int 4), .val (.int 4), .val (.ref q1), .val (.int 1), .val (.ref q2), .val (.int 2)] (plainFor_of_name pn_com_example_tight_calculus_tightcalculus_ReportWordsPinLaw) rfl Z0 (fun p e s m below meth c T0 hret hml hnm hSL hs0 X0 => ?_)
  refine kILn X0 d8_0 rfl ?_
  refine kILn X0 d8_1 rfl ?_
  refine kICf X0 d8_2 (XT.ii_lt_f (by decide)) ?_
  refine kIC X0 1 d8_5 (by decide) ?_
  exact kRETZ X0 (gEL G) (t := .boolean) hret (by simp) d8_6 (fun ve hve => ⟨rfl, rfl⟩) (by decide)
def R_rm127 : Room := { frames := 1, cells := 0, slots := 0, locals := 12 }
theorem rm127 (G : Glob Z a0 iCS vSI) (i0 i1 : Int32) (q0 q1 q2 q3 : Addr) (kp0 kp1 : ClassId) (h0 : Heap) (Z0 : n0 ≤ h0.size) (O0 : Old Z n0 h0) (F_q0_value : Fld Z h0 q0 "java/lang/String" "value" "[B" (.ref q2)) (A_q2 : Arv Z h0 q2 kp0 .byte 2 [.int i0, .int i1] (.int 0)) (E_q0 : Exa Z h0 q0 "java/lang/String") (F_q1_value : Fld Z h0 q1 "java/lang/String" "value" "[B" (.ref q3)) (A_q3 : Arv Z h0 q3 kp1 .byte 0 [] (.int 0)) (E_q1 : Exa Z h0 q1 "java/lang/String") : MetH l Z EL0 n0 N_prog_30_m_3 prog_30_method_3_code 3 (some (.object "java/lang/String")) [] R_rm127 #[.ref q0, .ref q1] h0 [] (fun vs v h ve => (v = some (.ref q0) ∧ (h0 = h))) := by
  refine MetH.of #[.val (.ref q0), .val (.ref q1), .unset] (plainFor_of_name pn_com_example_tight_calculus_tightcalculus_Report) rfl Z0 (fun p e s m below meth c T0 hret hml hnm hSL hs0 X0 => ?_)
  refine kALn X0 d4_0 rfl rfl ?_
  refine kVIRT X0 (gEL G) (argsL := []) (rest := []) (wd G 30 rfl) (wd G 31 rfl) (own_nf X0.hZ (own_noinst (wd G 6 rfl))) (wd G 33 rfl) (wd G 32 rfl) (wd G 7 rfl) (wd G 34 rfl) (by decide) E_q0 (rm98 G i0 i1 q0 q2 kp0 h0 X0.n O0 F_q0_value A_q2) all0 (lenOf pd___Z rfl) rfl 0 rfl (by decide) hml.symm d4_1 (fun v1 T2 h3 vm4 _ w5 q6 C7 C8 X9 => ?_)
  obtain ⟨e11, f12⟩ := q6
  subst e11
  subst f12
  show Go _ _ _ _ _ (mkF _ _ _ [.int 0])
  refine kIFt X9 12 d4_4 (XT.i0_eq_t (by decide)) (by decide) ?_
  refine kALn X9 d4_12 rfl rfl ?_
  refine kVIRT X9 (gEL G) (argsL := []) (rest := []) (wd G 30 rfl) (wd G 31 rfl) (own_nf X9.hZ (own_noinst (wd G 6 rfl))) (wd G 33 rfl) (wd G 32 rfl) (wd G 7 rfl) (wd G 34 rfl) (by decide) E_q1 (rm5 G q1 q3 kp1 h0 X9.n O0 F_q1_value A_q3) all0 (lenOf pd___Z rfl) rfl 0 rfl (by decide) hml.symm d4_13 (fun v13 T14 h15 vm16 _ w17 q18 C19 C20 X21 => ?_)
  obtain ⟨e23, f24⟩ := q18
  subst e23
  subst f24
  show Go _ _ _ _ _ (mkF _ _ _ [.int 1])
  refine kIFf X21 d4_16 (XT.i0_eq_f (by decide)) ?_
  refine kALn X21 d4_19 rfl rfl ?_
  refine kASn X21 #[.val (.ref q0), .val (.ref q1), .val (.ref q0)] d4_20 rfl rfl ?_
  refine kGOTO X21 48 d4_21 (by decide) ?_
  refine kALn X21 d4_48 rfl rfl ?_
  exact kRETA X21 (gEL G) hret rfl rfl d4_49 (fun ve hve => ⟨rfl, rfl⟩) (by decide)
def R_rm129 : Room := { frames := 0, cells := 0, slots := 0, locals := 0 }
theorem rm129 (G : Glob Z a0 iCS vSI) (i0 i1 : Int32) (q0 q1 : Addr) (kp0 kp1 : ClassId) (h0 : Heap) (Z0 : n0 ≤ h0.size) (O0 : Old Z n0 h0) (A_q0 : Arv Z h0 q0 kp0 .char 2 [.int i0, .int i1] (.int 0)) (c_0 : ¬ (255 : Int32) < i0) (c_2 : ¬ i0 < 0) : MetH l Z EL0 n0 N_m_5 method_5_code 6 (some .char) [] R_rm129 #[.int 0, .ref q0, .int 2, .ref q1, .int 0] h0 [] (fun vs v h ve => (v = some (.int i0) ∧ (h0 = h))) := by
  refine MetH.of #[.val (.int 0), .val (.ref q0), .val (.int 2), .val (.ref q1), .val (.int 0), .unset] (plainFor_of_name pn_com_example_tight_calculus_tightcalculus_ReportWordsPinLaw) rfl Z0 (fun p e s m below meth c T0 hret hml hnm hSL hs0 X0 => ?_)
  refine kILn X0 d36_0 rfl ?_
  refine kILn X0 d36_1 rfl ?_
  refine kICf X0 d36_2 (XT.ii_ge_f (by decide)) ?_
  refine kALn X0 d36_5 rfl rfl ?_
  refine kILn X0 d36_6 rfl ?_
  refine kCALD X0 (.int i0) A_q0 (by decide) rfl d36_7 ?_
  refine kIS X0 #[.val (.int 0), .val (.ref q0), .val (.int 2), .val (.ref q1), .val (.int 0), .val (.int i0)] d36_8 rfl ?_
  refine kGOTO X0 53 d36_10 (by decide) ?_
  refine kIL X0 d36_53 rfl ?_
  exact kRETZ X0 (gEL G) (t := .char) hret (by simp) d36_55 (fun ve hve => ⟨(by rw [(own_nc c_0 c_2)]), rfl⟩) (by decide)
def R_rm128 : Room := { frames := 4, cells := 0, slots := 0, locals := 53 }
theorem rm128 (G : Glob Z a0 iCS vSI) (i0 i1 i2 i3 : Int32) (q0 q1 q2 q3 : Addr) (kp0 kp1 kp2 : ClassId) (h0 : Heap) (Z0 : n0 ≤ h0.size) (O0 : Old Z n0 h0) (F_q0_coder : Fld Z h0 q0 "java/lang/String" "coder" "B" (.int 0)) (E_q0 : Exa Z h0 q0 "java/lang/String") (F_q0_value : Fld Z h0 q0 "java/lang/String" "value" "[B" (.ref q3)) (A_q3 : Arv Z h0 q3 kp2 .byte 2 [.int i2, .int i3] (.int 0)) (c_0 : ¬ (255 : Int32) < i0) (c_2 : ¬ i0 < 0) (c_1 : ¬ (255 : Int32) < i1) (c_3 : ¬ i1 < 0) (A_q1 : Arv Z h0 q1 kp0 .char 2 [.int i0, .int i1] (.int 0)) : MetH l Z EL0 n0 N_m_4 method_4_code 7 (some .boolean) [] R_rm128 #[.ref q0, .int 0, .int 2, .ref q1, .int 2, .ref q2, .int 0] h0 [] (fun vs v h ve => (v = some (.int 1) ∧ ((i2 &&& (255 : Int32)) = i0) ∧ (h0 = h)) ∨ (v = some (.int 0) ∧ (¬ (i2 &&& (255 : Int32)) = i0) ∧ (h0 = h))) := by
  refine MetH.of #[.val (.ref q0), .val (.int 0), .val (.int 2), .val (.ref q1), .val (.int 2), .val (.ref q2), .val (.int 0)] (plainFor_of_name pn_com_example_tight_calculus_tightcalculus_ReportWordsPinLaw) rfl Z0 (fun p e s m below meth c T0 hret hml hnm hSL hs0 X0 => ?_)
  refine kILn X0 d8_0 rfl ?_
  refine kILn X0 d8_1 rfl ?_
  refine kICt X0 7 d8_2 (XT.ii_lt_t (by decide)) (by decide) ?_
  refine kALn X0 d8_7 rfl rfl ?_
  refine kILn X0 d8_8 rfl ?_
  refine kVIRT X0 (gEL G) (argsL := [.int 0]) (rest := []) (wd G 161 rfl) (wd G 162 rfl) (own_nf X0.hZ (own_noinst (wd G 6 rfl))) (wd G 164 rfl) (wd G 163 rfl) (wd G 7 rfl) (wd G 165 rfl) (by decide) E_q0 (gm_ca2 G (0 : Int32) (2 : Int32) i2 (i2 &&& (255 : Int32)) ([.int i2, .int i3]) q0 q3 kp2 h0 X0.n O0 rfl rfl F_q0_coder E_q0 F_q0_value A_q3 (by decide) (by decide)) all0 (lenOf pd__I_C rfl) rfl 0 rfl (by decide) hml.symm d8_9 (fun v1 T2 h3 vm4 _ w5 q6 C7 C8 X9 => ?_)
  obtain ⟨e11, f12⟩ := q6
  subst e11
  subst f12
  show Go _ _ _ _ _ (mkF _ _ _ [.int (i2 &&& (255 : Int32))])
  refine kILn X9 d8_12 rfl ?_
  refine kALn X9 d8_13 rfl rfl ?_
  refine kIL X9 d8_14 rfl ?_
  refine kAL X9 d8_16 rfl rfl ?_
  refine kIL X9 d8_18 rfl ?_
  refine kSTAT X9 (gEL G) (argsL := [.int 0, .ref q1, .int 2, .ref q2, .int 0]) (rest := [.int (i2 &&& (255 : Int32))]) (wd G 183 rfl) (wd G 184 rfl) (wd G 2 rfl) (wd G 185 rfl) (by decide) (rm129 G i0 i1 q1 q2 kp0 kp1 h0 X9.n O0 A_q1 c_0 c_2) all0 (lenOf pd__I_CI_CI_C rfl) rfl 1 rfl (by decide) hml.symm d8_20 (fun v13 T14 h15 vm16 _ w17 q18 C19 C20 X21 => ?_)
  obtain ⟨e23, f24⟩ := q18
  subst e23
  subst f24
  show Go _ _ _ _ _ (mkF _ _ _ [.int i0, .int (i2 &&& (255 : Int32))])
  by_cases c25 : (i2 &&& (255 : Int32)) = i0
  · refine kICf X21 d8_23 (XT.ii_ne_f c25) ?_
    refine kIC X21 1 d8_26 (by decide) ?_
    refine kGOTO X21 31 d8_27 (by decide) ?_
    exact kRETZ X21 (gEL G) (t := .boolean) hret (by simp) d8_31 (fun ve hve => Or.inl (⟨rfl, c25, rfl⟩)) (by decide)
  · refine kICt X21 30 d8_23 (XT.ii_ne_t c25) (by decide) ?_
    refine kIC X21 0 d8_30 (by decide) ?_
    exact kRETZ X21 (gEL G) (t := .boolean) hret (by simp) d8_31 (fun ve hve => Or.inr (⟨rfl, c25, rfl⟩)) (by decide)
def R_rm131 : Room := { frames := 0, cells := 0, slots := 0, locals := 0 }
theorem rm131 (G : Glob Z a0 iCS vSI) (i0 i1 : Int32) (q0 q1 : Addr) (kp0 kp1 : ClassId) (h0 : Heap) (Z0 : n0 ≤ h0.size) (O0 : Old Z n0 h0) (A_q0 : Arv Z h0 q0 kp0 .char 2 [.int i0, .int i1] (.int 0)) (c_1 : ¬ (255 : Int32) < i1) (c_3 : ¬ i1 < 0) : MetH l Z EL0 n0 N_m_5 method_5_code 6 (some .char) [] R_rm131 #[.int 1, .ref q0, .int 2, .ref q1, .int 0] h0 [] (fun vs v h ve => (v = some (.int i1) ∧ (h0 = h))) := by
  refine MetH.of #[.val (.int 1), .val (.ref q0), .val (.int 2), .val (.ref q1), .val (.int 0), .unset] (plainFor_of_name pn_com_example_tight_calculus_tightcalculus_ReportWordsPinLaw) rfl Z0 (fun p e s m below meth c T0 hret hml hnm hSL hs0 X0 => ?_)
  refine kILn X0 d36_0 rfl ?_
  refine kILn X0 d36_1 rfl ?_
  refine kICf X0 d36_2 (XT.ii_ge_f (by decide)) ?_
  refine kALn X0 d36_5 rfl rfl ?_
  refine kILn X0 d36_6 rfl ?_
  refine kCALD X0 (.int i1) A_q0 (by decide) rfl d36_7 ?_
  refine kIS X0 #[.val (.int 1), .val (.ref q0), .val (.int 2), .val (.ref q1), .val (.int 0), .val (.int i1)] d36_8 rfl ?_
  refine kGOTO X0 53 d36_10 (by decide) ?_
  refine kIL X0 d36_53 rfl ?_
  exact kRETZ X0 (gEL G) (t := .char) hret (by simp) d36_55 (fun ve hve => ⟨(by rw [(own_nc c_1 c_3)]), rfl⟩) (by decide)
def R_rm130 : Room := { frames := 4, cells := 0, slots := 0, locals := 53 }
theorem rm130 (G : Glob Z a0 iCS vSI) (i0 i1 i2 i3 : Int32) (q0 q1 q2 q3 : Addr) (kp0 kp1 kp2 : ClassId) (h0 : Heap) (Z0 : n0 ≤ h0.size) (O0 : Old Z n0 h0) (F_q0_coder : Fld Z h0 q0 "java/lang/String" "coder" "B" (.int 0)) (E_q0 : Exa Z h0 q0 "java/lang/String") (F_q0_value : Fld Z h0 q0 "java/lang/String" "value" "[B" (.ref q3)) (A_q3 : Arv Z h0 q3 kp2 .byte 2 [.int i2, .int i3] (.int 0)) (c_0 : ¬ (255 : Int32) < i0) (c_2 : ¬ i0 < 0) (c_1 : ¬ (255 : Int32) < i1) (c_3 : ¬ i1 < 0) (A_q1 : Arv Z h0 q1 kp0 .char 2 [.int i0, .int i1] (.int 0)) : MetH l Z EL0 n0 N_m_4 method_4_code 7 (some .boolean) [] R_rm130 #[.ref q0, .int 1, .int 2, .ref q1, .int 2, .ref q2, .int 0] h0 [] (fun vs v h ve => (v = some (.int 1) ∧ ((i3 &&& (255 : Int32)) = i1) ∧ (h0 = h)) ∨ (v = some (.int 0) ∧ (¬ (i3 &&& (255 : Int32)) = i1) ∧ (h0 = h))) := by
  refine MetH.of #[.val (.ref q0), .val (.int 1), .val (.int 2), .val (.ref q1), .val (.int 2), .val (.ref q2), .val (.int 0)] (plainFor_of_name pn_com_example_tight_calculus_tightcalculus_ReportWordsPinLaw) rfl Z0 (fun p e s m below meth c T0 hret hml hnm hSL hs0 X0 => ?_)
  refine kILn X0 d8_0 rfl ?_
  refine kILn X0 d8_1 rfl ?_
  refine kICt X0 7 d8_2 (XT.ii_lt_t (by decide)) (by decide) ?_
  refine kALn X0 d8_7 rfl rfl ?_
  refine kILn X0 d8_8 rfl ?_
  refine kVIRT X0 (gEL G) (argsL := [.int 1]) (rest := []) (wd G 161 rfl) (wd G 162 rfl) (own_nf X0.hZ (own_noinst (wd G 6 rfl))) (wd G 164 rfl) (wd G 163 rfl) (wd G 7 rfl) (wd G 165 rfl) (by decide) E_q0 (gm_ca2 G (1 : Int32) (2 : Int32) i3 (i3 &&& (255 : Int32)) ([.int i2, .int i3]) q0 q3 kp2 h0 X0.n O0 rfl rfl F_q0_coder E_q0 F_q0_value A_q3 (by decide) (by decide)) all0 (lenOf pd__I_C rfl) rfl 0 rfl (by decide) hml.symm d8_9 (fun v1 T2 h3 vm4 _ w5 q6 C7 C8 X9 => ?_)
  obtain ⟨e11, f12⟩ := q6
  subst e11
  subst f12
  show Go _ _ _ _ _ (mkF _ _ _ [.int (i3 &&& (255 : Int32))])
  refine kILn X9 d8_12 rfl ?_
  refine kALn X9 d8_13 rfl rfl ?_
  refine kIL X9 d8_14 rfl ?_
  refine kAL X9 d8_16 rfl rfl ?_
  refine kIL X9 d8_18 rfl ?_
  refine kSTAT X9 (gEL G) (argsL := [.int 1, .ref q1, .int 2, .ref q2, .int 0]) (rest := [.int (i3 &&& (255 : Int32))]) (wd G 183 rfl) (wd G 184 rfl) (wd G 2 rfl) (wd G 185 rfl) (by decide) (rm131 G i0 i1 q1 q2 kp0 kp1 h0 X9.n O0 A_q1 c_1 c_3) all0 (lenOf pd__I_CI_CI_C rfl) rfl 1 rfl (by decide) hml.symm d8_20 (fun v13 T14 h15 vm16 _ w17 q18 C19 C20 X21 => ?_)
  obtain ⟨e23, f24⟩ := q18
  subst e23
  subst f24
  show Go _ _ _ _ _ (mkF _ _ _ [.int i1, .int (i3 &&& (255 : Int32))])
  by_cases c25 : (i3 &&& (255 : Int32)) = i1
  · refine kICf X21 d8_23 (XT.ii_ne_f c25) ?_
    refine kIC X21 1 d8_26 (by decide) ?_
    refine kGOTO X21 31 d8_27 (by decide) ?_
    exact kRETZ X21 (gEL G) (t := .boolean) hret (by simp) d8_31 (fun ve hve => Or.inl (⟨rfl, c25, rfl⟩)) (by decide)
  · refine kICt X21 30 d8_23 (XT.ii_ne_t c25) (by decide) ?_
    refine kIC X21 0 d8_30 (by decide) ?_
    exact kRETZ X21 (gEL G) (t := .boolean) hret (by simp) d8_31 (fun ve hve => Or.inr (⟨rfl, c25, rfl⟩)) (by decide)
def R_rm132 : Room := { frames := 0, cells := 0, slots := 0, locals := 0 }
theorem rm132 (G : Glob Z a0 iCS vSI) (i0 i1 i2 i3 : Int32) (q0 q1 q2 q3 : Addr) (kp0 kp1 kp2 : ClassId) (h0 : Heap) (Z0 : n0 ≤ h0.size) (O0 : Old Z n0 h0)  : MetH l Z EL0 n0 N_m_4 method_4_code 7 (some .boolean) [] R_rm132 #[.ref q0, .int 2, .int 2, .ref q1, .int 2, .ref q2, .int 0] h0 [] (fun vs v h ve => (v = some (.int 1) ∧ (h0 = h))) := by
  refine MetH.of #[.val (.ref q0), .val (.int 2), .val (.int 2), .val (.ref q1), .val (.int 2), .val (.ref q2), .val (.int 0)] (plainFor_of_name pn_com_example_tight_calculus_tightcalculus_ReportWordsPinLaw) rfl Z0 (fun p e s m below meth c T0 hret hml hnm hSL hs0 X0 => ?_)
  refine kILn X0 d8_0 rfl ?_
  refine kILn X0 d8_1 rfl ?_
  refine kICf X0 d8_2 (XT.ii_lt_f (by decide)) ?_
  refine kIC X0 1 d8_5 (by decide) ?_
  exact kRETZ X0 (gEL G) (t := .boolean) hret (by simp) d8_6 (fun ve hve => ⟨rfl, rfl⟩) (by decide)
def R_rm133 : Room := { frames := 0, cells := 0, slots := 0, locals := 0 }
theorem rm133 (G : Glob Z a0 iCS vSI) (i0 i1 i2 i3 : Int32) (q0 q1 q2 q3 : Addr) (kp0 kp1 kp2 : ClassId) (h0 : Heap) (Z0 : n0 ≤ h0.size) (O0 : Old Z n0 h0)  : MetH l Z EL0 n0 N_m_4 method_4_code 7 (some .boolean) [] R_rm133 #[.ref q0, .int 3, .int 2, .ref q1, .int 2, .ref q2, .int 0] h0 [] (fun vs v h ve => (v = some (.int 1) ∧ (h0 = h))) := by
  refine MetH.of #[.val (.ref q0), .val (.int 3), .val (.int 2), .val (.ref q1), .val (.int 2), .val (.ref q2), .val (.int 0)] (plainFor_of_name pn_com_example_tight_calculus_tightcalculus_ReportWordsPinLaw) rfl Z0 (fun p e s m below meth c T0 hret hml hnm hSL hs0 X0 => ?_)
  refine kILn X0 d8_0 rfl ?_
  refine kILn X0 d8_1 rfl ?_
  refine kICf X0 d8_2 (XT.ii_lt_f (by decide)) ?_
  refine kIC X0 1 d8_5 (by decide) ?_
  exact kRETZ X0 (gEL G) (t := .boolean) hret (by simp) d8_6 (fun ve hve => ⟨rfl, rfl⟩) (by decide)
def R_rm134 : Room := { frames := 0, cells := 0, slots := 0, locals := 0 }
theorem rm134 (G : Glob Z a0 iCS vSI) (i0 i1 i2 i3 : Int32) (q0 q1 q2 q3 : Addr) (kp0 kp1 kp2 : ClassId) (h0 : Heap) (Z0 : n0 ≤ h0.size) (O0 : Old Z n0 h0)  : MetH l Z EL0 n0 N_m_4 method_4_code 7 (some .boolean) [] R_rm134 #[.ref q0, .int 4, .int 2, .ref q1, .int 2, .ref q2, .int 0] h0 [] (fun vs v h ve => (v = some (.int 1) ∧ (h0 = h))) := by
  refine MetH.of #[.val (.ref q0), .val (.int 4), .val (.int 2), .val (.ref q1), .val (.int 2), .val (.ref q2), .val (.int 0)] (plainFor_of_name pn_com_example_tight_calculus_tightcalculus_ReportWordsPinLaw) rfl Z0 (fun p e s m below meth c T0 hret hml hnm hSL hs0 X0 => ?_)
  refine kILn X0 d8_0 rfl ?_
  refine kILn X0 d8_1 rfl ?_
  refine kICf X0 d8_2 (XT.ii_lt_f (by decide)) ?_
  refine kIC X0 1 d8_5 (by decide) ?_
  exact kRETZ X0 (gEL G) (t := .boolean) hret (by simp) d8_6 (fun ve hve => ⟨rfl, rfl⟩) (by decide)
def R_rm138 : Room := { frames := 0, cells := 0, slots := 0, locals := 0 }
theorem rm138 (G : Glob Z a0 iCS vSI) (q0 q1 : Addr) (kp0 : ClassId) (h0 : Heap) (Z0 : n0 ≤ h0.size) (O0 : Old Z n0 h0) (F_q0_value : Fld Z h0 q0 "java/lang/AbstractStringBuilder" "value" "[B" (.ref q1)) (A_q1 : Arv Z h0 q1 kp0 .byte 16 [.int 0, .int 0, .int 0, .int 0, .int 0, .int 0, .int 0, .int 0, .int 0, .int 0, .int 0, .int 0, .int 0, .int 0, .int 0, .int 0] (.int 0)) (F_q0_coder : Fld Z h0 q0 "java/lang/AbstractStringBuilder" "coder" "B" (.int 0)) : MetH l Z EL0 n0 N_jdk_68_m_9 jdk_68_method_9_code 3 none [] R_rm138 #[.ref q0, .int 2] h0 [] (fun vs v h ve => (v = none ∧ (h0 = h))) := by
  refine MetH.of #[.val (.ref q0), .val (.int 2), .unset] (plainFor_of_name pn_java_lang_AbstractStringBuilder) rfl Z0 (fun p e s m below meth c T0 hret hml hnm hSL hs0 X0 => ?_)
  refine kALn X0 d16_0 rfl rfl ?_
  refine kGETF X0 (wd G 73 rfl) Via.refl F_q0_value d16_1 (fun T1 X2 => ?_)
  refine kLEN X2 A_q1 d16_4 ?_
  refine kALn X2 d16_5 rfl rfl ?_
  refine kGETF X2 (wd G 75 rfl) Via.refl F_q0_coder d16_6 (fun T3 X4 => ?_)
  refine kISHR X4 16 d16_9 (by decide) ?_
  refine kISn X4 #[.val (.ref q0), .val (.int 2), .val (.int 16)] d16_10 rfl ?_
  refine kILn X4 d16_11 rfl ?_
  refine kILn X4 d16_12 rfl ?_
  refine kISUB X4 (-14) d16_13 (by decide) ?_
  refine kIFt X4 38 d16_14 (XT.i0_le_t (by decide)) (by decide) ?_
  exact kRETV X4 (gEL G) hret d16_38 (fun ve hve => ⟨rfl, rfl⟩) (by decide)
def R_rm140 : Room := { frames := 1, cells := 0, slots := 0, locals := 13 }
theorem rm140 (G : Glob Z a0 iCS vSI) (i0 i1 : Int32) (q0 q1 q2 q3 : Addr) (kp0 kp1 : ClassId) (h0 : Heap) (Z0 : n0 ≤ h0.size) (O0 : Old Z n0 h0) (F_q0_coder : Fld Z h0 q0 "java/lang/AbstractStringBuilder" "coder" "B" (.int 0)) (F_q1_coder : Fld Z h0 q1 "java/lang/String" "coder" "B" (.int 0)) (E_q1 : Exa Z h0 q1 "java/lang/String") : MetH l Z EL0 n0 N_jdk_68_m_71 jdk_68_method_71_code 2 none [] R_rm140 #[.ref q0, .ref q1] h0 [] (fun vs v h ve => (v = none ∧ (h0 = h))) := by
  refine MetH.of #[.val (.ref q0), .val (.ref q1)] (plainFor_of_name pn_java_lang_AbstractStringBuilder) rfl Z0 (fun p e s m below meth c T0 hret hml hnm hSL hs0 X0 => ?_)
  refine kGETS X0 (wd G 72 rfl) Via.refl (Sta.ext O0.2 (S_CS G)) d18_0 (fun T1 X2 => ?_)
  refine kIFf X2 d18_3 (XT.i0_eq_f (n_CS G)) ?_
  refine kALn X2 d18_6 rfl rfl ?_
  refine kGETF X2 (wd G 75 rfl) Via.refl F_q0_coder d18_7 (fun T3 X4 => ?_)
  refine kALn X4 d18_10 rfl rfl ?_
  refine kVIRT X4 (gEL G) (argsL := []) (rest := [.int 0]) (wd G 105 rfl) (wd G 41 rfl) (own_nf X4.hZ (own_noinst (wd G 6 rfl))) (wd G 43 rfl) (wd G 42 rfl) (wd G 7 rfl) (wd G 44 rfl) (by decide) E_q1 (rm37 G i0 i1 q1 q3 kp1 h0 X4.n O0 F_q1_coder) all0 (lenOf pd___B rfl) rfl 1 rfl (by decide) hml.symm d18_11 (fun v5 T6 h7 vm8 _ w9 q10 C11 C12 X13 => ?_)
  obtain ⟨e15, f16⟩ := q10
  subst e15
  subst f16
  show Go _ _ _ _ _ (mkF _ _ _ [.int 0, .int 0])
  refine kICt X13 21 d18_14 (XT.ii_eq_t (by decide)) (by decide) ?_
  exact kRETV X13 (gEL G) hret d18_21 (fun ve hve => ⟨rfl, rfl⟩) (by decide)
def R_rm141 : Room := { frames := 1, cells := 0, slots := 0, locals := 18 }
theorem rm141 (G : Glob Z a0 iCS vSI) (i0 i1 : Int32) (q0 q1 q2 : Addr) (kp0 kp1 : ClassId) (h0 : Heap) (Z0 : n0 ≤ h0.size) (O0 : Old Z n0 h0) (F_q0_coder : Fld Z h0 q0 "java/lang/String" "coder" "B" (.int 0)) (E_q0 : Exa Z h0 q0 "java/lang/String") (F_q0_value : Fld Z h0 q0 "java/lang/String" "value" "[B" (.ref q2)) (A_q2 : Arv Z h0 q2 kp1 .byte 2 [.int i0, .int i1] (.int 0)) (A_q1 : Arv Z h0 q1 kp0 .byte 16 [.int 0, .int 0, .int 0, .int 0, .int 0, .int 0, .int 0, .int 0, .int 0, .int 0, .int 0, .int 0, .int 0, .int 0, .int 0, .int 0] (.int 0)) (g_q1 : n0 ≤ q1) : MetH l Z EL0 n0 N_jdk_42_m_147 jdk_42_method_147_code 4 none [] R_rm141 #[.ref q0, .ref q1, .int 0, .int 0] h0 [q1] (fun vs v h ve => (v = none ∧ (Keep h0 h [q1]) ∧ (Arv Z h q1 kp0 .byte 16 [.int i0, .int i1, .int 0, .int 0, .int 0, .int 0, .int 0, .int 0, .int 0, .int 0, .int 0, .int 0, .int 0, .int 0, .int 0, .int 0] (.int 0)))) := by
  refine MetH.of #[.val (.ref q0), .val (.ref q1), .val (.int 0), .val (.int 0)] (plainFor_of_name pn_java_lang_String) rfl Z0 (fun p e s m below meth c T0 hret hml hnm hSL hs0 X0 => ?_)
  have S_q1 := hSL q1 (List.mem_of_getElem? (i := 0) rfl)
  refine kALn X0 d19_0 rfl rfl ?_
  refine kVIRT X0 (gEL G) (argsL := []) (rest := []) (wd G 40 rfl) (wd G 41 rfl) (own_nf X0.hZ (own_noinst (wd G 6 rfl))) (wd G 43 rfl) (wd G 42 rfl) (wd G 7 rfl) (wd G 44 rfl) (by decide) E_q0 (rm37 G i0 i1 q0 q2 kp1 h0 X0.n O0 F_q0_coder) all0 (lenOf pd___B rfl) rfl 0 rfl (by decide) hml.symm d19_1 (fun v1 T2 h3 vm4 _ w5 q6 C7 C8 X9 => ?_)
  obtain ⟨e11, f12⟩ := q6
  subst e11
  subst f12
  show Go _ _ _ _ _ (mkF _ _ _ [.int 0])
  refine kILn X9 d19_4 rfl ?_
  refine kICf X9 d19_5 (XT.ii_ne_f (by decide)) ?_
  refine kALn X9 d19_8 rfl rfl ?_
  refine kGETF X9 (wd G 24 rfl) Via.refl F_q0_value d19_9 (fun T13 X14 => ?_)
  refine kIC X14 0 d19_12 (by decide) ?_
  refine kALn X14 d19_13 rfl rfl ?_
  refine kILn X14 d19_14 rfl ?_
  refine kILn X14 d19_15 rfl ?_
  refine kISHL X14 0 d19_16 (by decide) ?_
  refine kALn X14 d19_17 rfl rfl ?_
  refine kGETF X14 (wd G 24 rfl) Via.refl F_q0_value d19_18 (fun T15 X16 => ?_)
  refine kLEN X16 A_q2 d19_21 ?_
  have f17 := (CHr.safe C8 (A_q1.lt) S_q1)
  refine kCPA X16 (wd G 111 rfl) (wd G 114 rfl) (wd G 112 rfl) (wd G 113 rfl) A_q2 A_q1 (Or.inl ⟨rfl, rfl⟩) (us := [.int i0, .int i1]) (by decide) rfl (by show 2 ≤ 16; decide) g_q1 f17 hml.symm d19_22 (by decide) 0 (Nat.le_of_eq rfl) (by decide) (fun T18 h19 L21 K22 C23 f24 X20 => ?_)
  have f25 : Arv Z h19 q1 kp0 .byte 16 [.int i0, .int i1, .int 0, .int 0, .int 0, .int 0, .int 0, .int 0, .int 0, .int 0, .int 0, .int 0, .int 0, .int 0, .int 0, .int 0] (.int 0) := f24
  refine kGOTO X20 43 d19_25 (by decide) ?_
  have K26 : Keep h0 h19 [q1] := (Keep.trans (Keep.refl h0 [q1]) K22 (allS (Or.inl (List.mem_of_getElem? (i := 0) rfl)) all0))
  exact kRETV X20 (gEL G) hret d19_43 (fun ve hve => ⟨rfl, K26, f25⟩) (by decide)
def R_rm139 : Room := { frames := 2, cells := 0, slots := 0, locals := 33 }
theorem rm139 (G : Glob Z a0 iCS vSI) (i0 i1 : Int32) (q0 q1 q2 q3 : Addr) (kp0 kp1 : ClassId) (h0 : Heap) (Z0 : n0 ≤ h0.size) (O0 : Old Z n0 h0) (F_q0_coder : Fld Z h0 q0 "java/lang/AbstractStringBuilder" "coder" "B" (.int 0)) (F_q1_coder : Fld Z h0 q1 "java/lang/String" "coder" "B" (.int 0)) (E_q1 : Exa Z h0 q1 "java/lang/String") (E_q0 : Exa Z h0 q0 "java/lang/StringBuilder") (F_q0_value : Fld Z h0 q0 "java/lang/AbstractStringBuilder" "value" "[B" (.ref q2)) (F_q1_value : Fld Z h0 q1 "java/lang/String" "value" "[B" (.ref q3)) (A_q3 : Arv Z h0 q3 kp1 .byte 2 [.int i0, .int i1] (.int 0)) (A_q2 : Arv Z h0 q2 kp0 .byte 16 [.int 0, .int 0, .int 0, .int 0, .int 0, .int 0, .int 0, .int 0, .int 0, .int 0, .int 0, .int 0, .int 0, .int 0, .int 0, .int 0] (.int 0)) (g_q2 : n0 ≤ q2) : MetH l Z EL0 n0 N_jdk_68_m_73 jdk_68_method_73_code 3 none [] R_rm139 #[.ref q0, .int 0, .ref q1] h0 [q2] (fun vs v h ve => (v = none ∧ (Keep h0 h [q2]) ∧ (Arv Z h q2 kp0 .byte 16 [.int i0, .int i1, .int 0, .int 0, .int 0, .int 0, .int 0, .int 0, .int 0, .int 0, .int 0, .int 0, .int 0, .int 0, .int 0, .int 0] (.int 0)))) := by
  refine MetH.of #[.val (.ref q0), .val (.int 0), .val (.ref q1)] (plainFor_of_name pn_java_lang_AbstractStringBuilder) rfl Z0 (fun p e s m below meth c T0 hret hml hnm hSL hs0 X0 => ?_)
  have S_q2 := hSL q2 (List.mem_of_getElem? (i := 0) rfl)
  refine kALn X0 d17_0 rfl rfl ?_
  refine kALn X0 d17_1 rfl rfl ?_
  refine kVIRT X0 (gEL G) (argsL := [.ref q1]) (rest := []) (wd G 100 rfl) (own_decl (wd G 101 rfl) (wd G 104 rfl)) (own_nf X0.hZ (own_noface (wd G 93 rfl) rfl)) (wd G 103 rfl) (wd G 101 rfl) (wd G 69 rfl) (wd G 104 rfl) (by decide) E_q0 (rm140 G i0 i1 q0 q1 q2 q3 kp0 kp1 h0 X0.n O0 F_q0_coder F_q1_coder E_q1) all0 (lenOf pd__Ljava_lang_String__V rfl) rfl 0 rfl (by decide) hml.symm d17_2 (fun v1 T2 h3 vm4 _ w5 q6 C7 C8 X9 => ?_)
  obtain ⟨e11, f12⟩ := q6
  subst e11
  subst f12
  show Go _ _ _ _ _ (mkF _ _ _ [])
  refine kALn X9 d17_5 rfl rfl ?_
  refine kALn X9 d17_6 rfl rfl ?_
  refine kGETF X9 (wd G 73 rfl) Via.refl F_q0_value d17_7 (fun T13 X14 => ?_)
  refine kILn X14 d17_10 rfl ?_
  refine kALn X14 d17_11 rfl rfl ?_
  refine kGETF X14 (wd G 75 rfl) Via.refl F_q0_coder d17_12 (fun T15 X16 => ?_)
  have f26 := (CHr.safe C8 (A_q2.lt) S_q2)
  refine kVIRT X16 (gEL G) (argsL := [.ref q2, .int 0, .int 0]) (rest := []) (wd G 106 rfl) (wd G 107 rfl) (own_nf X16.hZ (own_noinst (wd G 6 rfl))) (wd G 109 rfl) (wd G 108 rfl) (wd G 7 rfl) (wd G 110 rfl) (by decide) E_q1 (rm141 G i0 i1 q1 q2 q3 kp0 kp1 h0 X16.n O0 F_q1_coder E_q1 F_q1_value A_q3 A_q2 g_q2) (allS ⟨(A_q2.lt), f26⟩ all0) (lenOf pd___BIB_V rfl) rfl 0 rfl (by decide) hml.symm d17_15 (fun v17 T18 h19 vm20 _ w21 q22 C23 C24 X25 => ?_)
  obtain ⟨e28, f29, f30⟩ := q22
  subst e28
  show Go _ _ _ _ _ (mkF _ _ _ [])
  have K31 : Keep h0 h19 [q2] := (Keep.trans (Keep.refl h0 [q2]) f29 (allS (Or.inl (List.mem_of_getElem? (i := 0) rfl)) all0))
  exact kRETV X25 (gEL G) hret d17_18 (fun ve hve => ⟨rfl, K31, f30⟩) (by decide)
def R_rm137 : Room := { frames := 3, cells := 0, slots := 0, locals := 47 }
theorem rm137 (G : Glob Z a0 iCS vSI) (i0 i1 : Int32) (q0 q1 q2 q3 : Addr) (kp0 kp1 : ClassId) (h0 : Heap) (Z0 : n0 ≤ h0.size) (O0 : Old Z n0 h0) (F_q1_value : Fld Z h0 q1 "java/lang/String" "value" "[B" (.ref q3)) (A_q3 : Arv Z h0 q3 kp1 .byte 2 [.int i0, .int i1] (.int 0)) (F_q1_coder : Fld Z h0 q1 "java/lang/String" "coder" "B" (.int 0)) (E_q1 : Exa Z h0 q1 "java/lang/String") (F_q0_count : Fld Z h0 q0 "java/lang/AbstractStringBuilder" "count" "I" (.int 0)) (F_q0_value : Fld Z h0 q0 "java/lang/AbstractStringBuilder" "value" "[B" (.ref q2)) (A_q2 : Arv Z h0 q2 kp0 .byte 16 [.int 0, .int 0, .int 0, .int 0, .int 0, .int 0, .int 0, .int 0, .int 0, .int 0, .int 0, .int 0, .int 0, .int 0, .int 0, .int 0] (.int 0)) (F_q0_coder : Fld Z h0 q0 "java/lang/AbstractStringBuilder" "coder" "B" (.int 0)) (E_q0 : Exa Z h0 q0 "java/lang/StringBuilder") (d_q0_q2 : q0 ≠ q2) (g_q0 : n0 ≤ q0) (g_q2 : n0 ≤ q2) : MetH l Z EL0 n0 N_jdk_68_m_22 jdk_68_method_22_code 3 (some (.object "java/lang/AbstractStringBuilder")) [] R_rm137 #[.ref q0, .ref q1] h0 [q2] (fun vs v h ve => (v = some (.ref q0) ∧ (Keep h0 h [q2, q0]) ∧ (Arv Z h q2 kp0 .byte 16 [.int i0, .int i1, .int 0, .int 0, .int 0, .int 0, .int 0, .int 0, .int 0, .int 0, .int 0, .int 0, .int 0, .int 0, .int 0, .int 0] (.int 0)) ∧ (Fld Z h q0 "java/lang/AbstractStringBuilder" "coder" "B" (.int 0)) ∧ (Fld Z h q0 "java/lang/AbstractStringBuilder" "count" "I" (.int 2)) ∧ (Fld Z h q0 "java/lang/AbstractStringBuilder" "value" "[B" (.ref q2)))) := by
  refine MetH.of #[.val (.ref q0), .val (.ref q1), .unset] (plainFor_of_name pn_java_lang_AbstractStringBuilder) rfl Z0 (fun p e s m below meth c T0 hret hml hnm hSL hs0 X0 => ?_)
  have S_q2 := hSL q2 (List.mem_of_getElem? (i := 0) rfl)
  refine kALn X0 d15_0 rfl rfl ?_
  refine kNNt X0 9 d15_1 (by decide) ?_
  refine kALn X0 d15_9 rfl rfl ?_
  refine kVIRT X0 (gEL G) (argsL := []) (rest := []) (wd G 87 rfl) (wd G 36 rfl) (own_nf X0.hZ (own_noinst (wd G 6 rfl))) (wd G 38 rfl) (wd G 37 rfl) (wd G 7 rfl) (wd G 39 rfl) (by decide) E_q1 (rm36 G i0 i1 q1 q3 kp1 h0 X0.n O0 F_q1_value A_q3 F_q1_coder E_q1) all0 (lenOf pd___I rfl) rfl 0 rfl (by decide) hml.symm d15_10 (fun v1 T2 h3 vm4 _ w5 q6 C7 C8 X9 => ?_)
  obtain ⟨e11, f12⟩ := q6
  subst e11
  subst f12
  show Go _ _ _ _ _ (mkF _ _ _ [.int 2])
  refine kISn X9 #[.val (.ref q0), .val (.ref q1), .val (.int 2)] d15_13 rfl ?_
  refine kALn X9 d15_14 rfl rfl ?_
  refine kALn X9 d15_15 rfl rfl ?_
  refine kGETF X9 (wd G 88 rfl) Via.refl F_q0_count d15_16 (fun T13 X14 => ?_)
  refine kILn X14 d15_19 rfl ?_
  refine kIADD X14 2 d15_20 (by decide) ?_
  refine kVIRT X14 (gEL G) (argsL := [.int 2]) (rest := []) (wd G 90 rfl) (own_decl (wd G 91 rfl) (wd G 94 rfl)) (own_nf X14.hZ (own_noface (wd G 93 rfl) rfl)) (wd G 93 rfl) (wd G 91 rfl) (wd G 69 rfl) (wd G 94 rfl) (by decide) E_q0 (rm138 G q0 q2 kp0 h0 X14.n O0 F_q0_value A_q2 F_q0_coder) all0 (lenOf pd__I_V rfl) rfl 0 rfl (by decide) hml.symm d15_21 (fun v15 T16 h17 vm18 _ w19 q20 C21 C22 X23 => ?_)
  obtain ⟨e25, f26⟩ := q20
  subst e25
  subst f26
  show Go _ _ _ _ _ (mkF _ _ _ [])
  refine kALn X23 d15_24 rfl rfl ?_
  refine kALn X23 d15_25 rfl rfl ?_
  refine kGETF X23 (wd G 88 rfl) Via.refl F_q0_count d15_26 (fun T27 X28 => ?_)
  refine kALn X28 d15_29 rfl rfl ?_
  have f38 := (CHr.safe C22 (A_q2.lt) (CHr.safe C8 (A_q2.lt) S_q2))
  refine kVIRT X28 (gEL G) (argsL := [.int 0, .ref q1]) (rest := []) (wd G 95 rfl) (own_decl (wd G 96 rfl) (wd G 99 rfl)) (own_nf X28.hZ (own_noface (wd G 93 rfl) rfl)) (wd G 98 rfl) (wd G 96 rfl) (wd G 69 rfl) (wd G 99 rfl) (by decide) E_q0 (rm139 G i0 i1 q0 q1 q2 q3 kp0 kp1 h0 X28.n O0 F_q0_coder F_q1_coder E_q1 E_q0 F_q0_value F_q1_value A_q3 A_q2 g_q2) (allS ⟨(A_q2.lt), f38⟩ all0) (lenOf pd__ILjava_lang_String__V rfl) rfl 0 rfl (by decide) hml.symm d15_30 (fun v29 T30 h31 vm32 _ w33 q34 C35 C36 X37 => ?_)
  obtain ⟨e40, f41, f42⟩ := q34
  subst e40
  show Go _ _ _ _ _ (mkF _ _ _ [])
  refine kALn X37 d15_33 rfl rfl ?_
  refine kDUP X37 d15_34 rfl ?_
  have f43 := (Fld.keep F_q0_count f41 (ninS d_q0_q2 nin0))
  refine kGETF X37 (wd G 88 rfl) Via.refl f43 d15_35 (fun T44 X45 => ?_)
  refine kILn X45 d15_38 rfl ?_
  refine kIADD X45 2 d15_39 (by decide) ?_
  have f46 := (Exa.keep E_q0 f41)
  refine kPUTF X45 (wd G 88 rfl) Via.refl f43 f46 (Or.inl (wd G 89 rfl)) (wd G 60 rfl) (ty := .int) (by decide) rfl rfl g_q0 (Safe.exa X45.hZ.alike f46 (by decide) (by decide)) d15_40 (fun T47 h48 L51 W50 X49 => ?_)
  have f52 := Fld.same W50 f43
  refine kALn X49 d15_43 rfl rfl ?_
  have K53 : Keep h0 h48 [q2, q0] := (Keep.wr (Keep.trans (Keep.refl h0 [q2, q0]) f41 (allS (Or.inl (List.mem_of_getElem? (i := 0) rfl)) all0)) W50 (Or.inl (List.mem_of_getElem? (i := 1) rfl)))
  have f54 := (Arv.other f42 W50 (Ne.symm d_q0_q2))
  have f55 := (Fld.other W50 (Fld.keep F_q0_coder f41 (ninS d_q0_q2 nin0)) (Or.inr (slot_ne (Or.inl (wd G 76 rfl)) (Or.inl (wd G 89 rfl)) (by decide) (by decide : parseFieldDescriptor "B" = some .byte) (by decide : parseFieldDescriptor "I" = some .int))))
  have f56 := (Fld.other W50 (Fld.keep F_q0_value f41 (ninS d_q0_q2 nin0)) (Or.inr (slot_ne (Or.inl (wd G 74 rfl)) (Or.inl (wd G 89 rfl)) (by decide) (by decide : parseFieldDescriptor "[B" = some (.array (.byte))) (by decide : parseFieldDescriptor "I" = some .int))))
  exact kRETA X49 (gEL G) hret rfl rfl d15_44 (fun ve hve => ⟨rfl, K53, f54, f55, f52, f56⟩) (by decide)
def R_rm136 : Room := { frames := 4, cells := 0, slots := 0, locals := 61 }
theorem rm136 (G : Glob Z a0 iCS vSI) (i0 i1 : Int32) (q0 q1 q2 q3 : Addr) (kp0 kp1 : ClassId) (h0 : Heap) (Z0 : n0 ≤ h0.size) (O0 : Old Z n0 h0) (F_q1_value : Fld Z h0 q1 "java/lang/String" "value" "[B" (.ref q3)) (A_q3 : Arv Z h0 q3 kp1 .byte 2 [.int i0, .int i1] (.int 0)) (F_q1_coder : Fld Z h0 q1 "java/lang/String" "coder" "B" (.int 0)) (E_q1 : Exa Z h0 q1 "java/lang/String") (F_q0_count : Fld Z h0 q0 "java/lang/AbstractStringBuilder" "count" "I" (.int 0)) (F_q0_value : Fld Z h0 q0 "java/lang/AbstractStringBuilder" "value" "[B" (.ref q2)) (A_q2 : Arv Z h0 q2 kp0 .byte 16 [.int 0, .int 0, .int 0, .int 0, .int 0, .int 0, .int 0, .int 0, .int 0, .int 0, .int 0, .int 0, .int 0, .int 0, .int 0, .int 0] (.int 0)) (F_q0_coder : Fld Z h0 q0 "java/lang/AbstractStringBuilder" "coder" "B" (.int 0)) (E_q0 : Exa Z h0 q0 "java/lang/StringBuilder") (d_q0_q2 : q0 ≠ q2) (g_q0 : n0 ≤ q0) (g_q2 : n0 ≤ q2) : MetH l Z EL0 n0 N_jdk_67_m_7 jdk_67_method_7_code 2 (some (.object "java/lang/StringBuilder")) [] R_rm136 #[.ref q0, .ref q1] h0 [q2] (fun vs v h ve => (v = some (.ref q0) ∧ (Keep h0 h [q2, q0]) ∧ (Arv Z h q2 kp0 .byte 16 [.int i0, .int i1, .int 0, .int 0, .int 0, .int 0, .int 0, .int 0, .int 0, .int 0, .int 0, .int 0, .int 0, .int 0, .int 0, .int 0] (.int 0)) ∧ (Fld Z h q0 "java/lang/AbstractStringBuilder" "coder" "B" (.int 0)) ∧ (Fld Z h q0 "java/lang/AbstractStringBuilder" "count" "I" (.int 2)) ∧ (Fld Z h q0 "java/lang/AbstractStringBuilder" "value" "[B" (.ref q2)))) := by
  refine MetH.of #[.val (.ref q0), .val (.ref q1)] (plainFor_of_name pn_java_lang_StringBuilder) rfl Z0 (fun p e s m below meth c T0 hret hml hnm hSL hs0 X0 => ?_)
  have S_q2 := hSL q2 (List.mem_of_getElem? (i := 0) rfl)
  refine kALn X0 d14_0 rfl rfl ?_
  refine kALn X0 d14_1 rfl rfl ?_
  refine kSUP X0 (gEL G) (argsL := [.ref q1]) (rest := []) (wd G 82 rfl) (own_same (wd G 83 rfl) (own_noface (wd G 93 rfl) rfl) (by decide)) (wd G 83 rfl) (wd G 84 rfl) (by decide) (wd G 69 rfl) (wd G 86 rfl) (Ins.of_exa E_q0 (wd G 68 rfl)) (rm137 G i0 i1 q0 q1 q2 q3 kp0 kp1 h0 X0.n O0 F_q1_value A_q3 F_q1_coder E_q1 F_q0_count F_q0_value A_q2 F_q0_coder E_q0 d_q0_q2 g_q0 g_q2) (allS ⟨(A_q2.lt), S_q2⟩ all0) (lenOf pd__Ljava_lang_String__Ljava_lang_AbstractStringBuilder_ rfl) rfl 0 rfl (by decide) hml.symm d14_2 (fun v1 T2 h3 vm4 _ w5 q6 C7 C8 X9 => ?_)
  obtain ⟨e11, f12, f13, f14, f15, f16⟩ := q6
  subst e11
  show Go _ _ _ _ _ (mkF _ _ _ [.ref q0])
  refine kPOP X9 d14_5 rfl ?_
  refine kALn X9 d14_6 rfl rfl ?_
  have K17 : Keep h0 h3 [q2, q0] := (Keep.trans (Keep.refl h0 [q2, q0]) f12 (allS (Or.inl (List.mem_of_getElem? (i := 0) rfl)) (allS (Or.inl (List.mem_of_getElem? (i := 1) rfl)) all0)))
  exact kRETA X9 (gEL G) hret rfl rfl d14_7 (fun ve hve => ⟨rfl, K17, f13, f14, f15, f16⟩) (by decide)
def R_rm144 : Room := { frames := 0, cells := 0, slots := 0, locals := 0 }
theorem rm144 (G : Glob Z a0 iCS vSI) (i0 i1 : Int32) (q0 q1 : Addr) (kp0 : ClassId) (h0 : Heap) (Z0 : n0 ≤ h0.size) (O0 : Old Z n0 h0) (F_q0_value : Fld Z h0 q0 "java/lang/AbstractStringBuilder" "value" "[B" (.ref q1)) (A_q1 : Arv Z h0 q1 kp0 .byte 16 [.int i0, .int i1, .int 0, .int 0, .int 0, .int 0, .int 0, .int 0, .int 0, .int 0, .int 0, .int 0, .int 0, .int 0, .int 0, .int 0] (.int 0)) (F_q0_coder : Fld Z h0 q0 "java/lang/AbstractStringBuilder" "coder" "B" (.int 0)) : MetH l Z EL0 n0 N_jdk_68_m_9 jdk_68_method_9_code 3 none [] R_rm144 #[.ref q0, .int 3] h0 [] (fun vs v h ve => (v = none ∧ (h0 = h))) := by
  refine MetH.of #[.val (.ref q0), .val (.int 3), .unset] (plainFor_of_name pn_java_lang_AbstractStringBuilder) rfl Z0 (fun p e s m below meth c T0 hret hml hnm hSL hs0 X0 => ?_)
  refine kALn X0 d16_0 rfl rfl ?_
  refine kGETF X0 (wd G 73 rfl) Via.refl F_q0_value d16_1 (fun T1 X2 => ?_)
  refine kLEN X2 A_q1 d16_4 ?_
  refine kALn X2 d16_5 rfl rfl ?_
  refine kGETF X2 (wd G 75 rfl) Via.refl F_q0_coder d16_6 (fun T3 X4 => ?_)
  refine kISHR X4 16 d16_9 (by decide) ?_
  refine kISn X4 #[.val (.ref q0), .val (.int 3), .val (.int 16)] d16_10 rfl ?_
  refine kILn X4 d16_11 rfl ?_
  refine kILn X4 d16_12 rfl ?_
  refine kISUB X4 (-13) d16_13 (by decide) ?_
  refine kIFt X4 38 d16_14 (XT.i0_le_t (by decide)) (by decide) ?_
  exact kRETV X4 (gEL G) hret d16_38 (fun ve hve => ⟨rfl, rfl⟩) (by decide)
def R_rm146 : Room := { frames := 1, cells := 0, slots := 0, locals := 13 }
theorem rm146 (G : Glob Z a0 iCS vSI) (i0 i1 : Int32) (q0 q1 q2 q3 : Addr) (kp0 kp1 : ClassId) (h0 : Heap) (Z0 : n0 ≤ h0.size) (O0 : Old Z n0 h0) (F_q0_coder : Fld Z h0 q0 "java/lang/AbstractStringBuilder" "coder" "B" (.int 0)) (F_q1_coder : Fld Z h0 q1 "java/lang/String" "coder" "B" (.int 0)) (E_q1 : Exa Z h0 q1 "java/lang/String") : MetH l Z EL0 n0 N_jdk_68_m_71 jdk_68_method_71_code 2 none [] R_rm146 #[.ref q0, .ref q1] h0 [] (fun vs v h ve => (v = none ∧ (h0 = h))) := by
  refine MetH.of #[.val (.ref q0), .val (.ref q1)] (plainFor_of_name pn_java_lang_AbstractStringBuilder) rfl Z0 (fun p e s m below meth c T0 hret hml hnm hSL hs0 X0 => ?_)
  refine kGETS X0 (wd G 72 rfl) Via.refl (Sta.ext O0.2 (S_CS G)) d18_0 (fun T1 X2 => ?_)
  refine kIFf X2 d18_3 (XT.i0_eq_f (n_CS G)) ?_
  refine kALn X2 d18_6 rfl rfl ?_
  refine kGETF X2 (wd G 75 rfl) Via.refl F_q0_coder d18_7 (fun T3 X4 => ?_)
  refine kALn X4 d18_10 rfl rfl ?_
  refine kVIRT X4 (gEL G) (argsL := []) (rest := [.int 0]) (wd G 105 rfl) (wd G 41 rfl) (own_nf X4.hZ (own_noinst (wd G 6 rfl))) (wd G 43 rfl) (wd G 42 rfl) (wd G 7 rfl) (wd G 44 rfl) (by decide) E_q1 (rm65 G q1 q3 kp1 h0 X4.n O0 F_q1_coder) all0 (lenOf pd___B rfl) rfl 1 rfl (by decide) hml.symm d18_11 (fun v5 T6 h7 vm8 _ w9 q10 C11 C12 X13 => ?_)
  obtain ⟨e15, f16⟩ := q10
  subst e15
  subst f16
  show Go _ _ _ _ _ (mkF _ _ _ [.int 0, .int 0])
  refine kICt X13 21 d18_14 (XT.ii_eq_t (by decide)) (by decide) ?_
  exact kRETV X13 (gEL G) hret d18_21 (fun ve hve => ⟨rfl, rfl⟩) (by decide)
def R_rm147 : Room := { frames := 1, cells := 0, slots := 0, locals := 18 }
theorem rm147 (G : Glob Z a0 iCS vSI) (i0 i1 : Int32) (q0 q1 q2 : Addr) (kp0 kp1 : ClassId) (h0 : Heap) (Z0 : n0 ≤ h0.size) (O0 : Old Z n0 h0) (F_q0_coder : Fld Z h0 q0 "java/lang/String" "coder" "B" (.int 0)) (E_q0 : Exa Z h0 q0 "java/lang/String") (F_q0_value : Fld Z h0 q0 "java/lang/String" "value" "[B" (.ref q2)) (A_q2 : Arv Z h0 q2 kp1 .byte 1 [.int 32] (.int 0)) (A_q1 : Arv Z h0 q1 kp0 .byte 16 [.int i0, .int i1, .int 0, .int 0, .int 0, .int 0, .int 0, .int 0, .int 0, .int 0, .int 0, .int 0, .int 0, .int 0, .int 0, .int 0] (.int 0)) (g_q1 : n0 ≤ q1) : MetH l Z EL0 n0 N_jdk_42_m_147 jdk_42_method_147_code 4 none [] R_rm147 #[.ref q0, .ref q1, .int 2, .int 0] h0 [q1] (fun vs v h ve => (v = none ∧ (Keep h0 h [q1]) ∧ (Arv Z h q1 kp0 .byte 16 [.int i0, .int i1, .int 32, .int 0, .int 0, .int 0, .int 0, .int 0, .int 0, .int 0, .int 0, .int 0, .int 0, .int 0, .int 0, .int 0] (.int 0)))) := by
  refine MetH.of #[.val (.ref q0), .val (.ref q1), .val (.int 2), .val (.int 0)] (plainFor_of_name pn_java_lang_String) rfl Z0 (fun p e s m below meth c T0 hret hml hnm hSL hs0 X0 => ?_)
  have S_q1 := hSL q1 (List.mem_of_getElem? (i := 0) rfl)
  refine kALn X0 d19_0 rfl rfl ?_
  refine kVIRT X0 (gEL G) (argsL := []) (rest := []) (wd G 40 rfl) (wd G 41 rfl) (own_nf X0.hZ (own_noinst (wd G 6 rfl))) (wd G 43 rfl) (wd G 42 rfl) (wd G 7 rfl) (wd G 44 rfl) (by decide) E_q0 (rm65 G q0 q2 kp1 h0 X0.n O0 F_q0_coder) all0 (lenOf pd___B rfl) rfl 0 rfl (by decide) hml.symm d19_1 (fun v1 T2 h3 vm4 _ w5 q6 C7 C8 X9 => ?_)
  obtain ⟨e11, f12⟩ := q6
  subst e11
  subst f12
  show Go _ _ _ _ _ (mkF _ _ _ [.int 0])
  refine kILn X9 d19_4 rfl ?_
  refine kICf X9 d19_5 (XT.ii_ne_f (by decide)) ?_
  refine kALn X9 d19_8 rfl rfl ?_
  refine kGETF X9 (wd G 24 rfl) Via.refl F_q0_value d19_9 (fun T13 X14 => ?_)
  refine kIC X14 0 d19_12 (by decide) ?_
  refine kALn X14 d19_13 rfl rfl ?_
  refine kILn X14 d19_14 rfl ?_
  refine kILn X14 d19_15 rfl ?_
  refine kISHL X14 2 d19_16 (by decide) ?_
  refine kALn X14 d19_17 rfl rfl ?_
  refine kGETF X14 (wd G 24 rfl) Via.refl F_q0_value d19_18 (fun T15 X16 => ?_)
  refine kLEN X16 A_q2 d19_21 ?_
  have f17 := (CHr.safe C8 (A_q1.lt) S_q1)
  refine kCPA X16 (wd G 111 rfl) (wd G 114 rfl) (wd G 112 rfl) (wd G 113 rfl) A_q2 A_q1 (Or.inl ⟨rfl, rfl⟩) (us := [.int 32]) (by decide) rfl (by show 3 ≤ 16; decide) g_q1 f17 hml.symm d19_22 (by decide) 0 (Nat.le_of_eq rfl) (by decide) (fun T18 h19 L21 K22 C23 f24 X20 => ?_)
  have f25 : Arv Z h19 q1 kp0 .byte 16 [.int i0, .int i1, .int 32, .int 0, .int 0, .int 0, .int 0, .int 0, .int 0, .int 0, .int 0, .int 0, .int 0, .int 0, .int 0, .int 0] (.int 0) := f24
  refine kGOTO X20 43 d19_25 (by decide) ?_
  have K26 : Keep h0 h19 [q1] := (Keep.trans (Keep.refl h0 [q1]) K22 (allS (Or.inl (List.mem_of_getElem? (i := 0) rfl)) all0))
  exact kRETV X20 (gEL G) hret d19_43 (fun ve hve => ⟨rfl, K26, f25⟩) (by decide)
def R_rm145 : Room := { frames := 2, cells := 0, slots := 0, locals := 33 }
theorem rm145 (G : Glob Z a0 iCS vSI) (i0 i1 : Int32) (q0 q1 q2 q3 : Addr) (kp0 kp1 : ClassId) (h0 : Heap) (Z0 : n0 ≤ h0.size) (O0 : Old Z n0 h0) (F_q0_coder : Fld Z h0 q0 "java/lang/AbstractStringBuilder" "coder" "B" (.int 0)) (F_q1_coder : Fld Z h0 q1 "java/lang/String" "coder" "B" (.int 0)) (E_q1 : Exa Z h0 q1 "java/lang/String") (E_q0 : Exa Z h0 q0 "java/lang/StringBuilder") (F_q0_value : Fld Z h0 q0 "java/lang/AbstractStringBuilder" "value" "[B" (.ref q2)) (F_q1_value : Fld Z h0 q1 "java/lang/String" "value" "[B" (.ref q3)) (A_q3 : Arv Z h0 q3 kp1 .byte 1 [.int 32] (.int 0)) (A_q2 : Arv Z h0 q2 kp0 .byte 16 [.int i0, .int i1, .int 0, .int 0, .int 0, .int 0, .int 0, .int 0, .int 0, .int 0, .int 0, .int 0, .int 0, .int 0, .int 0, .int 0] (.int 0)) (g_q2 : n0 ≤ q2) : MetH l Z EL0 n0 N_jdk_68_m_73 jdk_68_method_73_code 3 none [] R_rm145 #[.ref q0, .int 2, .ref q1] h0 [q2] (fun vs v h ve => (v = none ∧ (Keep h0 h [q2]) ∧ (Arv Z h q2 kp0 .byte 16 [.int i0, .int i1, .int 32, .int 0, .int 0, .int 0, .int 0, .int 0, .int 0, .int 0, .int 0, .int 0, .int 0, .int 0, .int 0, .int 0] (.int 0)))) := by
  refine MetH.of #[.val (.ref q0), .val (.int 2), .val (.ref q1)] (plainFor_of_name pn_java_lang_AbstractStringBuilder) rfl Z0 (fun p e s m below meth c T0 hret hml hnm hSL hs0 X0 => ?_)
  have S_q2 := hSL q2 (List.mem_of_getElem? (i := 0) rfl)
  refine kALn X0 d17_0 rfl rfl ?_
  refine kALn X0 d17_1 rfl rfl ?_
  refine kVIRT X0 (gEL G) (argsL := [.ref q1]) (rest := []) (wd G 100 rfl) (own_decl (wd G 101 rfl) (wd G 104 rfl)) (own_nf X0.hZ (own_noface (wd G 93 rfl) rfl)) (wd G 103 rfl) (wd G 101 rfl) (wd G 69 rfl) (wd G 104 rfl) (by decide) E_q0 (rm146 G i0 i1 q0 q1 q2 q3 kp0 kp1 h0 X0.n O0 F_q0_coder F_q1_coder E_q1) all0 (lenOf pd__Ljava_lang_String__V rfl) rfl 0 rfl (by decide) hml.symm d17_2 (fun v1 T2 h3 vm4 _ w5 q6 C7 C8 X9 => ?_)
  obtain ⟨e11, f12⟩ := q6
  subst e11
  subst f12
  show Go _ _ _ _ _ (mkF _ _ _ [])
  refine kALn X9 d17_5 rfl rfl ?_
  refine kALn X9 d17_6 rfl rfl ?_
  refine kGETF X9 (wd G 73 rfl) Via.refl F_q0_value d17_7 (fun T13 X14 => ?_)
  refine kILn X14 d17_10 rfl ?_
  refine kALn X14 d17_11 rfl rfl ?_
  refine kGETF X14 (wd G 75 rfl) Via.refl F_q0_coder d17_12 (fun T15 X16 => ?_)
  have f26 := (CHr.safe C8 (A_q2.lt) S_q2)
  refine kVIRT X16 (gEL G) (argsL := [.ref q2, .int 2, .int 0]) (rest := []) (wd G 106 rfl) (wd G 107 rfl) (own_nf X16.hZ (own_noinst (wd G 6 rfl))) (wd G 109 rfl) (wd G 108 rfl) (wd G 7 rfl) (wd G 110 rfl) (by decide) E_q1 (rm147 G i0 i1 q1 q2 q3 kp0 kp1 h0 X16.n O0 F_q1_coder E_q1 F_q1_value A_q3 A_q2 g_q2) (allS ⟨(A_q2.lt), f26⟩ all0) (lenOf pd___BIB_V rfl) rfl 0 rfl (by decide) hml.symm d17_15 (fun v17 T18 h19 vm20 _ w21 q22 C23 C24 X25 => ?_)
  obtain ⟨e28, f29, f30⟩ := q22
  subst e28
  show Go _ _ _ _ _ (mkF _ _ _ [])
  have K31 : Keep h0 h19 [q2] := (Keep.trans (Keep.refl h0 [q2]) f29 (allS (Or.inl (List.mem_of_getElem? (i := 0) rfl)) all0))
  exact kRETV X25 (gEL G) hret d17_18 (fun ve hve => ⟨rfl, K31, f30⟩) (by decide)
def R_rm143 : Room := { frames := 3, cells := 0, slots := 0, locals := 47 }
theorem rm143 (G : Glob Z a0 iCS vSI) (i0 i1 : Int32) (q0 q1 q2 q3 : Addr) (kp0 kp1 : ClassId) (h0 : Heap) (Z0 : n0 ≤ h0.size) (O0 : Old Z n0 h0) (F_q1_value : Fld Z h0 q1 "java/lang/String" "value" "[B" (.ref q3)) (A_q3 : Arv Z h0 q3 kp1 .byte 1 [.int 32] (.int 0)) (F_q1_coder : Fld Z h0 q1 "java/lang/String" "coder" "B" (.int 0)) (E_q1 : Exa Z h0 q1 "java/lang/String") (F_q0_count : Fld Z h0 q0 "java/lang/AbstractStringBuilder" "count" "I" (.int 2)) (F_q0_value : Fld Z h0 q0 "java/lang/AbstractStringBuilder" "value" "[B" (.ref q2)) (A_q2 : Arv Z h0 q2 kp0 .byte 16 [.int i0, .int i1, .int 0, .int 0, .int 0, .int 0, .int 0, .int 0, .int 0, .int 0, .int 0, .int 0, .int 0, .int 0, .int 0, .int 0] (.int 0)) (F_q0_coder : Fld Z h0 q0 "java/lang/AbstractStringBuilder" "coder" "B" (.int 0)) (E_q0 : Exa Z h0 q0 "java/lang/StringBuilder") (d_q0_q2 : q0 ≠ q2) (g_q0 : n0 ≤ q0) (g_q2 : n0 ≤ q2) : MetH l Z EL0 n0 N_jdk_68_m_22 jdk_68_method_22_code 3 (some (.object "java/lang/AbstractStringBuilder")) [] R_rm143 #[.ref q0, .ref q1] h0 [q2] (fun vs v h ve => (v = some (.ref q0) ∧ (Keep h0 h [q2, q0]) ∧ (Arv Z h q2 kp0 .byte 16 [.int i0, .int i1, .int 32, .int 0, .int 0, .int 0, .int 0, .int 0, .int 0, .int 0, .int 0, .int 0, .int 0, .int 0, .int 0, .int 0] (.int 0)) ∧ (Fld Z h q0 "java/lang/AbstractStringBuilder" "coder" "B" (.int 0)) ∧ (Fld Z h q0 "java/lang/AbstractStringBuilder" "count" "I" (.int 3)) ∧ (Fld Z h q0 "java/lang/AbstractStringBuilder" "value" "[B" (.ref q2)))) := by
  refine MetH.of #[.val (.ref q0), .val (.ref q1), .unset] (plainFor_of_name pn_java_lang_AbstractStringBuilder) rfl Z0 (fun p e s m below meth c T0 hret hml hnm hSL hs0 X0 => ?_)
  have S_q2 := hSL q2 (List.mem_of_getElem? (i := 0) rfl)
  refine kALn X0 d15_0 rfl rfl ?_
  refine kNNt X0 9 d15_1 (by decide) ?_
  refine kALn X0 d15_9 rfl rfl ?_
  refine kVIRT X0 (gEL G) (argsL := []) (rest := []) (wd G 87 rfl) (wd G 36 rfl) (own_nf X0.hZ (own_noinst (wd G 6 rfl))) (wd G 38 rfl) (wd G 37 rfl) (wd G 7 rfl) (wd G 39 rfl) (by decide) E_q1 (rm64 G q1 q3 kp1 h0 X0.n O0 F_q1_value A_q3 F_q1_coder E_q1) all0 (lenOf pd___I rfl) rfl 0 rfl (by decide) hml.symm d15_10 (fun v1 T2 h3 vm4 _ w5 q6 C7 C8 X9 => ?_)
  obtain ⟨e11, f12⟩ := q6
  subst e11
  subst f12
  show Go _ _ _ _ _ (mkF _ _ _ [.int 1])
  refine kISn X9 #[.val (.ref q0), .val (.ref q1), .val (.int 1)] d15_13 rfl ?_
  refine kALn X9 d15_14 rfl rfl ?_
  refine kALn X9 d15_15 rfl rfl ?_
  refine kGETF X9 (wd G 88 rfl) Via.refl F_q0_count d15_16 (fun T13 X14 => ?_)
  refine kILn X14 d15_19 rfl ?_
  refine kIADD X14 3 d15_20 (by decide) ?_
  refine kVIRT X14 (gEL G) (argsL := [.int 3]) (rest := []) (wd G 90 rfl) (own_decl (wd G 91 rfl) (wd G 94 rfl)) (own_nf X14.hZ (own_noface (wd G 93 rfl) rfl)) (wd G 93 rfl) (wd G 91 rfl) (wd G 69 rfl) (wd G 94 rfl) (by decide) E_q0 (rm144 G i0 i1 q0 q2 kp0 h0 X14.n O0 F_q0_value A_q2 F_q0_coder) all0 (lenOf pd__I_V rfl) rfl 0 rfl (by decide) hml.symm d15_21 (fun v15 T16 h17 vm18 _ w19 q20 C21 C22 X23 => ?_)
  obtain ⟨e25, f26⟩ := q20
  subst e25
  subst f26
  show Go _ _ _ _ _ (mkF _ _ _ [])
  refine kALn X23 d15_24 rfl rfl ?_
  refine kALn X23 d15_25 rfl rfl ?_
  refine kGETF X23 (wd G 88 rfl) Via.refl F_q0_count d15_26 (fun T27 X28 => ?_)
  refine kALn X28 d15_29 rfl rfl ?_
  have f38 := (CHr.safe C22 (A_q2.lt) (CHr.safe C8 (A_q2.lt) S_q2))
  refine kVIRT X28 (gEL G) (argsL := [.int 2, .ref q1]) (rest := []) (wd G 95 rfl) (own_decl (wd G 96 rfl) (wd G 99 rfl)) (own_nf X28.hZ (own_noface (wd G 93 rfl) rfl)) (wd G 98 rfl) (wd G 96 rfl) (wd G 69 rfl) (wd G 99 rfl) (by decide) E_q0 (rm145 G i0 i1 q0 q1 q2 q3 kp0 kp1 h0 X28.n O0 F_q0_coder F_q1_coder E_q1 E_q0 F_q0_value F_q1_value A_q3 A_q2 g_q2) (allS ⟨(A_q2.lt), f38⟩ all0) (lenOf pd__ILjava_lang_String__V rfl) rfl 0 rfl (by decide) hml.symm d15_30 (fun v29 T30 h31 vm32 _ w33 q34 C35 C36 X37 => ?_)
  obtain ⟨e40, f41, f42⟩ := q34
  subst e40
  show Go _ _ _ _ _ (mkF _ _ _ [])
  refine kALn X37 d15_33 rfl rfl ?_
  refine kDUP X37 d15_34 rfl ?_
  have f43 := (Fld.keep F_q0_count f41 (ninS d_q0_q2 nin0))
  refine kGETF X37 (wd G 88 rfl) Via.refl f43 d15_35 (fun T44 X45 => ?_)
  refine kILn X45 d15_38 rfl ?_
  refine kIADD X45 3 d15_39 (by decide) ?_
  have f46 := (Exa.keep E_q0 f41)
  refine kPUTF X45 (wd G 88 rfl) Via.refl f43 f46 (Or.inl (wd G 89 rfl)) (wd G 60 rfl) (ty := .int) (by decide) rfl rfl g_q0 (Safe.exa X45.hZ.alike f46 (by decide) (by decide)) d15_40 (fun T47 h48 L51 W50 X49 => ?_)
  have f52 := Fld.same W50 f43
  refine kALn X49 d15_43 rfl rfl ?_
  have K53 : Keep h0 h48 [q2, q0] := (Keep.wr (Keep.trans (Keep.refl h0 [q2, q0]) f41 (allS (Or.inl (List.mem_of_getElem? (i := 0) rfl)) all0)) W50 (Or.inl (List.mem_of_getElem? (i := 1) rfl)))
  have f54 := (Arv.other f42 W50 (Ne.symm d_q0_q2))
  have f55 := (Fld.other W50 (Fld.keep F_q0_coder f41 (ninS d_q0_q2 nin0)) (Or.inr (slot_ne (Or.inl (wd G 76 rfl)) (Or.inl (wd G 89 rfl)) (by decide) (by decide : parseFieldDescriptor "B" = some .byte) (by decide : parseFieldDescriptor "I" = some .int))))
  have f56 := (Fld.other W50 (Fld.keep F_q0_value f41 (ninS d_q0_q2 nin0)) (Or.inr (slot_ne (Or.inl (wd G 74 rfl)) (Or.inl (wd G 89 rfl)) (by decide) (by decide : parseFieldDescriptor "[B" = some (.array (.byte))) (by decide : parseFieldDescriptor "I" = some .int))))
  exact kRETA X49 (gEL G) hret rfl rfl d15_44 (fun ve hve => ⟨rfl, K53, f54, f55, f52, f56⟩) (by decide)
def R_rm142 : Room := { frames := 4, cells := 0, slots := 0, locals := 61 }
theorem rm142 (G : Glob Z a0 iCS vSI) (i0 i1 : Int32) (q0 q1 q2 q3 : Addr) (kp0 kp1 : ClassId) (h0 : Heap) (Z0 : n0 ≤ h0.size) (O0 : Old Z n0 h0) (F_q1_value : Fld Z h0 q1 "java/lang/String" "value" "[B" (.ref q3)) (A_q3 : Arv Z h0 q3 kp1 .byte 1 [.int 32] (.int 0)) (F_q1_coder : Fld Z h0 q1 "java/lang/String" "coder" "B" (.int 0)) (E_q1 : Exa Z h0 q1 "java/lang/String") (F_q0_count : Fld Z h0 q0 "java/lang/AbstractStringBuilder" "count" "I" (.int 2)) (F_q0_value : Fld Z h0 q0 "java/lang/AbstractStringBuilder" "value" "[B" (.ref q2)) (A_q2 : Arv Z h0 q2 kp0 .byte 16 [.int i0, .int i1, .int 0, .int 0, .int 0, .int 0, .int 0, .int 0, .int 0, .int 0, .int 0, .int 0, .int 0, .int 0, .int 0, .int 0] (.int 0)) (F_q0_coder : Fld Z h0 q0 "java/lang/AbstractStringBuilder" "coder" "B" (.int 0)) (E_q0 : Exa Z h0 q0 "java/lang/StringBuilder") (d_q0_q2 : q0 ≠ q2) (g_q0 : n0 ≤ q0) (g_q2 : n0 ≤ q2) : MetH l Z EL0 n0 N_jdk_67_m_7 jdk_67_method_7_code 2 (some (.object "java/lang/StringBuilder")) [] R_rm142 #[.ref q0, .ref q1] h0 [q2] (fun vs v h ve => (v = some (.ref q0) ∧ (Keep h0 h [q2, q0]) ∧ (Arv Z h q2 kp0 .byte 16 [.int i0, .int i1, .int 32, .int 0, .int 0, .int 0, .int 0, .int 0, .int 0, .int 0, .int 0, .int 0, .int 0, .int 0, .int 0, .int 0] (.int 0)) ∧ (Fld Z h q0 "java/lang/AbstractStringBuilder" "coder" "B" (.int 0)) ∧ (Fld Z h q0 "java/lang/AbstractStringBuilder" "count" "I" (.int 3)) ∧ (Fld Z h q0 "java/lang/AbstractStringBuilder" "value" "[B" (.ref q2)))) := by
  refine MetH.of #[.val (.ref q0), .val (.ref q1)] (plainFor_of_name pn_java_lang_StringBuilder) rfl Z0 (fun p e s m below meth c T0 hret hml hnm hSL hs0 X0 => ?_)
  have S_q2 := hSL q2 (List.mem_of_getElem? (i := 0) rfl)
  refine kALn X0 d14_0 rfl rfl ?_
  refine kALn X0 d14_1 rfl rfl ?_
  refine kSUP X0 (gEL G) (argsL := [.ref q1]) (rest := []) (wd G 82 rfl) (own_same (wd G 83 rfl) (own_noface (wd G 93 rfl) rfl) (by decide)) (wd G 83 rfl) (wd G 84 rfl) (by decide) (wd G 69 rfl) (wd G 86 rfl) (Ins.of_exa E_q0 (wd G 68 rfl)) (rm143 G i0 i1 q0 q1 q2 q3 kp0 kp1 h0 X0.n O0 F_q1_value A_q3 F_q1_coder E_q1 F_q0_count F_q0_value A_q2 F_q0_coder E_q0 d_q0_q2 g_q0 g_q2) (allS ⟨(A_q2.lt), S_q2⟩ all0) (lenOf pd__Ljava_lang_String__Ljava_lang_AbstractStringBuilder_ rfl) rfl 0 rfl (by decide) hml.symm d14_2 (fun v1 T2 h3 vm4 _ w5 q6 C7 C8 X9 => ?_)
  obtain ⟨e11, f12, f13, f14, f15, f16⟩ := q6
  subst e11
  show Go _ _ _ _ _ (mkF _ _ _ [.ref q0])
  refine kPOP X9 d14_5 rfl ?_
  refine kALn X9 d14_6 rfl rfl ?_
  have K17 : Keep h0 h3 [q2, q0] := (Keep.trans (Keep.refl h0 [q2, q0]) f12 (allS (Or.inl (List.mem_of_getElem? (i := 0) rfl)) (allS (Or.inl (List.mem_of_getElem? (i := 1) rfl)) all0)))
  exact kRETA X9 (gEL G) hret rfl rfl d14_7 (fun ve hve => ⟨rfl, K17, f13, f14, f15, f16⟩) (by decide)
def R_rm150 : Room := { frames := 0, cells := 0, slots := 0, locals := 0 }
theorem rm150 (G : Glob Z a0 iCS vSI) (i0 i1 : Int32) (q0 q1 : Addr) (kp0 : ClassId) (h0 : Heap) (Z0 : n0 ≤ h0.size) (O0 : Old Z n0 h0) (F_q0_value : Fld Z h0 q0 "java/lang/AbstractStringBuilder" "value" "[B" (.ref q1)) (A_q1 : Arv Z h0 q1 kp0 .byte 16 [.int i0, .int i1, .int 32, .int 0, .int 0, .int 0, .int 0, .int 0, .int 0, .int 0, .int 0, .int 0, .int 0, .int 0, .int 0, .int 0] (.int 0)) (F_q0_coder : Fld Z h0 q0 "java/lang/AbstractStringBuilder" "coder" "B" (.int 0)) : MetH l Z EL0 n0 N_jdk_68_m_9 jdk_68_method_9_code 3 none [] R_rm150 #[.ref q0, .int 4] h0 [] (fun vs v h ve => (v = none ∧ (h0 = h))) := by
  refine MetH.of #[.val (.ref q0), .val (.int 4), .unset] (plainFor_of_name pn_java_lang_AbstractStringBuilder) rfl Z0 (fun p e s m below meth c T0 hret hml hnm hSL hs0 X0 => ?_)
  refine kALn X0 d16_0 rfl rfl ?_
  refine kGETF X0 (wd G 73 rfl) Via.refl F_q0_value d16_1 (fun T1 X2 => ?_)
  refine kLEN X2 A_q1 d16_4 ?_
  refine kALn X2 d16_5 rfl rfl ?_
  refine kGETF X2 (wd G 75 rfl) Via.refl F_q0_coder d16_6 (fun T3 X4 => ?_)
  refine kISHR X4 16 d16_9 (by decide) ?_
  refine kISn X4 #[.val (.ref q0), .val (.int 4), .val (.int 16)] d16_10 rfl ?_
  refine kILn X4 d16_11 rfl ?_
  refine kILn X4 d16_12 rfl ?_
  refine kISUB X4 (-12) d16_13 (by decide) ?_
  refine kIFt X4 38 d16_14 (XT.i0_le_t (by decide)) (by decide) ?_
  exact kRETV X4 (gEL G) hret d16_38 (fun ve hve => ⟨rfl, rfl⟩) (by decide)
def R_rm152 : Room := { frames := 1, cells := 0, slots := 0, locals := 13 }
theorem rm152 (G : Glob Z a0 iCS vSI) (i0 i1 i2 : Int32) (q0 q1 q2 q3 : Addr) (kp0 kp1 : ClassId) (h0 : Heap) (Z0 : n0 ≤ h0.size) (O0 : Old Z n0 h0) (F_q0_coder : Fld Z h0 q0 "java/lang/AbstractStringBuilder" "coder" "B" (.int 0)) (F_q1_coder : Fld Z h0 q1 "java/lang/String" "coder" "B" (.int 0)) (E_q1 : Exa Z h0 q1 "java/lang/String") : MetH l Z EL0 n0 N_jdk_68_m_71 jdk_68_method_71_code 2 none [] R_rm152 #[.ref q0, .ref q1] h0 [] (fun vs v h ve => (v = none ∧ (h0 = h))) := by
  refine MetH.of #[.val (.ref q0), .val (.ref q1)] (plainFor_of_name pn_java_lang_AbstractStringBuilder) rfl Z0 (fun p e s m below meth c T0 hret hml hnm hSL hs0 X0 => ?_)
  refine kGETS X0 (wd G 72 rfl) Via.refl (Sta.ext O0.2 (S_CS G)) d18_0 (fun T1 X2 => ?_)
  refine kIFf X2 d18_3 (XT.i0_eq_f (n_CS G)) ?_
  refine kALn X2 d18_6 rfl rfl ?_
  refine kGETF X2 (wd G 75 rfl) Via.refl F_q0_coder d18_7 (fun T3 X4 => ?_)
  refine kALn X4 d18_10 rfl rfl ?_
  refine kVIRT X4 (gEL G) (argsL := []) (rest := [.int 0]) (wd G 105 rfl) (wd G 41 rfl) (own_nf X4.hZ (own_noinst (wd G 6 rfl))) (wd G 43 rfl) (wd G 42 rfl) (wd G 7 rfl) (wd G 44 rfl) (by decide) E_q1 (rm21 G i2 q1 q3 kp1 h0 X4.n O0 F_q1_coder) all0 (lenOf pd___B rfl) rfl 1 rfl (by decide) hml.symm d18_11 (fun v5 T6 h7 vm8 _ w9 q10 C11 C12 X13 => ?_)
  obtain ⟨e15, f16⟩ := q10
  subst e15
  subst f16
  show Go _ _ _ _ _ (mkF _ _ _ [.int 0, .int 0])
  refine kICt X13 21 d18_14 (XT.ii_eq_t (by decide)) (by decide) ?_
  exact kRETV X13 (gEL G) hret d18_21 (fun ve hve => ⟨rfl, rfl⟩) (by decide)
def R_rm153 : Room := { frames := 1, cells := 0, slots := 0, locals := 18 }
theorem rm153 (G : Glob Z a0 iCS vSI) (i0 i1 i2 : Int32) (q0 q1 q2 : Addr) (kp0 kp1 : ClassId) (h0 : Heap) (Z0 : n0 ≤ h0.size) (O0 : Old Z n0 h0) (F_q0_coder : Fld Z h0 q0 "java/lang/String" "coder" "B" (.int 0)) (E_q0 : Exa Z h0 q0 "java/lang/String") (F_q0_value : Fld Z h0 q0 "java/lang/String" "value" "[B" (.ref q2)) (A_q2 : Arv Z h0 q2 kp1 .byte 1 [.int i2] (.int 0)) (A_q1 : Arv Z h0 q1 kp0 .byte 16 [.int i0, .int i1, .int 32, .int 0, .int 0, .int 0, .int 0, .int 0, .int 0, .int 0, .int 0, .int 0, .int 0, .int 0, .int 0, .int 0] (.int 0)) (g_q1 : n0 ≤ q1) : MetH l Z EL0 n0 N_jdk_42_m_147 jdk_42_method_147_code 4 none [] R_rm153 #[.ref q0, .ref q1, .int 3, .int 0] h0 [q1] (fun vs v h ve => (v = none ∧ (Keep h0 h [q1]) ∧ (Arv Z h q1 kp0 .byte 16 [.int i0, .int i1, .int 32, .int i2, .int 0, .int 0, .int 0, .int 0, .int 0, .int 0, .int 0, .int 0, .int 0, .int 0, .int 0, .int 0] (.int 0)))) := by
  refine MetH.of #[.val (.ref q0), .val (.ref q1), .val (.int 3), .val (.int 0)] (plainFor_of_name pn_java_lang_String) rfl Z0 (fun p e s m below meth c T0 hret hml hnm hSL hs0 X0 => ?_)
  have S_q1 := hSL q1 (List.mem_of_getElem? (i := 0) rfl)
  refine kALn X0 d19_0 rfl rfl ?_
  refine kVIRT X0 (gEL G) (argsL := []) (rest := []) (wd G 40 rfl) (wd G 41 rfl) (own_nf X0.hZ (own_noinst (wd G 6 rfl))) (wd G 43 rfl) (wd G 42 rfl) (wd G 7 rfl) (wd G 44 rfl) (by decide) E_q0 (rm21 G i2 q0 q2 kp1 h0 X0.n O0 F_q0_coder) all0 (lenOf pd___B rfl) rfl 0 rfl (by decide) hml.symm d19_1 (fun v1 T2 h3 vm4 _ w5 q6 C7 C8 X9 => ?_)
  obtain ⟨e11, f12⟩ := q6
  subst e11
  subst f12
  show Go _ _ _ _ _ (mkF _ _ _ [.int 0])
  refine kILn X9 d19_4 rfl ?_
  refine kICf X9 d19_5 (XT.ii_ne_f (by decide)) ?_
  refine kALn X9 d19_8 rfl rfl ?_
  refine kGETF X9 (wd G 24 rfl) Via.refl F_q0_value d19_9 (fun T13 X14 => ?_)
  refine kIC X14 0 d19_12 (by decide) ?_
  refine kALn X14 d19_13 rfl rfl ?_
  refine kILn X14 d19_14 rfl ?_
  refine kILn X14 d19_15 rfl ?_
  refine kISHL X14 3 d19_16 (by decide) ?_
  refine kALn X14 d19_17 rfl rfl ?_
  refine kGETF X14 (wd G 24 rfl) Via.refl F_q0_value d19_18 (fun T15 X16 => ?_)
  refine kLEN X16 A_q2 d19_21 ?_
  have f17 := (CHr.safe C8 (A_q1.lt) S_q1)
  refine kCPA X16 (wd G 111 rfl) (wd G 114 rfl) (wd G 112 rfl) (wd G 113 rfl) A_q2 A_q1 (Or.inl ⟨rfl, rfl⟩) (us := [.int i2]) (by decide) rfl (by show 4 ≤ 16; decide) g_q1 f17 hml.symm d19_22 (by decide) 0 (Nat.le_of_eq rfl) (by decide) (fun T18 h19 L21 K22 C23 f24 X20 => ?_)
  have f25 : Arv Z h19 q1 kp0 .byte 16 [.int i0, .int i1, .int 32, .int i2, .int 0, .int 0, .int 0, .int 0, .int 0, .int 0, .int 0, .int 0, .int 0, .int 0, .int 0, .int 0] (.int 0) := f24
  refine kGOTO X20 43 d19_25 (by decide) ?_
  have K26 : Keep h0 h19 [q1] := (Keep.trans (Keep.refl h0 [q1]) K22 (allS (Or.inl (List.mem_of_getElem? (i := 0) rfl)) all0))
  exact kRETV X20 (gEL G) hret d19_43 (fun ve hve => ⟨rfl, K26, f25⟩) (by decide)
def R_rm151 : Room := { frames := 2, cells := 0, slots := 0, locals := 33 }
theorem rm151 (G : Glob Z a0 iCS vSI) (i0 i1 i2 : Int32) (q0 q1 q2 q3 : Addr) (kp0 kp1 : ClassId) (h0 : Heap) (Z0 : n0 ≤ h0.size) (O0 : Old Z n0 h0) (F_q0_coder : Fld Z h0 q0 "java/lang/AbstractStringBuilder" "coder" "B" (.int 0)) (F_q1_coder : Fld Z h0 q1 "java/lang/String" "coder" "B" (.int 0)) (E_q1 : Exa Z h0 q1 "java/lang/String") (E_q0 : Exa Z h0 q0 "java/lang/StringBuilder") (F_q0_value : Fld Z h0 q0 "java/lang/AbstractStringBuilder" "value" "[B" (.ref q2)) (F_q1_value : Fld Z h0 q1 "java/lang/String" "value" "[B" (.ref q3)) (A_q3 : Arv Z h0 q3 kp1 .byte 1 [.int i2] (.int 0)) (A_q2 : Arv Z h0 q2 kp0 .byte 16 [.int i0, .int i1, .int 32, .int 0, .int 0, .int 0, .int 0, .int 0, .int 0, .int 0, .int 0, .int 0, .int 0, .int 0, .int 0, .int 0] (.int 0)) (g_q2 : n0 ≤ q2) : MetH l Z EL0 n0 N_jdk_68_m_73 jdk_68_method_73_code 3 none [] R_rm151 #[.ref q0, .int 3, .ref q1] h0 [q2] (fun vs v h ve => (v = none ∧ (Keep h0 h [q2]) ∧ (Arv Z h q2 kp0 .byte 16 [.int i0, .int i1, .int 32, .int i2, .int 0, .int 0, .int 0, .int 0, .int 0, .int 0, .int 0, .int 0, .int 0, .int 0, .int 0, .int 0] (.int 0)))) := by
  refine MetH.of #[.val (.ref q0), .val (.int 3), .val (.ref q1)] (plainFor_of_name pn_java_lang_AbstractStringBuilder) rfl Z0 (fun p e s m below meth c T0 hret hml hnm hSL hs0 X0 => ?_)
  have S_q2 := hSL q2 (List.mem_of_getElem? (i := 0) rfl)
  refine kALn X0 d17_0 rfl rfl ?_
  refine kALn X0 d17_1 rfl rfl ?_
  refine kVIRT X0 (gEL G) (argsL := [.ref q1]) (rest := []) (wd G 100 rfl) (own_decl (wd G 101 rfl) (wd G 104 rfl)) (own_nf X0.hZ (own_noface (wd G 93 rfl) rfl)) (wd G 103 rfl) (wd G 101 rfl) (wd G 69 rfl) (wd G 104 rfl) (by decide) E_q0 (rm152 G i0 i1 i2 q0 q1 q2 q3 kp0 kp1 h0 X0.n O0 F_q0_coder F_q1_coder E_q1) all0 (lenOf pd__Ljava_lang_String__V rfl) rfl 0 rfl (by decide) hml.symm d17_2 (fun v1 T2 h3 vm4 _ w5 q6 C7 C8 X9 => ?_)
  obtain ⟨e11, f12⟩ := q6
  subst e11
  subst f12
  show Go _ _ _ _ _ (mkF _ _ _ [])
  refine kALn X9 d17_5 rfl rfl ?_
  refine kALn X9 d17_6 rfl rfl ?_
  refine kGETF X9 (wd G 73 rfl) Via.refl F_q0_value d17_7 (fun T13 X14 => ?_)
  refine kILn X14 d17_10 rfl ?_
  refine kALn X14 d17_11 rfl rfl ?_
  refine kGETF X14 (wd G 75 rfl) Via.refl F_q0_coder d17_12 (fun T15 X16 => ?_)
  have f26 := (CHr.safe C8 (A_q2.lt) S_q2)
  refine kVIRT X16 (gEL G) (argsL := [.ref q2, .int 3, .int 0]) (rest := []) (wd G 106 rfl) (wd G 107 rfl) (own_nf X16.hZ (own_noinst (wd G 6 rfl))) (wd G 109 rfl) (wd G 108 rfl) (wd G 7 rfl) (wd G 110 rfl) (by decide) E_q1 (rm153 G i0 i1 i2 q1 q2 q3 kp0 kp1 h0 X16.n O0 F_q1_coder E_q1 F_q1_value A_q3 A_q2 g_q2) (allS ⟨(A_q2.lt), f26⟩ all0) (lenOf pd___BIB_V rfl) rfl 0 rfl (by decide) hml.symm d17_15 (fun v17 T18 h19 vm20 _ w21 q22 C23 C24 X25 => ?_)
  obtain ⟨e28, f29, f30⟩ := q22
  subst e28
  show Go _ _ _ _ _ (mkF _ _ _ [])
  have K31 : Keep h0 h19 [q2] := (Keep.trans (Keep.refl h0 [q2]) f29 (allS (Or.inl (List.mem_of_getElem? (i := 0) rfl)) all0))
  exact kRETV X25 (gEL G) hret d17_18 (fun ve hve => ⟨rfl, K31, f30⟩) (by decide)
def R_rm149 : Room := { frames := 3, cells := 0, slots := 0, locals := 47 }
theorem rm149 (G : Glob Z a0 iCS vSI) (i0 i1 i2 : Int32) (q0 q1 q2 q3 : Addr) (kp0 kp1 : ClassId) (h0 : Heap) (Z0 : n0 ≤ h0.size) (O0 : Old Z n0 h0) (F_q1_value : Fld Z h0 q1 "java/lang/String" "value" "[B" (.ref q3)) (A_q3 : Arv Z h0 q3 kp1 .byte 1 [.int i2] (.int 0)) (F_q1_coder : Fld Z h0 q1 "java/lang/String" "coder" "B" (.int 0)) (E_q1 : Exa Z h0 q1 "java/lang/String") (F_q0_count : Fld Z h0 q0 "java/lang/AbstractStringBuilder" "count" "I" (.int 3)) (F_q0_value : Fld Z h0 q0 "java/lang/AbstractStringBuilder" "value" "[B" (.ref q2)) (A_q2 : Arv Z h0 q2 kp0 .byte 16 [.int i0, .int i1, .int 32, .int 0, .int 0, .int 0, .int 0, .int 0, .int 0, .int 0, .int 0, .int 0, .int 0, .int 0, .int 0, .int 0] (.int 0)) (F_q0_coder : Fld Z h0 q0 "java/lang/AbstractStringBuilder" "coder" "B" (.int 0)) (E_q0 : Exa Z h0 q0 "java/lang/StringBuilder") (d_q0_q2 : q0 ≠ q2) (g_q0 : n0 ≤ q0) (g_q2 : n0 ≤ q2) : MetH l Z EL0 n0 N_jdk_68_m_22 jdk_68_method_22_code 3 (some (.object "java/lang/AbstractStringBuilder")) [] R_rm149 #[.ref q0, .ref q1] h0 [q2] (fun vs v h ve => (v = some (.ref q0) ∧ (Keep h0 h [q2, q0]) ∧ (Arv Z h q2 kp0 .byte 16 [.int i0, .int i1, .int 32, .int i2, .int 0, .int 0, .int 0, .int 0, .int 0, .int 0, .int 0, .int 0, .int 0, .int 0, .int 0, .int 0] (.int 0)) ∧ (Fld Z h q0 "java/lang/AbstractStringBuilder" "coder" "B" (.int 0)) ∧ (Fld Z h q0 "java/lang/AbstractStringBuilder" "count" "I" (.int 4)) ∧ (Fld Z h q0 "java/lang/AbstractStringBuilder" "value" "[B" (.ref q2)))) := by
  refine MetH.of #[.val (.ref q0), .val (.ref q1), .unset] (plainFor_of_name pn_java_lang_AbstractStringBuilder) rfl Z0 (fun p e s m below meth c T0 hret hml hnm hSL hs0 X0 => ?_)
  have S_q2 := hSL q2 (List.mem_of_getElem? (i := 0) rfl)
  refine kALn X0 d15_0 rfl rfl ?_
  refine kNNt X0 9 d15_1 (by decide) ?_
  refine kALn X0 d15_9 rfl rfl ?_
  refine kVIRT X0 (gEL G) (argsL := []) (rest := []) (wd G 87 rfl) (wd G 36 rfl) (own_nf X0.hZ (own_noinst (wd G 6 rfl))) (wd G 38 rfl) (wd G 37 rfl) (wd G 7 rfl) (wd G 39 rfl) (by decide) E_q1 (rm20 G i2 q1 q3 kp1 h0 X0.n O0 F_q1_value A_q3 F_q1_coder E_q1) all0 (lenOf pd___I rfl) rfl 0 rfl (by decide) hml.symm d15_10 (fun v1 T2 h3 vm4 _ w5 q6 C7 C8 X9 => ?_)
  obtain ⟨e11, f12⟩ := q6
  subst e11
  subst f12
  show Go _ _ _ _ _ (mkF _ _ _ [.int 1])
  refine kISn X9 #[.val (.ref q0), .val (.ref q1), .val (.int 1)] d15_13 rfl ?_
  refine kALn X9 d15_14 rfl rfl ?_
  refine kALn X9 d15_15 rfl rfl ?_
  refine kGETF X9 (wd G 88 rfl) Via.refl F_q0_count d15_16 (fun T13 X14 => ?_)
  refine kILn X14 d15_19 rfl ?_
  refine kIADD X14 4 d15_20 (by decide) ?_
  refine kVIRT X14 (gEL G) (argsL := [.int 4]) (rest := []) (wd G 90 rfl) (own_decl (wd G 91 rfl) (wd G 94 rfl)) (own_nf X14.hZ (own_noface (wd G 93 rfl) rfl)) (wd G 93 rfl) (wd G 91 rfl) (wd G 69 rfl) (wd G 94 rfl) (by decide) E_q0 (rm150 G i0 i1 q0 q2 kp0 h0 X14.n O0 F_q0_value A_q2 F_q0_coder) all0 (lenOf pd__I_V rfl) rfl 0 rfl (by decide) hml.symm d15_21 (fun v15 T16 h17 vm18 _ w19 q20 C21 C22 X23 => ?_)
  obtain ⟨e25, f26⟩ := q20
  subst e25
  subst f26
  show Go _ _ _ _ _ (mkF _ _ _ [])
  refine kALn X23 d15_24 rfl rfl ?_
  refine kALn X23 d15_25 rfl rfl ?_
  refine kGETF X23 (wd G 88 rfl) Via.refl F_q0_count d15_26 (fun T27 X28 => ?_)
  refine kALn X28 d15_29 rfl rfl ?_
  have f38 := (CHr.safe C22 (A_q2.lt) (CHr.safe C8 (A_q2.lt) S_q2))
  refine kVIRT X28 (gEL G) (argsL := [.int 3, .ref q1]) (rest := []) (wd G 95 rfl) (own_decl (wd G 96 rfl) (wd G 99 rfl)) (own_nf X28.hZ (own_noface (wd G 93 rfl) rfl)) (wd G 98 rfl) (wd G 96 rfl) (wd G 69 rfl) (wd G 99 rfl) (by decide) E_q0 (rm151 G i0 i1 i2 q0 q1 q2 q3 kp0 kp1 h0 X28.n O0 F_q0_coder F_q1_coder E_q1 E_q0 F_q0_value F_q1_value A_q3 A_q2 g_q2) (allS ⟨(A_q2.lt), f38⟩ all0) (lenOf pd__ILjava_lang_String__V rfl) rfl 0 rfl (by decide) hml.symm d15_30 (fun v29 T30 h31 vm32 _ w33 q34 C35 C36 X37 => ?_)
  obtain ⟨e40, f41, f42⟩ := q34
  subst e40
  show Go _ _ _ _ _ (mkF _ _ _ [])
  refine kALn X37 d15_33 rfl rfl ?_
  refine kDUP X37 d15_34 rfl ?_
  have f43 := (Fld.keep F_q0_count f41 (ninS d_q0_q2 nin0))
  refine kGETF X37 (wd G 88 rfl) Via.refl f43 d15_35 (fun T44 X45 => ?_)
  refine kILn X45 d15_38 rfl ?_
  refine kIADD X45 4 d15_39 (by decide) ?_
  have f46 := (Exa.keep E_q0 f41)
  refine kPUTF X45 (wd G 88 rfl) Via.refl f43 f46 (Or.inl (wd G 89 rfl)) (wd G 60 rfl) (ty := .int) (by decide) rfl rfl g_q0 (Safe.exa X45.hZ.alike f46 (by decide) (by decide)) d15_40 (fun T47 h48 L51 W50 X49 => ?_)
  have f52 := Fld.same W50 f43
  refine kALn X49 d15_43 rfl rfl ?_
  have K53 : Keep h0 h48 [q2, q0] := (Keep.wr (Keep.trans (Keep.refl h0 [q2, q0]) f41 (allS (Or.inl (List.mem_of_getElem? (i := 0) rfl)) all0)) W50 (Or.inl (List.mem_of_getElem? (i := 1) rfl)))
  have f54 := (Arv.other f42 W50 (Ne.symm d_q0_q2))
  have f55 := (Fld.other W50 (Fld.keep F_q0_coder f41 (ninS d_q0_q2 nin0)) (Or.inr (slot_ne (Or.inl (wd G 76 rfl)) (Or.inl (wd G 89 rfl)) (by decide) (by decide : parseFieldDescriptor "B" = some .byte) (by decide : parseFieldDescriptor "I" = some .int))))
  have f56 := (Fld.other W50 (Fld.keep F_q0_value f41 (ninS d_q0_q2 nin0)) (Or.inr (slot_ne (Or.inl (wd G 74 rfl)) (Or.inl (wd G 89 rfl)) (by decide) (by decide : parseFieldDescriptor "[B" = some (.array (.byte))) (by decide : parseFieldDescriptor "I" = some .int))))
  exact kRETA X49 (gEL G) hret rfl rfl d15_44 (fun ve hve => ⟨rfl, K53, f54, f55, f52, f56⟩) (by decide)
def R_rm148 : Room := { frames := 4, cells := 0, slots := 0, locals := 61 }
theorem rm148 (G : Glob Z a0 iCS vSI) (i0 i1 i2 : Int32) (q0 q1 q2 q3 : Addr) (kp0 kp1 : ClassId) (h0 : Heap) (Z0 : n0 ≤ h0.size) (O0 : Old Z n0 h0) (F_q1_value : Fld Z h0 q1 "java/lang/String" "value" "[B" (.ref q3)) (A_q3 : Arv Z h0 q3 kp1 .byte 1 [.int i2] (.int 0)) (F_q1_coder : Fld Z h0 q1 "java/lang/String" "coder" "B" (.int 0)) (E_q1 : Exa Z h0 q1 "java/lang/String") (F_q0_count : Fld Z h0 q0 "java/lang/AbstractStringBuilder" "count" "I" (.int 3)) (F_q0_value : Fld Z h0 q0 "java/lang/AbstractStringBuilder" "value" "[B" (.ref q2)) (A_q2 : Arv Z h0 q2 kp0 .byte 16 [.int i0, .int i1, .int 32, .int 0, .int 0, .int 0, .int 0, .int 0, .int 0, .int 0, .int 0, .int 0, .int 0, .int 0, .int 0, .int 0] (.int 0)) (F_q0_coder : Fld Z h0 q0 "java/lang/AbstractStringBuilder" "coder" "B" (.int 0)) (E_q0 : Exa Z h0 q0 "java/lang/StringBuilder") (d_q0_q2 : q0 ≠ q2) (g_q0 : n0 ≤ q0) (g_q2 : n0 ≤ q2) : MetH l Z EL0 n0 N_jdk_67_m_7 jdk_67_method_7_code 2 (some (.object "java/lang/StringBuilder")) [] R_rm148 #[.ref q0, .ref q1] h0 [q2] (fun vs v h ve => (v = some (.ref q0) ∧ (Keep h0 h [q2, q0]) ∧ (Arv Z h q2 kp0 .byte 16 [.int i0, .int i1, .int 32, .int i2, .int 0, .int 0, .int 0, .int 0, .int 0, .int 0, .int 0, .int 0, .int 0, .int 0, .int 0, .int 0] (.int 0)) ∧ (Fld Z h q0 "java/lang/AbstractStringBuilder" "coder" "B" (.int 0)) ∧ (Fld Z h q0 "java/lang/AbstractStringBuilder" "count" "I" (.int 4)) ∧ (Fld Z h q0 "java/lang/AbstractStringBuilder" "value" "[B" (.ref q2)))) := by
  refine MetH.of #[.val (.ref q0), .val (.ref q1)] (plainFor_of_name pn_java_lang_StringBuilder) rfl Z0 (fun p e s m below meth c T0 hret hml hnm hSL hs0 X0 => ?_)
  have S_q2 := hSL q2 (List.mem_of_getElem? (i := 0) rfl)
  refine kALn X0 d14_0 rfl rfl ?_
  refine kALn X0 d14_1 rfl rfl ?_
  refine kSUP X0 (gEL G) (argsL := [.ref q1]) (rest := []) (wd G 82 rfl) (own_same (wd G 83 rfl) (own_noface (wd G 93 rfl) rfl) (by decide)) (wd G 83 rfl) (wd G 84 rfl) (by decide) (wd G 69 rfl) (wd G 86 rfl) (Ins.of_exa E_q0 (wd G 68 rfl)) (rm149 G i0 i1 i2 q0 q1 q2 q3 kp0 kp1 h0 X0.n O0 F_q1_value A_q3 F_q1_coder E_q1 F_q0_count F_q0_value A_q2 F_q0_coder E_q0 d_q0_q2 g_q0 g_q2) (allS ⟨(A_q2.lt), S_q2⟩ all0) (lenOf pd__Ljava_lang_String__Ljava_lang_AbstractStringBuilder_ rfl) rfl 0 rfl (by decide) hml.symm d14_2 (fun v1 T2 h3 vm4 _ w5 q6 C7 C8 X9 => ?_)
  obtain ⟨e11, f12, f13, f14, f15, f16⟩ := q6
  subst e11
  show Go _ _ _ _ _ (mkF _ _ _ [.ref q0])
  refine kPOP X9 d14_5 rfl ?_
  refine kALn X9 d14_6 rfl rfl ?_
  have K17 : Keep h0 h3 [q2, q0] := (Keep.trans (Keep.refl h0 [q2, q0]) f12 (allS (Or.inl (List.mem_of_getElem? (i := 0) rfl)) (allS (Or.inl (List.mem_of_getElem? (i := 1) rfl)) all0)))
  exact kRETA X9 (gEL G) hret rfl rfl d14_7 (fun ve hve => ⟨rfl, K17, f13, f14, f15, f16⟩) (by decide)
def R_rm157 : Room := { frames := 0, cells := 0, slots := 0, locals := 0 }
theorem rm157 (G : Glob Z a0 iCS vSI) (i0 i1 i2 : Int32) (q0 q1 : Addr) (kp0 : ClassId) (h0 : Heap) (Z0 : n0 ≤ h0.size) (O0 : Old Z n0 h0) (F_q0_value : Fld Z h0 q0 "java/lang/AbstractStringBuilder" "value" "[B" (.ref q1)) : MetH l Z EL0 n0 N_jdk_68_m_64 jdk_68_method_64_code 1 (some (.array (.byte))) [] R_rm157 #[.ref q0] h0 [] (fun vs v h ve => (v = some (.ref q1) ∧ (h0 = h))) := by
  refine MetH.of #[.val (.ref q0)] (plainFor_of_name pn_java_lang_AbstractStringBuilder) rfl Z0 (fun p e s m below meth c T0 hret hml hnm hSL hs0 X0 => ?_)
  refine kALn X0 d23_0 rfl rfl ?_
  refine kGETF X0 (wd G 73 rfl) Via.refl F_q0_value d23_1 (fun T1 X2 => ?_)
  exact kRETA X2 (gEL G) hret rfl rfl d23_4 (fun ve hve => ⟨rfl, rfl⟩) (by decide)
def R_rm159 : Room := { frames := 0, cells := 0, slots := 0, locals := 0 }
theorem rm159 (G : Glob Z a0 iCS vSI) (i0 i1 i2 : Int32) (q0 q1 : Addr) (kp0 : ClassId) (h0 : Heap) (Z0 : n0 ≤ h0.size) (O0 : Old Z n0 h0) (F_q0_count : Fld Z h0 q0 "java/lang/AbstractStringBuilder" "count" "I" (.int 4)) : MetH l Z EL0 n0 N_jdk_68_m_6 jdk_68_method_6_code 1 (some .int) [] R_rm159 #[.ref q0] h0 [] (fun vs v h ve => (v = some (.int 4) ∧ (h0 = h))) := by
  refine MetH.of #[.val (.ref q0)] (plainFor_of_name pn_java_lang_AbstractStringBuilder) rfl Z0 (fun p e s m below meth c T0 hret hml hnm hSL hs0 X0 => ?_)
  refine kALn X0 d25_0 rfl rfl ?_
  refine kGETF X0 (wd G 88 rfl) Via.refl F_q0_count d25_1 (fun T1 X2 => ?_)
  exact kRETI X2 (gEL G) hret d25_4 (fun ve hve => ⟨rfl, rfl⟩) (by decide)
def R_rm158 : Room := { frames := 1, cells := 0, slots := 0, locals := 12 }
theorem rm158 (G : Glob Z a0 iCS vSI) (i0 i1 i2 : Int32) (q0 q1 : Addr) (kp0 : ClassId) (h0 : Heap) (Z0 : n0 ≤ h0.size) (O0 : Old Z n0 h0) (F_q0_count : Fld Z h0 q0 "java/lang/AbstractStringBuilder" "count" "I" (.int 4)) (E_q0 : Exa Z h0 q0 "java/lang/StringBuilder") : MetH l Z EL0 n0 N_jdk_67_m_93 jdk_67_method_93_code 1 (some .int) [] R_rm158 #[.ref q0] h0 [] (fun vs v h ve => (v = some (.int 4) ∧ (h0 = h))) := by
  refine MetH.of #[.val (.ref q0)] (plainFor_of_name pn_java_lang_StringBuilder) rfl Z0 (fun p e s m below meth c T0 hret hml hnm hSL hs0 X0 => ?_)
  refine kALn X0 d24_0 rfl rfl ?_
  refine kSUP X0 (gEL G) (argsL := []) (rest := []) (wd G 139 rfl) (own_same (wd G 135 rfl) (own_noface (wd G 93 rfl) rfl) (by decide)) (wd G 135 rfl) (wd G 84 rfl) (by decide) (wd G 69 rfl) (wd G 140 rfl) (Ins.of_exa E_q0 (wd G 68 rfl)) (rm159 G i0 i1 i2 q0 q1 kp0 h0 X0.n O0 F_q0_count) all0 (lenOf pd___I rfl) rfl 0 rfl (by decide) hml.symm d24_1 (fun v1 T2 h3 vm4 _ w5 q6 C7 C8 X9 => ?_)
  obtain ⟨e11, f12⟩ := q6
  subst e11
  subst f12
  show Go _ _ _ _ _ (mkF _ _ _ [.int 4])
  exact kRETI X9 (gEL G) hret d24_4 (fun ve hve => ⟨rfl, rfl⟩) (by decide)
def R_rm160 : Room := { frames := 0, cells := 0, slots := 0, locals := 0 }
theorem rm160 (G : Glob Z a0 iCS vSI) (i0 i1 i2 : Int32) (q0 q1 : Addr) (kp0 : ClassId) (h0 : Heap) (Z0 : n0 ≤ h0.size) (O0 : Old Z n0 h0) (F_q0_coder : Fld Z h0 q0 "java/lang/AbstractStringBuilder" "coder" "B" (.int 0)) : MetH l Z EL0 n0 N_jdk_68_m_68 jdk_68_method_68_code 1 (some .boolean) [] R_rm160 #[.ref q0] h0 [] (fun vs v h ve => (v = some (.int 1) ∧ (h0 = h))) := by
  refine MetH.of #[.val (.ref q0)] (plainFor_of_name pn_java_lang_AbstractStringBuilder) rfl Z0 (fun p e s m below meth c T0 hret hml hnm hSL hs0 X0 => ?_)
  refine kGETS X0 (wd G 72 rfl) Via.refl (Sta.ext O0.2 (S_CS G)) d26_0 (fun T1 X2 => ?_)
  refine kIFf X2 d26_3 (XT.i0_eq_f (n_CS G)) ?_
  refine kALn X2 d26_6 rfl rfl ?_
  refine kGETF X2 (wd G 75 rfl) Via.refl F_q0_coder d26_7 (fun T3 X4 => ?_)
  refine kIFf X4 d26_10 (XT.i0_ne_f (by decide)) ?_
  refine kIC X4 1 d26_13 (by decide) ?_
  refine kGOTO X4 18 d26_14 (by decide) ?_
  exact kRETZ X4 (gEL G) (t := .boolean) hret (by simp) d26_18 (fun ve hve => ⟨rfl, rfl⟩) (by decide)
def R_rm162 : Room := { frames := 1, cells := 1, slots := 4, locals := 18 }
theorem rm162 (G : Glob Z a0 iCS vSI) (i0 i1 i2 : Int32) (q0 : Addr) (kp0 : ClassId) (h0 : Heap) (Z0 : n0 ≤ h0.size) (O0 : Old Z n0 h0) (A_q0 : Arv Z h0 q0 kp0 .byte 16 [.int i0, .int i1, .int 32, .int i2, .int 0, .int 0, .int 0, .int 0, .int 0, .int 0, .int 0, .int 0, .int 0, .int 0, .int 0, .int 0] (.int 0)) : MetH l Z EL0 n0 N_jdk_65_m_133 jdk_65_method_133_code 5 (some (.array (.byte))) [] R_rm162 #[.ref q0, .int 0, .int 4] h0 [] (fun vs v h ve => (∃ (x0 : Addr), ∃ (z0 : ClassId), v = some (.ref x0) ∧ (Keep h0 h []) ∧ (h0.size ≤ x0) ∧ (Arv Z h x0 z0 .byte 4 [.int i0, .int i1, .int 32, .int i2] (.int 0)) ∧ (Safe Z EL0 ve h x0))) := by
  refine MetH.of #[.val (.ref q0), .val (.int 0), .val (.int 4), .unset, .unset] (plainFor_of_name pn_java_util_Arrays) rfl Z0 (fun p e s m below meth c T0 hret hml hnm hSL hs0 X0 => ?_)
  refine kILn X0 d28_0 rfl ?_
  refine kILn X0 d28_1 rfl ?_
  refine kSTAT X0 (gEL G) (argsL := [.int 0, .int 4]) (rest := []) (wd G 153 rfl) (wd G 154 rfl) (wd G 148 rfl) (wd G 155 rfl) (by decide) (rm114 G  h0 X0.n O0 ) all0 (lenOf pd__II_V rfl) rfl 0 rfl (by decide) hml.symm d28_2 (fun v1 T2 h3 vm4 _ w5 q6 C7 C8 X9 => ?_)
  obtain ⟨e11, f12⟩ := q6
  subst e11
  subst f12
  show Go _ _ _ _ _ (mkF _ _ _ [])
  refine kILn X9 d28_5 rfl ?_
  refine kILn X9 d28_6 rfl ?_
  refine kISUB X9 4 d28_7 (by decide) ?_
  refine kISn X9 #[.val (.ref q0), .val (.int 0), .val (.int 4), .val (.int 4), .unset] d28_8 rfl ?_
  refine kILn X9 d28_9 rfl ?_
  refine kNEWP X9 (wd G 19 rfl) (cap := 4) d28_10 (by decide) (by decide) (by decide) (by decide) (by decide) (fun T13 h14 a16 k17 E18 q19 g20 A21 s22 X15 => ?_)
  have n23 : q0 ≠ a16 := Nat.ne_of_lt (Nat.lt_of_lt_of_le (A_q0.lt) (Nat.le_of_eq q19.symm))
  have g24 : h0.size ≤ a16 := q19 ▸ X9.g0
  have f25 : Arv Z h14 a16 k17 .byte 4 [.int 0, .int 0, .int 0, .int 0] (.int 0) := A21.pad (pad_rep [] _ 4)
  refine kAS X15 #[.val (.ref q0), .val (.int 0), .val (.int 4), .val (.int 4), .val (.ref a16)] d28_12 rfl rfl ?_
  refine kALn X15 d28_14 rfl rfl ?_
  refine kILn X15 d28_15 rfl ?_
  refine kAL X15 d28_16 rfl rfl ?_
  refine kIC X15 0 d28_18 (by decide) ?_
  refine kALn X15 d28_19 rfl rfl ?_
  have f26 := (Arv.ext A_q0 E18)
  refine kLEN X15 f26 d28_20 ?_
  refine kILn X15 d28_21 rfl ?_
  refine kISUB X15 16 d28_22 (by decide) ?_
  refine kILn X15 d28_23 rfl ?_
  have f27 := (Old.ext O0 E18)
  refine kSTAT X15 (gEL G) (argsL := [.int 16, .int 4]) (rest := [.int 0, .ref a16, .int 0, .ref q0]) (wd G 156 rfl) (wd G 157 rfl) (wd G 158 rfl) (wd G 159 rfl) (by decide) (rm115 G  h14 X15.n f27 ) all0 (lenOf pd__II_I rfl) rfl 4 rfl (by decide) hml.symm d28_24 (fun v28 T29 h30 vm31 _ w32 q33 C34 C35 X36 => ?_)
  obtain ⟨e38, f39⟩ := q33
  subst e38
  subst f39
  show Go _ _ _ _ _ (mkF _ _ _ [.int 4, .int 0, .ref a16, .int 0, .ref q0])
  have f40 := (CHr.safe C35 (f25.lt) s22)
  refine kCPA X36 (wd G 160 rfl) (wd G 114 rfl) (wd G 112 rfl) (wd G 113 rfl) f26 f25 (Or.inl ⟨rfl, rfl⟩) (us := [.int i0, .int i1, .int 32, .int i2]) (by decide) rfl (by show 4 ≤ 4; decide) g20 f40 hml.symm d28_27 (by decide) 0 (Nat.le_of_eq rfl) (by decide) (fun T41 h42 L44 K45 C46 f47 X43 => ?_)
  have f48 : Arv Z h42 a16 k17 .byte 4 [.int i0, .int i1, .int 32, .int i2] (.int 0) := f47
  refine kAL X43 d28_30 rfl rfl ?_
  have K49 : Keep h0 h42 [] := (Keep.trans (Keep.ext (Keep.refl h0 []) E18) K45 (allS (Or.inr g24) all0))
  have f50 := (CHr.safe C46 (f25.lt) f40)
  exact kRETA X43 (gEL G) hret rfl rfl d28_32 (fun ve hve => ⟨a16, k17, rfl, K49, g24, f48, (CHr.safe hve (f48.lt) f50)⟩) (by decide)
def R_rm161 : Room := { frames := 2, cells := 1, slots := 4, locals := 34 }
theorem rm161 (G : Glob Z a0 iCS vSI) (i0 i1 i2 : Int32) (q0 : Addr) (kp0 : ClassId) (h0 : Heap) (Z0 : n0 ≤ h0.size) (O0 : Old Z n0 h0) (A_q0 : Arv Z h0 q0 kp0 .byte 16 [.int i0, .int i1, .int 32, .int i2, .int 0, .int 0, .int 0, .int 0, .int 0, .int 0, .int 0, .int 0, .int 0, .int 0, .int 0, .int 0] (.int 0)) : MetH l Z EL0 n0 N_jdk_65_m_132 jdk_65_method_132_code 3 (some (.array (.byte))) [] R_rm161 #[.ref q0, .int 0, .int 4] h0 [] (fun vs v h ve => (∃ (x0 : Addr), ∃ (z0 : ClassId), v = some (.ref x0) ∧ (Keep h0 h []) ∧ (h0.size ≤ x0) ∧ (Arv Z h x0 z0 .byte 4 [.int i0, .int i1, .int 32, .int i2] (.int 0)) ∧ (Safe Z EL0 ve h x0))) := by
  refine MetH.of #[.val (.ref q0), .val (.int 0), .val (.int 4)] (plainFor_of_name pn_java_util_Arrays) rfl Z0 (fun p e s m below meth c T0 hret hml hnm hSL hs0 X0 => ?_)
  refine kILn X0 d27_0 rfl ?_
  refine kIFf X0 d27_1 (XT.i0_ne_f (by decide)) ?_
  refine kILn X0 d27_4 rfl ?_
  refine kALn X0 d27_5 rfl rfl ?_
  refine kLEN X0 A_q0 d27_6 ?_
  refine kICf X0 d27_7 (XT.ii_eq_f (by decide)) ?_
  refine kALn X0 d27_10 rfl rfl ?_
  refine kILn X0 d27_11 rfl ?_
  refine kILn X0 d27_12 rfl ?_
  refine kSTAT X0 (gEL G) (argsL := [.ref q0, .int 0, .int 4]) (rest := []) (wd G 150 rfl) (wd G 151 rfl) (wd G 148 rfl) (wd G 152 rfl) (by decide) (rm162 G i0 i1 i2 q0 kp0 h0 X0.n O0 A_q0) all0 (lenOf pd___BII__B rfl) rfl 0 rfl (by decide) hml.symm d27_13 (fun v1 T2 h3 vm4 _ w5 q6 C7 C8 X9 => ?_)
  obtain ⟨a11, k12, e13, f14, f15, f16, f17⟩ := q6
  subst e13
  have n18 : q0 ≠ a11 := Nat.ne_of_lt (Nat.lt_of_lt_of_le (A_q0.lt) f15)
  have g19 : n0 ≤ a11 := Nat.le_trans X0.n f15
  have g20 : h0.size ≤ a11 := Nat.le_trans X0.g0 f15
  show Go _ _ _ _ _ (mkF _ _ _ [.ref a11])
  have K21 : Keep h0 h3 [] := (Keep.trans (Keep.refl h0 []) f14 all0)
  exact kRETA X9 (gEL G) hret rfl rfl d27_16 (fun ve hve => ⟨a11, k12, rfl, K21, g20, f16, (CHr.safe hve (f16.lt) f17)⟩) (by decide)
def R_rm156 : Room := { frames := 3, cells := 1, slots := 4, locals := 49 }
theorem rm156 (G : Glob Z a0 iCS vSI) (i0 i1 i2 : Int32) (q0 q1 q2 : Addr) (kp0 : ClassId) (h0 : Heap) (Z0 : n0 ≤ h0.size) (O0 : Old Z n0 h0) (F_q1_value : Fld Z h0 q1 "java/lang/AbstractStringBuilder" "value" "[B" (.ref q2)) (E_q1 : Exa Z h0 q1 "java/lang/StringBuilder") (F_q1_count : Fld Z h0 q1 "java/lang/AbstractStringBuilder" "count" "I" (.int 4)) (F_q1_coder : Fld Z h0 q1 "java/lang/AbstractStringBuilder" "coder" "B" (.int 0)) (F_q0_coder : Fld Z h0 q0 "java/lang/String" "coder" "B" (.int 0)) (E_q0 : Exa Z h0 q0 "java/lang/String") (F_q0_value : Fld Z h0 q0 "java/lang/String" "value" "[B" (.null)) (A_q2 : Arv Z h0 q2 kp0 .byte 16 [.int i0, .int i1, .int 32, .int i2, .int 0, .int 0, .int 0, .int 0, .int 0, .int 0, .int 0, .int 0, .int 0, .int 0, .int 0, .int 0] (.int 0)) (d_q2_q0 : q2 ≠ q0) (g_q0 : n0 ≤ q0) : MetH l Z EL0 n0 N_jdk_42_m_150 jdk_42_method_150_code 5 none [] R_rm156 #[.ref q0, .ref q1, .null] h0 [q0] (fun vs v h ve => (∃ (x0 : Addr), ∃ (z0 : ClassId), v = none ∧ (Keep h0 h [q0]) ∧ (h0.size ≤ x0) ∧ (Arv Z h x0 z0 .byte 4 [.int i0, .int i1, .int 32, .int i2] (.int 0)) ∧ (Safe Z EL0 ve h x0) ∧ (Fld Z h q0 "java/lang/String" "coder" "B" (.int 0)) ∧ (Fld Z h q0 "java/lang/String" "value" "[B" (.ref x0)))) := by
  refine MetH.of #[.val (.ref q0), .val (.ref q1), .val .null, .unset, .unset] (plainFor_of_name pn_java_lang_String) rfl Z0 (fun p e s m below meth c T0 hret hml hnm hSL hs0 X0 => ?_)
  have S_q0 := hSL q0 (List.mem_of_getElem? (i := 0) rfl)
  refine kALn X0 d22_0 rfl rfl ?_
  refine kINIT X0 (wd G 15 rfl) (wd G 16 rfl) (wd G 17 rfl) hml.symm d22_1 (by decide) 0 (Nat.le_of_eq rfl) (by decide) (fun T1 X2 => ?_)
  refine kALn X2 d22_4 rfl rfl ?_
  refine kVIRT X2 (gEL G) (argsL := []) (rest := []) (wd G 128 rfl) (wd G 129 rfl) (own_nf X2.hZ (own_noface (wd G 93 rfl) rfl)) (wd G 131 rfl) (wd G 130 rfl) (wd G 69 rfl) (wd G 132 rfl) (by decide) E_q1 (rm157 G i0 i1 i2 q1 q2 kp0 h0 X2.n O0 F_q1_value) all0 (lenOf pd____B rfl) rfl 0 rfl (by decide) hml.symm d22_5 (fun v3 T4 h5 vm6 _ w7 q8 C9 C10 X11 => ?_)
  obtain ⟨e13, f14⟩ := q8
  subst e13
  subst f14
  show Go _ _ _ _ _ (mkF _ _ _ [.ref q2])
  refine kASn X11 #[.val (.ref q0), .val (.ref q1), .val .null, .val (.ref q2), .unset] d22_8 rfl rfl ?_
  refine kALn X11 d22_9 rfl rfl ?_
  refine kVIRT X11 (gEL G) (argsL := []) (rest := []) (wd G 133 rfl) (wd G 134 rfl) (own_nf X11.hZ (own_noface (wd G 93 rfl) rfl)) (wd G 136 rfl) (wd G 137 rfl) (wd G 61 rfl) (wd G 138 rfl) (by decide) E_q1 (rm158 G i0 i1 i2 q1 q2 kp0 h0 X11.n O0 F_q1_count E_q1) all0 (lenOf pd___I rfl) rfl 0 rfl (by decide) hml.symm d22_10 (fun v15 T16 h17 vm18 _ w19 q20 C21 C22 X23 => ?_)
  obtain ⟨e25, f26⟩ := q20
  subst e25
  subst f26
  show Go _ _ _ _ _ (mkF _ _ _ [.int 4])
  refine kIS X23 #[.val (.ref q0), .val (.ref q1), .val .null, .val (.ref q2), .val (.int 4)] d22_13 rfl ?_
  refine kALn X23 d22_15 rfl rfl ?_
  refine kVIRT X23 (gEL G) (argsL := []) (rest := []) (wd G 141 rfl) (wd G 142 rfl) (own_nf X23.hZ (own_noface (wd G 93 rfl) rfl)) (wd G 144 rfl) (wd G 143 rfl) (wd G 69 rfl) (wd G 145 rfl) (by decide) E_q1 (rm160 G i0 i1 i2 q1 q2 kp0 h0 X23.n O0 F_q1_coder) all0 (lenOf pd___Z rfl) rfl 0 rfl (by decide) hml.symm d22_16 (fun v27 T28 h29 vm30 _ w31 q32 C33 C34 X35 => ?_)
  obtain ⟨e37, f38⟩ := q32
  subst e37
  subst f38
  show Go _ _ _ _ _ (mkF _ _ _ [.int 1])
  refine kIFf X35 d22_19 (XT.i0_eq_f (by decide)) ?_
  refine kALn X35 d22_22 rfl rfl ?_
  refine kIC X35 0 d22_23 (by decide) ?_
  have f39 := (CHr.safe C34 (F_q0_value.lt) (CHr.safe C22 (F_q0_value.lt) (CHr.safe C10 (F_q0_value.lt) S_q0)))
  refine kPUTF X35 (wd G 25 rfl) Via.refl F_q0_coder E_q0 (Or.inr ⟨(wd G 21 rfl), rfl, hnm⟩) (wd G 6 rfl) (ty := .byte) (by decide) (by decide) (by decide) g_q0 f39 d22_24 (fun T40 h41 L44 W43 X42 => ?_)
  have f45 := Fld.same W43 F_q0_coder
  refine kALn X42 d22_27 rfl rfl ?_
  refine kALn X42 d22_28 rfl rfl ?_
  refine kIC X42 0 d22_29 (by decide) ?_
  refine kIL X42 d22_30 rfl ?_
  have f46 := (Arv.other A_q2 W43 d_q2_q0)
  have f47 := (Old.wr O0 W43 g_q0)
  refine kSTAT X42 (gEL G) (argsL := [.ref q2, .int 0, .int 4]) (rest := [.ref q0]) (wd G 146 rfl) (wd G 147 rfl) (wd G 148 rfl) (wd G 149 rfl) (by decide) (rm161 G i0 i1 i2 q2 kp0 h41 X42.n f47 f46) all0 (lenOf pd___BII__B rfl) rfl 1 rfl (by decide) hml.symm d22_32 (fun v48 T49 h50 vm51 _ w52 q53 C54 C55 X56 => ?_)
  obtain ⟨a58, k59, e60, f61, f62, f63, f64⟩ := q53
  subst e60
  have n65 : q0 ≠ a58 := Nat.ne_of_lt (Nat.lt_of_lt_of_le (f45.lt) f62)
  have f67 := (Exa.wr W43 E_q1)
  have n66 : q1 ≠ a58 := Nat.ne_of_lt (Nat.lt_of_lt_of_le (f67.lt) f62)
  have n68 : q2 ≠ a58 := Nat.ne_of_lt (Nat.lt_of_lt_of_le (f46.lt) f62)
  have g69 : n0 ≤ a58 := Nat.le_trans X42.n f62
  have g70 : h0.size ≤ a58 := Nat.le_trans X42.g0 f62
  show Go _ _ _ _ _ (mkF _ _ _ [.ref a58, .ref q0])
  have f71 := (Fld.keep (Fld.other W43 F_q0_value (Or.inr (slot_ne (Or.inr (wd G 20 rfl)) (Or.inr (wd G 21 rfl)) (by decide) (by decide : parseFieldDescriptor "[B" = some (.array (.byte))) (by decide : parseFieldDescriptor "B" = some .byte)))) f61 nin0)
  have f72 := (Exa.keep (Exa.wr W43 E_q0) f61)
  have f73 := (CHr.safe C55 (f45.lt) (Safe.wr W43 f39 X35.C.1 f39))
  refine kPUTF X56 (wd G 24 rfl) Via.refl f71 f72 (Or.inr ⟨(wd G 20 rfl), rfl, hnm⟩) (wd G 6 rfl) (ty := (.array (.byte))) (by decide) rfl rfl g_q0 f73 d22_35 (fun T74 h75 L78 W77 X76 => ?_)
  have f79 := Fld.same W77 f71
  refine kGOTO X76 97 d22_38 (by decide) ?_
  have K80 : Keep h0 h75 [q0] := (Keep.wr (Keep.trans (Keep.wr (Keep.refl h0 [q0]) W43 (Or.inl (List.mem_of_getElem? (i := 0) rfl))) f61 all0) W77 (Or.inl (List.mem_of_getElem? (i := 0) rfl)))
  have f81 := (Arv.other f63 W77 (Ne.symm n65))
  have f82 := (Safe.wr W77 f73 X56.C.1 f64)
  have f83 := (Fld.other W77 (Fld.keep f45 f61 nin0) (Or.inr (slot_ne (Or.inr (wd G 21 rfl)) (Or.inr (wd G 20 rfl)) (by decide) (by decide : parseFieldDescriptor "B" = some .byte) (by decide : parseFieldDescriptor "[B" = some (.array (.byte))))))
  exact kRETV X76 (gEL G) hret d22_97 (fun ve hve => ⟨a58, k59, rfl, K80, g70, f81, (CHr.safe hve (f81.lt) f82), f83, f79⟩) (by decide)
def R_rm155 : Room := { frames := 4, cells := 1, slots := 4, locals := 65 }
theorem rm155 (G : Glob Z a0 iCS vSI) (i0 i1 i2 : Int32) (q0 q1 q2 : Addr) (kp0 : ClassId) (h0 : Heap) (Z0 : n0 ≤ h0.size) (O0 : Old Z n0 h0) (F_q1_value : Fld Z h0 q1 "java/lang/AbstractStringBuilder" "value" "[B" (.ref q2)) (E_q1 : Exa Z h0 q1 "java/lang/StringBuilder") (F_q1_count : Fld Z h0 q1 "java/lang/AbstractStringBuilder" "count" "I" (.int 4)) (F_q1_coder : Fld Z h0 q1 "java/lang/AbstractStringBuilder" "coder" "B" (.int 0)) (F_q0_coder : Fld Z h0 q0 "java/lang/String" "coder" "B" (.int 0)) (E_q0 : Exa Z h0 q0 "java/lang/String") (F_q0_value : Fld Z h0 q0 "java/lang/String" "value" "[B" (.null)) (A_q2 : Arv Z h0 q2 kp0 .byte 16 [.int i0, .int i1, .int 32, .int i2, .int 0, .int 0, .int 0, .int 0, .int 0, .int 0, .int 0, .int 0, .int 0, .int 0, .int 0, .int 0] (.int 0)) (d_q2_q0 : q2 ≠ q0) (g_q0 : n0 ≤ q0) : MetH l Z EL0 n0 N_jdk_42_m_53 jdk_42_method_53_code 2 none [] R_rm155 #[.ref q0, .ref q1] h0 [q0] (fun vs v h ve => (∃ (x0 : Addr), ∃ (z0 : ClassId), v = none ∧ (Keep h0 h [q0]) ∧ (h0.size ≤ x0) ∧ (Arv Z h x0 z0 .byte 4 [.int i0, .int i1, .int 32, .int i2] (.int 0)) ∧ (Safe Z EL0 ve h x0) ∧ (Fld Z h q0 "java/lang/String" "coder" "B" (.int 0)) ∧ (Fld Z h q0 "java/lang/String" "value" "[B" (.ref x0)))) := by
  refine MetH.of #[.val (.ref q0), .val (.ref q1)] (plainFor_of_name pn_java_lang_String) rfl Z0 (fun p e s m below meth c T0 hret hml hnm hSL hs0 X0 => ?_)
  have S_q0 := hSL q0 (List.mem_of_getElem? (i := 0) rfl)
  refine kALn X0 d21_0 rfl rfl ?_
  refine kALn X0 d21_1 rfl rfl ?_
  refine kNULL X0 d21_2 ?_
  refine kSPEC X0 (gEL G) (argsL := [.ref q1, .null]) (rest := []) (wd G 125 rfl) (wd G 126 rfl) (wd G 7 rfl) (wd G 127 rfl) rfl (by decide) (rm156 G i0 i1 i2 q0 q1 q2 kp0 h0 X0.n O0 F_q1_value E_q1 F_q1_count F_q1_coder F_q0_coder E_q0 F_q0_value A_q2 d_q2_q0 g_q0) (allS ⟨(E_q0.lt), S_q0⟩ all0) (lenOf pd__Ljava_lang_AbstractStringBuilder_Ljava_lang_Void__V rfl) rfl 0 rfl (by decide) hml.symm d21_3 (fun v1 T2 h3 vm4 _ w5 q6 C7 C8 X9 => ?_)
  obtain ⟨a11, k12, e13, f14, f15, f16, f17, f18, f19⟩ := q6
  subst e13
  have n20 : q0 ≠ a11 := Nat.ne_of_lt (Nat.lt_of_lt_of_le (E_q0.lt) f15)
  have n21 : q1 ≠ a11 := Nat.ne_of_lt (Nat.lt_of_lt_of_le (E_q1.lt) f15)
  have n22 : q2 ≠ a11 := Nat.ne_of_lt (Nat.lt_of_lt_of_le (A_q2.lt) f15)
  have g23 : n0 ≤ a11 := Nat.le_trans X0.n f15
  have g24 : h0.size ≤ a11 := Nat.le_trans X0.g0 f15
  show Go _ _ _ _ _ (mkF _ _ _ [])
  have K25 : Keep h0 h3 [q0] := (Keep.trans (Keep.refl h0 [q0]) f14 (allS (Or.inl (List.mem_of_getElem? (i := 0) rfl)) all0))
  exact kRETV X9 (gEL G) hret d21_6 (fun ve hve => ⟨a11, k12, rfl, K25, g24, f16, (CHr.safe hve (f16.lt) f17), f18, f19⟩) (by decide)
def R_rm154 : Room := { frames := 5, cells := 2, slots := 8, locals := 79 }
theorem rm154 (G : Glob Z a0 iCS vSI) (i0 i1 i2 : Int32) (q0 q1 : Addr) (kp0 : ClassId) (h0 : Heap) (Z0 : n0 ≤ h0.size) (O0 : Old Z n0 h0) (E_q0 : Exa Z h0 q0 "java/lang/StringBuilder") (A_q1 : Arv Z h0 q1 kp0 .byte 16 [.int i0, .int i1, .int 32, .int i2, .int 0, .int 0, .int 0, .int 0, .int 0, .int 0, .int 0, .int 0, .int 0, .int 0, .int 0, .int 0] (.int 0)) (F_q0_value : Fld Z h0 q0 "java/lang/AbstractStringBuilder" "value" "[B" (.ref q1)) (F_q0_count : Fld Z h0 q0 "java/lang/AbstractStringBuilder" "count" "I" (.int 4)) (F_q0_coder : Fld Z h0 q0 "java/lang/AbstractStringBuilder" "coder" "B" (.int 0)) : MetH l Z EL0 n0 N_jdk_67_m_42 jdk_67_method_42_code 1 (some (.object "java/lang/String")) [] R_rm154 #[.ref q0] h0 [] (fun vs v h ve => (∃ (x0 : Addr), ∃ (x1 : Addr), ∃ (z0 : ClassId), v = some (.ref x0) ∧ (Keep h0 h []) ∧ (h0.size ≤ x0) ∧ (h0.size ≤ x1) ∧ (x0 ≠ x1) ∧ (Exa Z h x0 "java/lang/String") ∧ (Fld Z h x0 "java/lang/String" "coder" "B" (.int 0)) ∧ (Fld Z h x0 "java/lang/String" "value" "[B" (.ref x1)) ∧ (Safe Z EL0 ve h x0) ∧ (Arv Z h x1 z0 .byte 4 [.int i0, .int i1, .int 32, .int i2] (.int 0)) ∧ (Safe Z EL0 ve h x1))) := by
  refine MetH.of #[.val (.ref q0)] (plainFor_of_name pn_java_lang_StringBuilder) rfl Z0 (fun p e s m below meth c T0 hret hml hnm hSL hs0 X0 => ?_)
  refine kNEW X0 (wd G 121 rfl) (wd G 6 rfl) (wd G 7 rfl) d20_0 (by decide) (by decide) (fun T1 h2 a4 E5 q6 g7 A8 D9 s10 X3 => ?_)
  have n11 : q0 ≠ a4 := Nat.ne_of_lt (Nat.lt_of_lt_of_le (E_q0.lt) (Nat.le_of_eq q6.symm))
  have n12 : q1 ≠ a4 := Nat.ne_of_lt (Nat.lt_of_lt_of_le (A_q1.lt) (Nat.le_of_eq q6.symm))
  have g13 : h0.size ≤ a4 := q6 ▸ X0.g0
  have f14 : Fld Z h2 a4 "java/lang/String" "value" "[B" (.null) := D9 (Or.inr (wd G 20 rfl)) (ty := (.array (.byte))) (by decide)
  have f15 : Fld Z h2 a4 "java/lang/String" "coder" "B" (.int 0) := D9 (Or.inr (wd G 21 rfl)) (ty := .byte) (by decide)
  refine kDUP X3 d20_3 rfl ?_
  refine kALn X3 d20_4 rfl rfl ?_
  have f16 := (Fld.ext E5 F_q0_value)
  have f17 := (Exa.ext E5 E_q0)
  have f18 := (Fld.ext E5 F_q0_count)
  have f19 := (Fld.ext E5 F_q0_coder)
  have f20 := (Arv.ext A_q1 E5)
  have f21 := (Old.ext O0 E5)
  refine kSPEC X3 (gEL G) (argsL := [.ref q0]) (rest := [.ref a4]) (wd G 122 rfl) (wd G 123 rfl) (wd G 7 rfl) (wd G 124 rfl) rfl (by decide) (rm155 G i0 i1 i2 a4 q0 q1 kp0 h2 X3.n f21 f16 f17 f18 f19 f15 A8 f14 f20 n12 g7) (allS ⟨(A8.lt), s10⟩ all0) (lenOf pd__Ljava_lang_StringBuilder__V rfl) rfl 1 rfl (by decide) hml.symm d20_5 (fun v22 T23 h24 vm25 _ w26 q27 C28 C29 X30 => ?_)
  obtain ⟨a32, k33, e34, f35, f36, f37, f38, f39, f40⟩ := q27
  subst e34
  have n41 : q0 ≠ a32 := Nat.ne_of_lt (Nat.lt_of_lt_of_le (f17.lt) f36)
  have n42 : q1 ≠ a32 := Nat.ne_of_lt (Nat.lt_of_lt_of_le (f20.lt) f36)
  have n43 : a4 ≠ a32 := Nat.ne_of_lt (Nat.lt_of_lt_of_le (A8.lt) f36)
  have g44 : n0 ≤ a32 := Nat.le_trans X3.n f36
  have g45 : h0.size ≤ a32 := Nat.le_trans X3.g0 f36
  show Go _ _ _ _ _ (mkF _ _ _ [.ref a4])
  have K46 : Keep h0 h24 [] := (Keep.trans (Keep.ext (Keep.refl h0 []) E5) f35 (allS (Or.inr g13) all0))
  have f47 := (Exa.keep A8 f35)
  have f48 := (CHr.safe C29 (f15.lt) s10)
  exact kRETA X30 (gEL G) hret rfl rfl d20_8 (fun ve hve => ⟨a4, a32, k33, rfl, K46, g13, g45, n43, f47, f39, f40, (CHr.safe hve (f47.lt) f48), f37, (CHr.safe hve (f37.lt) f38)⟩) (by decide)
def R_rm135 : Room := { frames := 6, cells := 6, slots := 36, locals := 91 }
theorem rm135 (G : Glob Z a0 iCS vSI) (i0 i1 i2 : Int32) (q0 q1 q2 q3 : Addr) (kp0 kp1 : ClassId) (h0 : Heap) (Z0 : n0 ≤ h0.size) (O0 : Old Z n0 h0) (F_q0_value : Fld Z h0 q0 "java/lang/String" "value" "[B" (.ref q2)) (A_q2 : Arv Z h0 q2 kp0 .byte 2 [.int i0, .int i1] (.int 0)) (E_q0 : Exa Z h0 q0 "java/lang/String") (F_q1_value : Fld Z h0 q1 "java/lang/String" "value" "[B" (.ref q3)) (A_q3 : Arv Z h0 q3 kp1 .byte 1 [.int i2] (.int 0)) (E_q1 : Exa Z h0 q1 "java/lang/String") (F_q0_coder : Fld Z h0 q0 "java/lang/String" "coder" "B" (.int 0)) (F_q1_coder : Fld Z h0 q1 "java/lang/String" "coder" "B" (.int 0)) : MetH l Z EL0 n0 N_prog_30_m_3 prog_30_method_3_code 3 (some (.object "java/lang/String")) [] R_rm135 #[.ref q0, .ref q1] h0 [q0, q1, q2, q3] (fun vs v h ve => (∃ (x0 : Addr), ∃ (x1 : Addr), ∃ (z0 : ClassId), v = some (.ref x0) ∧ (Keep h0 h []) ∧ (h0.size ≤ x0) ∧ (h0.size ≤ x1) ∧ (x0 ≠ x1) ∧ (Exa Z h x0 "java/lang/String") ∧ (Fld Z h x0 "java/lang/String" "coder" "B" (.int 0)) ∧ (Fld Z h x0 "java/lang/String" "value" "[B" (.ref x1)) ∧ (Safe Z EL0 ve h x0) ∧ (Arv Z h x1 z0 .byte 4 [.int i0, .int i1, .int 32, .int i2] (.int 0)) ∧ (Safe Z EL0 ve h x1))) := by
  refine MetH.of #[.val (.ref q0), .val (.ref q1), .unset] (plainFor_of_name pn_com_example_tight_calculus_tightcalculus_Report) rfl Z0 (fun p e s m below meth c T0 hret hml hnm hSL hs0 X0 => ?_)
  have S_q0 := hSL q0 (List.mem_of_getElem? (i := 0) rfl)
  have S_q1 := hSL q1 (List.mem_of_getElem? (i := 1) rfl)
  have S_q2 := hSL q2 (List.mem_of_getElem? (i := 2) rfl)
  have S_q3 := hSL q3 (List.mem_of_getElem? (i := 3) rfl)
  refine kALn X0 d4_0 rfl rfl ?_
  refine kVIRT X0 (gEL G) (argsL := []) (rest := []) (wd G 30 rfl) (wd G 31 rfl) (own_nf X0.hZ (own_noinst (wd G 6 rfl))) (wd G 33 rfl) (wd G 32 rfl) (wd G 7 rfl) (wd G 34 rfl) (by decide) E_q0 (rm98 G i0 i1 q0 q2 kp0 h0 X0.n O0 F_q0_value A_q2) all0 (lenOf pd___Z rfl) rfl 0 rfl (by decide) hml.symm d4_1 (fun v1 T2 h3 vm4 _ w5 q6 C7 C8 X9 => ?_)
  obtain ⟨e11, f12⟩ := q6
  subst e11
  subst f12
  show Go _ _ _ _ _ (mkF _ _ _ [.int 0])
  refine kIFt X9 12 d4_4 (XT.i0_eq_t (by decide)) (by decide) ?_
  refine kALn X9 d4_12 rfl rfl ?_
  refine kVIRT X9 (gEL G) (argsL := []) (rest := []) (wd G 30 rfl) (wd G 31 rfl) (own_nf X9.hZ (own_noinst (wd G 6 rfl))) (wd G 33 rfl) (wd G 32 rfl) (wd G 7 rfl) (wd G 34 rfl) (by decide) E_q1 (rm46 G i2 q1 q3 kp1 h0 X9.n O0 F_q1_value A_q3) all0 (lenOf pd___Z rfl) rfl 0 rfl (by decide) hml.symm d4_13 (fun v13 T14 h15 vm16 _ w17 q18 C19 C20 X21 => ?_)
  obtain ⟨e23, f24⟩ := q18
  subst e23
  subst f24
  show Go _ _ _ _ _ (mkF _ _ _ [.int 0])
  refine kIFt X21 24 d4_16 (XT.i0_eq_t (by decide)) (by decide) ?_
  refine kNEW X21 (wd G 59 rfl) (wd G 60 rfl) (wd G 61 rfl) d4_24 (by decide) (by decide) (fun T25 h26 a28 E29 q30 g31 A32 D33 s34 X27 => ?_)
  have n35 : q0 ≠ a28 := Nat.ne_of_lt (Nat.lt_of_lt_of_le (E_q0.lt) (Nat.le_of_eq q30.symm))
  have n36 : q1 ≠ a28 := Nat.ne_of_lt (Nat.lt_of_lt_of_le (E_q1.lt) (Nat.le_of_eq q30.symm))
  have n37 : q2 ≠ a28 := Nat.ne_of_lt (Nat.lt_of_lt_of_le (A_q2.lt) (Nat.le_of_eq q30.symm))
  have n38 : q3 ≠ a28 := Nat.ne_of_lt (Nat.lt_of_lt_of_le (A_q3.lt) (Nat.le_of_eq q30.symm))
  have g39 : h0.size ≤ a28 := q30 ▸ X21.g0
  have f40 : Fld Z h26 a28 "java/lang/AbstractStringBuilder" "value" "[B" (.null) := D33 (Or.inl (wd G 74 rfl)) (ty := (.array (.byte))) (by decide)
  have f41 : Fld Z h26 a28 "java/lang/AbstractStringBuilder" "coder" "B" (.int 0) := D33 (Or.inl (wd G 76 rfl)) (ty := .byte) (by decide)
  have f42 : Fld Z h26 a28 "java/lang/AbstractStringBuilder" "count" "I" (.int 0) := D33 (Or.inl (wd G 89 rfl)) (ty := .int) (by decide)
  refine kDUP X27 d4_27 rfl ?_
  have f43 := (Old.ext O0 E29)
  refine kSPEC X27 (gEL G) (argsL := []) (rest := [.ref a28]) (wd G 62 rfl) (wd G 63 rfl) (wd G 61 rfl) (wd G 64 rfl) rfl (by decide) (rm54 G a28 h26 X27.n f43 A32 f40 f41 f42 g31) all0 (lenOf pd___V rfl) rfl 1 rfl (by decide) hml.symm d4_28 (fun v44 T45 h46 vm47 _ w48 q49 C50 C51 X52 => ?_)
  obtain ⟨a54, k55, e56, f57, f58, f59, f60, f61, f62, f63⟩ := q49
  subst e56
  have f65 := (Exa.ext E29 E_q0)
  have n64 : q0 ≠ a54 := Nat.ne_of_lt (Nat.lt_of_lt_of_le (f65.lt) f58)
  have f67 := (Exa.ext E29 E_q1)
  have n66 : q1 ≠ a54 := Nat.ne_of_lt (Nat.lt_of_lt_of_le (f67.lt) f58)
  have f69 := (Arv.ext A_q2 E29)
  have n68 : q2 ≠ a54 := Nat.ne_of_lt (Nat.lt_of_lt_of_le (f69.lt) f58)
  have f71 := (Arv.ext A_q3 E29)
  have n70 : q3 ≠ a54 := Nat.ne_of_lt (Nat.lt_of_lt_of_le (f71.lt) f58)
  have n72 : a28 ≠ a54 := Nat.ne_of_lt (Nat.lt_of_lt_of_le (A32.lt) f58)
  have g73 : n0 ≤ a54 := Nat.le_trans X27.n f58
  have g74 : h0.size ≤ a54 := Nat.le_trans X27.g0 f58
  show Go _ _ _ _ _ (mkF _ _ _ [.ref a28])
  refine kALn X52 d4_31 rfl rfl ?_
  have f75 := (Fld.keep (Fld.ext E29 F_q0_value) f57 (ninS n35 nin0))
  have f76 := (Arv.keep f69 f57 (ninS n37 nin0))
  have f77 := (Fld.keep (Fld.ext E29 F_q0_coder) f57 (ninS n35 nin0))
  have f78 := (Exa.keep f65 f57)
  have f79 := (Exa.keep A32 f57)
  have f80 := (Old.keep f43 f57 (allS g31 all0))
  refine kVIRT X52 (gEL G) (argsL := [.ref q0]) (rest := []) (wd G 77 rfl) (wd G 78 rfl) (own_nf X52.hZ (own_noinst (wd G 60 rfl))) (wd G 80 rfl) (wd G 79 rfl) (wd G 61 rfl) (wd G 81 rfl) (by decide) f79 (rm136 G i0 i1 a28 q0 a54 q2 k55 kp0 h46 X52.n f80 f75 f76 f77 f78 f62 f63 f59 f61 f79 n72 g31 g73) (allS ⟨(f59.lt), f60⟩ all0) (lenOf pd__Ljava_lang_String__Ljava_lang_StringBuilder_ rfl) rfl 0 rfl (by decide) hml.symm d4_32 (fun v81 T82 h83 vm84 _ w85 q86 C87 C88 X89 => ?_)
  obtain ⟨e91, f92, f93, f94, f95, f96⟩ := q86
  subst e91
  show Go _ _ _ _ _ (mkF _ _ _ [.ref a28])
  refine kLDCT X89 (gEL G) (wd G 115 rfl) (gSA G) (by decide) (text := " ") (vs := [.int 32]) (z := 1) (by decide) (by decide) (by decide) d4_35 (n := 4) (by decide) (by decide) (by decide) (by decide) (fun T97 h98 vm100 a101 b102 k103 E104 C105 f106 f107 f108 f109 n110 X99 => ?_)
  have f111 := (CHr.safe C105 ((Exa.keep f78 f92)).lt (CHr.safe C88 (f78.lt) (CHr.safe C51 (f65.lt) (Safe.ext E29 X21.C.1 (CHr.safe C20 (E_q0.lt) (CHr.safe C8 (E_q0.lt) S_q0))))))
  have n112 := (n110 q0 f111).1
  have n113 := (n110 q0 f111).2
  have f114 := (CHr.safe C105 ((Exa.keep (Exa.keep f67 f57) f92)).lt (CHr.safe C88 ((Exa.keep f67 f57)).lt (CHr.safe C51 (f67.lt) (Safe.ext E29 X21.C.1 (CHr.safe C20 (F_q1_value.lt) (CHr.safe C8 (F_q1_coder.lt) S_q1))))))
  have n115 := (n110 q1 f114).1
  have n116 := (n110 q1 f114).2
  have f117 := (CHr.safe C105 ((Arv.keep f76 f92 (ninS n68 (ninS n37 nin0)))).lt (CHr.safe C88 (f76.lt) (CHr.safe C51 (f69.lt) (Safe.ext E29 X21.C.1 (CHr.safe C20 (A_q2.lt) (CHr.safe C8 (A_q2.lt) S_q2))))))
  have n118 := (n110 q2 f117).1
  have n119 := (n110 q2 f117).2
  have f120 := (CHr.safe C105 ((Arv.keep (Arv.keep f71 f57 (ninS n38 nin0)) f92 (ninS n70 (ninS n38 nin0)))).lt (CHr.safe C88 ((Arv.keep f71 f57 (ninS n38 nin0))).lt (CHr.safe C51 (f71.lt) (Safe.ext E29 X21.C.1 (CHr.safe C20 (A_q3.lt) (CHr.safe C8 (A_q3.lt) S_q3))))))
  have n121 := (n110 q3 f120).1
  have n122 := (n110 q3 f120).2
  have f123 := (Exa.ext E104 (Exa.keep f79 f92))
  have n124 := (n110 a28 (Safe.exa X99.hZ.alike f123 (by decide) (by decide))).1
  have n125 := (n110 a28 (Safe.exa X99.hZ.alike f123 (by decide) (by decide))).2
  have f126 := (CHr.safe C105 (f93.lt) (CHr.safe C88 (f59.lt) f60))
  have n127 := (n110 a54 f126).1
  have n128 := (n110 a54 f126).2
  have n129 : ∀ x, x < h0.size → Safe Z EL0 s.vm h0 x → x ≠ b102 := fun x hx S => (n110 x (CHr.safe (hs0 ▸ X99.C) hx S)).2
  have f130 := (Fld.ext E104 f95)
  have f131 := (Fld.ext E104 f96)
  have f132 := (Arv.ext f93 E104)
  have f133 := (Fld.ext E104 f94)
  have f134 := (Old.ext (Old.keep f80 f92 (allS g73 (allS g31 all0))) E104)
  refine kVIRT X99 (gEL G) (argsL := [.ref a101]) (rest := []) (wd G 77 rfl) (wd G 78 rfl) (own_nf X99.hZ (own_noinst (wd G 60 rfl))) (wd G 80 rfl) (wd G 79 rfl) (wd G 61 rfl) (wd G 81 rfl) (by decide) f123 (rm142 G i0 i1 a28 a101 a54 b102 k55 k103 h98 X99.n f134 f108 f109 f107 f106 f130 f131 f132 f133 f123 n72 g31 g73) (allS ⟨(f132.lt), f126⟩ all0) (lenOf pd__Ljava_lang_String__Ljava_lang_StringBuilder_ rfl) rfl 0 rfl (by decide) hml.symm d4_37 (fun v135 T136 h137 vm138 _ w139 q140 C141 C142 X143 => ?_)
  obtain ⟨e145, f146, f147, f148, f149, f150⟩ := q140
  subst e145
  show Go _ _ _ _ _ (mkF _ _ _ [.ref a28])
  refine kALn X143 d4_40 rfl rfl ?_
  have f151 := (Fld.keep (Fld.ext E104 (Fld.keep (Fld.keep (Fld.ext E29 F_q1_value) f57 (ninS n36 nin0)) f92 (ninS n66 (ninS n36 nin0)))) f146 (ninS n66 (ninS n36 nin0)))
  have f152 := (Arv.keep (Arv.ext (Arv.keep (Arv.keep f71 f57 (ninS n38 nin0)) f92 (ninS n70 (ninS n38 nin0))) E104) f146 (ninS n70 (ninS n38 nin0)))
  have f153 := (Fld.keep (Fld.ext E104 (Fld.keep (Fld.keep (Fld.ext E29 F_q1_coder) f57 (ninS n36 nin0)) f92 (ninS n66 (ninS n36 nin0)))) f146 (ninS n66 (ninS n36 nin0)))
  have f154 := (Exa.keep (Exa.ext E104 (Exa.keep (Exa.keep f67 f57) f92)) f146)
  have f155 := (Exa.keep f123 f146)
  have f156 := (Old.keep f134 f146 (allS g73 (allS g31 all0)))
  have f166 := (CHr.safe C142 (f132.lt) f126)
  refine kVIRT X143 (gEL G) (argsL := [.ref q1]) (rest := []) (wd G 77 rfl) (wd G 78 rfl) (own_nf X143.hZ (own_noinst (wd G 60 rfl))) (wd G 80 rfl) (wd G 79 rfl) (wd G 61 rfl) (wd G 81 rfl) (by decide) f155 (rm148 G i0 i1 i2 a28 q1 a54 q3 k55 kp1 h137 X143.n f156 f151 f152 f153 f154 f149 f150 f147 f148 f155 n72 g31 g73) (allS ⟨(f147.lt), f166⟩ all0) (lenOf pd__Ljava_lang_String__Ljava_lang_StringBuilder_ rfl) rfl 0 rfl (by decide) hml.symm d4_41 (fun v157 T158 h159 vm160 _ w161 q162 C163 C164 X165 => ?_)
  obtain ⟨e168, f169, f170, f171, f172, f173⟩ := q162
  subst e168
  show Go _ _ _ _ _ (mkF _ _ _ [.ref a28])
  have f174 := (Exa.keep f155 f169)
  have f175 := (Old.keep f156 f169 (allS g73 (allS g31 all0)))
  refine kVIRT X165 (gEL G) (argsL := []) (rest := []) (wd G 116 rfl) (wd G 117 rfl) (own_nf X165.hZ (own_noinst (wd G 60 rfl))) (wd G 119 rfl) (wd G 118 rfl) (wd G 61 rfl) (wd G 120 rfl) (by decide) f174 (rm154 G i0 i1 i2 a28 a54 k55 h159 X165.n f175 f174 f170 f173 f172 f171) all0 (lenOf pd___Ljava_lang_String_ rfl) rfl 0 rfl (by decide) hml.symm d4_44 (fun v176 T177 h178 vm179 _ w180 q181 C182 C183 X184 => ?_)
  obtain ⟨a186, a187, k188, e189, f190, f191, f192, f193, f194, f195, f196, f197, f198, f199⟩ := q181
  subst e189
  have f201 := (Exa.keep (Exa.keep (Exa.ext E104 (Exa.keep f78 f92)) f146) f169)
  have n200 : q0 ≠ a186 := Nat.ne_of_lt (Nat.lt_of_lt_of_le (f201.lt) f191)
  have f203 := (Exa.keep f154 f169)
  have n202 : q1 ≠ a186 := Nat.ne_of_lt (Nat.lt_of_lt_of_le (f203.lt) f191)
  have f205 := (Arv.keep (Arv.keep (Arv.ext (Arv.keep f76 f92 (ninS n68 (ninS n37 nin0))) E104) f146 (ninS n68 (ninS n37 nin0))) f169 (ninS n68 (ninS n37 nin0)))
  have n204 : q2 ≠ a186 := Nat.ne_of_lt (Nat.lt_of_lt_of_le (f205.lt) f191)
  have f207 := (Arv.keep f152 f169 (ninS n70 (ninS n38 nin0)))
  have n206 : q3 ≠ a186 := Nat.ne_of_lt (Nat.lt_of_lt_of_le (f207.lt) f191)
  have n208 : a28 ≠ a186 := Nat.ne_of_lt (Nat.lt_of_lt_of_le (f174.lt) f191)
  have n209 : a54 ≠ a186 := Nat.ne_of_lt (Nat.lt_of_lt_of_le (f170.lt) f191)
  have f211 := (Exa.keep (Exa.keep f106 f146) f169)
  have n210 : a101 ≠ a186 := Nat.ne_of_lt (Nat.lt_of_lt_of_le (f211.lt) f191)
  have f213 := (Arv.keep (Arv.keep f109 f146 (ninS (Ne.symm n128) (ninS (Ne.symm n125) nin0))) f169 (ninS (Ne.symm n128) (ninS (Ne.symm n125) nin0)))
  have n212 : b102 ≠ a186 := Nat.ne_of_lt (Nat.lt_of_lt_of_le (f213.lt) f191)
  have n214 : q0 ≠ a187 := Nat.ne_of_lt (Nat.lt_of_lt_of_le (f201.lt) f192)
  have n215 : q1 ≠ a187 := Nat.ne_of_lt (Nat.lt_of_lt_of_le (f203.lt) f192)
  have n216 : q2 ≠ a187 := Nat.ne_of_lt (Nat.lt_of_lt_of_le (f205.lt) f192)
  have n217 : q3 ≠ a187 := Nat.ne_of_lt (Nat.lt_of_lt_of_le (f207.lt) f192)
  have n218 : a28 ≠ a187 := Nat.ne_of_lt (Nat.lt_of_lt_of_le (f174.lt) f192)
  have n219 : a54 ≠ a187 := Nat.ne_of_lt (Nat.lt_of_lt_of_le (f170.lt) f192)
  have n220 : a101 ≠ a187 := Nat.ne_of_lt (Nat.lt_of_lt_of_le (f211.lt) f192)
  have n221 : b102 ≠ a187 := Nat.ne_of_lt (Nat.lt_of_lt_of_le (f213.lt) f192)
  have g222 : n0 ≤ a186 := Nat.le_trans X165.n f191
  have g223 : h0.size ≤ a186 := Nat.le_trans X165.g0 f191
  have g224 : n0 ≤ a187 := Nat.le_trans X165.n f192
  have g225 : h0.size ≤ a187 := Nat.le_trans X165.g0 f192
  show Go _ _ _ _ _ (mkF _ _ _ [.ref a186])
  refine kASn X184 #[.val (.ref q0), .val (.ref q1), .val (.ref a186)] d4_47 rfl rfl ?_
  refine kALn X184 d4_48 rfl rfl ?_
  have K226 : Keep h0 h178 [] := (Keep.trans (Keep.trans (Keep.trans (Keep.ext (Keep.trans (Keep.trans (Keep.ext (Keep.refl h0 []) E29) f57 (allS (Or.inr g39) all0)) f92 (allS (Or.inr g74) (allS (Or.inr g39) all0))) E104) f146 (allS (Or.inr g74) (allS (Or.inr g39) all0))) f169 (allS (Or.inr g74) (allS (Or.inr g39) all0))) f190 all0)
  exact kRETA X184 (gEL G) hret rfl rfl d4_49 (fun ve hve => ⟨a186, a187, k188, rfl, K226, g223, g225, f193, f194, f195, f196, (CHr.safe hve (f194.lt) f197), f198, (CHr.safe hve (f198.lt) f199)⟩) (by decide)
def R_rm164 : Room := { frames := 0, cells := 0, slots := 0, locals := 0 }
theorem rm164 (G : Glob Z a0 iCS vSI) (i0 i1 i2 : Int32) (q0 q1 : Addr) (kp0 : ClassId) (h0 : Heap) (Z0 : n0 ≤ h0.size) (O0 : Old Z n0 h0) (F_q0_coder : Fld Z h0 q0 "java/lang/String" "coder" "B" (.int 0)) : MetH l Z EL0 n0 N_jdk_42_m_152 jdk_42_method_152_code 1 (some .byte) [] R_rm164 #[.ref q0] h0 [] (fun vs v h ve => (v = some (.int 0) ∧ (h0 = h))) := by
  refine MetH.of #[.val (.ref q0)] (plainFor_of_name pn_java_lang_String) rfl Z0 (fun p e s m below meth c T0 hret hml hnm hSL hs0 X0 => ?_)
  refine kGETS X0 (wd G 45 rfl) Via.refl (Sta.ext O0.2 (S_CS G)) d7_0 (fun T1 X2 => ?_)
  refine kIFf X2 d7_3 (XT.i0_eq_f (n_CS G)) ?_
  refine kALn X2 d7_6 rfl rfl ?_
  refine kGETF X2 (wd G 25 rfl) Via.refl F_q0_coder d7_7 (fun T3 X4 => ?_)
  refine kGOTO X4 14 d7_10 (by decide) ?_
  exact kRETZ X4 (gEL G) (t := .byte) hret (by simp) d7_14 (fun ve hve => ⟨rfl, rfl⟩) (by decide)
def R_rm163 : Room := { frames := 1, cells := 0, slots := 0, locals := 13 }
theorem rm163 (G : Glob Z a0 iCS vSI) (i0 i1 i2 : Int32) (q0 q1 : Addr) (kp0 : ClassId) (h0 : Heap) (Z0 : n0 ≤ h0.size) (O0 : Old Z n0 h0) (F_q0_value : Fld Z h0 q0 "java/lang/String" "value" "[B" (.ref q1)) (A_q1 : Arv Z h0 q1 kp0 .byte 4 [.int i0, .int i1, .int 32, .int i2] (.int 0)) (F_q0_coder : Fld Z h0 q0 "java/lang/String" "coder" "B" (.int 0)) (E_q0 : Exa Z h0 q0 "java/lang/String") : MetH l Z EL0 n0 N_jdk_42_m_54 jdk_42_method_54_code 1 (some .int) [] R_rm163 #[.ref q0] h0 [] (fun vs v h ve => (v = some (.int 4) ∧ (h0 = h))) := by
  refine MetH.of #[.val (.ref q0)] (plainFor_of_name pn_java_lang_String) rfl Z0 (fun p e s m below meth c T0 hret hml hnm hSL hs0 X0 => ?_)
  refine kALn X0 d6_0 rfl rfl ?_
  refine kGETF X0 (wd G 24 rfl) Via.refl F_q0_value d6_1 (fun T1 X2 => ?_)
  refine kLEN X2 A_q1 d6_4 ?_
  refine kALn X2 d6_5 rfl rfl ?_
  refine kVIRT X2 (gEL G) (argsL := []) (rest := [.int 4]) (wd G 40 rfl) (wd G 41 rfl) (own_nf X2.hZ (own_noinst (wd G 6 rfl))) (wd G 43 rfl) (wd G 42 rfl) (wd G 7 rfl) (wd G 44 rfl) (by decide) E_q0 (rm164 G i0 i1 i2 q0 q1 kp0 h0 X2.n O0 F_q0_coder) all0 (lenOf pd___B rfl) rfl 1 rfl (by decide) hml.symm d6_6 (fun v3 T4 h5 vm6 _ w7 q8 C9 C10 X11 => ?_)
  obtain ⟨e13, f14⟩ := q8
  subst e13
  subst f14
  show Go _ _ _ _ _ (mkF _ _ _ [.int 0, .int 4])
  refine kISHR X11 4 d6_9 (by decide) ?_
  exact kRETI X11 (gEL G) hret d6_10 (fun ve hve => ⟨rfl, rfl⟩) (by decide)
def R_rm166 : Room := { frames := 0, cells := 0, slots := 0, locals := 0 }
theorem rm166 (G : Glob Z a0 iCS vSI) (i0 i1 i2 : Int32) (q0 q1 : Addr) (kp0 kp1 : ClassId) (h0 : Heap) (Z0 : n0 ≤ h0.size) (O0 : Old Z n0 h0) (A_q0 : Arv Z h0 q0 kp0 .char 2 [.int i0, .int i1] (.int 0)) (c_0 : ¬ (255 : Int32) < i0) (c_3 : ¬ i0 < 0) : MetH l Z EL0 n0 N_m_5 method_5_code 6 (some .char) [] R_rm166 #[.int 0, .ref q0, .int 2, .ref q1, .int 1] h0 [] (fun vs v h ve => (v = some (.int i0) ∧ (h0 = h))) := by
  refine MetH.of #[.val (.int 0), .val (.ref q0), .val (.int 2), .val (.ref q1), .val (.int 1), .unset] (plainFor_of_name pn_com_example_tight_calculus_tightcalculus_ReportWordsPinLaw) rfl Z0 (fun p e s m below meth c T0 hret hml hnm hSL hs0 X0 => ?_)
  refine kILn X0 d36_0 rfl ?_
  refine kILn X0 d36_1 rfl ?_
  refine kICf X0 d36_2 (XT.ii_ge_f (by decide)) ?_
  refine kALn X0 d36_5 rfl rfl ?_
  refine kILn X0 d36_6 rfl ?_
  refine kCALD X0 (.int i0) A_q0 (by decide) rfl d36_7 ?_
  refine kIS X0 #[.val (.int 0), .val (.ref q0), .val (.int 2), .val (.ref q1), .val (.int 1), .val (.int i0)] d36_8 rfl ?_
  refine kGOTO X0 53 d36_10 (by decide) ?_
  refine kIL X0 d36_53 rfl ?_
  exact kRETZ X0 (gEL G) (t := .char) hret (by simp) d36_55 (fun ve hve => ⟨(by rw [(own_nc c_0 c_3)]), rfl⟩) (by decide)
def R_rm165 : Room := { frames := 4, cells := 0, slots := 0, locals := 53 }
theorem rm165 (G : Glob Z a0 iCS vSI) (i0 i1 i2 i3 i4 i5 : Int32) (q0 q1 q2 q3 : Addr) (kp0 kp1 kp2 : ClassId) (h0 : Heap) (Z0 : n0 ≤ h0.size) (O0 : Old Z n0 h0) (F_q0_coder : Fld Z h0 q0 "java/lang/String" "coder" "B" (.int 0)) (E_q0 : Exa Z h0 q0 "java/lang/String") (F_q0_value : Fld Z h0 q0 "java/lang/String" "value" "[B" (.ref q3)) (A_q3 : Arv Z h0 q3 kp2 .byte 4 [.int i3, .int i4, .int 32, .int i5] (.int 0)) (c_0 : ¬ (255 : Int32) < i0) (c_3 : ¬ i0 < 0) (c_1 : ¬ (255 : Int32) < i1) (c_4 : ¬ i1 < 0) (c_2 : ¬ (255 : Int32) < i2) (c_5 : ¬ i2 < 0) (A_q1 : Arv Z h0 q1 kp0 .char 2 [.int i0, .int i1] (.int 0)) : MetH l Z EL0 n0 N_m_4 method_4_code 7 (some .boolean) [] R_rm165 #[.ref q0, .int 0, .int 4, .ref q1, .int 2, .ref q2, .int 1] h0 [] (fun vs v h ve => (v = some (.int 1) ∧ ((i3 &&& (255 : Int32)) = i0) ∧ (h0 = h)) ∨ (v = some (.int 0) ∧ (¬ (i3 &&& (255 : Int32)) = i0) ∧ (h0 = h))) := by
  refine MetH.of #[.val (.ref q0), .val (.int 0), .val (.int 4), .val (.ref q1), .val (.int 2), .val (.ref q2), .val (.int 1)] (plainFor_of_name pn_com_example_tight_calculus_tightcalculus_ReportWordsPinLaw) rfl Z0 (fun p e s m below meth c T0 hret hml hnm hSL hs0 X0 => ?_)
  refine kILn X0 d8_0 rfl ?_
  refine kILn X0 d8_1 rfl ?_
  refine kICt X0 7 d8_2 (XT.ii_lt_t (by decide)) (by decide) ?_
  refine kALn X0 d8_7 rfl rfl ?_
  refine kILn X0 d8_8 rfl ?_
  refine kVIRT X0 (gEL G) (argsL := [.int 0]) (rest := []) (wd G 161 rfl) (wd G 162 rfl) (own_nf X0.hZ (own_noinst (wd G 6 rfl))) (wd G 164 rfl) (wd G 163 rfl) (wd G 7 rfl) (wd G 165 rfl) (by decide) E_q0 (gm_ca2 G (0 : Int32) (4 : Int32) i3 (i3 &&& (255 : Int32)) ([.int i3, .int i4, .int 32, .int i5]) q0 q3 kp2 h0 X0.n O0 rfl rfl F_q0_coder E_q0 F_q0_value A_q3 (by decide) (by decide)) all0 (lenOf pd__I_C rfl) rfl 0 rfl (by decide) hml.symm d8_9 (fun v1 T2 h3 vm4 _ w5 q6 C7 C8 X9 => ?_)
  obtain ⟨e11, f12⟩ := q6
  subst e11
  subst f12
  show Go _ _ _ _ _ (mkF _ _ _ [.int (i3 &&& (255 : Int32))])
  refine kILn X9 d8_12 rfl ?_
  refine kALn X9 d8_13 rfl rfl ?_
  refine kIL X9 d8_14 rfl ?_
  refine kAL X9 d8_16 rfl rfl ?_
  refine kIL X9 d8_18 rfl ?_
  refine kSTAT X9 (gEL G) (argsL := [.int 0, .ref q1, .int 2, .ref q2, .int 1]) (rest := [.int (i3 &&& (255 : Int32))]) (wd G 183 rfl) (wd G 184 rfl) (wd G 2 rfl) (wd G 185 rfl) (by decide) (rm166 G i0 i1 i2 q1 q2 kp0 kp1 h0 X9.n O0 A_q1 c_0 c_3) all0 (lenOf pd__I_CI_CI_C rfl) rfl 1 rfl (by decide) hml.symm d8_20 (fun v13 T14 h15 vm16 _ w17 q18 C19 C20 X21 => ?_)
  obtain ⟨e23, f24⟩ := q18
  subst e23
  subst f24
  show Go _ _ _ _ _ (mkF _ _ _ [.int i0, .int (i3 &&& (255 : Int32))])
  by_cases c25 : (i3 &&& (255 : Int32)) = i0
  · refine kICf X21 d8_23 (XT.ii_ne_f c25) ?_
    refine kIC X21 1 d8_26 (by decide) ?_
    refine kGOTO X21 31 d8_27 (by decide) ?_
    exact kRETZ X21 (gEL G) (t := .boolean) hret (by simp) d8_31 (fun ve hve => Or.inl (⟨rfl, c25, rfl⟩)) (by decide)
  · refine kICt X21 30 d8_23 (XT.ii_ne_t c25) (by decide) ?_
    refine kIC X21 0 d8_30 (by decide) ?_
    exact kRETZ X21 (gEL G) (t := .boolean) hret (by simp) d8_31 (fun ve hve => Or.inr (⟨rfl, c25, rfl⟩)) (by decide)
def R_rm168 : Room := { frames := 0, cells := 0, slots := 0, locals := 0 }
theorem rm168 (G : Glob Z a0 iCS vSI) (i0 i1 i2 : Int32) (q0 q1 : Addr) (kp0 kp1 : ClassId) (h0 : Heap) (Z0 : n0 ≤ h0.size) (O0 : Old Z n0 h0) (A_q0 : Arv Z h0 q0 kp0 .char 2 [.int i0, .int i1] (.int 0)) (c_1 : ¬ (255 : Int32) < i1) (c_4 : ¬ i1 < 0) : MetH l Z EL0 n0 N_m_5 method_5_code 6 (some .char) [] R_rm168 #[.int 1, .ref q0, .int 2, .ref q1, .int 1] h0 [] (fun vs v h ve => (v = some (.int i1) ∧ (h0 = h))) := by
  refine MetH.of #[.val (.int 1), .val (.ref q0), .val (.int 2), .val (.ref q1), .val (.int 1), .unset] (plainFor_of_name pn_com_example_tight_calculus_tightcalculus_ReportWordsPinLaw) rfl Z0 (fun p e s m below meth c T0 hret hml hnm hSL hs0 X0 => ?_)
  refine kILn X0 d36_0 rfl ?_
  refine kILn X0 d36_1 rfl ?_
  refine kICf X0 d36_2 (XT.ii_ge_f (by decide)) ?_
  refine kALn X0 d36_5 rfl rfl ?_
  refine kILn X0 d36_6 rfl ?_
  refine kCALD X0 (.int i1) A_q0 (by decide) rfl d36_7 ?_
  refine kIS X0 #[.val (.int 1), .val (.ref q0), .val (.int 2), .val (.ref q1), .val (.int 1), .val (.int i1)] d36_8 rfl ?_
  refine kGOTO X0 53 d36_10 (by decide) ?_
  refine kIL X0 d36_53 rfl ?_
  exact kRETZ X0 (gEL G) (t := .char) hret (by simp) d36_55 (fun ve hve => ⟨(by rw [(own_nc c_1 c_4)]), rfl⟩) (by decide)
def R_rm167 : Room := { frames := 4, cells := 0, slots := 0, locals := 53 }
theorem rm167 (G : Glob Z a0 iCS vSI) (i0 i1 i2 i3 i4 i5 : Int32) (q0 q1 q2 q3 : Addr) (kp0 kp1 kp2 : ClassId) (h0 : Heap) (Z0 : n0 ≤ h0.size) (O0 : Old Z n0 h0) (F_q0_coder : Fld Z h0 q0 "java/lang/String" "coder" "B" (.int 0)) (E_q0 : Exa Z h0 q0 "java/lang/String") (F_q0_value : Fld Z h0 q0 "java/lang/String" "value" "[B" (.ref q3)) (A_q3 : Arv Z h0 q3 kp2 .byte 4 [.int i3, .int i4, .int 32, .int i5] (.int 0)) (c_0 : ¬ (255 : Int32) < i0) (c_3 : ¬ i0 < 0) (c_1 : ¬ (255 : Int32) < i1) (c_4 : ¬ i1 < 0) (c_2 : ¬ (255 : Int32) < i2) (c_5 : ¬ i2 < 0) (A_q1 : Arv Z h0 q1 kp0 .char 2 [.int i0, .int i1] (.int 0)) : MetH l Z EL0 n0 N_m_4 method_4_code 7 (some .boolean) [] R_rm167 #[.ref q0, .int 1, .int 4, .ref q1, .int 2, .ref q2, .int 1] h0 [] (fun vs v h ve => (v = some (.int 1) ∧ ((i4 &&& (255 : Int32)) = i1) ∧ (h0 = h)) ∨ (v = some (.int 0) ∧ (¬ (i4 &&& (255 : Int32)) = i1) ∧ (h0 = h))) := by
  refine MetH.of #[.val (.ref q0), .val (.int 1), .val (.int 4), .val (.ref q1), .val (.int 2), .val (.ref q2), .val (.int 1)] (plainFor_of_name pn_com_example_tight_calculus_tightcalculus_ReportWordsPinLaw) rfl Z0 (fun p e s m below meth c T0 hret hml hnm hSL hs0 X0 => ?_)
  refine kILn X0 d8_0 rfl ?_
  refine kILn X0 d8_1 rfl ?_
  refine kICt X0 7 d8_2 (XT.ii_lt_t (by decide)) (by decide) ?_
  refine kALn X0 d8_7 rfl rfl ?_
  refine kILn X0 d8_8 rfl ?_
  refine kVIRT X0 (gEL G) (argsL := [.int 1]) (rest := []) (wd G 161 rfl) (wd G 162 rfl) (own_nf X0.hZ (own_noinst (wd G 6 rfl))) (wd G 164 rfl) (wd G 163 rfl) (wd G 7 rfl) (wd G 165 rfl) (by decide) E_q0 (gm_ca2 G (1 : Int32) (4 : Int32) i4 (i4 &&& (255 : Int32)) ([.int i3, .int i4, .int 32, .int i5]) q0 q3 kp2 h0 X0.n O0 rfl rfl F_q0_coder E_q0 F_q0_value A_q3 (by decide) (by decide)) all0 (lenOf pd__I_C rfl) rfl 0 rfl (by decide) hml.symm d8_9 (fun v1 T2 h3 vm4 _ w5 q6 C7 C8 X9 => ?_)
  obtain ⟨e11, f12⟩ := q6
  subst e11
  subst f12
  show Go _ _ _ _ _ (mkF _ _ _ [.int (i4 &&& (255 : Int32))])
  refine kILn X9 d8_12 rfl ?_
  refine kALn X9 d8_13 rfl rfl ?_
  refine kIL X9 d8_14 rfl ?_
  refine kAL X9 d8_16 rfl rfl ?_
  refine kIL X9 d8_18 rfl ?_
  refine kSTAT X9 (gEL G) (argsL := [.int 1, .ref q1, .int 2, .ref q2, .int 1]) (rest := [.int (i4 &&& (255 : Int32))]) (wd G 183 rfl) (wd G 184 rfl) (wd G 2 rfl) (wd G 185 rfl) (by decide) (rm168 G i0 i1 i2 q1 q2 kp0 kp1 h0 X9.n O0 A_q1 c_1 c_4) all0 (lenOf pd__I_CI_CI_C rfl) rfl 1 rfl (by decide) hml.symm d8_20 (fun v13 T14 h15 vm16 _ w17 q18 C19 C20 X21 => ?_)
  obtain ⟨e23, f24⟩ := q18
  subst e23
  subst f24
  show Go _ _ _ _ _ (mkF _ _ _ [.int i1, .int (i4 &&& (255 : Int32))])
  by_cases c25 : (i4 &&& (255 : Int32)) = i1
  · refine kICf X21 d8_23 (XT.ii_ne_f c25) ?_
    refine kIC X21 1 d8_26 (by decide) ?_
    refine kGOTO X21 31 d8_27 (by decide) ?_
    exact kRETZ X21 (gEL G) (t := .boolean) hret (by simp) d8_31 (fun ve hve => Or.inl (⟨rfl, c25, rfl⟩)) (by decide)
  · refine kICt X21 30 d8_23 (XT.ii_ne_t c25) (by decide) ?_
    refine kIC X21 0 d8_30 (by decide) ?_
    exact kRETZ X21 (gEL G) (t := .boolean) hret (by simp) d8_31 (fun ve hve => Or.inr (⟨rfl, c25, rfl⟩)) (by decide)
def R_rm170 : Room := { frames := 0, cells := 0, slots := 0, locals := 0 }
theorem rm170 (G : Glob Z a0 iCS vSI) (i0 i1 i2 : Int32) (q0 q1 : Addr) (kp0 kp1 : ClassId) (h0 : Heap) (Z0 : n0 ≤ h0.size) (O0 : Old Z n0 h0)  : MetH l Z EL0 n0 N_m_5 method_5_code 6 (some .char) [] R_rm170 #[.int 2, .ref q0, .int 2, .ref q1, .int 1] h0 [] (fun vs v h ve => (v = some (.int 32) ∧ (h0 = h))) := by
  refine MetH.of #[.val (.int 2), .val (.ref q0), .val (.int 2), .val (.ref q1), .val (.int 1), .unset] (plainFor_of_name pn_com_example_tight_calculus_tightcalculus_ReportWordsPinLaw) rfl Z0 (fun p e s m below meth c T0 hret hml hnm hSL hs0 X0 => ?_)
  refine kILn X0 d36_0 rfl ?_
  refine kILn X0 d36_1 rfl ?_
  refine kICt X0 13 d36_2 (XT.ii_ge_t (by decide)) (by decide) ?_
  refine kILn X0 d36_13 rfl ?_
  refine kIFf X0 d36_14 (XT.i0_le_f (by decide)) ?_
  refine kIL X0 d36_17 rfl ?_
  refine kIFf X0 d36_19 (XT.i0_le_f (by decide)) ?_
  refine kILn X0 d36_22 rfl ?_
  refine kILn X0 d36_23 rfl ?_
  refine kICf X0 d36_24 (XT.ii_ne_f (by decide)) ?_
  refine kBI X0 32 d36_27 (by decide) ?_
  refine kIS X0 #[.val (.int 2), .val (.ref q0), .val (.int 2), .val (.ref q1), .val (.int 1), .val (.int 32)] d36_29 rfl ?_
  refine kGOTO X0 53 d36_31 (by decide) ?_
  refine kIL X0 d36_53 rfl ?_
  exact kRETZ X0 (gEL G) (t := .char) hret (by simp) d36_55 (fun ve hve => ⟨rfl, rfl⟩) (by decide)
def R_rm169 : Room := { frames := 4, cells := 0, slots := 0, locals := 53 }
theorem rm169 (G : Glob Z a0 iCS vSI) (i0 i1 i2 i3 i4 i5 : Int32) (q0 q1 q2 q3 : Addr) (kp0 kp1 kp2 : ClassId) (h0 : Heap) (Z0 : n0 ≤ h0.size) (O0 : Old Z n0 h0) (F_q0_coder : Fld Z h0 q0 "java/lang/String" "coder" "B" (.int 0)) (E_q0 : Exa Z h0 q0 "java/lang/String") (F_q0_value : Fld Z h0 q0 "java/lang/String" "value" "[B" (.ref q3)) (A_q3 : Arv Z h0 q3 kp2 .byte 4 [.int i3, .int i4, .int 32, .int i5] (.int 0)) (c_0 : ¬ (255 : Int32) < i0) (c_3 : ¬ i0 < 0) (c_1 : ¬ (255 : Int32) < i1) (c_4 : ¬ i1 < 0) (c_2 : ¬ (255 : Int32) < i2) (c_5 : ¬ i2 < 0) : MetH l Z EL0 n0 N_m_4 method_4_code 7 (some .boolean) [] R_rm169 #[.ref q0, .int 2, .int 4, .ref q1, .int 2, .ref q2, .int 1] h0 [] (fun vs v h ve => (v = some (.int 1) ∧ (h0 = h))) := by
  refine MetH.of #[.val (.ref q0), .val (.int 2), .val (.int 4), .val (.ref q1), .val (.int 2), .val (.ref q2), .val (.int 1)] (plainFor_of_name pn_com_example_tight_calculus_tightcalculus_ReportWordsPinLaw) rfl Z0 (fun p e s m below meth c T0 hret hml hnm hSL hs0 X0 => ?_)
  refine kILn X0 d8_0 rfl ?_
  refine kILn X0 d8_1 rfl ?_
  refine kICt X0 7 d8_2 (XT.ii_lt_t (by decide)) (by decide) ?_
  refine kALn X0 d8_7 rfl rfl ?_
  refine kILn X0 d8_8 rfl ?_
  refine kVIRT X0 (gEL G) (argsL := [.int 2]) (rest := []) (wd G 161 rfl) (wd G 162 rfl) (own_nf X0.hZ (own_noinst (wd G 6 rfl))) (wd G 164 rfl) (wd G 163 rfl) (wd G 7 rfl) (wd G 165 rfl) (by decide) E_q0 (gm_ca2 G (2 : Int32) (4 : Int32) (32 : Int32) (32 : Int32) ([.int i3, .int i4, .int 32, .int i5]) q0 q3 kp2 h0 X0.n O0 rfl (by decide) F_q0_coder E_q0 F_q0_value A_q3 (by decide) (by decide)) all0 (lenOf pd__I_C rfl) rfl 0 rfl (by decide) hml.symm d8_9 (fun v1 T2 h3 vm4 _ w5 q6 C7 C8 X9 => ?_)
  obtain ⟨e11, f12⟩ := q6
  subst e11
  subst f12
  show Go _ _ _ _ _ (mkF _ _ _ [.int 32])
  refine kILn X9 d8_12 rfl ?_
  refine kALn X9 d8_13 rfl rfl ?_
  refine kIL X9 d8_14 rfl ?_
  refine kAL X9 d8_16 rfl rfl ?_
  refine kIL X9 d8_18 rfl ?_
  refine kSTAT X9 (gEL G) (argsL := [.int 2, .ref q1, .int 2, .ref q2, .int 1]) (rest := [.int 32]) (wd G 183 rfl) (wd G 184 rfl) (wd G 2 rfl) (wd G 185 rfl) (by decide) (rm170 G i0 i1 i2 q1 q2 kp0 kp1 h0 X9.n O0 ) all0 (lenOf pd__I_CI_CI_C rfl) rfl 1 rfl (by decide) hml.symm d8_20 (fun v13 T14 h15 vm16 _ w17 q18 C19 C20 X21 => ?_)
  obtain ⟨e23, f24⟩ := q18
  subst e23
  subst f24
  show Go _ _ _ _ _ (mkF _ _ _ [.int 32, .int 32])
  refine kICf X21 d8_23 (XT.ii_ne_f (by decide)) ?_
  refine kIC X21 1 d8_26 (by decide) ?_
  refine kGOTO X21 31 d8_27 (by decide) ?_
  exact kRETZ X21 (gEL G) (t := .boolean) hret (by simp) d8_31 (fun ve hve => ⟨rfl, rfl⟩) (by decide)
def R_rm172 : Room := { frames := 0, cells := 0, slots := 0, locals := 0 }
theorem rm172 (G : Glob Z a0 iCS vSI) (i0 i1 i2 : Int32) (q0 q1 : Addr) (kp0 kp1 : ClassId) (h0 : Heap) (Z0 : n0 ≤ h0.size) (O0 : Old Z n0 h0) (A_q1 : Arv Z h0 q1 kp1 .char 1 [.int i2] (.int 0)) (c_2 : ¬ (255 : Int32) < i2) (c_5 : ¬ i2 < 0) : MetH l Z EL0 n0 N_m_5 method_5_code 6 (some .char) [] R_rm172 #[.int 3, .ref q0, .int 2, .ref q1, .int 1] h0 [] (fun vs v h ve => (v = some (.int i2) ∧ (h0 = h))) := by
  refine MetH.of #[.val (.int 3), .val (.ref q0), .val (.int 2), .val (.ref q1), .val (.int 1), .unset] (plainFor_of_name pn_com_example_tight_calculus_tightcalculus_ReportWordsPinLaw) rfl Z0 (fun p e s m below meth c T0 hret hml hnm hSL hs0 X0 => ?_)
  refine kILn X0 d36_0 rfl ?_
  refine kILn X0 d36_1 rfl ?_
  refine kICt X0 13 d36_2 (XT.ii_ge_t (by decide)) (by decide) ?_
  refine kILn X0 d36_13 rfl ?_
  refine kIFf X0 d36_14 (XT.i0_le_f (by decide)) ?_
  refine kIL X0 d36_17 rfl ?_
  refine kIFf X0 d36_19 (XT.i0_le_f (by decide)) ?_
  refine kILn X0 d36_22 rfl ?_
  refine kILn X0 d36_23 rfl ?_
  refine kICt X0 34 d36_24 (XT.ii_ne_t (by decide)) (by decide) ?_
  refine kALn X0 d36_34 rfl rfl ?_
  refine kILn X0 d36_35 rfl ?_
  refine kILn X0 d36_36 rfl ?_
  refine kISUB X0 1 d36_37 (by decide) ?_
  refine kIC X0 1 d36_38 (by decide) ?_
  refine kISUB X0 0 d36_39 (by decide) ?_
  refine kCALD X0 (.int i2) A_q1 (by decide) rfl d36_40 ?_
  refine kIS X0 #[.val (.int 3), .val (.ref q0), .val (.int 2), .val (.ref q1), .val (.int 1), .val (.int i2)] d36_41 rfl ?_
  refine kGOTO X0 53 d36_43 (by decide) ?_
  refine kIL X0 d36_53 rfl ?_
  exact kRETZ X0 (gEL G) (t := .char) hret (by simp) d36_55 (fun ve hve => ⟨(by rw [(own_nc c_2 c_5)]), rfl⟩) (by decide)
def R_rm171 : Room := { frames := 4, cells := 0, slots := 0, locals := 53 }
theorem rm171 (G : Glob Z a0 iCS vSI) (i0 i1 i2 i3 i4 i5 : Int32) (q0 q1 q2 q3 : Addr) (kp0 kp1 kp2 : ClassId) (h0 : Heap) (Z0 : n0 ≤ h0.size) (O0 : Old Z n0 h0) (F_q0_coder : Fld Z h0 q0 "java/lang/String" "coder" "B" (.int 0)) (E_q0 : Exa Z h0 q0 "java/lang/String") (F_q0_value : Fld Z h0 q0 "java/lang/String" "value" "[B" (.ref q3)) (A_q3 : Arv Z h0 q3 kp2 .byte 4 [.int i3, .int i4, .int 32, .int i5] (.int 0)) (c_0 : ¬ (255 : Int32) < i0) (c_3 : ¬ i0 < 0) (c_1 : ¬ (255 : Int32) < i1) (c_4 : ¬ i1 < 0) (c_2 : ¬ (255 : Int32) < i2) (c_5 : ¬ i2 < 0) (A_q2 : Arv Z h0 q2 kp1 .char 1 [.int i2] (.int 0)) : MetH l Z EL0 n0 N_m_4 method_4_code 7 (some .boolean) [] R_rm171 #[.ref q0, .int 3, .int 4, .ref q1, .int 2, .ref q2, .int 1] h0 [] (fun vs v h ve => (v = some (.int 1) ∧ ((i5 &&& (255 : Int32)) = i2) ∧ (h0 = h)) ∨ (v = some (.int 0) ∧ (¬ (i5 &&& (255 : Int32)) = i2) ∧ (h0 = h))) := by
  refine MetH.of #[.val (.ref q0), .val (.int 3), .val (.int 4), .val (.ref q1), .val (.int 2), .val (.ref q2), .val (.int 1)] (plainFor_of_name pn_com_example_tight_calculus_tightcalculus_ReportWordsPinLaw) rfl Z0 (fun p e s m below meth c T0 hret hml hnm hSL hs0 X0 => ?_)
  refine kILn X0 d8_0 rfl ?_
  refine kILn X0 d8_1 rfl ?_
  refine kICt X0 7 d8_2 (XT.ii_lt_t (by decide)) (by decide) ?_
  refine kALn X0 d8_7 rfl rfl ?_
  refine kILn X0 d8_8 rfl ?_
  refine kVIRT X0 (gEL G) (argsL := [.int 3]) (rest := []) (wd G 161 rfl) (wd G 162 rfl) (own_nf X0.hZ (own_noinst (wd G 6 rfl))) (wd G 164 rfl) (wd G 163 rfl) (wd G 7 rfl) (wd G 165 rfl) (by decide) E_q0 (gm_ca2 G (3 : Int32) (4 : Int32) i5 (i5 &&& (255 : Int32)) ([.int i3, .int i4, .int 32, .int i5]) q0 q3 kp2 h0 X0.n O0 rfl rfl F_q0_coder E_q0 F_q0_value A_q3 (by decide) (by decide)) all0 (lenOf pd__I_C rfl) rfl 0 rfl (by decide) hml.symm d8_9 (fun v1 T2 h3 vm4 _ w5 q6 C7 C8 X9 => ?_)
  obtain ⟨e11, f12⟩ := q6
  subst e11
  subst f12
  show Go _ _ _ _ _ (mkF _ _ _ [.int (i5 &&& (255 : Int32))])
  refine kILn X9 d8_12 rfl ?_
  refine kALn X9 d8_13 rfl rfl ?_
  refine kIL X9 d8_14 rfl ?_
  refine kAL X9 d8_16 rfl rfl ?_
  refine kIL X9 d8_18 rfl ?_
  refine kSTAT X9 (gEL G) (argsL := [.int 3, .ref q1, .int 2, .ref q2, .int 1]) (rest := [.int (i5 &&& (255 : Int32))]) (wd G 183 rfl) (wd G 184 rfl) (wd G 2 rfl) (wd G 185 rfl) (by decide) (rm172 G i0 i1 i2 q1 q2 kp0 kp1 h0 X9.n O0 A_q2 c_2 c_5) all0 (lenOf pd__I_CI_CI_C rfl) rfl 1 rfl (by decide) hml.symm d8_20 (fun v13 T14 h15 vm16 _ w17 q18 C19 C20 X21 => ?_)
  obtain ⟨e23, f24⟩ := q18
  subst e23
  subst f24
  show Go _ _ _ _ _ (mkF _ _ _ [.int i2, .int (i5 &&& (255 : Int32))])
  by_cases c25 : (i5 &&& (255 : Int32)) = i2
  · refine kICf X21 d8_23 (XT.ii_ne_f c25) ?_
    refine kIC X21 1 d8_26 (by decide) ?_
    refine kGOTO X21 31 d8_27 (by decide) ?_
    exact kRETZ X21 (gEL G) (t := .boolean) hret (by simp) d8_31 (fun ve hve => Or.inl (⟨rfl, c25, rfl⟩)) (by decide)
  · refine kICt X21 30 d8_23 (XT.ii_ne_t c25) (by decide) ?_
    refine kIC X21 0 d8_30 (by decide) ?_
    exact kRETZ X21 (gEL G) (t := .boolean) hret (by simp) d8_31 (fun ve hve => Or.inr (⟨rfl, c25, rfl⟩)) (by decide)
def R_rm173 : Room := { frames := 0, cells := 0, slots := 0, locals := 0 }
theorem rm173 (G : Glob Z a0 iCS vSI) (i0 i1 i2 i3 i4 i5 : Int32) (q0 q1 q2 q3 : Addr) (kp0 kp1 kp2 : ClassId) (h0 : Heap) (Z0 : n0 ≤ h0.size) (O0 : Old Z n0 h0)  : MetH l Z EL0 n0 N_m_4 method_4_code 7 (some .boolean) [] R_rm173 #[.ref q0, .int 4, .int 4, .ref q1, .int 2, .ref q2, .int 1] h0 [] (fun vs v h ve => (v = some (.int 1) ∧ (h0 = h))) := by
  refine MetH.of #[.val (.ref q0), .val (.int 4), .val (.int 4), .val (.ref q1), .val (.int 2), .val (.ref q2), .val (.int 1)] (plainFor_of_name pn_com_example_tight_calculus_tightcalculus_ReportWordsPinLaw) rfl Z0 (fun p e s m below meth c T0 hret hml hnm hSL hs0 X0 => ?_)
  refine kILn X0 d8_0 rfl ?_
  refine kILn X0 d8_1 rfl ?_
  refine kICf X0 d8_2 (XT.ii_lt_f (by decide)) ?_
  refine kIC X0 1 d8_5 (by decide) ?_
  exact kRETZ X0 (gEL G) (t := .boolean) hret (by simp) d8_6 (fun ve hve => ⟨rfl, rfl⟩) (by decide)
def R_rm177 : Room := { frames := 0, cells := 0, slots := 0, locals := 0 }
theorem rm177 (G : Glob Z a0 iCS vSI) (i0 i1 : Int32) (q0 q1 : Addr) (kp0 : ClassId) (h0 : Heap) (Z0 : n0 ≤ h0.size) (O0 : Old Z n0 h0) (F_q0_value : Fld Z h0 q0 "java/lang/AbstractStringBuilder" "value" "[B" (.ref q1)) (A_q1 : Arv Z h0 q1 kp0 .byte 16 [.int i0, .int i1, .int 32, .int 0, .int 0, .int 0, .int 0, .int 0, .int 0, .int 0, .int 0, .int 0, .int 0, .int 0, .int 0, .int 0] (.int 0)) (F_q0_coder : Fld Z h0 q0 "java/lang/AbstractStringBuilder" "coder" "B" (.int 0)) : MetH l Z EL0 n0 N_jdk_68_m_9 jdk_68_method_9_code 3 none [] R_rm177 #[.ref q0, .int 5] h0 [] (fun vs v h ve => (v = none ∧ (h0 = h))) := by
  refine MetH.of #[.val (.ref q0), .val (.int 5), .unset] (plainFor_of_name pn_java_lang_AbstractStringBuilder) rfl Z0 (fun p e s m below meth c T0 hret hml hnm hSL hs0 X0 => ?_)
  refine kALn X0 d16_0 rfl rfl ?_
  refine kGETF X0 (wd G 73 rfl) Via.refl F_q0_value d16_1 (fun T1 X2 => ?_)
  refine kLEN X2 A_q1 d16_4 ?_
  refine kALn X2 d16_5 rfl rfl ?_
  refine kGETF X2 (wd G 75 rfl) Via.refl F_q0_coder d16_6 (fun T3 X4 => ?_)
  refine kISHR X4 16 d16_9 (by decide) ?_
  refine kISn X4 #[.val (.ref q0), .val (.int 5), .val (.int 16)] d16_10 rfl ?_
  refine kILn X4 d16_11 rfl ?_
  refine kILn X4 d16_12 rfl ?_
  refine kISUB X4 (-11) d16_13 (by decide) ?_
  refine kIFt X4 38 d16_14 (XT.i0_le_t (by decide)) (by decide) ?_
  exact kRETV X4 (gEL G) hret d16_38 (fun ve hve => ⟨rfl, rfl⟩) (by decide)
def R_rm179 : Room := { frames := 1, cells := 0, slots := 0, locals := 13 }
theorem rm179 (G : Glob Z a0 iCS vSI) (i0 i1 i2 i3 : Int32) (q0 q1 q2 q3 : Addr) (kp0 kp1 : ClassId) (h0 : Heap) (Z0 : n0 ≤ h0.size) (O0 : Old Z n0 h0) (F_q0_coder : Fld Z h0 q0 "java/lang/AbstractStringBuilder" "coder" "B" (.int 0)) (F_q1_coder : Fld Z h0 q1 "java/lang/String" "coder" "B" (.int 0)) (E_q1 : Exa Z h0 q1 "java/lang/String") : MetH l Z EL0 n0 N_jdk_68_m_71 jdk_68_method_71_code 2 none [] R_rm179 #[.ref q0, .ref q1] h0 [] (fun vs v h ve => (v = none ∧ (h0 = h))) := by
  refine MetH.of #[.val (.ref q0), .val (.ref q1)] (plainFor_of_name pn_java_lang_AbstractStringBuilder) rfl Z0 (fun p e s m below meth c T0 hret hml hnm hSL hs0 X0 => ?_)
  refine kGETS X0 (wd G 72 rfl) Via.refl (Sta.ext O0.2 (S_CS G)) d18_0 (fun T1 X2 => ?_)
  refine kIFf X2 d18_3 (XT.i0_eq_f (n_CS G)) ?_
  refine kALn X2 d18_6 rfl rfl ?_
  refine kGETF X2 (wd G 75 rfl) Via.refl F_q0_coder d18_7 (fun T3 X4 => ?_)
  refine kALn X4 d18_10 rfl rfl ?_
  refine kVIRT X4 (gEL G) (argsL := []) (rest := [.int 0]) (wd G 105 rfl) (wd G 41 rfl) (own_nf X4.hZ (own_noinst (wd G 6 rfl))) (wd G 43 rfl) (wd G 42 rfl) (wd G 7 rfl) (wd G 44 rfl) (by decide) E_q1 (rm37 G i2 i3 q1 q3 kp1 h0 X4.n O0 F_q1_coder) all0 (lenOf pd___B rfl) rfl 1 rfl (by decide) hml.symm d18_11 (fun v5 T6 h7 vm8 _ w9 q10 C11 C12 X13 => ?_)
  obtain ⟨e15, f16⟩ := q10
  subst e15
  subst f16
  show Go _ _ _ _ _ (mkF _ _ _ [.int 0, .int 0])
  refine kICt X13 21 d18_14 (XT.ii_eq_t (by decide)) (by decide) ?_
  exact kRETV X13 (gEL G) hret d18_21 (fun ve hve => ⟨rfl, rfl⟩) (by decide)
def R_rm180 : Room := { frames := 1, cells := 0, slots := 0, locals := 18 }
theorem rm180 (G : Glob Z a0 iCS vSI) (i0 i1 i2 i3 : Int32) (q0 q1 q2 : Addr) (kp0 kp1 : ClassId) (h0 : Heap) (Z0 : n0 ≤ h0.size) (O0 : Old Z n0 h0) (F_q0_coder : Fld Z h0 q0 "java/lang/String" "coder" "B" (.int 0)) (E_q0 : Exa Z h0 q0 "java/lang/String") (F_q0_value : Fld Z h0 q0 "java/lang/String" "value" "[B" (.ref q2)) (A_q2 : Arv Z h0 q2 kp1 .byte 2 [.int i2, .int i3] (.int 0)) (A_q1 : Arv Z h0 q1 kp0 .byte 16 [.int i0, .int i1, .int 32, .int 0, .int 0, .int 0, .int 0, .int 0, .int 0, .int 0, .int 0, .int 0, .int 0, .int 0, .int 0, .int 0] (.int 0)) (g_q1 : n0 ≤ q1) : MetH l Z EL0 n0 N_jdk_42_m_147 jdk_42_method_147_code 4 none [] R_rm180 #[.ref q0, .ref q1, .int 3, .int 0] h0 [q1] (fun vs v h ve => (v = none ∧ (Keep h0 h [q1]) ∧ (Arv Z h q1 kp0 .byte 16 [.int i0, .int i1, .int 32, .int i2, .int i3, .int 0, .int 0, .int 0, .int 0, .int 0, .int 0, .int 0, .int 0, .int 0, .int 0, .int 0] (.int 0)))) := by
  refine MetH.of #[.val (.ref q0), .val (.ref q1), .val (.int 3), .val (.int 0)] (plainFor_of_name pn_java_lang_String) rfl Z0 (fun p e s m below meth c T0 hret hml hnm hSL hs0 X0 => ?_)
  have S_q1 := hSL q1 (List.mem_of_getElem? (i := 0) rfl)
  refine kALn X0 d19_0 rfl rfl ?_
  refine kVIRT X0 (gEL G) (argsL := []) (rest := []) (wd G 40 rfl) (wd G 41 rfl) (own_nf X0.hZ (own_noinst (wd G 6 rfl))) (wd G 43 rfl) (wd G 42 rfl) (wd G 7 rfl) (wd G 44 rfl) (by decide) E_q0 (rm37 G i2 i3 q0 q2 kp1 h0 X0.n O0 F_q0_coder) all0 (lenOf pd___B rfl) rfl 0 rfl (by decide) hml.symm d19_1 (fun v1 T2 h3 vm4 _ w5 q6 C7 C8 X9 => ?_)
  obtain ⟨e11, f12⟩ := q6
  subst e11
  subst f12
  show Go _ _ _ _ _ (mkF _ _ _ [.int 0])
  refine kILn X9 d19_4 rfl ?_
  refine kICf X9 d19_5 (XT.ii_ne_f (by decide)) ?_
  refine kALn X9 d19_8 rfl rfl ?_
  refine kGETF X9 (wd G 24 rfl) Via.refl F_q0_value d19_9 (fun T13 X14 => ?_)
  refine kIC X14 0 d19_12 (by decide) ?_
  refine kALn X14 d19_13 rfl rfl ?_
  refine kILn X14 d19_14 rfl ?_
  refine kILn X14 d19_15 rfl ?_
  refine kISHL X14 3 d19_16 (by decide) ?_
  refine kALn X14 d19_17 rfl rfl ?_
  refine kGETF X14 (wd G 24 rfl) Via.refl F_q0_value d19_18 (fun T15 X16 => ?_)
  refine kLEN X16 A_q2 d19_21 ?_
  have f17 := (CHr.safe C8 (A_q1.lt) S_q1)
  refine kCPA X16 (wd G 111 rfl) (wd G 114 rfl) (wd G 112 rfl) (wd G 113 rfl) A_q2 A_q1 (Or.inl ⟨rfl, rfl⟩) (us := [.int i2, .int i3]) (by decide) rfl (by show 5 ≤ 16; decide) g_q1 f17 hml.symm d19_22 (by decide) 0 (Nat.le_of_eq rfl) (by decide) (fun T18 h19 L21 K22 C23 f24 X20 => ?_)
  have f25 : Arv Z h19 q1 kp0 .byte 16 [.int i0, .int i1, .int 32, .int i2, .int i3, .int 0, .int 0, .int 0, .int 0, .int 0, .int 0, .int 0, .int 0, .int 0, .int 0, .int 0] (.int 0) := f24
  refine kGOTO X20 43 d19_25 (by decide) ?_
  have K26 : Keep h0 h19 [q1] := (Keep.trans (Keep.refl h0 [q1]) K22 (allS (Or.inl (List.mem_of_getElem? (i := 0) rfl)) all0))
  exact kRETV X20 (gEL G) hret d19_43 (fun ve hve => ⟨rfl, K26, f25⟩) (by decide)
def R_rm178 : Room := { frames := 2, cells := 0, slots := 0, locals := 33 }
theorem rm178 (G : Glob Z a0 iCS vSI) (i0 i1 i2 i3 : Int32) (q0 q1 q2 q3 : Addr) (kp0 kp1 : ClassId) (h0 : Heap) (Z0 : n0 ≤ h0.size) (O0 : Old Z n0 h0) (F_q0_coder : Fld Z h0 q0 "java/lang/AbstractStringBuilder" "coder" "B" (.int 0)) (F_q1_coder : Fld Z h0 q1 "java/lang/String" "coder" "B" (.int 0)) (E_q1 : Exa Z h0 q1 "java/lang/String") (E_q0 : Exa Z h0 q0 "java/lang/StringBuilder") (F_q0_value : Fld Z h0 q0 "java/lang/AbstractStringBuilder" "value" "[B" (.ref q2)) (F_q1_value : Fld Z h0 q1 "java/lang/String" "value" "[B" (.ref q3)) (A_q3 : Arv Z h0 q3 kp1 .byte 2 [.int i2, .int i3] (.int 0)) (A_q2 : Arv Z h0 q2 kp0 .byte 16 [.int i0, .int i1, .int 32, .int 0, .int 0, .int 0, .int 0, .int 0, .int 0, .int 0, .int 0, .int 0, .int 0, .int 0, .int 0, .int 0] (.int 0)) (g_q2 : n0 ≤ q2) : MetH l Z EL0 n0 N_jdk_68_m_73 jdk_68_method_73_code 3 none [] R_rm178 #[.ref q0, .int 3, .ref q1] h0 [q2] (fun vs v h ve => (v = none ∧ (Keep h0 h [q2]) ∧ (Arv Z h q2 kp0 .byte 16 [.int i0, .int i1, .int 32, .int i2, .int i3, .int 0, .int 0, .int 0, .int 0, .int 0, .int 0, .int 0, .int 0, .int 0, .int 0, .int 0] (.int 0)))) := by
  refine MetH.of #[.val (.ref q0), .val (.int 3), .val (.ref q1)] (plainFor_of_name pn_java_lang_AbstractStringBuilder) rfl Z0 (fun p e s m below meth c T0 hret hml hnm hSL hs0 X0 => ?_)
  have S_q2 := hSL q2 (List.mem_of_getElem? (i := 0) rfl)
  refine kALn X0 d17_0 rfl rfl ?_
  refine kALn X0 d17_1 rfl rfl ?_
  refine kVIRT X0 (gEL G) (argsL := [.ref q1]) (rest := []) (wd G 100 rfl) (own_decl (wd G 101 rfl) (wd G 104 rfl)) (own_nf X0.hZ (own_noface (wd G 93 rfl) rfl)) (wd G 103 rfl) (wd G 101 rfl) (wd G 69 rfl) (wd G 104 rfl) (by decide) E_q0 (rm179 G i0 i1 i2 i3 q0 q1 q2 q3 kp0 kp1 h0 X0.n O0 F_q0_coder F_q1_coder E_q1) all0 (lenOf pd__Ljava_lang_String__V rfl) rfl 0 rfl (by decide) hml.symm d17_2 (fun v1 T2 h3 vm4 _ w5 q6 C7 C8 X9 => ?_)
  obtain ⟨e11, f12⟩ := q6
  subst e11
  subst f12
  show Go _ _ _ _ _ (mkF _ _ _ [])
  refine kALn X9 d17_5 rfl rfl ?_
  refine kALn X9 d17_6 rfl rfl ?_
  refine kGETF X9 (wd G 73 rfl) Via.refl F_q0_value d17_7 (fun T13 X14 => ?_)
  refine kILn X14 d17_10 rfl ?_
  refine kALn X14 d17_11 rfl rfl ?_
  refine kGETF X14 (wd G 75 rfl) Via.refl F_q0_coder d17_12 (fun T15 X16 => ?_)
  have f26 := (CHr.safe C8 (A_q2.lt) S_q2)
  refine kVIRT X16 (gEL G) (argsL := [.ref q2, .int 3, .int 0]) (rest := []) (wd G 106 rfl) (wd G 107 rfl) (own_nf X16.hZ (own_noinst (wd G 6 rfl))) (wd G 109 rfl) (wd G 108 rfl) (wd G 7 rfl) (wd G 110 rfl) (by decide) E_q1 (rm180 G i0 i1 i2 i3 q1 q2 q3 kp0 kp1 h0 X16.n O0 F_q1_coder E_q1 F_q1_value A_q3 A_q2 g_q2) (allS ⟨(A_q2.lt), f26⟩ all0) (lenOf pd___BIB_V rfl) rfl 0 rfl (by decide) hml.symm d17_15 (fun v17 T18 h19 vm20 _ w21 q22 C23 C24 X25 => ?_)
  obtain ⟨e28, f29, f30⟩ := q22
  subst e28
  show Go _ _ _ _ _ (mkF _ _ _ [])
  have K31 : Keep h0 h19 [q2] := (Keep.trans (Keep.refl h0 [q2]) f29 (allS (Or.inl (List.mem_of_getElem? (i := 0) rfl)) all0))
  exact kRETV X25 (gEL G) hret d17_18 (fun ve hve => ⟨rfl, K31, f30⟩) (by decide)
def R_rm176 : Room := { frames := 3, cells := 0, slots := 0, locals := 47 }
theorem rm176 (G : Glob Z a0 iCS vSI) (i0 i1 i2 i3 : Int32) (q0 q1 q2 q3 : Addr) (kp0 kp1 : ClassId) (h0 : Heap) (Z0 : n0 ≤ h0.size) (O0 : Old Z n0 h0) (F_q1_value : Fld Z h0 q1 "java/lang/String" "value" "[B" (.ref q3)) (A_q3 : Arv Z h0 q3 kp1 .byte 2 [.int i2, .int i3] (.int 0)) (F_q1_coder : Fld Z h0 q1 "java/lang/String" "coder" "B" (.int 0)) (E_q1 : Exa Z h0 q1 "java/lang/String") (F_q0_count : Fld Z h0 q0 "java/lang/AbstractStringBuilder" "count" "I" (.int 3)) (F_q0_value : Fld Z h0 q0 "java/lang/AbstractStringBuilder" "value" "[B" (.ref q2)) (A_q2 : Arv Z h0 q2 kp0 .byte 16 [.int i0, .int i1, .int 32, .int 0, .int 0, .int 0, .int 0, .int 0, .int 0, .int 0, .int 0, .int 0, .int 0, .int 0, .int 0, .int 0] (.int 0)) (F_q0_coder : Fld Z h0 q0 "java/lang/AbstractStringBuilder" "coder" "B" (.int 0)) (E_q0 : Exa Z h0 q0 "java/lang/StringBuilder") (d_q0_q2 : q0 ≠ q2) (g_q0 : n0 ≤ q0) (g_q2 : n0 ≤ q2) : MetH l Z EL0 n0 N_jdk_68_m_22 jdk_68_method_22_code 3 (some (.object "java/lang/AbstractStringBuilder")) [] R_rm176 #[.ref q0, .ref q1] h0 [q2] (fun vs v h ve => (v = some (.ref q0) ∧ (Keep h0 h [q2, q0]) ∧ (Arv Z h q2 kp0 .byte 16 [.int i0, .int i1, .int 32, .int i2, .int i3, .int 0, .int 0, .int 0, .int 0, .int 0, .int 0, .int 0, .int 0, .int 0, .int 0, .int 0] (.int 0)) ∧ (Fld Z h q0 "java/lang/AbstractStringBuilder" "coder" "B" (.int 0)) ∧ (Fld Z h q0 "java/lang/AbstractStringBuilder" "count" "I" (.int 5)) ∧ (Fld Z h q0 "java/lang/AbstractStringBuilder" "value" "[B" (.ref q2)))) := by
  refine MetH.of #[.val (.ref q0), .val (.ref q1), .unset] (plainFor_of_name pn_java_lang_AbstractStringBuilder) rfl Z0 (fun p e s m below meth c T0 hret hml hnm hSL hs0 X0 => ?_)
  have S_q2 := hSL q2 (List.mem_of_getElem? (i := 0) rfl)
  refine kALn X0 d15_0 rfl rfl ?_
  refine kNNt X0 9 d15_1 (by decide) ?_
  refine kALn X0 d15_9 rfl rfl ?_
  refine kVIRT X0 (gEL G) (argsL := []) (rest := []) (wd G 87 rfl) (wd G 36 rfl) (own_nf X0.hZ (own_noinst (wd G 6 rfl))) (wd G 38 rfl) (wd G 37 rfl) (wd G 7 rfl) (wd G 39 rfl) (by decide) E_q1 (rm36 G i2 i3 q1 q3 kp1 h0 X0.n O0 F_q1_value A_q3 F_q1_coder E_q1) all0 (lenOf pd___I rfl) rfl 0 rfl (by decide) hml.symm d15_10 (fun v1 T2 h3 vm4 _ w5 q6 C7 C8 X9 => ?_)
  obtain ⟨e11, f12⟩ := q6
  subst e11
  subst f12
  show Go _ _ _ _ _ (mkF _ _ _ [.int 2])
  refine kISn X9 #[.val (.ref q0), .val (.ref q1), .val (.int 2)] d15_13 rfl ?_
  refine kALn X9 d15_14 rfl rfl ?_
  refine kALn X9 d15_15 rfl rfl ?_
  refine kGETF X9 (wd G 88 rfl) Via.refl F_q0_count d15_16 (fun T13 X14 => ?_)
  refine kILn X14 d15_19 rfl ?_
  refine kIADD X14 5 d15_20 (by decide) ?_
  refine kVIRT X14 (gEL G) (argsL := [.int 5]) (rest := []) (wd G 90 rfl) (own_decl (wd G 91 rfl) (wd G 94 rfl)) (own_nf X14.hZ (own_noface (wd G 93 rfl) rfl)) (wd G 93 rfl) (wd G 91 rfl) (wd G 69 rfl) (wd G 94 rfl) (by decide) E_q0 (rm177 G i0 i1 q0 q2 kp0 h0 X14.n O0 F_q0_value A_q2 F_q0_coder) all0 (lenOf pd__I_V rfl) rfl 0 rfl (by decide) hml.symm d15_21 (fun v15 T16 h17 vm18 _ w19 q20 C21 C22 X23 => ?_)
  obtain ⟨e25, f26⟩ := q20
  subst e25
  subst f26
  show Go _ _ _ _ _ (mkF _ _ _ [])
  refine kALn X23 d15_24 rfl rfl ?_
  refine kALn X23 d15_25 rfl rfl ?_
  refine kGETF X23 (wd G 88 rfl) Via.refl F_q0_count d15_26 (fun T27 X28 => ?_)
  refine kALn X28 d15_29 rfl rfl ?_
  have f38 := (CHr.safe C22 (A_q2.lt) (CHr.safe C8 (A_q2.lt) S_q2))
  refine kVIRT X28 (gEL G) (argsL := [.int 3, .ref q1]) (rest := []) (wd G 95 rfl) (own_decl (wd G 96 rfl) (wd G 99 rfl)) (own_nf X28.hZ (own_noface (wd G 93 rfl) rfl)) (wd G 98 rfl) (wd G 96 rfl) (wd G 69 rfl) (wd G 99 rfl) (by decide) E_q0 (rm178 G i0 i1 i2 i3 q0 q1 q2 q3 kp0 kp1 h0 X28.n O0 F_q0_coder F_q1_coder E_q1 E_q0 F_q0_value F_q1_value A_q3 A_q2 g_q2) (allS ⟨(A_q2.lt), f38⟩ all0) (lenOf pd__ILjava_lang_String__V rfl) rfl 0 rfl (by decide) hml.symm d15_30 (fun v29 T30 h31 vm32 _ w33 q34 C35 C36 X37 => ?_)
  obtain ⟨e40, f41, f42⟩ := q34
  subst e40
  show Go _ _ _ _ _ (mkF _ _ _ [])
  refine kALn X37 d15_33 rfl rfl ?_
  refine kDUP X37 d15_34 rfl ?_
  have f43 := (Fld.keep F_q0_count f41 (ninS d_q0_q2 nin0))
  refine kGETF X37 (wd G 88 rfl) Via.refl f43 d15_35 (fun T44 X45 => ?_)
  refine kILn X45 d15_38 rfl ?_
  refine kIADD X45 5 d15_39 (by decide) ?_
  have f46 := (Exa.keep E_q0 f41)
  refine kPUTF X45 (wd G 88 rfl) Via.refl f43 f46 (Or.inl (wd G 89 rfl)) (wd G 60 rfl) (ty := .int) (by decide) rfl rfl g_q0 (Safe.exa X45.hZ.alike f46 (by decide) (by decide)) d15_40 (fun T47 h48 L51 W50 X49 => ?_)
  have f52 := Fld.same W50 f43
  refine kALn X49 d15_43 rfl rfl ?_
  have K53 : Keep h0 h48 [q2, q0] := (Keep.wr (Keep.trans (Keep.refl h0 [q2, q0]) f41 (allS (Or.inl (List.mem_of_getElem? (i := 0) rfl)) all0)) W50 (Or.inl (List.mem_of_getElem? (i := 1) rfl)))
  have f54 := (Arv.other f42 W50 (Ne.symm d_q0_q2))
  have f55 := (Fld.other W50 (Fld.keep F_q0_coder f41 (ninS d_q0_q2 nin0)) (Or.inr (slot_ne (Or.inl (wd G 76 rfl)) (Or.inl (wd G 89 rfl)) (by decide) (by decide : parseFieldDescriptor "B" = some .byte) (by decide : parseFieldDescriptor "I" = some .int))))
  have f56 := (Fld.other W50 (Fld.keep F_q0_value f41 (ninS d_q0_q2 nin0)) (Or.inr (slot_ne (Or.inl (wd G 74 rfl)) (Or.inl (wd G 89 rfl)) (by decide) (by decide : parseFieldDescriptor "[B" = some (.array (.byte))) (by decide : parseFieldDescriptor "I" = some .int))))
  exact kRETA X49 (gEL G) hret rfl rfl d15_44 (fun ve hve => ⟨rfl, K53, f54, f55, f52, f56⟩) (by decide)
def R_rm175 : Room := { frames := 4, cells := 0, slots := 0, locals := 61 }
theorem rm175 (G : Glob Z a0 iCS vSI) (i0 i1 i2 i3 : Int32) (q0 q1 q2 q3 : Addr) (kp0 kp1 : ClassId) (h0 : Heap) (Z0 : n0 ≤ h0.size) (O0 : Old Z n0 h0) (F_q1_value : Fld Z h0 q1 "java/lang/String" "value" "[B" (.ref q3)) (A_q3 : Arv Z h0 q3 kp1 .byte 2 [.int i2, .int i3] (.int 0)) (F_q1_coder : Fld Z h0 q1 "java/lang/String" "coder" "B" (.int 0)) (E_q1 : Exa Z h0 q1 "java/lang/String") (F_q0_count : Fld Z h0 q0 "java/lang/AbstractStringBuilder" "count" "I" (.int 3)) (F_q0_value : Fld Z h0 q0 "java/lang/AbstractStringBuilder" "value" "[B" (.ref q2)) (A_q2 : Arv Z h0 q2 kp0 .byte 16 [.int i0, .int i1, .int 32, .int 0, .int 0, .int 0, .int 0, .int 0, .int 0, .int 0, .int 0, .int 0, .int 0, .int 0, .int 0, .int 0] (.int 0)) (F_q0_coder : Fld Z h0 q0 "java/lang/AbstractStringBuilder" "coder" "B" (.int 0)) (E_q0 : Exa Z h0 q0 "java/lang/StringBuilder") (d_q0_q2 : q0 ≠ q2) (g_q0 : n0 ≤ q0) (g_q2 : n0 ≤ q2) : MetH l Z EL0 n0 N_jdk_67_m_7 jdk_67_method_7_code 2 (some (.object "java/lang/StringBuilder")) [] R_rm175 #[.ref q0, .ref q1] h0 [q2] (fun vs v h ve => (v = some (.ref q0) ∧ (Keep h0 h [q2, q0]) ∧ (Arv Z h q2 kp0 .byte 16 [.int i0, .int i1, .int 32, .int i2, .int i3, .int 0, .int 0, .int 0, .int 0, .int 0, .int 0, .int 0, .int 0, .int 0, .int 0, .int 0] (.int 0)) ∧ (Fld Z h q0 "java/lang/AbstractStringBuilder" "coder" "B" (.int 0)) ∧ (Fld Z h q0 "java/lang/AbstractStringBuilder" "count" "I" (.int 5)) ∧ (Fld Z h q0 "java/lang/AbstractStringBuilder" "value" "[B" (.ref q2)))) := by
  refine MetH.of #[.val (.ref q0), .val (.ref q1)] (plainFor_of_name pn_java_lang_StringBuilder) rfl Z0 (fun p e s m below meth c T0 hret hml hnm hSL hs0 X0 => ?_)
  have S_q2 := hSL q2 (List.mem_of_getElem? (i := 0) rfl)
  refine kALn X0 d14_0 rfl rfl ?_
  refine kALn X0 d14_1 rfl rfl ?_
  refine kSUP X0 (gEL G) (argsL := [.ref q1]) (rest := []) (wd G 82 rfl) (own_same (wd G 83 rfl) (own_noface (wd G 93 rfl) rfl) (by decide)) (wd G 83 rfl) (wd G 84 rfl) (by decide) (wd G 69 rfl) (wd G 86 rfl) (Ins.of_exa E_q0 (wd G 68 rfl)) (rm176 G i0 i1 i2 i3 q0 q1 q2 q3 kp0 kp1 h0 X0.n O0 F_q1_value A_q3 F_q1_coder E_q1 F_q0_count F_q0_value A_q2 F_q0_coder E_q0 d_q0_q2 g_q0 g_q2) (allS ⟨(A_q2.lt), S_q2⟩ all0) (lenOf pd__Ljava_lang_String__Ljava_lang_AbstractStringBuilder_ rfl) rfl 0 rfl (by decide) hml.symm d14_2 (fun v1 T2 h3 vm4 _ w5 q6 C7 C8 X9 => ?_)
  obtain ⟨e11, f12, f13, f14, f15, f16⟩ := q6
  subst e11
  show Go _ _ _ _ _ (mkF _ _ _ [.ref q0])
  refine kPOP X9 d14_5 rfl ?_
  refine kALn X9 d14_6 rfl rfl ?_
  have K17 : Keep h0 h3 [q2, q0] := (Keep.trans (Keep.refl h0 [q2, q0]) f12 (allS (Or.inl (List.mem_of_getElem? (i := 0) rfl)) (allS (Or.inl (List.mem_of_getElem? (i := 1) rfl)) all0)))
  exact kRETA X9 (gEL G) hret rfl rfl d14_7 (fun ve hve => ⟨rfl, K17, f13, f14, f15, f16⟩) (by decide)
def R_rm184 : Room := { frames := 0, cells := 0, slots := 0, locals := 0 }
theorem rm184 (G : Glob Z a0 iCS vSI) (i0 i1 i2 i3 : Int32) (q0 q1 : Addr) (kp0 : ClassId) (h0 : Heap) (Z0 : n0 ≤ h0.size) (O0 : Old Z n0 h0) (F_q0_value : Fld Z h0 q0 "java/lang/AbstractStringBuilder" "value" "[B" (.ref q1)) : MetH l Z EL0 n0 N_jdk_68_m_64 jdk_68_method_64_code 1 (some (.array (.byte))) [] R_rm184 #[.ref q0] h0 [] (fun vs v h ve => (v = some (.ref q1) ∧ (h0 = h))) := by
  refine MetH.of #[.val (.ref q0)] (plainFor_of_name pn_java_lang_AbstractStringBuilder) rfl Z0 (fun p e s m below meth c T0 hret hml hnm hSL hs0 X0 => ?_)
  refine kALn X0 d23_0 rfl rfl ?_
  refine kGETF X0 (wd G 73 rfl) Via.refl F_q0_value d23_1 (fun T1 X2 => ?_)
  exact kRETA X2 (gEL G) hret rfl rfl d23_4 (fun ve hve => ⟨rfl, rfl⟩) (by decide)
def R_rm186 : Room := { frames := 0, cells := 0, slots := 0, locals := 0 }
theorem rm186 (G : Glob Z a0 iCS vSI) (i0 i1 i2 i3 : Int32) (q0 q1 : Addr) (kp0 : ClassId) (h0 : Heap) (Z0 : n0 ≤ h0.size) (O0 : Old Z n0 h0) (F_q0_count : Fld Z h0 q0 "java/lang/AbstractStringBuilder" "count" "I" (.int 5)) : MetH l Z EL0 n0 N_jdk_68_m_6 jdk_68_method_6_code 1 (some .int) [] R_rm186 #[.ref q0] h0 [] (fun vs v h ve => (v = some (.int 5) ∧ (h0 = h))) := by
  refine MetH.of #[.val (.ref q0)] (plainFor_of_name pn_java_lang_AbstractStringBuilder) rfl Z0 (fun p e s m below meth c T0 hret hml hnm hSL hs0 X0 => ?_)
  refine kALn X0 d25_0 rfl rfl ?_
  refine kGETF X0 (wd G 88 rfl) Via.refl F_q0_count d25_1 (fun T1 X2 => ?_)
  exact kRETI X2 (gEL G) hret d25_4 (fun ve hve => ⟨rfl, rfl⟩) (by decide)
def R_rm185 : Room := { frames := 1, cells := 0, slots := 0, locals := 12 }
theorem rm185 (G : Glob Z a0 iCS vSI) (i0 i1 i2 i3 : Int32) (q0 q1 : Addr) (kp0 : ClassId) (h0 : Heap) (Z0 : n0 ≤ h0.size) (O0 : Old Z n0 h0) (F_q0_count : Fld Z h0 q0 "java/lang/AbstractStringBuilder" "count" "I" (.int 5)) (E_q0 : Exa Z h0 q0 "java/lang/StringBuilder") : MetH l Z EL0 n0 N_jdk_67_m_93 jdk_67_method_93_code 1 (some .int) [] R_rm185 #[.ref q0] h0 [] (fun vs v h ve => (v = some (.int 5) ∧ (h0 = h))) := by
  refine MetH.of #[.val (.ref q0)] (plainFor_of_name pn_java_lang_StringBuilder) rfl Z0 (fun p e s m below meth c T0 hret hml hnm hSL hs0 X0 => ?_)
  refine kALn X0 d24_0 rfl rfl ?_
  refine kSUP X0 (gEL G) (argsL := []) (rest := []) (wd G 139 rfl) (own_same (wd G 135 rfl) (own_noface (wd G 93 rfl) rfl) (by decide)) (wd G 135 rfl) (wd G 84 rfl) (by decide) (wd G 69 rfl) (wd G 140 rfl) (Ins.of_exa E_q0 (wd G 68 rfl)) (rm186 G i0 i1 i2 i3 q0 q1 kp0 h0 X0.n O0 F_q0_count) all0 (lenOf pd___I rfl) rfl 0 rfl (by decide) hml.symm d24_1 (fun v1 T2 h3 vm4 _ w5 q6 C7 C8 X9 => ?_)
  obtain ⟨e11, f12⟩ := q6
  subst e11
  subst f12
  show Go _ _ _ _ _ (mkF _ _ _ [.int 5])
  exact kRETI X9 (gEL G) hret d24_4 (fun ve hve => ⟨rfl, rfl⟩) (by decide)
def R_rm187 : Room := { frames := 0, cells := 0, slots := 0, locals := 0 }
theorem rm187 (G : Glob Z a0 iCS vSI) (i0 i1 i2 i3 : Int32) (q0 q1 : Addr) (kp0 : ClassId) (h0 : Heap) (Z0 : n0 ≤ h0.size) (O0 : Old Z n0 h0) (F_q0_coder : Fld Z h0 q0 "java/lang/AbstractStringBuilder" "coder" "B" (.int 0)) : MetH l Z EL0 n0 N_jdk_68_m_68 jdk_68_method_68_code 1 (some .boolean) [] R_rm187 #[.ref q0] h0 [] (fun vs v h ve => (v = some (.int 1) ∧ (h0 = h))) := by
  refine MetH.of #[.val (.ref q0)] (plainFor_of_name pn_java_lang_AbstractStringBuilder) rfl Z0 (fun p e s m below meth c T0 hret hml hnm hSL hs0 X0 => ?_)
  refine kGETS X0 (wd G 72 rfl) Via.refl (Sta.ext O0.2 (S_CS G)) d26_0 (fun T1 X2 => ?_)
  refine kIFf X2 d26_3 (XT.i0_eq_f (n_CS G)) ?_
  refine kALn X2 d26_6 rfl rfl ?_
  refine kGETF X2 (wd G 75 rfl) Via.refl F_q0_coder d26_7 (fun T3 X4 => ?_)
  refine kIFf X4 d26_10 (XT.i0_ne_f (by decide)) ?_
  refine kIC X4 1 d26_13 (by decide) ?_
  refine kGOTO X4 18 d26_14 (by decide) ?_
  exact kRETZ X4 (gEL G) (t := .boolean) hret (by simp) d26_18 (fun ve hve => ⟨rfl, rfl⟩) (by decide)
def R_rm190 : Room := { frames := 0, cells := 0, slots := 0, locals := 0 }
theorem rm190 (G : Glob Z a0 iCS vSI)  (h0 : Heap) (Z0 : n0 ≤ h0.size) (O0 : Old Z n0 h0)  : MetH l Z EL0 n0 N_jdk_65_m_131 jdk_65_method_131_code 2 none [] R_rm190 #[.int 0, .int 5] h0 [] (fun vs v h ve => (v = none ∧ (h0 = h))) := by
  refine MetH.of #[.val (.int 0), .val (.int 5)] (plainFor_of_name pn_java_util_Arrays) rfl Z0 (fun p e s m below meth c T0 hret hml hnm hSL hs0 X0 => ?_)
  refine kILn X0 d29_0 rfl ?_
  refine kILn X0 d29_1 rfl ?_
  refine kICt X0 37 d29_2 (XT.ii_ge_t (by decide)) (by decide) ?_
  exact kRETV X0 (gEL G) hret d29_37 (fun ve hve => ⟨rfl, rfl⟩) (by decide)
def R_rm191 : Room := { frames := 0, cells := 0, slots := 0, locals := 0 }
theorem rm191 (G : Glob Z a0 iCS vSI)  (h0 : Heap) (Z0 : n0 ≤ h0.size) (O0 : Old Z n0 h0)  : MetH l Z EL0 n0 N_jdk_29_m_69 jdk_29_method_69_code 2 (some .int) [] R_rm191 #[.int 16, .int 5] h0 [] (fun vs v h ve => (v = some (.int 5) ∧ (h0 = h))) := by
  refine MetH.of #[.val (.int 16), .val (.int 5)] pf_java_lang_Math_min rfl Z0 (fun p e s m below meth c T0 hret hml hnm hSL hs0 X0 => ?_)
  refine kILn X0 d30_0 rfl ?_
  refine kILn X0 d30_1 rfl ?_
  refine kICt X0 9 d30_2 (XT.ii_gt_t (by decide)) (by decide) ?_
  refine kILn X0 d30_9 rfl ?_
  exact kRETI X0 (gEL G) hret d30_10 (fun ve hve => ⟨rfl, rfl⟩) (by decide)
def R_rm189 : Room := { frames := 1, cells := 1, slots := 5, locals := 18 }
theorem rm189 (G : Glob Z a0 iCS vSI) (i0 i1 i2 i3 : Int32) (q0 : Addr) (kp0 : ClassId) (h0 : Heap) (Z0 : n0 ≤ h0.size) (O0 : Old Z n0 h0) (A_q0 : Arv Z h0 q0 kp0 .byte 16 [.int i0, .int i1, .int 32, .int i2, .int i3, .int 0, .int 0, .int 0, .int 0, .int 0, .int 0, .int 0, .int 0, .int 0, .int 0, .int 0] (.int 0)) : MetH l Z EL0 n0 N_jdk_65_m_133 jdk_65_method_133_code 5 (some (.array (.byte))) [] R_rm189 #[.ref q0, .int 0, .int 5] h0 [] (fun vs v h ve => (∃ (x0 : Addr), ∃ (z0 : ClassId), v = some (.ref x0) ∧ (Keep h0 h []) ∧ (h0.size ≤ x0) ∧ (Arv Z h x0 z0 .byte 5 [.int i0, .int i1, .int 32, .int i2, .int i3] (.int 0)) ∧ (Safe Z EL0 ve h x0))) := by
  refine MetH.of #[.val (.ref q0), .val (.int 0), .val (.int 5), .unset, .unset] (plainFor_of_name pn_java_util_Arrays) rfl Z0 (fun p e s m below meth c T0 hret hml hnm hSL hs0 X0 => ?_)
  refine kILn X0 d28_0 rfl ?_
  refine kILn X0 d28_1 rfl ?_
  refine kSTAT X0 (gEL G) (argsL := [.int 0, .int 5]) (rest := []) (wd G 153 rfl) (wd G 154 rfl) (wd G 148 rfl) (wd G 155 rfl) (by decide) (rm190 G  h0 X0.n O0 ) all0 (lenOf pd__II_V rfl) rfl 0 rfl (by decide) hml.symm d28_2 (fun v1 T2 h3 vm4 _ w5 q6 C7 C8 X9 => ?_)
  obtain ⟨e11, f12⟩ := q6
  subst e11
  subst f12
  show Go _ _ _ _ _ (mkF _ _ _ [])
  refine kILn X9 d28_5 rfl ?_
  refine kILn X9 d28_6 rfl ?_
  refine kISUB X9 5 d28_7 (by decide) ?_
  refine kISn X9 #[.val (.ref q0), .val (.int 0), .val (.int 5), .val (.int 5), .unset] d28_8 rfl ?_
  refine kILn X9 d28_9 rfl ?_
  refine kNEWP X9 (wd G 19 rfl) (cap := 5) d28_10 (by decide) (by decide) (by decide) (by decide) (by decide) (fun T13 h14 a16 k17 E18 q19 g20 A21 s22 X15 => ?_)
  have n23 : q0 ≠ a16 := Nat.ne_of_lt (Nat.lt_of_lt_of_le (A_q0.lt) (Nat.le_of_eq q19.symm))
  have g24 : h0.size ≤ a16 := q19 ▸ X9.g0
  have f25 : Arv Z h14 a16 k17 .byte 5 [.int 0, .int 0, .int 0, .int 0, .int 0] (.int 0) := A21.pad (pad_rep [] _ 5)
  refine kAS X15 #[.val (.ref q0), .val (.int 0), .val (.int 5), .val (.int 5), .val (.ref a16)] d28_12 rfl rfl ?_
  refine kALn X15 d28_14 rfl rfl ?_
  refine kILn X15 d28_15 rfl ?_
  refine kAL X15 d28_16 rfl rfl ?_
  refine kIC X15 0 d28_18 (by decide) ?_
  refine kALn X15 d28_19 rfl rfl ?_
  have f26 := (Arv.ext A_q0 E18)
  refine kLEN X15 f26 d28_20 ?_
  refine kILn X15 d28_21 rfl ?_
  refine kISUB X15 16 d28_22 (by decide) ?_
  refine kILn X15 d28_23 rfl ?_
  have f27 := (Old.ext O0 E18)
  refine kSTAT X15 (gEL G) (argsL := [.int 16, .int 5]) (rest := [.int 0, .ref a16, .int 0, .ref q0]) (wd G 156 rfl) (wd G 157 rfl) (wd G 158 rfl) (wd G 159 rfl) (by decide) (rm191 G  h14 X15.n f27 ) all0 (lenOf pd__II_I rfl) rfl 4 rfl (by decide) hml.symm d28_24 (fun v28 T29 h30 vm31 _ w32 q33 C34 C35 X36 => ?_)
  obtain ⟨e38, f39⟩ := q33
  subst e38
  subst f39
  show Go _ _ _ _ _ (mkF _ _ _ [.int 5, .int 0, .ref a16, .int 0, .ref q0])
  have f40 := (CHr.safe C35 (f25.lt) s22)
  refine kCPA X36 (wd G 160 rfl) (wd G 114 rfl) (wd G 112 rfl) (wd G 113 rfl) f26 f25 (Or.inl ⟨rfl, rfl⟩) (us := [.int i0, .int i1, .int 32, .int i2, .int i3]) (by decide) rfl (by show 5 ≤ 5; decide) g20 f40 hml.symm d28_27 (by decide) 0 (Nat.le_of_eq rfl) (by decide) (fun T41 h42 L44 K45 C46 f47 X43 => ?_)
  have f48 : Arv Z h42 a16 k17 .byte 5 [.int i0, .int i1, .int 32, .int i2, .int i3] (.int 0) := f47
  refine kAL X43 d28_30 rfl rfl ?_
  have K49 : Keep h0 h42 [] := (Keep.trans (Keep.ext (Keep.refl h0 []) E18) K45 (allS (Or.inr g24) all0))
  have f50 := (CHr.safe C46 (f25.lt) f40)
  exact kRETA X43 (gEL G) hret rfl rfl d28_32 (fun ve hve => ⟨a16, k17, rfl, K49, g24, f48, (CHr.safe hve (f48.lt) f50)⟩) (by decide)
def R_rm188 : Room := { frames := 2, cells := 1, slots := 5, locals := 34 }
theorem rm188 (G : Glob Z a0 iCS vSI) (i0 i1 i2 i3 : Int32) (q0 : Addr) (kp0 : ClassId) (h0 : Heap) (Z0 : n0 ≤ h0.size) (O0 : Old Z n0 h0) (A_q0 : Arv Z h0 q0 kp0 .byte 16 [.int i0, .int i1, .int 32, .int i2, .int i3, .int 0, .int 0, .int 0, .int 0, .int 0, .int 0, .int 0, .int 0, .int 0, .int 0, .int 0] (.int 0)) : MetH l Z EL0 n0 N_jdk_65_m_132 jdk_65_method_132_code 3 (some (.array (.byte))) [] R_rm188 #[.ref q0, .int 0, .int 5] h0 [] (fun vs v h ve => (∃ (x0 : Addr), ∃ (z0 : ClassId), v = some (.ref x0) ∧ (Keep h0 h []) ∧ (h0.size ≤ x0) ∧ (Arv Z h x0 z0 .byte 5 [.int i0, .int i1, .int 32, .int i2, .int i3] (.int 0)) ∧ (Safe Z EL0 ve h x0))) := by
  refine MetH.of #[.val (.ref q0), .val (.int 0), .val (.int 5)] (plainFor_of_name pn_java_util_Arrays) rfl Z0 (fun p e s m below meth c T0 hret hml hnm hSL hs0 X0 => ?_)
  refine kILn X0 d27_0 rfl ?_
  refine kIFf X0 d27_1 (XT.i0_ne_f (by decide)) ?_
  refine kILn X0 d27_4 rfl ?_
  refine kALn X0 d27_5 rfl rfl ?_
  refine kLEN X0 A_q0 d27_6 ?_
  refine kICf X0 d27_7 (XT.ii_eq_f (by decide)) ?_
  refine kALn X0 d27_10 rfl rfl ?_
  refine kILn X0 d27_11 rfl ?_
  refine kILn X0 d27_12 rfl ?_
  refine kSTAT X0 (gEL G) (argsL := [.ref q0, .int 0, .int 5]) (rest := []) (wd G 150 rfl) (wd G 151 rfl) (wd G 148 rfl) (wd G 152 rfl) (by decide) (rm189 G i0 i1 i2 i3 q0 kp0 h0 X0.n O0 A_q0) all0 (lenOf pd___BII__B rfl) rfl 0 rfl (by decide) hml.symm d27_13 (fun v1 T2 h3 vm4 _ w5 q6 C7 C8 X9 => ?_)
  obtain ⟨a11, k12, e13, f14, f15, f16, f17⟩ := q6
  subst e13
  have n18 : q0 ≠ a11 := Nat.ne_of_lt (Nat.lt_of_lt_of_le (A_q0.lt) f15)
  have g19 : n0 ≤ a11 := Nat.le_trans X0.n f15
  have g20 : h0.size ≤ a11 := Nat.le_trans X0.g0 f15
  show Go _ _ _ _ _ (mkF _ _ _ [.ref a11])
  have K21 : Keep h0 h3 [] := (Keep.trans (Keep.refl h0 []) f14 all0)
  exact kRETA X9 (gEL G) hret rfl rfl d27_16 (fun ve hve => ⟨a11, k12, rfl, K21, g20, f16, (CHr.safe hve (f16.lt) f17)⟩) (by decide)
def R_rm183 : Room := { frames := 3, cells := 1, slots := 5, locals := 49 }
theorem rm183 (G : Glob Z a0 iCS vSI) (i0 i1 i2 i3 : Int32) (q0 q1 q2 : Addr) (kp0 : ClassId) (h0 : Heap) (Z0 : n0 ≤ h0.size) (O0 : Old Z n0 h0) (F_q1_value : Fld Z h0 q1 "java/lang/AbstractStringBuilder" "value" "[B" (.ref q2)) (E_q1 : Exa Z h0 q1 "java/lang/StringBuilder") (F_q1_count : Fld Z h0 q1 "java/lang/AbstractStringBuilder" "count" "I" (.int 5)) (F_q1_coder : Fld Z h0 q1 "java/lang/AbstractStringBuilder" "coder" "B" (.int 0)) (F_q0_coder : Fld Z h0 q0 "java/lang/String" "coder" "B" (.int 0)) (E_q0 : Exa Z h0 q0 "java/lang/String") (F_q0_value : Fld Z h0 q0 "java/lang/String" "value" "[B" (.null)) (A_q2 : Arv Z h0 q2 kp0 .byte 16 [.int i0, .int i1, .int 32, .int i2, .int i3, .int 0, .int 0, .int 0, .int 0, .int 0, .int 0, .int 0, .int 0, .int 0, .int 0, .int 0] (.int 0)) (d_q2_q0 : q2 ≠ q0) (g_q0 : n0 ≤ q0) : MetH l Z EL0 n0 N_jdk_42_m_150 jdk_42_method_150_code 5 none [] R_rm183 #[.ref q0, .ref q1, .null] h0 [q0] (fun vs v h ve => (∃ (x0 : Addr), ∃ (z0 : ClassId), v = none ∧ (Keep h0 h [q0]) ∧ (h0.size ≤ x0) ∧ (Arv Z h x0 z0 .byte 5 [.int i0, .int i1, .int 32, .int i2, .int i3] (.int 0)) ∧ (Safe Z EL0 ve h x0) ∧ (Fld Z h q0 "java/lang/String" "coder" "B" (.int 0)) ∧ (Fld Z h q0 "java/lang/String" "value" "[B" (.ref x0)))) := by
  refine MetH.of #[.val (.ref q0), .val (.ref q1), .val .null, .unset, .unset] (plainFor_of_name pn_java_lang_String) rfl Z0 (fun p e s m below meth c T0 hret hml hnm hSL hs0 X0 => ?_)
  have S_q0 := hSL q0 (List.mem_of_getElem? (i := 0) rfl)
  refine kALn X0 d22_0 rfl rfl ?_
  refine kINIT X0 (wd G 15 rfl) (wd G 16 rfl) (wd G 17 rfl) hml.symm d22_1 (by decide) 0 (Nat.le_of_eq rfl) (by decide) (fun T1 X2 => ?_)
  refine kALn X2 d22_4 rfl rfl ?_
  refine kVIRT X2 (gEL G) (argsL := []) (rest := []) (wd G 128 rfl) (wd G 129 rfl) (own_nf X2.hZ (own_noface (wd G 93 rfl) rfl)) (wd G 131 rfl) (wd G 130 rfl) (wd G 69 rfl) (wd G 132 rfl) (by decide) E_q1 (rm184 G i0 i1 i2 i3 q1 q2 kp0 h0 X2.n O0 F_q1_value) all0 (lenOf pd____B rfl) rfl 0 rfl (by decide) hml.symm d22_5 (fun v3 T4 h5 vm6 _ w7 q8 C9 C10 X11 => ?_)
  obtain ⟨e13, f14⟩ := q8
  subst e13
  subst f14
  show Go _ _ _ _ _ (mkF _ _ _ [.ref q2])
  refine kASn X11 #[.val (.ref q0), .val (.ref q1), .val .null, .val (.ref q2), .unset] d22_8 rfl rfl ?_
  refine kALn X11 d22_9 rfl rfl ?_
  refine kVIRT X11 (gEL G) (argsL := []) (rest := []) (wd G 133 rfl) (wd G 134 rfl) (own_nf X11.hZ (own_noface (wd G 93 rfl) rfl)) (wd G 136 rfl) (wd G 137 rfl) (wd G 61 rfl) (wd G 138 rfl) (by decide) E_q1 (rm185 G i0 i1 i2 i3 q1 q2 kp0 h0 X11.n O0 F_q1_count E_q1) all0 (lenOf pd___I rfl) rfl 0 rfl (by decide) hml.symm d22_10 (fun v15 T16 h17 vm18 _ w19 q20 C21 C22 X23 => ?_)
  obtain ⟨e25, f26⟩ := q20
  subst e25
  subst f26
  show Go _ _ _ _ _ (mkF _ _ _ [.int 5])
  refine kIS X23 #[.val (.ref q0), .val (.ref q1), .val .null, .val (.ref q2), .val (.int 5)] d22_13 rfl ?_
  refine kALn X23 d22_15 rfl rfl ?_
  refine kVIRT X23 (gEL G) (argsL := []) (rest := []) (wd G 141 rfl) (wd G 142 rfl) (own_nf X23.hZ (own_noface (wd G 93 rfl) rfl)) (wd G 144 rfl) (wd G 143 rfl) (wd G 69 rfl) (wd G 145 rfl) (by decide) E_q1 (rm187 G i0 i1 i2 i3 q1 q2 kp0 h0 X23.n O0 F_q1_coder) all0 (lenOf pd___Z rfl) rfl 0 rfl (by decide) hml.symm d22_16 (fun v27 T28 h29 vm30 _ w31 q32 C33 C34 X35 => ?_)
  obtain ⟨e37, f38⟩ := q32
  subst e37
  subst f38
  show Go _ _ _ _ _ (mkF _ _ _ [.int 1])
  refine kIFf X35 d22_19 (XT.i0_eq_f (by decide)) ?_
  refine kALn X35 d22_22 rfl rfl ?_
  refine kIC X35 0 d22_23 (by decide) ?_
  have f39 := (CHr.safe C34 (F_q0_value.lt) (CHr.safe C22 (F_q0_value.lt) (CHr.safe C10 (F_q0_value.lt) S_q0)))
  refine kPUTF X35 (wd G 25 rfl) Via.refl F_q0_coder E_q0 (Or.inr ⟨(wd G 21 rfl), rfl, hnm⟩) (wd G 6 rfl) (ty := .byte) (by decide) (by decide) (by decide) g_q0 f39 d22_24 (fun T40 h41 L44 W43 X42 => ?_)
  have f45 := Fld.same W43 F_q0_coder
  refine kALn X42 d22_27 rfl rfl ?_
  refine kALn X42 d22_28 rfl rfl ?_
  refine kIC X42 0 d22_29 (by decide) ?_
  refine kIL X42 d22_30 rfl ?_
  have f46 := (Arv.other A_q2 W43 d_q2_q0)
  have f47 := (Old.wr O0 W43 g_q0)
  refine kSTAT X42 (gEL G) (argsL := [.ref q2, .int 0, .int 5]) (rest := [.ref q0]) (wd G 146 rfl) (wd G 147 rfl) (wd G 148 rfl) (wd G 149 rfl) (by decide) (rm188 G i0 i1 i2 i3 q2 kp0 h41 X42.n f47 f46) all0 (lenOf pd___BII__B rfl) rfl 1 rfl (by decide) hml.symm d22_32 (fun v48 T49 h50 vm51 _ w52 q53 C54 C55 X56 => ?_)
  obtain ⟨a58, k59, e60, f61, f62, f63, f64⟩ := q53
  subst e60
  have n65 : q0 ≠ a58 := Nat.ne_of_lt (Nat.lt_of_lt_of_le (f45.lt) f62)
  have f67 := (Exa.wr W43 E_q1)
  have n66 : q1 ≠ a58 := Nat.ne_of_lt (Nat.lt_of_lt_of_le (f67.lt) f62)
  have n68 : q2 ≠ a58 := Nat.ne_of_lt (Nat.lt_of_lt_of_le (f46.lt) f62)
  have g69 : n0 ≤ a58 := Nat.le_trans X42.n f62
  have g70 : h0.size ≤ a58 := Nat.le_trans X42.g0 f62
  show Go _ _ _ _ _ (mkF _ _ _ [.ref a58, .ref q0])
  have f71 := (Fld.keep (Fld.other W43 F_q0_value (Or.inr (slot_ne (Or.inr (wd G 20 rfl)) (Or.inr (wd G 21 rfl)) (by decide) (by decide : parseFieldDescriptor "[B" = some (.array (.byte))) (by decide : parseFieldDescriptor "B" = some .byte)))) f61 nin0)
  have f72 := (Exa.keep (Exa.wr W43 E_q0) f61)
  have f73 := (CHr.safe C55 (f45.lt) (Safe.wr W43 f39 X35.C.1 f39))
  refine kPUTF X56 (wd G 24 rfl) Via.refl f71 f72 (Or.inr ⟨(wd G 20 rfl), rfl, hnm⟩) (wd G 6 rfl) (ty := (.array (.byte))) (by decide) rfl rfl g_q0 f73 d22_35 (fun T74 h75 L78 W77 X76 => ?_)
  have f79 := Fld.same W77 f71
  refine kGOTO X76 97 d22_38 (by decide) ?_
  have K80 : Keep h0 h75 [q0] := (Keep.wr (Keep.trans (Keep.wr (Keep.refl h0 [q0]) W43 (Or.inl (List.mem_of_getElem? (i := 0) rfl))) f61 all0) W77 (Or.inl (List.mem_of_getElem? (i := 0) rfl)))
  have f81 := (Arv.other f63 W77 (Ne.symm n65))
  have f82 := (Safe.wr W77 f73 X56.C.1 f64)
  have f83 := (Fld.other W77 (Fld.keep f45 f61 nin0) (Or.inr (slot_ne (Or.inr (wd G 21 rfl)) (Or.inr (wd G 20 rfl)) (by decide) (by decide : parseFieldDescriptor "B" = some .byte) (by decide : parseFieldDescriptor "[B" = some (.array (.byte))))))
  exact kRETV X76 (gEL G) hret d22_97 (fun ve hve => ⟨a58, k59, rfl, K80, g70, f81, (CHr.safe hve (f81.lt) f82), f83, f79⟩) (by decide)
def R_rm182 : Room := { frames := 4, cells := 1, slots := 5, locals := 65 }
theorem rm182 (G : Glob Z a0 iCS vSI) (i0 i1 i2 i3 : Int32) (q0 q1 q2 : Addr) (kp0 : ClassId) (h0 : Heap) (Z0 : n0 ≤ h0.size) (O0 : Old Z n0 h0) (F_q1_value : Fld Z h0 q1 "java/lang/AbstractStringBuilder" "value" "[B" (.ref q2)) (E_q1 : Exa Z h0 q1 "java/lang/StringBuilder") (F_q1_count : Fld Z h0 q1 "java/lang/AbstractStringBuilder" "count" "I" (.int 5)) (F_q1_coder : Fld Z h0 q1 "java/lang/AbstractStringBuilder" "coder" "B" (.int 0)) (F_q0_coder : Fld Z h0 q0 "java/lang/String" "coder" "B" (.int 0)) (E_q0 : Exa Z h0 q0 "java/lang/String") (F_q0_value : Fld Z h0 q0 "java/lang/String" "value" "[B" (.null)) (A_q2 : Arv Z h0 q2 kp0 .byte 16 [.int i0, .int i1, .int 32, .int i2, .int i3, .int 0, .int 0, .int 0, .int 0, .int 0, .int 0, .int 0, .int 0, .int 0, .int 0, .int 0] (.int 0)) (d_q2_q0 : q2 ≠ q0) (g_q0 : n0 ≤ q0) : MetH l Z EL0 n0 N_jdk_42_m_53 jdk_42_method_53_code 2 none [] R_rm182 #[.ref q0, .ref q1] h0 [q0] (fun vs v h ve => (∃ (x0 : Addr), ∃ (z0 : ClassId), v = none ∧ (Keep h0 h [q0]) ∧ (h0.size ≤ x0) ∧ (Arv Z h x0 z0 .byte 5 [.int i0, .int i1, .int 32, .int i2, .int i3] (.int 0)) ∧ (Safe Z EL0 ve h x0) ∧ (Fld Z h q0 "java/lang/String" "coder" "B" (.int 0)) ∧ (Fld Z h q0 "java/lang/String" "value" "[B" (.ref x0)))) := by
  refine MetH.of #[.val (.ref q0), .val (.ref q1)] (plainFor_of_name pn_java_lang_String) rfl Z0 (fun p e s m below meth c T0 hret hml hnm hSL hs0 X0 => ?_)
  have S_q0 := hSL q0 (List.mem_of_getElem? (i := 0) rfl)
  refine kALn X0 d21_0 rfl rfl ?_
  refine kALn X0 d21_1 rfl rfl ?_
  refine kNULL X0 d21_2 ?_
  refine kSPEC X0 (gEL G) (argsL := [.ref q1, .null]) (rest := []) (wd G 125 rfl) (wd G 126 rfl) (wd G 7 rfl) (wd G 127 rfl) rfl (by decide) (rm183 G i0 i1 i2 i3 q0 q1 q2 kp0 h0 X0.n O0 F_q1_value E_q1 F_q1_count F_q1_coder F_q0_coder E_q0 F_q0_value A_q2 d_q2_q0 g_q0) (allS ⟨(E_q0.lt), S_q0⟩ all0) (lenOf pd__Ljava_lang_AbstractStringBuilder_Ljava_lang_Void__V rfl) rfl 0 rfl (by decide) hml.symm d21_3 (fun v1 T2 h3 vm4 _ w5 q6 C7 C8 X9 => ?_)
  obtain ⟨a11, k12, e13, f14, f15, f16, f17, f18, f19⟩ := q6
  subst e13
  have n20 : q0 ≠ a11 := Nat.ne_of_lt (Nat.lt_of_lt_of_le (E_q0.lt) f15)
  have n21 : q1 ≠ a11 := Nat.ne_of_lt (Nat.lt_of_lt_of_le (E_q1.lt) f15)
  have n22 : q2 ≠ a11 := Nat.ne_of_lt (Nat.lt_of_lt_of_le (A_q2.lt) f15)
  have g23 : n0 ≤ a11 := Nat.le_trans X0.n f15
  have g24 : h0.size ≤ a11 := Nat.le_trans X0.g0 f15
  show Go _ _ _ _ _ (mkF _ _ _ [])
  have K25 : Keep h0 h3 [q0] := (Keep.trans (Keep.refl h0 [q0]) f14 (allS (Or.inl (List.mem_of_getElem? (i := 0) rfl)) all0))
  exact kRETV X9 (gEL G) hret d21_6 (fun ve hve => ⟨a11, k12, rfl, K25, g24, f16, (CHr.safe hve (f16.lt) f17), f18, f19⟩) (by decide)
def R_rm181 : Room := { frames := 5, cells := 2, slots := 9, locals := 79 }
theorem rm181 (G : Glob Z a0 iCS vSI) (i0 i1 i2 i3 : Int32) (q0 q1 : Addr) (kp0 : ClassId) (h0 : Heap) (Z0 : n0 ≤ h0.size) (O0 : Old Z n0 h0) (E_q0 : Exa Z h0 q0 "java/lang/StringBuilder") (A_q1 : Arv Z h0 q1 kp0 .byte 16 [.int i0, .int i1, .int 32, .int i2, .int i3, .int 0, .int 0, .int 0, .int 0, .int 0, .int 0, .int 0, .int 0, .int 0, .int 0, .int 0] (.int 0)) (F_q0_value : Fld Z h0 q0 "java/lang/AbstractStringBuilder" "value" "[B" (.ref q1)) (F_q0_count : Fld Z h0 q0 "java/lang/AbstractStringBuilder" "count" "I" (.int 5)) (F_q0_coder : Fld Z h0 q0 "java/lang/AbstractStringBuilder" "coder" "B" (.int 0)) : MetH l Z EL0 n0 N_jdk_67_m_42 jdk_67_method_42_code 1 (some (.object "java/lang/String")) [] R_rm181 #[.ref q0] h0 [] (fun vs v h ve => (∃ (x0 : Addr), ∃ (x1 : Addr), ∃ (z0 : ClassId), v = some (.ref x0) ∧ (Keep h0 h []) ∧ (h0.size ≤ x0) ∧ (h0.size ≤ x1) ∧ (x0 ≠ x1) ∧ (Exa Z h x0 "java/lang/String") ∧ (Fld Z h x0 "java/lang/String" "coder" "B" (.int 0)) ∧ (Fld Z h x0 "java/lang/String" "value" "[B" (.ref x1)) ∧ (Safe Z EL0 ve h x0) ∧ (Arv Z h x1 z0 .byte 5 [.int i0, .int i1, .int 32, .int i2, .int i3] (.int 0)) ∧ (Safe Z EL0 ve h x1))) := by
  refine MetH.of #[.val (.ref q0)] (plainFor_of_name pn_java_lang_StringBuilder) rfl Z0 (fun p e s m below meth c T0 hret hml hnm hSL hs0 X0 => ?_)
  refine kNEW X0 (wd G 121 rfl) (wd G 6 rfl) (wd G 7 rfl) d20_0 (by decide) (by decide) (fun T1 h2 a4 E5 q6 g7 A8 D9 s10 X3 => ?_)
  have n11 : q0 ≠ a4 := Nat.ne_of_lt (Nat.lt_of_lt_of_le (E_q0.lt) (Nat.le_of_eq q6.symm))
  have n12 : q1 ≠ a4 := Nat.ne_of_lt (Nat.lt_of_lt_of_le (A_q1.lt) (Nat.le_of_eq q6.symm))
  have g13 : h0.size ≤ a4 := q6 ▸ X0.g0
  have f14 : Fld Z h2 a4 "java/lang/String" "value" "[B" (.null) := D9 (Or.inr (wd G 20 rfl)) (ty := (.array (.byte))) (by decide)
  have f15 : Fld Z h2 a4 "java/lang/String" "coder" "B" (.int 0) := D9 (Or.inr (wd G 21 rfl)) (ty := .byte) (by decide)
  refine kDUP X3 d20_3 rfl ?_
  refine kALn X3 d20_4 rfl rfl ?_
  have f16 := (Fld.ext E5 F_q0_value)
  have f17 := (Exa.ext E5 E_q0)
  have f18 := (Fld.ext E5 F_q0_count)
  have f19 := (Fld.ext E5 F_q0_coder)
  have f20 := (Arv.ext A_q1 E5)
  have f21 := (Old.ext O0 E5)
  refine kSPEC X3 (gEL G) (argsL := [.ref q0]) (rest := [.ref a4]) (wd G 122 rfl) (wd G 123 rfl) (wd G 7 rfl) (wd G 124 rfl) rfl (by decide) (rm182 G i0 i1 i2 i3 a4 q0 q1 kp0 h2 X3.n f21 f16 f17 f18 f19 f15 A8 f14 f20 n12 g7) (allS ⟨(A8.lt), s10⟩ all0) (lenOf pd__Ljava_lang_StringBuilder__V rfl) rfl 1 rfl (by decide) hml.symm d20_5 (fun v22 T23 h24 vm25 _ w26 q27 C28 C29 X30 => ?_)
  obtain ⟨a32, k33, e34, f35, f36, f37, f38, f39, f40⟩ := q27
  subst e34
  have n41 : q0 ≠ a32 := Nat.ne_of_lt (Nat.lt_of_lt_of_le (f17.lt) f36)
  have n42 : q1 ≠ a32 := Nat.ne_of_lt (Nat.lt_of_lt_of_le (f20.lt) f36)
  have n43 : a4 ≠ a32 := Nat.ne_of_lt (Nat.lt_of_lt_of_le (A8.lt) f36)
  have g44 : n0 ≤ a32 := Nat.le_trans X3.n f36
  have g45 : h0.size ≤ a32 := Nat.le_trans X3.g0 f36
  show Go _ _ _ _ _ (mkF _ _ _ [.ref a4])
  have K46 : Keep h0 h24 [] := (Keep.trans (Keep.ext (Keep.refl h0 []) E5) f35 (allS (Or.inr g13) all0))
  have f47 := (Exa.keep A8 f35)
  have f48 := (CHr.safe C29 (f15.lt) s10)
  exact kRETA X30 (gEL G) hret rfl rfl d20_8 (fun ve hve => ⟨a4, a32, k33, rfl, K46, g13, g45, n43, f47, f39, f40, (CHr.safe hve (f47.lt) f48), f37, (CHr.safe hve (f37.lt) f38)⟩) (by decide)
def R_rm174 : Room := { frames := 6, cells := 6, slots := 37, locals := 91 }
theorem rm174 (G : Glob Z a0 iCS vSI) (i0 i1 i2 i3 : Int32) (q0 q1 q2 q3 : Addr) (kp0 kp1 : ClassId) (h0 : Heap) (Z0 : n0 ≤ h0.size) (O0 : Old Z n0 h0) (F_q0_value : Fld Z h0 q0 "java/lang/String" "value" "[B" (.ref q2)) (A_q2 : Arv Z h0 q2 kp0 .byte 2 [.int i0, .int i1] (.int 0)) (E_q0 : Exa Z h0 q0 "java/lang/String") (F_q1_value : Fld Z h0 q1 "java/lang/String" "value" "[B" (.ref q3)) (A_q3 : Arv Z h0 q3 kp1 .byte 2 [.int i2, .int i3] (.int 0)) (E_q1 : Exa Z h0 q1 "java/lang/String") (F_q0_coder : Fld Z h0 q0 "java/lang/String" "coder" "B" (.int 0)) (F_q1_coder : Fld Z h0 q1 "java/lang/String" "coder" "B" (.int 0)) : MetH l Z EL0 n0 N_prog_30_m_3 prog_30_method_3_code 3 (some (.object "java/lang/String")) [] R_rm174 #[.ref q0, .ref q1] h0 [q0, q1, q2, q3] (fun vs v h ve => (∃ (x0 : Addr), ∃ (x1 : Addr), ∃ (z0 : ClassId), v = some (.ref x0) ∧ (Keep h0 h []) ∧ (h0.size ≤ x0) ∧ (h0.size ≤ x1) ∧ (x0 ≠ x1) ∧ (Exa Z h x0 "java/lang/String") ∧ (Fld Z h x0 "java/lang/String" "coder" "B" (.int 0)) ∧ (Fld Z h x0 "java/lang/String" "value" "[B" (.ref x1)) ∧ (Safe Z EL0 ve h x0) ∧ (Arv Z h x1 z0 .byte 5 [.int i0, .int i1, .int 32, .int i2, .int i3] (.int 0)) ∧ (Safe Z EL0 ve h x1))) := by
  refine MetH.of #[.val (.ref q0), .val (.ref q1), .unset] (plainFor_of_name pn_com_example_tight_calculus_tightcalculus_Report) rfl Z0 (fun p e s m below meth c T0 hret hml hnm hSL hs0 X0 => ?_)
  have S_q0 := hSL q0 (List.mem_of_getElem? (i := 0) rfl)
  have S_q1 := hSL q1 (List.mem_of_getElem? (i := 1) rfl)
  have S_q2 := hSL q2 (List.mem_of_getElem? (i := 2) rfl)
  have S_q3 := hSL q3 (List.mem_of_getElem? (i := 3) rfl)
  refine kALn X0 d4_0 rfl rfl ?_
  refine kVIRT X0 (gEL G) (argsL := []) (rest := []) (wd G 30 rfl) (wd G 31 rfl) (own_nf X0.hZ (own_noinst (wd G 6 rfl))) (wd G 33 rfl) (wd G 32 rfl) (wd G 7 rfl) (wd G 34 rfl) (by decide) E_q0 (rm98 G i0 i1 q0 q2 kp0 h0 X0.n O0 F_q0_value A_q2) all0 (lenOf pd___Z rfl) rfl 0 rfl (by decide) hml.symm d4_1 (fun v1 T2 h3 vm4 _ w5 q6 C7 C8 X9 => ?_)
  obtain ⟨e11, f12⟩ := q6
  subst e11
  subst f12
  show Go _ _ _ _ _ (mkF _ _ _ [.int 0])
  refine kIFt X9 12 d4_4 (XT.i0_eq_t (by decide)) (by decide) ?_
  refine kALn X9 d4_12 rfl rfl ?_
  refine kVIRT X9 (gEL G) (argsL := []) (rest := []) (wd G 30 rfl) (wd G 31 rfl) (own_nf X9.hZ (own_noinst (wd G 6 rfl))) (wd G 33 rfl) (wd G 32 rfl) (wd G 7 rfl) (wd G 34 rfl) (by decide) E_q1 (rm98 G i2 i3 q1 q3 kp1 h0 X9.n O0 F_q1_value A_q3) all0 (lenOf pd___Z rfl) rfl 0 rfl (by decide) hml.symm d4_13 (fun v13 T14 h15 vm16 _ w17 q18 C19 C20 X21 => ?_)
  obtain ⟨e23, f24⟩ := q18
  subst e23
  subst f24
  show Go _ _ _ _ _ (mkF _ _ _ [.int 0])
  refine kIFt X21 24 d4_16 (XT.i0_eq_t (by decide)) (by decide) ?_
  refine kNEW X21 (wd G 59 rfl) (wd G 60 rfl) (wd G 61 rfl) d4_24 (by decide) (by decide) (fun T25 h26 a28 E29 q30 g31 A32 D33 s34 X27 => ?_)
  have n35 : q0 ≠ a28 := Nat.ne_of_lt (Nat.lt_of_lt_of_le (E_q0.lt) (Nat.le_of_eq q30.symm))
  have n36 : q1 ≠ a28 := Nat.ne_of_lt (Nat.lt_of_lt_of_le (E_q1.lt) (Nat.le_of_eq q30.symm))
  have n37 : q2 ≠ a28 := Nat.ne_of_lt (Nat.lt_of_lt_of_le (A_q2.lt) (Nat.le_of_eq q30.symm))
  have n38 : q3 ≠ a28 := Nat.ne_of_lt (Nat.lt_of_lt_of_le (A_q3.lt) (Nat.le_of_eq q30.symm))
  have g39 : h0.size ≤ a28 := q30 ▸ X21.g0
  have f40 : Fld Z h26 a28 "java/lang/AbstractStringBuilder" "value" "[B" (.null) := D33 (Or.inl (wd G 74 rfl)) (ty := (.array (.byte))) (by decide)
  have f41 : Fld Z h26 a28 "java/lang/AbstractStringBuilder" "coder" "B" (.int 0) := D33 (Or.inl (wd G 76 rfl)) (ty := .byte) (by decide)
  have f42 : Fld Z h26 a28 "java/lang/AbstractStringBuilder" "count" "I" (.int 0) := D33 (Or.inl (wd G 89 rfl)) (ty := .int) (by decide)
  refine kDUP X27 d4_27 rfl ?_
  have f43 := (Old.ext O0 E29)
  refine kSPEC X27 (gEL G) (argsL := []) (rest := [.ref a28]) (wd G 62 rfl) (wd G 63 rfl) (wd G 61 rfl) (wd G 64 rfl) rfl (by decide) (rm54 G a28 h26 X27.n f43 A32 f40 f41 f42 g31) all0 (lenOf pd___V rfl) rfl 1 rfl (by decide) hml.symm d4_28 (fun v44 T45 h46 vm47 _ w48 q49 C50 C51 X52 => ?_)
  obtain ⟨a54, k55, e56, f57, f58, f59, f60, f61, f62, f63⟩ := q49
  subst e56
  have f65 := (Exa.ext E29 E_q0)
  have n64 : q0 ≠ a54 := Nat.ne_of_lt (Nat.lt_of_lt_of_le (f65.lt) f58)
  have f67 := (Exa.ext E29 E_q1)
  have n66 : q1 ≠ a54 := Nat.ne_of_lt (Nat.lt_of_lt_of_le (f67.lt) f58)
  have f69 := (Arv.ext A_q2 E29)
  have n68 : q2 ≠ a54 := Nat.ne_of_lt (Nat.lt_of_lt_of_le (f69.lt) f58)
  have f71 := (Arv.ext A_q3 E29)
  have n70 : q3 ≠ a54 := Nat.ne_of_lt (Nat.lt_of_lt_of_le (f71.lt) f58)
  have n72 : a28 ≠ a54 := Nat.ne_of_lt (Nat.lt_of_lt_of_le (A32.lt) f58)
  have g73 : n0 ≤ a54 := Nat.le_trans X27.n f58
  have g74 : h0.size ≤ a54 := Nat.le_trans X27.g0 f58
  show Go _ _ _ _ _ (mkF _ _ _ [.ref a28])
  refine kALn X52 d4_31 rfl rfl ?_
  have f75 := (Fld.keep (Fld.ext E29 F_q0_value) f57 (ninS n35 nin0))
  have f76 := (Arv.keep f69 f57 (ninS n37 nin0))
  have f77 := (Fld.keep (Fld.ext E29 F_q0_coder) f57 (ninS n35 nin0))
  have f78 := (Exa.keep f65 f57)
  have f79 := (Exa.keep A32 f57)
  have f80 := (Old.keep f43 f57 (allS g31 all0))
  refine kVIRT X52 (gEL G) (argsL := [.ref q0]) (rest := []) (wd G 77 rfl) (wd G 78 rfl) (own_nf X52.hZ (own_noinst (wd G 60 rfl))) (wd G 80 rfl) (wd G 79 rfl) (wd G 61 rfl) (wd G 81 rfl) (by decide) f79 (rm136 G i0 i1 a28 q0 a54 q2 k55 kp0 h46 X52.n f80 f75 f76 f77 f78 f62 f63 f59 f61 f79 n72 g31 g73) (allS ⟨(f59.lt), f60⟩ all0) (lenOf pd__Ljava_lang_String__Ljava_lang_StringBuilder_ rfl) rfl 0 rfl (by decide) hml.symm d4_32 (fun v81 T82 h83 vm84 _ w85 q86 C87 C88 X89 => ?_)
  obtain ⟨e91, f92, f93, f94, f95, f96⟩ := q86
  subst e91
  show Go _ _ _ _ _ (mkF _ _ _ [.ref a28])
  refine kLDCT X89 (gEL G) (wd G 115 rfl) (gSA G) (by decide) (text := " ") (vs := [.int 32]) (z := 1) (by decide) (by decide) (by decide) d4_35 (n := 4) (by decide) (by decide) (by decide) (by decide) (fun T97 h98 vm100 a101 b102 k103 E104 C105 f106 f107 f108 f109 n110 X99 => ?_)
  have f111 := (CHr.safe C105 ((Exa.keep f78 f92)).lt (CHr.safe C88 (f78.lt) (CHr.safe C51 (f65.lt) (Safe.ext E29 X21.C.1 (CHr.safe C20 (E_q0.lt) (CHr.safe C8 (E_q0.lt) S_q0))))))
  have n112 := (n110 q0 f111).1
  have n113 := (n110 q0 f111).2
  have f114 := (CHr.safe C105 ((Exa.keep (Exa.keep f67 f57) f92)).lt (CHr.safe C88 ((Exa.keep f67 f57)).lt (CHr.safe C51 (f67.lt) (Safe.ext E29 X21.C.1 (CHr.safe C20 (F_q1_value.lt) (CHr.safe C8 (F_q1_coder.lt) S_q1))))))
  have n115 := (n110 q1 f114).1
  have n116 := (n110 q1 f114).2
  have f117 := (CHr.safe C105 ((Arv.keep f76 f92 (ninS n68 (ninS n37 nin0)))).lt (CHr.safe C88 (f76.lt) (CHr.safe C51 (f69.lt) (Safe.ext E29 X21.C.1 (CHr.safe C20 (A_q2.lt) (CHr.safe C8 (A_q2.lt) S_q2))))))
  have n118 := (n110 q2 f117).1
  have n119 := (n110 q2 f117).2
  have f120 := (CHr.safe C105 ((Arv.keep (Arv.keep f71 f57 (ninS n38 nin0)) f92 (ninS n70 (ninS n38 nin0)))).lt (CHr.safe C88 ((Arv.keep f71 f57 (ninS n38 nin0))).lt (CHr.safe C51 (f71.lt) (Safe.ext E29 X21.C.1 (CHr.safe C20 (A_q3.lt) (CHr.safe C8 (A_q3.lt) S_q3))))))
  have n121 := (n110 q3 f120).1
  have n122 := (n110 q3 f120).2
  have f123 := (Exa.ext E104 (Exa.keep f79 f92))
  have n124 := (n110 a28 (Safe.exa X99.hZ.alike f123 (by decide) (by decide))).1
  have n125 := (n110 a28 (Safe.exa X99.hZ.alike f123 (by decide) (by decide))).2
  have f126 := (CHr.safe C105 (f93.lt) (CHr.safe C88 (f59.lt) f60))
  have n127 := (n110 a54 f126).1
  have n128 := (n110 a54 f126).2
  have n129 : ∀ x, x < h0.size → Safe Z EL0 s.vm h0 x → x ≠ b102 := fun x hx S => (n110 x (CHr.safe (hs0 ▸ X99.C) hx S)).2
  have f130 := (Fld.ext E104 f95)
  have f131 := (Fld.ext E104 f96)
  have f132 := (Arv.ext f93 E104)
  have f133 := (Fld.ext E104 f94)
  have f134 := (Old.ext (Old.keep f80 f92 (allS g73 (allS g31 all0))) E104)
  refine kVIRT X99 (gEL G) (argsL := [.ref a101]) (rest := []) (wd G 77 rfl) (wd G 78 rfl) (own_nf X99.hZ (own_noinst (wd G 60 rfl))) (wd G 80 rfl) (wd G 79 rfl) (wd G 61 rfl) (wd G 81 rfl) (by decide) f123 (rm142 G i0 i1 a28 a101 a54 b102 k55 k103 h98 X99.n f134 f108 f109 f107 f106 f130 f131 f132 f133 f123 n72 g31 g73) (allS ⟨(f132.lt), f126⟩ all0) (lenOf pd__Ljava_lang_String__Ljava_lang_StringBuilder_ rfl) rfl 0 rfl (by decide) hml.symm d4_37 (fun v135 T136 h137 vm138 _ w139 q140 C141 C142 X143 => ?_)
  obtain ⟨e145, f146, f147, f148, f149, f150⟩ := q140
  subst e145
  show Go _ _ _ _ _ (mkF _ _ _ [.ref a28])
  refine kALn X143 d4_40 rfl rfl ?_
  have f151 := (Fld.keep (Fld.ext E104 (Fld.keep (Fld.keep (Fld.ext E29 F_q1_value) f57 (ninS n36 nin0)) f92 (ninS n66 (ninS n36 nin0)))) f146 (ninS n66 (ninS n36 nin0)))
  have f152 := (Arv.keep (Arv.ext (Arv.keep (Arv.keep f71 f57 (ninS n38 nin0)) f92 (ninS n70 (ninS n38 nin0))) E104) f146 (ninS n70 (ninS n38 nin0)))
  have f153 := (Fld.keep (Fld.ext E104 (Fld.keep (Fld.keep (Fld.ext E29 F_q1_coder) f57 (ninS n36 nin0)) f92 (ninS n66 (ninS n36 nin0)))) f146 (ninS n66 (ninS n36 nin0)))
  have f154 := (Exa.keep (Exa.ext E104 (Exa.keep (Exa.keep f67 f57) f92)) f146)
  have f155 := (Exa.keep f123 f146)
  have f156 := (Old.keep f134 f146 (allS g73 (allS g31 all0)))
  have f166 := (CHr.safe C142 (f132.lt) f126)
  refine kVIRT X143 (gEL G) (argsL := [.ref q1]) (rest := []) (wd G 77 rfl) (wd G 78 rfl) (own_nf X143.hZ (own_noinst (wd G 60 rfl))) (wd G 80 rfl) (wd G 79 rfl) (wd G 61 rfl) (wd G 81 rfl) (by decide) f155 (rm175 G i0 i1 i2 i3 a28 q1 a54 q3 k55 kp1 h137 X143.n f156 f151 f152 f153 f154 f149 f150 f147 f148 f155 n72 g31 g73) (allS ⟨(f147.lt), f166⟩ all0) (lenOf pd__Ljava_lang_String__Ljava_lang_StringBuilder_ rfl) rfl 0 rfl (by decide) hml.symm d4_41 (fun v157 T158 h159 vm160 _ w161 q162 C163 C164 X165 => ?_)
  obtain ⟨e168, f169, f170, f171, f172, f173⟩ := q162
  subst e168
  show Go _ _ _ _ _ (mkF _ _ _ [.ref a28])
  have f174 := (Exa.keep f155 f169)
  have f175 := (Old.keep f156 f169 (allS g73 (allS g31 all0)))
  refine kVIRT X165 (gEL G) (argsL := []) (rest := []) (wd G 116 rfl) (wd G 117 rfl) (own_nf X165.hZ (own_noinst (wd G 60 rfl))) (wd G 119 rfl) (wd G 118 rfl) (wd G 61 rfl) (wd G 120 rfl) (by decide) f174 (rm181 G i0 i1 i2 i3 a28 a54 k55 h159 X165.n f175 f174 f170 f173 f172 f171) all0 (lenOf pd___Ljava_lang_String_ rfl) rfl 0 rfl (by decide) hml.symm d4_44 (fun v176 T177 h178 vm179 _ w180 q181 C182 C183 X184 => ?_)
  obtain ⟨a186, a187, k188, e189, f190, f191, f192, f193, f194, f195, f196, f197, f198, f199⟩ := q181
  subst e189
  have f201 := (Exa.keep (Exa.keep (Exa.ext E104 (Exa.keep f78 f92)) f146) f169)
  have n200 : q0 ≠ a186 := Nat.ne_of_lt (Nat.lt_of_lt_of_le (f201.lt) f191)
  have f203 := (Exa.keep f154 f169)
  have n202 : q1 ≠ a186 := Nat.ne_of_lt (Nat.lt_of_lt_of_le (f203.lt) f191)
  have f205 := (Arv.keep (Arv.keep (Arv.ext (Arv.keep f76 f92 (ninS n68 (ninS n37 nin0))) E104) f146 (ninS n68 (ninS n37 nin0))) f169 (ninS n68 (ninS n37 nin0)))
  have n204 : q2 ≠ a186 := Nat.ne_of_lt (Nat.lt_of_lt_of_le (f205.lt) f191)
  have f207 := (Arv.keep f152 f169 (ninS n70 (ninS n38 nin0)))
  have n206 : q3 ≠ a186 := Nat.ne_of_lt (Nat.lt_of_lt_of_le (f207.lt) f191)
  have n208 : a28 ≠ a186 := Nat.ne_of_lt (Nat.lt_of_lt_of_le (f174.lt) f191)
  have n209 : a54 ≠ a186 := Nat.ne_of_lt (Nat.lt_of_lt_of_le (f170.lt) f191)
  have f211 := (Exa.keep (Exa.keep f106 f146) f169)
  have n210 : a101 ≠ a186 := Nat.ne_of_lt (Nat.lt_of_lt_of_le (f211.lt) f191)
  have f213 := (Arv.keep (Arv.keep f109 f146 (ninS (Ne.symm n128) (ninS (Ne.symm n125) nin0))) f169 (ninS (Ne.symm n128) (ninS (Ne.symm n125) nin0)))
  have n212 : b102 ≠ a186 := Nat.ne_of_lt (Nat.lt_of_lt_of_le (f213.lt) f191)
  have n214 : q0 ≠ a187 := Nat.ne_of_lt (Nat.lt_of_lt_of_le (f201.lt) f192)
  have n215 : q1 ≠ a187 := Nat.ne_of_lt (Nat.lt_of_lt_of_le (f203.lt) f192)
  have n216 : q2 ≠ a187 := Nat.ne_of_lt (Nat.lt_of_lt_of_le (f205.lt) f192)
  have n217 : q3 ≠ a187 := Nat.ne_of_lt (Nat.lt_of_lt_of_le (f207.lt) f192)
  have n218 : a28 ≠ a187 := Nat.ne_of_lt (Nat.lt_of_lt_of_le (f174.lt) f192)
  have n219 : a54 ≠ a187 := Nat.ne_of_lt (Nat.lt_of_lt_of_le (f170.lt) f192)
  have n220 : a101 ≠ a187 := Nat.ne_of_lt (Nat.lt_of_lt_of_le (f211.lt) f192)
  have n221 : b102 ≠ a187 := Nat.ne_of_lt (Nat.lt_of_lt_of_le (f213.lt) f192)
  have g222 : n0 ≤ a186 := Nat.le_trans X165.n f191
  have g223 : h0.size ≤ a186 := Nat.le_trans X165.g0 f191
  have g224 : n0 ≤ a187 := Nat.le_trans X165.n f192
  have g225 : h0.size ≤ a187 := Nat.le_trans X165.g0 f192
  show Go _ _ _ _ _ (mkF _ _ _ [.ref a186])
  refine kASn X184 #[.val (.ref q0), .val (.ref q1), .val (.ref a186)] d4_47 rfl rfl ?_
  refine kALn X184 d4_48 rfl rfl ?_
  have K226 : Keep h0 h178 [] := (Keep.trans (Keep.trans (Keep.trans (Keep.ext (Keep.trans (Keep.trans (Keep.ext (Keep.refl h0 []) E29) f57 (allS (Or.inr g39) all0)) f92 (allS (Or.inr g74) (allS (Or.inr g39) all0))) E104) f146 (allS (Or.inr g74) (allS (Or.inr g39) all0))) f169 (allS (Or.inr g74) (allS (Or.inr g39) all0))) f190 all0)
  exact kRETA X184 (gEL G) hret rfl rfl d4_49 (fun ve hve => ⟨a186, a187, k188, rfl, K226, g223, g225, f193, f194, f195, f196, (CHr.safe hve (f194.lt) f197), f198, (CHr.safe hve (f198.lt) f199)⟩) (by decide)
def R_rm193 : Room := { frames := 0, cells := 0, slots := 0, locals := 0 }
theorem rm193 (G : Glob Z a0 iCS vSI) (i0 i1 i2 i3 : Int32) (q0 q1 : Addr) (kp0 : ClassId) (h0 : Heap) (Z0 : n0 ≤ h0.size) (O0 : Old Z n0 h0) (F_q0_coder : Fld Z h0 q0 "java/lang/String" "coder" "B" (.int 0)) : MetH l Z EL0 n0 N_jdk_42_m_152 jdk_42_method_152_code 1 (some .byte) [] R_rm193 #[.ref q0] h0 [] (fun vs v h ve => (v = some (.int 0) ∧ (h0 = h))) := by
  refine MetH.of #[.val (.ref q0)] (plainFor_of_name pn_java_lang_String) rfl Z0 (fun p e s m below meth c T0 hret hml hnm hSL hs0 X0 => ?_)
  refine kGETS X0 (wd G 45 rfl) Via.refl (Sta.ext O0.2 (S_CS G)) d7_0 (fun T1 X2 => ?_)
  refine kIFf X2 d7_3 (XT.i0_eq_f (n_CS G)) ?_
  refine kALn X2 d7_6 rfl rfl ?_
  refine kGETF X2 (wd G 25 rfl) Via.refl F_q0_coder d7_7 (fun T3 X4 => ?_)
  refine kGOTO X4 14 d7_10 (by decide) ?_
  exact kRETZ X4 (gEL G) (t := .byte) hret (by simp) d7_14 (fun ve hve => ⟨rfl, rfl⟩) (by decide)
def R_rm192 : Room := { frames := 1, cells := 0, slots := 0, locals := 13 }
theorem rm192 (G : Glob Z a0 iCS vSI) (i0 i1 i2 i3 : Int32) (q0 q1 : Addr) (kp0 : ClassId) (h0 : Heap) (Z0 : n0 ≤ h0.size) (O0 : Old Z n0 h0) (F_q0_value : Fld Z h0 q0 "java/lang/String" "value" "[B" (.ref q1)) (A_q1 : Arv Z h0 q1 kp0 .byte 5 [.int i0, .int i1, .int 32, .int i2, .int i3] (.int 0)) (F_q0_coder : Fld Z h0 q0 "java/lang/String" "coder" "B" (.int 0)) (E_q0 : Exa Z h0 q0 "java/lang/String") : MetH l Z EL0 n0 N_jdk_42_m_54 jdk_42_method_54_code 1 (some .int) [] R_rm192 #[.ref q0] h0 [] (fun vs v h ve => (v = some (.int 5) ∧ (h0 = h))) := by
  refine MetH.of #[.val (.ref q0)] (plainFor_of_name pn_java_lang_String) rfl Z0 (fun p e s m below meth c T0 hret hml hnm hSL hs0 X0 => ?_)
  refine kALn X0 d6_0 rfl rfl ?_
  refine kGETF X0 (wd G 24 rfl) Via.refl F_q0_value d6_1 (fun T1 X2 => ?_)
  refine kLEN X2 A_q1 d6_4 ?_
  refine kALn X2 d6_5 rfl rfl ?_
  refine kVIRT X2 (gEL G) (argsL := []) (rest := [.int 5]) (wd G 40 rfl) (wd G 41 rfl) (own_nf X2.hZ (own_noinst (wd G 6 rfl))) (wd G 43 rfl) (wd G 42 rfl) (wd G 7 rfl) (wd G 44 rfl) (by decide) E_q0 (rm193 G i0 i1 i2 i3 q0 q1 kp0 h0 X2.n O0 F_q0_coder) all0 (lenOf pd___B rfl) rfl 1 rfl (by decide) hml.symm d6_6 (fun v3 T4 h5 vm6 _ w7 q8 C9 C10 X11 => ?_)
  obtain ⟨e13, f14⟩ := q8
  subst e13
  subst f14
  show Go _ _ _ _ _ (mkF _ _ _ [.int 0, .int 5])
  refine kISHR X11 5 d6_9 (by decide) ?_
  exact kRETI X11 (gEL G) hret d6_10 (fun ve hve => ⟨rfl, rfl⟩) (by decide)
def R_rm195 : Room := { frames := 0, cells := 0, slots := 0, locals := 0 }
theorem rm195 (G : Glob Z a0 iCS vSI) (i0 i1 i2 i3 : Int32) (q0 q1 : Addr) (kp0 kp1 : ClassId) (h0 : Heap) (Z0 : n0 ≤ h0.size) (O0 : Old Z n0 h0) (A_q0 : Arv Z h0 q0 kp0 .char 2 [.int i0, .int i1] (.int 0)) (c_0 : ¬ (255 : Int32) < i0) (c_4 : ¬ i0 < 0) : MetH l Z EL0 n0 N_m_5 method_5_code 6 (some .char) [] R_rm195 #[.int 0, .ref q0, .int 2, .ref q1, .int 2] h0 [] (fun vs v h ve => (v = some (.int i0) ∧ (h0 = h))) := by
  refine MetH.of #[.val (.int 0), .val (.ref q0), .val (.int 2), .val (.ref q1), .val (.int 2), .unset] (plainFor_of_name pn_com_example_tight_calculus_tightcalculus_ReportWordsPinLaw) rfl Z0 (fun p e s m below meth c T0 hret hml hnm hSL hs0 X0 => ?_)
  refine kILn X0 d36_0 rfl ?_
  refine kILn X0 d36_1 rfl ?_
  refine kICf X0 d36_2 (XT.ii_ge_f (by decide)) ?_
  refine kALn X0 d36_5 rfl rfl ?_
  refine kILn X0 d36_6 rfl ?_
  refine kCALD X0 (.int i0) A_q0 (by decide) rfl d36_7 ?_
  refine kIS X0 #[.val (.int 0), .val (.ref q0), .val (.int 2), .val (.ref q1), .val (.int 2), .val (.int i0)] d36_8 rfl ?_
  refine kGOTO X0 53 d36_10 (by decide) ?_
  refine kIL X0 d36_53 rfl ?_
  exact kRETZ X0 (gEL G) (t := .char) hret (by simp) d36_55 (fun ve hve => ⟨(by rw [(own_nc c_0 c_4)]), rfl⟩) (by decide)
def R_rm194 : Room := { frames := 4, cells := 0, slots := 0, locals := 53 }
theorem rm194 (G : Glob Z a0 iCS vSI) (i0 i1 i2 i3 i4 i5 i6 i7 : Int32) (q0 q1 q2 q3 : Addr) (kp0 kp1 kp2 : ClassId) (h0 : Heap) (Z0 : n0 ≤ h0.size) (O0 : Old Z n0 h0) (F_q0_coder : Fld Z h0 q0 "java/lang/String" "coder" "B" (.int 0)) (E_q0 : Exa Z h0 q0 "java/lang/String") (F_q0_value : Fld Z h0 q0 "java/lang/String" "value" "[B" (.ref q3)) (A_q3 : Arv Z h0 q3 kp2 .byte 5 [.int i4, .int i5, .int 32, .int i6, .int i7] (.int 0)) (c_0 : ¬ (255 : Int32) < i0) (c_4 : ¬ i0 < 0) (c_1 : ¬ (255 : Int32) < i1) (c_5 : ¬ i1 < 0) (c_2 : ¬ (255 : Int32) < i2) (c_6 : ¬ i2 < 0) (c_3 : ¬ (255 : Int32) < i3) (c_7 : ¬ i3 < 0) (A_q1 : Arv Z h0 q1 kp0 .char 2 [.int i0, .int i1] (.int 0)) : MetH l Z EL0 n0 N_m_4 method_4_code 7 (some .boolean) [] R_rm194 #[.ref q0, .int 0, .int 5, .ref q1, .int 2, .ref q2, .int 2] h0 [] (fun vs v h ve => (v = some (.int 1) ∧ ((i4 &&& (255 : Int32)) = i0) ∧ (h0 = h)) ∨ (v = some (.int 0) ∧ (¬ (i4 &&& (255 : Int32)) = i0) ∧ (h0 = h))) := by
  refine MetH.of #[.val (.ref q0), .val (.int 0), .val (.int 5), .val (.ref q1), .val (.int 2), .val (.ref q2), .val (.int 2)] (plainFor_of_name pn_com_example_tight_calculus_tightcalculus_ReportWordsPinLaw) rfl Z0 (fun p e s m below meth c T0 hret hml hnm hSL hs0 X0 => ?_)
  refine kILn X0 d8_0 rfl ?_
  refine kILn X0 d8_1 rfl ?_
  refine kICt X0 7 d8_2 (XT.ii_lt_t (by decide)) (by decide) ?_
  refine kALn X0 d8_7 rfl rfl ?_
  refine kILn X0 d8_8 rfl ?_
  refine kVIRT X0 (gEL G) (argsL := [.int 0]) (rest := []) (wd G 161 rfl) (wd G 162 rfl) (own_nf X0.hZ (own_noinst (wd G 6 rfl))) (wd G 164 rfl) (wd G 163 rfl) (wd G 7 rfl) (wd G 165 rfl) (by decide) E_q0 (gm_ca2 G (0 : Int32) (5 : Int32) i4 (i4 &&& (255 : Int32)) ([.int i4, .int i5, .int 32, .int i6, .int i7]) q0 q3 kp2 h0 X0.n O0 rfl rfl F_q0_coder E_q0 F_q0_value A_q3 (by decide) (by decide)) all0 (lenOf pd__I_C rfl) rfl 0 rfl (by decide) hml.symm d8_9 (fun v1 T2 h3 vm4 _ w5 q6 C7 C8 X9 => ?_)
  obtain ⟨e11, f12⟩ := q6
  subst e11
  subst f12
  show Go _ _ _ _ _ (mkF _ _ _ [.int (i4 &&& (255 : Int32))])
  refine kILn X9 d8_12 rfl ?_
  refine kALn X9 d8_13 rfl rfl ?_
  refine kIL X9 d8_14 rfl ?_
  refine kAL X9 d8_16 rfl rfl ?_
  refine kIL X9 d8_18 rfl ?_
  refine kSTAT X9 (gEL G) (argsL := [.int 0, .ref q1, .int 2, .ref q2, .int 2]) (rest := [.int (i4 &&& (255 : Int32))]) (wd G 183 rfl) (wd G 184 rfl) (wd G 2 rfl) (wd G 185 rfl) (by decide) (rm195 G i0 i1 i2 i3 q1 q2 kp0 kp1 h0 X9.n O0 A_q1 c_0 c_4) all0 (lenOf pd__I_CI_CI_C rfl) rfl 1 rfl (by decide) hml.symm d8_20 (fun v13 T14 h15 vm16 _ w17 q18 C19 C20 X21 => ?_)
  obtain ⟨e23, f24⟩ := q18
  subst e23
  subst f24
  show Go _ _ _ _ _ (mkF _ _ _ [.int i0, .int (i4 &&& (255 : Int32))])
  by_cases c25 : (i4 &&& (255 : Int32)) = i0
  · refine kICf X21 d8_23 (XT.ii_ne_f c25) ?_
    refine kIC X21 1 d8_26 (by decide) ?_
    refine kGOTO X21 31 d8_27 (by decide) ?_
    exact kRETZ X21 (gEL G) (t := .boolean) hret (by simp) d8_31 (fun ve hve => Or.inl (⟨rfl, c25, rfl⟩)) (by decide)
  · refine kICt X21 30 d8_23 (XT.ii_ne_t c25) (by decide) ?_
    refine kIC X21 0 d8_30 (by decide) ?_
    exact kRETZ X21 (gEL G) (t := .boolean) hret (by simp) d8_31 (fun ve hve => Or.inr (⟨rfl, c25, rfl⟩)) (by decide)
def R_rm197 : Room := { frames := 0, cells := 0, slots := 0, locals := 0 }
theorem rm197 (G : Glob Z a0 iCS vSI) (i0 i1 i2 i3 : Int32) (q0 q1 : Addr) (kp0 kp1 : ClassId) (h0 : Heap) (Z0 : n0 ≤ h0.size) (O0 : Old Z n0 h0) (A_q0 : Arv Z h0 q0 kp0 .char 2 [.int i0, .int i1] (.int 0)) (c_1 : ¬ (255 : Int32) < i1) (c_5 : ¬ i1 < 0) : MetH l Z EL0 n0 N_m_5 method_5_code 6 (some .char) [] R_rm197 #[.int 1, .ref q0, .int 2, .ref q1, .int 2] h0 [] (fun vs v h ve => (v = some (.int i1) ∧ (h0 = h))) := by
  refine MetH.of #[.val (.int 1), .val (.ref q0), .val (.int 2), .val (.ref q1), .val (.int 2), .unset] (plainFor_of_name pn_com_example_tight_calculus_tightcalculus_ReportWordsPinLaw) rfl Z0 (fun p e s m below meth c T0 hret hml hnm hSL hs0 X0 => ?_)
  refine kILn X0 d36_0 rfl ?_
  refine kILn X0 d36_1 rfl ?_
  refine kICf X0 d36_2 (XT.ii_ge_f (by decide)) ?_
  refine kALn X0 d36_5 rfl rfl ?_
  refine kILn X0 d36_6 rfl ?_
  refine kCALD X0 (.int i1) A_q0 (by decide) rfl d36_7 ?_
  refine kIS X0 #[.val (.int 1), .val (.ref q0), .val (.int 2), .val (.ref q1), .val (.int 2), .val (.int i1)] d36_8 rfl ?_
  refine kGOTO X0 53 d36_10 (by decide) ?_
  refine kIL X0 d36_53 rfl ?_
  exact kRETZ X0 (gEL G) (t := .char) hret (by simp) d36_55 (fun ve hve => ⟨(by rw [(own_nc c_1 c_5)]), rfl⟩) (by decide)
def R_rm196 : Room := { frames := 4, cells := 0, slots := 0, locals := 53 }
theorem rm196 (G : Glob Z a0 iCS vSI) (i0 i1 i2 i3 i4 i5 i6 i7 : Int32) (q0 q1 q2 q3 : Addr) (kp0 kp1 kp2 : ClassId) (h0 : Heap) (Z0 : n0 ≤ h0.size) (O0 : Old Z n0 h0) (F_q0_coder : Fld Z h0 q0 "java/lang/String" "coder" "B" (.int 0)) (E_q0 : Exa Z h0 q0 "java/lang/String") (F_q0_value : Fld Z h0 q0 "java/lang/String" "value" "[B" (.ref q3)) (A_q3 : Arv Z h0 q3 kp2 .byte 5 [.int i4, .int i5, .int 32, .int i6, .int i7] (.int 0)) (c_0 : ¬ (255 : Int32) < i0) (c_4 : ¬ i0 < 0) (c_1 : ¬ (255 : Int32) < i1) (c_5 : ¬ i1 < 0) (c_2 : ¬ (255 : Int32) < i2) (c_6 : ¬ i2 < 0) (c_3 : ¬ (255 : Int32) < i3) (c_7 : ¬ i3 < 0) (A_q1 : Arv Z h0 q1 kp0 .char 2 [.int i0, .int i1] (.int 0)) : MetH l Z EL0 n0 N_m_4 method_4_code 7 (some .boolean) [] R_rm196 #[.ref q0, .int 1, .int 5, .ref q1, .int 2, .ref q2, .int 2] h0 [] (fun vs v h ve => (v = some (.int 1) ∧ ((i5 &&& (255 : Int32)) = i1) ∧ (h0 = h)) ∨ (v = some (.int 0) ∧ (¬ (i5 &&& (255 : Int32)) = i1) ∧ (h0 = h))) := by
  refine MetH.of #[.val (.ref q0), .val (.int 1), .val (.int 5), .val (.ref q1), .val (.int 2), .val (.ref q2), .val (.int 2)] (plainFor_of_name pn_com_example_tight_calculus_tightcalculus_ReportWordsPinLaw) rfl Z0 (fun p e s m below meth c T0 hret hml hnm hSL hs0 X0 => ?_)
  refine kILn X0 d8_0 rfl ?_
  refine kILn X0 d8_1 rfl ?_
  refine kICt X0 7 d8_2 (XT.ii_lt_t (by decide)) (by decide) ?_
  refine kALn X0 d8_7 rfl rfl ?_
  refine kILn X0 d8_8 rfl ?_
  refine kVIRT X0 (gEL G) (argsL := [.int 1]) (rest := []) (wd G 161 rfl) (wd G 162 rfl) (own_nf X0.hZ (own_noinst (wd G 6 rfl))) (wd G 164 rfl) (wd G 163 rfl) (wd G 7 rfl) (wd G 165 rfl) (by decide) E_q0 (gm_ca2 G (1 : Int32) (5 : Int32) i5 (i5 &&& (255 : Int32)) ([.int i4, .int i5, .int 32, .int i6, .int i7]) q0 q3 kp2 h0 X0.n O0 rfl rfl F_q0_coder E_q0 F_q0_value A_q3 (by decide) (by decide)) all0 (lenOf pd__I_C rfl) rfl 0 rfl (by decide) hml.symm d8_9 (fun v1 T2 h3 vm4 _ w5 q6 C7 C8 X9 => ?_)
  obtain ⟨e11, f12⟩ := q6
  subst e11
  subst f12
  show Go _ _ _ _ _ (mkF _ _ _ [.int (i5 &&& (255 : Int32))])
  refine kILn X9 d8_12 rfl ?_
  refine kALn X9 d8_13 rfl rfl ?_
  refine kIL X9 d8_14 rfl ?_
  refine kAL X9 d8_16 rfl rfl ?_
  refine kIL X9 d8_18 rfl ?_
  refine kSTAT X9 (gEL G) (argsL := [.int 1, .ref q1, .int 2, .ref q2, .int 2]) (rest := [.int (i5 &&& (255 : Int32))]) (wd G 183 rfl) (wd G 184 rfl) (wd G 2 rfl) (wd G 185 rfl) (by decide) (rm197 G i0 i1 i2 i3 q1 q2 kp0 kp1 h0 X9.n O0 A_q1 c_1 c_5) all0 (lenOf pd__I_CI_CI_C rfl) rfl 1 rfl (by decide) hml.symm d8_20 (fun v13 T14 h15 vm16 _ w17 q18 C19 C20 X21 => ?_)
  obtain ⟨e23, f24⟩ := q18
  subst e23
  subst f24
  show Go _ _ _ _ _ (mkF _ _ _ [.int i1, .int (i5 &&& (255 : Int32))])
  by_cases c25 : (i5 &&& (255 : Int32)) = i1
  · refine kICf X21 d8_23 (XT.ii_ne_f c25) ?_
    refine kIC X21 1 d8_26 (by decide) ?_
    refine kGOTO X21 31 d8_27 (by decide) ?_
    exact kRETZ X21 (gEL G) (t := .boolean) hret (by simp) d8_31 (fun ve hve => Or.inl (⟨rfl, c25, rfl⟩)) (by decide)
  · refine kICt X21 30 d8_23 (XT.ii_ne_t c25) (by decide) ?_
    refine kIC X21 0 d8_30 (by decide) ?_
    exact kRETZ X21 (gEL G) (t := .boolean) hret (by simp) d8_31 (fun ve hve => Or.inr (⟨rfl, c25, rfl⟩)) (by decide)
def R_rm199 : Room := { frames := 0, cells := 0, slots := 0, locals := 0 }
theorem rm199 (G : Glob Z a0 iCS vSI) (i0 i1 i2 i3 : Int32) (q0 q1 : Addr) (kp0 kp1 : ClassId) (h0 : Heap) (Z0 : n0 ≤ h0.size) (O0 : Old Z n0 h0)  : MetH l Z EL0 n0 N_m_5 method_5_code 6 (some .char) [] R_rm199 #[.int 2, .ref q0, .int 2, .ref q1, .int 2] h0 [] (fun vs v h ve => (v = some (.int 32) ∧ (h0 = h))) := by
  refine MetH.of #[.val (.int 2), .val (.ref q0), .val (.int 2), .val (.ref q1), .val (.int 2), .unset] (plainFor_of_name pn_com_example_tight_calculus_tightcalculus_ReportWordsPinLaw) rfl Z0 (fun p e s m below meth c T0 hret hml hnm hSL hs0 X0 => ?_)
  refine kILn X0 d36_0 rfl ?_
  refine kILn X0 d36_1 rfl ?_
  refine kICt X0 13 d36_2 (XT.ii_ge_t (by decide)) (by decide) ?_
  refine kILn X0 d36_13 rfl ?_
  refine kIFf X0 d36_14 (XT.i0_le_f (by decide)) ?_
  refine kIL X0 d36_17 rfl ?_
  refine kIFf X0 d36_19 (XT.i0_le_f (by decide)) ?_
  refine kILn X0 d36_22 rfl ?_
  refine kILn X0 d36_23 rfl ?_
  refine kICf X0 d36_24 (XT.ii_ne_f (by decide)) ?_
  refine kBI X0 32 d36_27 (by decide) ?_
  refine kIS X0 #[.val (.int 2), .val (.ref q0), .val (.int 2), .val (.ref q1), .val (.int 2), .val (.int 32)] d36_29 rfl ?_
  refine kGOTO X0 53 d36_31 (by decide) ?_
  refine kIL X0 d36_53 rfl ?_
  exact kRETZ X0 (gEL G) (t := .char) hret (by simp) d36_55 (fun ve hve => ⟨rfl, rfl⟩) (by decide)
def R_rm198 : Room := { frames := 4, cells := 0, slots := 0, locals := 53 }
theorem rm198 (G : Glob Z a0 iCS vSI) (i0 i1 i2 i3 i4 i5 i6 i7 : Int32) (q0 q1 q2 q3 : Addr) (kp0 kp1 kp2 : ClassId) (h0 : Heap) (Z0 : n0 ≤ h0.size) (O0 : Old Z n0 h0) (F_q0_coder : Fld Z h0 q0 "java/lang/String" "coder" "B" (.int 0)) (E_q0 : Exa Z h0 q0 "java/lang/String") (F_q0_value : Fld Z h0 q0 "java/lang/String" "value" "[B" (.ref q3)) (A_q3 : Arv Z h0 q3 kp2 .byte 5 [.int i4, .int i5, .int 32, .int i6, .int i7] (.int 0)) (c_0 : ¬ (255 : Int32) < i0) (c_4 : ¬ i0 < 0) (c_1 : ¬ (255 : Int32) < i1) (c_5 : ¬ i1 < 0) (c_2 : ¬ (255 : Int32) < i2) (c_6 : ¬ i2 < 0) (c_3 : ¬ (255 : Int32) < i3) (c_7 : ¬ i3 < 0) : MetH l Z EL0 n0 N_m_4 method_4_code 7 (some .boolean) [] R_rm198 #[.ref q0, .int 2, .int 5, .ref q1, .int 2, .ref q2, .int 2] h0 [] (fun vs v h ve => (v = some (.int 1) ∧ (h0 = h))) := by
  refine MetH.of #[.val (.ref q0), .val (.int 2), .val (.int 5), .val (.ref q1), .val (.int 2), .val (.ref q2), .val (.int 2)] (plainFor_of_name pn_com_example_tight_calculus_tightcalculus_ReportWordsPinLaw) rfl Z0 (fun p e s m below meth c T0 hret hml hnm hSL hs0 X0 => ?_)
  refine kILn X0 d8_0 rfl ?_
  refine kILn X0 d8_1 rfl ?_
  refine kICt X0 7 d8_2 (XT.ii_lt_t (by decide)) (by decide) ?_
  refine kALn X0 d8_7 rfl rfl ?_
  refine kILn X0 d8_8 rfl ?_
  refine kVIRT X0 (gEL G) (argsL := [.int 2]) (rest := []) (wd G 161 rfl) (wd G 162 rfl) (own_nf X0.hZ (own_noinst (wd G 6 rfl))) (wd G 164 rfl) (wd G 163 rfl) (wd G 7 rfl) (wd G 165 rfl) (by decide) E_q0 (gm_ca2 G (2 : Int32) (5 : Int32) (32 : Int32) (32 : Int32) ([.int i4, .int i5, .int 32, .int i6, .int i7]) q0 q3 kp2 h0 X0.n O0 rfl (by decide) F_q0_coder E_q0 F_q0_value A_q3 (by decide) (by decide)) all0 (lenOf pd__I_C rfl) rfl 0 rfl (by decide) hml.symm d8_9 (fun v1 T2 h3 vm4 _ w5 q6 C7 C8 X9 => ?_)
  obtain ⟨e11, f12⟩ := q6
  subst e11
  subst f12
  show Go _ _ _ _ _ (mkF _ _ _ [.int 32])
  refine kILn X9 d8_12 rfl ?_
  refine kALn X9 d8_13 rfl rfl ?_
  refine kIL X9 d8_14 rfl ?_
  refine kAL X9 d8_16 rfl rfl ?_
  refine kIL X9 d8_18 rfl ?_
  refine kSTAT X9 (gEL G) (argsL := [.int 2, .ref q1, .int 2, .ref q2, .int 2]) (rest := [.int 32]) (wd G 183 rfl) (wd G 184 rfl) (wd G 2 rfl) (wd G 185 rfl) (by decide) (rm199 G i0 i1 i2 i3 q1 q2 kp0 kp1 h0 X9.n O0 ) all0 (lenOf pd__I_CI_CI_C rfl) rfl 1 rfl (by decide) hml.symm d8_20 (fun v13 T14 h15 vm16 _ w17 q18 C19 C20 X21 => ?_)
  obtain ⟨e23, f24⟩ := q18
  subst e23
  subst f24
  show Go _ _ _ _ _ (mkF _ _ _ [.int 32, .int 32])
  refine kICf X21 d8_23 (XT.ii_ne_f (by decide)) ?_
  refine kIC X21 1 d8_26 (by decide) ?_
  refine kGOTO X21 31 d8_27 (by decide) ?_
  exact kRETZ X21 (gEL G) (t := .boolean) hret (by simp) d8_31 (fun ve hve => ⟨rfl, rfl⟩) (by decide)
def R_rm201 : Room := { frames := 0, cells := 0, slots := 0, locals := 0 }
theorem rm201 (G : Glob Z a0 iCS vSI) (i0 i1 i2 i3 : Int32) (q0 q1 : Addr) (kp0 kp1 : ClassId) (h0 : Heap) (Z0 : n0 ≤ h0.size) (O0 : Old Z n0 h0) (A_q1 : Arv Z h0 q1 kp1 .char 2 [.int i2, .int i3] (.int 0)) (c_2 : ¬ (255 : Int32) < i2) (c_6 : ¬ i2 < 0) : MetH l Z EL0 n0 N_m_5 method_5_code 6 (some .char) [] R_rm201 #[.int 3, .ref q0, .int 2, .ref q1, .int 2] h0 [] (fun vs v h ve => (v = some (.int i2) ∧ (h0 = h))) := by
  refine MetH.of #[.val (.int 3), .val (.ref q0), .val (.int 2), .val (.ref q1), .val (.int 2), .unset] (plainFor_of_name pn_com_example_tight_calculus_tightcalculus_ReportWordsPinLaw) rfl Z0 (fun p e s m below meth c T0 hret hml hnm hSL hs0 X0 => ?_)
  refine kILn X0 d36_0 rfl ?_
  refine kILn X0 d36_1 rfl ?_
  refine kICt X0 13 d36_2 (XT.ii_ge_t (by decide)) (by decide) ?_
  refine kILn X0 d36_13 rfl ?_
  refine kIFf X0 d36_14 (XT.i0_le_f (by decide)) ?_
  refine kIL X0 d36_17 rfl ?_
  refine kIFf X0 d36_19 (XT.i0_le_f (by decide)) ?_
  refine kILn X0 d36_22 rfl ?_
  refine kILn X0 d36_23 rfl ?_
  refine kICt X0 34 d36_24 (XT.ii_ne_t (by decide)) (by decide) ?_
  refine kALn X0 d36_34 rfl rfl ?_
  refine kILn X0 d36_35 rfl ?_
  refine kILn X0 d36_36 rfl ?_
  refine kISUB X0 1 d36_37 (by decide) ?_
  refine kIC X0 1 d36_38 (by decide) ?_
  refine kISUB X0 0 d36_39 (by decide) ?_
  refine kCALD X0 (.int i2) A_q1 (by decide) rfl d36_40 ?_
  refine kIS X0 #[.val (.int 3), .val (.ref q0), .val (.int 2), .val (.ref q1), .val (.int 2), .val (.int i2)] d36_41 rfl ?_
  refine kGOTO X0 53 d36_43 (by decide) ?_
  refine kIL X0 d36_53 rfl ?_
  exact kRETZ X0 (gEL G) (t := .char) hret (by simp) d36_55 (fun ve hve => ⟨(by rw [(own_nc c_2 c_6)]), rfl⟩) (by decide)
def R_rm200 : Room := { frames := 4, cells := 0, slots := 0, locals := 53 }
theorem rm200 (G : Glob Z a0 iCS vSI) (i0 i1 i2 i3 i4 i5 i6 i7 : Int32) (q0 q1 q2 q3 : Addr) (kp0 kp1 kp2 : ClassId) (h0 : Heap) (Z0 : n0 ≤ h0.size) (O0 : Old Z n0 h0) (F_q0_coder : Fld Z h0 q0 "java/lang/String" "coder" "B" (.int 0)) (E_q0 : Exa Z h0 q0 "java/lang/String") (F_q0_value : Fld Z h0 q0 "java/lang/String" "value" "[B" (.ref q3)) (A_q3 : Arv Z h0 q3 kp2 .byte 5 [.int i4, .int i5, .int 32, .int i6, .int i7] (.int 0)) (c_0 : ¬ (255 : Int32) < i0) (c_4 : ¬ i0 < 0) (c_1 : ¬ (255 : Int32) < i1) (c_5 : ¬ i1 < 0) (c_2 : ¬ (255 : Int32) < i2) (c_6 : ¬ i2 < 0) (c_3 : ¬ (255 : Int32) < i3) (c_7 : ¬ i3 < 0) (A_q2 : Arv Z h0 q2 kp1 .char 2 [.int i2, .int i3] (.int 0)) : MetH l Z EL0 n0 N_m_4 method_4_code 7 (some .boolean) [] R_rm200 #[.ref q0, .int 3, .int 5, .ref q1, .int 2, .ref q2, .int 2] h0 [] (fun vs v h ve => (v = some (.int 1) ∧ ((i6 &&& (255 : Int32)) = i2) ∧ (h0 = h)) ∨ (v = some (.int 0) ∧ (¬ (i6 &&& (255 : Int32)) = i2) ∧ (h0 = h))) := by
  refine MetH.of #[.val (.ref q0), .val (.int 3), .val (.int 5), .val (.ref q1), .val (.int 2), .val (.ref q2), .val (.int 2)] (plainFor_of_name pn_com_example_tight_calculus_tightcalculus_ReportWordsPinLaw) rfl Z0 (fun p e s m below meth c T0 hret hml hnm hSL hs0 X0 => ?_)
  refine kILn X0 d8_0 rfl ?_
  refine kILn X0 d8_1 rfl ?_
  refine kICt X0 7 d8_2 (XT.ii_lt_t (by decide)) (by decide) ?_
  refine kALn X0 d8_7 rfl rfl ?_
  refine kILn X0 d8_8 rfl ?_
  refine kVIRT X0 (gEL G) (argsL := [.int 3]) (rest := []) (wd G 161 rfl) (wd G 162 rfl) (own_nf X0.hZ (own_noinst (wd G 6 rfl))) (wd G 164 rfl) (wd G 163 rfl) (wd G 7 rfl) (wd G 165 rfl) (by decide) E_q0 (gm_ca2 G (3 : Int32) (5 : Int32) i6 (i6 &&& (255 : Int32)) ([.int i4, .int i5, .int 32, .int i6, .int i7]) q0 q3 kp2 h0 X0.n O0 rfl rfl F_q0_coder E_q0 F_q0_value A_q3 (by decide) (by decide)) all0 (lenOf pd__I_C rfl) rfl 0 rfl (by decide) hml.symm d8_9 (fun v1 T2 h3 vm4 _ w5 q6 C7 C8 X9 => ?_)
  obtain ⟨e11, f12⟩ := q6
  subst e11
  subst f12
  show Go _ _ _ _ _ (mkF _ _ _ [.int (i6 &&& (255 : Int32))])
  refine kILn X9 d8_12 rfl ?_
  refine kALn X9 d8_13 rfl rfl ?_
  refine kIL X9 d8_14 rfl ?_
  refine kAL X9 d8_16 rfl rfl ?_
  refine kIL X9 d8_18 rfl ?_
  refine kSTAT X9 (gEL G) (argsL := [.int 3, .ref q1, .int 2, .ref q2, .int 2]) (rest := [.int (i6 &&& (255 : Int32))]) (wd G 183 rfl) (wd G 184 rfl) (wd G 2 rfl) (wd G 185 rfl) (by decide) (rm201 G i0 i1 i2 i3 q1 q2 kp0 kp1 h0 X9.n O0 A_q2 c_2 c_6) all0 (lenOf pd__I_CI_CI_C rfl) rfl 1 rfl (by decide) hml.symm d8_20 (fun v13 T14 h15 vm16 _ w17 q18 C19 C20 X21 => ?_)
  obtain ⟨e23, f24⟩ := q18
  subst e23
  subst f24
  show Go _ _ _ _ _ (mkF _ _ _ [.int i2, .int (i6 &&& (255 : Int32))])
  by_cases c25 : (i6 &&& (255 : Int32)) = i2
  · refine kICf X21 d8_23 (XT.ii_ne_f c25) ?_
    refine kIC X21 1 d8_26 (by decide) ?_
    refine kGOTO X21 31 d8_27 (by decide) ?_
    exact kRETZ X21 (gEL G) (t := .boolean) hret (by simp) d8_31 (fun ve hve => Or.inl (⟨rfl, c25, rfl⟩)) (by decide)
  · refine kICt X21 30 d8_23 (XT.ii_ne_t c25) (by decide) ?_
    refine kIC X21 0 d8_30 (by decide) ?_
    exact kRETZ X21 (gEL G) (t := .boolean) hret (by simp) d8_31 (fun ve hve => Or.inr (⟨rfl, c25, rfl⟩)) (by decide)
def R_rm203 : Room := { frames := 0, cells := 0, slots := 0, locals := 0 }
theorem rm203 (G : Glob Z a0 iCS vSI) (i0 i1 i2 i3 : Int32) (q0 q1 : Addr) (kp0 kp1 : ClassId) (h0 : Heap) (Z0 : n0 ≤ h0.size) (O0 : Old Z n0 h0) (A_q1 : Arv Z h0 q1 kp1 .char 2 [.int i2, .int i3] (.int 0)) (c_3 : ¬ (255 : Int32) < i3) (c_7 : ¬ i3 < 0) : MetH l Z EL0 n0 N_m_5 method_5_code 6 (some .char) [] R_rm203 #[.int 4, .ref q0, .int 2, .ref q1, .int 2] h0 [] (fun vs v h ve => (v = some (.int i3) ∧ (h0 = h))) := by
  refine MetH.of #[.val (.int 4), .val (.ref q0), .val (.int 2), .val (.ref q1), .val (.int 2), .unset] (plainFor_of_name pn_com_example_tight_calculus_tightcalculus_ReportWordsPinLaw) rfl Z0 (fun p e s m below meth c T0 hret hml hnm hSL hs0 X0 => ?_)
  refine kILn X0 d36_0 rfl ?_
  refine kILn X0 d36_1 rfl ?_
  refine kICt X0 13 d36_2 (XT.ii_ge_t (by decide)) (by decide) ?_
  refine kILn X0 d36_13 rfl ?_
  refine kIFf X0 d36_14 (XT.i0_le_f (by decide)) ?_
  refine kIL X0 d36_17 rfl ?_
  refine kIFf X0 d36_19 (XT.i0_le_f (by decide)) ?_
  refine kILn X0 d36_22 rfl ?_
  refine kILn X0 d36_23 rfl ?_
  refine kICt X0 34 d36_24 (XT.ii_ne_t (by decide)) (by decide) ?_
  refine kALn X0 d36_34 rfl rfl ?_
  refine kILn X0 d36_35 rfl ?_
  refine kILn X0 d36_36 rfl ?_
  refine kISUB X0 2 d36_37 (by decide) ?_
  refine kIC X0 1 d36_38 (by decide) ?_
  refine kISUB X0 1 d36_39 (by decide) ?_
  refine kCALD X0 (.int i3) A_q1 (by decide) rfl d36_40 ?_
  refine kIS X0 #[.val (.int 4), .val (.ref q0), .val (.int 2), .val (.ref q1), .val (.int 2), .val (.int i3)] d36_41 rfl ?_
  refine kGOTO X0 53 d36_43 (by decide) ?_
  refine kIL X0 d36_53 rfl ?_
  exact kRETZ X0 (gEL G) (t := .char) hret (by simp) d36_55 (fun ve hve => ⟨(by rw [(own_nc c_3 c_7)]), rfl⟩) (by decide)
def R_rm202 : Room := { frames := 4, cells := 0, slots := 0, locals := 53 }
theorem rm202 (G : Glob Z a0 iCS vSI) (i0 i1 i2 i3 i4 i5 i6 i7 : Int32) (q0 q1 q2 q3 : Addr) (kp0 kp1 kp2 : ClassId) (h0 : Heap) (Z0 : n0 ≤ h0.size) (O0 : Old Z n0 h0) (F_q0_coder : Fld Z h0 q0 "java/lang/String" "coder" "B" (.int 0)) (E_q0 : Exa Z h0 q0 "java/lang/String") (F_q0_value : Fld Z h0 q0 "java/lang/String" "value" "[B" (.ref q3)) (A_q3 : Arv Z h0 q3 kp2 .byte 5 [.int i4, .int i5, .int 32, .int i6, .int i7] (.int 0)) (c_0 : ¬ (255 : Int32) < i0) (c_4 : ¬ i0 < 0) (c_1 : ¬ (255 : Int32) < i1) (c_5 : ¬ i1 < 0) (c_2 : ¬ (255 : Int32) < i2) (c_6 : ¬ i2 < 0) (c_3 : ¬ (255 : Int32) < i3) (c_7 : ¬ i3 < 0) (A_q2 : Arv Z h0 q2 kp1 .char 2 [.int i2, .int i3] (.int 0)) : MetH l Z EL0 n0 N_m_4 method_4_code 7 (some .boolean) [] R_rm202 #[.ref q0, .int 4, .int 5, .ref q1, .int 2, .ref q2, .int 2] h0 [] (fun vs v h ve => (v = some (.int 1) ∧ ((i7 &&& (255 : Int32)) = i3) ∧ (h0 = h)) ∨ (v = some (.int 0) ∧ (¬ (i7 &&& (255 : Int32)) = i3) ∧ (h0 = h))) := by
  refine MetH.of #[.val (.ref q0), .val (.int 4), .val (.int 5), .val (.ref q1), .val (.int 2), .val (.ref q2), .val (.int 2)] (plainFor_of_name pn_com_example_tight_calculus_tightcalculus_ReportWordsPinLaw) rfl Z0 (fun p e s m below meth c T0 hret hml hnm hSL hs0 X0 => ?_)
  refine kILn X0 d8_0 rfl ?_
  refine kILn X0 d8_1 rfl ?_
  refine kICt X0 7 d8_2 (XT.ii_lt_t (by decide)) (by decide) ?_
  refine kALn X0 d8_7 rfl rfl ?_
  refine kILn X0 d8_8 rfl ?_
  refine kVIRT X0 (gEL G) (argsL := [.int 4]) (rest := []) (wd G 161 rfl) (wd G 162 rfl) (own_nf X0.hZ (own_noinst (wd G 6 rfl))) (wd G 164 rfl) (wd G 163 rfl) (wd G 7 rfl) (wd G 165 rfl) (by decide) E_q0 (gm_ca2 G (4 : Int32) (5 : Int32) i7 (i7 &&& (255 : Int32)) ([.int i4, .int i5, .int 32, .int i6, .int i7]) q0 q3 kp2 h0 X0.n O0 rfl rfl F_q0_coder E_q0 F_q0_value A_q3 (by decide) (by decide)) all0 (lenOf pd__I_C rfl) rfl 0 rfl (by decide) hml.symm d8_9 (fun v1 T2 h3 vm4 _ w5 q6 C7 C8 X9 => ?_)
  obtain ⟨e11, f12⟩ := q6
  subst e11
  subst f12
  show Go _ _ _ _ _ (mkF _ _ _ [.int (i7 &&& (255 : Int32))])
  refine kILn X9 d8_12 rfl ?_
  refine kALn X9 d8_13 rfl rfl ?_
  refine kIL X9 d8_14 rfl ?_
  refine kAL X9 d8_16 rfl rfl ?_
  refine kIL X9 d8_18 rfl ?_
  refine kSTAT X9 (gEL G) (argsL := [.int 4, .ref q1, .int 2, .ref q2, .int 2]) (rest := [.int (i7 &&& (255 : Int32))]) (wd G 183 rfl) (wd G 184 rfl) (wd G 2 rfl) (wd G 185 rfl) (by decide) (rm203 G i0 i1 i2 i3 q1 q2 kp0 kp1 h0 X9.n O0 A_q2 c_3 c_7) all0 (lenOf pd__I_CI_CI_C rfl) rfl 1 rfl (by decide) hml.symm d8_20 (fun v13 T14 h15 vm16 _ w17 q18 C19 C20 X21 => ?_)
  obtain ⟨e23, f24⟩ := q18
  subst e23
  subst f24
  show Go _ _ _ _ _ (mkF _ _ _ [.int i3, .int (i7 &&& (255 : Int32))])
  by_cases c25 : (i7 &&& (255 : Int32)) = i3
  · refine kICf X21 d8_23 (XT.ii_ne_f c25) ?_
    refine kIC X21 1 d8_26 (by decide) ?_
    refine kGOTO X21 31 d8_27 (by decide) ?_
    exact kRETZ X21 (gEL G) (t := .boolean) hret (by simp) d8_31 (fun ve hve => Or.inl (⟨rfl, c25, rfl⟩)) (by decide)
  · refine kICt X21 30 d8_23 (XT.ii_ne_t c25) (by decide) ?_
    refine kIC X21 0 d8_30 (by decide) ?_
    exact kRETZ X21 (gEL G) (t := .boolean) hret (by simp) d8_31 (fun ve hve => Or.inr (⟨rfl, c25, rfl⟩)) (by decide)
theorem pn_law : plainName x.cls = true := pn_com_example_tight_calculus_tightcalculus_ReportWordsPinLaw
theorem rm0 (G : Glob Z a0 iCS vSI) (i0 : Int32) (i1 : Int32) (h0 : Heap) (Z0 : n0 ≤ h0.size) (O0 : Old Z n0 h0) : MetH l Z EL0 n0 x code maxLocals ret tables_1 room_1 #[.int i0, .int i1] h0 [] (fun vs v h ve => v = some (.int 1)) := by
  refine MetH.of #[.val (.int i0), .val (.int i1), .unset, .unset, .unset, .unset, .unset, .unset] (plainFor_of_name pn_law) rfl Z0 (fun p e s m below meth c T0 hret hml hnm hSL hs0 X0 => ?_)
  refine kILn X0 at_0 rfl ?_
  refine kSI X0 255 at_1 (by decide) ?_
  refine kIAND X0 (i0 &&& (255 : Int32)) at_4 rfl ?_
  refine kIC X0 3 at_5 (by decide) ?_
  refine kIREM X0 ((i0 &&& (255 : Int32)) % (3 : Int32)) at_6 (by decide) rfl ?_
  refine kISn X0 #[.val (.int i0), .val (.int i1), .val (.int ((i0 &&& (255 : Int32)) % (3 : Int32))), .unset, .unset, .unset, .unset, .unset] at_7 rfl ?_
  rcases own_m3 i0 with hk1 | hk1 | hk1
  · rw [hk1]
    clear hk1
    refine kILn X0 at_8 rfl ?_
    refine kSI X0 255 at_9 (by decide) ?_
    refine kIAND X0 (i1 &&& (255 : Int32)) at_12 rfl ?_
    refine kIC X0 3 at_13 (by decide) ?_
    refine kIREM X0 ((i1 &&& (255 : Int32)) % (3 : Int32)) at_14 (by decide) rfl ?_
    refine kISn X0 #[.val (.int i0), .val (.int i1), .val (.int 0), .val (.int ((i1 &&& (255 : Int32)) % (3 : Int32))), .unset, .unset, .unset, .unset] at_15 rfl ?_
    rcases own_m3 i1 with hk2 | hk2 | hk2
    · rw [hk2]
      clear hk2
      refine kILn X0 at_16 rfl ?_
      refine kILn X0 at_17 rfl ?_
      refine kSTAT X0 (gEL G) (argsL := [.int 0, .int i0]) (rest := []) (wd G 0 rfl) (wd G 1 rfl) (wd G 2 rfl) (wd G 3 rfl) (by decide) (rm1 G i0 h0 X0.n O0 ) all0 (lenOf pd__II__C rfl) rfl 0 rfl (by decide) hml.symm at_18 (fun v3 T4 h5 vm6 _ w7 q8 C9 C10 X11 => ?_)
      obtain ⟨a13, k14, e15, f16, f17, f18⟩ := q8
      subst e15
      have g19 : n0 ≤ a13 := Nat.le_trans X0.n f17
      have g20 : h0.size ≤ a13 := Nat.le_trans X0.g0 f17
      show Go _ _ _ _ _ (mkF _ _ _ [.ref a13])
      refine kAS X11 #[.val (.int i0), .val (.int i1), .val (.int 0), .val (.int 0), .val (.ref a13), .unset, .unset, .unset] at_21 rfl rfl ?_
      refine kILn X11 at_23 rfl ?_
      refine kILn X11 at_24 rfl ?_
      have f21 := (Old.keep O0 f16 all0)
      refine kSTAT X11 (gEL G) (argsL := [.int 0, .int i1]) (rest := []) (wd G 0 rfl) (wd G 1 rfl) (wd G 2 rfl) (wd G 3 rfl) (by decide) (rm1 G i1 h5 X11.n f21 ) all0 (lenOf pd__II__C rfl) rfl 0 rfl (by decide) hml.symm at_25 (fun v22 T23 h24 vm25 _ w26 q27 C28 C29 X30 => ?_)
      obtain ⟨a32, k33, e34, f35, f36, f37⟩ := q27
      subst e34
      have n38 : a13 ≠ a32 := Nat.ne_of_lt (Nat.lt_of_lt_of_le (f18.lt) f36)
      have g39 : n0 ≤ a32 := Nat.le_trans X11.n f36
      have g40 : h0.size ≤ a32 := Nat.le_trans X11.g0 f36
      show Go _ _ _ _ _ (mkF _ _ _ [.ref a32])
      refine kAS X30 #[.val (.int i0), .val (.int i1), .val (.int 0), .val (.int 0), .val (.ref a13), .val (.ref a32), .unset, .unset] at_28 rfl rfl ?_
      refine kNEW X30 (wd G 5 rfl) (wd G 6 rfl) (wd G 7 rfl) at_30 (by decide) (by decide) (fun T41 h42 a44 E45 q46 g47 A48 D49 s50 X43 => ?_)
      have f52 := (Arv.keep f18 f35 nin0)
      have n51 : a13 ≠ a44 := Nat.ne_of_lt (Nat.lt_of_lt_of_le (f52.lt) (Nat.le_of_eq q46.symm))
      have n53 : a32 ≠ a44 := Nat.ne_of_lt (Nat.lt_of_lt_of_le (f37.lt) (Nat.le_of_eq q46.symm))
      have g54 : h0.size ≤ a44 := q46 ▸ X30.g0
      have f55 : Fld Z h42 a44 "java/lang/String" "value" "[B" (.null) := D49 (Or.inr (wd G 20 rfl)) (ty := (.array (.byte))) (by decide)
      have f56 : Fld Z h42 a44 "java/lang/String" "coder" "B" (.int 0) := D49 (Or.inr (wd G 21 rfl)) (ty := .byte) (by decide)
      refine kDUP X43 at_33 rfl ?_
      refine kAL X43 at_34 rfl rfl ?_
      have f57 := (Arv.ext f52 E45)
      have f58 := (Old.ext (Old.keep f21 f35 all0) E45)
      refine kSPEC X43 (gEL G) (argsL := [.ref a13]) (rest := [.ref a44]) (wd G 8 rfl) (wd G 9 rfl) (wd G 7 rfl) (wd G 10 rfl) rfl (by decide) (rm2 G a44 a13 k14 h42 X43.n f58 f57 A48 f55 n51 f56 g47) (allS ⟨(A48.lt), s50⟩ all0) (lenOf pd___C_V rfl) rfl 1 rfl (by decide) hml.symm at_36 (fun v59 T60 h61 vm62 _ w63 q64 C65 C66 X67 => ?_)
      obtain ⟨a69, k70, e71, f72, f73, f74, f75, f76⟩ := q64
      subst e71
      have n77 : a13 ≠ a69 := f73 a13 (f57.lt) (CHr.safe C65 (f57.lt) (Safe.arv X43.hZ.alike f57 (by decide)))
      have f79 := (Arv.ext f37 E45)
      have n78 : a32 ≠ a69 := f73 a32 (f79.lt) (CHr.safe C65 (f79.lt) (Safe.arv X43.hZ.alike f79 (by decide)))
      have n80 : a44 ≠ a69 := f73 a44 (A48.lt) (CHr.safe C65 (A48.lt) s50)
      have n81 : ∀ x, x < h0.size → Safe Z EL0 s.vm h0 x → x ≠ a69 := fun x hx S => f73 x (Nat.lt_of_lt_of_le hx X43.g0) (CHr.safe C65 (Nat.lt_of_lt_of_le hx X43.g0) (CHr.safe (hs0 ▸ X43.C) hx S))
      show Go _ _ _ _ _ (mkF _ _ _ [.ref a44])
      refine kNEW X67 (wd G 5 rfl) (wd G 6 rfl) (wd G 7 rfl) at_39 (by decide) (by decide) (fun T82 h83 a85 E86 q87 g88 A89 D90 s91 X84 => ?_)
      have f93 := (Arv.keep f57 f72 (ninS n51 nin0))
      have n92 : a13 ≠ a85 := Nat.ne_of_lt (Nat.lt_of_lt_of_le (f93.lt) (Nat.le_of_eq q87.symm))
      have f95 := (Arv.keep f79 f72 (ninS n53 nin0))
      have n94 : a32 ≠ a85 := Nat.ne_of_lt (Nat.lt_of_lt_of_le (f95.lt) (Nat.le_of_eq q87.symm))
      have n96 : a44 ≠ a85 := Nat.ne_of_lt (Nat.lt_of_lt_of_le (f76.lt) (Nat.le_of_eq q87.symm))
      have n97 : a69 ≠ a85 := Nat.ne_of_lt (Nat.lt_of_lt_of_le (f74.lt) (Nat.le_of_eq q87.symm))
      have g98 : h0.size ≤ a85 := q87 ▸ X67.g0
      have f99 : Fld Z h83 a85 "java/lang/String" "value" "[B" (.null) := D90 (Or.inr (wd G 20 rfl)) (ty := (.array (.byte))) (by decide)
      have f100 : Fld Z h83 a85 "java/lang/String" "coder" "B" (.int 0) := D90 (Or.inr (wd G 21 rfl)) (ty := .byte) (by decide)
      refine kDUP X84 at_42 rfl ?_
      refine kAL X84 at_43 rfl rfl ?_
      have f101 := (Arv.ext f95 E86)
      have f102 := (Old.ext (Old.keep f58 f72 (allS g47 all0)) E86)
      refine kSPEC X84 (gEL G) (argsL := [.ref a32]) (rest := [.ref a85, .ref a44]) (wd G 8 rfl) (wd G 9 rfl) (wd G 7 rfl) (wd G 10 rfl) rfl (by decide) (rm2 G a85 a32 k33 h83 X84.n f102 f101 A89 f99 n94 f100 g88) (allS ⟨(A89.lt), s91⟩ all0) (lenOf pd___C_V rfl) rfl 2 rfl (by decide) hml.symm at_45 (fun v103 T104 h105 vm106 _ w107 q108 C109 C110 X111 => ?_)
      obtain ⟨a113, k114, e115, f116, f117, f118, f119, f120⟩ := q108
      subst e115
      have f122 := (Arv.ext f93 E86)
      have n121 : a13 ≠ a113 := f117 a13 (f122.lt) (CHr.safe C109 (f122.lt) (Safe.arv X84.hZ.alike f122 (by decide)))
      have n123 : a32 ≠ a113 := f117 a32 (f101.lt) (CHr.safe C109 (f101.lt) (Safe.arv X84.hZ.alike f101 (by decide)))
      have f125 := (Fld.ext E86 f76)
      have f126 := (Safe.ext E86 X67.C.1 (CHr.safe C66 (A48.lt) s50))
      have n124 : a44 ≠ a113 := f117 a44 (f125.lt) (CHr.safe C109 (f125.lt) f126)
      have n127 : a85 ≠ a113 := f117 a85 (A89.lt) (CHr.safe C109 (A89.lt) s91)
      have n128 : ∀ x, x < h0.size → Safe Z EL0 s.vm h0 x → x ≠ a113 := fun x hx S => f117 x (Nat.lt_of_lt_of_le hx X84.g0) (CHr.safe C109 (Nat.lt_of_lt_of_le hx X84.g0) (CHr.safe (hs0 ▸ X84.C) hx S))
      show Go _ _ _ _ _ (mkF _ _ _ [.ref a85, .ref a44])
      have f129 := (Fld.keep f125 f116 (ninS n96 nin0))
      have f130 := (Arv.keep (Arv.ext f74 E86) f116 (ninS n97 nin0))
      have f131 := (Exa.keep (Exa.ext E86 (Exa.keep A48 f72)) f116)
      have f132 := (Old.keep f102 f116 (allS g88 all0))
      refine kSTAT X111 (gEL G) (argsL := [.ref a44, .ref a85]) (rest := []) (wd G 26 rfl) (wd G 27 rfl) (wd G 28 rfl) (wd G 29 rfl) (by decide) (rm4 G a44 a85 a69 a113 k70 k114 h105 X111.n f132 f129 f130 f131) all0 (lenOf pd__Ljava_lang_String_Ljava_lang_String__Ljava_lang_String_ rfl) rfl 0 rfl (by decide) hml.symm at_48 (fun v133 T134 h135 vm136 _ w137 q138 C139 C140 X141 => ?_)
      obtain ⟨e143, f144⟩ := q138
      subst e143
      subst f144
      show Go _ _ _ _ _ (mkF _ _ _ [.ref a85])
      refine kAS X141 #[.val (.int i0), .val (.int i1), .val (.int 0), .val (.int 0), .val (.ref a13), .val (.ref a32), .val (.ref a85), .unset] at_51 rfl rfl ?_
      refine kILn X141 at_53 rfl ?_
      refine kILn X141 at_54 rfl ?_
      refine kIADD X141 0 at_55 (by decide) ?_
      refine kILn X141 at_56 rfl ?_
      refine kIFt X141 68 at_57 (XT.i0_le_t (by decide)) (by decide) ?_
      refine kIC X141 0 at_68 (by decide) ?_
      refine kIADD X141 0 at_69 (by decide) ?_
      refine kIS X141 #[.val (.int i0), .val (.int i1), .val (.int 0), .val (.int 0), .val (.ref a13), .val (.ref a32), .val (.ref a85), .val (.int 0)] at_70 rfl ?_
      refine kAL X141 at_72 rfl rfl ?_
      have f145 := (Exa.keep A89 f116)
      refine kVIRT X141 (gEL G) (argsL := []) (rest := []) (wd G 35 rfl) (wd G 36 rfl) (own_nf X141.hZ (own_noinst (wd G 6 rfl))) (wd G 38 rfl) (wd G 37 rfl) (wd G 7 rfl) (wd G 39 rfl) (by decide) f145 (rm6 G a85 a113 k114 h105 X141.n f132 f120 f118 f119 f145) all0 (lenOf pd___I rfl) rfl 0 rfl (by decide) hml.symm at_74 (fun v146 T147 h148 vm149 _ w150 q151 C152 C153 X154 => ?_)
      obtain ⟨e156, f157⟩ := q151
      subst e156
      subst f157
      show Go _ _ _ _ _ (mkF _ _ _ [.int 0])
      refine kIL X154 at_77 rfl ?_
      refine kICt X154 84 at_79 (XT.ii_eq_t (by decide)) (by decide) ?_
      refine kAL X154 at_84 rfl rfl ?_
      refine kIC X154 0 at_86 (by decide) ?_
      refine kIL X154 at_87 rfl ?_
      refine kAL X154 at_89 rfl rfl ?_
      refine kILn X154 at_91 rfl ?_
      refine kAL X154 at_92 rfl rfl ?_
      refine kILn X154 at_94 rfl ?_
      refine kSTAT X154 (gEL G) (argsL := [.ref a85, .int 0, .int 0, .ref a13, .int 0, .ref a32, .int 0]) (rest := []) (wd G 46 rfl) (wd G 47 rfl) (wd G 2 rfl) (wd G 48 rfl) (by decide) (rm8 G a85 a13 a32 a113 k14 k33 k114 h105 X154.n f132 ) all0 (lenOf pd__Ljava_lang_String_II_CI_CI_Z rfl) rfl 0 rfl (by decide) hml.symm at_95 (fun v158 T159 h160 vm161 _ w162 q163 C164 C165 X166 => ?_)
      obtain ⟨e168, f169⟩ := q163
      subst e168
      subst f169
      show Go _ _ _ _ _ (mkF _ _ _ [.int 1])
      refine kIFf X166 at_98 (XT.i0_eq_f (by decide)) ?_
      refine kAL X166 at_101 rfl rfl ?_
      refine kIC X166 1 at_103 (by decide) ?_
      refine kIL X166 at_104 rfl ?_
      refine kAL X166 at_106 rfl rfl ?_
      refine kILn X166 at_108 rfl ?_
      refine kAL X166 at_109 rfl rfl ?_
      refine kILn X166 at_111 rfl ?_
      refine kSTAT X166 (gEL G) (argsL := [.ref a85, .int 1, .int 0, .ref a13, .int 0, .ref a32, .int 0]) (rest := []) (wd G 46 rfl) (wd G 47 rfl) (wd G 2 rfl) (wd G 48 rfl) (by decide) (rm9 G a85 a13 a32 a113 k14 k33 k114 h105 X166.n f132 ) all0 (lenOf pd__Ljava_lang_String_II_CI_CI_Z rfl) rfl 0 rfl (by decide) hml.symm at_112 (fun v170 T171 h172 vm173 _ w174 q175 C176 C177 X178 => ?_)
      obtain ⟨e180, f181⟩ := q175
      subst e180
      subst f181
      show Go _ _ _ _ _ (mkF _ _ _ [.int 1])
      refine kIFf X178 at_115 (XT.i0_eq_f (by decide)) ?_
      refine kAL X178 at_118 rfl rfl ?_
      refine kIC X178 2 at_120 (by decide) ?_
      refine kIL X178 at_121 rfl ?_
      refine kAL X178 at_123 rfl rfl ?_
      refine kILn X178 at_125 rfl ?_
      refine kAL X178 at_126 rfl rfl ?_
      refine kILn X178 at_128 rfl ?_
      refine kSTAT X178 (gEL G) (argsL := [.ref a85, .int 2, .int 0, .ref a13, .int 0, .ref a32, .int 0]) (rest := []) (wd G 46 rfl) (wd G 47 rfl) (wd G 2 rfl) (wd G 48 rfl) (by decide) (rm10 G a85 a13 a32 a113 k14 k33 k114 h105 X178.n f132 ) all0 (lenOf pd__Ljava_lang_String_II_CI_CI_Z rfl) rfl 0 rfl (by decide) hml.symm at_129 (fun v182 T183 h184 vm185 _ w186 q187 C188 C189 X190 => ?_)
      obtain ⟨e192, f193⟩ := q187
      subst e192
      subst f193
      show Go _ _ _ _ _ (mkF _ _ _ [.int 1])
      refine kIFf X190 at_132 (XT.i0_eq_f (by decide)) ?_
      refine kAL X190 at_135 rfl rfl ?_
      refine kIC X190 3 at_137 (by decide) ?_
      refine kIL X190 at_138 rfl ?_
      refine kAL X190 at_140 rfl rfl ?_
      refine kILn X190 at_142 rfl ?_
      refine kAL X190 at_143 rfl rfl ?_
      refine kILn X190 at_145 rfl ?_
      refine kSTAT X190 (gEL G) (argsL := [.ref a85, .int 3, .int 0, .ref a13, .int 0, .ref a32, .int 0]) (rest := []) (wd G 46 rfl) (wd G 47 rfl) (wd G 2 rfl) (wd G 48 rfl) (by decide) (rm11 G a85 a13 a32 a113 k14 k33 k114 h105 X190.n f132 ) all0 (lenOf pd__Ljava_lang_String_II_CI_CI_Z rfl) rfl 0 rfl (by decide) hml.symm at_146 (fun v194 T195 h196 vm197 _ w198 q199 C200 C201 X202 => ?_)
      obtain ⟨e204, f205⟩ := q199
      subst e204
      subst f205
      show Go _ _ _ _ _ (mkF _ _ _ [.int 1])
      refine kIFf X202 at_149 (XT.i0_eq_f (by decide)) ?_
      refine kAL X202 at_152 rfl rfl ?_
      refine kIC X202 4 at_154 (by decide) ?_
      refine kIL X202 at_155 rfl ?_
      refine kAL X202 at_157 rfl rfl ?_
      refine kILn X202 at_159 rfl ?_
      refine kAL X202 at_160 rfl rfl ?_
      refine kILn X202 at_162 rfl ?_
      refine kSTAT X202 (gEL G) (argsL := [.ref a85, .int 4, .int 0, .ref a13, .int 0, .ref a32, .int 0]) (rest := []) (wd G 46 rfl) (wd G 47 rfl) (wd G 2 rfl) (wd G 48 rfl) (by decide) (rm12 G a85 a13 a32 a113 k14 k33 k114 h105 X202.n f132 ) all0 (lenOf pd__Ljava_lang_String_II_CI_CI_Z rfl) rfl 0 rfl (by decide) hml.symm at_163 (fun v206 T207 h208 vm209 _ w210 q211 C212 C213 X214 => ?_)
      obtain ⟨e216, f217⟩ := q211
      subst e216
      subst f217
      show Go _ _ _ _ _ (mkF _ _ _ [.int 1])
      refine kIFf X214 at_166 (XT.i0_eq_f (by decide)) ?_
      refine kIC X214 1 at_169 (by decide) ?_
      refine kGOTO X214 174 at_170 (by decide) ?_
      exact kRETZ X214 (gEL G) (t := .boolean) hret (by simp) at_174 (fun _ _ => rfl) (by decide)
    · rw [hk2]
      clear hk2
      refine kILn X0 at_16 rfl ?_
      refine kILn X0 at_17 rfl ?_
      refine kSTAT X0 (gEL G) (argsL := [.int 0, .int i0]) (rest := []) (wd G 0 rfl) (wd G 1 rfl) (wd G 2 rfl) (wd G 3 rfl) (by decide) (rm1 G i0 h0 X0.n O0 ) all0 (lenOf pd__II__C rfl) rfl 0 rfl (by decide) hml.symm at_18 (fun v218 T219 h220 vm221 _ w222 q223 C224 C225 X226 => ?_)
      obtain ⟨a228, k229, e230, f231, f232, f233⟩ := q223
      subst e230
      have g234 : n0 ≤ a228 := Nat.le_trans X0.n f232
      have g235 : h0.size ≤ a228 := Nat.le_trans X0.g0 f232
      show Go _ _ _ _ _ (mkF _ _ _ [.ref a228])
      refine kAS X226 #[.val (.int i0), .val (.int i1), .val (.int 0), .val (.int 1), .val (.ref a228), .unset, .unset, .unset] at_21 rfl rfl ?_
      refine kILn X226 at_23 rfl ?_
      refine kILn X226 at_24 rfl ?_
      have f236 := (Old.keep O0 f231 all0)
      refine kSTAT X226 (gEL G) (argsL := [.int 1, .int i1]) (rest := []) (wd G 0 rfl) (wd G 1 rfl) (wd G 2 rfl) (wd G 3 rfl) (by decide) (rm13 G i1 h220 X226.n f236 ) all0 (lenOf pd__II__C rfl) rfl 0 rfl (by decide) hml.symm at_25 (fun v237 T238 h239 vm240 _ w241 q242 C243 C244 X245 => ?_)
      obtain ⟨a247, k248, e249, f250, f251, f252⟩ := q242
      subst e249
      have n253 : a228 ≠ a247 := Nat.ne_of_lt (Nat.lt_of_lt_of_le (f233.lt) f251)
      have g254 : n0 ≤ a247 := Nat.le_trans X226.n f251
      have g255 : h0.size ≤ a247 := Nat.le_trans X226.g0 f251
      show Go _ _ _ _ _ (mkF _ _ _ [.ref a247])
      refine kAS X245 #[.val (.int i0), .val (.int i1), .val (.int 0), .val (.int 1), .val (.ref a228), .val (.ref a247), .unset, .unset] at_28 rfl rfl ?_
      refine kNEW X245 (wd G 5 rfl) (wd G 6 rfl) (wd G 7 rfl) at_30 (by decide) (by decide) (fun T256 h257 a259 E260 q261 g262 A263 D264 s265 X258 => ?_)
      have f267 := (Arv.keep f233 f250 nin0)
      have n266 : a228 ≠ a259 := Nat.ne_of_lt (Nat.lt_of_lt_of_le (f267.lt) (Nat.le_of_eq q261.symm))
      have n268 : a247 ≠ a259 := Nat.ne_of_lt (Nat.lt_of_lt_of_le (f252.lt) (Nat.le_of_eq q261.symm))
      have g269 : h0.size ≤ a259 := q261 ▸ X245.g0
      have f270 : Fld Z h257 a259 "java/lang/String" "value" "[B" (.null) := D264 (Or.inr (wd G 20 rfl)) (ty := (.array (.byte))) (by decide)
      have f271 : Fld Z h257 a259 "java/lang/String" "coder" "B" (.int 0) := D264 (Or.inr (wd G 21 rfl)) (ty := .byte) (by decide)
      refine kDUP X258 at_33 rfl ?_
      refine kAL X258 at_34 rfl rfl ?_
      have f272 := (Arv.ext f267 E260)
      have f273 := (Old.ext (Old.keep f236 f250 all0) E260)
      refine kSPEC X258 (gEL G) (argsL := [.ref a228]) (rest := [.ref a259]) (wd G 8 rfl) (wd G 9 rfl) (wd G 7 rfl) (wd G 10 rfl) rfl (by decide) (rm2 G a259 a228 k229 h257 X258.n f273 f272 A263 f270 n266 f271 g262) (allS ⟨(A263.lt), s265⟩ all0) (lenOf pd___C_V rfl) rfl 1 rfl (by decide) hml.symm at_36 (fun v274 T275 h276 vm277 _ w278 q279 C280 C281 X282 => ?_)
      obtain ⟨a284, k285, e286, f287, f288, f289, f290, f291⟩ := q279
      subst e286
      have n292 : a228 ≠ a284 := f288 a228 (f272.lt) (CHr.safe C280 (f272.lt) (Safe.arv X258.hZ.alike f272 (by decide)))
      have f294 := (Arv.ext f252 E260)
      have n293 : a247 ≠ a284 := f288 a247 (f294.lt) (CHr.safe C280 (f294.lt) (Safe.arv X258.hZ.alike f294 (by decide)))
      have n295 : a259 ≠ a284 := f288 a259 (A263.lt) (CHr.safe C280 (A263.lt) s265)
      have n296 : ∀ x, x < h0.size → Safe Z EL0 s.vm h0 x → x ≠ a284 := fun x hx S => f288 x (Nat.lt_of_lt_of_le hx X258.g0) (CHr.safe C280 (Nat.lt_of_lt_of_le hx X258.g0) (CHr.safe (hs0 ▸ X258.C) hx S))
      show Go _ _ _ _ _ (mkF _ _ _ [.ref a259])
      refine kNEW X282 (wd G 5 rfl) (wd G 6 rfl) (wd G 7 rfl) at_39 (by decide) (by decide) (fun T297 h298 a300 E301 q302 g303 A304 D305 s306 X299 => ?_)
      have f308 := (Arv.keep f272 f287 (ninS n266 nin0))
      have n307 : a228 ≠ a300 := Nat.ne_of_lt (Nat.lt_of_lt_of_le (f308.lt) (Nat.le_of_eq q302.symm))
      have f310 := (Arv.keep f294 f287 (ninS n268 nin0))
      have n309 : a247 ≠ a300 := Nat.ne_of_lt (Nat.lt_of_lt_of_le (f310.lt) (Nat.le_of_eq q302.symm))
      have n311 : a259 ≠ a300 := Nat.ne_of_lt (Nat.lt_of_lt_of_le (f291.lt) (Nat.le_of_eq q302.symm))
      have n312 : a284 ≠ a300 := Nat.ne_of_lt (Nat.lt_of_lt_of_le (f289.lt) (Nat.le_of_eq q302.symm))
      have g313 : h0.size ≤ a300 := q302 ▸ X282.g0
      have f314 : Fld Z h298 a300 "java/lang/String" "value" "[B" (.null) := D305 (Or.inr (wd G 20 rfl)) (ty := (.array (.byte))) (by decide)
      have f315 : Fld Z h298 a300 "java/lang/String" "coder" "B" (.int 0) := D305 (Or.inr (wd G 21 rfl)) (ty := .byte) (by decide)
      refine kDUP X299 at_42 rfl ?_
      refine kAL X299 at_43 rfl rfl ?_
      have f316 := (Arv.ext f310 E301)
      have f317 := (Old.ext (Old.keep f273 f287 (allS g262 all0)) E301)
      refine kSPEC X299 (gEL G) (argsL := [.ref a247]) (rest := [.ref a300, .ref a259]) (wd G 8 rfl) (wd G 9 rfl) (wd G 7 rfl) (wd G 10 rfl) rfl (by decide) (rm14 G ((XT.ushr i1 (8 : Int32)) &&& (255 : Int32)) a300 a247 k248 h298 X299.n f317 f316 (own_mask _).1 (own_mask _).2 A304 f315 f314 g303) (allS ⟨(A304.lt), s306⟩ all0) (lenOf pd___C_V rfl) rfl 2 rfl (by decide) hml.symm at_45 (fun v318 T319 h320 vm321 _ w322 q323 C324 C325 X326 => ?_)
      obtain ⟨a328, k329, e330, f331, f332, f333, f334, f335, f336⟩ := q323
      subst e330
      have f338 := (Arv.ext f308 E301)
      have n337 : a228 ≠ a328 := Nat.ne_of_lt (Nat.lt_of_lt_of_le (f338.lt) f332)
      have n339 : a247 ≠ a328 := Nat.ne_of_lt (Nat.lt_of_lt_of_le (f316.lt) f332)
      have f341 := (Fld.ext E301 f291)
      have n340 : a259 ≠ a328 := Nat.ne_of_lt (Nat.lt_of_lt_of_le (f341.lt) f332)
      have f343 := (Arv.ext f289 E301)
      have n342 : a284 ≠ a328 := Nat.ne_of_lt (Nat.lt_of_lt_of_le (f343.lt) f332)
      have n344 : a300 ≠ a328 := Nat.ne_of_lt (Nat.lt_of_lt_of_le (A304.lt) f332)
      have g345 : n0 ≤ a328 := Nat.le_trans X299.n f332
      have g346 : h0.size ≤ a328 := Nat.le_trans X299.g0 f332
      show Go _ _ _ _ _ (mkF _ _ _ [.ref a300, .ref a259])
      have f347 := (Fld.keep f341 f331 (ninS n311 nin0))
      have f348 := (Arv.keep f343 f331 (ninS n312 nin0))
      have f349 := (Exa.keep (Exa.ext E301 (Exa.keep A263 f287)) f331)
      have f350 := (Old.keep f317 f331 (allS g303 all0))
      refine kSTAT X326 (gEL G) (argsL := [.ref a259, .ref a300]) (rest := []) (wd G 26 rfl) (wd G 27 rfl) (wd G 28 rfl) (wd G 29 rfl) (by decide) (rm19 G (ownB ((XT.ushr i1 (8 : Int32)) &&& (255 : Int32))) a259 a300 a284 a328 k285 k329 h320 X326.n f350 f347 f348 f349) all0 (lenOf pd__Ljava_lang_String_Ljava_lang_String__Ljava_lang_String_ rfl) rfl 0 rfl (by decide) hml.symm at_48 (fun v351 T352 h353 vm354 _ w355 q356 C357 C358 X359 => ?_)
      obtain ⟨e361, f362⟩ := q356
      subst e361
      subst f362
      show Go _ _ _ _ _ (mkF _ _ _ [.ref a300])
      refine kAS X359 #[.val (.int i0), .val (.int i1), .val (.int 0), .val (.int 1), .val (.ref a228), .val (.ref a247), .val (.ref a300), .unset] at_51 rfl rfl ?_
      refine kILn X359 at_53 rfl ?_
      refine kILn X359 at_54 rfl ?_
      refine kIADD X359 1 at_55 (by decide) ?_
      refine kILn X359 at_56 rfl ?_
      refine kIFt X359 68 at_57 (XT.i0_le_t (by decide)) (by decide) ?_
      refine kIC X359 0 at_68 (by decide) ?_
      refine kIADD X359 1 at_69 (by decide) ?_
      refine kIS X359 #[.val (.int i0), .val (.int i1), .val (.int 0), .val (.int 1), .val (.ref a228), .val (.ref a247), .val (.ref a300), .val (.int 1)] at_70 rfl ?_
      refine kAL X359 at_72 rfl rfl ?_
      have f363 := (Exa.keep A304 f331)
      refine kVIRT X359 (gEL G) (argsL := []) (rest := []) (wd G 35 rfl) (wd G 36 rfl) (own_nf X359.hZ (own_noinst (wd G 6 rfl))) (wd G 38 rfl) (wd G 37 rfl) (wd G 7 rfl) (wd G 39 rfl) (by decide) f363 (rm20 G (ownB ((XT.ushr i1 (8 : Int32)) &&& (255 : Int32))) a300 a328 k329 h320 X359.n f350 f336 f333 f335 f363) all0 (lenOf pd___I rfl) rfl 0 rfl (by decide) hml.symm at_74 (fun v364 T365 h366 vm367 _ w368 q369 C370 C371 X372 => ?_)
      obtain ⟨e374, f375⟩ := q369
      subst e374
      subst f375
      show Go _ _ _ _ _ (mkF _ _ _ [.int 1])
      refine kIL X372 at_77 rfl ?_
      refine kICt X372 84 at_79 (XT.ii_eq_t (by decide)) (by decide) ?_
      refine kAL X372 at_84 rfl rfl ?_
      refine kIC X372 0 at_86 (by decide) ?_
      refine kIL X372 at_87 rfl ?_
      refine kAL X372 at_89 rfl rfl ?_
      refine kILn X372 at_91 rfl ?_
      refine kAL X372 at_92 rfl rfl ?_
      refine kILn X372 at_94 rfl ?_
      have f376 := (Arv.keep f316 f331 (ninS n309 nin0))
      refine kSTAT X372 (gEL G) (argsL := [.ref a300, .int 0, .int 1, .ref a228, .int 0, .ref a247, .int 1]) (rest := []) (wd G 46 rfl) (wd G 47 rfl) (wd G 2 rfl) (wd G 48 rfl) (by decide) (rm22 G ((XT.ushr i1 (8 : Int32)) &&& (255 : Int32)) (ownB ((XT.ushr i1 (8 : Int32)) &&& (255 : Int32))) a300 a228 a247 a328 k229 k248 k329 h320 X372.n f350 f335 f363 f336 f333 (own_mask _).1 (own_mask _).2 f376) all0 (lenOf pd__Ljava_lang_String_II_CI_CI_Z rfl) rfl 0 rfl (by decide) hml.symm at_95 (fun v377 T378 h379 vm380 _ w381 q382 C383 C384 X385 => ?_)
      rcases q382 with o387 | o388
      · obtain ⟨e389, f390, f391⟩ := o387
        subst e389
        subst f391
        show Go _ _ _ _ _ (mkF _ _ _ [.int 1])
        refine kIFf X385 at_98 (XT.i0_eq_f (by decide)) ?_
        refine kAL X385 at_101 rfl rfl ?_
        refine kIC X385 1 at_103 (by decide) ?_
        refine kIL X385 at_104 rfl ?_
        refine kAL X385 at_106 rfl rfl ?_
        refine kILn X385 at_108 rfl ?_
        refine kAL X385 at_109 rfl rfl ?_
        refine kILn X385 at_111 rfl ?_
        refine kSTAT X385 (gEL G) (argsL := [.ref a300, .int 1, .int 1, .ref a228, .int 0, .ref a247, .int 1]) (rest := []) (wd G 46 rfl) (wd G 47 rfl) (wd G 2 rfl) (wd G 48 rfl) (by decide) (rm25 G ((XT.ushr i1 (8 : Int32)) &&& (255 : Int32)) (ownB ((XT.ushr i1 (8 : Int32)) &&& (255 : Int32))) a300 a228 a247 a328 k229 k248 k329 h320 X385.n f350 ) all0 (lenOf pd__Ljava_lang_String_II_CI_CI_Z rfl) rfl 0 rfl (by decide) hml.symm at_112 (fun v392 T393 h394 vm395 _ w396 q397 C398 C399 X400 => ?_)
        obtain ⟨e402, f403⟩ := q397
        subst e402
        subst f403
        show Go _ _ _ _ _ (mkF _ _ _ [.int 1])
        refine kIFf X400 at_115 (XT.i0_eq_f (by decide)) ?_
        refine kAL X400 at_118 rfl rfl ?_
        refine kIC X400 2 at_120 (by decide) ?_
        refine kIL X400 at_121 rfl ?_
        refine kAL X400 at_123 rfl rfl ?_
        refine kILn X400 at_125 rfl ?_
        refine kAL X400 at_126 rfl rfl ?_
        refine kILn X400 at_128 rfl ?_
        refine kSTAT X400 (gEL G) (argsL := [.ref a300, .int 2, .int 1, .ref a228, .int 0, .ref a247, .int 1]) (rest := []) (wd G 46 rfl) (wd G 47 rfl) (wd G 2 rfl) (wd G 48 rfl) (by decide) (rm26 G ((XT.ushr i1 (8 : Int32)) &&& (255 : Int32)) (ownB ((XT.ushr i1 (8 : Int32)) &&& (255 : Int32))) a300 a228 a247 a328 k229 k248 k329 h320 X400.n f350 ) all0 (lenOf pd__Ljava_lang_String_II_CI_CI_Z rfl) rfl 0 rfl (by decide) hml.symm at_129 (fun v404 T405 h406 vm407 _ w408 q409 C410 C411 X412 => ?_)
        obtain ⟨e414, f415⟩ := q409
        subst e414
        subst f415
        show Go _ _ _ _ _ (mkF _ _ _ [.int 1])
        refine kIFf X412 at_132 (XT.i0_eq_f (by decide)) ?_
        refine kAL X412 at_135 rfl rfl ?_
        refine kIC X412 3 at_137 (by decide) ?_
        refine kIL X412 at_138 rfl ?_
        refine kAL X412 at_140 rfl rfl ?_
        refine kILn X412 at_142 rfl ?_
        refine kAL X412 at_143 rfl rfl ?_
        refine kILn X412 at_145 rfl ?_
        refine kSTAT X412 (gEL G) (argsL := [.ref a300, .int 3, .int 1, .ref a228, .int 0, .ref a247, .int 1]) (rest := []) (wd G 46 rfl) (wd G 47 rfl) (wd G 2 rfl) (wd G 48 rfl) (by decide) (rm27 G ((XT.ushr i1 (8 : Int32)) &&& (255 : Int32)) (ownB ((XT.ushr i1 (8 : Int32)) &&& (255 : Int32))) a300 a228 a247 a328 k229 k248 k329 h320 X412.n f350 ) all0 (lenOf pd__Ljava_lang_String_II_CI_CI_Z rfl) rfl 0 rfl (by decide) hml.symm at_146 (fun v416 T417 h418 vm419 _ w420 q421 C422 C423 X424 => ?_)
        obtain ⟨e426, f427⟩ := q421
        subst e426
        subst f427
        show Go _ _ _ _ _ (mkF _ _ _ [.int 1])
        refine kIFf X424 at_149 (XT.i0_eq_f (by decide)) ?_
        refine kAL X424 at_152 rfl rfl ?_
        refine kIC X424 4 at_154 (by decide) ?_
        refine kIL X424 at_155 rfl ?_
        refine kAL X424 at_157 rfl rfl ?_
        refine kILn X424 at_159 rfl ?_
        refine kAL X424 at_160 rfl rfl ?_
        refine kILn X424 at_162 rfl ?_
        refine kSTAT X424 (gEL G) (argsL := [.ref a300, .int 4, .int 1, .ref a228, .int 0, .ref a247, .int 1]) (rest := []) (wd G 46 rfl) (wd G 47 rfl) (wd G 2 rfl) (wd G 48 rfl) (by decide) (rm28 G ((XT.ushr i1 (8 : Int32)) &&& (255 : Int32)) (ownB ((XT.ushr i1 (8 : Int32)) &&& (255 : Int32))) a300 a228 a247 a328 k229 k248 k329 h320 X424.n f350 ) all0 (lenOf pd__Ljava_lang_String_II_CI_CI_Z rfl) rfl 0 rfl (by decide) hml.symm at_163 (fun v428 T429 h430 vm431 _ w432 q433 C434 C435 X436 => ?_)
        obtain ⟨e438, f439⟩ := q433
        subst e438
        subst f439
        show Go _ _ _ _ _ (mkF _ _ _ [.int 1])
        refine kIFf X436 at_166 (XT.i0_eq_f (by decide)) ?_
        refine kIC X436 1 at_169 (by decide) ?_
        refine kGOTO X436 174 at_170 (by decide) ?_
        exact kRETZ X436 (gEL G) (t := .boolean) hret (by simp) at_174 (fun _ _ => rfl) (by decide)
      · obtain ⟨e440, f441, f442⟩ := o388
        subst e440
        exact absurd (own_rt (own_mask _).1 (own_mask _).2) f441
    · rw [hk2]
      clear hk2
      refine kILn X0 at_16 rfl ?_
      refine kILn X0 at_17 rfl ?_
      refine kSTAT X0 (gEL G) (argsL := [.int 0, .int i0]) (rest := []) (wd G 0 rfl) (wd G 1 rfl) (wd G 2 rfl) (wd G 3 rfl) (by decide) (rm1 G i0 h0 X0.n O0 ) all0 (lenOf pd__II__C rfl) rfl 0 rfl (by decide) hml.symm at_18 (fun v443 T444 h445 vm446 _ w447 q448 C449 C450 X451 => ?_)
      obtain ⟨a453, k454, e455, f456, f457, f458⟩ := q448
      subst e455
      have g459 : n0 ≤ a453 := Nat.le_trans X0.n f457
      have g460 : h0.size ≤ a453 := Nat.le_trans X0.g0 f457
      show Go _ _ _ _ _ (mkF _ _ _ [.ref a453])
      refine kAS X451 #[.val (.int i0), .val (.int i1), .val (.int 0), .val (.int 2), .val (.ref a453), .unset, .unset, .unset] at_21 rfl rfl ?_
      refine kILn X451 at_23 rfl ?_
      refine kILn X451 at_24 rfl ?_
      have f461 := (Old.keep O0 f456 all0)
      refine kSTAT X451 (gEL G) (argsL := [.int 2, .int i1]) (rest := []) (wd G 0 rfl) (wd G 1 rfl) (wd G 2 rfl) (wd G 3 rfl) (by decide) (rm29 G i1 h445 X451.n f461 ) all0 (lenOf pd__II__C rfl) rfl 0 rfl (by decide) hml.symm at_25 (fun v462 T463 h464 vm465 _ w466 q467 C468 C469 X470 => ?_)
      obtain ⟨a472, k473, e474, f475, f476, f477⟩ := q467
      subst e474
      have n478 : a453 ≠ a472 := Nat.ne_of_lt (Nat.lt_of_lt_of_le (f458.lt) f476)
      have g479 : n0 ≤ a472 := Nat.le_trans X451.n f476
      have g480 : h0.size ≤ a472 := Nat.le_trans X451.g0 f476
      show Go _ _ _ _ _ (mkF _ _ _ [.ref a472])
      refine kAS X470 #[.val (.int i0), .val (.int i1), .val (.int 0), .val (.int 2), .val (.ref a453), .val (.ref a472), .unset, .unset] at_28 rfl rfl ?_
      refine kNEW X470 (wd G 5 rfl) (wd G 6 rfl) (wd G 7 rfl) at_30 (by decide) (by decide) (fun T481 h482 a484 E485 q486 g487 A488 D489 s490 X483 => ?_)
      have f492 := (Arv.keep f458 f475 nin0)
      have n491 : a453 ≠ a484 := Nat.ne_of_lt (Nat.lt_of_lt_of_le (f492.lt) (Nat.le_of_eq q486.symm))
      have n493 : a472 ≠ a484 := Nat.ne_of_lt (Nat.lt_of_lt_of_le (f477.lt) (Nat.le_of_eq q486.symm))
      have g494 : h0.size ≤ a484 := q486 ▸ X470.g0
      have f495 : Fld Z h482 a484 "java/lang/String" "value" "[B" (.null) := D489 (Or.inr (wd G 20 rfl)) (ty := (.array (.byte))) (by decide)
      have f496 : Fld Z h482 a484 "java/lang/String" "coder" "B" (.int 0) := D489 (Or.inr (wd G 21 rfl)) (ty := .byte) (by decide)
      refine kDUP X483 at_33 rfl ?_
      refine kAL X483 at_34 rfl rfl ?_
      have f497 := (Arv.ext f492 E485)
      have f498 := (Old.ext (Old.keep f461 f475 all0) E485)
      refine kSPEC X483 (gEL G) (argsL := [.ref a453]) (rest := [.ref a484]) (wd G 8 rfl) (wd G 9 rfl) (wd G 7 rfl) (wd G 10 rfl) rfl (by decide) (rm2 G a484 a453 k454 h482 X483.n f498 f497 A488 f495 n491 f496 g487) (allS ⟨(A488.lt), s490⟩ all0) (lenOf pd___C_V rfl) rfl 1 rfl (by decide) hml.symm at_36 (fun v499 T500 h501 vm502 _ w503 q504 C505 C506 X507 => ?_)
      obtain ⟨a509, k510, e511, f512, f513, f514, f515, f516⟩ := q504
      subst e511
      have n517 : a453 ≠ a509 := f513 a453 (f497.lt) (CHr.safe C505 (f497.lt) (Safe.arv X483.hZ.alike f497 (by decide)))
      have f519 := (Arv.ext f477 E485)
      have n518 : a472 ≠ a509 := f513 a472 (f519.lt) (CHr.safe C505 (f519.lt) (Safe.arv X483.hZ.alike f519 (by decide)))
      have n520 : a484 ≠ a509 := f513 a484 (A488.lt) (CHr.safe C505 (A488.lt) s490)
      have n521 : ∀ x, x < h0.size → Safe Z EL0 s.vm h0 x → x ≠ a509 := fun x hx S => f513 x (Nat.lt_of_lt_of_le hx X483.g0) (CHr.safe C505 (Nat.lt_of_lt_of_le hx X483.g0) (CHr.safe (hs0 ▸ X483.C) hx S))
      show Go _ _ _ _ _ (mkF _ _ _ [.ref a484])
      refine kNEW X507 (wd G 5 rfl) (wd G 6 rfl) (wd G 7 rfl) at_39 (by decide) (by decide) (fun T522 h523 a525 E526 q527 g528 A529 D530 s531 X524 => ?_)
      have f533 := (Arv.keep f497 f512 (ninS n491 nin0))
      have n532 : a453 ≠ a525 := Nat.ne_of_lt (Nat.lt_of_lt_of_le (f533.lt) (Nat.le_of_eq q527.symm))
      have f535 := (Arv.keep f519 f512 (ninS n493 nin0))
      have n534 : a472 ≠ a525 := Nat.ne_of_lt (Nat.lt_of_lt_of_le (f535.lt) (Nat.le_of_eq q527.symm))
      have n536 : a484 ≠ a525 := Nat.ne_of_lt (Nat.lt_of_lt_of_le (f516.lt) (Nat.le_of_eq q527.symm))
      have n537 : a509 ≠ a525 := Nat.ne_of_lt (Nat.lt_of_lt_of_le (f514.lt) (Nat.le_of_eq q527.symm))
      have g538 : h0.size ≤ a525 := q527 ▸ X507.g0
      have f539 : Fld Z h523 a525 "java/lang/String" "value" "[B" (.null) := D530 (Or.inr (wd G 20 rfl)) (ty := (.array (.byte))) (by decide)
      have f540 : Fld Z h523 a525 "java/lang/String" "coder" "B" (.int 0) := D530 (Or.inr (wd G 21 rfl)) (ty := .byte) (by decide)
      refine kDUP X524 at_42 rfl ?_
      refine kAL X524 at_43 rfl rfl ?_
      have f541 := (Arv.ext f535 E526)
      have f542 := (Old.ext (Old.keep f498 f512 (allS g487 all0)) E526)
      refine kSPEC X524 (gEL G) (argsL := [.ref a472]) (rest := [.ref a525, .ref a484]) (wd G 8 rfl) (wd G 9 rfl) (wd G 7 rfl) (wd G 10 rfl) rfl (by decide) (rm30 G ((XT.ushr i1 (8 : Int32)) &&& (255 : Int32)) ((XT.ushr i1 (16 : Int32)) &&& (255 : Int32)) a525 a472 k473 h523 X524.n f542 f541 (own_mask _).1 (own_mask _).2 (own_mask _).1 (own_mask _).2 A529 f540 f539 g528) (allS ⟨(A529.lt), s531⟩ all0) (lenOf pd___C_V rfl) rfl 2 rfl (by decide) hml.symm at_45 (fun v543 T544 h545 vm546 _ w547 q548 C549 C550 X551 => ?_)
      obtain ⟨a553, k554, e555, f556, f557, f558, f559, f560, f561⟩ := q548
      subst e555
      have f563 := (Arv.ext f533 E526)
      have n562 : a453 ≠ a553 := Nat.ne_of_lt (Nat.lt_of_lt_of_le (f563.lt) f557)
      have n564 : a472 ≠ a553 := Nat.ne_of_lt (Nat.lt_of_lt_of_le (f541.lt) f557)
      have f566 := (Fld.ext E526 f516)
      have n565 : a484 ≠ a553 := Nat.ne_of_lt (Nat.lt_of_lt_of_le (f566.lt) f557)
      have f568 := (Arv.ext f514 E526)
      have n567 : a509 ≠ a553 := Nat.ne_of_lt (Nat.lt_of_lt_of_le (f568.lt) f557)
      have n569 : a525 ≠ a553 := Nat.ne_of_lt (Nat.lt_of_lt_of_le (A529.lt) f557)
      have g570 : n0 ≤ a553 := Nat.le_trans X524.n f557
      have g571 : h0.size ≤ a553 := Nat.le_trans X524.g0 f557
      show Go _ _ _ _ _ (mkF _ _ _ [.ref a525, .ref a484])
      have f572 := (Fld.keep f566 f556 (ninS n536 nin0))
      have f573 := (Arv.keep f568 f556 (ninS n537 nin0))
      have f574 := (Exa.keep (Exa.ext E526 (Exa.keep A488 f512)) f556)
      have f575 := (Old.keep f542 f556 (allS g528 all0))
      refine kSTAT X551 (gEL G) (argsL := [.ref a484, .ref a525]) (rest := []) (wd G 26 rfl) (wd G 27 rfl) (wd G 28 rfl) (wd G 29 rfl) (by decide) (rm35 G (ownB ((XT.ushr i1 (8 : Int32)) &&& (255 : Int32))) (ownB ((XT.ushr i1 (16 : Int32)) &&& (255 : Int32))) a484 a525 a509 a553 k510 k554 h545 X551.n f575 f572 f573 f574) all0 (lenOf pd__Ljava_lang_String_Ljava_lang_String__Ljava_lang_String_ rfl) rfl 0 rfl (by decide) hml.symm at_48 (fun v576 T577 h578 vm579 _ w580 q581 C582 C583 X584 => ?_)
      obtain ⟨e586, f587⟩ := q581
      subst e586
      subst f587
      show Go _ _ _ _ _ (mkF _ _ _ [.ref a525])
      refine kAS X584 #[.val (.int i0), .val (.int i1), .val (.int 0), .val (.int 2), .val (.ref a453), .val (.ref a472), .val (.ref a525), .unset] at_51 rfl rfl ?_
      refine kILn X584 at_53 rfl ?_
      refine kILn X584 at_54 rfl ?_
      refine kIADD X584 2 at_55 (by decide) ?_
      refine kILn X584 at_56 rfl ?_
      refine kIFt X584 68 at_57 (XT.i0_le_t (by decide)) (by decide) ?_
      refine kIC X584 0 at_68 (by decide) ?_
      refine kIADD X584 2 at_69 (by decide) ?_
      refine kIS X584 #[.val (.int i0), .val (.int i1), .val (.int 0), .val (.int 2), .val (.ref a453), .val (.ref a472), .val (.ref a525), .val (.int 2)] at_70 rfl ?_
      refine kAL X584 at_72 rfl rfl ?_
      have f588 := (Exa.keep A529 f556)
      refine kVIRT X584 (gEL G) (argsL := []) (rest := []) (wd G 35 rfl) (wd G 36 rfl) (own_nf X584.hZ (own_noinst (wd G 6 rfl))) (wd G 38 rfl) (wd G 37 rfl) (wd G 7 rfl) (wd G 39 rfl) (by decide) f588 (rm36 G (ownB ((XT.ushr i1 (8 : Int32)) &&& (255 : Int32))) (ownB ((XT.ushr i1 (16 : Int32)) &&& (255 : Int32))) a525 a553 k554 h545 X584.n f575 f561 f558 f560 f588) all0 (lenOf pd___I rfl) rfl 0 rfl (by decide) hml.symm at_74 (fun v589 T590 h591 vm592 _ w593 q594 C595 C596 X597 => ?_)
      obtain ⟨e599, f600⟩ := q594
      subst e599
      subst f600
      show Go _ _ _ _ _ (mkF _ _ _ [.int 2])
      refine kIL X597 at_77 rfl ?_
      refine kICt X597 84 at_79 (XT.ii_eq_t (by decide)) (by decide) ?_
      refine kAL X597 at_84 rfl rfl ?_
      refine kIC X597 0 at_86 (by decide) ?_
      refine kIL X597 at_87 rfl ?_
      refine kAL X597 at_89 rfl rfl ?_
      refine kILn X597 at_91 rfl ?_
      refine kAL X597 at_92 rfl rfl ?_
      refine kILn X597 at_94 rfl ?_
      have f601 := (Arv.keep f541 f556 (ninS n534 nin0))
      refine kSTAT X597 (gEL G) (argsL := [.ref a525, .int 0, .int 2, .ref a453, .int 0, .ref a472, .int 2]) (rest := []) (wd G 46 rfl) (wd G 47 rfl) (wd G 2 rfl) (wd G 48 rfl) (by decide) (rm38 G ((XT.ushr i1 (8 : Int32)) &&& (255 : Int32)) ((XT.ushr i1 (16 : Int32)) &&& (255 : Int32)) (ownB ((XT.ushr i1 (8 : Int32)) &&& (255 : Int32))) (ownB ((XT.ushr i1 (16 : Int32)) &&& (255 : Int32))) a525 a453 a472 a553 k454 k473 k554 h545 X597.n f575 f560 f588 f561 f558 (own_mask _).1 (own_mask _).2 (own_mask _).1 (own_mask _).2 f601) all0 (lenOf pd__Ljava_lang_String_II_CI_CI_Z rfl) rfl 0 rfl (by decide) hml.symm at_95 (fun v602 T603 h604 vm605 _ w606 q607 C608 C609 X610 => ?_)
      rcases q607 with o612 | o613
      · obtain ⟨e614, f615, f616⟩ := o612
        subst e614
        subst f616
        show Go _ _ _ _ _ (mkF _ _ _ [.int 1])
        refine kIFf X610 at_98 (XT.i0_eq_f (by decide)) ?_
        refine kAL X610 at_101 rfl rfl ?_
        refine kIC X610 1 at_103 (by decide) ?_
        refine kIL X610 at_104 rfl ?_
        refine kAL X610 at_106 rfl rfl ?_
        refine kILn X610 at_108 rfl ?_
        refine kAL X610 at_109 rfl rfl ?_
        refine kILn X610 at_111 rfl ?_
        refine kSTAT X610 (gEL G) (argsL := [.ref a525, .int 1, .int 2, .ref a453, .int 0, .ref a472, .int 2]) (rest := []) (wd G 46 rfl) (wd G 47 rfl) (wd G 2 rfl) (wd G 48 rfl) (by decide) (rm40 G ((XT.ushr i1 (8 : Int32)) &&& (255 : Int32)) ((XT.ushr i1 (16 : Int32)) &&& (255 : Int32)) (ownB ((XT.ushr i1 (8 : Int32)) &&& (255 : Int32))) (ownB ((XT.ushr i1 (16 : Int32)) &&& (255 : Int32))) a525 a453 a472 a553 k454 k473 k554 h545 X610.n f575 f560 f588 f561 f558 (own_mask _).1 (own_mask _).2 (own_mask _).1 (own_mask _).2 f601) all0 (lenOf pd__Ljava_lang_String_II_CI_CI_Z rfl) rfl 0 rfl (by decide) hml.symm at_112 (fun v617 T618 h619 vm620 _ w621 q622 C623 C624 X625 => ?_)
        rcases q622 with o627 | o628
        · obtain ⟨e629, f630, f631⟩ := o627
          subst e629
          subst f631
          show Go _ _ _ _ _ (mkF _ _ _ [.int 1])
          refine kIFf X625 at_115 (XT.i0_eq_f (by decide)) ?_
          refine kAL X625 at_118 rfl rfl ?_
          refine kIC X625 2 at_120 (by decide) ?_
          refine kIL X625 at_121 rfl ?_
          refine kAL X625 at_123 rfl rfl ?_
          refine kILn X625 at_125 rfl ?_
          refine kAL X625 at_126 rfl rfl ?_
          refine kILn X625 at_128 rfl ?_
          refine kSTAT X625 (gEL G) (argsL := [.ref a525, .int 2, .int 2, .ref a453, .int 0, .ref a472, .int 2]) (rest := []) (wd G 46 rfl) (wd G 47 rfl) (wd G 2 rfl) (wd G 48 rfl) (by decide) (rm42 G ((XT.ushr i1 (8 : Int32)) &&& (255 : Int32)) ((XT.ushr i1 (16 : Int32)) &&& (255 : Int32)) (ownB ((XT.ushr i1 (8 : Int32)) &&& (255 : Int32))) (ownB ((XT.ushr i1 (16 : Int32)) &&& (255 : Int32))) a525 a453 a472 a553 k454 k473 k554 h545 X625.n f575 ) all0 (lenOf pd__Ljava_lang_String_II_CI_CI_Z rfl) rfl 0 rfl (by decide) hml.symm at_129 (fun v632 T633 h634 vm635 _ w636 q637 C638 C639 X640 => ?_)
          obtain ⟨e642, f643⟩ := q637
          subst e642
          subst f643
          show Go _ _ _ _ _ (mkF _ _ _ [.int 1])
          refine kIFf X640 at_132 (XT.i0_eq_f (by decide)) ?_
          refine kAL X640 at_135 rfl rfl ?_
          refine kIC X640 3 at_137 (by decide) ?_
          refine kIL X640 at_138 rfl ?_
          refine kAL X640 at_140 rfl rfl ?_
          refine kILn X640 at_142 rfl ?_
          refine kAL X640 at_143 rfl rfl ?_
          refine kILn X640 at_145 rfl ?_
          refine kSTAT X640 (gEL G) (argsL := [.ref a525, .int 3, .int 2, .ref a453, .int 0, .ref a472, .int 2]) (rest := []) (wd G 46 rfl) (wd G 47 rfl) (wd G 2 rfl) (wd G 48 rfl) (by decide) (rm43 G ((XT.ushr i1 (8 : Int32)) &&& (255 : Int32)) ((XT.ushr i1 (16 : Int32)) &&& (255 : Int32)) (ownB ((XT.ushr i1 (8 : Int32)) &&& (255 : Int32))) (ownB ((XT.ushr i1 (16 : Int32)) &&& (255 : Int32))) a525 a453 a472 a553 k454 k473 k554 h545 X640.n f575 ) all0 (lenOf pd__Ljava_lang_String_II_CI_CI_Z rfl) rfl 0 rfl (by decide) hml.symm at_146 (fun v644 T645 h646 vm647 _ w648 q649 C650 C651 X652 => ?_)
          obtain ⟨e654, f655⟩ := q649
          subst e654
          subst f655
          show Go _ _ _ _ _ (mkF _ _ _ [.int 1])
          refine kIFf X652 at_149 (XT.i0_eq_f (by decide)) ?_
          refine kAL X652 at_152 rfl rfl ?_
          refine kIC X652 4 at_154 (by decide) ?_
          refine kIL X652 at_155 rfl ?_
          refine kAL X652 at_157 rfl rfl ?_
          refine kILn X652 at_159 rfl ?_
          refine kAL X652 at_160 rfl rfl ?_
          refine kILn X652 at_162 rfl ?_
          refine kSTAT X652 (gEL G) (argsL := [.ref a525, .int 4, .int 2, .ref a453, .int 0, .ref a472, .int 2]) (rest := []) (wd G 46 rfl) (wd G 47 rfl) (wd G 2 rfl) (wd G 48 rfl) (by decide) (rm44 G ((XT.ushr i1 (8 : Int32)) &&& (255 : Int32)) ((XT.ushr i1 (16 : Int32)) &&& (255 : Int32)) (ownB ((XT.ushr i1 (8 : Int32)) &&& (255 : Int32))) (ownB ((XT.ushr i1 (16 : Int32)) &&& (255 : Int32))) a525 a453 a472 a553 k454 k473 k554 h545 X652.n f575 ) all0 (lenOf pd__Ljava_lang_String_II_CI_CI_Z rfl) rfl 0 rfl (by decide) hml.symm at_163 (fun v656 T657 h658 vm659 _ w660 q661 C662 C663 X664 => ?_)
          obtain ⟨e666, f667⟩ := q661
          subst e666
          subst f667
          show Go _ _ _ _ _ (mkF _ _ _ [.int 1])
          refine kIFf X664 at_166 (XT.i0_eq_f (by decide)) ?_
          refine kIC X664 1 at_169 (by decide) ?_
          refine kGOTO X664 174 at_170 (by decide) ?_
          exact kRETZ X664 (gEL G) (t := .boolean) hret (by simp) at_174 (fun _ _ => rfl) (by decide)
        · obtain ⟨e668, f669, f670⟩ := o628
          subst e668
          exact absurd (own_rt (own_mask _).1 (own_mask _).2) f669
      · obtain ⟨e671, f672, f673⟩ := o613
        subst e671
        exact absurd (own_rt (own_mask _).1 (own_mask _).2) f672
  · rw [hk1]
    clear hk1
    refine kILn X0 at_8 rfl ?_
    refine kSI X0 255 at_9 (by decide) ?_
    refine kIAND X0 (i1 &&& (255 : Int32)) at_12 rfl ?_
    refine kIC X0 3 at_13 (by decide) ?_
    refine kIREM X0 ((i1 &&& (255 : Int32)) % (3 : Int32)) at_14 (by decide) rfl ?_
    refine kISn X0 #[.val (.int i0), .val (.int i1), .val (.int 1), .val (.int ((i1 &&& (255 : Int32)) % (3 : Int32))), .unset, .unset, .unset, .unset] at_15 rfl ?_
    rcases own_m3 i1 with hk674 | hk674 | hk674
    · rw [hk674]
      clear hk674
      refine kILn X0 at_16 rfl ?_
      refine kILn X0 at_17 rfl ?_
      refine kSTAT X0 (gEL G) (argsL := [.int 1, .int i0]) (rest := []) (wd G 0 rfl) (wd G 1 rfl) (wd G 2 rfl) (wd G 3 rfl) (by decide) (rm13 G i0 h0 X0.n O0 ) all0 (lenOf pd__II__C rfl) rfl 0 rfl (by decide) hml.symm at_18 (fun v675 T676 h677 vm678 _ w679 q680 C681 C682 X683 => ?_)
      obtain ⟨a685, k686, e687, f688, f689, f690⟩ := q680
      subst e687
      have g691 : n0 ≤ a685 := Nat.le_trans X0.n f689
      have g692 : h0.size ≤ a685 := Nat.le_trans X0.g0 f689
      show Go _ _ _ _ _ (mkF _ _ _ [.ref a685])
      refine kAS X683 #[.val (.int i0), .val (.int i1), .val (.int 1), .val (.int 0), .val (.ref a685), .unset, .unset, .unset] at_21 rfl rfl ?_
      refine kILn X683 at_23 rfl ?_
      refine kILn X683 at_24 rfl ?_
      have f693 := (Old.keep O0 f688 all0)
      refine kSTAT X683 (gEL G) (argsL := [.int 0, .int i1]) (rest := []) (wd G 0 rfl) (wd G 1 rfl) (wd G 2 rfl) (wd G 3 rfl) (by decide) (rm1 G i1 h677 X683.n f693 ) all0 (lenOf pd__II__C rfl) rfl 0 rfl (by decide) hml.symm at_25 (fun v694 T695 h696 vm697 _ w698 q699 C700 C701 X702 => ?_)
      obtain ⟨a704, k705, e706, f707, f708, f709⟩ := q699
      subst e706
      have n710 : a685 ≠ a704 := Nat.ne_of_lt (Nat.lt_of_lt_of_le (f690.lt) f708)
      have g711 : n0 ≤ a704 := Nat.le_trans X683.n f708
      have g712 : h0.size ≤ a704 := Nat.le_trans X683.g0 f708
      show Go _ _ _ _ _ (mkF _ _ _ [.ref a704])
      refine kAS X702 #[.val (.int i0), .val (.int i1), .val (.int 1), .val (.int 0), .val (.ref a685), .val (.ref a704), .unset, .unset] at_28 rfl rfl ?_
      refine kNEW X702 (wd G 5 rfl) (wd G 6 rfl) (wd G 7 rfl) at_30 (by decide) (by decide) (fun T713 h714 a716 E717 q718 g719 A720 D721 s722 X715 => ?_)
      have f724 := (Arv.keep f690 f707 nin0)
      have n723 : a685 ≠ a716 := Nat.ne_of_lt (Nat.lt_of_lt_of_le (f724.lt) (Nat.le_of_eq q718.symm))
      have n725 : a704 ≠ a716 := Nat.ne_of_lt (Nat.lt_of_lt_of_le (f709.lt) (Nat.le_of_eq q718.symm))
      have g726 : h0.size ≤ a716 := q718 ▸ X702.g0
      have f727 : Fld Z h714 a716 "java/lang/String" "value" "[B" (.null) := D721 (Or.inr (wd G 20 rfl)) (ty := (.array (.byte))) (by decide)
      have f728 : Fld Z h714 a716 "java/lang/String" "coder" "B" (.int 0) := D721 (Or.inr (wd G 21 rfl)) (ty := .byte) (by decide)
      refine kDUP X715 at_33 rfl ?_
      refine kAL X715 at_34 rfl rfl ?_
      have f729 := (Arv.ext f724 E717)
      have f730 := (Old.ext (Old.keep f693 f707 all0) E717)
      refine kSPEC X715 (gEL G) (argsL := [.ref a685]) (rest := [.ref a716]) (wd G 8 rfl) (wd G 9 rfl) (wd G 7 rfl) (wd G 10 rfl) rfl (by decide) (rm14 G ((XT.ushr i0 (8 : Int32)) &&& (255 : Int32)) a716 a685 k686 h714 X715.n f730 f729 (own_mask _).1 (own_mask _).2 A720 f728 f727 g719) (allS ⟨(A720.lt), s722⟩ all0) (lenOf pd___C_V rfl) rfl 1 rfl (by decide) hml.symm at_36 (fun v731 T732 h733 vm734 _ w735 q736 C737 C738 X739 => ?_)
      obtain ⟨a741, k742, e743, f744, f745, f746, f747, f748, f749⟩ := q736
      subst e743
      have n750 : a685 ≠ a741 := Nat.ne_of_lt (Nat.lt_of_lt_of_le (f729.lt) f745)
      have f752 := (Arv.ext f709 E717)
      have n751 : a704 ≠ a741 := Nat.ne_of_lt (Nat.lt_of_lt_of_le (f752.lt) f745)
      have n753 : a716 ≠ a741 := Nat.ne_of_lt (Nat.lt_of_lt_of_le (A720.lt) f745)
      have g754 : n0 ≤ a741 := Nat.le_trans X715.n f745
      have g755 : h0.size ≤ a741 := Nat.le_trans X715.g0 f745
      show Go _ _ _ _ _ (mkF _ _ _ [.ref a716])
      refine kNEW X739 (wd G 5 rfl) (wd G 6 rfl) (wd G 7 rfl) at_39 (by decide) (by decide) (fun T756 h757 a759 E760 q761 g762 A763 D764 s765 X758 => ?_)
      have f767 := (Arv.keep f729 f744 (ninS n723 nin0))
      have n766 : a685 ≠ a759 := Nat.ne_of_lt (Nat.lt_of_lt_of_le (f767.lt) (Nat.le_of_eq q761.symm))
      have f769 := (Arv.keep f752 f744 (ninS n725 nin0))
      have n768 : a704 ≠ a759 := Nat.ne_of_lt (Nat.lt_of_lt_of_le (f769.lt) (Nat.le_of_eq q761.symm))
      have n770 : a716 ≠ a759 := Nat.ne_of_lt (Nat.lt_of_lt_of_le (f749.lt) (Nat.le_of_eq q761.symm))
      have n771 : a741 ≠ a759 := Nat.ne_of_lt (Nat.lt_of_lt_of_le (f746.lt) (Nat.le_of_eq q761.symm))
      have g772 : h0.size ≤ a759 := q761 ▸ X739.g0
      have f773 : Fld Z h757 a759 "java/lang/String" "value" "[B" (.null) := D764 (Or.inr (wd G 20 rfl)) (ty := (.array (.byte))) (by decide)
      have f774 : Fld Z h757 a759 "java/lang/String" "coder" "B" (.int 0) := D764 (Or.inr (wd G 21 rfl)) (ty := .byte) (by decide)
      refine kDUP X758 at_42 rfl ?_
      refine kAL X758 at_43 rfl rfl ?_
      have f775 := (Arv.ext f769 E760)
      have f776 := (Old.ext (Old.keep f730 f744 (allS g719 all0)) E760)
      refine kSPEC X758 (gEL G) (argsL := [.ref a704]) (rest := [.ref a759, .ref a716]) (wd G 8 rfl) (wd G 9 rfl) (wd G 7 rfl) (wd G 10 rfl) rfl (by decide) (rm2 G a759 a704 k705 h757 X758.n f776 f775 A763 f773 n768 f774 g762) (allS ⟨(A763.lt), s765⟩ all0) (lenOf pd___C_V rfl) rfl 2 rfl (by decide) hml.symm at_45 (fun v777 T778 h779 vm780 _ w781 q782 C783 C784 X785 => ?_)
      obtain ⟨a787, k788, e789, f790, f791, f792, f793, f794⟩ := q782
      subst e789
      have f796 := (Arv.ext f767 E760)
      have n795 : a685 ≠ a787 := f791 a685 (f796.lt) (CHr.safe C783 (f796.lt) (Safe.arv X758.hZ.alike f796 (by decide)))
      have n797 : a704 ≠ a787 := f791 a704 (f775.lt) (CHr.safe C783 (f775.lt) (Safe.arv X758.hZ.alike f775 (by decide)))
      have f799 := (Fld.ext E760 f749)
      have f800 := (Safe.ext E760 X739.C.1 (CHr.safe C738 (A720.lt) s722))
      have n798 : a716 ≠ a787 := f791 a716 (f799.lt) (CHr.safe C783 (f799.lt) f800)
      have f802 := (Arv.ext f746 E760)
      have f803 := (Safe.ext E760 X739.C.1 f747)
      have n801 : a741 ≠ a787 := f791 a741 (f802.lt) (CHr.safe C783 (f802.lt) f803)
      have n804 : a759 ≠ a787 := f791 a759 (A763.lt) (CHr.safe C783 (A763.lt) s765)
      have n805 : ∀ x, x < h0.size → Safe Z EL0 s.vm h0 x → x ≠ a787 := fun x hx S => f791 x (Nat.lt_of_lt_of_le hx X758.g0) (CHr.safe C783 (Nat.lt_of_lt_of_le hx X758.g0) (CHr.safe (hs0 ▸ X758.C) hx S))
      show Go _ _ _ _ _ (mkF _ _ _ [.ref a759, .ref a716])
      have f806 := (Fld.keep f799 f790 (ninS n770 nin0))
      have f807 := (Arv.keep f802 f790 (ninS n771 nin0))
      have f808 := (Exa.keep (Exa.ext E760 (Exa.keep A720 f744)) f790)
      have f809 := (Exa.keep A763 f790)
      have f810 := (Old.keep f776 f790 (allS g762 all0))
      refine kSTAT X785 (gEL G) (argsL := [.ref a716, .ref a759]) (rest := []) (wd G 26 rfl) (wd G 27 rfl) (wd G 28 rfl) (wd G 29 rfl) (by decide) (rm45 G (ownB ((XT.ushr i0 (8 : Int32)) &&& (255 : Int32))) a716 a759 a741 a787 k742 k788 h779 X785.n f810 f806 f807 f808 f794 f792 f809) all0 (lenOf pd__Ljava_lang_String_Ljava_lang_String__Ljava_lang_String_ rfl) rfl 0 rfl (by decide) hml.symm at_48 (fun v811 T812 h813 vm814 _ w815 q816 C817 C818 X819 => ?_)
      obtain ⟨e821, f822⟩ := q816
      subst e821
      subst f822
      show Go _ _ _ _ _ (mkF _ _ _ [.ref a716])
      refine kAS X819 #[.val (.int i0), .val (.int i1), .val (.int 1), .val (.int 0), .val (.ref a685), .val (.ref a704), .val (.ref a716), .unset] at_51 rfl rfl ?_
      refine kILn X819 at_53 rfl ?_
      refine kILn X819 at_54 rfl ?_
      refine kIADD X819 1 at_55 (by decide) ?_
      refine kILn X819 at_56 rfl ?_
      refine kIFf X819 at_57 (XT.i0_le_f (by decide)) ?_
      refine kILn X819 at_60 rfl ?_
      refine kIFt X819 68 at_61 (XT.i0_le_t (by decide)) (by decide) ?_
      refine kIC X819 0 at_68 (by decide) ?_
      refine kIADD X819 1 at_69 (by decide) ?_
      refine kIS X819 #[.val (.int i0), .val (.int i1), .val (.int 1), .val (.int 0), .val (.ref a685), .val (.ref a704), .val (.ref a716), .val (.int 1)] at_70 rfl ?_
      refine kAL X819 at_72 rfl rfl ?_
      have f823 := (Fld.keep (Fld.ext E760 f748) f790 (ninS n770 nin0))
      refine kVIRT X819 (gEL G) (argsL := []) (rest := []) (wd G 35 rfl) (wd G 36 rfl) (own_nf X819.hZ (own_noinst (wd G 6 rfl))) (wd G 38 rfl) (wd G 37 rfl) (wd G 7 rfl) (wd G 39 rfl) (by decide) f808 (rm20 G (ownB ((XT.ushr i0 (8 : Int32)) &&& (255 : Int32))) a716 a741 k742 h779 X819.n f810 f806 f807 f823 f808) all0 (lenOf pd___I rfl) rfl 0 rfl (by decide) hml.symm at_74 (fun v824 T825 h826 vm827 _ w828 q829 C830 C831 X832 => ?_)
      obtain ⟨e834, f835⟩ := q829
      subst e834
      subst f835
      show Go _ _ _ _ _ (mkF _ _ _ [.int 1])
      refine kIL X832 at_77 rfl ?_
      refine kICt X832 84 at_79 (XT.ii_eq_t (by decide)) (by decide) ?_
      refine kAL X832 at_84 rfl rfl ?_
      refine kIC X832 0 at_86 (by decide) ?_
      refine kIL X832 at_87 rfl ?_
      refine kAL X832 at_89 rfl rfl ?_
      refine kILn X832 at_91 rfl ?_
      refine kAL X832 at_92 rfl rfl ?_
      refine kILn X832 at_94 rfl ?_
      have f836 := (Arv.keep f796 f790 (ninS n766 nin0))
      refine kSTAT X832 (gEL G) (argsL := [.ref a716, .int 0, .int 1, .ref a685, .int 1, .ref a704, .int 0]) (rest := []) (wd G 46 rfl) (wd G 47 rfl) (wd G 2 rfl) (wd G 48 rfl) (by decide) (rm47 G ((XT.ushr i0 (8 : Int32)) &&& (255 : Int32)) (ownB ((XT.ushr i0 (8 : Int32)) &&& (255 : Int32))) a716 a685 a704 a741 k686 k705 k742 h779 X832.n f810 f823 f808 f806 f807 (own_mask _).1 (own_mask _).2 f836) all0 (lenOf pd__Ljava_lang_String_II_CI_CI_Z rfl) rfl 0 rfl (by decide) hml.symm at_95 (fun v837 T838 h839 vm840 _ w841 q842 C843 C844 X845 => ?_)
      rcases q842 with o847 | o848
      · obtain ⟨e849, f850, f851⟩ := o847
        subst e849
        subst f851
        show Go _ _ _ _ _ (mkF _ _ _ [.int 1])
        refine kIFf X845 at_98 (XT.i0_eq_f (by decide)) ?_
        refine kAL X845 at_101 rfl rfl ?_
        refine kIC X845 1 at_103 (by decide) ?_
        refine kIL X845 at_104 rfl ?_
        refine kAL X845 at_106 rfl rfl ?_
        refine kILn X845 at_108 rfl ?_
        refine kAL X845 at_109 rfl rfl ?_
        refine kILn X845 at_111 rfl ?_
        refine kSTAT X845 (gEL G) (argsL := [.ref a716, .int 1, .int 1, .ref a685, .int 1, .ref a704, .int 0]) (rest := []) (wd G 46 rfl) (wd G 47 rfl) (wd G 2 rfl) (wd G 48 rfl) (by decide) (rm49 G ((XT.ushr i0 (8 : Int32)) &&& (255 : Int32)) (ownB ((XT.ushr i0 (8 : Int32)) &&& (255 : Int32))) a716 a685 a704 a741 k686 k705 k742 h779 X845.n f810 ) all0 (lenOf pd__Ljava_lang_String_II_CI_CI_Z rfl) rfl 0 rfl (by decide) hml.symm at_112 (fun v852 T853 h854 vm855 _ w856 q857 C858 C859 X860 => ?_)
        obtain ⟨e862, f863⟩ := q857
        subst e862
        subst f863
        show Go _ _ _ _ _ (mkF _ _ _ [.int 1])
        refine kIFf X860 at_115 (XT.i0_eq_f (by decide)) ?_
        refine kAL X860 at_118 rfl rfl ?_
        refine kIC X860 2 at_120 (by decide) ?_
        refine kIL X860 at_121 rfl ?_
        refine kAL X860 at_123 rfl rfl ?_
        refine kILn X860 at_125 rfl ?_
        refine kAL X860 at_126 rfl rfl ?_
        refine kILn X860 at_128 rfl ?_
        refine kSTAT X860 (gEL G) (argsL := [.ref a716, .int 2, .int 1, .ref a685, .int 1, .ref a704, .int 0]) (rest := []) (wd G 46 rfl) (wd G 47 rfl) (wd G 2 rfl) (wd G 48 rfl) (by decide) (rm50 G ((XT.ushr i0 (8 : Int32)) &&& (255 : Int32)) (ownB ((XT.ushr i0 (8 : Int32)) &&& (255 : Int32))) a716 a685 a704 a741 k686 k705 k742 h779 X860.n f810 ) all0 (lenOf pd__Ljava_lang_String_II_CI_CI_Z rfl) rfl 0 rfl (by decide) hml.symm at_129 (fun v864 T865 h866 vm867 _ w868 q869 C870 C871 X872 => ?_)
        obtain ⟨e874, f875⟩ := q869
        subst e874
        subst f875
        show Go _ _ _ _ _ (mkF _ _ _ [.int 1])
        refine kIFf X872 at_132 (XT.i0_eq_f (by decide)) ?_
        refine kAL X872 at_135 rfl rfl ?_
        refine kIC X872 3 at_137 (by decide) ?_
        refine kIL X872 at_138 rfl ?_
        refine kAL X872 at_140 rfl rfl ?_
        refine kILn X872 at_142 rfl ?_
        refine kAL X872 at_143 rfl rfl ?_
        refine kILn X872 at_145 rfl ?_
        refine kSTAT X872 (gEL G) (argsL := [.ref a716, .int 3, .int 1, .ref a685, .int 1, .ref a704, .int 0]) (rest := []) (wd G 46 rfl) (wd G 47 rfl) (wd G 2 rfl) (wd G 48 rfl) (by decide) (rm51 G ((XT.ushr i0 (8 : Int32)) &&& (255 : Int32)) (ownB ((XT.ushr i0 (8 : Int32)) &&& (255 : Int32))) a716 a685 a704 a741 k686 k705 k742 h779 X872.n f810 ) all0 (lenOf pd__Ljava_lang_String_II_CI_CI_Z rfl) rfl 0 rfl (by decide) hml.symm at_146 (fun v876 T877 h878 vm879 _ w880 q881 C882 C883 X884 => ?_)
        obtain ⟨e886, f887⟩ := q881
        subst e886
        subst f887
        show Go _ _ _ _ _ (mkF _ _ _ [.int 1])
        refine kIFf X884 at_149 (XT.i0_eq_f (by decide)) ?_
        refine kAL X884 at_152 rfl rfl ?_
        refine kIC X884 4 at_154 (by decide) ?_
        refine kIL X884 at_155 rfl ?_
        refine kAL X884 at_157 rfl rfl ?_
        refine kILn X884 at_159 rfl ?_
        refine kAL X884 at_160 rfl rfl ?_
        refine kILn X884 at_162 rfl ?_
        refine kSTAT X884 (gEL G) (argsL := [.ref a716, .int 4, .int 1, .ref a685, .int 1, .ref a704, .int 0]) (rest := []) (wd G 46 rfl) (wd G 47 rfl) (wd G 2 rfl) (wd G 48 rfl) (by decide) (rm52 G ((XT.ushr i0 (8 : Int32)) &&& (255 : Int32)) (ownB ((XT.ushr i0 (8 : Int32)) &&& (255 : Int32))) a716 a685 a704 a741 k686 k705 k742 h779 X884.n f810 ) all0 (lenOf pd__Ljava_lang_String_II_CI_CI_Z rfl) rfl 0 rfl (by decide) hml.symm at_163 (fun v888 T889 h890 vm891 _ w892 q893 C894 C895 X896 => ?_)
        obtain ⟨e898, f899⟩ := q893
        subst e898
        subst f899
        show Go _ _ _ _ _ (mkF _ _ _ [.int 1])
        refine kIFf X896 at_166 (XT.i0_eq_f (by decide)) ?_
        refine kIC X896 1 at_169 (by decide) ?_
        refine kGOTO X896 174 at_170 (by decide) ?_
        exact kRETZ X896 (gEL G) (t := .boolean) hret (by simp) at_174 (fun _ _ => rfl) (by decide)
      · obtain ⟨e900, f901, f902⟩ := o848
        subst e900
        exact absurd (own_rt (own_mask _).1 (own_mask _).2) f901
    · rw [hk674]
      clear hk674
      refine kILn X0 at_16 rfl ?_
      refine kILn X0 at_17 rfl ?_
      refine kSTAT X0 (gEL G) (argsL := [.int 1, .int i0]) (rest := []) (wd G 0 rfl) (wd G 1 rfl) (wd G 2 rfl) (wd G 3 rfl) (by decide) (rm13 G i0 h0 X0.n O0 ) all0 (lenOf pd__II__C rfl) rfl 0 rfl (by decide) hml.symm at_18 (fun v903 T904 h905 vm906 _ w907 q908 C909 C910 X911 => ?_)
      obtain ⟨a913, k914, e915, f916, f917, f918⟩ := q908
      subst e915
      have g919 : n0 ≤ a913 := Nat.le_trans X0.n f917
      have g920 : h0.size ≤ a913 := Nat.le_trans X0.g0 f917
      show Go _ _ _ _ _ (mkF _ _ _ [.ref a913])
      refine kAS X911 #[.val (.int i0), .val (.int i1), .val (.int 1), .val (.int 1), .val (.ref a913), .unset, .unset, .unset] at_21 rfl rfl ?_
      refine kILn X911 at_23 rfl ?_
      refine kILn X911 at_24 rfl ?_
      have f921 := (Old.keep O0 f916 all0)
      refine kSTAT X911 (gEL G) (argsL := [.int 1, .int i1]) (rest := []) (wd G 0 rfl) (wd G 1 rfl) (wd G 2 rfl) (wd G 3 rfl) (by decide) (rm13 G i1 h905 X911.n f921 ) all0 (lenOf pd__II__C rfl) rfl 0 rfl (by decide) hml.symm at_25 (fun v922 T923 h924 vm925 _ w926 q927 C928 C929 X930 => ?_)
      obtain ⟨a932, k933, e934, f935, f936, f937⟩ := q927
      subst e934
      have n938 : a913 ≠ a932 := Nat.ne_of_lt (Nat.lt_of_lt_of_le (f918.lt) f936)
      have g939 : n0 ≤ a932 := Nat.le_trans X911.n f936
      have g940 : h0.size ≤ a932 := Nat.le_trans X911.g0 f936
      show Go _ _ _ _ _ (mkF _ _ _ [.ref a932])
      refine kAS X930 #[.val (.int i0), .val (.int i1), .val (.int 1), .val (.int 1), .val (.ref a913), .val (.ref a932), .unset, .unset] at_28 rfl rfl ?_
      refine kNEW X930 (wd G 5 rfl) (wd G 6 rfl) (wd G 7 rfl) at_30 (by decide) (by decide) (fun T941 h942 a944 E945 q946 g947 A948 D949 s950 X943 => ?_)
      have f952 := (Arv.keep f918 f935 nin0)
      have n951 : a913 ≠ a944 := Nat.ne_of_lt (Nat.lt_of_lt_of_le (f952.lt) (Nat.le_of_eq q946.symm))
      have n953 : a932 ≠ a944 := Nat.ne_of_lt (Nat.lt_of_lt_of_le (f937.lt) (Nat.le_of_eq q946.symm))
      have g954 : h0.size ≤ a944 := q946 ▸ X930.g0
      have f955 : Fld Z h942 a944 "java/lang/String" "value" "[B" (.null) := D949 (Or.inr (wd G 20 rfl)) (ty := (.array (.byte))) (by decide)
      have f956 : Fld Z h942 a944 "java/lang/String" "coder" "B" (.int 0) := D949 (Or.inr (wd G 21 rfl)) (ty := .byte) (by decide)
      refine kDUP X943 at_33 rfl ?_
      refine kAL X943 at_34 rfl rfl ?_
      have f957 := (Arv.ext f952 E945)
      have f958 := (Old.ext (Old.keep f921 f935 all0) E945)
      refine kSPEC X943 (gEL G) (argsL := [.ref a913]) (rest := [.ref a944]) (wd G 8 rfl) (wd G 9 rfl) (wd G 7 rfl) (wd G 10 rfl) rfl (by decide) (rm14 G ((XT.ushr i0 (8 : Int32)) &&& (255 : Int32)) a944 a913 k914 h942 X943.n f958 f957 (own_mask _).1 (own_mask _).2 A948 f956 f955 g947) (allS ⟨(A948.lt), s950⟩ all0) (lenOf pd___C_V rfl) rfl 1 rfl (by decide) hml.symm at_36 (fun v959 T960 h961 vm962 _ w963 q964 C965 C966 X967 => ?_)
      obtain ⟨a969, k970, e971, f972, f973, f974, f975, f976, f977⟩ := q964
      subst e971
      have n978 : a913 ≠ a969 := Nat.ne_of_lt (Nat.lt_of_lt_of_le (f957.lt) f973)
      have f980 := (Arv.ext f937 E945)
      have n979 : a932 ≠ a969 := Nat.ne_of_lt (Nat.lt_of_lt_of_le (f980.lt) f973)
      have n981 : a944 ≠ a969 := Nat.ne_of_lt (Nat.lt_of_lt_of_le (A948.lt) f973)
      have g982 : n0 ≤ a969 := Nat.le_trans X943.n f973
      have g983 : h0.size ≤ a969 := Nat.le_trans X943.g0 f973
      show Go _ _ _ _ _ (mkF _ _ _ [.ref a944])
      refine kNEW X967 (wd G 5 rfl) (wd G 6 rfl) (wd G 7 rfl) at_39 (by decide) (by decide) (fun T984 h985 a987 E988 q989 g990 A991 D992 s993 X986 => ?_)
      have f995 := (Arv.keep f957 f972 (ninS n951 nin0))
      have n994 : a913 ≠ a987 := Nat.ne_of_lt (Nat.lt_of_lt_of_le (f995.lt) (Nat.le_of_eq q989.symm))
      have f997 := (Arv.keep f980 f972 (ninS n953 nin0))
      have n996 : a932 ≠ a987 := Nat.ne_of_lt (Nat.lt_of_lt_of_le (f997.lt) (Nat.le_of_eq q989.symm))
      have n998 : a944 ≠ a987 := Nat.ne_of_lt (Nat.lt_of_lt_of_le (f977.lt) (Nat.le_of_eq q989.symm))
      have n999 : a969 ≠ a987 := Nat.ne_of_lt (Nat.lt_of_lt_of_le (f974.lt) (Nat.le_of_eq q989.symm))
      have g1000 : h0.size ≤ a987 := q989 ▸ X967.g0
      have f1001 : Fld Z h985 a987 "java/lang/String" "value" "[B" (.null) := D992 (Or.inr (wd G 20 rfl)) (ty := (.array (.byte))) (by decide)
      have f1002 : Fld Z h985 a987 "java/lang/String" "coder" "B" (.int 0) := D992 (Or.inr (wd G 21 rfl)) (ty := .byte) (by decide)
      refine kDUP X986 at_42 rfl ?_
      refine kAL X986 at_43 rfl rfl ?_
      have f1003 := (Arv.ext f997 E988)
      have f1004 := (Old.ext (Old.keep f958 f972 (allS g947 all0)) E988)
      refine kSPEC X986 (gEL G) (argsL := [.ref a932]) (rest := [.ref a987, .ref a944]) (wd G 8 rfl) (wd G 9 rfl) (wd G 7 rfl) (wd G 10 rfl) rfl (by decide) (rm14 G ((XT.ushr i1 (8 : Int32)) &&& (255 : Int32)) a987 a932 k933 h985 X986.n f1004 f1003 (own_mask _).1 (own_mask _).2 A991 f1002 f1001 g990) (allS ⟨(A991.lt), s993⟩ all0) (lenOf pd___C_V rfl) rfl 2 rfl (by decide) hml.symm at_45 (fun v1005 T1006 h1007 vm1008 _ w1009 q1010 C1011 C1012 X1013 => ?_)
      obtain ⟨a1015, k1016, e1017, f1018, f1019, f1020, f1021, f1022, f1023⟩ := q1010
      subst e1017
      have f1025 := (Arv.ext f995 E988)
      have n1024 : a913 ≠ a1015 := Nat.ne_of_lt (Nat.lt_of_lt_of_le (f1025.lt) f1019)
      have n1026 : a932 ≠ a1015 := Nat.ne_of_lt (Nat.lt_of_lt_of_le (f1003.lt) f1019)
      have f1028 := (Fld.ext E988 f977)
      have n1027 : a944 ≠ a1015 := Nat.ne_of_lt (Nat.lt_of_lt_of_le (f1028.lt) f1019)
      have f1030 := (Arv.ext f974 E988)
      have n1029 : a969 ≠ a1015 := Nat.ne_of_lt (Nat.lt_of_lt_of_le (f1030.lt) f1019)
      have n1031 : a987 ≠ a1015 := Nat.ne_of_lt (Nat.lt_of_lt_of_le (A991.lt) f1019)
      have g1032 : n0 ≤ a1015 := Nat.le_trans X986.n f1019
      have g1033 : h0.size ≤ a1015 := Nat.le_trans X986.g0 f1019
      show Go _ _ _ _ _ (mkF _ _ _ [.ref a987, .ref a944])
      have f1034 := (Fld.keep f1028 f1018 (ninS n998 nin0))
      have f1035 := (Arv.keep f1030 f1018 (ninS n999 nin0))
      have f1036 := (Exa.keep (Exa.ext E988 (Exa.keep A948 f972)) f1018)
      have f1037 := (Exa.keep A991 f1018)
      have f1038 := (Fld.keep (Fld.ext E988 f976) f1018 (ninS n998 nin0))
      have f1039 := (Old.keep f1004 f1018 (allS g990 all0))
      have f1049 := (CHr.safe C1012 (f1030.lt) (Safe.ext E988 X967.C.1 f975))
      have f1050 := (CHr.safe C1012 (f1002.lt) s993)
      have f1051 := (CHr.safe C1012 (f1028.lt) (Safe.ext E988 X967.C.1 (CHr.safe C966 (f956.lt) s950)))
      refine kSTAT X1013 (gEL G) (argsL := [.ref a944, .ref a987]) (rest := []) (wd G 26 rfl) (wd G 27 rfl) (wd G 28 rfl) (wd G 29 rfl) (by decide) (rm53 G (ownB ((XT.ushr i0 (8 : Int32)) &&& (255 : Int32))) (ownB ((XT.ushr i1 (8 : Int32)) &&& (255 : Int32))) a944 a987 a969 a1015 k970 k1016 h1007 X1013.n f1039 f1034 f1035 f1036 f1023 f1020 f1037 f1038 f1022) (allS ⟨(f1036.lt), f1051⟩ (allS ⟨(f1037.lt), f1050⟩ (allS ⟨(f1035.lt), f1049⟩ (allS ⟨(f1020.lt), f1021⟩ all0)))) (lenOf pd__Ljava_lang_String_Ljava_lang_String__Ljava_lang_String_ rfl) rfl 0 rfl (by decide) hml.symm at_48 (fun v1040 T1041 h1042 vm1043 _ w1044 q1045 C1046 C1047 X1048 => ?_)
      obtain ⟨a1053, a1054, k1055, e1056, f1057, f1058, f1059, f1060, f1061, f1062, f1063, f1064, f1065, f1066⟩ := q1045
      subst e1056
      have f1068 := (Arv.keep f1025 f1018 (ninS n994 nin0))
      have n1067 : a913 ≠ a1053 := Nat.ne_of_lt (Nat.lt_of_lt_of_le (f1068.lt) f1058)
      have f1070 := (Arv.keep f1003 f1018 (ninS n996 nin0))
      have n1069 : a932 ≠ a1053 := Nat.ne_of_lt (Nat.lt_of_lt_of_le (f1070.lt) f1058)
      have n1071 : a944 ≠ a1053 := Nat.ne_of_lt (Nat.lt_of_lt_of_le (f1036.lt) f1058)
      have n1072 : a969 ≠ a1053 := Nat.ne_of_lt (Nat.lt_of_lt_of_le (f1035.lt) f1058)
      have n1073 : a987 ≠ a1053 := Nat.ne_of_lt (Nat.lt_of_lt_of_le (f1037.lt) f1058)
      have n1074 : a1015 ≠ a1053 := Nat.ne_of_lt (Nat.lt_of_lt_of_le (f1020.lt) f1058)
      have n1075 : a913 ≠ a1054 := Nat.ne_of_lt (Nat.lt_of_lt_of_le (f1068.lt) f1059)
      have n1076 : a932 ≠ a1054 := Nat.ne_of_lt (Nat.lt_of_lt_of_le (f1070.lt) f1059)
      have n1077 : a944 ≠ a1054 := Nat.ne_of_lt (Nat.lt_of_lt_of_le (f1036.lt) f1059)
      have n1078 : a969 ≠ a1054 := Nat.ne_of_lt (Nat.lt_of_lt_of_le (f1035.lt) f1059)
      have n1079 : a987 ≠ a1054 := Nat.ne_of_lt (Nat.lt_of_lt_of_le (f1037.lt) f1059)
      have n1080 : a1015 ≠ a1054 := Nat.ne_of_lt (Nat.lt_of_lt_of_le (f1020.lt) f1059)
      have g1081 : n0 ≤ a1053 := Nat.le_trans X1013.n f1058
      have g1082 : h0.size ≤ a1053 := Nat.le_trans X1013.g0 f1058
      have g1083 : n0 ≤ a1054 := Nat.le_trans X1013.n f1059
      have g1084 : h0.size ≤ a1054 := Nat.le_trans X1013.g0 f1059
      show Go _ _ _ _ _ (mkF _ _ _ [.ref a1053])
      refine kAS X1048 #[.val (.int i0), .val (.int i1), .val (.int 1), .val (.int 1), .val (.ref a913), .val (.ref a932), .val (.ref a1053), .unset] at_51 rfl rfl ?_
      refine kILn X1048 at_53 rfl ?_
      refine kILn X1048 at_54 rfl ?_
      refine kIADD X1048 2 at_55 (by decide) ?_
      refine kILn X1048 at_56 rfl ?_
      refine kIFf X1048 at_57 (XT.i0_le_f (by decide)) ?_
      refine kILn X1048 at_60 rfl ?_
      refine kIFf X1048 at_61 (XT.i0_le_f (by decide)) ?_
      refine kIC X1048 1 at_64 (by decide) ?_
      refine kGOTO X1048 69 at_65 (by decide) ?_
      refine kIADD X1048 3 at_69 (by decide) ?_
      refine kIS X1048 #[.val (.int i0), .val (.int i1), .val (.int 1), .val (.int 1), .val (.ref a913), .val (.ref a932), .val (.ref a1053), .val (.int 3)] at_70 rfl ?_
      refine kAL X1048 at_72 rfl rfl ?_
      have f1085 := (Old.keep f1039 f1057 all0)
      refine kVIRT X1048 (gEL G) (argsL := []) (rest := []) (wd G 35 rfl) (wd G 36 rfl) (own_nf X1048.hZ (own_noinst (wd G 6 rfl))) (wd G 38 rfl) (wd G 37 rfl) (wd G 7 rfl) (wd G 39 rfl) (by decide) f1061 (rm87 G (ownB ((XT.ushr i0 (8 : Int32)) &&& (255 : Int32))) (ownB ((XT.ushr i1 (8 : Int32)) &&& (255 : Int32))) a1053 a1054 k1055 h1042 X1048.n f1085 f1063 f1065 f1062 f1061) all0 (lenOf pd___I rfl) rfl 0 rfl (by decide) hml.symm at_74 (fun v1086 T1087 h1088 vm1089 _ w1090 q1091 C1092 C1093 X1094 => ?_)
      obtain ⟨e1096, f1097⟩ := q1091
      subst e1096
      subst f1097
      show Go _ _ _ _ _ (mkF _ _ _ [.int 3])
      refine kIL X1094 at_77 rfl ?_
      refine kICt X1094 84 at_79 (XT.ii_eq_t (by decide)) (by decide) ?_
      refine kAL X1094 at_84 rfl rfl ?_
      refine kIC X1094 0 at_86 (by decide) ?_
      refine kIL X1094 at_87 rfl ?_
      refine kAL X1094 at_89 rfl rfl ?_
      refine kILn X1094 at_91 rfl ?_
      refine kAL X1094 at_92 rfl rfl ?_
      refine kILn X1094 at_94 rfl ?_
      have f1098 := (Arv.keep f1068 f1057 nin0)
      refine kSTAT X1094 (gEL G) (argsL := [.ref a1053, .int 0, .int 3, .ref a913, .int 1, .ref a932, .int 1]) (rest := []) (wd G 46 rfl) (wd G 47 rfl) (wd G 2 rfl) (wd G 48 rfl) (by decide) (rm89 G ((XT.ushr i0 (8 : Int32)) &&& (255 : Int32)) ((XT.ushr i1 (8 : Int32)) &&& (255 : Int32)) (ownB ((XT.ushr i0 (8 : Int32)) &&& (255 : Int32))) (ownB ((XT.ushr i1 (8 : Int32)) &&& (255 : Int32))) a1053 a913 a932 a1054 k914 k933 k1055 h1042 X1094.n f1085 f1062 f1061 f1063 f1065 (own_mask _).1 (own_mask _).2 (own_mask _).1 (own_mask _).2 f1098) all0 (lenOf pd__Ljava_lang_String_II_CI_CI_Z rfl) rfl 0 rfl (by decide) hml.symm at_95 (fun v1099 T1100 h1101 vm1102 _ w1103 q1104 C1105 C1106 X1107 => ?_)
      rcases q1104 with o1109 | o1110
      · obtain ⟨e1111, f1112, f1113⟩ := o1109
        subst e1111
        subst f1113
        show Go _ _ _ _ _ (mkF _ _ _ [.int 1])
        refine kIFf X1107 at_98 (XT.i0_eq_f (by decide)) ?_
        refine kAL X1107 at_101 rfl rfl ?_
        refine kIC X1107 1 at_103 (by decide) ?_
        refine kIL X1107 at_104 rfl ?_
        refine kAL X1107 at_106 rfl rfl ?_
        refine kILn X1107 at_108 rfl ?_
        refine kAL X1107 at_109 rfl rfl ?_
        refine kILn X1107 at_111 rfl ?_
        refine kSTAT X1107 (gEL G) (argsL := [.ref a1053, .int 1, .int 3, .ref a913, .int 1, .ref a932, .int 1]) (rest := []) (wd G 46 rfl) (wd G 47 rfl) (wd G 2 rfl) (wd G 48 rfl) (by decide) (rm91 G ((XT.ushr i0 (8 : Int32)) &&& (255 : Int32)) ((XT.ushr i1 (8 : Int32)) &&& (255 : Int32)) (ownB ((XT.ushr i0 (8 : Int32)) &&& (255 : Int32))) (ownB ((XT.ushr i1 (8 : Int32)) &&& (255 : Int32))) a1053 a913 a932 a1054 k914 k933 k1055 h1042 X1107.n f1085 f1062 f1061 f1063 f1065 (own_mask _).1 (own_mask _).2 (own_mask _).1 (own_mask _).2) all0 (lenOf pd__Ljava_lang_String_II_CI_CI_Z rfl) rfl 0 rfl (by decide) hml.symm at_112 (fun v1114 T1115 h1116 vm1117 _ w1118 q1119 C1120 C1121 X1122 => ?_)
        obtain ⟨e1124, f1125⟩ := q1119
        subst e1124
        subst f1125
        show Go _ _ _ _ _ (mkF _ _ _ [.int 1])
        refine kIFf X1122 at_115 (XT.i0_eq_f (by decide)) ?_
        refine kAL X1122 at_118 rfl rfl ?_
        refine kIC X1122 2 at_120 (by decide) ?_
        refine kIL X1122 at_121 rfl ?_
        refine kAL X1122 at_123 rfl rfl ?_
        refine kILn X1122 at_125 rfl ?_
        refine kAL X1122 at_126 rfl rfl ?_
        refine kILn X1122 at_128 rfl ?_
        have f1126 := (Arv.keep f1070 f1057 nin0)
        refine kSTAT X1122 (gEL G) (argsL := [.ref a1053, .int 2, .int 3, .ref a913, .int 1, .ref a932, .int 1]) (rest := []) (wd G 46 rfl) (wd G 47 rfl) (wd G 2 rfl) (wd G 48 rfl) (by decide) (rm93 G ((XT.ushr i0 (8 : Int32)) &&& (255 : Int32)) ((XT.ushr i1 (8 : Int32)) &&& (255 : Int32)) (ownB ((XT.ushr i0 (8 : Int32)) &&& (255 : Int32))) (ownB ((XT.ushr i1 (8 : Int32)) &&& (255 : Int32))) a1053 a913 a932 a1054 k914 k933 k1055 h1042 X1122.n f1085 f1062 f1061 f1063 f1065 (own_mask _).1 (own_mask _).2 (own_mask _).1 (own_mask _).2 f1126) all0 (lenOf pd__Ljava_lang_String_II_CI_CI_Z rfl) rfl 0 rfl (by decide) hml.symm at_129 (fun v1127 T1128 h1129 vm1130 _ w1131 q1132 C1133 C1134 X1135 => ?_)
        rcases q1132 with o1137 | o1138
        · obtain ⟨e1139, f1140, f1141⟩ := o1137
          subst e1139
          subst f1141
          show Go _ _ _ _ _ (mkF _ _ _ [.int 1])
          refine kIFf X1135 at_132 (XT.i0_eq_f (by decide)) ?_
          refine kAL X1135 at_135 rfl rfl ?_
          refine kIC X1135 3 at_137 (by decide) ?_
          refine kIL X1135 at_138 rfl ?_
          refine kAL X1135 at_140 rfl rfl ?_
          refine kILn X1135 at_142 rfl ?_
          refine kAL X1135 at_143 rfl rfl ?_
          refine kILn X1135 at_145 rfl ?_
          refine kSTAT X1135 (gEL G) (argsL := [.ref a1053, .int 3, .int 3, .ref a913, .int 1, .ref a932, .int 1]) (rest := []) (wd G 46 rfl) (wd G 47 rfl) (wd G 2 rfl) (wd G 48 rfl) (by decide) (rm95 G ((XT.ushr i0 (8 : Int32)) &&& (255 : Int32)) ((XT.ushr i1 (8 : Int32)) &&& (255 : Int32)) (ownB ((XT.ushr i0 (8 : Int32)) &&& (255 : Int32))) (ownB ((XT.ushr i1 (8 : Int32)) &&& (255 : Int32))) a1053 a913 a932 a1054 k914 k933 k1055 h1042 X1135.n f1085 ) all0 (lenOf pd__Ljava_lang_String_II_CI_CI_Z rfl) rfl 0 rfl (by decide) hml.symm at_146 (fun v1142 T1143 h1144 vm1145 _ w1146 q1147 C1148 C1149 X1150 => ?_)
          obtain ⟨e1152, f1153⟩ := q1147
          subst e1152
          subst f1153
          show Go _ _ _ _ _ (mkF _ _ _ [.int 1])
          refine kIFf X1150 at_149 (XT.i0_eq_f (by decide)) ?_
          refine kAL X1150 at_152 rfl rfl ?_
          refine kIC X1150 4 at_154 (by decide) ?_
          refine kIL X1150 at_155 rfl ?_
          refine kAL X1150 at_157 rfl rfl ?_
          refine kILn X1150 at_159 rfl ?_
          refine kAL X1150 at_160 rfl rfl ?_
          refine kILn X1150 at_162 rfl ?_
          refine kSTAT X1150 (gEL G) (argsL := [.ref a1053, .int 4, .int 3, .ref a913, .int 1, .ref a932, .int 1]) (rest := []) (wd G 46 rfl) (wd G 47 rfl) (wd G 2 rfl) (wd G 48 rfl) (by decide) (rm96 G ((XT.ushr i0 (8 : Int32)) &&& (255 : Int32)) ((XT.ushr i1 (8 : Int32)) &&& (255 : Int32)) (ownB ((XT.ushr i0 (8 : Int32)) &&& (255 : Int32))) (ownB ((XT.ushr i1 (8 : Int32)) &&& (255 : Int32))) a1053 a913 a932 a1054 k914 k933 k1055 h1042 X1150.n f1085 ) all0 (lenOf pd__Ljava_lang_String_II_CI_CI_Z rfl) rfl 0 rfl (by decide) hml.symm at_163 (fun v1154 T1155 h1156 vm1157 _ w1158 q1159 C1160 C1161 X1162 => ?_)
          obtain ⟨e1164, f1165⟩ := q1159
          subst e1164
          subst f1165
          show Go _ _ _ _ _ (mkF _ _ _ [.int 1])
          refine kIFf X1162 at_166 (XT.i0_eq_f (by decide)) ?_
          refine kIC X1162 1 at_169 (by decide) ?_
          refine kGOTO X1162 174 at_170 (by decide) ?_
          exact kRETZ X1162 (gEL G) (t := .boolean) hret (by simp) at_174 (fun _ _ => rfl) (by decide)
        · obtain ⟨e1166, f1167, f1168⟩ := o1138
          subst e1166
          exact absurd (own_rt (own_mask _).1 (own_mask _).2) f1167
      · obtain ⟨e1169, f1170, f1171⟩ := o1110
        subst e1169
        exact absurd (own_rt (own_mask _).1 (own_mask _).2) f1170
    · rw [hk674]
      clear hk674
      refine kILn X0 at_16 rfl ?_
      refine kILn X0 at_17 rfl ?_
      refine kSTAT X0 (gEL G) (argsL := [.int 1, .int i0]) (rest := []) (wd G 0 rfl) (wd G 1 rfl) (wd G 2 rfl) (wd G 3 rfl) (by decide) (rm13 G i0 h0 X0.n O0 ) all0 (lenOf pd__II__C rfl) rfl 0 rfl (by decide) hml.symm at_18 (fun v1172 T1173 h1174 vm1175 _ w1176 q1177 C1178 C1179 X1180 => ?_)
      obtain ⟨a1182, k1183, e1184, f1185, f1186, f1187⟩ := q1177
      subst e1184
      have g1188 : n0 ≤ a1182 := Nat.le_trans X0.n f1186
      have g1189 : h0.size ≤ a1182 := Nat.le_trans X0.g0 f1186
      show Go _ _ _ _ _ (mkF _ _ _ [.ref a1182])
      refine kAS X1180 #[.val (.int i0), .val (.int i1), .val (.int 1), .val (.int 2), .val (.ref a1182), .unset, .unset, .unset] at_21 rfl rfl ?_
      refine kILn X1180 at_23 rfl ?_
      refine kILn X1180 at_24 rfl ?_
      have f1190 := (Old.keep O0 f1185 all0)
      refine kSTAT X1180 (gEL G) (argsL := [.int 2, .int i1]) (rest := []) (wd G 0 rfl) (wd G 1 rfl) (wd G 2 rfl) (wd G 3 rfl) (by decide) (rm29 G i1 h1174 X1180.n f1190 ) all0 (lenOf pd__II__C rfl) rfl 0 rfl (by decide) hml.symm at_25 (fun v1191 T1192 h1193 vm1194 _ w1195 q1196 C1197 C1198 X1199 => ?_)
      obtain ⟨a1201, k1202, e1203, f1204, f1205, f1206⟩ := q1196
      subst e1203
      have n1207 : a1182 ≠ a1201 := Nat.ne_of_lt (Nat.lt_of_lt_of_le (f1187.lt) f1205)
      have g1208 : n0 ≤ a1201 := Nat.le_trans X1180.n f1205
      have g1209 : h0.size ≤ a1201 := Nat.le_trans X1180.g0 f1205
      show Go _ _ _ _ _ (mkF _ _ _ [.ref a1201])
      refine kAS X1199 #[.val (.int i0), .val (.int i1), .val (.int 1), .val (.int 2), .val (.ref a1182), .val (.ref a1201), .unset, .unset] at_28 rfl rfl ?_
      refine kNEW X1199 (wd G 5 rfl) (wd G 6 rfl) (wd G 7 rfl) at_30 (by decide) (by decide) (fun T1210 h1211 a1213 E1214 q1215 g1216 A1217 D1218 s1219 X1212 => ?_)
      have f1221 := (Arv.keep f1187 f1204 nin0)
      have n1220 : a1182 ≠ a1213 := Nat.ne_of_lt (Nat.lt_of_lt_of_le (f1221.lt) (Nat.le_of_eq q1215.symm))
      have n1222 : a1201 ≠ a1213 := Nat.ne_of_lt (Nat.lt_of_lt_of_le (f1206.lt) (Nat.le_of_eq q1215.symm))
      have g1223 : h0.size ≤ a1213 := q1215 ▸ X1199.g0
      have f1224 : Fld Z h1211 a1213 "java/lang/String" "value" "[B" (.null) := D1218 (Or.inr (wd G 20 rfl)) (ty := (.array (.byte))) (by decide)
      have f1225 : Fld Z h1211 a1213 "java/lang/String" "coder" "B" (.int 0) := D1218 (Or.inr (wd G 21 rfl)) (ty := .byte) (by decide)
      refine kDUP X1212 at_33 rfl ?_
      refine kAL X1212 at_34 rfl rfl ?_
      have f1226 := (Arv.ext f1221 E1214)
      have f1227 := (Old.ext (Old.keep f1190 f1204 all0) E1214)
      refine kSPEC X1212 (gEL G) (argsL := [.ref a1182]) (rest := [.ref a1213]) (wd G 8 rfl) (wd G 9 rfl) (wd G 7 rfl) (wd G 10 rfl) rfl (by decide) (rm14 G ((XT.ushr i0 (8 : Int32)) &&& (255 : Int32)) a1213 a1182 k1183 h1211 X1212.n f1227 f1226 (own_mask _).1 (own_mask _).2 A1217 f1225 f1224 g1216) (allS ⟨(A1217.lt), s1219⟩ all0) (lenOf pd___C_V rfl) rfl 1 rfl (by decide) hml.symm at_36 (fun v1228 T1229 h1230 vm1231 _ w1232 q1233 C1234 C1235 X1236 => ?_)
      obtain ⟨a1238, k1239, e1240, f1241, f1242, f1243, f1244, f1245, f1246⟩ := q1233
      subst e1240
      have n1247 : a1182 ≠ a1238 := Nat.ne_of_lt (Nat.lt_of_lt_of_le (f1226.lt) f1242)
      have f1249 := (Arv.ext f1206 E1214)
      have n1248 : a1201 ≠ a1238 := Nat.ne_of_lt (Nat.lt_of_lt_of_le (f1249.lt) f1242)
      have n1250 : a1213 ≠ a1238 := Nat.ne_of_lt (Nat.lt_of_lt_of_le (A1217.lt) f1242)
      have g1251 : n0 ≤ a1238 := Nat.le_trans X1212.n f1242
      have g1252 : h0.size ≤ a1238 := Nat.le_trans X1212.g0 f1242
      show Go _ _ _ _ _ (mkF _ _ _ [.ref a1213])
      refine kNEW X1236 (wd G 5 rfl) (wd G 6 rfl) (wd G 7 rfl) at_39 (by decide) (by decide) (fun T1253 h1254 a1256 E1257 q1258 g1259 A1260 D1261 s1262 X1255 => ?_)
      have f1264 := (Arv.keep f1226 f1241 (ninS n1220 nin0))
      have n1263 : a1182 ≠ a1256 := Nat.ne_of_lt (Nat.lt_of_lt_of_le (f1264.lt) (Nat.le_of_eq q1258.symm))
      have f1266 := (Arv.keep f1249 f1241 (ninS n1222 nin0))
      have n1265 : a1201 ≠ a1256 := Nat.ne_of_lt (Nat.lt_of_lt_of_le (f1266.lt) (Nat.le_of_eq q1258.symm))
      have n1267 : a1213 ≠ a1256 := Nat.ne_of_lt (Nat.lt_of_lt_of_le (f1246.lt) (Nat.le_of_eq q1258.symm))
      have n1268 : a1238 ≠ a1256 := Nat.ne_of_lt (Nat.lt_of_lt_of_le (f1243.lt) (Nat.le_of_eq q1258.symm))
      have g1269 : h0.size ≤ a1256 := q1258 ▸ X1236.g0
      have f1270 : Fld Z h1254 a1256 "java/lang/String" "value" "[B" (.null) := D1261 (Or.inr (wd G 20 rfl)) (ty := (.array (.byte))) (by decide)
      have f1271 : Fld Z h1254 a1256 "java/lang/String" "coder" "B" (.int 0) := D1261 (Or.inr (wd G 21 rfl)) (ty := .byte) (by decide)
      refine kDUP X1255 at_42 rfl ?_
      refine kAL X1255 at_43 rfl rfl ?_
      have f1272 := (Arv.ext f1266 E1257)
      have f1273 := (Old.ext (Old.keep f1227 f1241 (allS g1216 all0)) E1257)
      refine kSPEC X1255 (gEL G) (argsL := [.ref a1201]) (rest := [.ref a1256, .ref a1213]) (wd G 8 rfl) (wd G 9 rfl) (wd G 7 rfl) (wd G 10 rfl) rfl (by decide) (rm30 G ((XT.ushr i1 (8 : Int32)) &&& (255 : Int32)) ((XT.ushr i1 (16 : Int32)) &&& (255 : Int32)) a1256 a1201 k1202 h1254 X1255.n f1273 f1272 (own_mask _).1 (own_mask _).2 (own_mask _).1 (own_mask _).2 A1260 f1271 f1270 g1259) (allS ⟨(A1260.lt), s1262⟩ all0) (lenOf pd___C_V rfl) rfl 2 rfl (by decide) hml.symm at_45 (fun v1274 T1275 h1276 vm1277 _ w1278 q1279 C1280 C1281 X1282 => ?_)
      obtain ⟨a1284, k1285, e1286, f1287, f1288, f1289, f1290, f1291, f1292⟩ := q1279
      subst e1286
      have f1294 := (Arv.ext f1264 E1257)
      have n1293 : a1182 ≠ a1284 := Nat.ne_of_lt (Nat.lt_of_lt_of_le (f1294.lt) f1288)
      have n1295 : a1201 ≠ a1284 := Nat.ne_of_lt (Nat.lt_of_lt_of_le (f1272.lt) f1288)
      have f1297 := (Fld.ext E1257 f1246)
      have n1296 : a1213 ≠ a1284 := Nat.ne_of_lt (Nat.lt_of_lt_of_le (f1297.lt) f1288)
      have f1299 := (Arv.ext f1243 E1257)
      have n1298 : a1238 ≠ a1284 := Nat.ne_of_lt (Nat.lt_of_lt_of_le (f1299.lt) f1288)
      have n1300 : a1256 ≠ a1284 := Nat.ne_of_lt (Nat.lt_of_lt_of_le (A1260.lt) f1288)
      have g1301 : n0 ≤ a1284 := Nat.le_trans X1255.n f1288
      have g1302 : h0.size ≤ a1284 := Nat.le_trans X1255.g0 f1288
      show Go _ _ _ _ _ (mkF _ _ _ [.ref a1256, .ref a1213])
      have f1303 := (Fld.keep f1297 f1287 (ninS n1267 nin0))
      have f1304 := (Arv.keep f1299 f1287 (ninS n1268 nin0))
      have f1305 := (Exa.keep (Exa.ext E1257 (Exa.keep A1217 f1241)) f1287)
      have f1306 := (Exa.keep A1260 f1287)
      have f1307 := (Fld.keep (Fld.ext E1257 f1245) f1287 (ninS n1267 nin0))
      have f1308 := (Old.keep f1273 f1287 (allS g1259 all0))
      have f1318 := (CHr.safe C1281 (f1299.lt) (Safe.ext E1257 X1236.C.1 f1244))
      have f1319 := (CHr.safe C1281 (f1271.lt) s1262)
      have f1320 := (CHr.safe C1281 (f1297.lt) (Safe.ext E1257 X1236.C.1 (CHr.safe C1235 (f1225.lt) s1219)))
      refine kSTAT X1282 (gEL G) (argsL := [.ref a1213, .ref a1256]) (rest := []) (wd G 26 rfl) (wd G 27 rfl) (wd G 28 rfl) (wd G 29 rfl) (by decide) (rm97 G (ownB ((XT.ushr i0 (8 : Int32)) &&& (255 : Int32))) (ownB ((XT.ushr i1 (8 : Int32)) &&& (255 : Int32))) (ownB ((XT.ushr i1 (16 : Int32)) &&& (255 : Int32))) a1213 a1256 a1238 a1284 k1239 k1285 h1276 X1282.n f1308 f1303 f1304 f1305 f1292 f1289 f1306 f1307 f1291) (allS ⟨(f1305.lt), f1320⟩ (allS ⟨(f1306.lt), f1319⟩ (allS ⟨(f1304.lt), f1318⟩ (allS ⟨(f1289.lt), f1290⟩ all0)))) (lenOf pd__Ljava_lang_String_Ljava_lang_String__Ljava_lang_String_ rfl) rfl 0 rfl (by decide) hml.symm at_48 (fun v1309 T1310 h1311 vm1312 _ w1313 q1314 C1315 C1316 X1317 => ?_)
      obtain ⟨a1322, a1323, k1324, e1325, f1326, f1327, f1328, f1329, f1330, f1331, f1332, f1333, f1334, f1335⟩ := q1314
      subst e1325
      have f1337 := (Arv.keep f1294 f1287 (ninS n1263 nin0))
      have n1336 : a1182 ≠ a1322 := Nat.ne_of_lt (Nat.lt_of_lt_of_le (f1337.lt) f1327)
      have f1339 := (Arv.keep f1272 f1287 (ninS n1265 nin0))
      have n1338 : a1201 ≠ a1322 := Nat.ne_of_lt (Nat.lt_of_lt_of_le (f1339.lt) f1327)
      have n1340 : a1213 ≠ a1322 := Nat.ne_of_lt (Nat.lt_of_lt_of_le (f1305.lt) f1327)
      have n1341 : a1238 ≠ a1322 := Nat.ne_of_lt (Nat.lt_of_lt_of_le (f1304.lt) f1327)
      have n1342 : a1256 ≠ a1322 := Nat.ne_of_lt (Nat.lt_of_lt_of_le (f1306.lt) f1327)
      have n1343 : a1284 ≠ a1322 := Nat.ne_of_lt (Nat.lt_of_lt_of_le (f1289.lt) f1327)
      have n1344 : a1182 ≠ a1323 := Nat.ne_of_lt (Nat.lt_of_lt_of_le (f1337.lt) f1328)
      have n1345 : a1201 ≠ a1323 := Nat.ne_of_lt (Nat.lt_of_lt_of_le (f1339.lt) f1328)
      have n1346 : a1213 ≠ a1323 := Nat.ne_of_lt (Nat.lt_of_lt_of_le (f1305.lt) f1328)
      have n1347 : a1238 ≠ a1323 := Nat.ne_of_lt (Nat.lt_of_lt_of_le (f1304.lt) f1328)
      have n1348 : a1256 ≠ a1323 := Nat.ne_of_lt (Nat.lt_of_lt_of_le (f1306.lt) f1328)
      have n1349 : a1284 ≠ a1323 := Nat.ne_of_lt (Nat.lt_of_lt_of_le (f1289.lt) f1328)
      have g1350 : n0 ≤ a1322 := Nat.le_trans X1282.n f1327
      have g1351 : h0.size ≤ a1322 := Nat.le_trans X1282.g0 f1327
      have g1352 : n0 ≤ a1323 := Nat.le_trans X1282.n f1328
      have g1353 : h0.size ≤ a1323 := Nat.le_trans X1282.g0 f1328
      show Go _ _ _ _ _ (mkF _ _ _ [.ref a1322])
      refine kAS X1317 #[.val (.int i0), .val (.int i1), .val (.int 1), .val (.int 2), .val (.ref a1182), .val (.ref a1201), .val (.ref a1322), .unset] at_51 rfl rfl ?_
      refine kILn X1317 at_53 rfl ?_
      refine kILn X1317 at_54 rfl ?_
      refine kIADD X1317 3 at_55 (by decide) ?_
      refine kILn X1317 at_56 rfl ?_
      refine kIFf X1317 at_57 (XT.i0_le_f (by decide)) ?_
      refine kILn X1317 at_60 rfl ?_
      refine kIFf X1317 at_61 (XT.i0_le_f (by decide)) ?_
      refine kIC X1317 1 at_64 (by decide) ?_
      refine kGOTO X1317 69 at_65 (by decide) ?_
      refine kIADD X1317 4 at_69 (by decide) ?_
      refine kIS X1317 #[.val (.int i0), .val (.int i1), .val (.int 1), .val (.int 2), .val (.ref a1182), .val (.ref a1201), .val (.ref a1322), .val (.int 4)] at_70 rfl ?_
      refine kAL X1317 at_72 rfl rfl ?_
      have f1354 := (Old.keep f1308 f1326 all0)
      refine kVIRT X1317 (gEL G) (argsL := []) (rest := []) (wd G 35 rfl) (wd G 36 rfl) (own_nf X1317.hZ (own_noinst (wd G 6 rfl))) (wd G 38 rfl) (wd G 37 rfl) (wd G 7 rfl) (wd G 39 rfl) (by decide) f1330 (rm116 G (ownB ((XT.ushr i0 (8 : Int32)) &&& (255 : Int32))) (ownB ((XT.ushr i1 (8 : Int32)) &&& (255 : Int32))) (ownB ((XT.ushr i1 (16 : Int32)) &&& (255 : Int32))) a1322 a1323 k1324 h1311 X1317.n f1354 f1332 f1334 f1331 f1330) all0 (lenOf pd___I rfl) rfl 0 rfl (by decide) hml.symm at_74 (fun v1355 T1356 h1357 vm1358 _ w1359 q1360 C1361 C1362 X1363 => ?_)
      obtain ⟨e1365, f1366⟩ := q1360
      subst e1365
      subst f1366
      show Go _ _ _ _ _ (mkF _ _ _ [.int 4])
      refine kIL X1363 at_77 rfl ?_
      refine kICt X1363 84 at_79 (XT.ii_eq_t (by decide)) (by decide) ?_
      refine kAL X1363 at_84 rfl rfl ?_
      refine kIC X1363 0 at_86 (by decide) ?_
      refine kIL X1363 at_87 rfl ?_
      refine kAL X1363 at_89 rfl rfl ?_
      refine kILn X1363 at_91 rfl ?_
      refine kAL X1363 at_92 rfl rfl ?_
      refine kILn X1363 at_94 rfl ?_
      have f1367 := (Arv.keep f1337 f1326 nin0)
      refine kSTAT X1363 (gEL G) (argsL := [.ref a1322, .int 0, .int 4, .ref a1182, .int 1, .ref a1201, .int 2]) (rest := []) (wd G 46 rfl) (wd G 47 rfl) (wd G 2 rfl) (wd G 48 rfl) (by decide) (rm118 G ((XT.ushr i0 (8 : Int32)) &&& (255 : Int32)) ((XT.ushr i1 (8 : Int32)) &&& (255 : Int32)) ((XT.ushr i1 (16 : Int32)) &&& (255 : Int32)) (ownB ((XT.ushr i0 (8 : Int32)) &&& (255 : Int32))) (ownB ((XT.ushr i1 (8 : Int32)) &&& (255 : Int32))) (ownB ((XT.ushr i1 (16 : Int32)) &&& (255 : Int32))) a1322 a1182 a1201 a1323 k1183 k1202 k1324 h1311 X1363.n f1354 f1331 f1330 f1332 f1334 (own_mask _).1 (own_mask _).2 (own_mask _).1 (own_mask _).2 (own_mask _).1 (own_mask _).2 f1367) all0 (lenOf pd__Ljava_lang_String_II_CI_CI_Z rfl) rfl 0 rfl (by decide) hml.symm at_95 (fun v1368 T1369 h1370 vm1371 _ w1372 q1373 C1374 C1375 X1376 => ?_)
      rcases q1373 with o1378 | o1379
      · obtain ⟨e1380, f1381, f1382⟩ := o1378
        subst e1380
        subst f1382
        show Go _ _ _ _ _ (mkF _ _ _ [.int 1])
        refine kIFf X1376 at_98 (XT.i0_eq_f (by decide)) ?_
        refine kAL X1376 at_101 rfl rfl ?_
        refine kIC X1376 1 at_103 (by decide) ?_
        refine kIL X1376 at_104 rfl ?_
        refine kAL X1376 at_106 rfl rfl ?_
        refine kILn X1376 at_108 rfl ?_
        refine kAL X1376 at_109 rfl rfl ?_
        refine kILn X1376 at_111 rfl ?_
        refine kSTAT X1376 (gEL G) (argsL := [.ref a1322, .int 1, .int 4, .ref a1182, .int 1, .ref a1201, .int 2]) (rest := []) (wd G 46 rfl) (wd G 47 rfl) (wd G 2 rfl) (wd G 48 rfl) (by decide) (rm120 G ((XT.ushr i0 (8 : Int32)) &&& (255 : Int32)) ((XT.ushr i1 (8 : Int32)) &&& (255 : Int32)) ((XT.ushr i1 (16 : Int32)) &&& (255 : Int32)) (ownB ((XT.ushr i0 (8 : Int32)) &&& (255 : Int32))) (ownB ((XT.ushr i1 (8 : Int32)) &&& (255 : Int32))) (ownB ((XT.ushr i1 (16 : Int32)) &&& (255 : Int32))) a1322 a1182 a1201 a1323 k1183 k1202 k1324 h1311 X1376.n f1354 f1331 f1330 f1332 f1334 (own_mask _).1 (own_mask _).2 (own_mask _).1 (own_mask _).2 (own_mask _).1 (own_mask _).2) all0 (lenOf pd__Ljava_lang_String_II_CI_CI_Z rfl) rfl 0 rfl (by decide) hml.symm at_112 (fun v1383 T1384 h1385 vm1386 _ w1387 q1388 C1389 C1390 X1391 => ?_)
        obtain ⟨e1393, f1394⟩ := q1388
        subst e1393
        subst f1394
        show Go _ _ _ _ _ (mkF _ _ _ [.int 1])
        refine kIFf X1391 at_115 (XT.i0_eq_f (by decide)) ?_
        refine kAL X1391 at_118 rfl rfl ?_
        refine kIC X1391 2 at_120 (by decide) ?_
        refine kIL X1391 at_121 rfl ?_
        refine kAL X1391 at_123 rfl rfl ?_
        refine kILn X1391 at_125 rfl ?_
        refine kAL X1391 at_126 rfl rfl ?_
        refine kILn X1391 at_128 rfl ?_
        have f1395 := (Arv.keep f1339 f1326 nin0)
        refine kSTAT X1391 (gEL G) (argsL := [.ref a1322, .int 2, .int 4, .ref a1182, .int 1, .ref a1201, .int 2]) (rest := []) (wd G 46 rfl) (wd G 47 rfl) (wd G 2 rfl) (wd G 48 rfl) (by decide) (rm122 G ((XT.ushr i0 (8 : Int32)) &&& (255 : Int32)) ((XT.ushr i1 (8 : Int32)) &&& (255 : Int32)) ((XT.ushr i1 (16 : Int32)) &&& (255 : Int32)) (ownB ((XT.ushr i0 (8 : Int32)) &&& (255 : Int32))) (ownB ((XT.ushr i1 (8 : Int32)) &&& (255 : Int32))) (ownB ((XT.ushr i1 (16 : Int32)) &&& (255 : Int32))) a1322 a1182 a1201 a1323 k1183 k1202 k1324 h1311 X1391.n f1354 f1331 f1330 f1332 f1334 (own_mask _).1 (own_mask _).2 (own_mask _).1 (own_mask _).2 (own_mask _).1 (own_mask _).2 f1395) all0 (lenOf pd__Ljava_lang_String_II_CI_CI_Z rfl) rfl 0 rfl (by decide) hml.symm at_129 (fun v1396 T1397 h1398 vm1399 _ w1400 q1401 C1402 C1403 X1404 => ?_)
        rcases q1401 with o1406 | o1407
        · obtain ⟨e1408, f1409, f1410⟩ := o1406
          subst e1408
          subst f1410
          show Go _ _ _ _ _ (mkF _ _ _ [.int 1])
          refine kIFf X1404 at_132 (XT.i0_eq_f (by decide)) ?_
          refine kAL X1404 at_135 rfl rfl ?_
          refine kIC X1404 3 at_137 (by decide) ?_
          refine kIL X1404 at_138 rfl ?_
          refine kAL X1404 at_140 rfl rfl ?_
          refine kILn X1404 at_142 rfl ?_
          refine kAL X1404 at_143 rfl rfl ?_
          refine kILn X1404 at_145 rfl ?_
          refine kSTAT X1404 (gEL G) (argsL := [.ref a1322, .int 3, .int 4, .ref a1182, .int 1, .ref a1201, .int 2]) (rest := []) (wd G 46 rfl) (wd G 47 rfl) (wd G 2 rfl) (wd G 48 rfl) (by decide) (rm124 G ((XT.ushr i0 (8 : Int32)) &&& (255 : Int32)) ((XT.ushr i1 (8 : Int32)) &&& (255 : Int32)) ((XT.ushr i1 (16 : Int32)) &&& (255 : Int32)) (ownB ((XT.ushr i0 (8 : Int32)) &&& (255 : Int32))) (ownB ((XT.ushr i1 (8 : Int32)) &&& (255 : Int32))) (ownB ((XT.ushr i1 (16 : Int32)) &&& (255 : Int32))) a1322 a1182 a1201 a1323 k1183 k1202 k1324 h1311 X1404.n f1354 f1331 f1330 f1332 f1334 (own_mask _).1 (own_mask _).2 (own_mask _).1 (own_mask _).2 (own_mask _).1 (own_mask _).2 f1395) all0 (lenOf pd__Ljava_lang_String_II_CI_CI_Z rfl) rfl 0 rfl (by decide) hml.symm at_146 (fun v1411 T1412 h1413 vm1414 _ w1415 q1416 C1417 C1418 X1419 => ?_)
          rcases q1416 with o1421 | o1422
          · obtain ⟨e1423, f1424, f1425⟩ := o1421
            subst e1423
            subst f1425
            show Go _ _ _ _ _ (mkF _ _ _ [.int 1])
            refine kIFf X1419 at_149 (XT.i0_eq_f (by decide)) ?_
            refine kAL X1419 at_152 rfl rfl ?_
            refine kIC X1419 4 at_154 (by decide) ?_
            refine kIL X1419 at_155 rfl ?_
            refine kAL X1419 at_157 rfl rfl ?_
            refine kILn X1419 at_159 rfl ?_
            refine kAL X1419 at_160 rfl rfl ?_
            refine kILn X1419 at_162 rfl ?_
            refine kSTAT X1419 (gEL G) (argsL := [.ref a1322, .int 4, .int 4, .ref a1182, .int 1, .ref a1201, .int 2]) (rest := []) (wd G 46 rfl) (wd G 47 rfl) (wd G 2 rfl) (wd G 48 rfl) (by decide) (rm126 G ((XT.ushr i0 (8 : Int32)) &&& (255 : Int32)) ((XT.ushr i1 (8 : Int32)) &&& (255 : Int32)) ((XT.ushr i1 (16 : Int32)) &&& (255 : Int32)) (ownB ((XT.ushr i0 (8 : Int32)) &&& (255 : Int32))) (ownB ((XT.ushr i1 (8 : Int32)) &&& (255 : Int32))) (ownB ((XT.ushr i1 (16 : Int32)) &&& (255 : Int32))) a1322 a1182 a1201 a1323 k1183 k1202 k1324 h1311 X1419.n f1354 ) all0 (lenOf pd__Ljava_lang_String_II_CI_CI_Z rfl) rfl 0 rfl (by decide) hml.symm at_163 (fun v1426 T1427 h1428 vm1429 _ w1430 q1431 C1432 C1433 X1434 => ?_)
            obtain ⟨e1436, f1437⟩ := q1431
            subst e1436
            subst f1437
            show Go _ _ _ _ _ (mkF _ _ _ [.int 1])
            refine kIFf X1434 at_166 (XT.i0_eq_f (by decide)) ?_
            refine kIC X1434 1 at_169 (by decide) ?_
            refine kGOTO X1434 174 at_170 (by decide) ?_
            exact kRETZ X1434 (gEL G) (t := .boolean) hret (by simp) at_174 (fun _ _ => rfl) (by decide)
          · obtain ⟨e1438, f1439, f1440⟩ := o1422
            subst e1438
            exact absurd (own_rt (own_mask _).1 (own_mask _).2) f1439
        · obtain ⟨e1441, f1442, f1443⟩ := o1407
          subst e1441
          exact absurd (own_rt (own_mask _).1 (own_mask _).2) f1442
      · obtain ⟨e1444, f1445, f1446⟩ := o1379
        subst e1444
        exact absurd (own_rt (own_mask _).1 (own_mask _).2) f1445
  · rw [hk1]
    clear hk1
    refine kILn X0 at_8 rfl ?_
    refine kSI X0 255 at_9 (by decide) ?_
    refine kIAND X0 (i1 &&& (255 : Int32)) at_12 rfl ?_
    refine kIC X0 3 at_13 (by decide) ?_
    refine kIREM X0 ((i1 &&& (255 : Int32)) % (3 : Int32)) at_14 (by decide) rfl ?_
    refine kISn X0 #[.val (.int i0), .val (.int i1), .val (.int 2), .val (.int ((i1 &&& (255 : Int32)) % (3 : Int32))), .unset, .unset, .unset, .unset] at_15 rfl ?_
    rcases own_m3 i1 with hk1447 | hk1447 | hk1447
    · rw [hk1447]
      clear hk1447
      refine kILn X0 at_16 rfl ?_
      refine kILn X0 at_17 rfl ?_
      refine kSTAT X0 (gEL G) (argsL := [.int 2, .int i0]) (rest := []) (wd G 0 rfl) (wd G 1 rfl) (wd G 2 rfl) (wd G 3 rfl) (by decide) (rm29 G i0 h0 X0.n O0 ) all0 (lenOf pd__II__C rfl) rfl 0 rfl (by decide) hml.symm at_18 (fun v1448 T1449 h1450 vm1451 _ w1452 q1453 C1454 C1455 X1456 => ?_)
      obtain ⟨a1458, k1459, e1460, f1461, f1462, f1463⟩ := q1453
      subst e1460
      have g1464 : n0 ≤ a1458 := Nat.le_trans X0.n f1462
      have g1465 : h0.size ≤ a1458 := Nat.le_trans X0.g0 f1462
      show Go _ _ _ _ _ (mkF _ _ _ [.ref a1458])
      refine kAS X1456 #[.val (.int i0), .val (.int i1), .val (.int 2), .val (.int 0), .val (.ref a1458), .unset, .unset, .unset] at_21 rfl rfl ?_
      refine kILn X1456 at_23 rfl ?_
      refine kILn X1456 at_24 rfl ?_
      have f1466 := (Old.keep O0 f1461 all0)
      refine kSTAT X1456 (gEL G) (argsL := [.int 0, .int i1]) (rest := []) (wd G 0 rfl) (wd G 1 rfl) (wd G 2 rfl) (wd G 3 rfl) (by decide) (rm1 G i1 h1450 X1456.n f1466 ) all0 (lenOf pd__II__C rfl) rfl 0 rfl (by decide) hml.symm at_25 (fun v1467 T1468 h1469 vm1470 _ w1471 q1472 C1473 C1474 X1475 => ?_)
      obtain ⟨a1477, k1478, e1479, f1480, f1481, f1482⟩ := q1472
      subst e1479
      have n1483 : a1458 ≠ a1477 := Nat.ne_of_lt (Nat.lt_of_lt_of_le (f1463.lt) f1481)
      have g1484 : n0 ≤ a1477 := Nat.le_trans X1456.n f1481
      have g1485 : h0.size ≤ a1477 := Nat.le_trans X1456.g0 f1481
      show Go _ _ _ _ _ (mkF _ _ _ [.ref a1477])
      refine kAS X1475 #[.val (.int i0), .val (.int i1), .val (.int 2), .val (.int 0), .val (.ref a1458), .val (.ref a1477), .unset, .unset] at_28 rfl rfl ?_
      refine kNEW X1475 (wd G 5 rfl) (wd G 6 rfl) (wd G 7 rfl) at_30 (by decide) (by decide) (fun T1486 h1487 a1489 E1490 q1491 g1492 A1493 D1494 s1495 X1488 => ?_)
      have f1497 := (Arv.keep f1463 f1480 nin0)
      have n1496 : a1458 ≠ a1489 := Nat.ne_of_lt (Nat.lt_of_lt_of_le (f1497.lt) (Nat.le_of_eq q1491.symm))
      have n1498 : a1477 ≠ a1489 := Nat.ne_of_lt (Nat.lt_of_lt_of_le (f1482.lt) (Nat.le_of_eq q1491.symm))
      have g1499 : h0.size ≤ a1489 := q1491 ▸ X1475.g0
      have f1500 : Fld Z h1487 a1489 "java/lang/String" "value" "[B" (.null) := D1494 (Or.inr (wd G 20 rfl)) (ty := (.array (.byte))) (by decide)
      have f1501 : Fld Z h1487 a1489 "java/lang/String" "coder" "B" (.int 0) := D1494 (Or.inr (wd G 21 rfl)) (ty := .byte) (by decide)
      refine kDUP X1488 at_33 rfl ?_
      refine kAL X1488 at_34 rfl rfl ?_
      have f1502 := (Arv.ext f1497 E1490)
      have f1503 := (Old.ext (Old.keep f1466 f1480 all0) E1490)
      refine kSPEC X1488 (gEL G) (argsL := [.ref a1458]) (rest := [.ref a1489]) (wd G 8 rfl) (wd G 9 rfl) (wd G 7 rfl) (wd G 10 rfl) rfl (by decide) (rm30 G ((XT.ushr i0 (8 : Int32)) &&& (255 : Int32)) ((XT.ushr i0 (16 : Int32)) &&& (255 : Int32)) a1489 a1458 k1459 h1487 X1488.n f1503 f1502 (own_mask _).1 (own_mask _).2 (own_mask _).1 (own_mask _).2 A1493 f1501 f1500 g1492) (allS ⟨(A1493.lt), s1495⟩ all0) (lenOf pd___C_V rfl) rfl 1 rfl (by decide) hml.symm at_36 (fun v1504 T1505 h1506 vm1507 _ w1508 q1509 C1510 C1511 X1512 => ?_)
      obtain ⟨a1514, k1515, e1516, f1517, f1518, f1519, f1520, f1521, f1522⟩ := q1509
      subst e1516
      have n1523 : a1458 ≠ a1514 := Nat.ne_of_lt (Nat.lt_of_lt_of_le (f1502.lt) f1518)
      have f1525 := (Arv.ext f1482 E1490)
      have n1524 : a1477 ≠ a1514 := Nat.ne_of_lt (Nat.lt_of_lt_of_le (f1525.lt) f1518)
      have n1526 : a1489 ≠ a1514 := Nat.ne_of_lt (Nat.lt_of_lt_of_le (A1493.lt) f1518)
      have g1527 : n0 ≤ a1514 := Nat.le_trans X1488.n f1518
      have g1528 : h0.size ≤ a1514 := Nat.le_trans X1488.g0 f1518
      show Go _ _ _ _ _ (mkF _ _ _ [.ref a1489])
      refine kNEW X1512 (wd G 5 rfl) (wd G 6 rfl) (wd G 7 rfl) at_39 (by decide) (by decide) (fun T1529 h1530 a1532 E1533 q1534 g1535 A1536 D1537 s1538 X1531 => ?_)
      have f1540 := (Arv.keep f1502 f1517 (ninS n1496 nin0))
      have n1539 : a1458 ≠ a1532 := Nat.ne_of_lt (Nat.lt_of_lt_of_le (f1540.lt) (Nat.le_of_eq q1534.symm))
      have f1542 := (Arv.keep f1525 f1517 (ninS n1498 nin0))
      have n1541 : a1477 ≠ a1532 := Nat.ne_of_lt (Nat.lt_of_lt_of_le (f1542.lt) (Nat.le_of_eq q1534.symm))
      have n1543 : a1489 ≠ a1532 := Nat.ne_of_lt (Nat.lt_of_lt_of_le (f1522.lt) (Nat.le_of_eq q1534.symm))
      have n1544 : a1514 ≠ a1532 := Nat.ne_of_lt (Nat.lt_of_lt_of_le (f1519.lt) (Nat.le_of_eq q1534.symm))
      have g1545 : h0.size ≤ a1532 := q1534 ▸ X1512.g0
      have f1546 : Fld Z h1530 a1532 "java/lang/String" "value" "[B" (.null) := D1537 (Or.inr (wd G 20 rfl)) (ty := (.array (.byte))) (by decide)
      have f1547 : Fld Z h1530 a1532 "java/lang/String" "coder" "B" (.int 0) := D1537 (Or.inr (wd G 21 rfl)) (ty := .byte) (by decide)
      refine kDUP X1531 at_42 rfl ?_
      refine kAL X1531 at_43 rfl rfl ?_
      have f1548 := (Arv.ext f1542 E1533)
      have f1549 := (Old.ext (Old.keep f1503 f1517 (allS g1492 all0)) E1533)
      refine kSPEC X1531 (gEL G) (argsL := [.ref a1477]) (rest := [.ref a1532, .ref a1489]) (wd G 8 rfl) (wd G 9 rfl) (wd G 7 rfl) (wd G 10 rfl) rfl (by decide) (rm2 G a1532 a1477 k1478 h1530 X1531.n f1549 f1548 A1536 f1546 n1541 f1547 g1535) (allS ⟨(A1536.lt), s1538⟩ all0) (lenOf pd___C_V rfl) rfl 2 rfl (by decide) hml.symm at_45 (fun v1550 T1551 h1552 vm1553 _ w1554 q1555 C1556 C1557 X1558 => ?_)
      obtain ⟨a1560, k1561, e1562, f1563, f1564, f1565, f1566, f1567⟩ := q1555
      subst e1562
      have f1569 := (Arv.ext f1540 E1533)
      have n1568 : a1458 ≠ a1560 := f1564 a1458 (f1569.lt) (CHr.safe C1556 (f1569.lt) (Safe.arv X1531.hZ.alike f1569 (by decide)))
      have n1570 : a1477 ≠ a1560 := f1564 a1477 (f1548.lt) (CHr.safe C1556 (f1548.lt) (Safe.arv X1531.hZ.alike f1548 (by decide)))
      have f1572 := (Fld.ext E1533 f1522)
      have f1573 := (Safe.ext E1533 X1512.C.1 (CHr.safe C1511 (A1493.lt) s1495))
      have n1571 : a1489 ≠ a1560 := f1564 a1489 (f1572.lt) (CHr.safe C1556 (f1572.lt) f1573)
      have f1575 := (Arv.ext f1519 E1533)
      have f1576 := (Safe.ext E1533 X1512.C.1 f1520)
      have n1574 : a1514 ≠ a1560 := f1564 a1514 (f1575.lt) (CHr.safe C1556 (f1575.lt) f1576)
      have n1577 : a1532 ≠ a1560 := f1564 a1532 (A1536.lt) (CHr.safe C1556 (A1536.lt) s1538)
      have n1578 : ∀ x, x < h0.size → Safe Z EL0 s.vm h0 x → x ≠ a1560 := fun x hx S => f1564 x (Nat.lt_of_lt_of_le hx X1531.g0) (CHr.safe C1556 (Nat.lt_of_lt_of_le hx X1531.g0) (CHr.safe (hs0 ▸ X1531.C) hx S))
      show Go _ _ _ _ _ (mkF _ _ _ [.ref a1532, .ref a1489])
      have f1579 := (Fld.keep f1572 f1563 (ninS n1543 nin0))
      have f1580 := (Arv.keep f1575 f1563 (ninS n1544 nin0))
      have f1581 := (Exa.keep (Exa.ext E1533 (Exa.keep A1493 f1517)) f1563)
      have f1582 := (Exa.keep A1536 f1563)
      have f1583 := (Old.keep f1549 f1563 (allS g1535 all0))
      refine kSTAT X1558 (gEL G) (argsL := [.ref a1489, .ref a1532]) (rest := []) (wd G 26 rfl) (wd G 27 rfl) (wd G 28 rfl) (wd G 29 rfl) (by decide) (rm127 G (ownB ((XT.ushr i0 (8 : Int32)) &&& (255 : Int32))) (ownB ((XT.ushr i0 (16 : Int32)) &&& (255 : Int32))) a1489 a1532 a1514 a1560 k1515 k1561 h1552 X1558.n f1583 f1579 f1580 f1581 f1567 f1565 f1582) all0 (lenOf pd__Ljava_lang_String_Ljava_lang_String__Ljava_lang_String_ rfl) rfl 0 rfl (by decide) hml.symm at_48 (fun v1584 T1585 h1586 vm1587 _ w1588 q1589 C1590 C1591 X1592 => ?_)
      obtain ⟨e1594, f1595⟩ := q1589
      subst e1594
      subst f1595
      show Go _ _ _ _ _ (mkF _ _ _ [.ref a1489])
      refine kAS X1592 #[.val (.int i0), .val (.int i1), .val (.int 2), .val (.int 0), .val (.ref a1458), .val (.ref a1477), .val (.ref a1489), .unset] at_51 rfl rfl ?_
      refine kILn X1592 at_53 rfl ?_
      refine kILn X1592 at_54 rfl ?_
      refine kIADD X1592 2 at_55 (by decide) ?_
      refine kILn X1592 at_56 rfl ?_
      refine kIFf X1592 at_57 (XT.i0_le_f (by decide)) ?_
      refine kILn X1592 at_60 rfl ?_
      refine kIFt X1592 68 at_61 (XT.i0_le_t (by decide)) (by decide) ?_
      refine kIC X1592 0 at_68 (by decide) ?_
      refine kIADD X1592 2 at_69 (by decide) ?_
      refine kIS X1592 #[.val (.int i0), .val (.int i1), .val (.int 2), .val (.int 0), .val (.ref a1458), .val (.ref a1477), .val (.ref a1489), .val (.int 2)] at_70 rfl ?_
      refine kAL X1592 at_72 rfl rfl ?_
      have f1596 := (Fld.keep (Fld.ext E1533 f1521) f1563 (ninS n1543 nin0))
      refine kVIRT X1592 (gEL G) (argsL := []) (rest := []) (wd G 35 rfl) (wd G 36 rfl) (own_nf X1592.hZ (own_noinst (wd G 6 rfl))) (wd G 38 rfl) (wd G 37 rfl) (wd G 7 rfl) (wd G 39 rfl) (by decide) f1581 (rm36 G (ownB ((XT.ushr i0 (8 : Int32)) &&& (255 : Int32))) (ownB ((XT.ushr i0 (16 : Int32)) &&& (255 : Int32))) a1489 a1514 k1515 h1552 X1592.n f1583 f1579 f1580 f1596 f1581) all0 (lenOf pd___I rfl) rfl 0 rfl (by decide) hml.symm at_74 (fun v1597 T1598 h1599 vm1600 _ w1601 q1602 C1603 C1604 X1605 => ?_)
      obtain ⟨e1607, f1608⟩ := q1602
      subst e1607
      subst f1608
      show Go _ _ _ _ _ (mkF _ _ _ [.int 2])
      refine kIL X1605 at_77 rfl ?_
      refine kICt X1605 84 at_79 (XT.ii_eq_t (by decide)) (by decide) ?_
      refine kAL X1605 at_84 rfl rfl ?_
      refine kIC X1605 0 at_86 (by decide) ?_
      refine kIL X1605 at_87 rfl ?_
      refine kAL X1605 at_89 rfl rfl ?_
      refine kILn X1605 at_91 rfl ?_
      refine kAL X1605 at_92 rfl rfl ?_
      refine kILn X1605 at_94 rfl ?_
      have f1609 := (Arv.keep f1569 f1563 (ninS n1539 nin0))
      refine kSTAT X1605 (gEL G) (argsL := [.ref a1489, .int 0, .int 2, .ref a1458, .int 2, .ref a1477, .int 0]) (rest := []) (wd G 46 rfl) (wd G 47 rfl) (wd G 2 rfl) (wd G 48 rfl) (by decide) (rm128 G ((XT.ushr i0 (8 : Int32)) &&& (255 : Int32)) ((XT.ushr i0 (16 : Int32)) &&& (255 : Int32)) (ownB ((XT.ushr i0 (8 : Int32)) &&& (255 : Int32))) (ownB ((XT.ushr i0 (16 : Int32)) &&& (255 : Int32))) a1489 a1458 a1477 a1514 k1459 k1478 k1515 h1552 X1605.n f1583 f1596 f1581 f1579 f1580 (own_mask _).1 (own_mask _).2 (own_mask _).1 (own_mask _).2 f1609) all0 (lenOf pd__Ljava_lang_String_II_CI_CI_Z rfl) rfl 0 rfl (by decide) hml.symm at_95 (fun v1610 T1611 h1612 vm1613 _ w1614 q1615 C1616 C1617 X1618 => ?_)
      rcases q1615 with o1620 | o1621
      · obtain ⟨e1622, f1623, f1624⟩ := o1620
        subst e1622
        subst f1624
        show Go _ _ _ _ _ (mkF _ _ _ [.int 1])
        refine kIFf X1618 at_98 (XT.i0_eq_f (by decide)) ?_
        refine kAL X1618 at_101 rfl rfl ?_
        refine kIC X1618 1 at_103 (by decide) ?_
        refine kIL X1618 at_104 rfl ?_
        refine kAL X1618 at_106 rfl rfl ?_
        refine kILn X1618 at_108 rfl ?_
        refine kAL X1618 at_109 rfl rfl ?_
        refine kILn X1618 at_111 rfl ?_
        refine kSTAT X1618 (gEL G) (argsL := [.ref a1489, .int 1, .int 2, .ref a1458, .int 2, .ref a1477, .int 0]) (rest := []) (wd G 46 rfl) (wd G 47 rfl) (wd G 2 rfl) (wd G 48 rfl) (by decide) (rm130 G ((XT.ushr i0 (8 : Int32)) &&& (255 : Int32)) ((XT.ushr i0 (16 : Int32)) &&& (255 : Int32)) (ownB ((XT.ushr i0 (8 : Int32)) &&& (255 : Int32))) (ownB ((XT.ushr i0 (16 : Int32)) &&& (255 : Int32))) a1489 a1458 a1477 a1514 k1459 k1478 k1515 h1552 X1618.n f1583 f1596 f1581 f1579 f1580 (own_mask _).1 (own_mask _).2 (own_mask _).1 (own_mask _).2 f1609) all0 (lenOf pd__Ljava_lang_String_II_CI_CI_Z rfl) rfl 0 rfl (by decide) hml.symm at_112 (fun v1625 T1626 h1627 vm1628 _ w1629 q1630 C1631 C1632 X1633 => ?_)
        rcases q1630 with o1635 | o1636
        · obtain ⟨e1637, f1638, f1639⟩ := o1635
          subst e1637
          subst f1639
          show Go _ _ _ _ _ (mkF _ _ _ [.int 1])
          refine kIFf X1633 at_115 (XT.i0_eq_f (by decide)) ?_
          refine kAL X1633 at_118 rfl rfl ?_
          refine kIC X1633 2 at_120 (by decide) ?_
          refine kIL X1633 at_121 rfl ?_
          refine kAL X1633 at_123 rfl rfl ?_
          refine kILn X1633 at_125 rfl ?_
          refine kAL X1633 at_126 rfl rfl ?_
          refine kILn X1633 at_128 rfl ?_
          refine kSTAT X1633 (gEL G) (argsL := [.ref a1489, .int 2, .int 2, .ref a1458, .int 2, .ref a1477, .int 0]) (rest := []) (wd G 46 rfl) (wd G 47 rfl) (wd G 2 rfl) (wd G 48 rfl) (by decide) (rm132 G ((XT.ushr i0 (8 : Int32)) &&& (255 : Int32)) ((XT.ushr i0 (16 : Int32)) &&& (255 : Int32)) (ownB ((XT.ushr i0 (8 : Int32)) &&& (255 : Int32))) (ownB ((XT.ushr i0 (16 : Int32)) &&& (255 : Int32))) a1489 a1458 a1477 a1514 k1459 k1478 k1515 h1552 X1633.n f1583 ) all0 (lenOf pd__Ljava_lang_String_II_CI_CI_Z rfl) rfl 0 rfl (by decide) hml.symm at_129 (fun v1640 T1641 h1642 vm1643 _ w1644 q1645 C1646 C1647 X1648 => ?_)
          obtain ⟨e1650, f1651⟩ := q1645
          subst e1650
          subst f1651
          show Go _ _ _ _ _ (mkF _ _ _ [.int 1])
          refine kIFf X1648 at_132 (XT.i0_eq_f (by decide)) ?_
          refine kAL X1648 at_135 rfl rfl ?_
          refine kIC X1648 3 at_137 (by decide) ?_
          refine kIL X1648 at_138 rfl ?_
          refine kAL X1648 at_140 rfl rfl ?_
          refine kILn X1648 at_142 rfl ?_
          refine kAL X1648 at_143 rfl rfl ?_
          refine kILn X1648 at_145 rfl ?_
          refine kSTAT X1648 (gEL G) (argsL := [.ref a1489, .int 3, .int 2, .ref a1458, .int 2, .ref a1477, .int 0]) (rest := []) (wd G 46 rfl) (wd G 47 rfl) (wd G 2 rfl) (wd G 48 rfl) (by decide) (rm133 G ((XT.ushr i0 (8 : Int32)) &&& (255 : Int32)) ((XT.ushr i0 (16 : Int32)) &&& (255 : Int32)) (ownB ((XT.ushr i0 (8 : Int32)) &&& (255 : Int32))) (ownB ((XT.ushr i0 (16 : Int32)) &&& (255 : Int32))) a1489 a1458 a1477 a1514 k1459 k1478 k1515 h1552 X1648.n f1583 ) all0 (lenOf pd__Ljava_lang_String_II_CI_CI_Z rfl) rfl 0 rfl (by decide) hml.symm at_146 (fun v1652 T1653 h1654 vm1655 _ w1656 q1657 C1658 C1659 X1660 => ?_)
          obtain ⟨e1662, f1663⟩ := q1657
          subst e1662
          subst f1663
          show Go _ _ _ _ _ (mkF _ _ _ [.int 1])
          refine kIFf X1660 at_149 (XT.i0_eq_f (by decide)) ?_
          refine kAL X1660 at_152 rfl rfl ?_
          refine kIC X1660 4 at_154 (by decide) ?_
          refine kIL X1660 at_155 rfl ?_
          refine kAL X1660 at_157 rfl rfl ?_
          refine kILn X1660 at_159 rfl ?_
          refine kAL X1660 at_160 rfl rfl ?_
          refine kILn X1660 at_162 rfl ?_
          refine kSTAT X1660 (gEL G) (argsL := [.ref a1489, .int 4, .int 2, .ref a1458, .int 2, .ref a1477, .int 0]) (rest := []) (wd G 46 rfl) (wd G 47 rfl) (wd G 2 rfl) (wd G 48 rfl) (by decide) (rm134 G ((XT.ushr i0 (8 : Int32)) &&& (255 : Int32)) ((XT.ushr i0 (16 : Int32)) &&& (255 : Int32)) (ownB ((XT.ushr i0 (8 : Int32)) &&& (255 : Int32))) (ownB ((XT.ushr i0 (16 : Int32)) &&& (255 : Int32))) a1489 a1458 a1477 a1514 k1459 k1478 k1515 h1552 X1660.n f1583 ) all0 (lenOf pd__Ljava_lang_String_II_CI_CI_Z rfl) rfl 0 rfl (by decide) hml.symm at_163 (fun v1664 T1665 h1666 vm1667 _ w1668 q1669 C1670 C1671 X1672 => ?_)
          obtain ⟨e1674, f1675⟩ := q1669
          subst e1674
          subst f1675
          show Go _ _ _ _ _ (mkF _ _ _ [.int 1])
          refine kIFf X1672 at_166 (XT.i0_eq_f (by decide)) ?_
          refine kIC X1672 1 at_169 (by decide) ?_
          refine kGOTO X1672 174 at_170 (by decide) ?_
          exact kRETZ X1672 (gEL G) (t := .boolean) hret (by simp) at_174 (fun _ _ => rfl) (by decide)
        · obtain ⟨e1676, f1677, f1678⟩ := o1636
          subst e1676
          exact absurd (own_rt (own_mask _).1 (own_mask _).2) f1677
      · obtain ⟨e1679, f1680, f1681⟩ := o1621
        subst e1679
        exact absurd (own_rt (own_mask _).1 (own_mask _).2) f1680
    · rw [hk1447]
      clear hk1447
      refine kILn X0 at_16 rfl ?_
      refine kILn X0 at_17 rfl ?_
      refine kSTAT X0 (gEL G) (argsL := [.int 2, .int i0]) (rest := []) (wd G 0 rfl) (wd G 1 rfl) (wd G 2 rfl) (wd G 3 rfl) (by decide) (rm29 G i0 h0 X0.n O0 ) all0 (lenOf pd__II__C rfl) rfl 0 rfl (by decide) hml.symm at_18 (fun v1682 T1683 h1684 vm1685 _ w1686 q1687 C1688 C1689 X1690 => ?_)
      obtain ⟨a1692, k1693, e1694, f1695, f1696, f1697⟩ := q1687
      subst e1694
      have g1698 : n0 ≤ a1692 := Nat.le_trans X0.n f1696
      have g1699 : h0.size ≤ a1692 := Nat.le_trans X0.g0 f1696
      show Go _ _ _ _ _ (mkF _ _ _ [.ref a1692])
      refine kAS X1690 #[.val (.int i0), .val (.int i1), .val (.int 2), .val (.int 1), .val (.ref a1692), .unset, .unset, .unset] at_21 rfl rfl ?_
      refine kILn X1690 at_23 rfl ?_
      refine kILn X1690 at_24 rfl ?_
      have f1700 := (Old.keep O0 f1695 all0)
      refine kSTAT X1690 (gEL G) (argsL := [.int 1, .int i1]) (rest := []) (wd G 0 rfl) (wd G 1 rfl) (wd G 2 rfl) (wd G 3 rfl) (by decide) (rm13 G i1 h1684 X1690.n f1700 ) all0 (lenOf pd__II__C rfl) rfl 0 rfl (by decide) hml.symm at_25 (fun v1701 T1702 h1703 vm1704 _ w1705 q1706 C1707 C1708 X1709 => ?_)
      obtain ⟨a1711, k1712, e1713, f1714, f1715, f1716⟩ := q1706
      subst e1713
      have n1717 : a1692 ≠ a1711 := Nat.ne_of_lt (Nat.lt_of_lt_of_le (f1697.lt) f1715)
      have g1718 : n0 ≤ a1711 := Nat.le_trans X1690.n f1715
      have g1719 : h0.size ≤ a1711 := Nat.le_trans X1690.g0 f1715
      show Go _ _ _ _ _ (mkF _ _ _ [.ref a1711])
      refine kAS X1709 #[.val (.int i0), .val (.int i1), .val (.int 2), .val (.int 1), .val (.ref a1692), .val (.ref a1711), .unset, .unset] at_28 rfl rfl ?_
      refine kNEW X1709 (wd G 5 rfl) (wd G 6 rfl) (wd G 7 rfl) at_30 (by decide) (by decide) (fun T1720 h1721 a1723 E1724 q1725 g1726 A1727 D1728 s1729 X1722 => ?_)
      have f1731 := (Arv.keep f1697 f1714 nin0)
      have n1730 : a1692 ≠ a1723 := Nat.ne_of_lt (Nat.lt_of_lt_of_le (f1731.lt) (Nat.le_of_eq q1725.symm))
      have n1732 : a1711 ≠ a1723 := Nat.ne_of_lt (Nat.lt_of_lt_of_le (f1716.lt) (Nat.le_of_eq q1725.symm))
      have g1733 : h0.size ≤ a1723 := q1725 ▸ X1709.g0
      have f1734 : Fld Z h1721 a1723 "java/lang/String" "value" "[B" (.null) := D1728 (Or.inr (wd G 20 rfl)) (ty := (.array (.byte))) (by decide)
      have f1735 : Fld Z h1721 a1723 "java/lang/String" "coder" "B" (.int 0) := D1728 (Or.inr (wd G 21 rfl)) (ty := .byte) (by decide)
      refine kDUP X1722 at_33 rfl ?_
      refine kAL X1722 at_34 rfl rfl ?_
      have f1736 := (Arv.ext f1731 E1724)
      have f1737 := (Old.ext (Old.keep f1700 f1714 all0) E1724)
      refine kSPEC X1722 (gEL G) (argsL := [.ref a1692]) (rest := [.ref a1723]) (wd G 8 rfl) (wd G 9 rfl) (wd G 7 rfl) (wd G 10 rfl) rfl (by decide) (rm30 G ((XT.ushr i0 (8 : Int32)) &&& (255 : Int32)) ((XT.ushr i0 (16 : Int32)) &&& (255 : Int32)) a1723 a1692 k1693 h1721 X1722.n f1737 f1736 (own_mask _).1 (own_mask _).2 (own_mask _).1 (own_mask _).2 A1727 f1735 f1734 g1726) (allS ⟨(A1727.lt), s1729⟩ all0) (lenOf pd___C_V rfl) rfl 1 rfl (by decide) hml.symm at_36 (fun v1738 T1739 h1740 vm1741 _ w1742 q1743 C1744 C1745 X1746 => ?_)
      obtain ⟨a1748, k1749, e1750, f1751, f1752, f1753, f1754, f1755, f1756⟩ := q1743
      subst e1750
      have n1757 : a1692 ≠ a1748 := Nat.ne_of_lt (Nat.lt_of_lt_of_le (f1736.lt) f1752)
      have f1759 := (Arv.ext f1716 E1724)
      have n1758 : a1711 ≠ a1748 := Nat.ne_of_lt (Nat.lt_of_lt_of_le (f1759.lt) f1752)
      have n1760 : a1723 ≠ a1748 := Nat.ne_of_lt (Nat.lt_of_lt_of_le (A1727.lt) f1752)
      have g1761 : n0 ≤ a1748 := Nat.le_trans X1722.n f1752
      have g1762 : h0.size ≤ a1748 := Nat.le_trans X1722.g0 f1752
      show Go _ _ _ _ _ (mkF _ _ _ [.ref a1723])
      refine kNEW X1746 (wd G 5 rfl) (wd G 6 rfl) (wd G 7 rfl) at_39 (by decide) (by decide) (fun T1763 h1764 a1766 E1767 q1768 g1769 A1770 D1771 s1772 X1765 => ?_)
      have f1774 := (Arv.keep f1736 f1751 (ninS n1730 nin0))
      have n1773 : a1692 ≠ a1766 := Nat.ne_of_lt (Nat.lt_of_lt_of_le (f1774.lt) (Nat.le_of_eq q1768.symm))
      have f1776 := (Arv.keep f1759 f1751 (ninS n1732 nin0))
      have n1775 : a1711 ≠ a1766 := Nat.ne_of_lt (Nat.lt_of_lt_of_le (f1776.lt) (Nat.le_of_eq q1768.symm))
      have n1777 : a1723 ≠ a1766 := Nat.ne_of_lt (Nat.lt_of_lt_of_le (f1756.lt) (Nat.le_of_eq q1768.symm))
      have n1778 : a1748 ≠ a1766 := Nat.ne_of_lt (Nat.lt_of_lt_of_le (f1753.lt) (Nat.le_of_eq q1768.symm))
      have g1779 : h0.size ≤ a1766 := q1768 ▸ X1746.g0
      have f1780 : Fld Z h1764 a1766 "java/lang/String" "value" "[B" (.null) := D1771 (Or.inr (wd G 20 rfl)) (ty := (.array (.byte))) (by decide)
      have f1781 : Fld Z h1764 a1766 "java/lang/String" "coder" "B" (.int 0) := D1771 (Or.inr (wd G 21 rfl)) (ty := .byte) (by decide)
      refine kDUP X1765 at_42 rfl ?_
      refine kAL X1765 at_43 rfl rfl ?_
      have f1782 := (Arv.ext f1776 E1767)
      have f1783 := (Old.ext (Old.keep f1737 f1751 (allS g1726 all0)) E1767)
      refine kSPEC X1765 (gEL G) (argsL := [.ref a1711]) (rest := [.ref a1766, .ref a1723]) (wd G 8 rfl) (wd G 9 rfl) (wd G 7 rfl) (wd G 10 rfl) rfl (by decide) (rm14 G ((XT.ushr i1 (8 : Int32)) &&& (255 : Int32)) a1766 a1711 k1712 h1764 X1765.n f1783 f1782 (own_mask _).1 (own_mask _).2 A1770 f1781 f1780 g1769) (allS ⟨(A1770.lt), s1772⟩ all0) (lenOf pd___C_V rfl) rfl 2 rfl (by decide) hml.symm at_45 (fun v1784 T1785 h1786 vm1787 _ w1788 q1789 C1790 C1791 X1792 => ?_)
      obtain ⟨a1794, k1795, e1796, f1797, f1798, f1799, f1800, f1801, f1802⟩ := q1789
      subst e1796
      have f1804 := (Arv.ext f1774 E1767)
      have n1803 : a1692 ≠ a1794 := Nat.ne_of_lt (Nat.lt_of_lt_of_le (f1804.lt) f1798)
      have n1805 : a1711 ≠ a1794 := Nat.ne_of_lt (Nat.lt_of_lt_of_le (f1782.lt) f1798)
      have f1807 := (Fld.ext E1767 f1756)
      have n1806 : a1723 ≠ a1794 := Nat.ne_of_lt (Nat.lt_of_lt_of_le (f1807.lt) f1798)
      have f1809 := (Arv.ext f1753 E1767)
      have n1808 : a1748 ≠ a1794 := Nat.ne_of_lt (Nat.lt_of_lt_of_le (f1809.lt) f1798)
      have n1810 : a1766 ≠ a1794 := Nat.ne_of_lt (Nat.lt_of_lt_of_le (A1770.lt) f1798)
      have g1811 : n0 ≤ a1794 := Nat.le_trans X1765.n f1798
      have g1812 : h0.size ≤ a1794 := Nat.le_trans X1765.g0 f1798
      show Go _ _ _ _ _ (mkF _ _ _ [.ref a1766, .ref a1723])
      have f1813 := (Fld.keep f1807 f1797 (ninS n1777 nin0))
      have f1814 := (Arv.keep f1809 f1797 (ninS n1778 nin0))
      have f1815 := (Exa.keep (Exa.ext E1767 (Exa.keep A1727 f1751)) f1797)
      have f1816 := (Exa.keep A1770 f1797)
      have f1817 := (Fld.keep (Fld.ext E1767 f1755) f1797 (ninS n1777 nin0))
      have f1818 := (Old.keep f1783 f1797 (allS g1769 all0))
      have f1828 := (CHr.safe C1791 (f1809.lt) (Safe.ext E1767 X1746.C.1 f1754))
      have f1829 := (CHr.safe C1791 (f1781.lt) s1772)
      have f1830 := (CHr.safe C1791 (f1807.lt) (Safe.ext E1767 X1746.C.1 (CHr.safe C1745 (f1735.lt) s1729)))
      refine kSTAT X1792 (gEL G) (argsL := [.ref a1723, .ref a1766]) (rest := []) (wd G 26 rfl) (wd G 27 rfl) (wd G 28 rfl) (wd G 29 rfl) (by decide) (rm135 G (ownB ((XT.ushr i0 (8 : Int32)) &&& (255 : Int32))) (ownB ((XT.ushr i0 (16 : Int32)) &&& (255 : Int32))) (ownB ((XT.ushr i1 (8 : Int32)) &&& (255 : Int32))) a1723 a1766 a1748 a1794 k1749 k1795 h1786 X1792.n f1818 f1813 f1814 f1815 f1802 f1799 f1816 f1817 f1801) (allS ⟨(f1815.lt), f1830⟩ (allS ⟨(f1816.lt), f1829⟩ (allS ⟨(f1814.lt), f1828⟩ (allS ⟨(f1799.lt), f1800⟩ all0)))) (lenOf pd__Ljava_lang_String_Ljava_lang_String__Ljava_lang_String_ rfl) rfl 0 rfl (by decide) hml.symm at_48 (fun v1819 T1820 h1821 vm1822 _ w1823 q1824 C1825 C1826 X1827 => ?_)
      obtain ⟨a1832, a1833, k1834, e1835, f1836, f1837, f1838, f1839, f1840, f1841, f1842, f1843, f1844, f1845⟩ := q1824
      subst e1835
      have f1847 := (Arv.keep f1804 f1797 (ninS n1773 nin0))
      have n1846 : a1692 ≠ a1832 := Nat.ne_of_lt (Nat.lt_of_lt_of_le (f1847.lt) f1837)
      have f1849 := (Arv.keep f1782 f1797 (ninS n1775 nin0))
      have n1848 : a1711 ≠ a1832 := Nat.ne_of_lt (Nat.lt_of_lt_of_le (f1849.lt) f1837)
      have n1850 : a1723 ≠ a1832 := Nat.ne_of_lt (Nat.lt_of_lt_of_le (f1815.lt) f1837)
      have n1851 : a1748 ≠ a1832 := Nat.ne_of_lt (Nat.lt_of_lt_of_le (f1814.lt) f1837)
      have n1852 : a1766 ≠ a1832 := Nat.ne_of_lt (Nat.lt_of_lt_of_le (f1816.lt) f1837)
      have n1853 : a1794 ≠ a1832 := Nat.ne_of_lt (Nat.lt_of_lt_of_le (f1799.lt) f1837)
      have n1854 : a1692 ≠ a1833 := Nat.ne_of_lt (Nat.lt_of_lt_of_le (f1847.lt) f1838)
      have n1855 : a1711 ≠ a1833 := Nat.ne_of_lt (Nat.lt_of_lt_of_le (f1849.lt) f1838)
      have n1856 : a1723 ≠ a1833 := Nat.ne_of_lt (Nat.lt_of_lt_of_le (f1815.lt) f1838)
      have n1857 : a1748 ≠ a1833 := Nat.ne_of_lt (Nat.lt_of_lt_of_le (f1814.lt) f1838)
      have n1858 : a1766 ≠ a1833 := Nat.ne_of_lt (Nat.lt_of_lt_of_le (f1816.lt) f1838)
      have n1859 : a1794 ≠ a1833 := Nat.ne_of_lt (Nat.lt_of_lt_of_le (f1799.lt) f1838)
      have g1860 : n0 ≤ a1832 := Nat.le_trans X1792.n f1837
      have g1861 : h0.size ≤ a1832 := Nat.le_trans X1792.g0 f1837
      have g1862 : n0 ≤ a1833 := Nat.le_trans X1792.n f1838
      have g1863 : h0.size ≤ a1833 := Nat.le_trans X1792.g0 f1838
      show Go _ _ _ _ _ (mkF _ _ _ [.ref a1832])
      refine kAS X1827 #[.val (.int i0), .val (.int i1), .val (.int 2), .val (.int 1), .val (.ref a1692), .val (.ref a1711), .val (.ref a1832), .unset] at_51 rfl rfl ?_
      refine kILn X1827 at_53 rfl ?_
      refine kILn X1827 at_54 rfl ?_
      refine kIADD X1827 3 at_55 (by decide) ?_
      refine kILn X1827 at_56 rfl ?_
      refine kIFf X1827 at_57 (XT.i0_le_f (by decide)) ?_
      refine kILn X1827 at_60 rfl ?_
      refine kIFf X1827 at_61 (XT.i0_le_f (by decide)) ?_
      refine kIC X1827 1 at_64 (by decide) ?_
      refine kGOTO X1827 69 at_65 (by decide) ?_
      refine kIADD X1827 4 at_69 (by decide) ?_
      refine kIS X1827 #[.val (.int i0), .val (.int i1), .val (.int 2), .val (.int 1), .val (.ref a1692), .val (.ref a1711), .val (.ref a1832), .val (.int 4)] at_70 rfl ?_
      refine kAL X1827 at_72 rfl rfl ?_
      have f1864 := (Old.keep f1818 f1836 all0)
      refine kVIRT X1827 (gEL G) (argsL := []) (rest := []) (wd G 35 rfl) (wd G 36 rfl) (own_nf X1827.hZ (own_noinst (wd G 6 rfl))) (wd G 38 rfl) (wd G 37 rfl) (wd G 7 rfl) (wd G 39 rfl) (by decide) f1840 (rm163 G (ownB ((XT.ushr i0 (8 : Int32)) &&& (255 : Int32))) (ownB ((XT.ushr i0 (16 : Int32)) &&& (255 : Int32))) (ownB ((XT.ushr i1 (8 : Int32)) &&& (255 : Int32))) a1832 a1833 k1834 h1821 X1827.n f1864 f1842 f1844 f1841 f1840) all0 (lenOf pd___I rfl) rfl 0 rfl (by decide) hml.symm at_74 (fun v1865 T1866 h1867 vm1868 _ w1869 q1870 C1871 C1872 X1873 => ?_)
      obtain ⟨e1875, f1876⟩ := q1870
      subst e1875
      subst f1876
      show Go _ _ _ _ _ (mkF _ _ _ [.int 4])
      refine kIL X1873 at_77 rfl ?_
      refine kICt X1873 84 at_79 (XT.ii_eq_t (by decide)) (by decide) ?_
      refine kAL X1873 at_84 rfl rfl ?_
      refine kIC X1873 0 at_86 (by decide) ?_
      refine kIL X1873 at_87 rfl ?_
      refine kAL X1873 at_89 rfl rfl ?_
      refine kILn X1873 at_91 rfl ?_
      refine kAL X1873 at_92 rfl rfl ?_
      refine kILn X1873 at_94 rfl ?_
      have f1877 := (Arv.keep f1847 f1836 nin0)
      refine kSTAT X1873 (gEL G) (argsL := [.ref a1832, .int 0, .int 4, .ref a1692, .int 2, .ref a1711, .int 1]) (rest := []) (wd G 46 rfl) (wd G 47 rfl) (wd G 2 rfl) (wd G 48 rfl) (by decide) (rm165 G ((XT.ushr i0 (8 : Int32)) &&& (255 : Int32)) ((XT.ushr i0 (16 : Int32)) &&& (255 : Int32)) ((XT.ushr i1 (8 : Int32)) &&& (255 : Int32)) (ownB ((XT.ushr i0 (8 : Int32)) &&& (255 : Int32))) (ownB ((XT.ushr i0 (16 : Int32)) &&& (255 : Int32))) (ownB ((XT.ushr i1 (8 : Int32)) &&& (255 : Int32))) a1832 a1692 a1711 a1833 k1693 k1712 k1834 h1821 X1873.n f1864 f1841 f1840 f1842 f1844 (own_mask _).1 (own_mask _).2 (own_mask _).1 (own_mask _).2 (own_mask _).1 (own_mask _).2 f1877) all0 (lenOf pd__Ljava_lang_String_II_CI_CI_Z rfl) rfl 0 rfl (by decide) hml.symm at_95 (fun v1878 T1879 h1880 vm1881 _ w1882 q1883 C1884 C1885 X1886 => ?_)
      rcases q1883 with o1888 | o1889
      · obtain ⟨e1890, f1891, f1892⟩ := o1888
        subst e1890
        subst f1892
        show Go _ _ _ _ _ (mkF _ _ _ [.int 1])
        refine kIFf X1886 at_98 (XT.i0_eq_f (by decide)) ?_
        refine kAL X1886 at_101 rfl rfl ?_
        refine kIC X1886 1 at_103 (by decide) ?_
        refine kIL X1886 at_104 rfl ?_
        refine kAL X1886 at_106 rfl rfl ?_
        refine kILn X1886 at_108 rfl ?_
        refine kAL X1886 at_109 rfl rfl ?_
        refine kILn X1886 at_111 rfl ?_
        refine kSTAT X1886 (gEL G) (argsL := [.ref a1832, .int 1, .int 4, .ref a1692, .int 2, .ref a1711, .int 1]) (rest := []) (wd G 46 rfl) (wd G 47 rfl) (wd G 2 rfl) (wd G 48 rfl) (by decide) (rm167 G ((XT.ushr i0 (8 : Int32)) &&& (255 : Int32)) ((XT.ushr i0 (16 : Int32)) &&& (255 : Int32)) ((XT.ushr i1 (8 : Int32)) &&& (255 : Int32)) (ownB ((XT.ushr i0 (8 : Int32)) &&& (255 : Int32))) (ownB ((XT.ushr i0 (16 : Int32)) &&& (255 : Int32))) (ownB ((XT.ushr i1 (8 : Int32)) &&& (255 : Int32))) a1832 a1692 a1711 a1833 k1693 k1712 k1834 h1821 X1886.n f1864 f1841 f1840 f1842 f1844 (own_mask _).1 (own_mask _).2 (own_mask _).1 (own_mask _).2 (own_mask _).1 (own_mask _).2 f1877) all0 (lenOf pd__Ljava_lang_String_II_CI_CI_Z rfl) rfl 0 rfl (by decide) hml.symm at_112 (fun v1893 T1894 h1895 vm1896 _ w1897 q1898 C1899 C1900 X1901 => ?_)
        rcases q1898 with o1903 | o1904
        · obtain ⟨e1905, f1906, f1907⟩ := o1903
          subst e1905
          subst f1907
          show Go _ _ _ _ _ (mkF _ _ _ [.int 1])
          refine kIFf X1901 at_115 (XT.i0_eq_f (by decide)) ?_
          refine kAL X1901 at_118 rfl rfl ?_
          refine kIC X1901 2 at_120 (by decide) ?_
          refine kIL X1901 at_121 rfl ?_
          refine kAL X1901 at_123 rfl rfl ?_
          refine kILn X1901 at_125 rfl ?_
          refine kAL X1901 at_126 rfl rfl ?_
          refine kILn X1901 at_128 rfl ?_
          refine kSTAT X1901 (gEL G) (argsL := [.ref a1832, .int 2, .int 4, .ref a1692, .int 2, .ref a1711, .int 1]) (rest := []) (wd G 46 rfl) (wd G 47 rfl) (wd G 2 rfl) (wd G 48 rfl) (by decide) (rm169 G ((XT.ushr i0 (8 : Int32)) &&& (255 : Int32)) ((XT.ushr i0 (16 : Int32)) &&& (255 : Int32)) ((XT.ushr i1 (8 : Int32)) &&& (255 : Int32)) (ownB ((XT.ushr i0 (8 : Int32)) &&& (255 : Int32))) (ownB ((XT.ushr i0 (16 : Int32)) &&& (255 : Int32))) (ownB ((XT.ushr i1 (8 : Int32)) &&& (255 : Int32))) a1832 a1692 a1711 a1833 k1693 k1712 k1834 h1821 X1901.n f1864 f1841 f1840 f1842 f1844 (own_mask _).1 (own_mask _).2 (own_mask _).1 (own_mask _).2 (own_mask _).1 (own_mask _).2) all0 (lenOf pd__Ljava_lang_String_II_CI_CI_Z rfl) rfl 0 rfl (by decide) hml.symm at_129 (fun v1908 T1909 h1910 vm1911 _ w1912 q1913 C1914 C1915 X1916 => ?_)
          obtain ⟨e1918, f1919⟩ := q1913
          subst e1918
          subst f1919
          show Go _ _ _ _ _ (mkF _ _ _ [.int 1])
          refine kIFf X1916 at_132 (XT.i0_eq_f (by decide)) ?_
          refine kAL X1916 at_135 rfl rfl ?_
          refine kIC X1916 3 at_137 (by decide) ?_
          refine kIL X1916 at_138 rfl ?_
          refine kAL X1916 at_140 rfl rfl ?_
          refine kILn X1916 at_142 rfl ?_
          refine kAL X1916 at_143 rfl rfl ?_
          refine kILn X1916 at_145 rfl ?_
          have f1920 := (Arv.keep f1849 f1836 nin0)
          refine kSTAT X1916 (gEL G) (argsL := [.ref a1832, .int 3, .int 4, .ref a1692, .int 2, .ref a1711, .int 1]) (rest := []) (wd G 46 rfl) (wd G 47 rfl) (wd G 2 rfl) (wd G 48 rfl) (by decide) (rm171 G ((XT.ushr i0 (8 : Int32)) &&& (255 : Int32)) ((XT.ushr i0 (16 : Int32)) &&& (255 : Int32)) ((XT.ushr i1 (8 : Int32)) &&& (255 : Int32)) (ownB ((XT.ushr i0 (8 : Int32)) &&& (255 : Int32))) (ownB ((XT.ushr i0 (16 : Int32)) &&& (255 : Int32))) (ownB ((XT.ushr i1 (8 : Int32)) &&& (255 : Int32))) a1832 a1692 a1711 a1833 k1693 k1712 k1834 h1821 X1916.n f1864 f1841 f1840 f1842 f1844 (own_mask _).1 (own_mask _).2 (own_mask _).1 (own_mask _).2 (own_mask _).1 (own_mask _).2 f1920) all0 (lenOf pd__Ljava_lang_String_II_CI_CI_Z rfl) rfl 0 rfl (by decide) hml.symm at_146 (fun v1921 T1922 h1923 vm1924 _ w1925 q1926 C1927 C1928 X1929 => ?_)
          rcases q1926 with o1931 | o1932
          · obtain ⟨e1933, f1934, f1935⟩ := o1931
            subst e1933
            subst f1935
            show Go _ _ _ _ _ (mkF _ _ _ [.int 1])
            refine kIFf X1929 at_149 (XT.i0_eq_f (by decide)) ?_
            refine kAL X1929 at_152 rfl rfl ?_
            refine kIC X1929 4 at_154 (by decide) ?_
            refine kIL X1929 at_155 rfl ?_
            refine kAL X1929 at_157 rfl rfl ?_
            refine kILn X1929 at_159 rfl ?_
            refine kAL X1929 at_160 rfl rfl ?_
            refine kILn X1929 at_162 rfl ?_
            refine kSTAT X1929 (gEL G) (argsL := [.ref a1832, .int 4, .int 4, .ref a1692, .int 2, .ref a1711, .int 1]) (rest := []) (wd G 46 rfl) (wd G 47 rfl) (wd G 2 rfl) (wd G 48 rfl) (by decide) (rm173 G ((XT.ushr i0 (8 : Int32)) &&& (255 : Int32)) ((XT.ushr i0 (16 : Int32)) &&& (255 : Int32)) ((XT.ushr i1 (8 : Int32)) &&& (255 : Int32)) (ownB ((XT.ushr i0 (8 : Int32)) &&& (255 : Int32))) (ownB ((XT.ushr i0 (16 : Int32)) &&& (255 : Int32))) (ownB ((XT.ushr i1 (8 : Int32)) &&& (255 : Int32))) a1832 a1692 a1711 a1833 k1693 k1712 k1834 h1821 X1929.n f1864 ) all0 (lenOf pd__Ljava_lang_String_II_CI_CI_Z rfl) rfl 0 rfl (by decide) hml.symm at_163 (fun v1936 T1937 h1938 vm1939 _ w1940 q1941 C1942 C1943 X1944 => ?_)
            obtain ⟨e1946, f1947⟩ := q1941
            subst e1946
            subst f1947
            show Go _ _ _ _ _ (mkF _ _ _ [.int 1])
            refine kIFf X1944 at_166 (XT.i0_eq_f (by decide)) ?_
            refine kIC X1944 1 at_169 (by decide) ?_
            refine kGOTO X1944 174 at_170 (by decide) ?_
            exact kRETZ X1944 (gEL G) (t := .boolean) hret (by simp) at_174 (fun _ _ => rfl) (by decide)
          · obtain ⟨e1948, f1949, f1950⟩ := o1932
            subst e1948
            exact absurd (own_rt (own_mask _).1 (own_mask _).2) f1949
        · obtain ⟨e1951, f1952, f1953⟩ := o1904
          subst e1951
          exact absurd (own_rt (own_mask _).1 (own_mask _).2) f1952
      · obtain ⟨e1954, f1955, f1956⟩ := o1889
        subst e1954
        exact absurd (own_rt (own_mask _).1 (own_mask _).2) f1955
    · rw [hk1447]
      clear hk1447
      refine kILn X0 at_16 rfl ?_
      refine kILn X0 at_17 rfl ?_
      refine kSTAT X0 (gEL G) (argsL := [.int 2, .int i0]) (rest := []) (wd G 0 rfl) (wd G 1 rfl) (wd G 2 rfl) (wd G 3 rfl) (by decide) (rm29 G i0 h0 X0.n O0 ) all0 (lenOf pd__II__C rfl) rfl 0 rfl (by decide) hml.symm at_18 (fun v1957 T1958 h1959 vm1960 _ w1961 q1962 C1963 C1964 X1965 => ?_)
      obtain ⟨a1967, k1968, e1969, f1970, f1971, f1972⟩ := q1962
      subst e1969
      have g1973 : n0 ≤ a1967 := Nat.le_trans X0.n f1971
      have g1974 : h0.size ≤ a1967 := Nat.le_trans X0.g0 f1971
      show Go _ _ _ _ _ (mkF _ _ _ [.ref a1967])
      refine kAS X1965 #[.val (.int i0), .val (.int i1), .val (.int 2), .val (.int 2), .val (.ref a1967), .unset, .unset, .unset] at_21 rfl rfl ?_
      refine kILn X1965 at_23 rfl ?_
      refine kILn X1965 at_24 rfl ?_
      have f1975 := (Old.keep O0 f1970 all0)
      refine kSTAT X1965 (gEL G) (argsL := [.int 2, .int i1]) (rest := []) (wd G 0 rfl) (wd G 1 rfl) (wd G 2 rfl) (wd G 3 rfl) (by decide) (rm29 G i1 h1959 X1965.n f1975 ) all0 (lenOf pd__II__C rfl) rfl 0 rfl (by decide) hml.symm at_25 (fun v1976 T1977 h1978 vm1979 _ w1980 q1981 C1982 C1983 X1984 => ?_)
      obtain ⟨a1986, k1987, e1988, f1989, f1990, f1991⟩ := q1981
      subst e1988
      have n1992 : a1967 ≠ a1986 := Nat.ne_of_lt (Nat.lt_of_lt_of_le (f1972.lt) f1990)
      have g1993 : n0 ≤ a1986 := Nat.le_trans X1965.n f1990
      have g1994 : h0.size ≤ a1986 := Nat.le_trans X1965.g0 f1990
      show Go _ _ _ _ _ (mkF _ _ _ [.ref a1986])
      refine kAS X1984 #[.val (.int i0), .val (.int i1), .val (.int 2), .val (.int 2), .val (.ref a1967), .val (.ref a1986), .unset, .unset] at_28 rfl rfl ?_
      refine kNEW X1984 (wd G 5 rfl) (wd G 6 rfl) (wd G 7 rfl) at_30 (by decide) (by decide) (fun T1995 h1996 a1998 E1999 q2000 g2001 A2002 D2003 s2004 X1997 => ?_)
      have f2006 := (Arv.keep f1972 f1989 nin0)
      have n2005 : a1967 ≠ a1998 := Nat.ne_of_lt (Nat.lt_of_lt_of_le (f2006.lt) (Nat.le_of_eq q2000.symm))
      have n2007 : a1986 ≠ a1998 := Nat.ne_of_lt (Nat.lt_of_lt_of_le (f1991.lt) (Nat.le_of_eq q2000.symm))
      have g2008 : h0.size ≤ a1998 := q2000 ▸ X1984.g0
      have f2009 : Fld Z h1996 a1998 "java/lang/String" "value" "[B" (.null) := D2003 (Or.inr (wd G 20 rfl)) (ty := (.array (.byte))) (by decide)
      have f2010 : Fld Z h1996 a1998 "java/lang/String" "coder" "B" (.int 0) := D2003 (Or.inr (wd G 21 rfl)) (ty := .byte) (by decide)
      refine kDUP X1997 at_33 rfl ?_
      refine kAL X1997 at_34 rfl rfl ?_
      have f2011 := (Arv.ext f2006 E1999)
      have f2012 := (Old.ext (Old.keep f1975 f1989 all0) E1999)
      refine kSPEC X1997 (gEL G) (argsL := [.ref a1967]) (rest := [.ref a1998]) (wd G 8 rfl) (wd G 9 rfl) (wd G 7 rfl) (wd G 10 rfl) rfl (by decide) (rm30 G ((XT.ushr i0 (8 : Int32)) &&& (255 : Int32)) ((XT.ushr i0 (16 : Int32)) &&& (255 : Int32)) a1998 a1967 k1968 h1996 X1997.n f2012 f2011 (own_mask _).1 (own_mask _).2 (own_mask _).1 (own_mask _).2 A2002 f2010 f2009 g2001) (allS ⟨(A2002.lt), s2004⟩ all0) (lenOf pd___C_V rfl) rfl 1 rfl (by decide) hml.symm at_36 (fun v2013 T2014 h2015 vm2016 _ w2017 q2018 C2019 C2020 X2021 => ?_)
      obtain ⟨a2023, k2024, e2025, f2026, f2027, f2028, f2029, f2030, f2031⟩ := q2018
      subst e2025
      have n2032 : a1967 ≠ a2023 := Nat.ne_of_lt (Nat.lt_of_lt_of_le (f2011.lt) f2027)
      have f2034 := (Arv.ext f1991 E1999)
      have n2033 : a1986 ≠ a2023 := Nat.ne_of_lt (Nat.lt_of_lt_of_le (f2034.lt) f2027)
      have n2035 : a1998 ≠ a2023 := Nat.ne_of_lt (Nat.lt_of_lt_of_le (A2002.lt) f2027)
      have g2036 : n0 ≤ a2023 := Nat.le_trans X1997.n f2027
      have g2037 : h0.size ≤ a2023 := Nat.le_trans X1997.g0 f2027
      show Go _ _ _ _ _ (mkF _ _ _ [.ref a1998])
      refine kNEW X2021 (wd G 5 rfl) (wd G 6 rfl) (wd G 7 rfl) at_39 (by decide) (by decide) (fun T2038 h2039 a2041 E2042 q2043 g2044 A2045 D2046 s2047 X2040 => ?_)
      have f2049 := (Arv.keep f2011 f2026 (ninS n2005 nin0))
      have n2048 : a1967 ≠ a2041 := Nat.ne_of_lt (Nat.lt_of_lt_of_le (f2049.lt) (Nat.le_of_eq q2043.symm))
      have f2051 := (Arv.keep f2034 f2026 (ninS n2007 nin0))
      have n2050 : a1986 ≠ a2041 := Nat.ne_of_lt (Nat.lt_of_lt_of_le (f2051.lt) (Nat.le_of_eq q2043.symm))
      have n2052 : a1998 ≠ a2041 := Nat.ne_of_lt (Nat.lt_of_lt_of_le (f2031.lt) (Nat.le_of_eq q2043.symm))
      have n2053 : a2023 ≠ a2041 := Nat.ne_of_lt (Nat.lt_of_lt_of_le (f2028.lt) (Nat.le_of_eq q2043.symm))
      have g2054 : h0.size ≤ a2041 := q2043 ▸ X2021.g0
      have f2055 : Fld Z h2039 a2041 "java/lang/String" "value" "[B" (.null) := D2046 (Or.inr (wd G 20 rfl)) (ty := (.array (.byte))) (by decide)
      have f2056 : Fld Z h2039 a2041 "java/lang/String" "coder" "B" (.int 0) := D2046 (Or.inr (wd G 21 rfl)) (ty := .byte) (by decide)
      refine kDUP X2040 at_42 rfl ?_
      refine kAL X2040 at_43 rfl rfl ?_
      have f2057 := (Arv.ext f2051 E2042)
      have f2058 := (Old.ext (Old.keep f2012 f2026 (allS g2001 all0)) E2042)
      refine kSPEC X2040 (gEL G) (argsL := [.ref a1986]) (rest := [.ref a2041, .ref a1998]) (wd G 8 rfl) (wd G 9 rfl) (wd G 7 rfl) (wd G 10 rfl) rfl (by decide) (rm30 G ((XT.ushr i1 (8 : Int32)) &&& (255 : Int32)) ((XT.ushr i1 (16 : Int32)) &&& (255 : Int32)) a2041 a1986 k1987 h2039 X2040.n f2058 f2057 (own_mask _).1 (own_mask _).2 (own_mask _).1 (own_mask _).2 A2045 f2056 f2055 g2044) (allS ⟨(A2045.lt), s2047⟩ all0) (lenOf pd___C_V rfl) rfl 2 rfl (by decide) hml.symm at_45 (fun v2059 T2060 h2061 vm2062 _ w2063 q2064 C2065 C2066 X2067 => ?_)
      obtain ⟨a2069, k2070, e2071, f2072, f2073, f2074, f2075, f2076, f2077⟩ := q2064
      subst e2071
      have f2079 := (Arv.ext f2049 E2042)
      have n2078 : a1967 ≠ a2069 := Nat.ne_of_lt (Nat.lt_of_lt_of_le (f2079.lt) f2073)
      have n2080 : a1986 ≠ a2069 := Nat.ne_of_lt (Nat.lt_of_lt_of_le (f2057.lt) f2073)
      have f2082 := (Fld.ext E2042 f2031)
      have n2081 : a1998 ≠ a2069 := Nat.ne_of_lt (Nat.lt_of_lt_of_le (f2082.lt) f2073)
      have f2084 := (Arv.ext f2028 E2042)
      have n2083 : a2023 ≠ a2069 := Nat.ne_of_lt (Nat.lt_of_lt_of_le (f2084.lt) f2073)
      have n2085 : a2041 ≠ a2069 := Nat.ne_of_lt (Nat.lt_of_lt_of_le (A2045.lt) f2073)
      have g2086 : n0 ≤ a2069 := Nat.le_trans X2040.n f2073
      have g2087 : h0.size ≤ a2069 := Nat.le_trans X2040.g0 f2073
      show Go _ _ _ _ _ (mkF _ _ _ [.ref a2041, .ref a1998])
      have f2088 := (Fld.keep f2082 f2072 (ninS n2052 nin0))
      have f2089 := (Arv.keep f2084 f2072 (ninS n2053 nin0))
      have f2090 := (Exa.keep (Exa.ext E2042 (Exa.keep A2002 f2026)) f2072)
      have f2091 := (Exa.keep A2045 f2072)
      have f2092 := (Fld.keep (Fld.ext E2042 f2030) f2072 (ninS n2052 nin0))
      have f2093 := (Old.keep f2058 f2072 (allS g2044 all0))
      have f2103 := (CHr.safe C2066 (f2084.lt) (Safe.ext E2042 X2021.C.1 f2029))
      have f2104 := (CHr.safe C2066 (f2056.lt) s2047)
      have f2105 := (CHr.safe C2066 (f2082.lt) (Safe.ext E2042 X2021.C.1 (CHr.safe C2020 (f2010.lt) s2004)))
      refine kSTAT X2067 (gEL G) (argsL := [.ref a1998, .ref a2041]) (rest := []) (wd G 26 rfl) (wd G 27 rfl) (wd G 28 rfl) (wd G 29 rfl) (by decide) (rm174 G (ownB ((XT.ushr i0 (8 : Int32)) &&& (255 : Int32))) (ownB ((XT.ushr i0 (16 : Int32)) &&& (255 : Int32))) (ownB ((XT.ushr i1 (8 : Int32)) &&& (255 : Int32))) (ownB ((XT.ushr i1 (16 : Int32)) &&& (255 : Int32))) a1998 a2041 a2023 a2069 k2024 k2070 h2061 X2067.n f2093 f2088 f2089 f2090 f2077 f2074 f2091 f2092 f2076) (allS ⟨(f2090.lt), f2105⟩ (allS ⟨(f2091.lt), f2104⟩ (allS ⟨(f2089.lt), f2103⟩ (allS ⟨(f2074.lt), f2075⟩ all0)))) (lenOf pd__Ljava_lang_String_Ljava_lang_String__Ljava_lang_String_ rfl) rfl 0 rfl (by decide) hml.symm at_48 (fun v2094 T2095 h2096 vm2097 _ w2098 q2099 C2100 C2101 X2102 => ?_)
      obtain ⟨a2107, a2108, k2109, e2110, f2111, f2112, f2113, f2114, f2115, f2116, f2117, f2118, f2119, f2120⟩ := q2099
      subst e2110
      have f2122 := (Arv.keep f2079 f2072 (ninS n2048 nin0))
      have n2121 : a1967 ≠ a2107 := Nat.ne_of_lt (Nat.lt_of_lt_of_le (f2122.lt) f2112)
      have f2124 := (Arv.keep f2057 f2072 (ninS n2050 nin0))
      have n2123 : a1986 ≠ a2107 := Nat.ne_of_lt (Nat.lt_of_lt_of_le (f2124.lt) f2112)
      have n2125 : a1998 ≠ a2107 := Nat.ne_of_lt (Nat.lt_of_lt_of_le (f2090.lt) f2112)
      have n2126 : a2023 ≠ a2107 := Nat.ne_of_lt (Nat.lt_of_lt_of_le (f2089.lt) f2112)
      have n2127 : a2041 ≠ a2107 := Nat.ne_of_lt (Nat.lt_of_lt_of_le (f2091.lt) f2112)
      have n2128 : a2069 ≠ a2107 := Nat.ne_of_lt (Nat.lt_of_lt_of_le (f2074.lt) f2112)
      have n2129 : a1967 ≠ a2108 := Nat.ne_of_lt (Nat.lt_of_lt_of_le (f2122.lt) f2113)
      have n2130 : a1986 ≠ a2108 := Nat.ne_of_lt (Nat.lt_of_lt_of_le (f2124.lt) f2113)
      have n2131 : a1998 ≠ a2108 := Nat.ne_of_lt (Nat.lt_of_lt_of_le (f2090.lt) f2113)
      have n2132 : a2023 ≠ a2108 := Nat.ne_of_lt (Nat.lt_of_lt_of_le (f2089.lt) f2113)
      have n2133 : a2041 ≠ a2108 := Nat.ne_of_lt (Nat.lt_of_lt_of_le (f2091.lt) f2113)
      have n2134 : a2069 ≠ a2108 := Nat.ne_of_lt (Nat.lt_of_lt_of_le (f2074.lt) f2113)
      have g2135 : n0 ≤ a2107 := Nat.le_trans X2067.n f2112
      have g2136 : h0.size ≤ a2107 := Nat.le_trans X2067.g0 f2112
      have g2137 : n0 ≤ a2108 := Nat.le_trans X2067.n f2113
      have g2138 : h0.size ≤ a2108 := Nat.le_trans X2067.g0 f2113
      show Go _ _ _ _ _ (mkF _ _ _ [.ref a2107])
      refine kAS X2102 #[.val (.int i0), .val (.int i1), .val (.int 2), .val (.int 2), .val (.ref a1967), .val (.ref a1986), .val (.ref a2107), .unset] at_51 rfl rfl ?_
      refine kILn X2102 at_53 rfl ?_
      refine kILn X2102 at_54 rfl ?_
      refine kIADD X2102 4 at_55 (by decide) ?_
      refine kILn X2102 at_56 rfl ?_
      refine kIFf X2102 at_57 (XT.i0_le_f (by decide)) ?_
      refine kILn X2102 at_60 rfl ?_
      refine kIFf X2102 at_61 (XT.i0_le_f (by decide)) ?_
      refine kIC X2102 1 at_64 (by decide) ?_
      refine kGOTO X2102 69 at_65 (by decide) ?_
      refine kIADD X2102 5 at_69 (by decide) ?_
      refine kIS X2102 #[.val (.int i0), .val (.int i1), .val (.int 2), .val (.int 2), .val (.ref a1967), .val (.ref a1986), .val (.ref a2107), .val (.int 5)] at_70 rfl ?_
      refine kAL X2102 at_72 rfl rfl ?_
      have f2139 := (Old.keep f2093 f2111 all0)
      refine kVIRT X2102 (gEL G) (argsL := []) (rest := []) (wd G 35 rfl) (wd G 36 rfl) (own_nf X2102.hZ (own_noinst (wd G 6 rfl))) (wd G 38 rfl) (wd G 37 rfl) (wd G 7 rfl) (wd G 39 rfl) (by decide) f2115 (rm192 G (ownB ((XT.ushr i0 (8 : Int32)) &&& (255 : Int32))) (ownB ((XT.ushr i0 (16 : Int32)) &&& (255 : Int32))) (ownB ((XT.ushr i1 (8 : Int32)) &&& (255 : Int32))) (ownB ((XT.ushr i1 (16 : Int32)) &&& (255 : Int32))) a2107 a2108 k2109 h2096 X2102.n f2139 f2117 f2119 f2116 f2115) all0 (lenOf pd___I rfl) rfl 0 rfl (by decide) hml.symm at_74 (fun v2140 T2141 h2142 vm2143 _ w2144 q2145 C2146 C2147 X2148 => ?_)
      obtain ⟨e2150, f2151⟩ := q2145
      subst e2150
      subst f2151
      show Go _ _ _ _ _ (mkF _ _ _ [.int 5])
      refine kIL X2148 at_77 rfl ?_
      refine kICt X2148 84 at_79 (XT.ii_eq_t (by decide)) (by decide) ?_
      refine kAL X2148 at_84 rfl rfl ?_
      refine kIC X2148 0 at_86 (by decide) ?_
      refine kIL X2148 at_87 rfl ?_
      refine kAL X2148 at_89 rfl rfl ?_
      refine kILn X2148 at_91 rfl ?_
      refine kAL X2148 at_92 rfl rfl ?_
      refine kILn X2148 at_94 rfl ?_
      have f2152 := (Arv.keep f2122 f2111 nin0)
      refine kSTAT X2148 (gEL G) (argsL := [.ref a2107, .int 0, .int 5, .ref a1967, .int 2, .ref a1986, .int 2]) (rest := []) (wd G 46 rfl) (wd G 47 rfl) (wd G 2 rfl) (wd G 48 rfl) (by decide) (rm194 G ((XT.ushr i0 (8 : Int32)) &&& (255 : Int32)) ((XT.ushr i0 (16 : Int32)) &&& (255 : Int32)) ((XT.ushr i1 (8 : Int32)) &&& (255 : Int32)) ((XT.ushr i1 (16 : Int32)) &&& (255 : Int32)) (ownB ((XT.ushr i0 (8 : Int32)) &&& (255 : Int32))) (ownB ((XT.ushr i0 (16 : Int32)) &&& (255 : Int32))) (ownB ((XT.ushr i1 (8 : Int32)) &&& (255 : Int32))) (ownB ((XT.ushr i1 (16 : Int32)) &&& (255 : Int32))) a2107 a1967 a1986 a2108 k1968 k1987 k2109 h2096 X2148.n f2139 f2116 f2115 f2117 f2119 (own_mask _).1 (own_mask _).2 (own_mask _).1 (own_mask _).2 (own_mask _).1 (own_mask _).2 (own_mask _).1 (own_mask _).2 f2152) all0 (lenOf pd__Ljava_lang_String_II_CI_CI_Z rfl) rfl 0 rfl (by decide) hml.symm at_95 (fun v2153 T2154 h2155 vm2156 _ w2157 q2158 C2159 C2160 X2161 => ?_)
      rcases q2158 with o2163 | o2164
      · obtain ⟨e2165, f2166, f2167⟩ := o2163
        subst e2165
        subst f2167
        show Go _ _ _ _ _ (mkF _ _ _ [.int 1])
        refine kIFf X2161 at_98 (XT.i0_eq_f (by decide)) ?_
        refine kAL X2161 at_101 rfl rfl ?_
        refine kIC X2161 1 at_103 (by decide) ?_
        refine kIL X2161 at_104 rfl ?_
        refine kAL X2161 at_106 rfl rfl ?_
        refine kILn X2161 at_108 rfl ?_
        refine kAL X2161 at_109 rfl rfl ?_
        refine kILn X2161 at_111 rfl ?_
        refine kSTAT X2161 (gEL G) (argsL := [.ref a2107, .int 1, .int 5, .ref a1967, .int 2, .ref a1986, .int 2]) (rest := []) (wd G 46 rfl) (wd G 47 rfl) (wd G 2 rfl) (wd G 48 rfl) (by decide) (rm196 G ((XT.ushr i0 (8 : Int32)) &&& (255 : Int32)) ((XT.ushr i0 (16 : Int32)) &&& (255 : Int32)) ((XT.ushr i1 (8 : Int32)) &&& (255 : Int32)) ((XT.ushr i1 (16 : Int32)) &&& (255 : Int32)) (ownB ((XT.ushr i0 (8 : Int32)) &&& (255 : Int32))) (ownB ((XT.ushr i0 (16 : Int32)) &&& (255 : Int32))) (ownB ((XT.ushr i1 (8 : Int32)) &&& (255 : Int32))) (ownB ((XT.ushr i1 (16 : Int32)) &&& (255 : Int32))) a2107 a1967 a1986 a2108 k1968 k1987 k2109 h2096 X2161.n f2139 f2116 f2115 f2117 f2119 (own_mask _).1 (own_mask _).2 (own_mask _).1 (own_mask _).2 (own_mask _).1 (own_mask _).2 (own_mask _).1 (own_mask _).2 f2152) all0 (lenOf pd__Ljava_lang_String_II_CI_CI_Z rfl) rfl 0 rfl (by decide) hml.symm at_112 (fun v2168 T2169 h2170 vm2171 _ w2172 q2173 C2174 C2175 X2176 => ?_)
        rcases q2173 with o2178 | o2179
        · obtain ⟨e2180, f2181, f2182⟩ := o2178
          subst e2180
          subst f2182
          show Go _ _ _ _ _ (mkF _ _ _ [.int 1])
          refine kIFf X2176 at_115 (XT.i0_eq_f (by decide)) ?_
          refine kAL X2176 at_118 rfl rfl ?_
          refine kIC X2176 2 at_120 (by decide) ?_
          refine kIL X2176 at_121 rfl ?_
          refine kAL X2176 at_123 rfl rfl ?_
          refine kILn X2176 at_125 rfl ?_
          refine kAL X2176 at_126 rfl rfl ?_
          refine kILn X2176 at_128 rfl ?_
          refine kSTAT X2176 (gEL G) (argsL := [.ref a2107, .int 2, .int 5, .ref a1967, .int 2, .ref a1986, .int 2]) (rest := []) (wd G 46 rfl) (wd G 47 rfl) (wd G 2 rfl) (wd G 48 rfl) (by decide) (rm198 G ((XT.ushr i0 (8 : Int32)) &&& (255 : Int32)) ((XT.ushr i0 (16 : Int32)) &&& (255 : Int32)) ((XT.ushr i1 (8 : Int32)) &&& (255 : Int32)) ((XT.ushr i1 (16 : Int32)) &&& (255 : Int32)) (ownB ((XT.ushr i0 (8 : Int32)) &&& (255 : Int32))) (ownB ((XT.ushr i0 (16 : Int32)) &&& (255 : Int32))) (ownB ((XT.ushr i1 (8 : Int32)) &&& (255 : Int32))) (ownB ((XT.ushr i1 (16 : Int32)) &&& (255 : Int32))) a2107 a1967 a1986 a2108 k1968 k1987 k2109 h2096 X2176.n f2139 f2116 f2115 f2117 f2119 (own_mask _).1 (own_mask _).2 (own_mask _).1 (own_mask _).2 (own_mask _).1 (own_mask _).2 (own_mask _).1 (own_mask _).2) all0 (lenOf pd__Ljava_lang_String_II_CI_CI_Z rfl) rfl 0 rfl (by decide) hml.symm at_129 (fun v2183 T2184 h2185 vm2186 _ w2187 q2188 C2189 C2190 X2191 => ?_)
          obtain ⟨e2193, f2194⟩ := q2188
          subst e2193
          subst f2194
          show Go _ _ _ _ _ (mkF _ _ _ [.int 1])
          refine kIFf X2191 at_132 (XT.i0_eq_f (by decide)) ?_
          refine kAL X2191 at_135 rfl rfl ?_
          refine kIC X2191 3 at_137 (by decide) ?_
          refine kIL X2191 at_138 rfl ?_
          refine kAL X2191 at_140 rfl rfl ?_
          refine kILn X2191 at_142 rfl ?_
          refine kAL X2191 at_143 rfl rfl ?_
          refine kILn X2191 at_145 rfl ?_
          have f2195 := (Arv.keep f2124 f2111 nin0)
          refine kSTAT X2191 (gEL G) (argsL := [.ref a2107, .int 3, .int 5, .ref a1967, .int 2, .ref a1986, .int 2]) (rest := []) (wd G 46 rfl) (wd G 47 rfl) (wd G 2 rfl) (wd G 48 rfl) (by decide) (rm200 G ((XT.ushr i0 (8 : Int32)) &&& (255 : Int32)) ((XT.ushr i0 (16 : Int32)) &&& (255 : Int32)) ((XT.ushr i1 (8 : Int32)) &&& (255 : Int32)) ((XT.ushr i1 (16 : Int32)) &&& (255 : Int32)) (ownB ((XT.ushr i0 (8 : Int32)) &&& (255 : Int32))) (ownB ((XT.ushr i0 (16 : Int32)) &&& (255 : Int32))) (ownB ((XT.ushr i1 (8 : Int32)) &&& (255 : Int32))) (ownB ((XT.ushr i1 (16 : Int32)) &&& (255 : Int32))) a2107 a1967 a1986 a2108 k1968 k1987 k2109 h2096 X2191.n f2139 f2116 f2115 f2117 f2119 (own_mask _).1 (own_mask _).2 (own_mask _).1 (own_mask _).2 (own_mask _).1 (own_mask _).2 (own_mask _).1 (own_mask _).2 f2195) all0 (lenOf pd__Ljava_lang_String_II_CI_CI_Z rfl) rfl 0 rfl (by decide) hml.symm at_146 (fun v2196 T2197 h2198 vm2199 _ w2200 q2201 C2202 C2203 X2204 => ?_)
          rcases q2201 with o2206 | o2207
          · obtain ⟨e2208, f2209, f2210⟩ := o2206
            subst e2208
            subst f2210
            show Go _ _ _ _ _ (mkF _ _ _ [.int 1])
            refine kIFf X2204 at_149 (XT.i0_eq_f (by decide)) ?_
            refine kAL X2204 at_152 rfl rfl ?_
            refine kIC X2204 4 at_154 (by decide) ?_
            refine kIL X2204 at_155 rfl ?_
            refine kAL X2204 at_157 rfl rfl ?_
            refine kILn X2204 at_159 rfl ?_
            refine kAL X2204 at_160 rfl rfl ?_
            refine kILn X2204 at_162 rfl ?_
            refine kSTAT X2204 (gEL G) (argsL := [.ref a2107, .int 4, .int 5, .ref a1967, .int 2, .ref a1986, .int 2]) (rest := []) (wd G 46 rfl) (wd G 47 rfl) (wd G 2 rfl) (wd G 48 rfl) (by decide) (rm202 G ((XT.ushr i0 (8 : Int32)) &&& (255 : Int32)) ((XT.ushr i0 (16 : Int32)) &&& (255 : Int32)) ((XT.ushr i1 (8 : Int32)) &&& (255 : Int32)) ((XT.ushr i1 (16 : Int32)) &&& (255 : Int32)) (ownB ((XT.ushr i0 (8 : Int32)) &&& (255 : Int32))) (ownB ((XT.ushr i0 (16 : Int32)) &&& (255 : Int32))) (ownB ((XT.ushr i1 (8 : Int32)) &&& (255 : Int32))) (ownB ((XT.ushr i1 (16 : Int32)) &&& (255 : Int32))) a2107 a1967 a1986 a2108 k1968 k1987 k2109 h2096 X2204.n f2139 f2116 f2115 f2117 f2119 (own_mask _).1 (own_mask _).2 (own_mask _).1 (own_mask _).2 (own_mask _).1 (own_mask _).2 (own_mask _).1 (own_mask _).2 f2195) all0 (lenOf pd__Ljava_lang_String_II_CI_CI_Z rfl) rfl 0 rfl (by decide) hml.symm at_163 (fun v2211 T2212 h2213 vm2214 _ w2215 q2216 C2217 C2218 X2219 => ?_)
            rcases q2216 with o2221 | o2222
            · obtain ⟨e2223, f2224, f2225⟩ := o2221
              subst e2223
              subst f2225
              show Go _ _ _ _ _ (mkF _ _ _ [.int 1])
              refine kIFf X2219 at_166 (XT.i0_eq_f (by decide)) ?_
              refine kIC X2219 1 at_169 (by decide) ?_
              refine kGOTO X2219 174 at_170 (by decide) ?_
              exact kRETZ X2219 (gEL G) (t := .boolean) hret (by simp) at_174 (fun _ _ => rfl) (by decide)
            · obtain ⟨e2226, f2227, f2228⟩ := o2222
              subst e2226
              exact absurd (own_rt (own_mask _).1 (own_mask _).2) f2227
          · obtain ⟨e2229, f2230, f2231⟩ := o2207
            subst e2229
            exact absurd (own_rt (own_mask _).1 (own_mask _).2) f2230
        · obtain ⟨e2232, f2233, f2234⟩ := o2179
          subst e2232
          exact absurd (own_rt (own_mask _).1 (own_mask _).2) f2233
      · obtain ⟨e2235, f2236, f2237⟩ := o2164
        subst e2235
        exact absurd (own_rt (own_mask _).1 (own_mask _).2) f2236
end OwnC
theorem comes_1 {Post : Tables → Env → Array Value → State → Outcome → State → Prop} (hpost : ∀ tb e args s v u, (limb_1_1.after args s (.returned v) u = true ∧ limb_1_2.after args s (.returned v) u = true ∧ True) → ReturnedEndW s (.returned v) u (Jvm.fieldLocs frame_1_writes args s ++ Jvm.arrayLocs frame_1_arrays args s ++ Jvm.staticLocs frame_1_statics s) 32 2240 → Post tb e args s (.returned v) u) :
    ArmFor flags0 classFile x code maxLocals ret World_1 tables_1 room_1 Calls_1 rest_1 Pre_1 Post := by
  intro l hfl _ _ p e ha hc hk s m args below hf hA hF happ hP
  obtain ⟨hcalls, hrest, hpre⟩ := hP
  obtain ⟨-, -, -, hnamed, -, -, -, hat⟩ := (Spec.applies_iff hf).mp happ
  obtain ⟨hg, hn⟩ := and_e (Cond.before_iff.mp (show (Jvm.Cond.and given_1 narrow_1).before args s = true from hpre))
  obtain ⟨h1, hg⟩ := and_e hg
  obtain ⟨w0, w1, rfl⟩ : ∃ w0 w1 : Value, args = #[w0, w1] := by
    have hs : args.size = 2 := by simpa [Cond.value, given_1] using h1
    obtain ⟨L⟩ := args
    match L, hs with
    | [w0, w1], _ => exact ⟨w0, w1, rfl⟩
  obtain ⟨hg0, hg⟩ := and_e hg
  obtain ⟨i0, ei0⟩ := is_v hg0
  obtain rfl : w0 = (.int i0) := Option.some.inj ei0
  have hg1 := hg
  obtain ⟨i1, ei1⟩ := is_v hg1
  obtain rfl : w1 = (.int i1) := Option.some.inj ei1
  have hw := fun d (hd : d ∈ tables_1) => atoms_spec (ws := Jvm.Cond.code x code maxLocals ret :: tables_1) hat d (List.mem_cons_of_mem _ hd)
  have hfit : Fit s := fun {y c} hc i hi => by
    obtain ⟨ha, rfl⟩ := Array.getElem?_eq_some_iff.mp hc
    have q := List.all_eq_true.mp ((Array.all_eq_true_iff_forall_mem.mp hF) _ (Array.getElem_mem ha)) i (List.mem_range.mpr hi)
    simpa [Array.getElem?_eq_getElem hi] using q
  obtain ⟨hsets, hown0⟩ := atoms_of _ (rest_1_c_eq ▸ (show rest_1_c.before _ s = true from hrest))
  have wk : ∀ (k : Nat) {d : Jvm.Cond}, tables_1[k]? = some d → d.before _ s = true := fun k d h => hw d (List.mem_of_getElem? h)
  have rk : ∀ (k : Nat) {d : Jvm.Cond}, jdkStatics_1[k]? = some d → d.before _ s = true := fun k d h => hsets d (List.mem_of_getElem? h)
  have wS : ∀ a ∈ Bundle.stringAtoms, a.before _ s = true := fun a hm => by
    simp only [Bundle.stringAtoms, List.mem_cons, List.not_mem_nil, or_false] at hm
    rcases hm with rfl | rfl | rfl | rfl | rfl | rfl | rfl
    · exact (wk 7 rfl)
    · exact (wk 6 rfl)
    · exact (wk 19 rfl)
    · exact (wk 20 rfl)
    · exact (wk 21 rfl)
    · exact (wk 22 rfl)
    · exact (wk 23 rfl)
  have hEL : EW s _ EL0 := (EW.cons (wk 18 rfl) (by decide) (EW.cons (wk 115 rfl) (by decide) EW.nil))
  have hh : ∀ p ∈ EL0, Jvm.Lit.constHeld s p.1 p.2 := fun p hp => hcalls.1 p (by revert hp; revert p; decide)
  have hC : CHv s EL0 s.vm s.heap := CHv.start hEL hh (rk 2 rfl) (wk 19 rfl) (wk 6 rfl)
  obtain ⟨iCS, eCS⟩ := is_v (Cond.before_iff.mp (rk 1 rfl))
  have S_CS := Sta.start eCS (Or.inl (rk 0 rfl))
  have n_CS : ¬ iCS = 0 := gotF (Cond.eq_ints eCS (Term.int_eval 0)) (not_v (Cond.before_iff.mp (rk 2 rfl)))
  obtain ⟨vSI, eSI, r_SI⟩ := isR_v (Cond.before_iff.mp (rk 8 rfl))
  have S_SI := Sta.start eSI (Or.inl (rk 7 rfl))
  have G : Glob s _ iCS vSI := ⟨hw, hEL, wS, S_CS, n_CS, S_SI, r_SI⟩
  obtain ⟨n, o, h1, h2, h3, _, L, rfl, ⟨N, rfl⟩, hCr, hq⟩ := rm0 G i0 i1 s.heap (Nat.le_refl _) (Old.start s) p e ha hc hk s m _ below hf ((Spec.applies_iff_loose hf).mp happ).1 ⟨rfl, State.Warmed39.refl s, rfl, hC, all0⟩ trivial
  refine ⟨n, _, h1, h2, h3, hpost _ _ _ _ _ _ ⟨Cond.after_iff.mpr rfl, Cond.after_iff.mpr (eq_i res_at (Term.int_eval (1)) rfl), trivial⟩ ⟨hq.1, hq.2.1, hq.2.2.1, (hq.2.2.2.sift fun y hy => Or.inr (N y hy)).mono (by decide) (by decide)⟩⟩
theorem main_1_1 : Claimed_1_1 := comes_1 fun _ _ _ _ _ _ h hF => ⟨h.1, hF⟩
theorem main_1_2 : Claimed_1_2 := comes_1 fun _ _ _ _ _ _ h hF => ⟨h.2.1, hF⟩
end Jvm.Pilot.@@N@@
namespace Jvm.Pilot.@@N@@
open Jvm Jvm.ClassFile Sem Op Lib Jvm.Free Jvm.Stand Jvm.Pilot.@@N@@.Jvm.D
/-! MADE BY PROGRAM (witnessworld.py) out of the Statement's table words and the real class files: 26 classes; the members and pool entries that the words name. The judged class is class 1, her method 1. -/
namespace start1
open Jvm.ClassFile
def u (s : String) : CpInfo := .utf8 (stringToUtf16 s)
/-- a pool by its gaps: so many unusable entries, then the entry; so many at the end -/
def gap : Nat → List CpInfo → List CpInfo
  | 0, r => r
  | n + 1, r => .unusable :: gap n r
def poolList (es : List (Nat × CpInfo)) (last : Nat) : List CpInfo := es.foldr (fun e r => gap e.1 (e.2 :: r)) (gap last [])
def pool (es : List (Nat × CpInfo)) (last : Nat) : Array CpInfo := ⟨poolList es last⟩
def fileOf (pool : Array CpInfo) (this : Nat) (attrs : Array Attribute := #[]) (ms : Array MethodInfo := #[]) (fl : Nat := 33) (sup : Nat := 0) (ifs : Array Nat := #[]) (fds : Array FieldInfo := #[]) : ClassFile where
  minorVersion := 0
  majorVersion := 65
  constantPool := pool
  accessFlags := fl
  thisClass := this
  superClass := sup
  interfaces := ifs
  fields := fds
  methods := ms
  attributes := attrs
def plain (name : String) (sup : Option ClassId) : Class where
  name := name
  kind := .ordinary
  loader := none
  accessFlags := 33
  super := sup
  interfaces := #[]
  cf := none
  fields := #[]
  methods := #[]
  instanceTypes := #[]
  staticTypes := #[]
  resolved := #[]
  callSites := []
  init := .initialized
  statics := none
  mirror := none

def pool0 : Array CpInfo := pool [(5, u "<init>"), (0, u "()V"), (1, .class_ 10), (1, u "java/lang/Object")] 113

def k0c0 : Code := { maxStack := 0, maxLocals := 1, code := object_method_1_code, exceptionTable := #[], attributes := #[] }
def k0m0 : Method := { name := "<init>", desc := "()V", sig := { parameters := [], returnType := none }, accessFlags := 1, code := some k0c0 }
/-- java/lang/Object -/
def k0 : Class := { plain "java/lang/Object" none with
  accessFlags := 33
  interfaces := #[]
  cf := some (fileOf pool0 8 #[] #[{ accessFlags := 1, nameIndex := 5, descriptorIndex := 6, attributes := #[] }] 33 0 #[] #[])
  fields := #[]
  methods := #[k0m0]
  instanceTypes := #[]
  staticTypes := #[]
  resolved := Array.replicate 124 none
  statics := none }

def pool1 : Array CpInfo := pool [(2, .class_ 4), (1, u "java/lang/Object"), (0, u "<init>"), (0, u "()V"), (0, .methodref 8 9), (0, .class_ 10), (0, .nameAndType 11 12), (0, u "com/example/tight_calculus/tightcalculus/ReportWordsPinLaw"), (0, u "chars"), (0, u "(II)[C"), (0, .class_ 14), (0, u "java/lang/String"), (0, .methodref 13 16), (0, .nameAndType 5 17), (0, u "([C)V"), (0, .methodref 19 20), (0, .class_ 21), (0, .nameAndType 22 23), (0, u "com/example/tight_calculus/tightcalculus/Report"), (0, u "words"), (0, u "(Ljava/lang/String;Ljava/lang/String;)Ljava/lang/String;"), (0, .methodref 13 25), (0, .nameAndType 26 27), (0, u "length"), (0, u "()I"), (0, .methodref 8 29), (0, .nameAndType 30 31), (0, u "check"), (0, u "(Ljava/lang/String;II[CI[CI)Z"), (0, .methodref 13 33), (0, .nameAndType 34 35), (0, u "charAt"), (0, u "(I)C"), (0, .methodref 8 37), (0, .nameAndType 38 39), (0, u "expectedAt"), (0, u "(I[CI[CI)C"), (2, u "law"), (0, u "(II)Z")] 5

def k1m0 : Method := { name := "<init>", desc := "()V", sig := { parameters := [], returnType := none }, accessFlags := 2, code := none }
def k1c1 : Code := { maxStack := 7, maxLocals := 8, code := code, exceptionTable := #[], attributes := #[] }
def k1m1 : Method := { name := "law", desc := "(II)Z", sig := { parameters := [.int, .int], returnType := some .boolean }, accessFlags := 9, code := some k1c1 }
def k1c2 : Code := { maxStack := 4, maxLocals := 5, code := method_3_code, exceptionTable := #[], attributes := #[] }
def k1m2 : Method := { name := "chars", desc := "(II)[C", sig := { parameters := [.int, .int], returnType := some (.array .char) }, accessFlags := 10, code := some k1c2 }
def k1c3 : Code := { maxStack := 6, maxLocals := 7, code := method_4_code, exceptionTable := #[], attributes := #[] }
def k1m3 : Method := { name := "check", desc := "(Ljava/lang/String;II[CI[CI)Z", sig := { parameters := [(.object "java/lang/String"), .int, .int, (.array .char), .int, (.array .char), .int], returnType := some .boolean }, accessFlags := 10, code := some k1c3 }
def k1c4 : Code := { maxStack := 3, maxLocals := 6, code := method_5_code, exceptionTable := #[], attributes := #[] }
def k1m4 : Method := { name := "expectedAt", desc := "(I[CI[CI)C", sig := { parameters := [.int, (.array .char), .int, (.array .char), .int], returnType := some .char }, accessFlags := 10, code := some k1c4 }
/-- com/example/tight_calculus/tightcalculus/ReportWordsPinLaw -/
def k1 : Class := { plain "com/example/tight_calculus/tightcalculus/ReportWordsPinLaw" (some 0) with
  accessFlags := 49
  interfaces := #[]
  cf := some (fileOf pool1 8 #[] #[{ accessFlags := 2, nameIndex := 5, descriptorIndex := 6, attributes := #[] }, { accessFlags := 9, nameIndex := 42, descriptorIndex := 43, attributes := #[] }, { accessFlags := 10, nameIndex := 11, descriptorIndex := 12, attributes := #[] }, { accessFlags := 10, nameIndex := 30, descriptorIndex := 31, attributes := #[] }, { accessFlags := 10, nameIndex := 38, descriptorIndex := 39, attributes := #[] }] 49 2 #[] #[])
  fields := #[]
  methods := #[k1m0, k1m1, k1m2, k1m3, k1m4]
  instanceTypes := #[]
  staticTypes := #[]
  resolved := Array.replicate 49 none
  statics := none }

def pool2 : Array CpInfo := pool [(1, .class_ 2), (0, u "java/io/Serializable"), (0, .class_ 4), (0, u "java/lang/Object")] 2

/-- java/io/Serializable -/
def k2 : Class := { plain "java/io/Serializable" (some 0) with
  accessFlags := 1537
  interfaces := #[]
  cf := some (fileOf pool2 1 #[] #[] 1537 3 #[] #[])
  fields := #[]
  methods := #[]
  instanceTypes := #[]
  staticTypes := #[]
  resolved := Array.replicate 7 none
  statics := none }

def pool3 : Array CpInfo := pool [(1, .class_ 2), (0, u "java/lang/Comparable"), (0, .class_ 4), (0, u "java/lang/Object")] 7

/-- java/lang/Comparable -/
def k3 : Class := { plain "java/lang/Comparable" (some 0) with
  accessFlags := 1537
  interfaces := #[]
  cf := some (fileOf pool3 1 #[] #[] 1537 3 #[] #[])
  fields := #[]
  methods := #[]
  instanceTypes := #[]
  staticTypes := #[]
  resolved := Array.replicate 12 none
  statics := none }

def pool4 : Array CpInfo := pool [(2, .class_ 4), (1, u "java/lang/CharSequence"), (42, .class_ 48), (0, u "java/lang/CharSequence$1CodePointIterator"), (10, .class_ 60), (0, u "java/lang/CharSequence$1CharIterator"), (5, .class_ 67), (0, u "java/lang/Object")] 63

/-- java/lang/CharSequence -/
def k4 : Class := { plain "java/lang/CharSequence" (some 0) with
  accessFlags := 1537
  interfaces := #[]
  cf := some (fileOf pool4 2 #[.nestMembers #[47, 59]] #[] 1537 66 #[] #[])
  fields := #[]
  methods := #[]
  instanceTypes := #[]
  staticTypes := #[]
  resolved := Array.replicate 131 none
  statics := none }

def pool5 : Array CpInfo := pool [(1, .class_ 2), (0, u "java/lang/constant/Constable"), (0, .class_ 4), (0, u "java/lang/Object")] 6

/-- java/lang/constant/Constable -/
def k5 : Class := { plain "java/lang/constant/Constable" (some 0) with
  accessFlags := 1537
  interfaces := #[]
  cf := some (fileOf pool5 1 #[] #[] 1537 3 #[] #[])
  fields := #[]
  methods := #[]
  instanceTypes := #[]
  staticTypes := #[]
  resolved := Array.replicate 11 none
  statics := none }

def pool6 : Array CpInfo := pool [(1, .class_ 2), (0, u "java/lang/constant/ConstantDesc"), (0, .class_ 4), (0, u "java/lang/Object")] 32

/-- java/lang/constant/ConstantDesc -/
def k6 : Class := { plain "java/lang/constant/ConstantDesc" (some 0) with
  accessFlags := 1537
  interfaces := #[]
  cf := some (fileOf pool6 1 #[] #[] 1537 3 #[] #[])
  fields := #[]
  methods := #[]
  instanceTypes := #[]
  staticTypes := #[]
  resolved := Array.replicate 37 none
  statics := none }

def pool7 : Array CpInfo := pool [(1, .methodref 2 3), (0, .class_ 4), (0, .nameAndType 5 6), (0, u "java/lang/Object"), (0, u "<init>"), (0, u "()V"), (0, .string 8), (0, u ""), (0, .fieldref 10 11), (0, .class_ 12), (0, .nameAndType 13 14), (0, u "java/lang/String"), (0, u "value"), (0, u "[B"), (0, .fieldref 10 16), (0, .nameAndType 17 18), (0, u "coder"), (0, u "B"), (2, u "hash"), (0, u "I"), (2, u "hashIsZero"), (0, u "Z"), (0, .methodref 10 28), (0, .nameAndType 5 29), (0, u "([CIILjava/lang/Void;)V"), (8, .fieldref 10 39), (0, .nameAndType 40 26), (0, u "COMPACT_STRINGS"), (1, .class_ 44), (1, u "java/lang/StringUTF16"), (0, u "compress"), (1, .methodref 42 48), (0, .nameAndType 49 50), (0, u "coderFromArrayLen"), (0, u "([BI)B"), (3, .methodref 55 56), (0, .class_ 57), (0, .nameAndType 58 59), (0, u "java/util/Arrays"), (0, u "copyOfRange"), (0, u "([BII)[B"), (47, .class_ 109), (1, u "java/lang/StringLatin1"), (32, u "()Z"), (34, .methodref 42 178), (0, .nameAndType 45 179), (0, u "([CII)[B"), (13, .class_ 195), (1, u "java/lang/System"), (16, .methodref 193 213), (0, .nameAndType 214 215), (0, u "arraycopy"), (0, u "(Ljava/lang/Object;ILjava/lang/Object;II)V"), (118, u "()I"), (0, .methodref 10 336), (0, .nameAndType 17 337), (0, u "()B"), (2, u "()[B"), (22, u "([BI)C"), (27, u "(II)V"), (35, u "(I)C"), (61, .methodref 10 490), (0, .nameAndType 5 491), (0, u "(Ljava/lang/AbstractStringBuilder;Ljava/lang/Void;)V"), (0, .methodref 10 493), (0, .nameAndType 494 142), (0, u "isLatin1"), (0, .methodref 107 496), (0, .nameAndType 497 363), (0, u "charAt"), (3, u "checkIndex"), (4, .nameAndType 507 334), (0, u "length"), (24, u "getBytes"), (16, .methodref 550 506), (0, .class_ 551), (0, u "java/lang/AbstractStringBuilder"), (0, .methodref 550 553), (0, .nameAndType 554 340), (0, u "getValue"), (20, .class_ 576), (0, u "java/lang/CharSequence"), (22, u "CASE_INSENSITIVE_ORDER"), (0, u "Ljava/util/Comparator;"), (91, u "isEmpty"), (128, u "([BIB)V"), (188, u "([C)V"), (36, .methodref 550 493), (5, .fieldref 1054 1055), (0, .class_ 1056), (0, .nameAndType 1057 1058), (0, u "jdk/internal/util/Preconditions"), (0, u "SIOOBE_FORMATTER"), (0, u "Ljava/util/function/BiFunction;"), (0, .methodref 1054 1060), (0, .nameAndType 501 1061), (0, u "(IILjava/util/function/BiFunction;)I"), (39, u "serialPersistentFields"), (0, u "[Ljava/io/ObjectStreamField;"), (0, .class_ 1104), (0, u "java/lang/String$CaseInsensitiveComparator"), (1, .class_ 1107), (0, u "java/io/Serializable"), (0, .class_ 1109), (0, u "java/lang/Comparable"), (0, .class_ 1111), (0, u "java/lang/constant/Constable"), (0, .class_ 1113), (0, u "java/lang/constant/ConstantDesc"), (2, u "serialVersionUID"), (0, u "J"), (3, u "REPL"), (0, u "C"), (2, u "LATIN1"), (1, u "UTF16"), (105, u "(Ljava/lang/StringBuilder;)V")] 217

def k7m0 : Method := { name := "<init>", desc := "()V", sig := { parameters := [], returnType := none }, accessFlags := 1, code := none }
def k7c1 : Code := { maxStack := 5, maxLocals := 2, code := jdk_42_method_3_code, exceptionTable := #[], attributes := #[] }
def k7m1 : Method := { name := "<init>", desc := "([C)V", sig := { parameters := [(.array .char)], returnType := none }, accessFlags := 1, code := some k7c1 }
def k7c2 : Code := { maxStack := 3, maxLocals := 2, code := jdk_42_method_53_code, exceptionTable := #[], attributes := #[] }
def k7m2 : Method := { name := "<init>", desc := "(Ljava/lang/StringBuilder;)V", sig := { parameters := [(.object "java/lang/StringBuilder")], returnType := none }, accessFlags := 1, code := some k7c2 }
def k7c3 : Code := { maxStack := 2, maxLocals := 1, code := jdk_42_method_54_code, exceptionTable := #[], attributes := #[] }
def k7m3 : Method := { name := "length", desc := "()I", sig := { parameters := [], returnType := some .int }, accessFlags := 1, code := some k7c3 }
def k7c4 : Code := { maxStack := 1, maxLocals := 1, code := jdk_42_method_55_code, exceptionTable := #[], attributes := #[] }
def k7m4 : Method := { name := "isEmpty", desc := "()Z", sig := { parameters := [], returnType := some .boolean }, accessFlags := 1, code := some k7c4 }
def k7c5 : Code := { maxStack := 2, maxLocals := 2, code := jdk_42_method_56_code, exceptionTable := #[], attributes := #[] }
def k7m5 : Method := { name := "charAt", desc := "(I)C", sig := { parameters := [.int], returnType := some .char }, accessFlags := 1, code := some k7c5 }
def k7c6 : Code := { maxStack := 5, maxLocals := 4, code := jdk_42_method_147_code, exceptionTable := #[], attributes := #[] }
def k7m6 : Method := { name := "getBytes", desc := "([BIB)V", sig := { parameters := [(.array .byte), .int, .byte], returnType := none }, accessFlags := 0, code := some k7c6 }
def k7c7 : Code := { maxStack := 4, maxLocals := 6, code := jdk_42_method_149_code, exceptionTable := #[], attributes := #[] }
def k7m7 : Method := { name := "<init>", desc := "([CIILjava/lang/Void;)V", sig := { parameters := [(.array .char), .int, .int, (.object "java/lang/Void")], returnType := none }, accessFlags := 2, code := some k7c7 }
def k7c8 : Code := { maxStack := 5, maxLocals := 5, code := jdk_42_method_150_code, exceptionTable := #[], attributes := #[] }
def k7m8 : Method := { name := "<init>", desc := "(Ljava/lang/AbstractStringBuilder;Ljava/lang/Void;)V", sig := { parameters := [(.object "java/lang/AbstractStringBuilder"), (.object "java/lang/Void")], returnType := none }, accessFlags := 0, code := some k7c8 }
def k7c9 : Code := { maxStack := 1, maxLocals := 1, code := jdk_42_method_152_code, exceptionTable := #[], attributes := #[] }
def k7m9 : Method := { name := "coder", desc := "()B", sig := { parameters := [], returnType := some .byte }, accessFlags := 0, code := some k7c9 }
def k7c10 : Code := { maxStack := 1, maxLocals := 1, code := jdk_42_method_154_code, exceptionTable := #[], attributes := #[] }
def k7m10 : Method := { name := "isLatin1", desc := "()Z", sig := { parameters := [], returnType := some .boolean }, accessFlags := 0, code := some k7c10 }
def k7c11 : Code := { maxStack := 3, maxLocals := 2, code := jdk_42_method_155_code, exceptionTable := #[], attributes := #[] }
def k7m11 : Method := { name := "checkIndex", desc := "(II)V", sig := { parameters := [.int, .int], returnType := none }, accessFlags := 8, code := some k7c11 }
/-- java/lang/String -/
def k7 : Class := { plain "java/lang/String" (some 0) with
  accessFlags := 49
  interfaces := #[2, 3, 4, 5, 6]
  cf := some (fileOf pool7 10 #[.nestMembers #[1103]] #[{ accessFlags := 1, nameIndex := 5, descriptorIndex := 6, attributes := #[] }, { accessFlags := 1, nameIndex := 5, descriptorIndex := 1010, attributes := #[] }, { accessFlags := 1, nameIndex := 5, descriptorIndex := 1233, attributes := #[] }, { accessFlags := 1, nameIndex := 507, descriptorIndex := 334, attributes := #[] }, { accessFlags := 1, nameIndex := 692, descriptorIndex := 142, attributes := #[] }, { accessFlags := 1, nameIndex := 497, descriptorIndex := 427, attributes := #[] }, { accessFlags := 0, nameIndex := 532, descriptorIndex := 821, attributes := #[] }, { accessFlags := 2, nameIndex := 5, descriptorIndex := 29, attributes := #[] }, { accessFlags := 0, nameIndex := 5, descriptorIndex := 491, attributes := #[] }, { accessFlags := 0, nameIndex := 17, descriptorIndex := 337, attributes := #[] }, { accessFlags := 0, nameIndex := 494, descriptorIndex := 142, attributes := #[] }, { accessFlags := 8, nameIndex := 501, descriptorIndex := 391, attributes := #[] }] 49 2 #[1106, 1108, 575, 1110, 1112] #[{ accessFlags := 18, nameIndex := 13, descriptorIndex := 14, attributes := #[] }, { accessFlags := 18, nameIndex := 17, descriptorIndex := 18, attributes := #[] }, { accessFlags := 2, nameIndex := 21, descriptorIndex := 22, attributes := #[] }, { accessFlags := 2, nameIndex := 25, descriptorIndex := 26, attributes := #[] }, { accessFlags := 26, nameIndex := 1116, descriptorIndex := 1117, attributes := #[] }, { accessFlags := 24, nameIndex := 40, descriptorIndex := 26, attributes := #[] }, { accessFlags := 26, nameIndex := 1101, descriptorIndex := 1102, attributes := #[] }, { accessFlags := 26, nameIndex := 1121, descriptorIndex := 1122, attributes := #[] }, { accessFlags := 25, nameIndex := 599, descriptorIndex := 600, attributes := #[] }, { accessFlags := 24, nameIndex := 1125, descriptorIndex := 18, attributes := #[] }, { accessFlags := 24, nameIndex := 1127, descriptorIndex := 18, attributes := #[] }])
  fields := #[{ name := "value", type := (.array .byte), accessFlags := 18, slot := 0, constantValue := 0 }, { name := "coder", type := .byte, accessFlags := 18, slot := 1, constantValue := 0 }, { name := "hash", type := .int, accessFlags := 2, slot := 2, constantValue := 0 }, { name := "hashIsZero", type := .boolean, accessFlags := 2, slot := 3, constantValue := 0 }, { name := "serialVersionUID", type := .long, accessFlags := 26, slot := 0, constantValue := 0 }, { name := "COMPACT_STRINGS", type := .boolean, accessFlags := 24, slot := 1, constantValue := 0 }, { name := "serialPersistentFields", type := (.array (.object "java/io/ObjectStreamField")), accessFlags := 26, slot := 2, constantValue := 0 }, { name := "REPL", type := .char, accessFlags := 26, slot := 3, constantValue := 0 }, { name := "CASE_INSENSITIVE_ORDER", type := (.object "java/util/Comparator"), accessFlags := 25, slot := 4, constantValue := 0 }, { name := "LATIN1", type := .byte, accessFlags := 24, slot := 5, constantValue := 0 }, { name := "UTF16", type := .byte, accessFlags := 24, slot := 6, constantValue := 0 }]
  methods := #[k7m0, k7m1, k7m2, k7m3, k7m4, k7m5, k7m6, k7m7, k7m8, k7m9, k7m10, k7m11]
  instanceTypes := #[(.array .byte), .byte, .int, .boolean]
  staticTypes := #[.long, .boolean, (.array (.object "java/io/ObjectStreamField")), .char, (.object "java/util/Comparator"), .byte, .byte]
  resolved := Array.replicate 1451 none
  statics := some 0 }

def pool8 : Array CpInfo := pool [(2, .class_ 4), (0, .nameAndType 5 6), (0, u "java/lang/Object"), (0, u "<init>"), (0, u "()V"), (6, .class_ 14), (0, u "java/lang/StringBuilder"), (0, .methodref 13 3), (15, u "()Z"), (9, u "()Ljava/lang/String;"), (18, .class_ 61), (0, u "java/lang/String"), (1, .class_ 65), (1, u "com/example/tight_calculus/tightcalculus/Report"), (0, u "words"), (0, u "(Ljava/lang/String;Ljava/lang/String;)Ljava/lang/String;"), (0, .methodref 13 69), (0, .nameAndType 70 71), (0, u "append"), (0, u "(Ljava/lang/String;)Ljava/lang/StringBuilder;"), (51, .methodref 13 124), (0, .nameAndType 125 41), (0, u "toString"), (32, .methodref 60 159), (0, .nameAndType 160 31), (0, u "isEmpty"), (0, .string 162), (0, u " "), (0, u "FLUSH_AT"), (0, u "I")] 15

def k8m0 : Method := { name := "<init>", desc := "()V", sig := { parameters := [], returnType := none }, accessFlags := 2, code := none }
def k8c1 : Code := { maxStack := 2, maxLocals := 3, code := prog_30_method_3_code, exceptionTable := #[], attributes := #[] }
def k8m1 : Method := { name := "words", desc := "(Ljava/lang/String;Ljava/lang/String;)Ljava/lang/String;", sig := { parameters := [(.object "java/lang/String"), (.object "java/lang/String")], returnType := some (.object "java/lang/String") }, accessFlags := 8, code := some k8c1 }
/-- com/example/tight_calculus/tightcalculus/Report -/
def k8 : Class := { plain "com/example/tight_calculus/tightcalculus/Report" (some 0) with
  accessFlags := 48
  interfaces := #[]
  cf := some (fileOf pool8 63 #[] #[{ accessFlags := 2, nameIndex := 5, descriptorIndex := 6, attributes := #[] }, { accessFlags := 8, nameIndex := 66, descriptorIndex := 67, attributes := #[] }] 48 2 #[] #[{ accessFlags := 26, nameIndex := 163, descriptorIndex := 164, attributes := #[] }])
  fields := #[{ name := "FLUSH_AT", type := .int, accessFlags := 26, slot := 0, constantValue := 0 }]
  methods := #[k8m0, k8m1]
  instanceTypes := #[]
  staticTypes := #[.int]
  resolved := Array.replicate 180 none
  statics := none }

def pool9 : Array CpInfo := pool [(6, .class_ 8), (1, u "java/lang/Object"), (0, u "<init>"), (0, u "()V"), (1, .class_ 14), (1, u "java/lang/StringUTF16"), (31, u "$assertionsDisabled"), (0, u "Z"), (13, u "HI_BYTE_SHIFT"), (0, u "I"), (2, u "LO_BYTE_SHIFT"), (49, .methodref 12 116), (0, .nameAndType 117 118), (0, u "compress"), (0, u "([CI[BII)I"), (3, u "([CII)[B"), (138, u "coderFromArrayLen"), (0, u "([BI)B"), (106, .class_ 371), (1, u "java/lang/StringUTF16$LinesSpliterator"), (58, u "MAX_LENGTH"), (196, .class_ 628), (0, u "java/lang/StringUTF16$CodePointsSpliterator"), (0, .class_ 630), (0, u "java/lang/StringUTF16$CharsSpliterator")] 4

def k9m0 : Method := { name := "<init>", desc := "()V", sig := { parameters := [], returnType := none }, accessFlags := 0, code := none }
def k9c1 : Code := { maxStack := 2, maxLocals := 2, code := jdk_52_method_15_code, exceptionTable := #[], attributes := #[] }
def k9m1 : Method := { name := "coderFromArrayLen", desc := "([BI)B", sig := { parameters := [(.array .byte), .int], returnType := some .byte }, accessFlags := 8, code := some k9c1 }
def k9c2 : Code := { maxStack := 5, maxLocals := 6, code := jdk_52_method_16_code, exceptionTable := #[], attributes := #[] }
def k9m2 : Method := { name := "compress", desc := "([CII)[B", sig := { parameters := [(.array .char), .int, .int], returnType := some (.array .byte) }, accessFlags := 9, code := some k9c2 }
def k9c3 : Code := { maxStack := 3, maxLocals := 7, code := jdk_52_method_21_code, exceptionTable := #[], attributes := #[] }
def k9m3 : Method := { name := "compress", desc := "([CI[BII)I", sig := { parameters := [(.array .char), .int, (.array .byte), .int, .int], returnType := some .int }, accessFlags := 9, code := some k9c3 }
/-- java/lang/StringUTF16 -/
def k9 : Class := { plain "java/lang/StringUTF16" (some 0) with
  accessFlags := 48
  interfaces := #[]
  cf := some (fileOf pool9 12 #[.nestMembers #[627, 629, 369]] #[{ accessFlags := 0, nameIndex := 9, descriptorIndex := 10, attributes := #[] }, { accessFlags := 8, nameIndex := 261, descriptorIndex := 262, attributes := #[] }, { accessFlags := 9, nameIndex := 117, descriptorIndex := 122, attributes := #[] }, { accessFlags := 9, nameIndex := 117, descriptorIndex := 118, attributes := #[] }] 48 6 #[] #[{ accessFlags := 26, nameIndex := 61, descriptorIndex := 62, attributes := #[] }, { accessFlags := 26, nameIndex := 65, descriptorIndex := 62, attributes := #[] }, { accessFlags := 24, nameIndex := 430, descriptorIndex := 62, attributes := #[] }, { accessFlags := 4120, nameIndex := 46, descriptorIndex := 47, attributes := #[] }])
  fields := #[{ name := "HI_BYTE_SHIFT", type := .int, accessFlags := 26, slot := 0, constantValue := 0 }, { name := "LO_BYTE_SHIFT", type := .int, accessFlags := 26, slot := 1, constantValue := 0 }, { name := "MAX_LENGTH", type := .int, accessFlags := 24, slot := 2, constantValue := 0 }, { name := "$assertionsDisabled", type := .boolean, accessFlags := 4120, slot := 3, constantValue := 0 }]
  methods := #[k9m0, k9m1, k9m2, k9m3]
  instanceTypes := #[]
  staticTypes := #[.int, .int, .int, .boolean]
  resolved := Array.replicate 635 none
  statics := none }

def pool10 : Array CpInfo := pool [(1, .class_ 2), (0, u "java/lang/Appendable"), (0, .class_ 4), (0, u "java/lang/Object")] 9

/-- java/lang/Appendable -/
def k10 : Class := { plain "java/lang/Appendable" (some 0) with
  accessFlags := 1537
  interfaces := #[]
  cf := some (fileOf pool10 1 #[] #[] 1537 3 #[] #[])
  fields := #[]
  methods := #[]
  instanceTypes := #[]
  staticTypes := #[]
  resolved := Array.replicate 14 none
  statics := none }

def pool11 : Array CpInfo := pool [(1, .class_ 2), (0, u "java/lang/String"), (0, .methodref 4 5), (0, .class_ 6), (0, .nameAndType 7 8), (0, u "java/lang/Object"), (0, u "<init>"), (0, u "()V"), (1, .class_ 12), (1, u "java/lang/AbstractStringBuilder"), (0, u "EMPTYVALUE"), (0, u "[B"), (0, .fieldref 10 16), (0, .nameAndType 17 14), (0, u "value"), (0, .fieldref 1 19), (0, .nameAndType 20 21), (0, u "COMPACT_STRINGS"), (0, u "Z"), (0, .fieldref 10 23), (0, .nameAndType 24 25), (0, u "coder"), (0, u "B"), (6, .methodref 1 33), (0, .nameAndType 34 35), (0, u "length"), (0, u "()I"), (4, .methodref 1 41), (0, .nameAndType 24 42), (0, u "()B"), (2, u "append"), (0, u "(Ljava/lang/String;)Ljava/lang/AbstractStringBuilder;"), (1, .class_ 49), (0, u "java/lang/CharSequence"), (19, u "(Ljava/lang/String;)V"), (5, u "maybeLatin1"), (3, .fieldref 10 80), (0, .nameAndType 81 82), (0, u "count"), (0, u "I"), (2, u "isLatin1"), (0, u "()Z"), (13, .methodref 10 101), (0, .nameAndType 102 103), (0, u "ensureCapacityInternal"), (0, u "(I)V"), (104, .methodref 10 209), (0, .nameAndType 210 211), (0, u "putStringAt"), (0, u "(ILjava/lang/String;)V"), (5, u "inflateIfNeededFor"), (2, .nameAndType 221 222), (0, u "getBytes"), (0, u "([BIB)V"), (174, .methodref 10 398), (0, .nameAndType 217 69), (0, .methodref 1 220), (3, u "()[B"), (40, .class_ 445), (0, u "java/lang/Appendable"), (106, u "getValue")] 56

def k11m0 : Method := { name := "<init>", desc := "()V", sig := { parameters := [], returnType := none }, accessFlags := 0, code := none }
def k11c1 : Code := { maxStack := 2, maxLocals := 2, code := jdk_68_method_2_code, exceptionTable := #[], attributes := #[] }
def k11m1 : Method := { name := "<init>", desc := "(I)V", sig := { parameters := [.int], returnType := none }, accessFlags := 0, code := some k11c1 }
def k11c2 : Code := { maxStack := 1, maxLocals := 1, code := jdk_68_method_6_code, exceptionTable := #[], attributes := #[] }
def k11m2 : Method := { name := "length", desc := "()I", sig := { parameters := [], returnType := some .int }, accessFlags := 1, code := some k11c2 }
def k11c3 : Code := { maxStack := 4, maxLocals := 3, code := jdk_68_method_9_code, exceptionTable := #[], attributes := #[] }
def k11m3 : Method := { name := "ensureCapacityInternal", desc := "(I)V", sig := { parameters := [.int], returnType := none }, accessFlags := 2, code := some k11c3 }
def k11c4 : Code := { maxStack := 3, maxLocals := 3, code := jdk_68_method_22_code, exceptionTable := #[], attributes := #[] }
def k11m4 : Method := { name := "append", desc := "(Ljava/lang/String;)Ljava/lang/AbstractStringBuilder;", sig := { parameters := [(.object "java/lang/String")], returnType := some (.object "java/lang/AbstractStringBuilder") }, accessFlags := 1, code := some k11c4 }
def k11c5 : Code := { maxStack := 1, maxLocals := 1, code := jdk_68_method_64_code, exceptionTable := #[], attributes := #[] }
def k11m5 : Method := { name := "getValue", desc := "()[B", sig := { parameters := [], returnType := some (.array .byte) }, accessFlags := 16, code := some k11c5 }
def k11c6 : Code := { maxStack := 1, maxLocals := 1, code := jdk_68_method_68_code, exceptionTable := #[], attributes := #[] }
def k11m6 : Method := { name := "isLatin1", desc := "()Z", sig := { parameters := [], returnType := some .boolean }, accessFlags := 16, code := some k11c6 }
def k11c7 : Code := { maxStack := 2, maxLocals := 2, code := jdk_68_method_71_code, exceptionTable := #[], attributes := #[] }
def k11m7 : Method := { name := "inflateIfNeededFor", desc := "(Ljava/lang/String;)V", sig := { parameters := [(.object "java/lang/String")], returnType := none }, accessFlags := 2, code := some k11c7 }
def k11c8 : Code := { maxStack := 4, maxLocals := 3, code := jdk_68_method_73_code, exceptionTable := #[], attributes := #[] }
def k11m8 : Method := { name := "putStringAt", desc := "(ILjava/lang/String;)V", sig := { parameters := [.int, (.object "java/lang/String")], returnType := none }, accessFlags := 2, code := some k11c8 }
/-- java/lang/AbstractStringBuilder -/
def k11 : Class := { plain "java/lang/AbstractStringBuilder" (some 0) with
  accessFlags := 1056
  interfaces := #[10, 4]
  cf := some (fileOf pool11 10 #[] #[{ accessFlags := 0, nameIndex := 7, descriptorIndex := 8, attributes := #[] }, { accessFlags := 0, nameIndex := 7, descriptorIndex := 103, attributes := #[] }, { accessFlags := 1, nameIndex := 34, descriptorIndex := 35, attributes := #[] }, { accessFlags := 2, nameIndex := 102, descriptorIndex := 103, attributes := #[] }, { accessFlags := 1, nameIndex := 45, descriptorIndex := 46, attributes := #[] }, { accessFlags := 16, nameIndex := 552, descriptorIndex := 403, attributes := #[] }, { accessFlags := 16, nameIndex := 85, descriptorIndex := 86, attributes := #[] }, { accessFlags := 2, nameIndex := 217, descriptorIndex := 69, attributes := #[] }, { accessFlags := 2, nameIndex := 210, descriptorIndex := 211, attributes := #[] }] 1056 4 #[444, 48] #[{ accessFlags := 0, nameIndex := 17, descriptorIndex := 14, attributes := #[] }, { accessFlags := 0, nameIndex := 24, descriptorIndex := 25, attributes := #[] }, { accessFlags := 0, nameIndex := 75, descriptorIndex := 21, attributes := #[] }, { accessFlags := 0, nameIndex := 81, descriptorIndex := 82, attributes := #[] }, { accessFlags := 26, nameIndex := 13, descriptorIndex := 14, attributes := #[] }])
  fields := #[{ name := "value", type := (.array .byte), accessFlags := 0, slot := 0, constantValue := 0 }, { name := "coder", type := .byte, accessFlags := 0, slot := 1, constantValue := 0 }, { name := "maybeLatin1", type := .boolean, accessFlags := 0, slot := 2, constantValue := 0 }, { name := "count", type := .int, accessFlags := 0, slot := 3, constantValue := 0 }, { name := "EMPTYVALUE", type := (.array .byte), accessFlags := 26, slot := 0, constantValue := 0 }]
  methods := #[k11m0, k11m1, k11m2, k11m3, k11m4, k11m5, k11m6, k11m7, k11m8]
  instanceTypes := #[(.array .byte), .byte, .boolean, .int]
  staticTypes := #[(.array .byte)]
  resolved := Array.replicate 609 none
  statics := none }

def pool12 : Array CpInfo := pool [(1, .methodref 2 3), (0, .class_ 4), (0, .nameAndType 5 6), (0, u "java/lang/AbstractStringBuilder"), (0, u "<init>"), (0, u "(I)V"), (11, .class_ 20), (1, u "java/lang/String"), (3, .class_ 26), (1, u "java/lang/StringBuilder"), (0, u "append"), (0, u "(Ljava/lang/String;)Ljava/lang/StringBuilder;"), (0, .methodref 2 30), (0, .nameAndType 27 31), (0, u "(Ljava/lang/String;)Ljava/lang/AbstractStringBuilder;"), (105, .methodref 18 138), (0, .nameAndType 5 139), (0, u "(Ljava/lang/StringBuilder;)V"), (5, u "()V"), (10, u "()I"), (186, .methodref 2 344), (0, .nameAndType 345 156), (0, u "length"), (3, .class_ 350), (0, u "java/lang/Appendable"), (0, .class_ 352), (0, u "java/io/Serializable"), (0, .class_ 354), (0, u "java/lang/Comparable"), (0, .class_ 356), (0, u "java/lang/CharSequence"), (0, u "serialVersionUID"), (0, u "J"), (40, u "toString"), (0, u "()Ljava/lang/String;")] 21

def k12c0 : Code := { maxStack := 2, maxLocals := 1, code := jdk_67_method_1_code, exceptionTable := #[], attributes := #[] }
def k12m0 : Method := { name := "<init>", desc := "()V", sig := { parameters := [], returnType := none }, accessFlags := 1, code := some k12c0 }
def k12c1 : Code := { maxStack := 2, maxLocals := 2, code := jdk_67_method_7_code, exceptionTable := #[], attributes := #[] }
def k12m1 : Method := { name := "append", desc := "(Ljava/lang/String;)Ljava/lang/StringBuilder;", sig := { parameters := [(.object "java/lang/String")], returnType := some (.object "java/lang/StringBuilder") }, accessFlags := 1, code := some k12c1 }
def k12c2 : Code := { maxStack := 3, maxLocals := 1, code := jdk_67_method_42_code, exceptionTable := #[], attributes := #[] }
def k12m2 : Method := { name := "toString", desc := "()Ljava/lang/String;", sig := { parameters := [], returnType := some (.object "java/lang/String") }, accessFlags := 1, code := some k12c2 }
def k12c3 : Code := { maxStack := 1, maxLocals := 1, code := jdk_67_method_93_code, exceptionTable := #[], attributes := #[] }
def k12m3 : Method := { name := "length", desc := "()I", sig := { parameters := [], returnType := some .int }, accessFlags := 4161, code := some k12c3 }
/-- java/lang/StringBuilder -/
def k12 : Class := { plain "java/lang/StringBuilder" (some 11) with
  accessFlags := 49
  interfaces := #[10, 2, 3, 4]
  cf := some (fileOf pool12 24 #[] #[{ accessFlags := 1, nameIndex := 5, descriptorIndex := 145, attributes := #[] }, { accessFlags := 1, nameIndex := 27, descriptorIndex := 28, attributes := #[] }, { accessFlags := 1, nameIndex := 399, descriptorIndex := 400, attributes := #[] }, { accessFlags := 4161, nameIndex := 345, descriptorIndex := 156, attributes := #[] }] 49 2 #[349, 351, 353, 355] #[{ accessFlags := 24, nameIndex := 357, descriptorIndex := 358, attributes := #[] }])
  fields := #[{ name := "serialVersionUID", type := .long, accessFlags := 24, slot := 0, constantValue := 0 }]
  methods := #[k12m0, k12m1, k12m2, k12m3]
  instanceTypes := #[(.array .byte), .byte, .boolean, .int]
  staticTypes := #[.long]
  resolved := Array.replicate 422 none
  statics := none }

def pool13 : Array CpInfo := pool [(2, .class_ 4), (1, u "java/lang/Object"), (0, u "<init>"), (0, u "()V"), (1, .class_ 10), (1, u "java/lang/System"), (0, u "allowSecurityManager"), (0, u "I"), (16, u "cons"), (0, u "Ljava/io/Console;"), (77, .class_ 110), (1, u "java/lang/System$CallersHolder"), (43, u "initialErrStream"), (0, u "Ljava/io/PrintStream;"), (19, u "security"), (0, u "Ljava/lang/SecurityManager;"), (31, .class_ 209), (0, u "java/lang/System$1"), (7, u "props"), (0, u "Ljava/util/Properties;"), (2, u "lineSeparator"), (0, u "Ljava/lang/String;"), (96, .class_ 321), (1, u "java/lang/System$LoggerFinder"), (5, .class_ 328), (0, u "java/lang/System$Logger"), (67, u "err"), (2, u "out"), (91, u "notSupportedJnuEncoding"), (15, u "in"), (17, u "initialIn"), (0, u "Ljava/io/InputStream;"), (35, u "bootLayer"), (0, u "Ljava/lang/ModuleLayer;"), (99, .class_ 664), (0, u "java/lang/System$2"), (9, u "NEVER"), (2, u "MAYBE"), (49, u "arraycopy"), (0, u "(Ljava/lang/Object;ILjava/lang/Object;II)V"), (72, .class_ 802), (0, u "java/lang/System$Logger$Level")] 31

def k13m0 : Method := { name := "<init>", desc := "()V", sig := { parameters := [], returnType := none }, accessFlags := 2, code := none }
def k13m1 : Method := { name := "arraycopy", desc := "(Ljava/lang/Object;ILjava/lang/Object;II)V", sig := { parameters := [(.object "java/lang/Object"), .int, (.object "java/lang/Object"), .int, .int], returnType := none }, accessFlags := 265, code := none }
/-- java/lang/System -/
def k13 : Class := { plain "java/lang/System" (some 0) with
  accessFlags := 49
  interfaces := #[]
  cf := some (fileOf pool13 8 #[.nestMembers #[319, 327, 801, 108, 663, 208]] #[{ accessFlags := 2, nameIndex := 5, descriptorIndex := 6, attributes := #[] }, { accessFlags := 265, nameIndex := 727, descriptorIndex := 728, attributes := #[] }] 49 2 #[] #[{ accessFlags := 25, nameIndex := 507, descriptorIndex := 526, attributes := #[] }, { accessFlags := 25, nameIndex := 399, descriptorIndex := 155, attributes := #[] }, { accessFlags := 25, nameIndex := 396, descriptorIndex := 155, attributes := #[] }, { accessFlags := 10, nameIndex := 525, descriptorIndex := 526, attributes := #[] }, { accessFlags := 26, nameIndex := 674, descriptorIndex := 12, attributes := #[] }, { accessFlags := 26, nameIndex := 677, descriptorIndex := 12, attributes := #[] }, { accessFlags := 10, nameIndex := 11, descriptorIndex := 12, attributes := #[] }, { accessFlags := 74, nameIndex := 175, descriptorIndex := 176, attributes := #[] }, { accessFlags := 10, nameIndex := 491, descriptorIndex := 222, attributes := #[] }, { accessFlags := 74, nameIndex := 29, descriptorIndex := 30, attributes := #[] }, { accessFlags := 74, nameIndex := 154, descriptorIndex := 155, attributes := #[] }, { accessFlags := 10, nameIndex := 217, descriptorIndex := 218, attributes := #[] }, { accessFlags := 10, nameIndex := 221, descriptorIndex := 222, attributes := #[] }, { accessFlags := 8, nameIndex := 562, descriptorIndex := 563, attributes := #[] }])
  fields := #[{ name := "in", type := (.object "java/io/InputStream"), accessFlags := 25, slot := 0, constantValue := 0 }, { name := "out", type := (.object "java/io/PrintStream"), accessFlags := 25, slot := 1, constantValue := 0 }, { name := "err", type := (.object "java/io/PrintStream"), accessFlags := 25, slot := 2, constantValue := 0 }, { name := "initialIn", type := (.object "java/io/InputStream"), accessFlags := 10, slot := 3, constantValue := 0 }, { name := "NEVER", type := .int, accessFlags := 26, slot := 4, constantValue := 0 }, { name := "MAYBE", type := .int, accessFlags := 26, slot := 5, constantValue := 0 }, { name := "allowSecurityManager", type := .int, accessFlags := 10, slot := 6, constantValue := 0 }, { name := "security", type := (.object "java/lang/SecurityManager"), accessFlags := 74, slot := 7, constantValue := 0 }, { name := "notSupportedJnuEncoding", type := (.object "java/lang/String"), accessFlags := 10, slot := 8, constantValue := 0 }, { name := "cons", type := (.object "java/io/Console"), accessFlags := 74, slot := 9, constantValue := 0 }, { name := "initialErrStream", type := (.object "java/io/PrintStream"), accessFlags := 74, slot := 10, constantValue := 0 }, { name := "props", type := (.object "java/util/Properties"), accessFlags := 10, slot := 11, constantValue := 0 }, { name := "lineSeparator", type := (.object "java/lang/String"), accessFlags := 10, slot := 12, constantValue := 0 }, { name := "bootLayer", type := (.object "java/lang/ModuleLayer"), accessFlags := 8, slot := 13, constantValue := 0 }]
  methods := #[k13m0, k13m1]
  instanceTypes := #[]
  staticTypes := #[(.object "java/io/InputStream"), (.object "java/io/PrintStream"), (.object "java/io/PrintStream"), (.object "java/io/InputStream"), .int, .int, .int, (.object "java/lang/SecurityManager"), (.object "java/lang/String"), (.object "java/io/Console"), (.object "java/io/PrintStream"), (.object "java/util/Properties"), (.object "java/lang/String"), (.object "java/lang/ModuleLayer")]
  resolved := Array.replicate 834 none
  statics := none }

def pool14 : Array CpInfo := pool [(2, .class_ 4), (1, u "java/lang/Object"), (0, u "<init>"), (0, u "()V"), (7, .class_ 16), (1, u "java/util/Arrays"), (57, .class_ 76), (1, u "java/util/Arrays$NaturalOrder"), (36, .class_ 115), (1, u "java/util/Arrays$LegacyMergeSort"), (1, u "Z"), (21, u "copyOfRange"), (10, .methodref 151 152), (0, .class_ 153), (0, .nameAndType 154 155), (0, u "java/lang/System"), (0, u "arraycopy"), (0, u "(Ljava/lang/Object;ILjava/lang/Object;II)V"), (148, .methodref 305 306), (0, .class_ 307), (0, .nameAndType 308 309), (0, u "java/lang/Math"), (0, u "min"), (0, u "(II)I"), (29, .methodref 14 340), (0, .nameAndType 341 342), (0, u "copyOfRangeByte"), (0, u "([BII)[B"), (0, .methodref 14 344), (0, .nameAndType 345 346), (0, u "checkLength"), (0, u "(II)V"), (28, .class_ 376), (0, u "java/util/Arrays$ArrayList"), (68, u "$assertionsDisabled"), (269, u "MIN_ARRAY_SORT_GRAN"), (0, u "I"), (2, u "INSERTIONSORT_THRESHOLD"), (255, .class_ 976), (0, u "java/util/Arrays$ArrayItr")] 52

def k14m0 : Method := { name := "<init>", desc := "()V", sig := { parameters := [], returnType := none }, accessFlags := 2, code := none }
def k14c1 : Code := { maxStack := 4, maxLocals := 2, code := jdk_65_method_131_code, exceptionTable := #[], attributes := #[] }
def k14m1 : Method := { name := "checkLength", desc := "(II)V", sig := { parameters := [.int, .int], returnType := none }, accessFlags := 10, code := some k14c1 }
def k14c2 : Code := { maxStack := 3, maxLocals := 3, code := jdk_65_method_132_code, exceptionTable := #[], attributes := #[] }
def k14m2 : Method := { name := "copyOfRange", desc := "([BII)[B", sig := { parameters := [(.array .byte), .int, .int], returnType := some (.array .byte) }, accessFlags := 9, code := some k14c2 }
def k14c3 : Code := { maxStack := 6, maxLocals := 5, code := jdk_65_method_133_code, exceptionTable := #[], attributes := #[] }
def k14m3 : Method := { name := "copyOfRangeByte", desc := "([BII)[B", sig := { parameters := [(.array .byte), .int, .int], returnType := some (.array .byte) }, accessFlags := 10, code := some k14c3 }
/-- java/util/Arrays -/
def k14 : Class := { plain "java/util/Arrays" (some 0) with
  accessFlags := 49
  interfaces := #[]
  cf := some (fileOf pool14 14 #[.nestMembers #[975, 375, 113, 74]] #[{ accessFlags := 2, nameIndex := 5, descriptorIndex := 6, attributes := #[] }, { accessFlags := 10, nameIndex := 345, descriptorIndex := 346, attributes := #[] }, { accessFlags := 9, nameIndex := 139, descriptorIndex := 342, attributes := #[] }, { accessFlags := 10, nameIndex := 341, descriptorIndex := 342, attributes := #[] }] 49 2 #[] #[{ accessFlags := 26, nameIndex := 715, descriptorIndex := 716, attributes := #[] }, { accessFlags := 26, nameIndex := 719, descriptorIndex := 716, attributes := #[] }, { accessFlags := 4120, nameIndex := 445, descriptorIndex := 117, attributes := #[] }])
  fields := #[{ name := "MIN_ARRAY_SORT_GRAN", type := .int, accessFlags := 26, slot := 0, constantValue := 0 }, { name := "INSERTIONSORT_THRESHOLD", type := .int, accessFlags := 26, slot := 1, constantValue := 0 }, { name := "$assertionsDisabled", type := .boolean, accessFlags := 4120, slot := 2, constantValue := 0 }]
  methods := #[k14m0, k14m1, k14m2, k14m3]
  instanceTypes := #[]
  staticTypes := #[.int, .int, .boolean]
  resolved := Array.replicate 1029 none
  statics := none }

def pool15 : Array CpInfo := pool [(1, .class_ 2), (0, u "java/lang/Math"), (1, .class_ 6), (1, u "java/lang/Object"), (0, u "<init>"), (0, u "()V"), (89, .class_ 100), (1, u "java/lang/Math$RandomNumberGeneratorHolder"), (71, u "negativeZeroFloatBits"), (0, u "J"), (2, u "negativeZeroDoubleBits"), (24, u "min"), (43, u "$assertionsDisabled"), (0, u "Z"), (88, u "(II)I"), (2, u "twoToTheDoubleScaleDown"), (0, u "D"), (4, u "twoToTheDoubleScaleUp"), (9, u "E"), (3, u "PI"), (2, u "TAU"), (2, u "DEGREES_TO_RADIANS"), (0, u "RADIANS_TO_DEGREES")] 94

def k15m0 : Method := { name := "<init>", desc := "()V", sig := { parameters := [], returnType := none }, accessFlags := 2, code := none }
def k15c1 : Code := { maxStack := 2, maxLocals := 2, code := jdk_29_method_69_code, exceptionTable := #[], attributes := #[] }
def k15m1 : Method := { name := "min", desc := "(II)I", sig := { parameters := [.int, .int], returnType := some .int }, accessFlags := 9, code := some k15c1 }
/-- java/lang/Math -/
def k15 : Class := { plain "java/lang/Math" (some 0) with
  accessFlags := 49
  interfaces := #[]
  cf := some (fileOf pool15 1 #[.nestMembers #[98]] #[{ accessFlags := 2, nameIndex := 7, descriptorIndex := 8, attributes := #[] }, { accessFlags := 9, nameIndex := 201, descriptorIndex := 335, attributes := #[] }] 49 4 #[] #[{ accessFlags := 25, nameIndex := 354, descriptorIndex := 339, attributes := #[] }, { accessFlags := 25, nameIndex := 358, descriptorIndex := 339, attributes := #[] }, { accessFlags := 25, nameIndex := 361, descriptorIndex := 339, attributes := #[] }, { accessFlags := 26, nameIndex := 364, descriptorIndex := 339, attributes := #[] }, { accessFlags := 26, nameIndex := 365, descriptorIndex := 339, attributes := #[] }, { accessFlags := 26, nameIndex := 172, descriptorIndex := 173, attributes := #[] }, { accessFlags := 26, nameIndex := 176, descriptorIndex := 173, attributes := #[] }, { accessFlags := 8, nameIndex := 344, descriptorIndex := 339, attributes := #[] }, { accessFlags := 8, nameIndex := 338, descriptorIndex := 339, attributes := #[] }, { accessFlags := 4120, nameIndex := 245, descriptorIndex := 246, attributes := #[] }])
  fields := #[{ name := "E", type := .double, accessFlags := 25, slot := 0, constantValue := 0 }, { name := "PI", type := .double, accessFlags := 25, slot := 1, constantValue := 0 }, { name := "TAU", type := .double, accessFlags := 25, slot := 2, constantValue := 0 }, { name := "DEGREES_TO_RADIANS", type := .double, accessFlags := 26, slot := 3, constantValue := 0 }, { name := "RADIANS_TO_DEGREES", type := .double, accessFlags := 26, slot := 4, constantValue := 0 }, { name := "negativeZeroFloatBits", type := .long, accessFlags := 26, slot := 5, constantValue := 0 }, { name := "negativeZeroDoubleBits", type := .long, accessFlags := 26, slot := 6, constantValue := 0 }, { name := "twoToTheDoubleScaleUp", type := .double, accessFlags := 8, slot := 7, constantValue := 0 }, { name := "twoToTheDoubleScaleDown", type := .double, accessFlags := 8, slot := 8, constantValue := 0 }, { name := "$assertionsDisabled", type := .boolean, accessFlags := 4120, slot := 9, constantValue := 0 }]
  methods := #[k15m0, k15m1]
  instanceTypes := #[]
  staticTypes := #[.double, .double, .double, .double, .double, .long, .long, .double, .double, .boolean]
  resolved := Array.replicate 460 none
  statics := none }

def pool16 : Array CpInfo := pool [(1, .class_ 2), (0, u "java/lang/String"), (1, .class_ 6), (1, u "java/lang/Object"), (0, u "<init>"), (0, u "()V"), (0, .methodref 1 10), (0, .nameAndType 11 12), (0, u "checkIndex"), (0, u "(II)V"), (1, .class_ 16), (1, u "java/lang/StringLatin1"), (36, u "([BI)C"), (67, u "$assertionsDisabled"), (0, u "Z"), (98, .class_ 223), (1, u "java/lang/StringLatin1$LinesSpliterator"), (28, u "charAt"), (137, .class_ 391), (0, u "java/lang/StringLatin1$CharsSpliterator")] 3

def k16m0 : Method := { name := "<init>", desc := "()V", sig := { parameters := [], returnType := none }, accessFlags := 0, code := none }
def k16c1 : Code := { maxStack := 2, maxLocals := 2, code := jdk_43_method_2_code, exceptionTable := #[], attributes := #[] }
def k16m1 : Method := { name := "charAt", desc := "([BI)C", sig := { parameters := [(.array .byte), .int], returnType := some .char }, accessFlags := 9, code := some k16c1 }
/-- java/lang/StringLatin1 -/
def k16 : Class := { plain "java/lang/StringLatin1" (some 0) with
  accessFlags := 48
  interfaces := #[]
  cf := some (fileOf pool16 14 #[.nestMembers #[390, 221]] #[{ accessFlags := 0, nameIndex := 7, descriptorIndex := 8, attributes := #[] }, { accessFlags := 9, nameIndex := 252, descriptorIndex := 53, attributes := #[] }] 48 4 #[] #[{ accessFlags := 4120, nameIndex := 121, descriptorIndex := 122, attributes := #[] }])
  fields := #[{ name := "$assertionsDisabled", type := .boolean, accessFlags := 4120, slot := 0, constantValue := 0 }]
  methods := #[k16m0, k16m1]
  instanceTypes := #[]
  staticTypes := #[.boolean]
  resolved := Array.replicate 395 none
  statics := none }

def pool17 : Array CpInfo := pool [(2, .class_ 4), (1, u "java/lang/Object"), (0, u "<init>"), (0, u "()V"), (17, .class_ 26), (1, u "jdk/internal/util/Preconditions"), (6, u "checkIndex"), (21, .class_ 56), (0, u "jdk/internal/util/Preconditions$4"), (57, .class_ 115), (0, u "jdk/internal/util/Preconditions$1"), (7, u "SIOOBE_FORMATTER"), (0, u "Ljava/util/function/BiFunction;"), (0, .class_ 126), (0, u "jdk/internal/util/Preconditions$2"), (3, u "AIOOBE_FORMATTER"), (0, .class_ 132), (0, u "jdk/internal/util/Preconditions$3"), (3, u "IOOBE_FORMATTER"), (41, u "(IILjava/util/function/BiFunction;)I")] 15

def k17m0 : Method := { name := "<init>", desc := "()V", sig := { parameters := [], returnType := none }, accessFlags := 1, code := none }
def k17c1 : Code := { maxStack := 3, maxLocals := 3, code := jdk_41_method_11_code, exceptionTable := #[], attributes := #[] }
def k17m1 : Method := { name := "checkIndex", desc := "(IILjava/util/function/BiFunction;)I", sig := { parameters := [.int, .int, (.object "java/util/function/BiFunction")], returnType := some .int }, accessFlags := 9, code := some k17c1 }
/-- jdk/internal/util/Preconditions -/
def k17 : Class := { plain "jdk/internal/util/Preconditions" (some 0) with
  accessFlags := 33
  interfaces := #[]
  cf := some (fileOf pool17 24 #[.nestMembers #[55, 131, 125, 114]] #[{ accessFlags := 1, nameIndex := 5, descriptorIndex := 6, attributes := #[] }, { accessFlags := 9, nameIndex := 33, descriptorIndex := 178, attributes := #[] }] 33 2 #[] #[{ accessFlags := 25, nameIndex := 123, descriptorIndex := 124, attributes := #[] }, { accessFlags := 25, nameIndex := 130, descriptorIndex := 124, attributes := #[] }, { accessFlags := 25, nameIndex := 136, descriptorIndex := 124, attributes := #[] }])
  fields := #[{ name := "SIOOBE_FORMATTER", type := (.object "java/util/function/BiFunction"), accessFlags := 25, slot := 0, constantValue := 0 }, { name := "AIOOBE_FORMATTER", type := (.object "java/util/function/BiFunction"), accessFlags := 25, slot := 1, constantValue := 0 }, { name := "IOOBE_FORMATTER", type := (.object "java/util/function/BiFunction"), accessFlags := 25, slot := 2, constantValue := 0 }]
  methods := #[k17m0, k17m1]
  instanceTypes := #[]
  staticTypes := #[(.object "java/util/function/BiFunction"), (.object "java/util/function/BiFunction"), (.object "java/util/function/BiFunction")]
  resolved := Array.replicate 194 none
  statics := some 1 }

def pool18 : Array CpInfo := pool [(9, u "<init>"), (6, .class_ 18), (1, u "java/lang/Object"), (0, u "()V"), (1, .class_ 23), (1, u "jdk/internal/util/ArraysSupport"), (0, u "LOG2_ARRAY_LONG_INDEX_SCALE"), (0, u "I"), (2, u "U"), (0, u "Ljdk/internal/misc/Unsafe;"), (8, u "BIG_ENDIAN"), (0, u "Z"), (8, u "LOG2_BYTE_BIT_SIZE"), (4, u "LOG2_ARRAY_INT_INDEX_SCALE"), (54, u "JLA"), (0, u "Ljdk/internal/access/JavaLangAccess;"), (11, u "LOG2_ARRAY_BOOLEAN_INDEX_SCALE"), (9, u "LOG2_ARRAY_BYTE_INDEX_SCALE"), (5, u "LOG2_ARRAY_CHAR_INDEX_SCALE"), (5, u "LOG2_ARRAY_SHORT_INDEX_SCALE"), (18, u "LOG2_ARRAY_FLOAT_INDEX_SCALE"), (24, u "LOG2_ARRAY_DOUBLE_INDEX_SCALE"), (89, u "T_BOOLEAN"), (2, u "T_CHAR"), (1, u "T_FLOAT"), (1, u "T_DOUBLE"), (1, u "T_BYTE"), (1, u "T_SHORT"), (1, u "T_INT"), (1, u "T_LONG"), (1, u "SOFT_MAX_ARRAY_LENGTH")] 83

def k18m0 : Method := { name := "<init>", desc := "()V", sig := { parameters := [], returnType := none }, accessFlags := 2, code := none }
/-- jdk/internal/util/ArraysSupport -/
def k18 : Class := { plain "jdk/internal/util/ArraysSupport" (some 0) with
  accessFlags := 33
  interfaces := #[]
  cf := some (fileOf pool18 21 #[] #[{ accessFlags := 2, nameIndex := 9, descriptorIndex := 19, attributes := #[] }] 33 16 #[] #[{ accessFlags := 24, nameIndex := 28, descriptorIndex := 29, attributes := #[] }, { accessFlags := 26, nameIndex := 38, descriptorIndex := 39, attributes := #[] }, { accessFlags := 25, nameIndex := 121, descriptorIndex := 25, attributes := #[] }, { accessFlags := 25, nameIndex := 131, descriptorIndex := 25, attributes := #[] }, { accessFlags := 25, nameIndex := 137, descriptorIndex := 25, attributes := #[] }, { accessFlags := 25, nameIndex := 143, descriptorIndex := 25, attributes := #[] }, { accessFlags := 25, nameIndex := 53, descriptorIndex := 25, attributes := #[] }, { accessFlags := 25, nameIndex := 24, descriptorIndex := 25, attributes := #[] }, { accessFlags := 25, nameIndex := 162, descriptorIndex := 25, attributes := #[] }, { accessFlags := 25, nameIndex := 187, descriptorIndex := 25, attributes := #[] }, { accessFlags := 26, nameIndex := 48, descriptorIndex := 25, attributes := #[] }, { accessFlags := 25, nameIndex := 277, descriptorIndex := 25, attributes := #[] }, { accessFlags := 25, nameIndex := 280, descriptorIndex := 25, attributes := #[] }, { accessFlags := 25, nameIndex := 282, descriptorIndex := 25, attributes := #[] }, { accessFlags := 25, nameIndex := 284, descriptorIndex := 25, attributes := #[] }, { accessFlags := 25, nameIndex := 286, descriptorIndex := 25, attributes := #[] }, { accessFlags := 25, nameIndex := 288, descriptorIndex := 25, attributes := #[] }, { accessFlags := 25, nameIndex := 290, descriptorIndex := 25, attributes := #[] }, { accessFlags := 25, nameIndex := 292, descriptorIndex := 25, attributes := #[] }, { accessFlags := 26, nameIndex := 108, descriptorIndex := 109, attributes := #[] }, { accessFlags := 25, nameIndex := 294, descriptorIndex := 25, attributes := #[] }])
  fields := #[{ name := "U", type := (.object "jdk/internal/misc/Unsafe"), accessFlags := 24, slot := 0, constantValue := 0 }, { name := "BIG_ENDIAN", type := .boolean, accessFlags := 26, slot := 1, constantValue := 0 }, { name := "LOG2_ARRAY_BOOLEAN_INDEX_SCALE", type := .int, accessFlags := 25, slot := 2, constantValue := 0 }, { name := "LOG2_ARRAY_BYTE_INDEX_SCALE", type := .int, accessFlags := 25, slot := 3, constantValue := 0 }, { name := "LOG2_ARRAY_CHAR_INDEX_SCALE", type := .int, accessFlags := 25, slot := 4, constantValue := 0 }, { name := "LOG2_ARRAY_SHORT_INDEX_SCALE", type := .int, accessFlags := 25, slot := 5, constantValue := 0 }, { name := "LOG2_ARRAY_INT_INDEX_SCALE", type := .int, accessFlags := 25, slot := 6, constantValue := 0 }, { name := "LOG2_ARRAY_LONG_INDEX_SCALE", type := .int, accessFlags := 25, slot := 7, constantValue := 0 }, { name := "LOG2_ARRAY_FLOAT_INDEX_SCALE", type := .int, accessFlags := 25, slot := 8, constantValue := 0 }, { name := "LOG2_ARRAY_DOUBLE_INDEX_SCALE", type := .int, accessFlags := 25, slot := 9, constantValue := 0 }, { name := "LOG2_BYTE_BIT_SIZE", type := .int, accessFlags := 26, slot := 10, constantValue := 0 }, { name := "T_BOOLEAN", type := .int, accessFlags := 25, slot := 11, constantValue := 0 }, { name := "T_CHAR", type := .int, accessFlags := 25, slot := 12, constantValue := 0 }, { name := "T_FLOAT", type := .int, accessFlags := 25, slot := 13, constantValue := 0 }, { name := "T_DOUBLE", type := .int, accessFlags := 25, slot := 14, constantValue := 0 }, { name := "T_BYTE", type := .int, accessFlags := 25, slot := 15, constantValue := 0 }, { name := "T_SHORT", type := .int, accessFlags := 25, slot := 16, constantValue := 0 }, { name := "T_INT", type := .int, accessFlags := 25, slot := 17, constantValue := 0 }, { name := "T_LONG", type := .int, accessFlags := 25, slot := 18, constantValue := 0 }, { name := "JLA", type := (.object "jdk/internal/access/JavaLangAccess"), accessFlags := 26, slot := 19, constantValue := 0 }, { name := "SOFT_MAX_ARRAY_LENGTH", type := .int, accessFlags := 25, slot := 20, constantValue := 0 }]
  methods := #[k18m0]
  instanceTypes := #[]
  staticTypes := #[(.object "jdk/internal/misc/Unsafe"), .boolean, .int, .int, .int, .int, .int, .int, .int, .int, .int, .int, .int, .int, .int, .int, .int, .int, .int, (.object "jdk/internal/access/JavaLangAccess"), .int]
  resolved := Array.replicate 378 none
  statics := none }

def pool19 : Array CpInfo := pool [(1, u "java/lang/Cloneable"), (0, .class_ 1), (0, u "java/lang/Object"), (0, .class_ 3)] 3

/-- java/lang/Cloneable -/
def k19 : Class := { plain "java/lang/Cloneable" (some 0) with
  accessFlags := 1537
  interfaces := #[]
  cf := some (fileOf pool19 2 #[] #[] 1537 4 #[] #[])
  fields := #[]
  methods := #[]
  instanceTypes := #[]
  staticTypes := #[]
  resolved := Array.replicate 8 none
  statics := none }

/-- the primitive byte -/
def k20 : Class := { plain "byte" none with kind := .primitive 'B', accessFlags := 0x411 }
/-- [B -/
def k21 : Class := { plain "[B" (some 0) with kind := .array 20 .byte, interfaces := #[19, 2], accessFlags := 1041 }

/-- the primitive char -/
def k22 : Class := { plain "char" none with kind := .primitive 'C', accessFlags := 0x411 }
/-- [C -/
def k23 : Class := { plain "[C" (some 0) with kind := .array 22 .char, interfaces := #[19, 2], accessFlags := 1041 }

/-- the primitive int -/
def k24 : Class := { plain "int" none with kind := .primitive 'I', accessFlags := 0x411 }
/-- [I -/
def k25 : Class := { plain "[I" (some 0) with kind := .array 24 .int, interfaces := #[19, 2], accessFlags := 1041 }

def heap : Heap := #[{ cls := 7, slots := #[.long 0, .int 1, .null, .int 0, .null, .int 0, .int 0], vm := .statics 7 },
  { cls := 17, slots := #[.null, .null, .null], vm := .statics 17 }]
def classes : Array Class := #[k0, k1, k2, k3, k4, k5, k6, k7, k8, k9, k10, k11, k12, k13, k14, k15, k16, k17, k18, k19, k20, k21, k22, k23, k24, k25]
def interned : List (Array UInt16 × Addr) := []
def slotsUsed : Nat := 10
def theMethod : MethodId := ⟨1, 1⟩
def args0 : Array Value := #[.int 1, .int 2]
def aboutOver (below : List Frame) : State where
  vm := { classes := classes, interned := interned.toArray }
  heap := heap
  slotsUsed := slotsUsed
  threads := #[{ frames := .invoking theMethod args0 :: below }]
def below0 : List Frame := [.native { method := ⟨0, 0⟩, args := #[] }]
def about1 : State := aboutOver below0
def p0 : Program := .bare "" "" ""
def e0 : Env := launch0.env 0 0 0
theorem w_frames : about1.frames = Frame.invoking theMethod args0 :: below0 := rfl
set_option maxRecDepth 65536 in
theorem w_args : argsFit about1.vm theMethod args0 = true := by decide +kernel
set_option maxRecDepth 65536 in
theorem w_heap : heapFits about1 = true := by decide +kernel
set_option maxRecDepth 65536 in
theorem w_runnable : about1.curStatus? = some .runnable := by decide +kernel
set_option maxRecDepth 65536 in
theorem w_alone : about1.alone = true := by decide +kernel
set_option maxRecDepth 65536 in
theorem w_named : about1.methodNamed? x = some theMethod := by decide +kernel
set_option maxRecDepth 65536 in
theorem w_hears : about1.hears theMethod below0 = true := by decide +kernel
set_option maxRecDepth 65536 in
theorem w_ripe : about1.ripe theMethod args0 below0 = true := by decide +kernel
theorem w_running : about1.status = .running := rfl
set_option maxRecDepth 65536 in
theorem w_room : about1.hasRoom e0.platform room_1 = true :=
  launch0.hasRoom_least _ room_1 (by decide +kernel) (by decide +kernel) (by decide +kernel) (by decide +kernel) (by decide +kernel) (by decide +kernel)
theorem allAtoms_all (ts : List Jvm.Cond) (a : Array Jvm.Value) (st : Jvm.State) : (allAtoms ts).before a st = ts.all (fun c => c.before a st) := by
  induction ts with
  | nil => rfl
  | cons c t ih =>
    show (Jvm.Cond.and c (allAtoms t)).before a st = _
    rw [Jvm.Cond.before_and, ih, List.all_cons]
def words1 : List Jvm.Cond := Jvm.Cond.code x code maxLocals ret :: tables_1
/-- a 'code' word, met by the world's own term for the bytes: nothing is compared byte by byte -/
theorem code_word {y : MethodName} {bytes : ByteArray} {mx : Nat} {rt : Option FieldType} {a : Array Value} {s : State} {m : MethodId} {meth : Method} {c : Code} (h1 : s.methodNamed? y = some m) (h2 : s.vm.method? m = some meth) (h3 : meth.code = some c) (h4 : c.code = bytes)
    (h5 : (c.maxLocals == mx && c.exceptionTable.isEmpty && decide (c.maxStack ≤ mostOperands) && decide (meth.sig.returnType = rt) && !meth.locks && decide (parseMethodDescriptor y.desc = some meth.sig)) = true) : (Jvm.Cond.code y bytes mx rt).before a s = true := by
  simp only [Bool.and_eq_true, beq_iff_eq, Bool.not_eq_true', decide_eq_true_eq] at h5
  obtain ⟨⟨⟨⟨⟨g1, g2⟩, g3⟩, g4⟩, g5⟩, g6⟩ := h5
  simp [Cond.before, Cond.holds, Cond.value, h1, h2, h3, h4, g1, g2, g3, g4, g5, g6]
def isCode : Jvm.Cond → Bool
  | .code _ _ _ _ => true
  | _ => false
theorem all_split {L : List Jvm.Cond} {P : Jvm.Cond → Bool} (h1 : L.all (fun c => isCode c || P c) = true) (h2 : ∀ c ∈ L.filter isCode, P c = true) : L.all P = true := by
  refine List.all_eq_true.mpr fun c hc => ?_
  have h := List.all_eq_true.mp h1 c hc
  rcases Bool.eq_false_or_eq_true (isCode c) with hi | hi
  · exact h2 c (List.mem_filter.mpr ⟨hc, hi⟩)
  · simpa [hi] using h
set_option maxRecDepth 65536 in
theorem w_c0 : (Jvm.Cond.code x code maxLocals ret).before args0 about1 = true := code_word (m := ⟨1, 1⟩) (meth := k1m1) (c := k1c1) (by decide +kernel) rfl rfl rfl (by decide +kernel)
set_option maxRecDepth 65536 in
theorem w_c1 : (Jvm.Cond.code ({ cls := "com/example/tight_calculus/tightcalculus/ReportWordsPinLaw", name := "chars", desc := "(II)[C" } : Jvm.MethodName) method_3_code (5 : Nat) (Option.some (Jvm.ClassFile.FieldType.array Jvm.ClassFile.FieldType.char))).before args0 about1 = true := code_word (m := ⟨1, 2⟩) (meth := k1m2) (c := k1c2) (by decide +kernel) rfl rfl rfl (by decide +kernel)
set_option maxRecDepth 65536 in
theorem w_c2 : (Jvm.Cond.code ({ cls := "java/lang/String", name := "<init>", desc := "([C)V" } : Jvm.MethodName) jdk_42_method_3_code (2 : Nat) (Option.none : Option Jvm.ClassFile.FieldType)).before args0 about1 = true := code_word (m := ⟨7, 1⟩) (meth := k7m1) (c := k7c1) (by decide +kernel) rfl rfl rfl (by decide +kernel)
set_option maxRecDepth 65536 in
theorem w_c3 : (Jvm.Cond.code ({ cls := "java/lang/String", name := "<init>", desc := "([CIILjava/lang/Void;)V" } : Jvm.MethodName) jdk_42_method_149_code (6 : Nat) (Option.none : Option Jvm.ClassFile.FieldType)).before args0 about1 = true := code_word (m := ⟨7, 7⟩) (meth := k7m7) (c := k7c7) (by decide +kernel) rfl rfl rfl (by decide +kernel)
set_option maxRecDepth 65536 in
theorem w_c4 : (Jvm.Cond.code ({ cls := "java/lang/Object", name := "<init>", desc := "()V" } : Jvm.MethodName) object_method_1_code (1 : Nat) (Option.none : Option Jvm.ClassFile.FieldType)).before args0 about1 = true := code_word (m := ⟨0, 0⟩) (meth := k0m0) (c := k0c0) (by decide +kernel) rfl rfl rfl (by decide +kernel)
set_option maxRecDepth 65536 in
theorem w_c5 : (Jvm.Cond.code ({ cls := "com/example/tight_calculus/tightcalculus/Report", name := "words", desc := "(Ljava/lang/String;Ljava/lang/String;)Ljava/lang/String;" } : Jvm.MethodName) prog_30_method_3_code (3 : Nat) (Option.some (Jvm.ClassFile.FieldType.object "java/lang/String"))).before args0 about1 = true := code_word (m := ⟨8, 1⟩) (meth := k8m1) (c := k8c1) (by decide +kernel) rfl rfl rfl (by decide +kernel)
set_option maxRecDepth 65536 in
theorem w_c6 : (Jvm.Cond.code ({ cls := "java/lang/String", name := "isEmpty", desc := "()Z" } : Jvm.MethodName) jdk_42_method_55_code (1 : Nat) (Option.some Jvm.ClassFile.FieldType.boolean)).before args0 about1 = true := code_word (m := ⟨7, 4⟩) (meth := k7m4) (c := k7c4) (by decide +kernel) rfl rfl rfl (by decide +kernel)
set_option maxRecDepth 65536 in
theorem w_c7 : (Jvm.Cond.code ({ cls := "java/lang/String", name := "length", desc := "()I" } : Jvm.MethodName) jdk_42_method_54_code (1 : Nat) (Option.some Jvm.ClassFile.FieldType.int)).before args0 about1 = true := code_word (m := ⟨7, 3⟩) (meth := k7m3) (c := k7c3) (by decide +kernel) rfl rfl rfl (by decide +kernel)
set_option maxRecDepth 65536 in
theorem w_c8 : (Jvm.Cond.code ({ cls := "java/lang/String", name := "coder", desc := "()B" } : Jvm.MethodName) jdk_42_method_152_code (1 : Nat) (Option.some Jvm.ClassFile.FieldType.byte)).before args0 about1 = true := code_word (m := ⟨7, 9⟩) (meth := k7m9) (c := k7c9) (by decide +kernel) rfl rfl rfl (by decide +kernel)
set_option maxRecDepth 65536 in
theorem w_c9 : (Jvm.Cond.code ({ cls := "com/example/tight_calculus/tightcalculus/ReportWordsPinLaw", name := "check", desc := "(Ljava/lang/String;II[CI[CI)Z" } : Jvm.MethodName) method_4_code (7 : Nat) (Option.some Jvm.ClassFile.FieldType.boolean)).before args0 about1 = true := code_word (m := ⟨1, 3⟩) (meth := k1m3) (c := k1c3) (by decide +kernel) rfl rfl rfl (by decide +kernel)
set_option maxRecDepth 65536 in
theorem w_c10 : (Jvm.Cond.code ({ cls := "java/lang/StringUTF16", name := "compress", desc := "([CII)[B" } : Jvm.MethodName) jdk_52_method_16_code (6 : Nat) (Option.some (Jvm.ClassFile.FieldType.array Jvm.ClassFile.FieldType.byte))).before args0 about1 = true := code_word (m := ⟨9, 2⟩) (meth := k9m2) (c := k9c2) (by decide +kernel) rfl rfl rfl (by decide +kernel)
set_option maxRecDepth 65536 in
theorem w_c11 : (Jvm.Cond.code ({ cls := "java/lang/StringUTF16", name := "compress", desc := "([CI[BII)I" } : Jvm.MethodName) jdk_52_method_21_code (7 : Nat) (Option.some Jvm.ClassFile.FieldType.int)).before args0 about1 = true := code_word (m := ⟨9, 3⟩) (meth := k9m3) (c := k9c3) (by decide +kernel) rfl rfl rfl (by decide +kernel)
set_option maxRecDepth 65536 in
theorem w_c12 : (Jvm.Cond.code ({ cls := "java/lang/StringUTF16", name := "coderFromArrayLen", desc := "([BI)B" } : Jvm.MethodName) jdk_52_method_15_code (2 : Nat) (Option.some Jvm.ClassFile.FieldType.byte)).before args0 about1 = true := code_word (m := ⟨9, 1⟩) (meth := k9m1) (c := k9c1) (by decide +kernel) rfl rfl rfl (by decide +kernel)
set_option maxRecDepth 65536 in
theorem w_c13 : (Jvm.Cond.code ({ cls := "java/lang/StringBuilder", name := "<init>", desc := "()V" } : Jvm.MethodName) jdk_67_method_1_code (1 : Nat) (Option.none : Option Jvm.ClassFile.FieldType)).before args0 about1 = true := code_word (m := ⟨12, 0⟩) (meth := k12m0) (c := k12c0) (by decide +kernel) rfl rfl rfl (by decide +kernel)
set_option maxRecDepth 65536 in
theorem w_c14 : (Jvm.Cond.code ({ cls := "java/lang/AbstractStringBuilder", name := "<init>", desc := "(I)V" } : Jvm.MethodName) jdk_68_method_2_code (2 : Nat) (Option.none : Option Jvm.ClassFile.FieldType)).before args0 about1 = true := code_word (m := ⟨11, 1⟩) (meth := k11m1) (c := k11c1) (by decide +kernel) rfl rfl rfl (by decide +kernel)
set_option maxRecDepth 65536 in
theorem w_c15 : (Jvm.Cond.code ({ cls := "java/lang/StringBuilder", name := "append", desc := "(Ljava/lang/String;)Ljava/lang/StringBuilder;" } : Jvm.MethodName) jdk_67_method_7_code (2 : Nat) (Option.some (Jvm.ClassFile.FieldType.object "java/lang/StringBuilder"))).before args0 about1 = true := code_word (m := ⟨12, 1⟩) (meth := k12m1) (c := k12c1) (by decide +kernel) rfl rfl rfl (by decide +kernel)
set_option maxRecDepth 65536 in
theorem w_c16 : (Jvm.Cond.code ({ cls := "java/lang/AbstractStringBuilder", name := "append", desc := "(Ljava/lang/String;)Ljava/lang/AbstractStringBuilder;" } : Jvm.MethodName) jdk_68_method_22_code (3 : Nat) (Option.some (Jvm.ClassFile.FieldType.object "java/lang/AbstractStringBuilder"))).before args0 about1 = true := code_word (m := ⟨11, 4⟩) (meth := k11m4) (c := k11c4) (by decide +kernel) rfl rfl rfl (by decide +kernel)
set_option maxRecDepth 65536 in
theorem w_c17 : (Jvm.Cond.code ({ cls := "java/lang/AbstractStringBuilder", name := "ensureCapacityInternal", desc := "(I)V" } : Jvm.MethodName) jdk_68_method_9_code (3 : Nat) (Option.none : Option Jvm.ClassFile.FieldType)).before args0 about1 = true := code_word (m := ⟨11, 3⟩) (meth := k11m3) (c := k11c3) (by decide +kernel) rfl rfl rfl (by decide +kernel)
set_option maxRecDepth 65536 in
theorem w_c18 : (Jvm.Cond.code ({ cls := "java/lang/AbstractStringBuilder", name := "putStringAt", desc := "(ILjava/lang/String;)V" } : Jvm.MethodName) jdk_68_method_73_code (3 : Nat) (Option.none : Option Jvm.ClassFile.FieldType)).before args0 about1 = true := code_word (m := ⟨11, 8⟩) (meth := k11m8) (c := k11c8) (by decide +kernel) rfl rfl rfl (by decide +kernel)
set_option maxRecDepth 65536 in
theorem w_c19 : (Jvm.Cond.code ({ cls := "java/lang/AbstractStringBuilder", name := "inflateIfNeededFor", desc := "(Ljava/lang/String;)V" } : Jvm.MethodName) jdk_68_method_71_code (2 : Nat) (Option.none : Option Jvm.ClassFile.FieldType)).before args0 about1 = true := code_word (m := ⟨11, 7⟩) (meth := k11m7) (c := k11c7) (by decide +kernel) rfl rfl rfl (by decide +kernel)
set_option maxRecDepth 65536 in
theorem w_c20 : (Jvm.Cond.code ({ cls := "java/lang/String", name := "getBytes", desc := "([BIB)V" } : Jvm.MethodName) jdk_42_method_147_code (4 : Nat) (Option.none : Option Jvm.ClassFile.FieldType)).before args0 about1 = true := code_word (m := ⟨7, 6⟩) (meth := k7m6) (c := k7c6) (by decide +kernel) rfl rfl rfl (by decide +kernel)
set_option maxRecDepth 65536 in
theorem w_c21 : (Jvm.Cond.code ({ cls := "java/lang/StringBuilder", name := "toString", desc := "()Ljava/lang/String;" } : Jvm.MethodName) jdk_67_method_42_code (1 : Nat) (Option.some (Jvm.ClassFile.FieldType.object "java/lang/String"))).before args0 about1 = true := code_word (m := ⟨12, 2⟩) (meth := k12m2) (c := k12c2) (by decide +kernel) rfl rfl rfl (by decide +kernel)
set_option maxRecDepth 65536 in
theorem w_c22 : (Jvm.Cond.code ({ cls := "java/lang/String", name := "<init>", desc := "(Ljava/lang/StringBuilder;)V" } : Jvm.MethodName) jdk_42_method_53_code (2 : Nat) (Option.none : Option Jvm.ClassFile.FieldType)).before args0 about1 = true := code_word (m := ⟨7, 2⟩) (meth := k7m2) (c := k7c2) (by decide +kernel) rfl rfl rfl (by decide +kernel)
set_option maxRecDepth 65536 in
theorem w_c23 : (Jvm.Cond.code ({ cls := "java/lang/String", name := "<init>", desc := "(Ljava/lang/AbstractStringBuilder;Ljava/lang/Void;)V" } : Jvm.MethodName) jdk_42_method_150_code (5 : Nat) (Option.none : Option Jvm.ClassFile.FieldType)).before args0 about1 = true := code_word (m := ⟨7, 8⟩) (meth := k7m8) (c := k7c8) (by decide +kernel) rfl rfl rfl (by decide +kernel)
set_option maxRecDepth 65536 in
theorem w_c24 : (Jvm.Cond.code ({ cls := "java/lang/AbstractStringBuilder", name := "getValue", desc := "()[B" } : Jvm.MethodName) jdk_68_method_64_code (1 : Nat) (Option.some (Jvm.ClassFile.FieldType.array Jvm.ClassFile.FieldType.byte))).before args0 about1 = true := code_word (m := ⟨11, 5⟩) (meth := k11m5) (c := k11c5) (by decide +kernel) rfl rfl rfl (by decide +kernel)
set_option maxRecDepth 65536 in
theorem w_c25 : (Jvm.Cond.code ({ cls := "java/lang/StringBuilder", name := "length", desc := "()I" } : Jvm.MethodName) jdk_67_method_93_code (1 : Nat) (Option.some Jvm.ClassFile.FieldType.int)).before args0 about1 = true := code_word (m := ⟨12, 3⟩) (meth := k12m3) (c := k12c3) (by decide +kernel) rfl rfl rfl (by decide +kernel)
set_option maxRecDepth 65536 in
theorem w_c26 : (Jvm.Cond.code ({ cls := "java/lang/AbstractStringBuilder", name := "length", desc := "()I" } : Jvm.MethodName) jdk_68_method_6_code (1 : Nat) (Option.some Jvm.ClassFile.FieldType.int)).before args0 about1 = true := code_word (m := ⟨11, 2⟩) (meth := k11m2) (c := k11c2) (by decide +kernel) rfl rfl rfl (by decide +kernel)
set_option maxRecDepth 65536 in
theorem w_c27 : (Jvm.Cond.code ({ cls := "java/lang/AbstractStringBuilder", name := "isLatin1", desc := "()Z" } : Jvm.MethodName) jdk_68_method_68_code (1 : Nat) (Option.some Jvm.ClassFile.FieldType.boolean)).before args0 about1 = true := code_word (m := ⟨11, 6⟩) (meth := k11m6) (c := k11c6) (by decide +kernel) rfl rfl rfl (by decide +kernel)
set_option maxRecDepth 65536 in
theorem w_c28 : (Jvm.Cond.code ({ cls := "java/util/Arrays", name := "copyOfRange", desc := "([BII)[B" } : Jvm.MethodName) jdk_65_method_132_code (3 : Nat) (Option.some (Jvm.ClassFile.FieldType.array Jvm.ClassFile.FieldType.byte))).before args0 about1 = true := code_word (m := ⟨14, 2⟩) (meth := k14m2) (c := k14c2) (by decide +kernel) rfl rfl rfl (by decide +kernel)
set_option maxRecDepth 65536 in
theorem w_c29 : (Jvm.Cond.code ({ cls := "java/util/Arrays", name := "copyOfRangeByte", desc := "([BII)[B" } : Jvm.MethodName) jdk_65_method_133_code (5 : Nat) (Option.some (Jvm.ClassFile.FieldType.array Jvm.ClassFile.FieldType.byte))).before args0 about1 = true := code_word (m := ⟨14, 3⟩) (meth := k14m3) (c := k14c3) (by decide +kernel) rfl rfl rfl (by decide +kernel)
set_option maxRecDepth 65536 in
theorem w_c30 : (Jvm.Cond.code ({ cls := "java/util/Arrays", name := "checkLength", desc := "(II)V" } : Jvm.MethodName) jdk_65_method_131_code (2 : Nat) (Option.none : Option Jvm.ClassFile.FieldType)).before args0 about1 = true := code_word (m := ⟨14, 1⟩) (meth := k14m1) (c := k14c1) (by decide +kernel) rfl rfl rfl (by decide +kernel)
set_option maxRecDepth 65536 in
theorem w_c31 : (Jvm.Cond.code ({ cls := "java/lang/Math", name := "min", desc := "(II)I" } : Jvm.MethodName) jdk_29_method_69_code (2 : Nat) (Option.some Jvm.ClassFile.FieldType.int)).before args0 about1 = true := code_word (m := ⟨15, 1⟩) (meth := k15m1) (c := k15c1) (by decide +kernel) rfl rfl rfl (by decide +kernel)
set_option maxRecDepth 65536 in
theorem w_c32 : (Jvm.Cond.code ({ cls := "java/lang/String", name := "charAt", desc := "(I)C" } : Jvm.MethodName) jdk_42_method_56_code (2 : Nat) (Option.some Jvm.ClassFile.FieldType.char)).before args0 about1 = true := code_word (m := ⟨7, 5⟩) (meth := k7m5) (c := k7c5) (by decide +kernel) rfl rfl rfl (by decide +kernel)
set_option maxRecDepth 65536 in
theorem w_c33 : (Jvm.Cond.code ({ cls := "java/lang/String", name := "isLatin1", desc := "()Z" } : Jvm.MethodName) jdk_42_method_154_code (1 : Nat) (Option.some Jvm.ClassFile.FieldType.boolean)).before args0 about1 = true := code_word (m := ⟨7, 10⟩) (meth := k7m10) (c := k7c10) (by decide +kernel) rfl rfl rfl (by decide +kernel)
set_option maxRecDepth 65536 in
theorem w_c34 : (Jvm.Cond.code ({ cls := "java/lang/StringLatin1", name := "charAt", desc := "([BI)C" } : Jvm.MethodName) jdk_43_method_2_code (2 : Nat) (Option.some Jvm.ClassFile.FieldType.char)).before args0 about1 = true := code_word (m := ⟨16, 1⟩) (meth := k16m1) (c := k16c1) (by decide +kernel) rfl rfl rfl (by decide +kernel)
set_option maxRecDepth 65536 in
theorem w_c35 : (Jvm.Cond.code ({ cls := "java/lang/String", name := "checkIndex", desc := "(II)V" } : Jvm.MethodName) jdk_42_method_155_code (2 : Nat) (Option.none : Option Jvm.ClassFile.FieldType)).before args0 about1 = true := code_word (m := ⟨7, 11⟩) (meth := k7m11) (c := k7c11) (by decide +kernel) rfl rfl rfl (by decide +kernel)
set_option maxRecDepth 65536 in
theorem w_c36 : (Jvm.Cond.code ({ cls := "jdk/internal/util/Preconditions", name := "checkIndex", desc := "(IILjava/util/function/BiFunction;)I" } : Jvm.MethodName) jdk_41_method_11_code (3 : Nat) (Option.some Jvm.ClassFile.FieldType.int)).before args0 about1 = true := code_word (m := ⟨17, 1⟩) (meth := k17m1) (c := k17c1) (by decide +kernel) rfl rfl rfl (by decide +kernel)
set_option maxRecDepth 65536 in
theorem w_c37 : (Jvm.Cond.code ({ cls := "com/example/tight_calculus/tightcalculus/ReportWordsPinLaw", name := "expectedAt", desc := "(I[CI[CI)C" } : Jvm.MethodName) method_5_code (6 : Nat) (Option.some Jvm.ClassFile.FieldType.char)).before args0 about1 = true := code_word (m := ⟨1, 4⟩) (meth := k1m4) (c := k1c4) (by decide +kernel) rfl rfl rfl (by decide +kernel)
def codes1 : List Jvm.Cond := [Jvm.Cond.code x code maxLocals ret, Jvm.Cond.code ({ cls := "com/example/tight_calculus/tightcalculus/ReportWordsPinLaw", name := "chars", desc := "(II)[C" } : Jvm.MethodName) method_3_code (5 : Nat) (Option.some (Jvm.ClassFile.FieldType.array Jvm.ClassFile.FieldType.char)), Jvm.Cond.code ({ cls := "java/lang/String", name := "<init>", desc := "([C)V" } : Jvm.MethodName) jdk_42_method_3_code (2 : Nat) (Option.none : Option Jvm.ClassFile.FieldType), Jvm.Cond.code ({ cls := "java/lang/String", name := "<init>", desc := "([CIILjava/lang/Void;)V" } : Jvm.MethodName) jdk_42_method_149_code (6 : Nat) (Option.none : Option Jvm.ClassFile.FieldType), Jvm.Cond.code ({ cls := "java/lang/Object", name := "<init>", desc := "()V" } : Jvm.MethodName) object_method_1_code (1 : Nat) (Option.none : Option Jvm.ClassFile.FieldType), Jvm.Cond.code ({ cls := "com/example/tight_calculus/tightcalculus/Report", name := "words", desc := "(Ljava/lang/String;Ljava/lang/String;)Ljava/lang/String;" } : Jvm.MethodName) prog_30_method_3_code (3 : Nat) (Option.some (Jvm.ClassFile.FieldType.object "java/lang/String")), Jvm.Cond.code ({ cls := "java/lang/String", name := "isEmpty", desc := "()Z" } : Jvm.MethodName) jdk_42_method_55_code (1 : Nat) (Option.some Jvm.ClassFile.FieldType.boolean), Jvm.Cond.code ({ cls := "java/lang/String", name := "length", desc := "()I" } : Jvm.MethodName) jdk_42_method_54_code (1 : Nat) (Option.some Jvm.ClassFile.FieldType.int), Jvm.Cond.code ({ cls := "java/lang/String", name := "coder", desc := "()B" } : Jvm.MethodName) jdk_42_method_152_code (1 : Nat) (Option.some Jvm.ClassFile.FieldType.byte), Jvm.Cond.code ({ cls := "com/example/tight_calculus/tightcalculus/ReportWordsPinLaw", name := "check", desc := "(Ljava/lang/String;II[CI[CI)Z" } : Jvm.MethodName) method_4_code (7 : Nat) (Option.some Jvm.ClassFile.FieldType.boolean), Jvm.Cond.code ({ cls := "java/lang/StringUTF16", name := "compress", desc := "([CII)[B" } : Jvm.MethodName) jdk_52_method_16_code (6 : Nat) (Option.some (Jvm.ClassFile.FieldType.array Jvm.ClassFile.FieldType.byte)), Jvm.Cond.code ({ cls := "java/lang/StringUTF16", name := "compress", desc := "([CI[BII)I" } : Jvm.MethodName) jdk_52_method_21_code (7 : Nat) (Option.some Jvm.ClassFile.FieldType.int), Jvm.Cond.code ({ cls := "java/lang/StringUTF16", name := "coderFromArrayLen", desc := "([BI)B" } : Jvm.MethodName) jdk_52_method_15_code (2 : Nat) (Option.some Jvm.ClassFile.FieldType.byte), Jvm.Cond.code ({ cls := "java/lang/StringBuilder", name := "<init>", desc := "()V" } : Jvm.MethodName) jdk_67_method_1_code (1 : Nat) (Option.none : Option Jvm.ClassFile.FieldType), Jvm.Cond.code ({ cls := "java/lang/AbstractStringBuilder", name := "<init>", desc := "(I)V" } : Jvm.MethodName) jdk_68_method_2_code (2 : Nat) (Option.none : Option Jvm.ClassFile.FieldType), Jvm.Cond.code ({ cls := "java/lang/StringBuilder", name := "append", desc := "(Ljava/lang/String;)Ljava/lang/StringBuilder;" } : Jvm.MethodName) jdk_67_method_7_code (2 : Nat) (Option.some (Jvm.ClassFile.FieldType.object "java/lang/StringBuilder")), Jvm.Cond.code ({ cls := "java/lang/AbstractStringBuilder", name := "append", desc := "(Ljava/lang/String;)Ljava/lang/AbstractStringBuilder;" } : Jvm.MethodName) jdk_68_method_22_code (3 : Nat) (Option.some (Jvm.ClassFile.FieldType.object "java/lang/AbstractStringBuilder")), Jvm.Cond.code ({ cls := "java/lang/AbstractStringBuilder", name := "ensureCapacityInternal", desc := "(I)V" } : Jvm.MethodName) jdk_68_method_9_code (3 : Nat) (Option.none : Option Jvm.ClassFile.FieldType), Jvm.Cond.code ({ cls := "java/lang/AbstractStringBuilder", name := "putStringAt", desc := "(ILjava/lang/String;)V" } : Jvm.MethodName) jdk_68_method_73_code (3 : Nat) (Option.none : Option Jvm.ClassFile.FieldType), Jvm.Cond.code ({ cls := "java/lang/AbstractStringBuilder", name := "inflateIfNeededFor", desc := "(Ljava/lang/String;)V" } : Jvm.MethodName) jdk_68_method_71_code (2 : Nat) (Option.none : Option Jvm.ClassFile.FieldType), Jvm.Cond.code ({ cls := "java/lang/String", name := "getBytes", desc := "([BIB)V" } : Jvm.MethodName) jdk_42_method_147_code (4 : Nat) (Option.none : Option Jvm.ClassFile.FieldType), Jvm.Cond.code ({ cls := "java/lang/StringBuilder", name := "toString", desc := "()Ljava/lang/String;" } : Jvm.MethodName) jdk_67_method_42_code (1 : Nat) (Option.some (Jvm.ClassFile.FieldType.object "java/lang/String")), Jvm.Cond.code ({ cls := "java/lang/String", name := "<init>", desc := "(Ljava/lang/StringBuilder;)V" } : Jvm.MethodName) jdk_42_method_53_code (2 : Nat) (Option.none : Option Jvm.ClassFile.FieldType), Jvm.Cond.code ({ cls := "java/lang/String", name := "<init>", desc := "(Ljava/lang/AbstractStringBuilder;Ljava/lang/Void;)V" } : Jvm.MethodName) jdk_42_method_150_code (5 : Nat) (Option.none : Option Jvm.ClassFile.FieldType), Jvm.Cond.code ({ cls := "java/lang/AbstractStringBuilder", name := "getValue", desc := "()[B" } : Jvm.MethodName) jdk_68_method_64_code (1 : Nat) (Option.some (Jvm.ClassFile.FieldType.array Jvm.ClassFile.FieldType.byte)), Jvm.Cond.code ({ cls := "java/lang/StringBuilder", name := "length", desc := "()I" } : Jvm.MethodName) jdk_67_method_93_code (1 : Nat) (Option.some Jvm.ClassFile.FieldType.int), Jvm.Cond.code ({ cls := "java/lang/AbstractStringBuilder", name := "length", desc := "()I" } : Jvm.MethodName) jdk_68_method_6_code (1 : Nat) (Option.some Jvm.ClassFile.FieldType.int), Jvm.Cond.code ({ cls := "java/lang/AbstractStringBuilder", name := "isLatin1", desc := "()Z" } : Jvm.MethodName) jdk_68_method_68_code (1 : Nat) (Option.some Jvm.ClassFile.FieldType.boolean), Jvm.Cond.code ({ cls := "java/util/Arrays", name := "copyOfRange", desc := "([BII)[B" } : Jvm.MethodName) jdk_65_method_132_code (3 : Nat) (Option.some (Jvm.ClassFile.FieldType.array Jvm.ClassFile.FieldType.byte)), Jvm.Cond.code ({ cls := "java/util/Arrays", name := "copyOfRangeByte", desc := "([BII)[B" } : Jvm.MethodName) jdk_65_method_133_code (5 : Nat) (Option.some (Jvm.ClassFile.FieldType.array Jvm.ClassFile.FieldType.byte)), Jvm.Cond.code ({ cls := "java/util/Arrays", name := "checkLength", desc := "(II)V" } : Jvm.MethodName) jdk_65_method_131_code (2 : Nat) (Option.none : Option Jvm.ClassFile.FieldType), Jvm.Cond.code ({ cls := "java/lang/Math", name := "min", desc := "(II)I" } : Jvm.MethodName) jdk_29_method_69_code (2 : Nat) (Option.some Jvm.ClassFile.FieldType.int), Jvm.Cond.code ({ cls := "java/lang/String", name := "charAt", desc := "(I)C" } : Jvm.MethodName) jdk_42_method_56_code (2 : Nat) (Option.some Jvm.ClassFile.FieldType.char), Jvm.Cond.code ({ cls := "java/lang/String", name := "isLatin1", desc := "()Z" } : Jvm.MethodName) jdk_42_method_154_code (1 : Nat) (Option.some Jvm.ClassFile.FieldType.boolean), Jvm.Cond.code ({ cls := "java/lang/StringLatin1", name := "charAt", desc := "([BI)C" } : Jvm.MethodName) jdk_43_method_2_code (2 : Nat) (Option.some Jvm.ClassFile.FieldType.char), Jvm.Cond.code ({ cls := "java/lang/String", name := "checkIndex", desc := "(II)V" } : Jvm.MethodName) jdk_42_method_155_code (2 : Nat) (Option.none : Option Jvm.ClassFile.FieldType), Jvm.Cond.code ({ cls := "jdk/internal/util/Preconditions", name := "checkIndex", desc := "(IILjava/util/function/BiFunction;)I" } : Jvm.MethodName) jdk_41_method_11_code (3 : Nat) (Option.some Jvm.ClassFile.FieldType.int), Jvm.Cond.code ({ cls := "com/example/tight_calculus/tightcalculus/ReportWordsPinLaw", name := "expectedAt", desc := "(I[CI[CI)C" } : Jvm.MethodName) method_5_code (6 : Nat) (Option.some Jvm.ClassFile.FieldType.char)]
set_option maxRecDepth 65536 in
theorem codes_eq : words1.filter isCode = codes1 := rfl
theorem w_codes : ∀ c ∈ words1.filter isCode, c.before args0 about1 = true := by
  rw [codes_eq]
  intro c hc
  simp only [codes1, List.mem_cons, List.not_mem_nil, or_false] at hc
  rcases hc with rfl | rfl | rfl | rfl | rfl | rfl | rfl | rfl | rfl | rfl | rfl | rfl | rfl | rfl | rfl | rfl | rfl | rfl | rfl | rfl | rfl | rfl | rfl | rfl | rfl | rfl | rfl | rfl | rfl | rfl | rfl | rfl | rfl | rfl | rfl | rfl | rfl | rfl
  · exact w_c0
  · exact w_c1
  · exact w_c2
  · exact w_c3
  · exact w_c4
  · exact w_c5
  · exact w_c6
  · exact w_c7
  · exact w_c8
  · exact w_c9
  · exact w_c10
  · exact w_c11
  · exact w_c12
  · exact w_c13
  · exact w_c14
  · exact w_c15
  · exact w_c16
  · exact w_c17
  · exact w_c18
  · exact w_c19
  · exact w_c20
  · exact w_c21
  · exact w_c22
  · exact w_c23
  · exact w_c24
  · exact w_c25
  · exact w_c26
  · exact w_c27
  · exact w_c28
  · exact w_c29
  · exact w_c30
  · exact w_c31
  · exact w_c32
  · exact w_c33
  · exact w_c34
  · exact w_c35
  · exact w_c36
  · exact w_c37
set_option maxRecDepth 65536 in
theorem w_t1 : (words1.take 24).all (fun c => isCode c || c.before args0 about1) = true := by decide +kernel
set_option maxRecDepth 65536 in
theorem w_t2 : ((words1.drop 24).take 24).all (fun c => isCode c || c.before args0 about1) = true := by decide +kernel
set_option maxRecDepth 65536 in
theorem w_t3 : (((words1.drop 24).drop 24).take 24).all (fun c => isCode c || c.before args0 about1) = true := by decide +kernel
set_option maxRecDepth 65536 in
theorem w_t4 : ((((words1.drop 24).drop 24).drop 24).take 24).all (fun c => isCode c || c.before args0 about1) = true := by decide +kernel
set_option maxRecDepth 65536 in
theorem w_t5 : (((((words1.drop 24).drop 24).drop 24).drop 24).take 24).all (fun c => isCode c || c.before args0 about1) = true := by decide +kernel
set_option maxRecDepth 65536 in
theorem w_t6 : ((((((words1.drop 24).drop 24).drop 24).drop 24).drop 24).take 24).all (fun c => isCode c || c.before args0 about1) = true := by decide +kernel
set_option maxRecDepth 65536 in
theorem w_t7 : (((((((words1.drop 24).drop 24).drop 24).drop 24).drop 24).drop 24).take 24).all (fun c => isCode c || c.before args0 about1) = true := by decide +kernel
set_option maxRecDepth 65536 in
theorem w_t8 : (((((((words1.drop 24).drop 24).drop 24).drop 24).drop 24).drop 24).drop 24).all (fun c => isCode c || c.before args0 about1) = true := by decide +kernel
theorem w_tables : (allAtoms (Jvm.Cond.code x code maxLocals ret :: tables_1)).before args0 about1 = true := by
  rw [allAtoms_all]
  show words1.all (fun c => c.before args0 about1) = true
  refine all_split ?_ w_codes
  rw [← List.take_append_drop 24 words1, List.all_append, w_t1, ← List.take_append_drop 24 (words1.drop 24), List.all_append, w_t2, ← List.take_append_drop 24 ((words1.drop 24).drop 24), List.all_append, w_t3, ← List.take_append_drop 24 (((words1.drop 24).drop 24).drop 24), List.all_append, w_t4, ← List.take_append_drop 24 ((((words1.drop 24).drop 24).drop 24).drop 24), List.all_append, w_t5, ← List.take_append_drop 24 (((((words1.drop 24).drop 24).drop 24).drop 24).drop 24), List.all_append, w_t6, ← List.take_append_drop 24 ((((((words1.drop 24).drop 24).drop 24).drop 24).drop 24).drop 24), List.all_append, w_t7, w_t8]
  rfl
set_option maxRecDepth 65536 in
theorem w_rest : rest_1_c.before args0 about1 = true := by decide +kernel
set_option maxRecDepth 65536 in
theorem w_case : (Jvm.Cond.and given_1 narrow_1).before args0 about1 = true := by decide +kernel
set_option maxRecDepth 65536 in
theorem w_consts : constsHeld consts_1 about1 := Jvm.Lit.constsHeldB_iff.mp (by decide +kernel)
theorem w_applies : (headSpec (Jvm.Cond.code x code maxLocals ret :: tables_1) room_1).applies x e0.platform about1 = true :=
  (Spec.applies_iff w_frames).mpr ⟨w_running, w_runnable, w_alone, w_named, w_hears, w_ripe, w_room, w_tables⟩
theorem atStart : AtStart classFile x code maxLocals ret World_1 tables_1 room_1 Calls_1 rest_1 Pre_1 launch0 p0 e0 about1 theMethod args0 below0 :=
  ⟨lists_1, trivial, launch0.admits_env _ _ _, launch0.least_env, fairChoices_fair.cas, fairChoices_fair.clock, w_frames, w_args, w_heap, w_applies, ⟨w_consts, trivial⟩, w_rest, w_case⟩
end start1
theorem witness_1 : WitnessClaimed_1 := ⟨start1.p0, start1.e0, start1.about1, start1.theMethod, start1.args0, start1.below0, start1.atStart⟩
end Jvm.Pilot.@@N@@
