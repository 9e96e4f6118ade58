import JvmDerived
import JvmDerived.Pilot.@@N@@Statement
import JvmDerived.Pilot.@@N@@Code
set_option linter.unusedVariables false
set_option linter.unusedSimpArgs false
namespace Jvm.Pilot.@@N@@
open Jvm Jvm.ClassFile Sem Op Lib Jvm.Free Jvm.Stand Jvm.LawKit Jvm.RoadKit Bundle Jvm.Pilot.@@N@@.Jvm.D
section OwnGo
variable {p : Program} {l : Launch} {e : Env} {R : Room} {s : State} {m : MethodId} {args : Array Value} {below : List Frame} {meth : Method} {c : Code} {T T' : State} {locs : List Loc} {cells slots : Nat} {g g' : JFrame} {F : State → Outcome → Prop} {Q : Option Value → Heap → List Loc → Prop} {ck sk : Nat}
/-- from this place the run ends, and F holds at the end -/
def Go (p : Program) (e : Env) (below : List Frame) (F : State → Outcome → Prop) (T : State) (g : JFrame) : Prop :=
  ∃ t o, Steps p.tables e below (T.setTop g) t ∧ t.status = .running ∧ Ended t below o ∧ F t o
def FinN (s : State) (Q : Option Value → Heap → List Loc → Prop) (ck sk : Nat) (t : State) (o : Outcome) : Prop :=
  ∃ v L, o = .returned v ∧ Q v t.heap L ∧ FrameEnd s o t L ck sk
theorem Go.by (h : ∀ target, Steps p.tables e below (T'.setTop g') target → Steps p.tables e below (T.setTop g) target) (k : Go p e below F T' g') : Go p e below F T g := by
  obtain ⟨t, o, h1, h2⟩ := k; exact ⟨t, o, h _ h1, h2⟩
theorem Go.call (h : Steps p.tables e below (T.setTop g) (T'.setTop g')) (k : Go p e below F T' g') : Go p e below F T g := by
  obtain ⟨t, o, h1, h2⟩ := k; exact ⟨t, o, h.trans h1, h2⟩
theorem Go.join (T' : State) (g' : JFrame) (h : Go p e below F T' g' → Go p e below F T g) (k : Go p e below F T' g') : Go p e below F T g := h k
theorem Go.done (X : Stand p l e R s m args below meth c T locs cells slots) {v : Option Value} (hv : meth.sig.returnType = none → v = none) (hlocks : meth.locks = false)
    (st : ∀ fs, (∀ (f : JFrame) (acts : List Action), f.method = m → f.locked = none → f.entered = [] → (doReturn e (T.setTop f) acts v).1 = T.setFrames fs) → Steps p.tables e below (T.setTop g) (T.setFrames fs))
    (hQ : Q v T.heap locs) (hc : cells ≤ ck) (hs : slots ≤ sk) : Go p e below (FinN s Q ck sk) T g := by
  obtain ⟨fs, hr, hrun, hended, hW, hsame⟩ := X.leave hv hlocks
  exact ⟨_, _, st fs hr, hrun, hended, v, locs, rfl, hQ, ⟨_, rfl⟩, hW, hsame.mono hc hs⟩
theorem Go.retZ (X : Stand p l e R s m args below meth c T locs cells slots) (hx : p.tables.exec = Jvm.exec) (hlocks : meth.locks = false) {pc : Nat} {Ls : Array Slot} {z : Int32} {t : FieldType} {rest : List Value} (hret : meth.sig.returnType = some t) (ht : t = .boolean ∨ t = .byte ∨ t = .char ∨ t = .short)
    (hd : decode c.code pc = .ok (.ireturn, 1)) (hQ : Q (some (.int (nar t z))) T.heap locs) (hc : cells ≤ ck) (hs : slots ≤ sk) : Go p e below (FinN s Q ck sk) T (mkF m pc Ls (.int z :: rest)) :=
  Go.done X (fun h => by rw [hret] at h; cases h) hlocks (fun fs hr => retN X hx hret ht hd hr) hQ hc hs
theorem Go.retO (X : Stand p l e R s m args below meth c T locs cells slots) (hx : p.tables.exec = Jvm.exec) (hlocks : meth.locks = false) {pc : Nat} {Ls : Array Slot} {w : Value} {t : FieldType} {i : Instr} {rest : List Value} (hret : meth.sig.returnType = some t) (hn : narrow t w = w)
    (hi : (i = .ireturn ∧ (t = .int ∨ t = .boolean ∨ t = .byte ∨ t = .char ∨ t = .short) ∧ ∃ z, w = .int z) ∨ (i = .lreturn ∧ t = .long ∧ ∃ z, w = .long z) ∨ (i = .dreturn ∧ t = .double ∧ ∃ z, w = .double z) ∨ (i = .freturn ∧ t = .float ∧ ∃ z, w = .float z) ∨ (i = .areturn ∧ t.isReference = true ∧ w.isRef = true))
    (hd : decode c.code pc = .ok (i, 1)) (hQ : Q (some w) T.heap locs) (hc : cells ≤ ck) (hs : slots ≤ sk) : Go p e below (FinN s Q ck sk) T (mkF m pc Ls (w :: rest)) :=
  Go.done X (fun h => by rw [hret] at h; cases h) hlocks (fun fs hr => retOut X hx hret hn hi hd hr) hQ hc hs
theorem Go.retI (X : Stand p l e R s m args below meth c T locs cells slots) (hx : p.tables.exec = Jvm.exec) (hlocks : meth.locks = false) {pc : Nat} {Ls : Array Slot} {z : Int32} {rest : List Value} (hret : meth.sig.returnType = some .int)
    (hd : decode c.code pc = .ok (.ireturn, 1)) (hQ : Q (some (.int z)) T.heap locs) (hc : cells ≤ ck) (hs : slots ≤ sk) : Go p e below (FinN s Q ck sk) T (mkF m pc Ls (.int z :: rest)) :=
  Go.retO X hx hlocks hret rfl (Or.inl ⟨rfl, Or.inl rfl, _, rfl⟩) hd hQ hc hs
theorem Go.retA (X : Stand p l e R s m args below meth c T locs cells slots) (hx : p.tables.exec = Jvm.exec) (hlocks : meth.locks = false) {pc : Nat} {Ls : Array Slot} {w : Value} {t : FieldType} {rest : List Value} (hret : meth.sig.returnType = some t) (ht : t.isReference = true) (hw : w.isRef = true)
    (hd : decode c.code pc = .ok (.areturn, 1)) (hQ : Q (some w) T.heap locs) (hc : cells ≤ ck) (hs : slots ≤ sk) : Go p e below (FinN s Q ck sk) T (mkF m pc Ls (w :: rest)) :=
  Go.retO X hx hlocks hret (by cases w <;> cases t <;> first | rfl | (cases hw; done) | (cases ht; done)) (Or.inr (Or.inr (Or.inr (Or.inr ⟨rfl, ht, hw⟩)))) hd hQ hc hs
theorem Go.retV (X : Stand p l e R s m args below meth c T locs cells slots) (hx : p.tables.exec = Jvm.exec) (hlocks : meth.locks = false) {pc : Nat} {Ls : Array Slot} (hret : meth.sig.returnType = none)
    (hd : decode c.code pc = .ok (.return_, 1)) (hQ : Q none T.heap locs) (hc : cells ≤ ck) (hs : slots ≤ sk) : Go p e below (FinN s Q ck sk) T (mkF m pc Ls []) :=
  Go.done X (fun _ => rfl) hlocks (fun fs hr => X.returnOut hx hret hd hr) hQ hc hs
end OwnGo
theorem own_modN (n : Nat) (N : Int32) (hN : N.toInt = (n : Int)) (hn : 0 < n) (hb : n < 2147483648) (i : Int32) : ∃ k : Fin n, (i &&& (2147483647 : Int32)) % N = Int32.ofInt k.1 := by
  have h1 := (c_and i (2147483647 : Int32) (by decide)).1
  have h2 := (c_irem (i &&& (2147483647 : Int32)) N n hN).1 h1
  have h3 := Int.emod_lt_of_pos (i &&& (2147483647 : Int32)).toInt (show (0 : Int) < (n : Int) by omega)
  have h4 := Int.emod_nonneg (i &&& (2147483647 : Int32)).toInt (show (n : Int) ≠ 0 by omega)
  refine ⟨⟨((i &&& (2147483647 : Int32)).toInt % (n : Int)).toNat, by omega⟩, ?_⟩
  rw [← Int32.toInt_inj, h2, Int32.toInt_ofInt]
  show _ = Int.bmod (((((i &&& (2147483647 : Int32)).toInt % (n : Int)).toNat : Nat) : Int)) _
  rw [Int.toNat_of_nonneg h4, show Int32.size = 4294967296 from rfl, Int.bmod_eq_of_le (by omega) (by omega)]
section OwnArr
variable {p : Program} {l : Launch} {e : Env} {R : Room} {s : State} {m : MethodId} {args : Array Value} {below : List Frame} {meth : Method} {c : Code} {T : State} {locs : List Loc} {cells slots : Nat} {Z : State} {h : Heap} {a y : Addr} {k : ClassId} {ty : FieldType} {z j : Int32} {vs : List Value} {dv v : Value} {C : String} {g : JFrame} {rest : List Value}
theorem own_stR (X : Stand p l e R s m args below meth c T locs cells slots) (hx : p.tables.exec = Jvm.exec) (hZ : Z.Warmed39 s.vm) (eT : T.heap = h) (F : Arv Z h a k ty z vs dv) (hty : ty.isReference = true) (O : Ovr Z k C) (I : Ins Z h y C true)
    (hj : ¬ j < 0 ∧ j < z) (i : Nat) (hi : j.toNatClampNeg = i) (hl : i < vs.length) (hg : g.method = m) (hs : g.stack = .ref y :: .int j :: .ref a :: rest) (hd : decode c.code g.pc = .ok (.aastore, 1)) :
    ∃ T' h', Stand p l e R s m args below meth c T' (locs ++ [⟨a, j.toNatClampNeg⟩]) cells slots ∧ T'.heap = h' ∧ Wr h h' a j.toNatClampNeg (.ref y) ∧ Arv Z h' a k ty z (vs.set i (.ref y)) dv ∧ ∀ target, Steps p.tables e below (T'.setTop { g with pc := g.pc + 1, stack := rest }) target → Steps p.tables e below (T.setTop g) target := by
  obtain ⟨cl, A, q1, S, q3, H, G⟩ := F
  obtain ⟨T', h', X', e', W, st⟩ := stR X hx hZ eT A (inb_of S hj) hty (Sto.ofV A q1 O I) hg hs hd
  exact ⟨T', h', X', e', W, Arv.set A q1 S q3 H G (by cases ty <;> first | rfl | (cases hty; done)) W i hi hl, st⟩
theorem own_aaload (X : Stand p l e R s m args below meth c T locs cells slots) (hx : p.tables.exec = Jvm.exec) (hZ : Z.Warmed39 s.vm) (eT : T.heap = h) (F : Arv Z h a k ty z vs dv) (hty : ty.isReference = true) (hj : ¬ j < 0 ∧ j < z) (hv : vs.getD j.toNatClampNeg dv = v)
    (hg : g.method = m) (hs : g.stack = .int j :: .ref a :: rest) (hd : decode c.code g.pc = .ok (.aaload, 1)) (target : State) (hr : Steps p.tables e below (T.setTop { g with pc := g.pc + 1, stack := v :: rest }) target) : Steps p.tables e below (T.setTop g) target := by
  obtain ⟨cl, A, q1, S, q3, H, G⟩ := F
  exact X.aaload hx (by rw [eT]; exact A.1) (State.isArrayOf_alike hZ.alike A.2.1) hty A.2.2 (inb_of S hj) (H.at (inb_of S hj) hv) hg hs hd target hr
theorem own_laload (X : Stand p l e R s m args below meth c T locs cells slots) (hx : p.tables.exec = Jvm.exec) (hZ : Z.Warmed39 s.vm) (eT : T.heap = h) (F : Arv Z h a k .long z vs dv) (hj : ¬ j < 0 ∧ j < z) (hv : vs.getD j.toNatClampNeg dv = v)
    (hg : g.method = m) (hs : g.stack = .int j :: .ref a :: rest) (hd : decode c.code g.pc = .ok (.laload, 1)) (target : State) (hr : Steps p.tables e below (T.setTop { g with pc := g.pc + 1, stack := v :: rest }) target) : Steps p.tables e below (T.setTop g) target := by
  obtain ⟨cl, A, q1, S, q3, H, G⟩ := F
  exact X.laload hx (by rw [eT]; exact A.1) (State.isArrayOf_alike hZ.alike A.2.1) A.2.2 (inb_of S hj) (H.at (inb_of S hj) hv) hg hs hd target hr
end OwnArr
theorem own_fldv {args : Array Value} {s : State} {t : Term} {a : Addr} {C n d : String} {k : Int32} (ht : t.eval args s none [] s = some (.ref a)) (h : (Cond.eq (.field t C n d) (.int k)).value args s none s [] = some true) : Fld s s.heap a C n d (.int k) := by
  obtain ⟨x, y, e1, e2, k1, k2⟩ := cmp_v (Or.inl h)
  have e3 : y = .int k := Option.some.inj (e2.symm.trans (Term.int_eval k))
  subst e3
  obtain ⟨z, rfl⟩ := k2
  refine Fld.start ?_
  rw [← fld_at ht, e1]
  have := gotT (Cond.eq_ints e1 (Term.int_eval k)) h
  rw [this]
def lowB (c : Int32) : Int32 := if c < 97 then 0 else if 122 < c then 0 else 1
def upB (c : Int32) : Int32 := if c < 65 then 0 else if 90 < c then 0 else 1
def digB (c : Int32) : Int32 := if c < 48 then 0 else if 57 < c then 0 else 1
def safeB (c : Int32) : Int32 := if c = 36 then 1 else if c = 45 then 1 else if c = 95 then 1 else if c = 46 then 1 else if c = 43 then 1 else 0
def extB (c : Int32) : Int32 := if c = 33 then 1 else if c = 42 then 1 else if c = 39 then 1 else if c = 40 then 1 else if c = 41 then 1 else if c = 44 then 1 else 0
def natB (c : Int32) : Int32 := if c = 123 then 1 else if c = 125 then 1 else if c = 124 then 1 else if c = 92 then 1 else if c = 94 then 1 else if c = 126 then 1 else if c = 91 then 1 else if c = 93 then 1 else if c = 96 then 1 else 0
def punB (c : Int32) : Int32 := if c = 60 then 1 else if c = 62 then 1 else if c = 35 then 1 else if c = 37 then 1 else if c = 34 then 1 else 0
def resB (c : Int32) : Int32 := if c = 59 then 1 else if c = 47 then 1 else if c = 63 then 1 else if c = 58 then 1 else if c = 64 then 1 else if c = 38 then 1 else if c = 61 then 1 else 0
def hexB (c : Int32) : Int32 := if c < 65 then (if c < 97 then 0 else if 102 < c then 0 else 1) else if 70 < c then (if c < 97 then 0 else if 102 < c then 0 else 1) else 1
def nb (z : Int32) : Int32 := nar .boolean z
def refV (k c : Int32) : Int32 := if k = 0 then nb (lowB c) else if k = 1 then nb (upB c) else if k = 2 then (if lowB c = 0 then (if upB c = 0 then 0 else 1) else 1) else if k = 3 then nb (digB c)
  else if k = 4 then (if lowB c = 0 then (if upB c = 0 then (if digB c = 0 then 0 else 1) else 1) else 1) else if k = 5 then nb (safeB c) else if k = 6 then nb (extB c) else if k = 7 then nb (natB c) else if k = 8 then nb (punB c) else if k = 9 then nb (resB c)
  else if k = 10 then (if hexB c = 0 then (if digB c = 0 then 0 else 1) else 1)
  else (if lowB c = 0 then (if upB c = 0 then (if digB c = 0 then (if safeB c = 0 then (if extB c = 0 then 0 else 1) else 1) else 1) else 1) else 1)
def selW (w0 w1 : Int64) (c : Int32) : Int64 := if c < 64 then w0 else w1
def bitV (w0 w1 : Int64) (c : Int32) : Int32 := XT.cmpL (selW w0 w1 c &&& ((1 : Int64) <<< (c.toInt64 &&& 63))) 0
def contV (w0 w1 : Int64) (c : Int32) : Int32 := if c < 128 then (if bitV w0 w1 c = 0 then 0 else 1) else 0
theorem own_small (c : Int32) (h0 : 0 ≤ c.toInt) (h1 : c < 128) : ∃ i : Fin 128, c = Int32.ofInt i.1 := by
  rw [Int32.lt_iff_toInt_lt] at h1
  have e : (128 : Int32).toInt = 128 := by decide
  rw [e] at h1
  refine ⟨⟨c.toInt.toNat, by omega⟩, ?_⟩
  rw [← Int32.toInt_inj, Int32.toInt_ofInt]
  show _ = Int.bmod (((c.toInt.toNat : Nat) : Int)) _
  rw [Int.toNat_of_nonneg h0, show Int32.size = 4294967296 from rfl, Int.bmod_eq_of_le (by omega) (by omega)]
theorem own_idx (c : Int32) (h0 : 0 ≤ c.toInt) (h1 : c < 128) (w0 w1 : Int64) : (¬ XT.ushr c 6 < 0 ∧ XT.ushr c 6 < 2) ∧ ([.long w0, .long w1] : List Value).getD (XT.ushr c 6).toNatClampNeg (.long 0) = .long (selW w0 w1 c) := by
  obtain ⟨i, rfl⟩ := own_small c h0 h1
  have d : ∀ i : Fin 128, (¬ XT.ushr (Int32.ofInt i.1) 6 < 0 ∧ XT.ushr (Int32.ofInt i.1) 6 < 2) ∧ (XT.ushr (Int32.ofInt i.1) 6).toNatClampNeg = (if Int32.ofInt i.1 < 64 then 0 else 1) := by decide +kernel
  refine ⟨(d i).1, ?_⟩
  rw [(d i).2]; unfold selW; split <;> rfl
theorem own_big {c k : Int32} (hc : ¬ c < 128) (hk : k < 128) : ¬ c = k := fun e => hc (e ▸ hk)
theorem own_bigl {c k : Int32} (hc : ¬ c < 128) (hk : k < 128) : k < c := by
  rw [Int32.lt_iff_toInt_lt] at *; omega
theorem own_bign {c k : Int32} (hc : ¬ c < 128) (hk : k < 128) : ¬ c < k := by
  rw [Int32.lt_iff_toInt_lt] at *; omega
theorem big_lowB {c : Int32} (hc : ¬ c < 128) : lowB c = 0 := by unfold lowB; rw [if_neg (own_bign hc (by decide)), if_pos (own_bigl hc (by decide))]
theorem big_upB {c : Int32} (hc : ¬ c < 128) : upB c = 0 := by unfold upB; rw [if_neg (own_bign hc (by decide)), if_pos (own_bigl hc (by decide))]
theorem big_digB {c : Int32} (hc : ¬ c < 128) : digB c = 0 := by unfold digB; rw [if_neg (own_bign hc (by decide)), if_pos (own_bigl hc (by decide))]
theorem big_safeB {c : Int32} (hc : ¬ c < 128) : safeB c = 0 := by unfold safeB; rw [if_neg (own_big hc (by decide)), if_neg (own_big hc (by decide)), if_neg (own_big hc (by decide)), if_neg (own_big hc (by decide)), if_neg (own_big hc (by decide))]
theorem big_extB {c : Int32} (hc : ¬ c < 128) : extB c = 0 := by unfold extB; rw [if_neg (own_big hc (by decide)), if_neg (own_big hc (by decide)), if_neg (own_big hc (by decide)), if_neg (own_big hc (by decide)), if_neg (own_big hc (by decide)), if_neg (own_big hc (by decide))]
theorem big_natB {c : Int32} (hc : ¬ c < 128) : natB c = 0 := by unfold natB; rw [if_neg (own_big hc (by decide)), if_neg (own_big hc (by decide)), if_neg (own_big hc (by decide)), if_neg (own_big hc (by decide)), if_neg (own_big hc (by decide)), if_neg (own_big hc (by decide)), if_neg (own_big hc (by decide)), if_neg (own_big hc (by decide)), if_neg (own_big hc (by decide))]
theorem big_punB {c : Int32} (hc : ¬ c < 128) : punB c = 0 := by unfold punB; rw [if_neg (own_big hc (by decide)), if_neg (own_big hc (by decide)), if_neg (own_big hc (by decide)), if_neg (own_big hc (by decide)), if_neg (own_big hc (by decide))]
theorem big_resB {c : Int32} (hc : ¬ c < 128) : resB c = 0 := by unfold resB; rw [if_neg (own_big hc (by decide)), if_neg (own_big hc (by decide)), if_neg (own_big hc (by decide)), if_neg (own_big hc (by decide)), if_neg (own_big hc (by decide)), if_neg (own_big hc (by decide)), if_neg (own_big hc (by decide))]
theorem big_hexB {c : Int32} (hc : ¬ c < 128) : hexB c = 0 := by unfold hexB; rw [if_neg (own_bign hc (by decide)), if_pos (own_bigl hc (by decide)), if_neg (own_bign hc (by decide)), if_pos (own_bigl hc (by decide))]
theorem own_big_all {c k w : Int32} (hc : ¬ c < 128) : refV k c = 0 := by
  simp only [refV, big_lowB hc, big_upB hc, big_digB hc, big_safeB hc, big_extB hc, big_natB hc, big_punB hc, big_resB hc, big_hexB hc]
  have e : nb 0 = 0 := by decide
  simp [e]
theorem law_0 (c : Int32) (h0 : 0 ≤ c.toInt) : contV (0) (576460743713488896) c = refV 0 c := by
  by_cases hc : c < 128
  · obtain ⟨i, rfl⟩ := own_small c h0 hc
    have d : ∀ i : Fin 128, contV (0) (576460743713488896) (Int32.ofInt i.1) = refV 0 (Int32.ofInt i.1) := by decide +kernel
    exact d i
  · rw [own_big_all (w := 0) hc]; unfold contV; rw [if_neg hc]
theorem law_1 (c : Int32) (h0 : 0 ≤ c.toInt) : contV (0) (134217726) c = refV 1 c := by
  by_cases hc : c < 128
  · obtain ⟨i, rfl⟩ := own_small c h0 hc
    have d : ∀ i : Fin 128, contV (0) (134217726) (Int32.ofInt i.1) = refV 1 (Int32.ofInt i.1) := by decide +kernel
    exact d i
  · rw [own_big_all (w := 0) hc]; unfold contV; rw [if_neg hc]
theorem law_2 (c : Int32) (h0 : 0 ≤ c.toInt) : contV (0) (576460743847706622) c = refV 2 c := by
  by_cases hc : c < 128
  · obtain ⟨i, rfl⟩ := own_small c h0 hc
    have d : ∀ i : Fin 128, contV (0) (576460743847706622) (Int32.ofInt i.1) = refV 2 (Int32.ofInt i.1) := by decide +kernel
    exact d i
  · rw [own_big_all (w := 0) hc]; unfold contV; rw [if_neg hc]
theorem law_3 (c : Int32) (h0 : 0 ≤ c.toInt) : contV (287948901175001088) (0) c = refV 3 c := by
  by_cases hc : c < 128
  · obtain ⟨i, rfl⟩ := own_small c h0 hc
    have d : ∀ i : Fin 128, contV (287948901175001088) (0) (Int32.ofInt i.1) = refV 3 (Int32.ofInt i.1) := by decide +kernel
    exact d i
  · rw [own_big_all (w := 0) hc]; unfold contV; rw [if_neg hc]
theorem law_4 (c : Int32) (h0 : 0 ≤ c.toInt) : contV (287948901175001088) (576460743847706622) c = refV 4 c := by
  by_cases hc : c < 128
  · obtain ⟨i, rfl⟩ := own_small c h0 hc
    have d : ∀ i : Fin 128, contV (287948901175001088) (576460743847706622) (Int32.ofInt i.1) = refV 4 (Int32.ofInt i.1) := by decide +kernel
    exact d i
  · rw [own_big_all (w := 0) hc]; unfold contV; rw [if_neg hc]
theorem law_5 (c : Int32) (h0 : 0 ≤ c.toInt) : contV (114417928765440) (2147483648) c = refV 5 c := by
  by_cases hc : c < 128
  · obtain ⟨i, rfl⟩ := own_small c h0 hc
    have d : ∀ i : Fin 128, contV (114417928765440) (2147483648) (Int32.ofInt i.1) = refV 5 (Int32.ofInt i.1) := by decide +kernel
    exact d i
  · rw [own_big_all (w := 0) hc]; unfold contV; rw [if_neg hc]
theorem law_6 (c : Int32) (h0 : 0 ≤ c.toInt) : contV (25847113187328) (0) c = refV 6 c := by
  by_cases hc : c < 128
  · obtain ⟨i, rfl⟩ := own_small c h0 hc
    have d : ∀ i : Fin 128, contV (25847113187328) (0) (Int32.ofInt i.1) = refV 6 (Int32.ofInt i.1) := by decide +kernel
    exact d i
  · rw [own_big_all (w := 0) hc]; unfold contV; rw [if_neg hc]
theorem law_7 (c : Int32) (h0 : 0 ≤ c.toInt) : contV (0) (8646911290859585536) c = refV 7 c := by
  by_cases hc : c < 128
  · obtain ⟨i, rfl⟩ := own_small c h0 hc
    have d : ∀ i : Fin 128, contV (0) (8646911290859585536) (Int32.ofInt i.1) = refV 7 (Int32.ofInt i.1) := by decide +kernel
    exact d i
  · rw [own_big_all (w := 0) hc]; unfold contV; rw [if_neg hc]
theorem law_8 (c : Int32) (h0 : 0 ≤ c.toInt) : contV (5764607712012795904) (0) c = refV 8 c := by
  by_cases hc : c < 128
  · obtain ⟨i, rfl⟩ := own_small c h0 hc
    have d : ∀ i : Fin 128, contV (5764607712012795904) (0) (Int32.ofInt i.1) = refV 8 (Int32.ofInt i.1) := by decide +kernel
    exact d i
  · rw [own_big_all (w := 0) hc]; unfold contV; rw [if_neg hc]
theorem law_9 (c : Int32) (h0 : 0 ≤ c.toInt) : contV (-6052696886819684352) (1) c = refV 9 c := by
  by_cases hc : c < 128
  · obtain ⟨i, rfl⟩ := own_small c h0 hc
    have d : ∀ i : Fin 128, contV (-6052696886819684352) (1) (Int32.ofInt i.1) = refV 9 (Int32.ofInt i.1) := by decide +kernel
    exact d i
  · rw [own_big_all (w := 0) hc]; unfold contV; rw [if_neg hc]
theorem law_10 (c : Int32) (h0 : 0 ≤ c.toInt) : contV (287948901175001088) (541165879422) c = refV 10 c := by
  by_cases hc : c < 128
  · obtain ⟨i, rfl⟩ := own_small c h0 hc
    have d : ∀ i : Fin 128, contV (287948901175001088) (541165879422) (Int32.ofInt i.1) = refV 10 (Int32.ofInt i.1) := by decide +kernel
    exact d i
  · rw [own_big_all (w := 0) hc]; unfold contV; rw [if_neg hc]
theorem law_11 (c : Int32) (h0 : 0 ≤ c.toInt) : contV (288089166216953856) (576460745995190270) c = refV 11 c := by
  by_cases hc : c < 128
  · obtain ⟨i, rfl⟩ := own_small c h0 hc
    have d : ∀ i : Fin 128, contV (288089166216953856) (576460745995190270) (Int32.ofInt i.1) = refV 11 (Int32.ofInt i.1) := by decide +kernel
    exact d i
  · rw [own_big_all (w := 0) hc]; unfold contV; rw [if_neg hc]
theorem own_mod12 (i : Int32) : ∃ k : Fin 12, (i &&& (2147483647 : Int32)) % (12 : Int32) = Int32.ofInt k.1 := own_modN 12 12 (by decide) (by decide) (by decide) i
theorem own_words {args : Array Value} {s : State} {t : Term} {o : Addr} {C n d : String} {w0 w1 : Int64} (hf : Fit s) (ht : t.eval args s none [] s = some (.ref o)) (mA : (Cond.arrayOf (.field t C n d) .long).value args s none s [] = some true)
    (mL : (Cond.eq (.length (.field t C n d)) (.int 2)).value args s none s [] = some true) (m0 : (Cond.eq (.elem (.field t C n d) (.int 0)) (.long w0)).value args s none s [] = some true) (m1 : (Cond.eq (.elem (.field t C n d) (.int 1)) (.long w1)).value args s none s [] = some true) :
    ∃ wa kw, Fld s s.heap o C n d (.ref wa) ∧ Arv s s.heap wa kw .long 2 [.long w0, .long w1] (.long 0) := by
  obtain ⟨wa, ev⟩ := arr_v mA
  obtain ⟨cl, A⟩ := Arr.start ev mA
  obtain ⟨x, y, e1, e2, k1, k2⟩ := cmp_v (Or.inl mL)
  have e3 : y = .int 2 := Option.some.inj (e2.symm.trans (Term.int_eval 2))
  subst e3
  obtain ⟨z, rfl⟩ := k2
  have e4 := gotT (Cond.eq_ints e1 (Term.int_eval 2)) mL
  subst e4
  have el : ∀ (j : Int32) (w : Int64), (Cond.eq (.elem (.field t C n d) (.int j)) (.long w)).value args s none s [] = some true → cl.slots[j.toNatClampNeg]? = some (.long w) := fun j w hm => by
    obtain ⟨x, y, f1, f2, l1, l2⟩ := cmp_v (Or.inl hm)
    have f3 : y = .long w := Option.some.inj (f2.symm.trans (long_at w))
    subst f3
    obtain ⟨z, rfl⟩ := l2
    have f4 := gotT (eq_L f1 (long_at w)) hm
    subst f4
    exact (elem_in f1 ev (Term.int_eval j) A.1).2
  have hl : (Term.length (.field t C n d)).eval args s none [] s = some (.int 2) := e1
  obtain ⟨hq, hs⟩ : cl.slots.size < 2 ^ 31 ∧ cl.slots.size.toInt32 = 2 := by
    obtain ⟨a2, c2, g1, g2, g3⟩ := Term.length_spec hl
    cases ev.symm.trans g1
    have ha := A.fin (Vm.Alike.refl _)
    cases ha.symm.trans g2
    have g4 : cl.slots.size.toInt32 = 2 := (Value.int.inj g3).symm
    refine ⟨?_, g4⟩
    simp only [Term.eval, Option.bind_eq_bind] at hl
    have ev' : (Term.field t C n d).eval args s none [] s = some (.ref wa) := ev
    simp only [Term.eval, Option.bind_eq_bind] at ev'
    by_cases q : cl.slots.size < 2 ^ 31
    · exact q
    · exfalso
      simp [ev', ha, q] at hl
  refine ⟨wa, cl.cls, Fld.start (by rw [← fld_at ht]; exact ev), Arv.start hf A hq hs (by decide) rfl ⟨?_, ?_, trivial⟩⟩
  · exact el 0 w0 m0
  · exact el 1 w1 m1
theorem pn_com_example_wayfaring_tree_wayfaringtree_grammar_CharClass : plainName "com/example/wayfaring_tree/wayfaringtree/grammar/CharClass" = true := by first | (simp [plainName, overriddenIn]; done) | decide +kernel
theorem d0_0 : decode prog_13_method_4_code 0 = .ok (.iload_n 1, 1) := by decide +kernel
theorem d0_1 : decode prog_13_method_4_code 1 = .ok (.sipush 128, 3) := by decide +kernel
theorem d0_4 : decode prog_13_method_4_code 4 = .ok (.if_icmp .ge 25, 3) := by decide +kernel
theorem d0_7 : decode prog_13_method_4_code 7 = .ok (.aload_n 0, 1) := by decide +kernel
theorem d0_8 : decode prog_13_method_4_code 8 = .ok (.getfield 59, 3) := by decide +kernel
theorem d0_11 : decode prog_13_method_4_code 11 = .ok (.iload_n 1, 1) := by decide +kernel
theorem d0_12 : decode prog_13_method_4_code 12 = .ok (.bipush 6, 2) := by decide +kernel
theorem d0_14 : decode prog_13_method_4_code 14 = .ok (.iushr, 1) := by decide +kernel
theorem d0_15 : decode prog_13_method_4_code 15 = .ok (.laload, 1) := by decide +kernel
theorem d0_16 : decode prog_13_method_4_code 16 = .ok (.lconst 1, 1) := by decide +kernel
theorem d0_17 : decode prog_13_method_4_code 17 = .ok (.iload_n 1, 1) := by decide +kernel
theorem d0_18 : decode prog_13_method_4_code 18 = .ok (.lshl, 1) := by decide +kernel
theorem d0_19 : decode prog_13_method_4_code 19 = .ok (.land, 1) := by decide +kernel
theorem d0_20 : decode prog_13_method_4_code 20 = .ok (.lconst 0, 1) := by decide +kernel
theorem d0_21 : decode prog_13_method_4_code 21 = .ok (.lcmp, 1) := by decide +kernel
theorem d0_22 : decode prog_13_method_4_code 22 = .ok (.ifCond .eq 7, 3) := by decide +kernel
theorem d0_29 : decode prog_13_method_4_code 29 = .ok (.iconst 0, 1) := by decide +kernel
theorem d0_30 : decode prog_13_method_4_code 30 = .ok (.ireturn, 1) := by decide +kernel
theorem d0_25 : decode prog_13_method_4_code 25 = .ok (.iconst 1, 1) := by decide +kernel
theorem d0_26 : decode prog_13_method_4_code 26 = .ok (.goto 4, 3) := by decide +kernel
def Q_rm1 (Z : State) (aS : Addr) (c1 : Int32) (wa : Addr) (kw : ClassId) (w0 : Int64) (w1 : Int64) (h0 : Heap) (n0 : Nat) (v : Option Value) (h : Heap) (L : List Loc) : Prop := v = some (.int (contV w0 w1 c1)) ∧ Fr n0 L ∧ h = h0
set_option maxRecDepth 65536 in
set_option maxHeartbeats 40000000 in
theorem rm1 (l : Launch) (Z : State) (a0 : Array Value) (hw : ∀ d ∈ tables_1, d.before a0 Z = true) (ws : List Jvm.Cond) (aS : Addr) (c1 : Int32) (wa : Addr) (kw : ClassId) (w0 : Int64) (w1 : Int64) (h0 : Heap) (n0 : Nat) (Z0 : n0 ≤ h0.size) (hc0 : 0 ≤ c1.toInt) (FW : Fld Z h0 aS "com/example/wayfaring_tree/wayfaringtree/grammar/CharClass" "words" "[J" (.ref wa)) (AW : Arv Z h0 wa kw .long 2 [.long w0, .long w1] (.long 0)) :
    MetFree l (⟨"com/example/wayfaring_tree/wayfaringtree/grammar/CharClass", "contains", "(C)Z"⟩ : MethodName) (head1 (Jvm.Cond.code (⟨"com/example/wayfaring_tree/wayfaringtree/grammar/CharClass", "contains", "(C)Z"⟩ : MethodName) prog_13_method_4_code 2 (some .boolean) :: ws) ({ frames := 0, cells := 0, slots := 0, locals := 0 } : Room)) (fun a U => a = #[(.ref aS), (.int c1)] ∧ Z.Warmed39 U.vm ∧ U.heap = h0) (fun _ _ _ _ _ => True) (fun _ U o U' => ∃ v L, o = .returned v ∧ Q_rm1 Z aS c1 wa kw w0 w1 h0 n0 v U'.heap L ∧ FrameEnd U o U' L ({ frames := 0, cells := 0, slots := 0, locals := 0 } : Room).cells ({ frames := 0, cells := 0, slots := 0, locals := 0 } : Room).slots) := by
  refine MetFree.of_bodySF (plainFor_of_name pn_com_example_wayfaring_tree_wayfaringtree_grammar_CharClass) hisR ?_
  intro p e s m args below meth c s₁ Bd hml0 hP hK
  obtain ⟨rfl, hZ, hh⟩ := hP
  have hx := Bd.exec
  have hby := Bd.bytes
  have hml : c.maxLocals = 2 := hml0
  have hown : s.vm.findClass "com/example/wayfaring_tree/wayfaringtree/grammar/CharClass" = some m.cls := findClass_of_methodNamed Bd.named
  have hnm := (name_of_methodNamed Bd.named Bd.method).1
  have X0 : Stand p l e ({ frames := 0, cells := 0, slots := 0, locals := 0 } : Room) s m #[(.ref aS), (.int c1)] below meth c s₁ [] 0 0 := Stand.of_body Bd
  have e0 : s₁.heap = h0 := by rw [← hh, Bd.state]; rfl
  have N0 := Fr.nil n0
  have ef : entryFrame m #[(.ref aS), (.int c1)] 2 = mkF m 0 #[.val (.ref aS), .val (.int c1)] [] := by first | (simp [entryFrame, mkF, argsToLocals, Value.category, maxLocals]; done) | rfl
  show Go p e below (FinN s (Q_rm1 Z aS c1 wa kw w0 w1 h0 n0) ({ frames := 0, cells := 0, slots := 0, locals := 0 } : Room).cells ({ frames := 0, cells := 0, slots := 0, locals := 0 } : Room).slots) s₁ (entryFrame m #[(.ref aS), (.int c1)] 2)
  rw [ef]
  show Go _ _ _ _ s₁ (mkF m 0 #[.val (.ref aS), .val (.int c1)] [])
  refine Go.by (fun _ k => XS.iloadN X0.here hx rfl (hb hby d0_0) rfl k) ?_
  show Go _ _ _ _ s₁ (mkF m 1 #[.val (.ref aS), .val (.int c1)] [(.int c1)])
  refine Go.by (fun _ k => XT.sipushV X0.here hx rfl (128 : Int32) (hb hby d0_1) (by decide) k) ?_
  show Go _ _ _ _ s₁ (mkF m 4 #[.val (.ref aS), .val (.int c1)] [(.int (128 : Int32)), (.int c1)])
  by_cases c101 : c1 < (128 : Int32)
  · refine Go.by (fun _ k => XS.icmpNo X0.here hx rfl (hb hby d0_4) rfl (XT.ii_ge_f c101) k) ?_
    show Go _ _ _ _ s₁ (mkF m 7 #[.val (.ref aS), .val (.int c1)] [])
    refine Go.by (fun _ k => XS.aloadN X0.here hx rfl (hb hby d0_7) rfl rfl k) ?_
    show Go _ _ _ _ s₁ (mkF m 8 #[.val (.ref aS), .val (.int c1)] [(.ref aS)])
    obtain ⟨T1, X1, e1, st1⟩ := getF X0 hx hZ hown (host := "") (Or.inl (hw _ (List.mem_of_getElem? (i := 34) rfl))) Via.refl e0 FW (g := (mkF m 8 #[.val (.ref aS), .val (.int c1)] [(.ref aS)])) rfl rfl (hb hby d0_8)
    refine Go.by st1 ?_
    show Go _ _ _ _ T1 (mkF m 11 #[.val (.ref aS), .val (.int c1)] [(.ref wa)])
    refine Go.by (fun _ k => XS.iloadN X1.here hx rfl (hb hby d0_11) rfl k) ?_
    show Go _ _ _ _ T1 (mkF m 12 #[.val (.ref aS), .val (.int c1)] [(.int c1), (.ref wa)])
    refine Go.by (fun _ k => XT.bipushV X1.here hx rfl (6 : Int32) (hb hby d0_12) (by decide) k) ?_
    show Go _ _ _ _ T1 (mkF m 14 #[.val (.ref aS), .val (.int c1)] [(.int (6 : Int32)), (.int c1), (.ref wa)])
    refine Go.by (fun _ k => XT.iushr X1.here hx rfl (hb hby d0_14) rfl k) ?_
    show Go _ _ _ _ T1 (mkF m 15 #[.val (.ref aS), .val (.int c1)] [(.int (XT.ushr c1 (6 : Int32))), (.ref wa)])
    have hi := own_idx c1 hc0 c101 w0 w1
    refine Go.by (own_laload X1 hx hZ e1 AW hi.1 hi.2 (g := (mkF m 15 #[.val (.ref aS), .val (.int c1)] [(.int (XT.ushr c1 (6 : Int32))), (.ref wa)])) rfl rfl (hb hby d0_15)) ?_
    show Go _ _ _ _ T1 (mkF m 16 #[.val (.ref aS), .val (.int c1)] [(.long (selW w0 w1 c1))])
    refine Go.by (fun _ k => XT.lconstV X1.here hx rfl (1 : Int64) (hb hby d0_16) (by decide) k) ?_
    show Go _ _ _ _ T1 (mkF m 17 #[.val (.ref aS), .val (.int c1)] [(.long (1 : Int64)), (.long (selW w0 w1 c1))])
    refine Go.by (fun _ k => XS.iloadN X1.here hx rfl (hb hby d0_17) rfl k) ?_
    show Go _ _ _ _ T1 (mkF m 18 #[.val (.ref aS), .val (.int c1)] [(.int c1), (.long (1 : Int64)), (.long (selW w0 w1 c1))])
    refine Go.by (fun _ k => XT.lshl X1.here hx rfl (hb hby d0_18) rfl k) ?_
    show Go _ _ _ _ T1 (mkF m 19 #[.val (.ref aS), .val (.int c1)] [(.long ((1 : Int64) <<< (c1.toInt64 &&& 63))), (.long (selW w0 w1 c1))])
    refine Go.by (fun _ k => XT.land X1.here hx rfl (hb hby d0_19) rfl k) ?_
    show Go _ _ _ _ T1 (mkF m 20 #[.val (.ref aS), .val (.int c1)] [(.long ((selW w0 w1 c1) &&& ((1 : Int64) <<< (c1.toInt64 &&& 63))))])
    refine Go.by (fun _ k => XT.lconstV X1.here hx rfl (0 : Int64) (hb hby d0_20) (by decide) k) ?_
    show Go _ _ _ _ T1 (mkF m 21 #[.val (.ref aS), .val (.int c1)] [(.long (0 : Int64)), (.long ((selW w0 w1 c1) &&& ((1 : Int64) <<< (c1.toInt64 &&& 63))))])
    refine Go.by (fun _ k => XT.lcmp X1.here hx rfl (hb hby d0_21) rfl k) ?_
    show Go _ _ _ _ T1 (mkF m 22 #[.val (.ref aS), .val (.int c1)] [(.int (bitV w0 w1 c1))])
    by_cases c102 : (bitV w0 w1 c1) = 0
    · refine Go.by (fun _ k => XS.ifYes X1.here hx rfl (pc0 := 22) (pc' := 29) rfl (hb hby d0_22) rfl (XT.i0_eq_t c102) (by decide) (by decide) k) ?_
      show Go _ _ _ _ T1 (mkF m 29 #[.val (.ref aS), .val (.int c1)] [])
      refine Go.by (fun _ k => XT.iconstV X1.here hx rfl (0 : Int32) (hb hby d0_29) (by decide) k) ?_
      show Go _ _ _ _ T1 (mkF m 30 #[.val (.ref aS), .val (.int c1)] [(.int (0 : Int32))])
      exact Go.retZ X1 hx Bd.notSynchronized (t := .boolean) Bd.returns (by simp) (hb hby d0_30) ⟨by simp [contV, nar, c101, c102], N0, e1⟩ (by decide) (by decide)
    · refine Go.by (fun _ k => XS.ifNo X1.here hx rfl (hb hby d0_22) rfl (XT.i0_eq_f c102) k) ?_
      show Go _ _ _ _ T1 (mkF m 25 #[.val (.ref aS), .val (.int c1)] [])
      refine Go.by (fun _ k => XT.iconstV X1.here hx rfl (1 : Int32) (hb hby d0_25) (by decide) k) ?_
      show Go _ _ _ _ T1 (mkF m 26 #[.val (.ref aS), .val (.int c1)] [(.int (1 : Int32))])
      refine Go.by (fun _ k => XS.goto X1.here hx rfl (pc0 := 26) (pc' := 30) rfl (hb hby d0_26) (by decide) (by decide) k) ?_
      show Go _ _ _ _ T1 (mkF m 30 #[.val (.ref aS), .val (.int c1)] [(.int (1 : Int32))])
      exact Go.retZ X1 hx Bd.notSynchronized (t := .boolean) Bd.returns (by simp) (hb hby d0_30) ⟨by simp [contV, nar, c101, c102], N0, e1⟩ (by decide) (by decide)
  · refine Go.by (fun _ k => XS.icmpYes X0.here hx rfl (pc0 := 4) (pc' := 29) rfl (hb hby d0_4) rfl (XT.ii_ge_t c101) (by decide) (by decide) k) ?_
    show Go _ _ _ _ s₁ (mkF m 29 #[.val (.ref aS), .val (.int c1)] [])
    refine Go.by (fun _ k => XT.iconstV X0.here hx rfl (0 : Int32) (hb hby d0_29) (by decide) k) ?_
    show Go _ _ _ _ s₁ (mkF m 30 #[.val (.ref aS), .val (.int c1)] [(.int (0 : Int32))])
    exact Go.retZ X0 hx Bd.notSynchronized (t := .boolean) Bd.returns (by simp) (hb hby d0_30) ⟨by simp [contV, nar, c101], N0, e0⟩ (by decide) (by decide)
theorem pn_com_example_wayfaring_tree_wayfaringtree_grammar_CharClassContainsPinLaw : plainName "com/example/wayfaring_tree/wayfaringtree/grammar/CharClassContainsPinLaw" = true := by first | (simp [plainName, overriddenIn]; done) | decide +kernel
theorem d1_0 : decode method_3_code 0 = .ok (.iload_n 1, 1) := by decide +kernel
theorem d1_1 : decode method_3_code 1 = .ok (.bipush 97, 2) := by decide +kernel
theorem d1_3 : decode method_3_code 3 = .ok (.if_icmp .lt 13, 3) := by decide +kernel
theorem d1_16 : decode method_3_code 16 = .ok (.iconst 0, 1) := by decide +kernel
theorem d1_6 : decode method_3_code 6 = .ok (.iload_n 1, 1) := by decide +kernel
theorem d1_7 : decode method_3_code 7 = .ok (.bipush 122, 2) := by decide +kernel
theorem d1_9 : decode method_3_code 9 = .ok (.if_icmp .gt 7, 3) := by decide +kernel
theorem d1_12 : decode method_3_code 12 = .ok (.iconst 1, 1) := by decide +kernel
theorem d1_13 : decode method_3_code 13 = .ok (.goto 4, 3) := by decide +kernel
theorem d1_17 : decode method_3_code 17 = .ok (.istore_n 2, 1) := by decide +kernel
theorem d1_18 : decode method_3_code 18 = .ok (.iload_n 1, 1) := by decide +kernel
theorem d1_19 : decode method_3_code 19 = .ok (.bipush 65, 2) := by decide +kernel
theorem d1_21 : decode method_3_code 21 = .ok (.if_icmp .lt 13, 3) := by decide +kernel
theorem d1_34 : decode method_3_code 34 = .ok (.iconst 0, 1) := by decide +kernel
theorem d1_24 : decode method_3_code 24 = .ok (.iload_n 1, 1) := by decide +kernel
theorem d1_25 : decode method_3_code 25 = .ok (.bipush 90, 2) := by decide +kernel
theorem d1_27 : decode method_3_code 27 = .ok (.if_icmp .gt 7, 3) := by decide +kernel
theorem d1_30 : decode method_3_code 30 = .ok (.iconst 1, 1) := by decide +kernel
theorem d1_31 : decode method_3_code 31 = .ok (.goto 4, 3) := by decide +kernel
theorem d1_35 : decode method_3_code 35 = .ok (.istore_n 3, 1) := by decide +kernel
theorem d1_36 : decode method_3_code 36 = .ok (.iload_n 1, 1) := by decide +kernel
theorem d1_37 : decode method_3_code 37 = .ok (.bipush 48, 2) := by decide +kernel
theorem d1_39 : decode method_3_code 39 = .ok (.if_icmp .lt 13, 3) := by decide +kernel
theorem d1_52 : decode method_3_code 52 = .ok (.iconst 0, 1) := by decide +kernel
theorem d1_42 : decode method_3_code 42 = .ok (.iload_n 1, 1) := by decide +kernel
theorem d1_43 : decode method_3_code 43 = .ok (.bipush 57, 2) := by decide +kernel
theorem d1_45 : decode method_3_code 45 = .ok (.if_icmp .gt 7, 3) := by decide +kernel
theorem d1_48 : decode method_3_code 48 = .ok (.iconst 1, 1) := by decide +kernel
theorem d1_49 : decode method_3_code 49 = .ok (.goto 4, 3) := by decide +kernel
theorem d1_53 : decode method_3_code 53 = .ok (.istore 4, 2) := by decide +kernel
theorem d1_55 : decode method_3_code 55 = .ok (.iload_n 1, 1) := by decide +kernel
theorem d1_56 : decode method_3_code 56 = .ok (.bipush 36, 2) := by decide +kernel
theorem d1_58 : decode method_3_code 58 = .ok (.if_icmp .eq 27, 3) := by decide +kernel
theorem d1_85 : decode method_3_code 85 = .ok (.iconst 1, 1) := by decide +kernel
theorem d1_86 : decode method_3_code 86 = .ok (.goto 4, 3) := by decide +kernel
theorem d1_61 : decode method_3_code 61 = .ok (.iload_n 1, 1) := by decide +kernel
theorem d1_62 : decode method_3_code 62 = .ok (.bipush 45, 2) := by decide +kernel
theorem d1_64 : decode method_3_code 64 = .ok (.if_icmp .eq 21, 3) := by decide +kernel
theorem d1_67 : decode method_3_code 67 = .ok (.iload_n 1, 1) := by decide +kernel
theorem d1_68 : decode method_3_code 68 = .ok (.bipush 95, 2) := by decide +kernel
theorem d1_70 : decode method_3_code 70 = .ok (.if_icmp .eq 15, 3) := by decide +kernel
theorem d1_73 : decode method_3_code 73 = .ok (.iload_n 1, 1) := by decide +kernel
theorem d1_74 : decode method_3_code 74 = .ok (.bipush 46, 2) := by decide +kernel
theorem d1_76 : decode method_3_code 76 = .ok (.if_icmp .eq 9, 3) := by decide +kernel
theorem d1_79 : decode method_3_code 79 = .ok (.iload_n 1, 1) := by decide +kernel
theorem d1_80 : decode method_3_code 80 = .ok (.bipush 43, 2) := by decide +kernel
theorem d1_82 : decode method_3_code 82 = .ok (.if_icmp .ne 7, 3) := by decide +kernel
theorem d1_89 : decode method_3_code 89 = .ok (.iconst 0, 1) := by decide +kernel
theorem d1_90 : decode method_3_code 90 = .ok (.istore 5, 2) := by decide +kernel
theorem d1_92 : decode method_3_code 92 = .ok (.iload_n 1, 1) := by decide +kernel
theorem d1_93 : decode method_3_code 93 = .ok (.bipush 33, 2) := by decide +kernel
theorem d1_95 : decode method_3_code 95 = .ok (.if_icmp .eq 33, 3) := by decide +kernel
theorem d1_128 : decode method_3_code 128 = .ok (.iconst 1, 1) := by decide +kernel
theorem d1_129 : decode method_3_code 129 = .ok (.goto 4, 3) := by decide +kernel
theorem d1_98 : decode method_3_code 98 = .ok (.iload_n 1, 1) := by decide +kernel
theorem d1_99 : decode method_3_code 99 = .ok (.bipush 42, 2) := by decide +kernel
theorem d1_101 : decode method_3_code 101 = .ok (.if_icmp .eq 27, 3) := by decide +kernel
theorem d1_104 : decode method_3_code 104 = .ok (.iload_n 1, 1) := by decide +kernel
theorem d1_105 : decode method_3_code 105 = .ok (.bipush 39, 2) := by decide +kernel
theorem d1_107 : decode method_3_code 107 = .ok (.if_icmp .eq 21, 3) := by decide +kernel
theorem d1_110 : decode method_3_code 110 = .ok (.iload_n 1, 1) := by decide +kernel
theorem d1_111 : decode method_3_code 111 = .ok (.bipush 40, 2) := by decide +kernel
theorem d1_113 : decode method_3_code 113 = .ok (.if_icmp .eq 15, 3) := by decide +kernel
theorem d1_116 : decode method_3_code 116 = .ok (.iload_n 1, 1) := by decide +kernel
theorem d1_117 : decode method_3_code 117 = .ok (.bipush 41, 2) := by decide +kernel
theorem d1_119 : decode method_3_code 119 = .ok (.if_icmp .eq 9, 3) := by decide +kernel
theorem d1_122 : decode method_3_code 122 = .ok (.iload_n 1, 1) := by decide +kernel
theorem d1_123 : decode method_3_code 123 = .ok (.bipush 44, 2) := by decide +kernel
theorem d1_125 : decode method_3_code 125 = .ok (.if_icmp .ne 7, 3) := by decide +kernel
theorem d1_132 : decode method_3_code 132 = .ok (.iconst 0, 1) := by decide +kernel
theorem d1_133 : decode method_3_code 133 = .ok (.istore 6, 2) := by decide +kernel
theorem d1_135 : decode method_3_code 135 = .ok (.iload_n 1, 1) := by decide +kernel
theorem d1_136 : decode method_3_code 136 = .ok (.bipush 123, 2) := by decide +kernel
theorem d1_138 : decode method_3_code 138 = .ok (.if_icmp .eq 51, 3) := by decide +kernel
theorem d1_189 : decode method_3_code 189 = .ok (.iconst 1, 1) := by decide +kernel
theorem d1_190 : decode method_3_code 190 = .ok (.goto 4, 3) := by decide +kernel
theorem d1_141 : decode method_3_code 141 = .ok (.iload_n 1, 1) := by decide +kernel
theorem d1_142 : decode method_3_code 142 = .ok (.bipush 125, 2) := by decide +kernel
theorem d1_144 : decode method_3_code 144 = .ok (.if_icmp .eq 45, 3) := by decide +kernel
theorem d1_147 : decode method_3_code 147 = .ok (.iload_n 1, 1) := by decide +kernel
theorem d1_148 : decode method_3_code 148 = .ok (.bipush 124, 2) := by decide +kernel
theorem d1_150 : decode method_3_code 150 = .ok (.if_icmp .eq 39, 3) := by decide +kernel
theorem d1_153 : decode method_3_code 153 = .ok (.iload_n 1, 1) := by decide +kernel
theorem d1_154 : decode method_3_code 154 = .ok (.bipush 92, 2) := by decide +kernel
theorem d1_156 : decode method_3_code 156 = .ok (.if_icmp .eq 33, 3) := by decide +kernel
theorem d1_159 : decode method_3_code 159 = .ok (.iload_n 1, 1) := by decide +kernel
theorem d1_160 : decode method_3_code 160 = .ok (.bipush 94, 2) := by decide +kernel
theorem d1_162 : decode method_3_code 162 = .ok (.if_icmp .eq 27, 3) := by decide +kernel
theorem d1_165 : decode method_3_code 165 = .ok (.iload_n 1, 1) := by decide +kernel
theorem d1_166 : decode method_3_code 166 = .ok (.bipush 126, 2) := by decide +kernel
theorem d1_168 : decode method_3_code 168 = .ok (.if_icmp .eq 21, 3) := by decide +kernel
theorem d1_171 : decode method_3_code 171 = .ok (.iload_n 1, 1) := by decide +kernel
theorem d1_172 : decode method_3_code 172 = .ok (.bipush 91, 2) := by decide +kernel
theorem d1_174 : decode method_3_code 174 = .ok (.if_icmp .eq 15, 3) := by decide +kernel
theorem d1_177 : decode method_3_code 177 = .ok (.iload_n 1, 1) := by decide +kernel
theorem d1_178 : decode method_3_code 178 = .ok (.bipush 93, 2) := by decide +kernel
theorem d1_180 : decode method_3_code 180 = .ok (.if_icmp .eq 9, 3) := by decide +kernel
theorem d1_183 : decode method_3_code 183 = .ok (.iload_n 1, 1) := by decide +kernel
theorem d1_184 : decode method_3_code 184 = .ok (.bipush 96, 2) := by decide +kernel
theorem d1_186 : decode method_3_code 186 = .ok (.if_icmp .ne 7, 3) := by decide +kernel
theorem d1_193 : decode method_3_code 193 = .ok (.iconst 0, 1) := by decide +kernel
theorem d1_194 : decode method_3_code 194 = .ok (.istore 7, 2) := by decide +kernel
theorem d1_196 : decode method_3_code 196 = .ok (.iload_n 1, 1) := by decide +kernel
theorem d1_197 : decode method_3_code 197 = .ok (.bipush 60, 2) := by decide +kernel
theorem d1_199 : decode method_3_code 199 = .ok (.if_icmp .eq 27, 3) := by decide +kernel
theorem d1_226 : decode method_3_code 226 = .ok (.iconst 1, 1) := by decide +kernel
theorem d1_227 : decode method_3_code 227 = .ok (.goto 4, 3) := by decide +kernel
theorem d1_202 : decode method_3_code 202 = .ok (.iload_n 1, 1) := by decide +kernel
theorem d1_203 : decode method_3_code 203 = .ok (.bipush 62, 2) := by decide +kernel
theorem d1_205 : decode method_3_code 205 = .ok (.if_icmp .eq 21, 3) := by decide +kernel
theorem d1_208 : decode method_3_code 208 = .ok (.iload_n 1, 1) := by decide +kernel
theorem d1_209 : decode method_3_code 209 = .ok (.bipush 35, 2) := by decide +kernel
theorem d1_211 : decode method_3_code 211 = .ok (.if_icmp .eq 15, 3) := by decide +kernel
theorem d1_214 : decode method_3_code 214 = .ok (.iload_n 1, 1) := by decide +kernel
theorem d1_215 : decode method_3_code 215 = .ok (.bipush 37, 2) := by decide +kernel
theorem d1_217 : decode method_3_code 217 = .ok (.if_icmp .eq 9, 3) := by decide +kernel
theorem d1_220 : decode method_3_code 220 = .ok (.iload_n 1, 1) := by decide +kernel
theorem d1_221 : decode method_3_code 221 = .ok (.bipush 34, 2) := by decide +kernel
theorem d1_223 : decode method_3_code 223 = .ok (.if_icmp .ne 7, 3) := by decide +kernel
theorem d1_230 : decode method_3_code 230 = .ok (.iconst 0, 1) := by decide +kernel
theorem d1_231 : decode method_3_code 231 = .ok (.istore 8, 2) := by decide +kernel
theorem d1_233 : decode method_3_code 233 = .ok (.iload_n 1, 1) := by decide +kernel
theorem d1_234 : decode method_3_code 234 = .ok (.bipush 59, 2) := by decide +kernel
theorem d1_236 : decode method_3_code 236 = .ok (.if_icmp .eq 39, 3) := by decide +kernel
theorem d1_275 : decode method_3_code 275 = .ok (.iconst 1, 1) := by decide +kernel
theorem d1_276 : decode method_3_code 276 = .ok (.goto 4, 3) := by decide +kernel
theorem d1_239 : decode method_3_code 239 = .ok (.iload_n 1, 1) := by decide +kernel
theorem d1_240 : decode method_3_code 240 = .ok (.bipush 47, 2) := by decide +kernel
theorem d1_242 : decode method_3_code 242 = .ok (.if_icmp .eq 33, 3) := by decide +kernel
theorem d1_245 : decode method_3_code 245 = .ok (.iload_n 1, 1) := by decide +kernel
theorem d1_246 : decode method_3_code 246 = .ok (.bipush 63, 2) := by decide +kernel
theorem d1_248 : decode method_3_code 248 = .ok (.if_icmp .eq 27, 3) := by decide +kernel
theorem d1_251 : decode method_3_code 251 = .ok (.iload_n 1, 1) := by decide +kernel
theorem d1_252 : decode method_3_code 252 = .ok (.bipush 58, 2) := by decide +kernel
theorem d1_254 : decode method_3_code 254 = .ok (.if_icmp .eq 21, 3) := by decide +kernel
theorem d1_257 : decode method_3_code 257 = .ok (.iload_n 1, 1) := by decide +kernel
theorem d1_258 : decode method_3_code 258 = .ok (.bipush 64, 2) := by decide +kernel
theorem d1_260 : decode method_3_code 260 = .ok (.if_icmp .eq 15, 3) := by decide +kernel
theorem d1_263 : decode method_3_code 263 = .ok (.iload_n 1, 1) := by decide +kernel
theorem d1_264 : decode method_3_code 264 = .ok (.bipush 38, 2) := by decide +kernel
theorem d1_266 : decode method_3_code 266 = .ok (.if_icmp .eq 9, 3) := by decide +kernel
theorem d1_269 : decode method_3_code 269 = .ok (.iload_n 1, 1) := by decide +kernel
theorem d1_270 : decode method_3_code 270 = .ok (.bipush 61, 2) := by decide +kernel
theorem d1_272 : decode method_3_code 272 = .ok (.if_icmp .ne 7, 3) := by decide +kernel
theorem d1_279 : decode method_3_code 279 = .ok (.iconst 0, 1) := by decide +kernel
theorem d1_280 : decode method_3_code 280 = .ok (.istore 9, 2) := by decide +kernel
theorem d1_282 : decode method_3_code 282 = .ok (.iload_n 1, 1) := by decide +kernel
theorem d1_283 : decode method_3_code 283 = .ok (.bipush 65, 2) := by decide +kernel
theorem d1_285 : decode method_3_code 285 = .ok (.if_icmp .lt 9, 3) := by decide +kernel
theorem d1_294 : decode method_3_code 294 = .ok (.iload_n 1, 1) := by decide +kernel
theorem d1_295 : decode method_3_code 295 = .ok (.bipush 97, 2) := by decide +kernel
theorem d1_297 : decode method_3_code 297 = .ok (.if_icmp .lt 13, 3) := by decide +kernel
theorem d1_310 : decode method_3_code 310 = .ok (.iconst 0, 1) := by decide +kernel
theorem d1_300 : decode method_3_code 300 = .ok (.iload_n 1, 1) := by decide +kernel
theorem d1_301 : decode method_3_code 301 = .ok (.bipush 102, 2) := by decide +kernel
theorem d1_303 : decode method_3_code 303 = .ok (.if_icmp .gt 7, 3) := by decide +kernel
theorem d1_306 : decode method_3_code 306 = .ok (.iconst 1, 1) := by decide +kernel
theorem d1_307 : decode method_3_code 307 = .ok (.goto 4, 3) := by decide +kernel
theorem d1_288 : decode method_3_code 288 = .ok (.iload_n 1, 1) := by decide +kernel
theorem d1_289 : decode method_3_code 289 = .ok (.bipush 70, 2) := by decide +kernel
theorem d1_291 : decode method_3_code 291 = .ok (.if_icmp .le 15, 3) := by decide +kernel
theorem d1_311 : decode method_3_code 311 = .ok (.istore 10, 2) := by decide +kernel
theorem d1_313 : decode method_3_code 313 = .ok (.iload_n 0, 1) := by decide +kernel
theorem d1_314 : decode method_3_code 314 = .ok (.ifCond .ne 5, 3) := by decide +kernel
theorem d1_317 : decode method_3_code 317 = .ok (.iload_n 2, 1) := by decide +kernel
theorem d1_318 : decode method_3_code 318 = .ok (.ireturn, 1) := by decide +kernel
theorem d1_319 : decode method_3_code 319 = .ok (.iload_n 0, 1) := by decide +kernel
theorem d1_320 : decode method_3_code 320 = .ok (.iconst 1, 1) := by decide +kernel
theorem d1_321 : decode method_3_code 321 = .ok (.if_icmp .ne 5, 3) := by decide +kernel
theorem d1_324 : decode method_3_code 324 = .ok (.iload_n 3, 1) := by decide +kernel
theorem d1_325 : decode method_3_code 325 = .ok (.ireturn, 1) := by decide +kernel
theorem d1_326 : decode method_3_code 326 = .ok (.iload_n 0, 1) := by decide +kernel
theorem d1_327 : decode method_3_code 327 = .ok (.iconst 2, 1) := by decide +kernel
theorem d1_328 : decode method_3_code 328 = .ok (.if_icmp .ne 17, 3) := by decide +kernel
theorem d1_331 : decode method_3_code 331 = .ok (.iload_n 2, 1) := by decide +kernel
theorem d1_332 : decode method_3_code 332 = .ok (.ifCond .ne 7, 3) := by decide +kernel
theorem d1_335 : decode method_3_code 335 = .ok (.iload_n 3, 1) := by decide +kernel
theorem d1_336 : decode method_3_code 336 = .ok (.ifCond .eq 7, 3) := by decide +kernel
theorem d1_343 : decode method_3_code 343 = .ok (.iconst 0, 1) := by decide +kernel
theorem d1_344 : decode method_3_code 344 = .ok (.ireturn, 1) := by decide +kernel
theorem d1_339 : decode method_3_code 339 = .ok (.iconst 1, 1) := by decide +kernel
theorem d1_340 : decode method_3_code 340 = .ok (.goto 4, 3) := by decide +kernel
theorem d1_345 : decode method_3_code 345 = .ok (.iload_n 0, 1) := by decide +kernel
theorem d1_346 : decode method_3_code 346 = .ok (.iconst 3, 1) := by decide +kernel
theorem d1_347 : decode method_3_code 347 = .ok (.if_icmp .ne 6, 3) := by decide +kernel
theorem d1_350 : decode method_3_code 350 = .ok (.iload 4, 2) := by decide +kernel
theorem d1_352 : decode method_3_code 352 = .ok (.ireturn, 1) := by decide +kernel
theorem d1_353 : decode method_3_code 353 = .ok (.iload_n 0, 1) := by decide +kernel
theorem d1_354 : decode method_3_code 354 = .ok (.iconst 4, 1) := by decide +kernel
theorem d1_355 : decode method_3_code 355 = .ok (.if_icmp .ne 22, 3) := by decide +kernel
theorem d1_358 : decode method_3_code 358 = .ok (.iload_n 2, 1) := by decide +kernel
theorem d1_359 : decode method_3_code 359 = .ok (.ifCond .ne 12, 3) := by decide +kernel
theorem d1_362 : decode method_3_code 362 = .ok (.iload_n 3, 1) := by decide +kernel
theorem d1_363 : decode method_3_code 363 = .ok (.ifCond .ne 8, 3) := by decide +kernel
theorem d1_366 : decode method_3_code 366 = .ok (.iload 4, 2) := by decide +kernel
theorem d1_368 : decode method_3_code 368 = .ok (.ifCond .eq 7, 3) := by decide +kernel
theorem d1_375 : decode method_3_code 375 = .ok (.iconst 0, 1) := by decide +kernel
theorem d1_376 : decode method_3_code 376 = .ok (.ireturn, 1) := by decide +kernel
theorem d1_371 : decode method_3_code 371 = .ok (.iconst 1, 1) := by decide +kernel
theorem d1_372 : decode method_3_code 372 = .ok (.goto 4, 3) := by decide +kernel
theorem d1_377 : decode method_3_code 377 = .ok (.iload_n 0, 1) := by decide +kernel
theorem d1_378 : decode method_3_code 378 = .ok (.iconst 5, 1) := by decide +kernel
theorem d1_379 : decode method_3_code 379 = .ok (.if_icmp .ne 6, 3) := by decide +kernel
theorem d1_382 : decode method_3_code 382 = .ok (.iload 5, 2) := by decide +kernel
theorem d1_384 : decode method_3_code 384 = .ok (.ireturn, 1) := by decide +kernel
theorem d1_385 : decode method_3_code 385 = .ok (.iload_n 0, 1) := by decide +kernel
theorem d1_386 : decode method_3_code 386 = .ok (.bipush 6, 2) := by decide +kernel
theorem d1_388 : decode method_3_code 388 = .ok (.if_icmp .ne 6, 3) := by decide +kernel
theorem d1_391 : decode method_3_code 391 = .ok (.iload 6, 2) := by decide +kernel
theorem d1_393 : decode method_3_code 393 = .ok (.ireturn, 1) := by decide +kernel
theorem d1_394 : decode method_3_code 394 = .ok (.iload_n 0, 1) := by decide +kernel
theorem d1_395 : decode method_3_code 395 = .ok (.bipush 7, 2) := by decide +kernel
theorem d1_397 : decode method_3_code 397 = .ok (.if_icmp .ne 6, 3) := by decide +kernel
theorem d1_400 : decode method_3_code 400 = .ok (.iload 7, 2) := by decide +kernel
theorem d1_402 : decode method_3_code 402 = .ok (.ireturn, 1) := by decide +kernel
theorem d1_403 : decode method_3_code 403 = .ok (.iload_n 0, 1) := by decide +kernel
theorem d1_404 : decode method_3_code 404 = .ok (.bipush 8, 2) := by decide +kernel
theorem d1_406 : decode method_3_code 406 = .ok (.if_icmp .ne 6, 3) := by decide +kernel
theorem d1_409 : decode method_3_code 409 = .ok (.iload 8, 2) := by decide +kernel
theorem d1_411 : decode method_3_code 411 = .ok (.ireturn, 1) := by decide +kernel
theorem d1_412 : decode method_3_code 412 = .ok (.iload_n 0, 1) := by decide +kernel
theorem d1_413 : decode method_3_code 413 = .ok (.bipush 9, 2) := by decide +kernel
theorem d1_415 : decode method_3_code 415 = .ok (.if_icmp .ne 6, 3) := by decide +kernel
theorem d1_418 : decode method_3_code 418 = .ok (.iload 9, 2) := by decide +kernel
theorem d1_420 : decode method_3_code 420 = .ok (.ireturn, 1) := by decide +kernel
theorem d1_421 : decode method_3_code 421 = .ok (.iload_n 0, 1) := by decide +kernel
theorem d1_422 : decode method_3_code 422 = .ok (.bipush 10, 2) := by decide +kernel
theorem d1_424 : decode method_3_code 424 = .ok (.if_icmp .ne 19, 3) := by decide +kernel
theorem d1_427 : decode method_3_code 427 = .ok (.iload 10, 2) := by decide +kernel
theorem d1_429 : decode method_3_code 429 = .ok (.ifCond .ne 8, 3) := by decide +kernel
theorem d1_432 : decode method_3_code 432 = .ok (.iload 4, 2) := by decide +kernel
theorem d1_434 : decode method_3_code 434 = .ok (.ifCond .eq 7, 3) := by decide +kernel
theorem d1_441 : decode method_3_code 441 = .ok (.iconst 0, 1) := by decide +kernel
theorem d1_442 : decode method_3_code 442 = .ok (.ireturn, 1) := by decide +kernel
theorem d1_437 : decode method_3_code 437 = .ok (.iconst 1, 1) := by decide +kernel
theorem d1_438 : decode method_3_code 438 = .ok (.goto 4, 3) := by decide +kernel
theorem d1_443 : decode method_3_code 443 = .ok (.iload_n 2, 1) := by decide +kernel
theorem d1_444 : decode method_3_code 444 = .ok (.ifCond .ne 22, 3) := by decide +kernel
theorem d1_447 : decode method_3_code 447 = .ok (.iload_n 3, 1) := by decide +kernel
theorem d1_448 : decode method_3_code 448 = .ok (.ifCond .ne 18, 3) := by decide +kernel
theorem d1_451 : decode method_3_code 451 = .ok (.iload 4, 2) := by decide +kernel
theorem d1_453 : decode method_3_code 453 = .ok (.ifCond .ne 13, 3) := by decide +kernel
theorem d1_456 : decode method_3_code 456 = .ok (.iload 5, 2) := by decide +kernel
theorem d1_458 : decode method_3_code 458 = .ok (.ifCond .ne 8, 3) := by decide +kernel
theorem d1_461 : decode method_3_code 461 = .ok (.iload 6, 2) := by decide +kernel
theorem d1_463 : decode method_3_code 463 = .ok (.ifCond .eq 7, 3) := by decide +kernel
theorem d1_470 : decode method_3_code 470 = .ok (.iconst 0, 1) := by decide +kernel
theorem d1_471 : decode method_3_code 471 = .ok (.ireturn, 1) := by decide +kernel
theorem d1_466 : decode method_3_code 466 = .ok (.iconst 1, 1) := by decide +kernel
theorem d1_467 : decode method_3_code 467 = .ok (.goto 4, 3) := by decide +kernel
def Q_rm2 (Z : State) (k1 : Int32) (c1 : Int32) (h0 : Heap) (n0 : Nat) (v : Option Value) (h : Heap) (L : List Loc) : Prop := v = some (.int (refV k1 c1)) ∧ Fr n0 L ∧ h = h0
set_option maxRecDepth 65536 in
set_option maxHeartbeats 40000000 in
theorem rm2 (l : Launch) (Z : State) (a0 : Array Value) (hw : ∀ d ∈ tables_1, d.before a0 Z = true) (ws : List Jvm.Cond) (k1 : Int32) (c1 : Int32) (h0 : Heap) (n0 : Nat) (Z0 : n0 ≤ h0.size)  :
    MetFree l (⟨"com/example/wayfaring_tree/wayfaringtree/grammar/CharClassContainsPinLaw", "ref", "(IC)Z"⟩ : MethodName) (head1 (Jvm.Cond.code (⟨"com/example/wayfaring_tree/wayfaringtree/grammar/CharClassContainsPinLaw", "ref", "(IC)Z"⟩ : MethodName) method_3_code 11 (some .boolean) :: ws) ({ frames := 0, cells := 0, slots := 0, locals := 0 } : Room)) (fun a U => a = #[(.int k1), (.int c1)] ∧ Z.Warmed39 U.vm ∧ U.heap = h0) (fun _ _ _ _ _ => True) (fun _ U o U' => ∃ v L, o = .returned v ∧ Q_rm2 Z k1 c1 h0 n0 v U'.heap L ∧ FrameEnd U o U' L ({ frames := 0, cells := 0, slots := 0, locals := 0 } : Room).cells ({ frames := 0, cells := 0, slots := 0, locals := 0 } : Room).slots) := by
  refine MetFree.of_bodySF (plainFor_of_name pn_com_example_wayfaring_tree_wayfaringtree_grammar_CharClassContainsPinLaw) hisR ?_
  intro p e s m args below meth c s₁ Bd hml0 hP hK
  obtain ⟨rfl, hZ, hh⟩ := hP
  have hx := Bd.exec
  have hby := Bd.bytes
  have hml : c.maxLocals = 11 := hml0
  have hown : s.vm.findClass "com/example/wayfaring_tree/wayfaringtree/grammar/CharClassContainsPinLaw" = some m.cls := findClass_of_methodNamed Bd.named
  have hnm := (name_of_methodNamed Bd.named Bd.method).1
  have X0 : Stand p l e ({ frames := 0, cells := 0, slots := 0, locals := 0 } : Room) s m #[(.int k1), (.int c1)] below meth c s₁ [] 0 0 := Stand.of_body Bd
  have e0 : s₁.heap = h0 := by rw [← hh, Bd.state]; rfl
  have N0 := Fr.nil n0
  have ef : entryFrame m #[(.int k1), (.int c1)] 11 = mkF m 0 #[.val (.int k1), .val (.int c1), .unset, .unset, .unset, .unset, .unset, .unset, .unset, .unset, .unset] [] := by first | (simp [entryFrame, mkF, argsToLocals, Value.category, maxLocals]; done) | rfl
  show Go p e below (FinN s (Q_rm2 Z k1 c1 h0 n0) ({ frames := 0, cells := 0, slots := 0, locals := 0 } : Room).cells ({ frames := 0, cells := 0, slots := 0, locals := 0 } : Room).slots) s₁ (entryFrame m #[(.int k1), (.int c1)] 11)
  rw [ef]
  show Go _ _ _ _ s₁ (mkF m 0 #[.val (.int k1), .val (.int c1), .unset, .unset, .unset, .unset, .unset, .unset, .unset, .unset, .unset] [])
  refine Go.join s₁ (mkF m 17 #[.val (.int k1), .val (.int c1), .unset, .unset, .unset, .unset, .unset, .unset, .unset, .unset, .unset] [(.int (lowB c1))]) ?_ ?_
  · intro kk
    refine Go.by (fun _ k => XS.iloadN X0.here hx rfl (hb hby d1_0) rfl k) ?_
    show Go _ _ _ _ s₁ (mkF m 1 #[.val (.int k1), .val (.int c1), .unset, .unset, .unset, .unset, .unset, .unset, .unset, .unset, .unset] [(.int c1)])
    refine Go.by (fun _ k => XT.bipushV X0.here hx rfl (97 : Int32) (hb hby d1_1) (by decide) k) ?_
    show Go _ _ _ _ s₁ (mkF m 3 #[.val (.int k1), .val (.int c1), .unset, .unset, .unset, .unset, .unset, .unset, .unset, .unset, .unset] [(.int (97 : Int32)), (.int c1)])
    by_cases c103 : c1 < (97 : Int32)
    · refine Go.by (fun _ k => XS.icmpYes X0.here hx rfl (pc0 := 3) (pc' := 16) rfl (hb hby d1_3) rfl (XT.ii_lt_t c103) (by decide) (by decide) k) ?_
      show Go _ _ _ _ s₁ (mkF m 16 #[.val (.int k1), .val (.int c1), .unset, .unset, .unset, .unset, .unset, .unset, .unset, .unset, .unset] [])
      refine Go.by (fun _ k => XT.iconstV X0.here hx rfl (0 : Int32) (hb hby d1_16) (by decide) k) ?_
      show Go _ _ _ _ s₁ (mkF m 17 #[.val (.int k1), .val (.int c1), .unset, .unset, .unset, .unset, .unset, .unset, .unset, .unset, .unset] [(.int (0 : Int32))])
      rw [show lowB c1 = (0 : Int32) from by simp [lowB, c103]] at kk
      exact kk
    · refine Go.by (fun _ k => XS.icmpNo X0.here hx rfl (hb hby d1_3) rfl (XT.ii_lt_f c103) k) ?_
      show Go _ _ _ _ s₁ (mkF m 6 #[.val (.int k1), .val (.int c1), .unset, .unset, .unset, .unset, .unset, .unset, .unset, .unset, .unset] [])
      refine Go.by (fun _ k => XS.iloadN X0.here hx rfl (hb hby d1_6) rfl k) ?_
      show Go _ _ _ _ s₁ (mkF m 7 #[.val (.int k1), .val (.int c1), .unset, .unset, .unset, .unset, .unset, .unset, .unset, .unset, .unset] [(.int c1)])
      refine Go.by (fun _ k => XT.bipushV X0.here hx rfl (122 : Int32) (hb hby d1_7) (by decide) k) ?_
      show Go _ _ _ _ s₁ (mkF m 9 #[.val (.int k1), .val (.int c1), .unset, .unset, .unset, .unset, .unset, .unset, .unset, .unset, .unset] [(.int (122 : Int32)), (.int c1)])
      by_cases c104 : (122 : Int32) < c1
      · refine Go.by (fun _ k => XS.icmpYes X0.here hx rfl (pc0 := 9) (pc' := 16) rfl (hb hby d1_9) rfl (XT.ii_gt_t c104) (by decide) (by decide) k) ?_
        show Go _ _ _ _ s₁ (mkF m 16 #[.val (.int k1), .val (.int c1), .unset, .unset, .unset, .unset, .unset, .unset, .unset, .unset, .unset] [])
        refine Go.by (fun _ k => XT.iconstV X0.here hx rfl (0 : Int32) (hb hby d1_16) (by decide) k) ?_
        show Go _ _ _ _ s₁ (mkF m 17 #[.val (.int k1), .val (.int c1), .unset, .unset, .unset, .unset, .unset, .unset, .unset, .unset, .unset] [(.int (0 : Int32))])
        rw [show lowB c1 = (0 : Int32) from by simp [lowB, c103, c104]] at kk
        exact kk
      · refine Go.by (fun _ k => XS.icmpNo X0.here hx rfl (hb hby d1_9) rfl (XT.ii_gt_f c104) k) ?_
        show Go _ _ _ _ s₁ (mkF m 12 #[.val (.int k1), .val (.int c1), .unset, .unset, .unset, .unset, .unset, .unset, .unset, .unset, .unset] [])
        refine Go.by (fun _ k => XT.iconstV X0.here hx rfl (1 : Int32) (hb hby d1_12) (by decide) k) ?_
        show Go _ _ _ _ s₁ (mkF m 13 #[.val (.int k1), .val (.int c1), .unset, .unset, .unset, .unset, .unset, .unset, .unset, .unset, .unset] [(.int (1 : Int32))])
        refine Go.by (fun _ k => XS.goto X0.here hx rfl (pc0 := 13) (pc' := 17) rfl (hb hby d1_13) (by decide) (by decide) k) ?_
        show Go _ _ _ _ s₁ (mkF m 17 #[.val (.int k1), .val (.int c1), .unset, .unset, .unset, .unset, .unset, .unset, .unset, .unset, .unset] [(.int (1 : Int32))])
        rw [show lowB c1 = (1 : Int32) from by simp [lowB, c103, c104]] at kk
        exact kk
  refine Go.by (fun _ k => XS.istoreN X0.here hx rfl (hb hby d1_17) rfl (l' := #[.val (.int k1), .val (.int c1), .val (.int (lowB c1)), .unset, .unset, .unset, .unset, .unset, .unset, .unset, .unset]) rfl k) ?_
  show Go _ _ _ _ s₁ (mkF m 18 #[.val (.int k1), .val (.int c1), .val (.int (lowB c1)), .unset, .unset, .unset, .unset, .unset, .unset, .unset, .unset] [])
  refine Go.join s₁ (mkF m 35 #[.val (.int k1), .val (.int c1), .val (.int (lowB c1)), .unset, .unset, .unset, .unset, .unset, .unset, .unset, .unset] [(.int (upB c1))]) ?_ ?_
  · intro kk
    refine Go.by (fun _ k => XS.iloadN X0.here hx rfl (hb hby d1_18) rfl k) ?_
    show Go _ _ _ _ s₁ (mkF m 19 #[.val (.int k1), .val (.int c1), .val (.int (lowB c1)), .unset, .unset, .unset, .unset, .unset, .unset, .unset, .unset] [(.int c1)])
    refine Go.by (fun _ k => XT.bipushV X0.here hx rfl (65 : Int32) (hb hby d1_19) (by decide) k) ?_
    show Go _ _ _ _ s₁ (mkF m 21 #[.val (.int k1), .val (.int c1), .val (.int (lowB c1)), .unset, .unset, .unset, .unset, .unset, .unset, .unset, .unset] [(.int (65 : Int32)), (.int c1)])
    by_cases c105 : c1 < (65 : Int32)
    · refine Go.by (fun _ k => XS.icmpYes X0.here hx rfl (pc0 := 21) (pc' := 34) rfl (hb hby d1_21) rfl (XT.ii_lt_t c105) (by decide) (by decide) k) ?_
      show Go _ _ _ _ s₁ (mkF m 34 #[.val (.int k1), .val (.int c1), .val (.int (lowB c1)), .unset, .unset, .unset, .unset, .unset, .unset, .unset, .unset] [])
      refine Go.by (fun _ k => XT.iconstV X0.here hx rfl (0 : Int32) (hb hby d1_34) (by decide) k) ?_
      show Go _ _ _ _ s₁ (mkF m 35 #[.val (.int k1), .val (.int c1), .val (.int (lowB c1)), .unset, .unset, .unset, .unset, .unset, .unset, .unset, .unset] [(.int (0 : Int32))])
      rw [show upB c1 = (0 : Int32) from by simp [upB, c105]] at kk
      exact kk
    · refine Go.by (fun _ k => XS.icmpNo X0.here hx rfl (hb hby d1_21) rfl (XT.ii_lt_f c105) k) ?_
      show Go _ _ _ _ s₁ (mkF m 24 #[.val (.int k1), .val (.int c1), .val (.int (lowB c1)), .unset, .unset, .unset, .unset, .unset, .unset, .unset, .unset] [])
      refine Go.by (fun _ k => XS.iloadN X0.here hx rfl (hb hby d1_24) rfl k) ?_
      show Go _ _ _ _ s₁ (mkF m 25 #[.val (.int k1), .val (.int c1), .val (.int (lowB c1)), .unset, .unset, .unset, .unset, .unset, .unset, .unset, .unset] [(.int c1)])
      refine Go.by (fun _ k => XT.bipushV X0.here hx rfl (90 : Int32) (hb hby d1_25) (by decide) k) ?_
      show Go _ _ _ _ s₁ (mkF m 27 #[.val (.int k1), .val (.int c1), .val (.int (lowB c1)), .unset, .unset, .unset, .unset, .unset, .unset, .unset, .unset] [(.int (90 : Int32)), (.int c1)])
      by_cases c106 : (90 : Int32) < c1
      · refine Go.by (fun _ k => XS.icmpYes X0.here hx rfl (pc0 := 27) (pc' := 34) rfl (hb hby d1_27) rfl (XT.ii_gt_t c106) (by decide) (by decide) k) ?_
        show Go _ _ _ _ s₁ (mkF m 34 #[.val (.int k1), .val (.int c1), .val (.int (lowB c1)), .unset, .unset, .unset, .unset, .unset, .unset, .unset, .unset] [])
        refine Go.by (fun _ k => XT.iconstV X0.here hx rfl (0 : Int32) (hb hby d1_34) (by decide) k) ?_
        show Go _ _ _ _ s₁ (mkF m 35 #[.val (.int k1), .val (.int c1), .val (.int (lowB c1)), .unset, .unset, .unset, .unset, .unset, .unset, .unset, .unset] [(.int (0 : Int32))])
        rw [show upB c1 = (0 : Int32) from by simp [upB, c105, c106]] at kk
        exact kk
      · refine Go.by (fun _ k => XS.icmpNo X0.here hx rfl (hb hby d1_27) rfl (XT.ii_gt_f c106) k) ?_
        show Go _ _ _ _ s₁ (mkF m 30 #[.val (.int k1), .val (.int c1), .val (.int (lowB c1)), .unset, .unset, .unset, .unset, .unset, .unset, .unset, .unset] [])
        refine Go.by (fun _ k => XT.iconstV X0.here hx rfl (1 : Int32) (hb hby d1_30) (by decide) k) ?_
        show Go _ _ _ _ s₁ (mkF m 31 #[.val (.int k1), .val (.int c1), .val (.int (lowB c1)), .unset, .unset, .unset, .unset, .unset, .unset, .unset, .unset] [(.int (1 : Int32))])
        refine Go.by (fun _ k => XS.goto X0.here hx rfl (pc0 := 31) (pc' := 35) rfl (hb hby d1_31) (by decide) (by decide) k) ?_
        show Go _ _ _ _ s₁ (mkF m 35 #[.val (.int k1), .val (.int c1), .val (.int (lowB c1)), .unset, .unset, .unset, .unset, .unset, .unset, .unset, .unset] [(.int (1 : Int32))])
        rw [show upB c1 = (1 : Int32) from by simp [upB, c105, c106]] at kk
        exact kk
  refine Go.by (fun _ k => XS.istoreN X0.here hx rfl (hb hby d1_35) rfl (l' := #[.val (.int k1), .val (.int c1), .val (.int (lowB c1)), .val (.int (upB c1)), .unset, .unset, .unset, .unset, .unset, .unset, .unset]) rfl k) ?_
  show Go _ _ _ _ s₁ (mkF m 36 #[.val (.int k1), .val (.int c1), .val (.int (lowB c1)), .val (.int (upB c1)), .unset, .unset, .unset, .unset, .unset, .unset, .unset] [])
  refine Go.join s₁ (mkF m 53 #[.val (.int k1), .val (.int c1), .val (.int (lowB c1)), .val (.int (upB c1)), .unset, .unset, .unset, .unset, .unset, .unset, .unset] [(.int (digB c1))]) ?_ ?_
  · intro kk
    refine Go.by (fun _ k => XS.iloadN X0.here hx rfl (hb hby d1_36) rfl k) ?_
    show Go _ _ _ _ s₁ (mkF m 37 #[.val (.int k1), .val (.int c1), .val (.int (lowB c1)), .val (.int (upB c1)), .unset, .unset, .unset, .unset, .unset, .unset, .unset] [(.int c1)])
    refine Go.by (fun _ k => XT.bipushV X0.here hx rfl (48 : Int32) (hb hby d1_37) (by decide) k) ?_
    show Go _ _ _ _ s₁ (mkF m 39 #[.val (.int k1), .val (.int c1), .val (.int (lowB c1)), .val (.int (upB c1)), .unset, .unset, .unset, .unset, .unset, .unset, .unset] [(.int (48 : Int32)), (.int c1)])
    by_cases c107 : c1 < (48 : Int32)
    · refine Go.by (fun _ k => XS.icmpYes X0.here hx rfl (pc0 := 39) (pc' := 52) rfl (hb hby d1_39) rfl (XT.ii_lt_t c107) (by decide) (by decide) k) ?_
      show Go _ _ _ _ s₁ (mkF m 52 #[.val (.int k1), .val (.int c1), .val (.int (lowB c1)), .val (.int (upB c1)), .unset, .unset, .unset, .unset, .unset, .unset, .unset] [])
      refine Go.by (fun _ k => XT.iconstV X0.here hx rfl (0 : Int32) (hb hby d1_52) (by decide) k) ?_
      show Go _ _ _ _ s₁ (mkF m 53 #[.val (.int k1), .val (.int c1), .val (.int (lowB c1)), .val (.int (upB c1)), .unset, .unset, .unset, .unset, .unset, .unset, .unset] [(.int (0 : Int32))])
      rw [show digB c1 = (0 : Int32) from by simp [digB, c107]] at kk
      exact kk
    · refine Go.by (fun _ k => XS.icmpNo X0.here hx rfl (hb hby d1_39) rfl (XT.ii_lt_f c107) k) ?_
      show Go _ _ _ _ s₁ (mkF m 42 #[.val (.int k1), .val (.int c1), .val (.int (lowB c1)), .val (.int (upB c1)), .unset, .unset, .unset, .unset, .unset, .unset, .unset] [])
      refine Go.by (fun _ k => XS.iloadN X0.here hx rfl (hb hby d1_42) rfl k) ?_
      show Go _ _ _ _ s₁ (mkF m 43 #[.val (.int k1), .val (.int c1), .val (.int (lowB c1)), .val (.int (upB c1)), .unset, .unset, .unset, .unset, .unset, .unset, .unset] [(.int c1)])
      refine Go.by (fun _ k => XT.bipushV X0.here hx rfl (57 : Int32) (hb hby d1_43) (by decide) k) ?_
      show Go _ _ _ _ s₁ (mkF m 45 #[.val (.int k1), .val (.int c1), .val (.int (lowB c1)), .val (.int (upB c1)), .unset, .unset, .unset, .unset, .unset, .unset, .unset] [(.int (57 : Int32)), (.int c1)])
      by_cases c108 : (57 : Int32) < c1
      · refine Go.by (fun _ k => XS.icmpYes X0.here hx rfl (pc0 := 45) (pc' := 52) rfl (hb hby d1_45) rfl (XT.ii_gt_t c108) (by decide) (by decide) k) ?_
        show Go _ _ _ _ s₁ (mkF m 52 #[.val (.int k1), .val (.int c1), .val (.int (lowB c1)), .val (.int (upB c1)), .unset, .unset, .unset, .unset, .unset, .unset, .unset] [])
        refine Go.by (fun _ k => XT.iconstV X0.here hx rfl (0 : Int32) (hb hby d1_52) (by decide) k) ?_
        show Go _ _ _ _ s₁ (mkF m 53 #[.val (.int k1), .val (.int c1), .val (.int (lowB c1)), .val (.int (upB c1)), .unset, .unset, .unset, .unset, .unset, .unset, .unset] [(.int (0 : Int32))])
        rw [show digB c1 = (0 : Int32) from by simp [digB, c107, c108]] at kk
        exact kk
      · refine Go.by (fun _ k => XS.icmpNo X0.here hx rfl (hb hby d1_45) rfl (XT.ii_gt_f c108) k) ?_
        show Go _ _ _ _ s₁ (mkF m 48 #[.val (.int k1), .val (.int c1), .val (.int (lowB c1)), .val (.int (upB c1)), .unset, .unset, .unset, .unset, .unset, .unset, .unset] [])
        refine Go.by (fun _ k => XT.iconstV X0.here hx rfl (1 : Int32) (hb hby d1_48) (by decide) k) ?_
        show Go _ _ _ _ s₁ (mkF m 49 #[.val (.int k1), .val (.int c1), .val (.int (lowB c1)), .val (.int (upB c1)), .unset, .unset, .unset, .unset, .unset, .unset, .unset] [(.int (1 : Int32))])
        refine Go.by (fun _ k => XS.goto X0.here hx rfl (pc0 := 49) (pc' := 53) rfl (hb hby d1_49) (by decide) (by decide) k) ?_
        show Go _ _ _ _ s₁ (mkF m 53 #[.val (.int k1), .val (.int c1), .val (.int (lowB c1)), .val (.int (upB c1)), .unset, .unset, .unset, .unset, .unset, .unset, .unset] [(.int (1 : Int32))])
        rw [show digB c1 = (1 : Int32) from by simp [digB, c107, c108]] at kk
        exact kk
  refine Go.by (fun _ k => XS.istore X0.here hx rfl (hb hby d1_53) rfl (l' := #[.val (.int k1), .val (.int c1), .val (.int (lowB c1)), .val (.int (upB c1)), .val (.int (digB c1)), .unset, .unset, .unset, .unset, .unset, .unset]) rfl k) ?_
  show Go _ _ _ _ s₁ (mkF m 55 #[.val (.int k1), .val (.int c1), .val (.int (lowB c1)), .val (.int (upB c1)), .val (.int (digB c1)), .unset, .unset, .unset, .unset, .unset, .unset] [])
  refine Go.join s₁ (mkF m 90 #[.val (.int k1), .val (.int c1), .val (.int (lowB c1)), .val (.int (upB c1)), .val (.int (digB c1)), .unset, .unset, .unset, .unset, .unset, .unset] [(.int (safeB c1))]) ?_ ?_
  · intro kk
    refine Go.by (fun _ k => XS.iloadN X0.here hx rfl (hb hby d1_55) rfl k) ?_
    show Go _ _ _ _ s₁ (mkF m 56 #[.val (.int k1), .val (.int c1), .val (.int (lowB c1)), .val (.int (upB c1)), .val (.int (digB c1)), .unset, .unset, .unset, .unset, .unset, .unset] [(.int c1)])
    refine Go.by (fun _ k => XT.bipushV X0.here hx rfl (36 : Int32) (hb hby d1_56) (by decide) k) ?_
    show Go _ _ _ _ s₁ (mkF m 58 #[.val (.int k1), .val (.int c1), .val (.int (lowB c1)), .val (.int (upB c1)), .val (.int (digB c1)), .unset, .unset, .unset, .unset, .unset, .unset] [(.int (36 : Int32)), (.int c1)])
    by_cases c109 : c1 = (36 : Int32)
    · refine Go.by (fun _ k => XS.icmpYes X0.here hx rfl (pc0 := 58) (pc' := 85) rfl (hb hby d1_58) rfl (XT.ii_eq_t c109) (by decide) (by decide) k) ?_
      show Go _ _ _ _ s₁ (mkF m 85 #[.val (.int k1), .val (.int c1), .val (.int (lowB c1)), .val (.int (upB c1)), .val (.int (digB c1)), .unset, .unset, .unset, .unset, .unset, .unset] [])
      refine Go.by (fun _ k => XT.iconstV X0.here hx rfl (1 : Int32) (hb hby d1_85) (by decide) k) ?_
      show Go _ _ _ _ s₁ (mkF m 86 #[.val (.int k1), .val (.int c1), .val (.int (lowB c1)), .val (.int (upB c1)), .val (.int (digB c1)), .unset, .unset, .unset, .unset, .unset, .unset] [(.int (1 : Int32))])
      refine Go.by (fun _ k => XS.goto X0.here hx rfl (pc0 := 86) (pc' := 90) rfl (hb hby d1_86) (by decide) (by decide) k) ?_
      show Go _ _ _ _ s₁ (mkF m 90 #[.val (.int k1), .val (.int c1), .val (.int (lowB c1)), .val (.int (upB c1)), .val (.int (digB c1)), .unset, .unset, .unset, .unset, .unset, .unset] [(.int (1 : Int32))])
      rw [show safeB c1 = (1 : Int32) from by simp [safeB, c109]] at kk
      exact kk
    · refine Go.by (fun _ k => XS.icmpNo X0.here hx rfl (hb hby d1_58) rfl (XT.ii_eq_f c109) k) ?_
      show Go _ _ _ _ s₁ (mkF m 61 #[.val (.int k1), .val (.int c1), .val (.int (lowB c1)), .val (.int (upB c1)), .val (.int (digB c1)), .unset, .unset, .unset, .unset, .unset, .unset] [])
      refine Go.by (fun _ k => XS.iloadN X0.here hx rfl (hb hby d1_61) rfl k) ?_
      show Go _ _ _ _ s₁ (mkF m 62 #[.val (.int k1), .val (.int c1), .val (.int (lowB c1)), .val (.int (upB c1)), .val (.int (digB c1)), .unset, .unset, .unset, .unset, .unset, .unset] [(.int c1)])
      refine Go.by (fun _ k => XT.bipushV X0.here hx rfl (45 : Int32) (hb hby d1_62) (by decide) k) ?_
      show Go _ _ _ _ s₁ (mkF m 64 #[.val (.int k1), .val (.int c1), .val (.int (lowB c1)), .val (.int (upB c1)), .val (.int (digB c1)), .unset, .unset, .unset, .unset, .unset, .unset] [(.int (45 : Int32)), (.int c1)])
      by_cases c110 : c1 = (45 : Int32)
      · refine Go.by (fun _ k => XS.icmpYes X0.here hx rfl (pc0 := 64) (pc' := 85) rfl (hb hby d1_64) rfl (XT.ii_eq_t c110) (by decide) (by decide) k) ?_
        show Go _ _ _ _ s₁ (mkF m 85 #[.val (.int k1), .val (.int c1), .val (.int (lowB c1)), .val (.int (upB c1)), .val (.int (digB c1)), .unset, .unset, .unset, .unset, .unset, .unset] [])
        refine Go.by (fun _ k => XT.iconstV X0.here hx rfl (1 : Int32) (hb hby d1_85) (by decide) k) ?_
        show Go _ _ _ _ s₁ (mkF m 86 #[.val (.int k1), .val (.int c1), .val (.int (lowB c1)), .val (.int (upB c1)), .val (.int (digB c1)), .unset, .unset, .unset, .unset, .unset, .unset] [(.int (1 : Int32))])
        refine Go.by (fun _ k => XS.goto X0.here hx rfl (pc0 := 86) (pc' := 90) rfl (hb hby d1_86) (by decide) (by decide) k) ?_
        show Go _ _ _ _ s₁ (mkF m 90 #[.val (.int k1), .val (.int c1), .val (.int (lowB c1)), .val (.int (upB c1)), .val (.int (digB c1)), .unset, .unset, .unset, .unset, .unset, .unset] [(.int (1 : Int32))])
        rw [show safeB c1 = (1 : Int32) from by simp [safeB, c109, c110]] at kk
        exact kk
      · refine Go.by (fun _ k => XS.icmpNo X0.here hx rfl (hb hby d1_64) rfl (XT.ii_eq_f c110) k) ?_
        show Go _ _ _ _ s₁ (mkF m 67 #[.val (.int k1), .val (.int c1), .val (.int (lowB c1)), .val (.int (upB c1)), .val (.int (digB c1)), .unset, .unset, .unset, .unset, .unset, .unset] [])
        refine Go.by (fun _ k => XS.iloadN X0.here hx rfl (hb hby d1_67) rfl k) ?_
        show Go _ _ _ _ s₁ (mkF m 68 #[.val (.int k1), .val (.int c1), .val (.int (lowB c1)), .val (.int (upB c1)), .val (.int (digB c1)), .unset, .unset, .unset, .unset, .unset, .unset] [(.int c1)])
        refine Go.by (fun _ k => XT.bipushV X0.here hx rfl (95 : Int32) (hb hby d1_68) (by decide) k) ?_
        show Go _ _ _ _ s₁ (mkF m 70 #[.val (.int k1), .val (.int c1), .val (.int (lowB c1)), .val (.int (upB c1)), .val (.int (digB c1)), .unset, .unset, .unset, .unset, .unset, .unset] [(.int (95 : Int32)), (.int c1)])
        by_cases c111 : c1 = (95 : Int32)
        · refine Go.by (fun _ k => XS.icmpYes X0.here hx rfl (pc0 := 70) (pc' := 85) rfl (hb hby d1_70) rfl (XT.ii_eq_t c111) (by decide) (by decide) k) ?_
          show Go _ _ _ _ s₁ (mkF m 85 #[.val (.int k1), .val (.int c1), .val (.int (lowB c1)), .val (.int (upB c1)), .val (.int (digB c1)), .unset, .unset, .unset, .unset, .unset, .unset] [])
          refine Go.by (fun _ k => XT.iconstV X0.here hx rfl (1 : Int32) (hb hby d1_85) (by decide) k) ?_
          show Go _ _ _ _ s₁ (mkF m 86 #[.val (.int k1), .val (.int c1), .val (.int (lowB c1)), .val (.int (upB c1)), .val (.int (digB c1)), .unset, .unset, .unset, .unset, .unset, .unset] [(.int (1 : Int32))])
          refine Go.by (fun _ k => XS.goto X0.here hx rfl (pc0 := 86) (pc' := 90) rfl (hb hby d1_86) (by decide) (by decide) k) ?_
          show Go _ _ _ _ s₁ (mkF m 90 #[.val (.int k1), .val (.int c1), .val (.int (lowB c1)), .val (.int (upB c1)), .val (.int (digB c1)), .unset, .unset, .unset, .unset, .unset, .unset] [(.int (1 : Int32))])
          rw [show safeB c1 = (1 : Int32) from by simp [safeB, c109, c110, c111]] at kk
          exact kk
        · refine Go.by (fun _ k => XS.icmpNo X0.here hx rfl (hb hby d1_70) rfl (XT.ii_eq_f c111) k) ?_
          show Go _ _ _ _ s₁ (mkF m 73 #[.val (.int k1), .val (.int c1), .val (.int (lowB c1)), .val (.int (upB c1)), .val (.int (digB c1)), .unset, .unset, .unset, .unset, .unset, .unset] [])
          refine Go.by (fun _ k => XS.iloadN X0.here hx rfl (hb hby d1_73) rfl k) ?_
          show Go _ _ _ _ s₁ (mkF m 74 #[.val (.int k1), .val (.int c1), .val (.int (lowB c1)), .val (.int (upB c1)), .val (.int (digB c1)), .unset, .unset, .unset, .unset, .unset, .unset] [(.int c1)])
          refine Go.by (fun _ k => XT.bipushV X0.here hx rfl (46 : Int32) (hb hby d1_74) (by decide) k) ?_
          show Go _ _ _ _ s₁ (mkF m 76 #[.val (.int k1), .val (.int c1), .val (.int (lowB c1)), .val (.int (upB c1)), .val (.int (digB c1)), .unset, .unset, .unset, .unset, .unset, .unset] [(.int (46 : Int32)), (.int c1)])
          by_cases c112 : c1 = (46 : Int32)
          · refine Go.by (fun _ k => XS.icmpYes X0.here hx rfl (pc0 := 76) (pc' := 85) rfl (hb hby d1_76) rfl (XT.ii_eq_t c112) (by decide) (by decide) k) ?_
            show Go _ _ _ _ s₁ (mkF m 85 #[.val (.int k1), .val (.int c1), .val (.int (lowB c1)), .val (.int (upB c1)), .val (.int (digB c1)), .unset, .unset, .unset, .unset, .unset, .unset] [])
            refine Go.by (fun _ k => XT.iconstV X0.here hx rfl (1 : Int32) (hb hby d1_85) (by decide) k) ?_
            show Go _ _ _ _ s₁ (mkF m 86 #[.val (.int k1), .val (.int c1), .val (.int (lowB c1)), .val (.int (upB c1)), .val (.int (digB c1)), .unset, .unset, .unset, .unset, .unset, .unset] [(.int (1 : Int32))])
            refine Go.by (fun _ k => XS.goto X0.here hx rfl (pc0 := 86) (pc' := 90) rfl (hb hby d1_86) (by decide) (by decide) k) ?_
            show Go _ _ _ _ s₁ (mkF m 90 #[.val (.int k1), .val (.int c1), .val (.int (lowB c1)), .val (.int (upB c1)), .val (.int (digB c1)), .unset, .unset, .unset, .unset, .unset, .unset] [(.int (1 : Int32))])
            rw [show safeB c1 = (1 : Int32) from by simp [safeB, c109, c110, c111, c112]] at kk
            exact kk
          · refine Go.by (fun _ k => XS.icmpNo X0.here hx rfl (hb hby d1_76) rfl (XT.ii_eq_f c112) k) ?_
            show Go _ _ _ _ s₁ (mkF m 79 #[.val (.int k1), .val (.int c1), .val (.int (lowB c1)), .val (.int (upB c1)), .val (.int (digB c1)), .unset, .unset, .unset, .unset, .unset, .unset] [])
            refine Go.by (fun _ k => XS.iloadN X0.here hx rfl (hb hby d1_79) rfl k) ?_
            show Go _ _ _ _ s₁ (mkF m 80 #[.val (.int k1), .val (.int c1), .val (.int (lowB c1)), .val (.int (upB c1)), .val (.int (digB c1)), .unset, .unset, .unset, .unset, .unset, .unset] [(.int c1)])
            refine Go.by (fun _ k => XT.bipushV X0.here hx rfl (43 : Int32) (hb hby d1_80) (by decide) k) ?_
            show Go _ _ _ _ s₁ (mkF m 82 #[.val (.int k1), .val (.int c1), .val (.int (lowB c1)), .val (.int (upB c1)), .val (.int (digB c1)), .unset, .unset, .unset, .unset, .unset, .unset] [(.int (43 : Int32)), (.int c1)])
            by_cases c113 : c1 = (43 : Int32)
            · refine Go.by (fun _ k => XS.icmpNo X0.here hx rfl (hb hby d1_82) rfl (XT.ii_ne_f c113) k) ?_
              show Go _ _ _ _ s₁ (mkF m 85 #[.val (.int k1), .val (.int c1), .val (.int (lowB c1)), .val (.int (upB c1)), .val (.int (digB c1)), .unset, .unset, .unset, .unset, .unset, .unset] [])
              refine Go.by (fun _ k => XT.iconstV X0.here hx rfl (1 : Int32) (hb hby d1_85) (by decide) k) ?_
              show Go _ _ _ _ s₁ (mkF m 86 #[.val (.int k1), .val (.int c1), .val (.int (lowB c1)), .val (.int (upB c1)), .val (.int (digB c1)), .unset, .unset, .unset, .unset, .unset, .unset] [(.int (1 : Int32))])
              refine Go.by (fun _ k => XS.goto X0.here hx rfl (pc0 := 86) (pc' := 90) rfl (hb hby d1_86) (by decide) (by decide) k) ?_
              show Go _ _ _ _ s₁ (mkF m 90 #[.val (.int k1), .val (.int c1), .val (.int (lowB c1)), .val (.int (upB c1)), .val (.int (digB c1)), .unset, .unset, .unset, .unset, .unset, .unset] [(.int (1 : Int32))])
              rw [show safeB c1 = (1 : Int32) from by simp [safeB, c109, c110, c111, c112, c113]] at kk
              exact kk
            · refine Go.by (fun _ k => XS.icmpYes X0.here hx rfl (pc0 := 82) (pc' := 89) rfl (hb hby d1_82) rfl (XT.ii_ne_t c113) (by decide) (by decide) k) ?_
              show Go _ _ _ _ s₁ (mkF m 89 #[.val (.int k1), .val (.int c1), .val (.int (lowB c1)), .val (.int (upB c1)), .val (.int (digB c1)), .unset, .unset, .unset, .unset, .unset, .unset] [])
              refine Go.by (fun _ k => XT.iconstV X0.here hx rfl (0 : Int32) (hb hby d1_89) (by decide) k) ?_
              show Go _ _ _ _ s₁ (mkF m 90 #[.val (.int k1), .val (.int c1), .val (.int (lowB c1)), .val (.int (upB c1)), .val (.int (digB c1)), .unset, .unset, .unset, .unset, .unset, .unset] [(.int (0 : Int32))])
              rw [show safeB c1 = (0 : Int32) from by simp [safeB, c109, c110, c111, c112, c113]] at kk
              exact kk
  refine Go.by (fun _ k => XS.istore X0.here hx rfl (hb hby d1_90) rfl (l' := #[.val (.int k1), .val (.int c1), .val (.int (lowB c1)), .val (.int (upB c1)), .val (.int (digB c1)), .val (.int (safeB c1)), .unset, .unset, .unset, .unset, .unset]) rfl k) ?_
  show Go _ _ _ _ s₁ (mkF m 92 #[.val (.int k1), .val (.int c1), .val (.int (lowB c1)), .val (.int (upB c1)), .val (.int (digB c1)), .val (.int (safeB c1)), .unset, .unset, .unset, .unset, .unset] [])
  refine Go.join s₁ (mkF m 133 #[.val (.int k1), .val (.int c1), .val (.int (lowB c1)), .val (.int (upB c1)), .val (.int (digB c1)), .val (.int (safeB c1)), .unset, .unset, .unset, .unset, .unset] [(.int (extB c1))]) ?_ ?_
  · intro kk
    refine Go.by (fun _ k => XS.iloadN X0.here hx rfl (hb hby d1_92) rfl k) ?_
    show Go _ _ _ _ s₁ (mkF m 93 #[.val (.int k1), .val (.int c1), .val (.int (lowB c1)), .val (.int (upB c1)), .val (.int (digB c1)), .val (.int (safeB c1)), .unset, .unset, .unset, .unset, .unset] [(.int c1)])
    refine Go.by (fun _ k => XT.bipushV X0.here hx rfl (33 : Int32) (hb hby d1_93) (by decide) k) ?_
    show Go _ _ _ _ s₁ (mkF m 95 #[.val (.int k1), .val (.int c1), .val (.int (lowB c1)), .val (.int (upB c1)), .val (.int (digB c1)), .val (.int (safeB c1)), .unset, .unset, .unset, .unset, .unset] [(.int (33 : Int32)), (.int c1)])
    by_cases c114 : c1 = (33 : Int32)
    · refine Go.by (fun _ k => XS.icmpYes X0.here hx rfl (pc0 := 95) (pc' := 128) rfl (hb hby d1_95) rfl (XT.ii_eq_t c114) (by decide) (by decide) k) ?_
      show Go _ _ _ _ s₁ (mkF m 128 #[.val (.int k1), .val (.int c1), .val (.int (lowB c1)), .val (.int (upB c1)), .val (.int (digB c1)), .val (.int (safeB c1)), .unset, .unset, .unset, .unset, .unset] [])
      refine Go.by (fun _ k => XT.iconstV X0.here hx rfl (1 : Int32) (hb hby d1_128) (by decide) k) ?_
      show Go _ _ _ _ s₁ (mkF m 129 #[.val (.int k1), .val (.int c1), .val (.int (lowB c1)), .val (.int (upB c1)), .val (.int (digB c1)), .val (.int (safeB c1)), .unset, .unset, .unset, .unset, .unset] [(.int (1 : Int32))])
      refine Go.by (fun _ k => XS.goto X0.here hx rfl (pc0 := 129) (pc' := 133) rfl (hb hby d1_129) (by decide) (by decide) k) ?_
      show Go _ _ _ _ s₁ (mkF m 133 #[.val (.int k1), .val (.int c1), .val (.int (lowB c1)), .val (.int (upB c1)), .val (.int (digB c1)), .val (.int (safeB c1)), .unset, .unset, .unset, .unset, .unset] [(.int (1 : Int32))])
      rw [show extB c1 = (1 : Int32) from by simp [extB, c114]] at kk
      exact kk
    · refine Go.by (fun _ k => XS.icmpNo X0.here hx rfl (hb hby d1_95) rfl (XT.ii_eq_f c114) k) ?_
      show Go _ _ _ _ s₁ (mkF m 98 #[.val (.int k1), .val (.int c1), .val (.int (lowB c1)), .val (.int (upB c1)), .val (.int (digB c1)), .val (.int (safeB c1)), .unset, .unset, .unset, .unset, .unset] [])
      refine Go.by (fun _ k => XS.iloadN X0.here hx rfl (hb hby d1_98) rfl k) ?_
      show Go _ _ _ _ s₁ (mkF m 99 #[.val (.int k1), .val (.int c1), .val (.int (lowB c1)), .val (.int (upB c1)), .val (.int (digB c1)), .val (.int (safeB c1)), .unset, .unset, .unset, .unset, .unset] [(.int c1)])
      refine Go.by (fun _ k => XT.bipushV X0.here hx rfl (42 : Int32) (hb hby d1_99) (by decide) k) ?_
      show Go _ _ _ _ s₁ (mkF m 101 #[.val (.int k1), .val (.int c1), .val (.int (lowB c1)), .val (.int (upB c1)), .val (.int (digB c1)), .val (.int (safeB c1)), .unset, .unset, .unset, .unset, .unset] [(.int (42 : Int32)), (.int c1)])
      by_cases c115 : c1 = (42 : Int32)
      · refine Go.by (fun _ k => XS.icmpYes X0.here hx rfl (pc0 := 101) (pc' := 128) rfl (hb hby d1_101) rfl (XT.ii_eq_t c115) (by decide) (by decide) k) ?_
        show Go _ _ _ _ s₁ (mkF m 128 #[.val (.int k1), .val (.int c1), .val (.int (lowB c1)), .val (.int (upB c1)), .val (.int (digB c1)), .val (.int (safeB c1)), .unset, .unset, .unset, .unset, .unset] [])
        refine Go.by (fun _ k => XT.iconstV X0.here hx rfl (1 : Int32) (hb hby d1_128) (by decide) k) ?_
        show Go _ _ _ _ s₁ (mkF m 129 #[.val (.int k1), .val (.int c1), .val (.int (lowB c1)), .val (.int (upB c1)), .val (.int (digB c1)), .val (.int (safeB c1)), .unset, .unset, .unset, .unset, .unset] [(.int (1 : Int32))])
        refine Go.by (fun _ k => XS.goto X0.here hx rfl (pc0 := 129) (pc' := 133) rfl (hb hby d1_129) (by decide) (by decide) k) ?_
        show Go _ _ _ _ s₁ (mkF m 133 #[.val (.int k1), .val (.int c1), .val (.int (lowB c1)), .val (.int (upB c1)), .val (.int (digB c1)), .val (.int (safeB c1)), .unset, .unset, .unset, .unset, .unset] [(.int (1 : Int32))])
        rw [show extB c1 = (1 : Int32) from by simp [extB, c114, c115]] at kk
        exact kk
      · refine Go.by (fun _ k => XS.icmpNo X0.here hx rfl (hb hby d1_101) rfl (XT.ii_eq_f c115) k) ?_
        show Go _ _ _ _ s₁ (mkF m 104 #[.val (.int k1), .val (.int c1), .val (.int (lowB c1)), .val (.int (upB c1)), .val (.int (digB c1)), .val (.int (safeB c1)), .unset, .unset, .unset, .unset, .unset] [])
        refine Go.by (fun _ k => XS.iloadN X0.here hx rfl (hb hby d1_104) rfl k) ?_
        show Go _ _ _ _ s₁ (mkF m 105 #[.val (.int k1), .val (.int c1), .val (.int (lowB c1)), .val (.int (upB c1)), .val (.int (digB c1)), .val (.int (safeB c1)), .unset, .unset, .unset, .unset, .unset] [(.int c1)])
        refine Go.by (fun _ k => XT.bipushV X0.here hx rfl (39 : Int32) (hb hby d1_105) (by decide) k) ?_
        show Go _ _ _ _ s₁ (mkF m 107 #[.val (.int k1), .val (.int c1), .val (.int (lowB c1)), .val (.int (upB c1)), .val (.int (digB c1)), .val (.int (safeB c1)), .unset, .unset, .unset, .unset, .unset] [(.int (39 : Int32)), (.int c1)])
        by_cases c116 : c1 = (39 : Int32)
        · refine Go.by (fun _ k => XS.icmpYes X0.here hx rfl (pc0 := 107) (pc' := 128) rfl (hb hby d1_107) rfl (XT.ii_eq_t c116) (by decide) (by decide) k) ?_
          show Go _ _ _ _ s₁ (mkF m 128 #[.val (.int k1), .val (.int c1), .val (.int (lowB c1)), .val (.int (upB c1)), .val (.int (digB c1)), .val (.int (safeB c1)), .unset, .unset, .unset, .unset, .unset] [])
          refine Go.by (fun _ k => XT.iconstV X0.here hx rfl (1 : Int32) (hb hby d1_128) (by decide) k) ?_
          show Go _ _ _ _ s₁ (mkF m 129 #[.val (.int k1), .val (.int c1), .val (.int (lowB c1)), .val (.int (upB c1)), .val (.int (digB c1)), .val (.int (safeB c1)), .unset, .unset, .unset, .unset, .unset] [(.int (1 : Int32))])
          refine Go.by (fun _ k => XS.goto X0.here hx rfl (pc0 := 129) (pc' := 133) rfl (hb hby d1_129) (by decide) (by decide) k) ?_
          show Go _ _ _ _ s₁ (mkF m 133 #[.val (.int k1), .val (.int c1), .val (.int (lowB c1)), .val (.int (upB c1)), .val (.int (digB c1)), .val (.int (safeB c1)), .unset, .unset, .unset, .unset, .unset] [(.int (1 : Int32))])
          rw [show extB c1 = (1 : Int32) from by simp [extB, c114, c115, c116]] at kk
          exact kk
        · refine Go.by (fun _ k => XS.icmpNo X0.here hx rfl (hb hby d1_107) rfl (XT.ii_eq_f c116) k) ?_
          show Go _ _ _ _ s₁ (mkF m 110 #[.val (.int k1), .val (.int c1), .val (.int (lowB c1)), .val (.int (upB c1)), .val (.int (digB c1)), .val (.int (safeB c1)), .unset, .unset, .unset, .unset, .unset] [])
          refine Go.by (fun _ k => XS.iloadN X0.here hx rfl (hb hby d1_110) rfl k) ?_
          show Go _ _ _ _ s₁ (mkF m 111 #[.val (.int k1), .val (.int c1), .val (.int (lowB c1)), .val (.int (upB c1)), .val (.int (digB c1)), .val (.int (safeB c1)), .unset, .unset, .unset, .unset, .unset] [(.int c1)])
          refine Go.by (fun _ k => XT.bipushV X0.here hx rfl (40 : Int32) (hb hby d1_111) (by decide) k) ?_
          show Go _ _ _ _ s₁ (mkF m 113 #[.val (.int k1), .val (.int c1), .val (.int (lowB c1)), .val (.int (upB c1)), .val (.int (digB c1)), .val (.int (safeB c1)), .unset, .unset, .unset, .unset, .unset] [(.int (40 : Int32)), (.int c1)])
          by_cases c117 : c1 = (40 : Int32)
          · refine Go.by (fun _ k => XS.icmpYes X0.here hx rfl (pc0 := 113) (pc' := 128) rfl (hb hby d1_113) rfl (XT.ii_eq_t c117) (by decide) (by decide) k) ?_
            show Go _ _ _ _ s₁ (mkF m 128 #[.val (.int k1), .val (.int c1), .val (.int (lowB c1)), .val (.int (upB c1)), .val (.int (digB c1)), .val (.int (safeB c1)), .unset, .unset, .unset, .unset, .unset] [])
            refine Go.by (fun _ k => XT.iconstV X0.here hx rfl (1 : Int32) (hb hby d1_128) (by decide) k) ?_
            show Go _ _ _ _ s₁ (mkF m 129 #[.val (.int k1), .val (.int c1), .val (.int (lowB c1)), .val (.int (upB c1)), .val (.int (digB c1)), .val (.int (safeB c1)), .unset, .unset, .unset, .unset, .unset] [(.int (1 : Int32))])
            refine Go.by (fun _ k => XS.goto X0.here hx rfl (pc0 := 129) (pc' := 133) rfl (hb hby d1_129) (by decide) (by decide) k) ?_
            show Go _ _ _ _ s₁ (mkF m 133 #[.val (.int k1), .val (.int c1), .val (.int (lowB c1)), .val (.int (upB c1)), .val (.int (digB c1)), .val (.int (safeB c1)), .unset, .unset, .unset, .unset, .unset] [(.int (1 : Int32))])
            rw [show extB c1 = (1 : Int32) from by simp [extB, c114, c115, c116, c117]] at kk
            exact kk
          · refine Go.by (fun _ k => XS.icmpNo X0.here hx rfl (hb hby d1_113) rfl (XT.ii_eq_f c117) k) ?_
            show Go _ _ _ _ s₁ (mkF m 116 #[.val (.int k1), .val (.int c1), .val (.int (lowB c1)), .val (.int (upB c1)), .val (.int (digB c1)), .val (.int (safeB c1)), .unset, .unset, .unset, .unset, .unset] [])
            refine Go.by (fun _ k => XS.iloadN X0.here hx rfl (hb hby d1_116) rfl k) ?_
            show Go _ _ _ _ s₁ (mkF m 117 #[.val (.int k1), .val (.int c1), .val (.int (lowB c1)), .val (.int (upB c1)), .val (.int (digB c1)), .val (.int (safeB c1)), .unset, .unset, .unset, .unset, .unset] [(.int c1)])
            refine Go.by (fun _ k => XT.bipushV X0.here hx rfl (41 : Int32) (hb hby d1_117) (by decide) k) ?_
            show Go _ _ _ _ s₁ (mkF m 119 #[.val (.int k1), .val (.int c1), .val (.int (lowB c1)), .val (.int (upB c1)), .val (.int (digB c1)), .val (.int (safeB c1)), .unset, .unset, .unset, .unset, .unset] [(.int (41 : Int32)), (.int c1)])
            by_cases c118 : c1 = (41 : Int32)
            · refine Go.by (fun _ k => XS.icmpYes X0.here hx rfl (pc0 := 119) (pc' := 128) rfl (hb hby d1_119) rfl (XT.ii_eq_t c118) (by decide) (by decide) k) ?_
              show Go _ _ _ _ s₁ (mkF m 128 #[.val (.int k1), .val (.int c1), .val (.int (lowB c1)), .val (.int (upB c1)), .val (.int (digB c1)), .val (.int (safeB c1)), .unset, .unset, .unset, .unset, .unset] [])
              refine Go.by (fun _ k => XT.iconstV X0.here hx rfl (1 : Int32) (hb hby d1_128) (by decide) k) ?_
              show Go _ _ _ _ s₁ (mkF m 129 #[.val (.int k1), .val (.int c1), .val (.int (lowB c1)), .val (.int (upB c1)), .val (.int (digB c1)), .val (.int (safeB c1)), .unset, .unset, .unset, .unset, .unset] [(.int (1 : Int32))])
              refine Go.by (fun _ k => XS.goto X0.here hx rfl (pc0 := 129) (pc' := 133) rfl (hb hby d1_129) (by decide) (by decide) k) ?_
              show Go _ _ _ _ s₁ (mkF m 133 #[.val (.int k1), .val (.int c1), .val (.int (lowB c1)), .val (.int (upB c1)), .val (.int (digB c1)), .val (.int (safeB c1)), .unset, .unset, .unset, .unset, .unset] [(.int (1 : Int32))])
              rw [show extB c1 = (1 : Int32) from by simp [extB, c114, c115, c116, c117, c118]] at kk
              exact kk
            · refine Go.by (fun _ k => XS.icmpNo X0.here hx rfl (hb hby d1_119) rfl (XT.ii_eq_f c118) k) ?_
              show Go _ _ _ _ s₁ (mkF m 122 #[.val (.int k1), .val (.int c1), .val (.int (lowB c1)), .val (.int (upB c1)), .val (.int (digB c1)), .val (.int (safeB c1)), .unset, .unset, .unset, .unset, .unset] [])
              refine Go.by (fun _ k => XS.iloadN X0.here hx rfl (hb hby d1_122) rfl k) ?_
              show Go _ _ _ _ s₁ (mkF m 123 #[.val (.int k1), .val (.int c1), .val (.int (lowB c1)), .val (.int (upB c1)), .val (.int (digB c1)), .val (.int (safeB c1)), .unset, .unset, .unset, .unset, .unset] [(.int c1)])
              refine Go.by (fun _ k => XT.bipushV X0.here hx rfl (44 : Int32) (hb hby d1_123) (by decide) k) ?_
              show Go _ _ _ _ s₁ (mkF m 125 #[.val (.int k1), .val (.int c1), .val (.int (lowB c1)), .val (.int (upB c1)), .val (.int (digB c1)), .val (.int (safeB c1)), .unset, .unset, .unset, .unset, .unset] [(.int (44 : Int32)), (.int c1)])
              by_cases c119 : c1 = (44 : Int32)
              · refine Go.by (fun _ k => XS.icmpNo X0.here hx rfl (hb hby d1_125) rfl (XT.ii_ne_f c119) k) ?_
                show Go _ _ _ _ s₁ (mkF m 128 #[.val (.int k1), .val (.int c1), .val (.int (lowB c1)), .val (.int (upB c1)), .val (.int (digB c1)), .val (.int (safeB c1)), .unset, .unset, .unset, .unset, .unset] [])
                refine Go.by (fun _ k => XT.iconstV X0.here hx rfl (1 : Int32) (hb hby d1_128) (by decide) k) ?_
                show Go _ _ _ _ s₁ (mkF m 129 #[.val (.int k1), .val (.int c1), .val (.int (lowB c1)), .val (.int (upB c1)), .val (.int (digB c1)), .val (.int (safeB c1)), .unset, .unset, .unset, .unset, .unset] [(.int (1 : Int32))])
                refine Go.by (fun _ k => XS.goto X0.here hx rfl (pc0 := 129) (pc' := 133) rfl (hb hby d1_129) (by decide) (by decide) k) ?_
                show Go _ _ _ _ s₁ (mkF m 133 #[.val (.int k1), .val (.int c1), .val (.int (lowB c1)), .val (.int (upB c1)), .val (.int (digB c1)), .val (.int (safeB c1)), .unset, .unset, .unset, .unset, .unset] [(.int (1 : Int32))])
                rw [show extB c1 = (1 : Int32) from by simp [extB, c114, c115, c116, c117, c118, c119]] at kk
                exact kk
              · refine Go.by (fun _ k => XS.icmpYes X0.here hx rfl (pc0 := 125) (pc' := 132) rfl (hb hby d1_125) rfl (XT.ii_ne_t c119) (by decide) (by decide) k) ?_
                show Go _ _ _ _ s₁ (mkF m 132 #[.val (.int k1), .val (.int c1), .val (.int (lowB c1)), .val (.int (upB c1)), .val (.int (digB c1)), .val (.int (safeB c1)), .unset, .unset, .unset, .unset, .unset] [])
                refine Go.by (fun _ k => XT.iconstV X0.here hx rfl (0 : Int32) (hb hby d1_132) (by decide) k) ?_
                show Go _ _ _ _ s₁ (mkF m 133 #[.val (.int k1), .val (.int c1), .val (.int (lowB c1)), .val (.int (upB c1)), .val (.int (digB c1)), .val (.int (safeB c1)), .unset, .unset, .unset, .unset, .unset] [(.int (0 : Int32))])
                rw [show extB c1 = (0 : Int32) from by simp [extB, c114, c115, c116, c117, c118, c119]] at kk
                exact kk
  refine Go.by (fun _ k => XS.istore X0.here hx rfl (hb hby d1_133) rfl (l' := #[.val (.int k1), .val (.int c1), .val (.int (lowB c1)), .val (.int (upB c1)), .val (.int (digB c1)), .val (.int (safeB c1)), .val (.int (extB c1)), .unset, .unset, .unset, .unset]) rfl k) ?_
  show Go _ _ _ _ s₁ (mkF m 135 #[.val (.int k1), .val (.int c1), .val (.int (lowB c1)), .val (.int (upB c1)), .val (.int (digB c1)), .val (.int (safeB c1)), .val (.int (extB c1)), .unset, .unset, .unset, .unset] [])
  refine Go.join s₁ (mkF m 194 #[.val (.int k1), .val (.int c1), .val (.int (lowB c1)), .val (.int (upB c1)), .val (.int (digB c1)), .val (.int (safeB c1)), .val (.int (extB c1)), .unset, .unset, .unset, .unset] [(.int (natB c1))]) ?_ ?_
  · intro kk
    refine Go.by (fun _ k => XS.iloadN X0.here hx rfl (hb hby d1_135) rfl k) ?_
    show Go _ _ _ _ s₁ (mkF m 136 #[.val (.int k1), .val (.int c1), .val (.int (lowB c1)), .val (.int (upB c1)), .val (.int (digB c1)), .val (.int (safeB c1)), .val (.int (extB c1)), .unset, .unset, .unset, .unset] [(.int c1)])
    refine Go.by (fun _ k => XT.bipushV X0.here hx rfl (123 : Int32) (hb hby d1_136) (by decide) k) ?_
    show Go _ _ _ _ s₁ (mkF m 138 #[.val (.int k1), .val (.int c1), .val (.int (lowB c1)), .val (.int (upB c1)), .val (.int (digB c1)), .val (.int (safeB c1)), .val (.int (extB c1)), .unset, .unset, .unset, .unset] [(.int (123 : Int32)), (.int c1)])
    by_cases c120 : c1 = (123 : Int32)
    · refine Go.by (fun _ k => XS.icmpYes X0.here hx rfl (pc0 := 138) (pc' := 189) rfl (hb hby d1_138) rfl (XT.ii_eq_t c120) (by decide) (by decide) k) ?_
      show Go _ _ _ _ s₁ (mkF m 189 #[.val (.int k1), .val (.int c1), .val (.int (lowB c1)), .val (.int (upB c1)), .val (.int (digB c1)), .val (.int (safeB c1)), .val (.int (extB c1)), .unset, .unset, .unset, .unset] [])
      refine Go.by (fun _ k => XT.iconstV X0.here hx rfl (1 : Int32) (hb hby d1_189) (by decide) k) ?_
      show Go _ _ _ _ s₁ (mkF m 190 #[.val (.int k1), .val (.int c1), .val (.int (lowB c1)), .val (.int (upB c1)), .val (.int (digB c1)), .val (.int (safeB c1)), .val (.int (extB c1)), .unset, .unset, .unset, .unset] [(.int (1 : Int32))])
      refine Go.by (fun _ k => XS.goto X0.here hx rfl (pc0 := 190) (pc' := 194) rfl (hb hby d1_190) (by decide) (by decide) k) ?_
      show Go _ _ _ _ s₁ (mkF m 194 #[.val (.int k1), .val (.int c1), .val (.int (lowB c1)), .val (.int (upB c1)), .val (.int (digB c1)), .val (.int (safeB c1)), .val (.int (extB c1)), .unset, .unset, .unset, .unset] [(.int (1 : Int32))])
      rw [show natB c1 = (1 : Int32) from by simp [natB, c120]] at kk
      exact kk
    · refine Go.by (fun _ k => XS.icmpNo X0.here hx rfl (hb hby d1_138) rfl (XT.ii_eq_f c120) k) ?_
      show Go _ _ _ _ s₁ (mkF m 141 #[.val (.int k1), .val (.int c1), .val (.int (lowB c1)), .val (.int (upB c1)), .val (.int (digB c1)), .val (.int (safeB c1)), .val (.int (extB c1)), .unset, .unset, .unset, .unset] [])
      refine Go.by (fun _ k => XS.iloadN X0.here hx rfl (hb hby d1_141) rfl k) ?_
      show Go _ _ _ _ s₁ (mkF m 142 #[.val (.int k1), .val (.int c1), .val (.int (lowB c1)), .val (.int (upB c1)), .val (.int (digB c1)), .val (.int (safeB c1)), .val (.int (extB c1)), .unset, .unset, .unset, .unset] [(.int c1)])
      refine Go.by (fun _ k => XT.bipushV X0.here hx rfl (125 : Int32) (hb hby d1_142) (by decide) k) ?_
      show Go _ _ _ _ s₁ (mkF m 144 #[.val (.int k1), .val (.int c1), .val (.int (lowB c1)), .val (.int (upB c1)), .val (.int (digB c1)), .val (.int (safeB c1)), .val (.int (extB c1)), .unset, .unset, .unset, .unset] [(.int (125 : Int32)), (.int c1)])
      by_cases c121 : c1 = (125 : Int32)
      · refine Go.by (fun _ k => XS.icmpYes X0.here hx rfl (pc0 := 144) (pc' := 189) rfl (hb hby d1_144) rfl (XT.ii_eq_t c121) (by decide) (by decide) k) ?_
        show Go _ _ _ _ s₁ (mkF m 189 #[.val (.int k1), .val (.int c1), .val (.int (lowB c1)), .val (.int (upB c1)), .val (.int (digB c1)), .val (.int (safeB c1)), .val (.int (extB c1)), .unset, .unset, .unset, .unset] [])
        refine Go.by (fun _ k => XT.iconstV X0.here hx rfl (1 : Int32) (hb hby d1_189) (by decide) k) ?_
        show Go _ _ _ _ s₁ (mkF m 190 #[.val (.int k1), .val (.int c1), .val (.int (lowB c1)), .val (.int (upB c1)), .val (.int (digB c1)), .val (.int (safeB c1)), .val (.int (extB c1)), .unset, .unset, .unset, .unset] [(.int (1 : Int32))])
        refine Go.by (fun _ k => XS.goto X0.here hx rfl (pc0 := 190) (pc' := 194) rfl (hb hby d1_190) (by decide) (by decide) k) ?_
        show Go _ _ _ _ s₁ (mkF m 194 #[.val (.int k1), .val (.int c1), .val (.int (lowB c1)), .val (.int (upB c1)), .val (.int (digB c1)), .val (.int (safeB c1)), .val (.int (extB c1)), .unset, .unset, .unset, .unset] [(.int (1 : Int32))])
        rw [show natB c1 = (1 : Int32) from by simp [natB, c120, c121]] at kk
        exact kk
      · refine Go.by (fun _ k => XS.icmpNo X0.here hx rfl (hb hby d1_144) rfl (XT.ii_eq_f c121) k) ?_
        show Go _ _ _ _ s₁ (mkF m 147 #[.val (.int k1), .val (.int c1), .val (.int (lowB c1)), .val (.int (upB c1)), .val (.int (digB c1)), .val (.int (safeB c1)), .val (.int (extB c1)), .unset, .unset, .unset, .unset] [])
        refine Go.by (fun _ k => XS.iloadN X0.here hx rfl (hb hby d1_147) rfl k) ?_
        show Go _ _ _ _ s₁ (mkF m 148 #[.val (.int k1), .val (.int c1), .val (.int (lowB c1)), .val (.int (upB c1)), .val (.int (digB c1)), .val (.int (safeB c1)), .val (.int (extB c1)), .unset, .unset, .unset, .unset] [(.int c1)])
        refine Go.by (fun _ k => XT.bipushV X0.here hx rfl (124 : Int32) (hb hby d1_148) (by decide) k) ?_
        show Go _ _ _ _ s₁ (mkF m 150 #[.val (.int k1), .val (.int c1), .val (.int (lowB c1)), .val (.int (upB c1)), .val (.int (digB c1)), .val (.int (safeB c1)), .val (.int (extB c1)), .unset, .unset, .unset, .unset] [(.int (124 : Int32)), (.int c1)])
        by_cases c122 : c1 = (124 : Int32)
        · refine Go.by (fun _ k => XS.icmpYes X0.here hx rfl (pc0 := 150) (pc' := 189) rfl (hb hby d1_150) rfl (XT.ii_eq_t c122) (by decide) (by decide) k) ?_
          show Go _ _ _ _ s₁ (mkF m 189 #[.val (.int k1), .val (.int c1), .val (.int (lowB c1)), .val (.int (upB c1)), .val (.int (digB c1)), .val (.int (safeB c1)), .val (.int (extB c1)), .unset, .unset, .unset, .unset] [])
          refine Go.by (fun _ k => XT.iconstV X0.here hx rfl (1 : Int32) (hb hby d1_189) (by decide) k) ?_
          show Go _ _ _ _ s₁ (mkF m 190 #[.val (.int k1), .val (.int c1), .val (.int (lowB c1)), .val (.int (upB c1)), .val (.int (digB c1)), .val (.int (safeB c1)), .val (.int (extB c1)), .unset, .unset, .unset, .unset] [(.int (1 : Int32))])
          refine Go.by (fun _ k => XS.goto X0.here hx rfl (pc0 := 190) (pc' := 194) rfl (hb hby d1_190) (by decide) (by decide) k) ?_
          show Go _ _ _ _ s₁ (mkF m 194 #[.val (.int k1), .val (.int c1), .val (.int (lowB c1)), .val (.int (upB c1)), .val (.int (digB c1)), .val (.int (safeB c1)), .val (.int (extB c1)), .unset, .unset, .unset, .unset] [(.int (1 : Int32))])
          rw [show natB c1 = (1 : Int32) from by simp [natB, c120, c121, c122]] at kk
          exact kk
        · refine Go.by (fun _ k => XS.icmpNo X0.here hx rfl (hb hby d1_150) rfl (XT.ii_eq_f c122) k) ?_
          show Go _ _ _ _ s₁ (mkF m 153 #[.val (.int k1), .val (.int c1), .val (.int (lowB c1)), .val (.int (upB c1)), .val (.int (digB c1)), .val (.int (safeB c1)), .val (.int (extB c1)), .unset, .unset, .unset, .unset] [])
          refine Go.by (fun _ k => XS.iloadN X0.here hx rfl (hb hby d1_153) rfl k) ?_
          show Go _ _ _ _ s₁ (mkF m 154 #[.val (.int k1), .val (.int c1), .val (.int (lowB c1)), .val (.int (upB c1)), .val (.int (digB c1)), .val (.int (safeB c1)), .val (.int (extB c1)), .unset, .unset, .unset, .unset] [(.int c1)])
          refine Go.by (fun _ k => XT.bipushV X0.here hx rfl (92 : Int32) (hb hby d1_154) (by decide) k) ?_
          show Go _ _ _ _ s₁ (mkF m 156 #[.val (.int k1), .val (.int c1), .val (.int (lowB c1)), .val (.int (upB c1)), .val (.int (digB c1)), .val (.int (safeB c1)), .val (.int (extB c1)), .unset, .unset, .unset, .unset] [(.int (92 : Int32)), (.int c1)])
          by_cases c123 : c1 = (92 : Int32)
          · refine Go.by (fun _ k => XS.icmpYes X0.here hx rfl (pc0 := 156) (pc' := 189) rfl (hb hby d1_156) rfl (XT.ii_eq_t c123) (by decide) (by decide) k) ?_
            show Go _ _ _ _ s₁ (mkF m 189 #[.val (.int k1), .val (.int c1), .val (.int (lowB c1)), .val (.int (upB c1)), .val (.int (digB c1)), .val (.int (safeB c1)), .val (.int (extB c1)), .unset, .unset, .unset, .unset] [])
            refine Go.by (fun _ k => XT.iconstV X0.here hx rfl (1 : Int32) (hb hby d1_189) (by decide) k) ?_
            show Go _ _ _ _ s₁ (mkF m 190 #[.val (.int k1), .val (.int c1), .val (.int (lowB c1)), .val (.int (upB c1)), .val (.int (digB c1)), .val (.int (safeB c1)), .val (.int (extB c1)), .unset, .unset, .unset, .unset] [(.int (1 : Int32))])
            refine Go.by (fun _ k => XS.goto X0.here hx rfl (pc0 := 190) (pc' := 194) rfl (hb hby d1_190) (by decide) (by decide) k) ?_
            show Go _ _ _ _ s₁ (mkF m 194 #[.val (.int k1), .val (.int c1), .val (.int (lowB c1)), .val (.int (upB c1)), .val (.int (digB c1)), .val (.int (safeB c1)), .val (.int (extB c1)), .unset, .unset, .unset, .unset] [(.int (1 : Int32))])
            rw [show natB c1 = (1 : Int32) from by simp [natB, c120, c121, c122, c123]] at kk
            exact kk
          · refine Go.by (fun _ k => XS.icmpNo X0.here hx rfl (hb hby d1_156) rfl (XT.ii_eq_f c123) k) ?_
            show Go _ _ _ _ s₁ (mkF m 159 #[.val (.int k1), .val (.int c1), .val (.int (lowB c1)), .val (.int (upB c1)), .val (.int (digB c1)), .val (.int (safeB c1)), .val (.int (extB c1)), .unset, .unset, .unset, .unset] [])
            refine Go.by (fun _ k => XS.iloadN X0.here hx rfl (hb hby d1_159) rfl k) ?_
            show Go _ _ _ _ s₁ (mkF m 160 #[.val (.int k1), .val (.int c1), .val (.int (lowB c1)), .val (.int (upB c1)), .val (.int (digB c1)), .val (.int (safeB c1)), .val (.int (extB c1)), .unset, .unset, .unset, .unset] [(.int c1)])
            refine Go.by (fun _ k => XT.bipushV X0.here hx rfl (94 : Int32) (hb hby d1_160) (by decide) k) ?_
            show Go _ _ _ _ s₁ (mkF m 162 #[.val (.int k1), .val (.int c1), .val (.int (lowB c1)), .val (.int (upB c1)), .val (.int (digB c1)), .val (.int (safeB c1)), .val (.int (extB c1)), .unset, .unset, .unset, .unset] [(.int (94 : Int32)), (.int c1)])
            by_cases c124 : c1 = (94 : Int32)
            · refine Go.by (fun _ k => XS.icmpYes X0.here hx rfl (pc0 := 162) (pc' := 189) rfl (hb hby d1_162) rfl (XT.ii_eq_t c124) (by decide) (by decide) k) ?_
              show Go _ _ _ _ s₁ (mkF m 189 #[.val (.int k1), .val (.int c1), .val (.int (lowB c1)), .val (.int (upB c1)), .val (.int (digB c1)), .val (.int (safeB c1)), .val (.int (extB c1)), .unset, .unset, .unset, .unset] [])
              refine Go.by (fun _ k => XT.iconstV X0.here hx rfl (1 : Int32) (hb hby d1_189) (by decide) k) ?_
              show Go _ _ _ _ s₁ (mkF m 190 #[.val (.int k1), .val (.int c1), .val (.int (lowB c1)), .val (.int (upB c1)), .val (.int (digB c1)), .val (.int (safeB c1)), .val (.int (extB c1)), .unset, .unset, .unset, .unset] [(.int (1 : Int32))])
              refine Go.by (fun _ k => XS.goto X0.here hx rfl (pc0 := 190) (pc' := 194) rfl (hb hby d1_190) (by decide) (by decide) k) ?_
              show Go _ _ _ _ s₁ (mkF m 194 #[.val (.int k1), .val (.int c1), .val (.int (lowB c1)), .val (.int (upB c1)), .val (.int (digB c1)), .val (.int (safeB c1)), .val (.int (extB c1)), .unset, .unset, .unset, .unset] [(.int (1 : Int32))])
              rw [show natB c1 = (1 : Int32) from by simp [natB, c120, c121, c122, c123, c124]] at kk
              exact kk
            · refine Go.by (fun _ k => XS.icmpNo X0.here hx rfl (hb hby d1_162) rfl (XT.ii_eq_f c124) k) ?_
              show Go _ _ _ _ s₁ (mkF m 165 #[.val (.int k1), .val (.int c1), .val (.int (lowB c1)), .val (.int (upB c1)), .val (.int (digB c1)), .val (.int (safeB c1)), .val (.int (extB c1)), .unset, .unset, .unset, .unset] [])
              refine Go.by (fun _ k => XS.iloadN X0.here hx rfl (hb hby d1_165) rfl k) ?_
              show Go _ _ _ _ s₁ (mkF m 166 #[.val (.int k1), .val (.int c1), .val (.int (lowB c1)), .val (.int (upB c1)), .val (.int (digB c1)), .val (.int (safeB c1)), .val (.int (extB c1)), .unset, .unset, .unset, .unset] [(.int c1)])
              refine Go.by (fun _ k => XT.bipushV X0.here hx rfl (126 : Int32) (hb hby d1_166) (by decide) k) ?_
              show Go _ _ _ _ s₁ (mkF m 168 #[.val (.int k1), .val (.int c1), .val (.int (lowB c1)), .val (.int (upB c1)), .val (.int (digB c1)), .val (.int (safeB c1)), .val (.int (extB c1)), .unset, .unset, .unset, .unset] [(.int (126 : Int32)), (.int c1)])
              by_cases c125 : c1 = (126 : Int32)
              · refine Go.by (fun _ k => XS.icmpYes X0.here hx rfl (pc0 := 168) (pc' := 189) rfl (hb hby d1_168) rfl (XT.ii_eq_t c125) (by decide) (by decide) k) ?_
                show Go _ _ _ _ s₁ (mkF m 189 #[.val (.int k1), .val (.int c1), .val (.int (lowB c1)), .val (.int (upB c1)), .val (.int (digB c1)), .val (.int (safeB c1)), .val (.int (extB c1)), .unset, .unset, .unset, .unset] [])
                refine Go.by (fun _ k => XT.iconstV X0.here hx rfl (1 : Int32) (hb hby d1_189) (by decide) k) ?_
                show Go _ _ _ _ s₁ (mkF m 190 #[.val (.int k1), .val (.int c1), .val (.int (lowB c1)), .val (.int (upB c1)), .val (.int (digB c1)), .val (.int (safeB c1)), .val (.int (extB c1)), .unset, .unset, .unset, .unset] [(.int (1 : Int32))])
                refine Go.by (fun _ k => XS.goto X0.here hx rfl (pc0 := 190) (pc' := 194) rfl (hb hby d1_190) (by decide) (by decide) k) ?_
                show Go _ _ _ _ s₁ (mkF m 194 #[.val (.int k1), .val (.int c1), .val (.int (lowB c1)), .val (.int (upB c1)), .val (.int (digB c1)), .val (.int (safeB c1)), .val (.int (extB c1)), .unset, .unset, .unset, .unset] [(.int (1 : Int32))])
                rw [show natB c1 = (1 : Int32) from by simp [natB, c120, c121, c122, c123, c124, c125]] at kk
                exact kk
              · refine Go.by (fun _ k => XS.icmpNo X0.here hx rfl (hb hby d1_168) rfl (XT.ii_eq_f c125) k) ?_
                show Go _ _ _ _ s₁ (mkF m 171 #[.val (.int k1), .val (.int c1), .val (.int (lowB c1)), .val (.int (upB c1)), .val (.int (digB c1)), .val (.int (safeB c1)), .val (.int (extB c1)), .unset, .unset, .unset, .unset] [])
                refine Go.by (fun _ k => XS.iloadN X0.here hx rfl (hb hby d1_171) rfl k) ?_
                show Go _ _ _ _ s₁ (mkF m 172 #[.val (.int k1), .val (.int c1), .val (.int (lowB c1)), .val (.int (upB c1)), .val (.int (digB c1)), .val (.int (safeB c1)), .val (.int (extB c1)), .unset, .unset, .unset, .unset] [(.int c1)])
                refine Go.by (fun _ k => XT.bipushV X0.here hx rfl (91 : Int32) (hb hby d1_172) (by decide) k) ?_
                show Go _ _ _ _ s₁ (mkF m 174 #[.val (.int k1), .val (.int c1), .val (.int (lowB c1)), .val (.int (upB c1)), .val (.int (digB c1)), .val (.int (safeB c1)), .val (.int (extB c1)), .unset, .unset, .unset, .unset] [(.int (91 : Int32)), (.int c1)])
                by_cases c126 : c1 = (91 : Int32)
                · refine Go.by (fun _ k => XS.icmpYes X0.here hx rfl (pc0 := 174) (pc' := 189) rfl (hb hby d1_174) rfl (XT.ii_eq_t c126) (by decide) (by decide) k) ?_
                  show Go _ _ _ _ s₁ (mkF m 189 #[.val (.int k1), .val (.int c1), .val (.int (lowB c1)), .val (.int (upB c1)), .val (.int (digB c1)), .val (.int (safeB c1)), .val (.int (extB c1)), .unset, .unset, .unset, .unset] [])
                  refine Go.by (fun _ k => XT.iconstV X0.here hx rfl (1 : Int32) (hb hby d1_189) (by decide) k) ?_
                  show Go _ _ _ _ s₁ (mkF m 190 #[.val (.int k1), .val (.int c1), .val (.int (lowB c1)), .val (.int (upB c1)), .val (.int (digB c1)), .val (.int (safeB c1)), .val (.int (extB c1)), .unset, .unset, .unset, .unset] [(.int (1 : Int32))])
                  refine Go.by (fun _ k => XS.goto X0.here hx rfl (pc0 := 190) (pc' := 194) rfl (hb hby d1_190) (by decide) (by decide) k) ?_
                  show Go _ _ _ _ s₁ (mkF m 194 #[.val (.int k1), .val (.int c1), .val (.int (lowB c1)), .val (.int (upB c1)), .val (.int (digB c1)), .val (.int (safeB c1)), .val (.int (extB c1)), .unset, .unset, .unset, .unset] [(.int (1 : Int32))])
                  rw [show natB c1 = (1 : Int32) from by simp [natB, c120, c121, c122, c123, c124, c125, c126]] at kk
                  exact kk
                · refine Go.by (fun _ k => XS.icmpNo X0.here hx rfl (hb hby d1_174) rfl (XT.ii_eq_f c126) k) ?_
                  show Go _ _ _ _ s₁ (mkF m 177 #[.val (.int k1), .val (.int c1), .val (.int (lowB c1)), .val (.int (upB c1)), .val (.int (digB c1)), .val (.int (safeB c1)), .val (.int (extB c1)), .unset, .unset, .unset, .unset] [])
                  refine Go.by (fun _ k => XS.iloadN X0.here hx rfl (hb hby d1_177) rfl k) ?_
                  show Go _ _ _ _ s₁ (mkF m 178 #[.val (.int k1), .val (.int c1), .val (.int (lowB c1)), .val (.int (upB c1)), .val (.int (digB c1)), .val (.int (safeB c1)), .val (.int (extB c1)), .unset, .unset, .unset, .unset] [(.int c1)])
                  refine Go.by (fun _ k => XT.bipushV X0.here hx rfl (93 : Int32) (hb hby d1_178) (by decide) k) ?_
                  show Go _ _ _ _ s₁ (mkF m 180 #[.val (.int k1), .val (.int c1), .val (.int (lowB c1)), .val (.int (upB c1)), .val (.int (digB c1)), .val (.int (safeB c1)), .val (.int (extB c1)), .unset, .unset, .unset, .unset] [(.int (93 : Int32)), (.int c1)])
                  by_cases c127 : c1 = (93 : Int32)
                  · refine Go.by (fun _ k => XS.icmpYes X0.here hx rfl (pc0 := 180) (pc' := 189) rfl (hb hby d1_180) rfl (XT.ii_eq_t c127) (by decide) (by decide) k) ?_
                    show Go _ _ _ _ s₁ (mkF m 189 #[.val (.int k1), .val (.int c1), .val (.int (lowB c1)), .val (.int (upB c1)), .val (.int (digB c1)), .val (.int (safeB c1)), .val (.int (extB c1)), .unset, .unset, .unset, .unset] [])
                    refine Go.by (fun _ k => XT.iconstV X0.here hx rfl (1 : Int32) (hb hby d1_189) (by decide) k) ?_
                    show Go _ _ _ _ s₁ (mkF m 190 #[.val (.int k1), .val (.int c1), .val (.int (lowB c1)), .val (.int (upB c1)), .val (.int (digB c1)), .val (.int (safeB c1)), .val (.int (extB c1)), .unset, .unset, .unset, .unset] [(.int (1 : Int32))])
                    refine Go.by (fun _ k => XS.goto X0.here hx rfl (pc0 := 190) (pc' := 194) rfl (hb hby d1_190) (by decide) (by decide) k) ?_
                    show Go _ _ _ _ s₁ (mkF m 194 #[.val (.int k1), .val (.int c1), .val (.int (lowB c1)), .val (.int (upB c1)), .val (.int (digB c1)), .val (.int (safeB c1)), .val (.int (extB c1)), .unset, .unset, .unset, .unset] [(.int (1 : Int32))])
                    rw [show natB c1 = (1 : Int32) from by simp [natB, c120, c121, c122, c123, c124, c125, c126, c127]] at kk
                    exact kk
                  · refine Go.by (fun _ k => XS.icmpNo X0.here hx rfl (hb hby d1_180) rfl (XT.ii_eq_f c127) k) ?_
                    show Go _ _ _ _ s₁ (mkF m 183 #[.val (.int k1), .val (.int c1), .val (.int (lowB c1)), .val (.int (upB c1)), .val (.int (digB c1)), .val (.int (safeB c1)), .val (.int (extB c1)), .unset, .unset, .unset, .unset] [])
                    refine Go.by (fun _ k => XS.iloadN X0.here hx rfl (hb hby d1_183) rfl k) ?_
                    show Go _ _ _ _ s₁ (mkF m 184 #[.val (.int k1), .val (.int c1), .val (.int (lowB c1)), .val (.int (upB c1)), .val (.int (digB c1)), .val (.int (safeB c1)), .val (.int (extB c1)), .unset, .unset, .unset, .unset] [(.int c1)])
                    refine Go.by (fun _ k => XT.bipushV X0.here hx rfl (96 : Int32) (hb hby d1_184) (by decide) k) ?_
                    show Go _ _ _ _ s₁ (mkF m 186 #[.val (.int k1), .val (.int c1), .val (.int (lowB c1)), .val (.int (upB c1)), .val (.int (digB c1)), .val (.int (safeB c1)), .val (.int (extB c1)), .unset, .unset, .unset, .unset] [(.int (96 : Int32)), (.int c1)])
                    by_cases c128 : c1 = (96 : Int32)
                    · refine Go.by (fun _ k => XS.icmpNo X0.here hx rfl (hb hby d1_186) rfl (XT.ii_ne_f c128) k) ?_
                      show Go _ _ _ _ s₁ (mkF m 189 #[.val (.int k1), .val (.int c1), .val (.int (lowB c1)), .val (.int (upB c1)), .val (.int (digB c1)), .val (.int (safeB c1)), .val (.int (extB c1)), .unset, .unset, .unset, .unset] [])
                      refine Go.by (fun _ k => XT.iconstV X0.here hx rfl (1 : Int32) (hb hby d1_189) (by decide) k) ?_
                      show Go _ _ _ _ s₁ (mkF m 190 #[.val (.int k1), .val (.int c1), .val (.int (lowB c1)), .val (.int (upB c1)), .val (.int (digB c1)), .val (.int (safeB c1)), .val (.int (extB c1)), .unset, .unset, .unset, .unset] [(.int (1 : Int32))])
                      refine Go.by (fun _ k => XS.goto X0.here hx rfl (pc0 := 190) (pc' := 194) rfl (hb hby d1_190) (by decide) (by decide) k) ?_
                      show Go _ _ _ _ s₁ (mkF m 194 #[.val (.int k1), .val (.int c1), .val (.int (lowB c1)), .val (.int (upB c1)), .val (.int (digB c1)), .val (.int (safeB c1)), .val (.int (extB c1)), .unset, .unset, .unset, .unset] [(.int (1 : Int32))])
                      rw [show natB c1 = (1 : Int32) from by simp [natB, c120, c121, c122, c123, c124, c125, c126, c127, c128]] at kk
                      exact kk
                    · refine Go.by (fun _ k => XS.icmpYes X0.here hx rfl (pc0 := 186) (pc' := 193) rfl (hb hby d1_186) rfl (XT.ii_ne_t c128) (by decide) (by decide) k) ?_
                      show Go _ _ _ _ s₁ (mkF m 193 #[.val (.int k1), .val (.int c1), .val (.int (lowB c1)), .val (.int (upB c1)), .val (.int (digB c1)), .val (.int (safeB c1)), .val (.int (extB c1)), .unset, .unset, .unset, .unset] [])
                      refine Go.by (fun _ k => XT.iconstV X0.here hx rfl (0 : Int32) (hb hby d1_193) (by decide) k) ?_
                      show Go _ _ _ _ s₁ (mkF m 194 #[.val (.int k1), .val (.int c1), .val (.int (lowB c1)), .val (.int (upB c1)), .val (.int (digB c1)), .val (.int (safeB c1)), .val (.int (extB c1)), .unset, .unset, .unset, .unset] [(.int (0 : Int32))])
                      rw [show natB c1 = (0 : Int32) from by simp [natB, c120, c121, c122, c123, c124, c125, c126, c127, c128]] at kk
                      exact kk
  refine Go.by (fun _ k => XS.istore X0.here hx rfl (hb hby d1_194) rfl (l' := #[.val (.int k1), .val (.int c1), .val (.int (lowB c1)), .val (.int (upB c1)), .val (.int (digB c1)), .val (.int (safeB c1)), .val (.int (extB c1)), .val (.int (natB c1)), .unset, .unset, .unset]) rfl k) ?_
  show Go _ _ _ _ s₁ (mkF m 196 #[.val (.int k1), .val (.int c1), .val (.int (lowB c1)), .val (.int (upB c1)), .val (.int (digB c1)), .val (.int (safeB c1)), .val (.int (extB c1)), .val (.int (natB c1)), .unset, .unset, .unset] [])
  refine Go.join s₁ (mkF m 231 #[.val (.int k1), .val (.int c1), .val (.int (lowB c1)), .val (.int (upB c1)), .val (.int (digB c1)), .val (.int (safeB c1)), .val (.int (extB c1)), .val (.int (natB c1)), .unset, .unset, .unset] [(.int (punB c1))]) ?_ ?_
  · intro kk
    refine Go.by (fun _ k => XS.iloadN X0.here hx rfl (hb hby d1_196) rfl k) ?_
    show Go _ _ _ _ s₁ (mkF m 197 #[.val (.int k1), .val (.int c1), .val (.int (lowB c1)), .val (.int (upB c1)), .val (.int (digB c1)), .val (.int (safeB c1)), .val (.int (extB c1)), .val (.int (natB c1)), .unset, .unset, .unset] [(.int c1)])
    refine Go.by (fun _ k => XT.bipushV X0.here hx rfl (60 : Int32) (hb hby d1_197) (by decide) k) ?_
    show Go _ _ _ _ s₁ (mkF m 199 #[.val (.int k1), .val (.int c1), .val (.int (lowB c1)), .val (.int (upB c1)), .val (.int (digB c1)), .val (.int (safeB c1)), .val (.int (extB c1)), .val (.int (natB c1)), .unset, .unset, .unset] [(.int (60 : Int32)), (.int c1)])
    by_cases c129 : c1 = (60 : Int32)
    · refine Go.by (fun _ k => XS.icmpYes X0.here hx rfl (pc0 := 199) (pc' := 226) rfl (hb hby d1_199) rfl (XT.ii_eq_t c129) (by decide) (by decide) k) ?_
      show Go _ _ _ _ s₁ (mkF m 226 #[.val (.int k1), .val (.int c1), .val (.int (lowB c1)), .val (.int (upB c1)), .val (.int (digB c1)), .val (.int (safeB c1)), .val (.int (extB c1)), .val (.int (natB c1)), .unset, .unset, .unset] [])
      refine Go.by (fun _ k => XT.iconstV X0.here hx rfl (1 : Int32) (hb hby d1_226) (by decide) k) ?_
      show Go _ _ _ _ s₁ (mkF m 227 #[.val (.int k1), .val (.int c1), .val (.int (lowB c1)), .val (.int (upB c1)), .val (.int (digB c1)), .val (.int (safeB c1)), .val (.int (extB c1)), .val (.int (natB c1)), .unset, .unset, .unset] [(.int (1 : Int32))])
      refine Go.by (fun _ k => XS.goto X0.here hx rfl (pc0 := 227) (pc' := 231) rfl (hb hby d1_227) (by decide) (by decide) k) ?_
      show Go _ _ _ _ s₁ (mkF m 231 #[.val (.int k1), .val (.int c1), .val (.int (lowB c1)), .val (.int (upB c1)), .val (.int (digB c1)), .val (.int (safeB c1)), .val (.int (extB c1)), .val (.int (natB c1)), .unset, .unset, .unset] [(.int (1 : Int32))])
      rw [show punB c1 = (1 : Int32) from by simp [punB, c129]] at kk
      exact kk
    · refine Go.by (fun _ k => XS.icmpNo X0.here hx rfl (hb hby d1_199) rfl (XT.ii_eq_f c129) k) ?_
      show Go _ _ _ _ s₁ (mkF m 202 #[.val (.int k1), .val (.int c1), .val (.int (lowB c1)), .val (.int (upB c1)), .val (.int (digB c1)), .val (.int (safeB c1)), .val (.int (extB c1)), .val (.int (natB c1)), .unset, .unset, .unset] [])
      refine Go.by (fun _ k => XS.iloadN X0.here hx rfl (hb hby d1_202) rfl k) ?_
      show Go _ _ _ _ s₁ (mkF m 203 #[.val (.int k1), .val (.int c1), .val (.int (lowB c1)), .val (.int (upB c1)), .val (.int (digB c1)), .val (.int (safeB c1)), .val (.int (extB c1)), .val (.int (natB c1)), .unset, .unset, .unset] [(.int c1)])
      refine Go.by (fun _ k => XT.bipushV X0.here hx rfl (62 : Int32) (hb hby d1_203) (by decide) k) ?_
      show Go _ _ _ _ s₁ (mkF m 205 #[.val (.int k1), .val (.int c1), .val (.int (lowB c1)), .val (.int (upB c1)), .val (.int (digB c1)), .val (.int (safeB c1)), .val (.int (extB c1)), .val (.int (natB c1)), .unset, .unset, .unset] [(.int (62 : Int32)), (.int c1)])
      by_cases c130 : c1 = (62 : Int32)
      · refine Go.by (fun _ k => XS.icmpYes X0.here hx rfl (pc0 := 205) (pc' := 226) rfl (hb hby d1_205) rfl (XT.ii_eq_t c130) (by decide) (by decide) k) ?_
        show Go _ _ _ _ s₁ (mkF m 226 #[.val (.int k1), .val (.int c1), .val (.int (lowB c1)), .val (.int (upB c1)), .val (.int (digB c1)), .val (.int (safeB c1)), .val (.int (extB c1)), .val (.int (natB c1)), .unset, .unset, .unset] [])
        refine Go.by (fun _ k => XT.iconstV X0.here hx rfl (1 : Int32) (hb hby d1_226) (by decide) k) ?_
        show Go _ _ _ _ s₁ (mkF m 227 #[.val (.int k1), .val (.int c1), .val (.int (lowB c1)), .val (.int (upB c1)), .val (.int (digB c1)), .val (.int (safeB c1)), .val (.int (extB c1)), .val (.int (natB c1)), .unset, .unset, .unset] [(.int (1 : Int32))])
        refine Go.by (fun _ k => XS.goto X0.here hx rfl (pc0 := 227) (pc' := 231) rfl (hb hby d1_227) (by decide) (by decide) k) ?_
        show Go _ _ _ _ s₁ (mkF m 231 #[.val (.int k1), .val (.int c1), .val (.int (lowB c1)), .val (.int (upB c1)), .val (.int (digB c1)), .val (.int (safeB c1)), .val (.int (extB c1)), .val (.int (natB c1)), .unset, .unset, .unset] [(.int (1 : Int32))])
        rw [show punB c1 = (1 : Int32) from by simp [punB, c129, c130]] at kk
        exact kk
      · refine Go.by (fun _ k => XS.icmpNo X0.here hx rfl (hb hby d1_205) rfl (XT.ii_eq_f c130) k) ?_
        show Go _ _ _ _ s₁ (mkF m 208 #[.val (.int k1), .val (.int c1), .val (.int (lowB c1)), .val (.int (upB c1)), .val (.int (digB c1)), .val (.int (safeB c1)), .val (.int (extB c1)), .val (.int (natB c1)), .unset, .unset, .unset] [])
        refine Go.by (fun _ k => XS.iloadN X0.here hx rfl (hb hby d1_208) rfl k) ?_
        show Go _ _ _ _ s₁ (mkF m 209 #[.val (.int k1), .val (.int c1), .val (.int (lowB c1)), .val (.int (upB c1)), .val (.int (digB c1)), .val (.int (safeB c1)), .val (.int (extB c1)), .val (.int (natB c1)), .unset, .unset, .unset] [(.int c1)])
        refine Go.by (fun _ k => XT.bipushV X0.here hx rfl (35 : Int32) (hb hby d1_209) (by decide) k) ?_
        show Go _ _ _ _ s₁ (mkF m 211 #[.val (.int k1), .val (.int c1), .val (.int (lowB c1)), .val (.int (upB c1)), .val (.int (digB c1)), .val (.int (safeB c1)), .val (.int (extB c1)), .val (.int (natB c1)), .unset, .unset, .unset] [(.int (35 : Int32)), (.int c1)])
        by_cases c131 : c1 = (35 : Int32)
        · refine Go.by (fun _ k => XS.icmpYes X0.here hx rfl (pc0 := 211) (pc' := 226) rfl (hb hby d1_211) rfl (XT.ii_eq_t c131) (by decide) (by decide) k) ?_
          show Go _ _ _ _ s₁ (mkF m 226 #[.val (.int k1), .val (.int c1), .val (.int (lowB c1)), .val (.int (upB c1)), .val (.int (digB c1)), .val (.int (safeB c1)), .val (.int (extB c1)), .val (.int (natB c1)), .unset, .unset, .unset] [])
          refine Go.by (fun _ k => XT.iconstV X0.here hx rfl (1 : Int32) (hb hby d1_226) (by decide) k) ?_
          show Go _ _ _ _ s₁ (mkF m 227 #[.val (.int k1), .val (.int c1), .val (.int (lowB c1)), .val (.int (upB c1)), .val (.int (digB c1)), .val (.int (safeB c1)), .val (.int (extB c1)), .val (.int (natB c1)), .unset, .unset, .unset] [(.int (1 : Int32))])
          refine Go.by (fun _ k => XS.goto X0.here hx rfl (pc0 := 227) (pc' := 231) rfl (hb hby d1_227) (by decide) (by decide) k) ?_
          show Go _ _ _ _ s₁ (mkF m 231 #[.val (.int k1), .val (.int c1), .val (.int (lowB c1)), .val (.int (upB c1)), .val (.int (digB c1)), .val (.int (safeB c1)), .val (.int (extB c1)), .val (.int (natB c1)), .unset, .unset, .unset] [(.int (1 : Int32))])
          rw [show punB c1 = (1 : Int32) from by simp [punB, c129, c130, c131]] at kk
          exact kk
        · refine Go.by (fun _ k => XS.icmpNo X0.here hx rfl (hb hby d1_211) rfl (XT.ii_eq_f c131) k) ?_
          show Go _ _ _ _ s₁ (mkF m 214 #[.val (.int k1), .val (.int c1), .val (.int (lowB c1)), .val (.int (upB c1)), .val (.int (digB c1)), .val (.int (safeB c1)), .val (.int (extB c1)), .val (.int (natB c1)), .unset, .unset, .unset] [])
          refine Go.by (fun _ k => XS.iloadN X0.here hx rfl (hb hby d1_214) rfl k) ?_
          show Go _ _ _ _ s₁ (mkF m 215 #[.val (.int k1), .val (.int c1), .val (.int (lowB c1)), .val (.int (upB c1)), .val (.int (digB c1)), .val (.int (safeB c1)), .val (.int (extB c1)), .val (.int (natB c1)), .unset, .unset, .unset] [(.int c1)])
          refine Go.by (fun _ k => XT.bipushV X0.here hx rfl (37 : Int32) (hb hby d1_215) (by decide) k) ?_
          show Go _ _ _ _ s₁ (mkF m 217 #[.val (.int k1), .val (.int c1), .val (.int (lowB c1)), .val (.int (upB c1)), .val (.int (digB c1)), .val (.int (safeB c1)), .val (.int (extB c1)), .val (.int (natB c1)), .unset, .unset, .unset] [(.int (37 : Int32)), (.int c1)])
          by_cases c132 : c1 = (37 : Int32)
          · refine Go.by (fun _ k => XS.icmpYes X0.here hx rfl (pc0 := 217) (pc' := 226) rfl (hb hby d1_217) rfl (XT.ii_eq_t c132) (by decide) (by decide) k) ?_
            show Go _ _ _ _ s₁ (mkF m 226 #[.val (.int k1), .val (.int c1), .val (.int (lowB c1)), .val (.int (upB c1)), .val (.int (digB c1)), .val (.int (safeB c1)), .val (.int (extB c1)), .val (.int (natB c1)), .unset, .unset, .unset] [])
            refine Go.by (fun _ k => XT.iconstV X0.here hx rfl (1 : Int32) (hb hby d1_226) (by decide) k) ?_
            show Go _ _ _ _ s₁ (mkF m 227 #[.val (.int k1), .val (.int c1), .val (.int (lowB c1)), .val (.int (upB c1)), .val (.int (digB c1)), .val (.int (safeB c1)), .val (.int (extB c1)), .val (.int (natB c1)), .unset, .unset, .unset] [(.int (1 : Int32))])
            refine Go.by (fun _ k => XS.goto X0.here hx rfl (pc0 := 227) (pc' := 231) rfl (hb hby d1_227) (by decide) (by decide) k) ?_
            show Go _ _ _ _ s₁ (mkF m 231 #[.val (.int k1), .val (.int c1), .val (.int (lowB c1)), .val (.int (upB c1)), .val (.int (digB c1)), .val (.int (safeB c1)), .val (.int (extB c1)), .val (.int (natB c1)), .unset, .unset, .unset] [(.int (1 : Int32))])
            rw [show punB c1 = (1 : Int32) from by simp [punB, c129, c130, c131, c132]] at kk
            exact kk
          · refine Go.by (fun _ k => XS.icmpNo X0.here hx rfl (hb hby d1_217) rfl (XT.ii_eq_f c132) k) ?_
            show Go _ _ _ _ s₁ (mkF m 220 #[.val (.int k1), .val (.int c1), .val (.int (lowB c1)), .val (.int (upB c1)), .val (.int (digB c1)), .val (.int (safeB c1)), .val (.int (extB c1)), .val (.int (natB c1)), .unset, .unset, .unset] [])
            refine Go.by (fun _ k => XS.iloadN X0.here hx rfl (hb hby d1_220) rfl k) ?_
            show Go _ _ _ _ s₁ (mkF m 221 #[.val (.int k1), .val (.int c1), .val (.int (lowB c1)), .val (.int (upB c1)), .val (.int (digB c1)), .val (.int (safeB c1)), .val (.int (extB c1)), .val (.int (natB c1)), .unset, .unset, .unset] [(.int c1)])
            refine Go.by (fun _ k => XT.bipushV X0.here hx rfl (34 : Int32) (hb hby d1_221) (by decide) k) ?_
            show Go _ _ _ _ s₁ (mkF m 223 #[.val (.int k1), .val (.int c1), .val (.int (lowB c1)), .val (.int (upB c1)), .val (.int (digB c1)), .val (.int (safeB c1)), .val (.int (extB c1)), .val (.int (natB c1)), .unset, .unset, .unset] [(.int (34 : Int32)), (.int c1)])
            by_cases c133 : c1 = (34 : Int32)
            · refine Go.by (fun _ k => XS.icmpNo X0.here hx rfl (hb hby d1_223) rfl (XT.ii_ne_f c133) k) ?_
              show Go _ _ _ _ s₁ (mkF m 226 #[.val (.int k1), .val (.int c1), .val (.int (lowB c1)), .val (.int (upB c1)), .val (.int (digB c1)), .val (.int (safeB c1)), .val (.int (extB c1)), .val (.int (natB c1)), .unset, .unset, .unset] [])
              refine Go.by (fun _ k => XT.iconstV X0.here hx rfl (1 : Int32) (hb hby d1_226) (by decide) k) ?_
              show Go _ _ _ _ s₁ (mkF m 227 #[.val (.int k1), .val (.int c1), .val (.int (lowB c1)), .val (.int (upB c1)), .val (.int (digB c1)), .val (.int (safeB c1)), .val (.int (extB c1)), .val (.int (natB c1)), .unset, .unset, .unset] [(.int (1 : Int32))])
              refine Go.by (fun _ k => XS.goto X0.here hx rfl (pc0 := 227) (pc' := 231) rfl (hb hby d1_227) (by decide) (by decide) k) ?_
              show Go _ _ _ _ s₁ (mkF m 231 #[.val (.int k1), .val (.int c1), .val (.int (lowB c1)), .val (.int (upB c1)), .val (.int (digB c1)), .val (.int (safeB c1)), .val (.int (extB c1)), .val (.int (natB c1)), .unset, .unset, .unset] [(.int (1 : Int32))])
              rw [show punB c1 = (1 : Int32) from by simp [punB, c129, c130, c131, c132, c133]] at kk
              exact kk
            · refine Go.by (fun _ k => XS.icmpYes X0.here hx rfl (pc0 := 223) (pc' := 230) rfl (hb hby d1_223) rfl (XT.ii_ne_t c133) (by decide) (by decide) k) ?_
              show Go _ _ _ _ s₁ (mkF m 230 #[.val (.int k1), .val (.int c1), .val (.int (lowB c1)), .val (.int (upB c1)), .val (.int (digB c1)), .val (.int (safeB c1)), .val (.int (extB c1)), .val (.int (natB c1)), .unset, .unset, .unset] [])
              refine Go.by (fun _ k => XT.iconstV X0.here hx rfl (0 : Int32) (hb hby d1_230) (by decide) k) ?_
              show Go _ _ _ _ s₁ (mkF m 231 #[.val (.int k1), .val (.int c1), .val (.int (lowB c1)), .val (.int (upB c1)), .val (.int (digB c1)), .val (.int (safeB c1)), .val (.int (extB c1)), .val (.int (natB c1)), .unset, .unset, .unset] [(.int (0 : Int32))])
              rw [show punB c1 = (0 : Int32) from by simp [punB, c129, c130, c131, c132, c133]] at kk
              exact kk
  refine Go.by (fun _ k => XS.istore X0.here hx rfl (hb hby d1_231) rfl (l' := #[.val (.int k1), .val (.int c1), .val (.int (lowB c1)), .val (.int (upB c1)), .val (.int (digB c1)), .val (.int (safeB c1)), .val (.int (extB c1)), .val (.int (natB c1)), .val (.int (punB c1)), .unset, .unset]) rfl k) ?_
  show Go _ _ _ _ s₁ (mkF m 233 #[.val (.int k1), .val (.int c1), .val (.int (lowB c1)), .val (.int (upB c1)), .val (.int (digB c1)), .val (.int (safeB c1)), .val (.int (extB c1)), .val (.int (natB c1)), .val (.int (punB c1)), .unset, .unset] [])
  refine Go.join s₁ (mkF m 280 #[.val (.int k1), .val (.int c1), .val (.int (lowB c1)), .val (.int (upB c1)), .val (.int (digB c1)), .val (.int (safeB c1)), .val (.int (extB c1)), .val (.int (natB c1)), .val (.int (punB c1)), .unset, .unset] [(.int (resB c1))]) ?_ ?_
  · intro kk
    refine Go.by (fun _ k => XS.iloadN X0.here hx rfl (hb hby d1_233) rfl k) ?_
    show Go _ _ _ _ s₁ (mkF m 234 #[.val (.int k1), .val (.int c1), .val (.int (lowB c1)), .val (.int (upB c1)), .val (.int (digB c1)), .val (.int (safeB c1)), .val (.int (extB c1)), .val (.int (natB c1)), .val (.int (punB c1)), .unset, .unset] [(.int c1)])
    refine Go.by (fun _ k => XT.bipushV X0.here hx rfl (59 : Int32) (hb hby d1_234) (by decide) k) ?_
    show Go _ _ _ _ s₁ (mkF m 236 #[.val (.int k1), .val (.int c1), .val (.int (lowB c1)), .val (.int (upB c1)), .val (.int (digB c1)), .val (.int (safeB c1)), .val (.int (extB c1)), .val (.int (natB c1)), .val (.int (punB c1)), .unset, .unset] [(.int (59 : Int32)), (.int c1)])
    by_cases c134 : c1 = (59 : Int32)
    · refine Go.by (fun _ k => XS.icmpYes X0.here hx rfl (pc0 := 236) (pc' := 275) rfl (hb hby d1_236) rfl (XT.ii_eq_t c134) (by decide) (by decide) k) ?_
      show Go _ _ _ _ s₁ (mkF m 275 #[.val (.int k1), .val (.int c1), .val (.int (lowB c1)), .val (.int (upB c1)), .val (.int (digB c1)), .val (.int (safeB c1)), .val (.int (extB c1)), .val (.int (natB c1)), .val (.int (punB c1)), .unset, .unset] [])
      refine Go.by (fun _ k => XT.iconstV X0.here hx rfl (1 : Int32) (hb hby d1_275) (by decide) k) ?_
      show Go _ _ _ _ s₁ (mkF m 276 #[.val (.int k1), .val (.int c1), .val (.int (lowB c1)), .val (.int (upB c1)), .val (.int (digB c1)), .val (.int (safeB c1)), .val (.int (extB c1)), .val (.int (natB c1)), .val (.int (punB c1)), .unset, .unset] [(.int (1 : Int32))])
      refine Go.by (fun _ k => XS.goto X0.here hx rfl (pc0 := 276) (pc' := 280) rfl (hb hby d1_276) (by decide) (by decide) k) ?_
      show Go _ _ _ _ s₁ (mkF m 280 #[.val (.int k1), .val (.int c1), .val (.int (lowB c1)), .val (.int (upB c1)), .val (.int (digB c1)), .val (.int (safeB c1)), .val (.int (extB c1)), .val (.int (natB c1)), .val (.int (punB c1)), .unset, .unset] [(.int (1 : Int32))])
      rw [show resB c1 = (1 : Int32) from by simp [resB, c134]] at kk
      exact kk
    · refine Go.by (fun _ k => XS.icmpNo X0.here hx rfl (hb hby d1_236) rfl (XT.ii_eq_f c134) k) ?_
      show Go _ _ _ _ s₁ (mkF m 239 #[.val (.int k1), .val (.int c1), .val (.int (lowB c1)), .val (.int (upB c1)), .val (.int (digB c1)), .val (.int (safeB c1)), .val (.int (extB c1)), .val (.int (natB c1)), .val (.int (punB c1)), .unset, .unset] [])
      refine Go.by (fun _ k => XS.iloadN X0.here hx rfl (hb hby d1_239) rfl k) ?_
      show Go _ _ _ _ s₁ (mkF m 240 #[.val (.int k1), .val (.int c1), .val (.int (lowB c1)), .val (.int (upB c1)), .val (.int (digB c1)), .val (.int (safeB c1)), .val (.int (extB c1)), .val (.int (natB c1)), .val (.int (punB c1)), .unset, .unset] [(.int c1)])
      refine Go.by (fun _ k => XT.bipushV X0.here hx rfl (47 : Int32) (hb hby d1_240) (by decide) k) ?_
      show Go _ _ _ _ s₁ (mkF m 242 #[.val (.int k1), .val (.int c1), .val (.int (lowB c1)), .val (.int (upB c1)), .val (.int (digB c1)), .val (.int (safeB c1)), .val (.int (extB c1)), .val (.int (natB c1)), .val (.int (punB c1)), .unset, .unset] [(.int (47 : Int32)), (.int c1)])
      by_cases c135 : c1 = (47 : Int32)
      · refine Go.by (fun _ k => XS.icmpYes X0.here hx rfl (pc0 := 242) (pc' := 275) rfl (hb hby d1_242) rfl (XT.ii_eq_t c135) (by decide) (by decide) k) ?_
        show Go _ _ _ _ s₁ (mkF m 275 #[.val (.int k1), .val (.int c1), .val (.int (lowB c1)), .val (.int (upB c1)), .val (.int (digB c1)), .val (.int (safeB c1)), .val (.int (extB c1)), .val (.int (natB c1)), .val (.int (punB c1)), .unset, .unset] [])
        refine Go.by (fun _ k => XT.iconstV X0.here hx rfl (1 : Int32) (hb hby d1_275) (by decide) k) ?_
        show Go _ _ _ _ s₁ (mkF m 276 #[.val (.int k1), .val (.int c1), .val (.int (lowB c1)), .val (.int (upB c1)), .val (.int (digB c1)), .val (.int (safeB c1)), .val (.int (extB c1)), .val (.int (natB c1)), .val (.int (punB c1)), .unset, .unset] [(.int (1 : Int32))])
        refine Go.by (fun _ k => XS.goto X0.here hx rfl (pc0 := 276) (pc' := 280) rfl (hb hby d1_276) (by decide) (by decide) k) ?_
        show Go _ _ _ _ s₁ (mkF m 280 #[.val (.int k1), .val (.int c1), .val (.int (lowB c1)), .val (.int (upB c1)), .val (.int (digB c1)), .val (.int (safeB c1)), .val (.int (extB c1)), .val (.int (natB c1)), .val (.int (punB c1)), .unset, .unset] [(.int (1 : Int32))])
        rw [show resB c1 = (1 : Int32) from by simp [resB, c134, c135]] at kk
        exact kk
      · refine Go.by (fun _ k => XS.icmpNo X0.here hx rfl (hb hby d1_242) rfl (XT.ii_eq_f c135) k) ?_
        show Go _ _ _ _ s₁ (mkF m 245 #[.val (.int k1), .val (.int c1), .val (.int (lowB c1)), .val (.int (upB c1)), .val (.int (digB c1)), .val (.int (safeB c1)), .val (.int (extB c1)), .val (.int (natB c1)), .val (.int (punB c1)), .unset, .unset] [])
        refine Go.by (fun _ k => XS.iloadN X0.here hx rfl (hb hby d1_245) rfl k) ?_
        show Go _ _ _ _ s₁ (mkF m 246 #[.val (.int k1), .val (.int c1), .val (.int (lowB c1)), .val (.int (upB c1)), .val (.int (digB c1)), .val (.int (safeB c1)), .val (.int (extB c1)), .val (.int (natB c1)), .val (.int (punB c1)), .unset, .unset] [(.int c1)])
        refine Go.by (fun _ k => XT.bipushV X0.here hx rfl (63 : Int32) (hb hby d1_246) (by decide) k) ?_
        show Go _ _ _ _ s₁ (mkF m 248 #[.val (.int k1), .val (.int c1), .val (.int (lowB c1)), .val (.int (upB c1)), .val (.int (digB c1)), .val (.int (safeB c1)), .val (.int (extB c1)), .val (.int (natB c1)), .val (.int (punB c1)), .unset, .unset] [(.int (63 : Int32)), (.int c1)])
        by_cases c136 : c1 = (63 : Int32)
        · refine Go.by (fun _ k => XS.icmpYes X0.here hx rfl (pc0 := 248) (pc' := 275) rfl (hb hby d1_248) rfl (XT.ii_eq_t c136) (by decide) (by decide) k) ?_
          show Go _ _ _ _ s₁ (mkF m 275 #[.val (.int k1), .val (.int c1), .val (.int (lowB c1)), .val (.int (upB c1)), .val (.int (digB c1)), .val (.int (safeB c1)), .val (.int (extB c1)), .val (.int (natB c1)), .val (.int (punB c1)), .unset, .unset] [])
          refine Go.by (fun _ k => XT.iconstV X0.here hx rfl (1 : Int32) (hb hby d1_275) (by decide) k) ?_
          show Go _ _ _ _ s₁ (mkF m 276 #[.val (.int k1), .val (.int c1), .val (.int (lowB c1)), .val (.int (upB c1)), .val (.int (digB c1)), .val (.int (safeB c1)), .val (.int (extB c1)), .val (.int (natB c1)), .val (.int (punB c1)), .unset, .unset] [(.int (1 : Int32))])
          refine Go.by (fun _ k => XS.goto X0.here hx rfl (pc0 := 276) (pc' := 280) rfl (hb hby d1_276) (by decide) (by decide) k) ?_
          show Go _ _ _ _ s₁ (mkF m 280 #[.val (.int k1), .val (.int c1), .val (.int (lowB c1)), .val (.int (upB c1)), .val (.int (digB c1)), .val (.int (safeB c1)), .val (.int (extB c1)), .val (.int (natB c1)), .val (.int (punB c1)), .unset, .unset] [(.int (1 : Int32))])
          rw [show resB c1 = (1 : Int32) from by simp [resB, c134, c135, c136]] at kk
          exact kk
        · refine Go.by (fun _ k => XS.icmpNo X0.here hx rfl (hb hby d1_248) rfl (XT.ii_eq_f c136) k) ?_
          show Go _ _ _ _ s₁ (mkF m 251 #[.val (.int k1), .val (.int c1), .val (.int (lowB c1)), .val (.int (upB c1)), .val (.int (digB c1)), .val (.int (safeB c1)), .val (.int (extB c1)), .val (.int (natB c1)), .val (.int (punB c1)), .unset, .unset] [])
          refine Go.by (fun _ k => XS.iloadN X0.here hx rfl (hb hby d1_251) rfl k) ?_
          show Go _ _ _ _ s₁ (mkF m 252 #[.val (.int k1), .val (.int c1), .val (.int (lowB c1)), .val (.int (upB c1)), .val (.int (digB c1)), .val (.int (safeB c1)), .val (.int (extB c1)), .val (.int (natB c1)), .val (.int (punB c1)), .unset, .unset] [(.int c1)])
          refine Go.by (fun _ k => XT.bipushV X0.here hx rfl (58 : Int32) (hb hby d1_252) (by decide) k) ?_
          show Go _ _ _ _ s₁ (mkF m 254 #[.val (.int k1), .val (.int c1), .val (.int (lowB c1)), .val (.int (upB c1)), .val (.int (digB c1)), .val (.int (safeB c1)), .val (.int (extB c1)), .val (.int (natB c1)), .val (.int (punB c1)), .unset, .unset] [(.int (58 : Int32)), (.int c1)])
          by_cases c137 : c1 = (58 : Int32)
          · refine Go.by (fun _ k => XS.icmpYes X0.here hx rfl (pc0 := 254) (pc' := 275) rfl (hb hby d1_254) rfl (XT.ii_eq_t c137) (by decide) (by decide) k) ?_
            show Go _ _ _ _ s₁ (mkF m 275 #[.val (.int k1), .val (.int c1), .val (.int (lowB c1)), .val (.int (upB c1)), .val (.int (digB c1)), .val (.int (safeB c1)), .val (.int (extB c1)), .val (.int (natB c1)), .val (.int (punB c1)), .unset, .unset] [])
            refine Go.by (fun _ k => XT.iconstV X0.here hx rfl (1 : Int32) (hb hby d1_275) (by decide) k) ?_
            show Go _ _ _ _ s₁ (mkF m 276 #[.val (.int k1), .val (.int c1), .val (.int (lowB c1)), .val (.int (upB c1)), .val (.int (digB c1)), .val (.int (safeB c1)), .val (.int (extB c1)), .val (.int (natB c1)), .val (.int (punB c1)), .unset, .unset] [(.int (1 : Int32))])
            refine Go.by (fun _ k => XS.goto X0.here hx rfl (pc0 := 276) (pc' := 280) rfl (hb hby d1_276) (by decide) (by decide) k) ?_
            show Go _ _ _ _ s₁ (mkF m 280 #[.val (.int k1), .val (.int c1), .val (.int (lowB c1)), .val (.int (upB c1)), .val (.int (digB c1)), .val (.int (safeB c1)), .val (.int (extB c1)), .val (.int (natB c1)), .val (.int (punB c1)), .unset, .unset] [(.int (1 : Int32))])
            rw [show resB c1 = (1 : Int32) from by simp [resB, c134, c135, c136, c137]] at kk
            exact kk
          · refine Go.by (fun _ k => XS.icmpNo X0.here hx rfl (hb hby d1_254) rfl (XT.ii_eq_f c137) k) ?_
            show Go _ _ _ _ s₁ (mkF m 257 #[.val (.int k1), .val (.int c1), .val (.int (lowB c1)), .val (.int (upB c1)), .val (.int (digB c1)), .val (.int (safeB c1)), .val (.int (extB c1)), .val (.int (natB c1)), .val (.int (punB c1)), .unset, .unset] [])
            refine Go.by (fun _ k => XS.iloadN X0.here hx rfl (hb hby d1_257) rfl k) ?_
            show Go _ _ _ _ s₁ (mkF m 258 #[.val (.int k1), .val (.int c1), .val (.int (lowB c1)), .val (.int (upB c1)), .val (.int (digB c1)), .val (.int (safeB c1)), .val (.int (extB c1)), .val (.int (natB c1)), .val (.int (punB c1)), .unset, .unset] [(.int c1)])
            refine Go.by (fun _ k => XT.bipushV X0.here hx rfl (64 : Int32) (hb hby d1_258) (by decide) k) ?_
            show Go _ _ _ _ s₁ (mkF m 260 #[.val (.int k1), .val (.int c1), .val (.int (lowB c1)), .val (.int (upB c1)), .val (.int (digB c1)), .val (.int (safeB c1)), .val (.int (extB c1)), .val (.int (natB c1)), .val (.int (punB c1)), .unset, .unset] [(.int (64 : Int32)), (.int c1)])
            by_cases c138 : c1 = (64 : Int32)
            · refine Go.by (fun _ k => XS.icmpYes X0.here hx rfl (pc0 := 260) (pc' := 275) rfl (hb hby d1_260) rfl (XT.ii_eq_t c138) (by decide) (by decide) k) ?_
              show Go _ _ _ _ s₁ (mkF m 275 #[.val (.int k1), .val (.int c1), .val (.int (lowB c1)), .val (.int (upB c1)), .val (.int (digB c1)), .val (.int (safeB c1)), .val (.int (extB c1)), .val (.int (natB c1)), .val (.int (punB c1)), .unset, .unset] [])
              refine Go.by (fun _ k => XT.iconstV X0.here hx rfl (1 : Int32) (hb hby d1_275) (by decide) k) ?_
              show Go _ _ _ _ s₁ (mkF m 276 #[.val (.int k1), .val (.int c1), .val (.int (lowB c1)), .val (.int (upB c1)), .val (.int (digB c1)), .val (.int (safeB c1)), .val (.int (extB c1)), .val (.int (natB c1)), .val (.int (punB c1)), .unset, .unset] [(.int (1 : Int32))])
              refine Go.by (fun _ k => XS.goto X0.here hx rfl (pc0 := 276) (pc' := 280) rfl (hb hby d1_276) (by decide) (by decide) k) ?_
              show Go _ _ _ _ s₁ (mkF m 280 #[.val (.int k1), .val (.int c1), .val (.int (lowB c1)), .val (.int (upB c1)), .val (.int (digB c1)), .val (.int (safeB c1)), .val (.int (extB c1)), .val (.int (natB c1)), .val (.int (punB c1)), .unset, .unset] [(.int (1 : Int32))])
              rw [show resB c1 = (1 : Int32) from by simp [resB, c134, c135, c136, c137, c138]] at kk
              exact kk
            · refine Go.by (fun _ k => XS.icmpNo X0.here hx rfl (hb hby d1_260) rfl (XT.ii_eq_f c138) k) ?_
              show Go _ _ _ _ s₁ (mkF m 263 #[.val (.int k1), .val (.int c1), .val (.int (lowB c1)), .val (.int (upB c1)), .val (.int (digB c1)), .val (.int (safeB c1)), .val (.int (extB c1)), .val (.int (natB c1)), .val (.int (punB c1)), .unset, .unset] [])
              refine Go.by (fun _ k => XS.iloadN X0.here hx rfl (hb hby d1_263) rfl k) ?_
              show Go _ _ _ _ s₁ (mkF m 264 #[.val (.int k1), .val (.int c1), .val (.int (lowB c1)), .val (.int (upB c1)), .val (.int (digB c1)), .val (.int (safeB c1)), .val (.int (extB c1)), .val (.int (natB c1)), .val (.int (punB c1)), .unset, .unset] [(.int c1)])
              refine Go.by (fun _ k => XT.bipushV X0.here hx rfl (38 : Int32) (hb hby d1_264) (by decide) k) ?_
              show Go _ _ _ _ s₁ (mkF m 266 #[.val (.int k1), .val (.int c1), .val (.int (lowB c1)), .val (.int (upB c1)), .val (.int (digB c1)), .val (.int (safeB c1)), .val (.int (extB c1)), .val (.int (natB c1)), .val (.int (punB c1)), .unset, .unset] [(.int (38 : Int32)), (.int c1)])
              by_cases c139 : c1 = (38 : Int32)
              · refine Go.by (fun _ k => XS.icmpYes X0.here hx rfl (pc0 := 266) (pc' := 275) rfl (hb hby d1_266) rfl (XT.ii_eq_t c139) (by decide) (by decide) k) ?_
                show Go _ _ _ _ s₁ (mkF m 275 #[.val (.int k1), .val (.int c1), .val (.int (lowB c1)), .val (.int (upB c1)), .val (.int (digB c1)), .val (.int (safeB c1)), .val (.int (extB c1)), .val (.int (natB c1)), .val (.int (punB c1)), .unset, .unset] [])
                refine Go.by (fun _ k => XT.iconstV X0.here hx rfl (1 : Int32) (hb hby d1_275) (by decide) k) ?_
                show Go _ _ _ _ s₁ (mkF m 276 #[.val (.int k1), .val (.int c1), .val (.int (lowB c1)), .val (.int (upB c1)), .val (.int (digB c1)), .val (.int (safeB c1)), .val (.int (extB c1)), .val (.int (natB c1)), .val (.int (punB c1)), .unset, .unset] [(.int (1 : Int32))])
                refine Go.by (fun _ k => XS.goto X0.here hx rfl (pc0 := 276) (pc' := 280) rfl (hb hby d1_276) (by decide) (by decide) k) ?_
                show Go _ _ _ _ s₁ (mkF m 280 #[.val (.int k1), .val (.int c1), .val (.int (lowB c1)), .val (.int (upB c1)), .val (.int (digB c1)), .val (.int (safeB c1)), .val (.int (extB c1)), .val (.int (natB c1)), .val (.int (punB c1)), .unset, .unset] [(.int (1 : Int32))])
                rw [show resB c1 = (1 : Int32) from by simp [resB, c134, c135, c136, c137, c138, c139]] at kk
                exact kk
              · refine Go.by (fun _ k => XS.icmpNo X0.here hx rfl (hb hby d1_266) rfl (XT.ii_eq_f c139) k) ?_
                show Go _ _ _ _ s₁ (mkF m 269 #[.val (.int k1), .val (.int c1), .val (.int (lowB c1)), .val (.int (upB c1)), .val (.int (digB c1)), .val (.int (safeB c1)), .val (.int (extB c1)), .val (.int (natB c1)), .val (.int (punB c1)), .unset, .unset] [])
                refine Go.by (fun _ k => XS.iloadN X0.here hx rfl (hb hby d1_269) rfl k) ?_
                show Go _ _ _ _ s₁ (mkF m 270 #[.val (.int k1), .val (.int c1), .val (.int (lowB c1)), .val (.int (upB c1)), .val (.int (digB c1)), .val (.int (safeB c1)), .val (.int (extB c1)), .val (.int (natB c1)), .val (.int (punB c1)), .unset, .unset] [(.int c1)])
                refine Go.by (fun _ k => XT.bipushV X0.here hx rfl (61 : Int32) (hb hby d1_270) (by decide) k) ?_
                show Go _ _ _ _ s₁ (mkF m 272 #[.val (.int k1), .val (.int c1), .val (.int (lowB c1)), .val (.int (upB c1)), .val (.int (digB c1)), .val (.int (safeB c1)), .val (.int (extB c1)), .val (.int (natB c1)), .val (.int (punB c1)), .unset, .unset] [(.int (61 : Int32)), (.int c1)])
                by_cases c140 : c1 = (61 : Int32)
                · refine Go.by (fun _ k => XS.icmpNo X0.here hx rfl (hb hby d1_272) rfl (XT.ii_ne_f c140) k) ?_
                  show Go _ _ _ _ s₁ (mkF m 275 #[.val (.int k1), .val (.int c1), .val (.int (lowB c1)), .val (.int (upB c1)), .val (.int (digB c1)), .val (.int (safeB c1)), .val (.int (extB c1)), .val (.int (natB c1)), .val (.int (punB c1)), .unset, .unset] [])
                  refine Go.by (fun _ k => XT.iconstV X0.here hx rfl (1 : Int32) (hb hby d1_275) (by decide) k) ?_
                  show Go _ _ _ _ s₁ (mkF m 276 #[.val (.int k1), .val (.int c1), .val (.int (lowB c1)), .val (.int (upB c1)), .val (.int (digB c1)), .val (.int (safeB c1)), .val (.int (extB c1)), .val (.int (natB c1)), .val (.int (punB c1)), .unset, .unset] [(.int (1 : Int32))])
                  refine Go.by (fun _ k => XS.goto X0.here hx rfl (pc0 := 276) (pc' := 280) rfl (hb hby d1_276) (by decide) (by decide) k) ?_
                  show Go _ _ _ _ s₁ (mkF m 280 #[.val (.int k1), .val (.int c1), .val (.int (lowB c1)), .val (.int (upB c1)), .val (.int (digB c1)), .val (.int (safeB c1)), .val (.int (extB c1)), .val (.int (natB c1)), .val (.int (punB c1)), .unset, .unset] [(.int (1 : Int32))])
                  rw [show resB c1 = (1 : Int32) from by simp [resB, c134, c135, c136, c137, c138, c139, c140]] at kk
                  exact kk
                · refine Go.by (fun _ k => XS.icmpYes X0.here hx rfl (pc0 := 272) (pc' := 279) rfl (hb hby d1_272) rfl (XT.ii_ne_t c140) (by decide) (by decide) k) ?_
                  show Go _ _ _ _ s₁ (mkF m 279 #[.val (.int k1), .val (.int c1), .val (.int (lowB c1)), .val (.int (upB c1)), .val (.int (digB c1)), .val (.int (safeB c1)), .val (.int (extB c1)), .val (.int (natB c1)), .val (.int (punB c1)), .unset, .unset] [])
                  refine Go.by (fun _ k => XT.iconstV X0.here hx rfl (0 : Int32) (hb hby d1_279) (by decide) k) ?_
                  show Go _ _ _ _ s₁ (mkF m 280 #[.val (.int k1), .val (.int c1), .val (.int (lowB c1)), .val (.int (upB c1)), .val (.int (digB c1)), .val (.int (safeB c1)), .val (.int (extB c1)), .val (.int (natB c1)), .val (.int (punB c1)), .unset, .unset] [(.int (0 : Int32))])
                  rw [show resB c1 = (0 : Int32) from by simp [resB, c134, c135, c136, c137, c138, c139, c140]] at kk
                  exact kk
  refine Go.by (fun _ k => XS.istore X0.here hx rfl (hb hby d1_280) rfl (l' := #[.val (.int k1), .val (.int c1), .val (.int (lowB c1)), .val (.int (upB c1)), .val (.int (digB c1)), .val (.int (safeB c1)), .val (.int (extB c1)), .val (.int (natB c1)), .val (.int (punB c1)), .val (.int (resB c1)), .unset]) rfl k) ?_
  show Go _ _ _ _ s₁ (mkF m 282 #[.val (.int k1), .val (.int c1), .val (.int (lowB c1)), .val (.int (upB c1)), .val (.int (digB c1)), .val (.int (safeB c1)), .val (.int (extB c1)), .val (.int (natB c1)), .val (.int (punB c1)), .val (.int (resB c1)), .unset] [])
  refine Go.join s₁ (mkF m 311 #[.val (.int k1), .val (.int c1), .val (.int (lowB c1)), .val (.int (upB c1)), .val (.int (digB c1)), .val (.int (safeB c1)), .val (.int (extB c1)), .val (.int (natB c1)), .val (.int (punB c1)), .val (.int (resB c1)), .unset] [(.int (hexB c1))]) ?_ ?_
  · intro kk
    refine Go.by (fun _ k => XS.iloadN X0.here hx rfl (hb hby d1_282) rfl k) ?_
    show Go _ _ _ _ s₁ (mkF m 283 #[.val (.int k1), .val (.int c1), .val (.int (lowB c1)), .val (.int (upB c1)), .val (.int (digB c1)), .val (.int (safeB c1)), .val (.int (extB c1)), .val (.int (natB c1)), .val (.int (punB c1)), .val (.int (resB c1)), .unset] [(.int c1)])
    refine Go.by (fun _ k => XT.bipushV X0.here hx rfl (65 : Int32) (hb hby d1_283) (by decide) k) ?_
    show Go _ _ _ _ s₁ (mkF m 285 #[.val (.int k1), .val (.int c1), .val (.int (lowB c1)), .val (.int (upB c1)), .val (.int (digB c1)), .val (.int (safeB c1)), .val (.int (extB c1)), .val (.int (natB c1)), .val (.int (punB c1)), .val (.int (resB c1)), .unset] [(.int (65 : Int32)), (.int c1)])
    by_cases c141 : c1 < (65 : Int32)
    · refine Go.by (fun _ k => XS.icmpYes X0.here hx rfl (pc0 := 285) (pc' := 294) rfl (hb hby d1_285) rfl (XT.ii_lt_t c141) (by decide) (by decide) k) ?_
      show Go _ _ _ _ s₁ (mkF m 294 #[.val (.int k1), .val (.int c1), .val (.int (lowB c1)), .val (.int (upB c1)), .val (.int (digB c1)), .val (.int (safeB c1)), .val (.int (extB c1)), .val (.int (natB c1)), .val (.int (punB c1)), .val (.int (resB c1)), .unset] [])
      refine Go.by (fun _ k => XS.iloadN X0.here hx rfl (hb hby d1_294) rfl k) ?_
      show Go _ _ _ _ s₁ (mkF m 295 #[.val (.int k1), .val (.int c1), .val (.int (lowB c1)), .val (.int (upB c1)), .val (.int (digB c1)), .val (.int (safeB c1)), .val (.int (extB c1)), .val (.int (natB c1)), .val (.int (punB c1)), .val (.int (resB c1)), .unset] [(.int c1)])
      refine Go.by (fun _ k => XT.bipushV X0.here hx rfl (97 : Int32) (hb hby d1_295) (by decide) k) ?_
      show Go _ _ _ _ s₁ (mkF m 297 #[.val (.int k1), .val (.int c1), .val (.int (lowB c1)), .val (.int (upB c1)), .val (.int (digB c1)), .val (.int (safeB c1)), .val (.int (extB c1)), .val (.int (natB c1)), .val (.int (punB c1)), .val (.int (resB c1)), .unset] [(.int (97 : Int32)), (.int c1)])
      by_cases c142 : c1 < (97 : Int32)
      · refine Go.by (fun _ k => XS.icmpYes X0.here hx rfl (pc0 := 297) (pc' := 310) rfl (hb hby d1_297) rfl (XT.ii_lt_t c142) (by decide) (by decide) k) ?_
        show Go _ _ _ _ s₁ (mkF m 310 #[.val (.int k1), .val (.int c1), .val (.int (lowB c1)), .val (.int (upB c1)), .val (.int (digB c1)), .val (.int (safeB c1)), .val (.int (extB c1)), .val (.int (natB c1)), .val (.int (punB c1)), .val (.int (resB c1)), .unset] [])
        refine Go.by (fun _ k => XT.iconstV X0.here hx rfl (0 : Int32) (hb hby d1_310) (by decide) k) ?_
        show Go _ _ _ _ s₁ (mkF m 311 #[.val (.int k1), .val (.int c1), .val (.int (lowB c1)), .val (.int (upB c1)), .val (.int (digB c1)), .val (.int (safeB c1)), .val (.int (extB c1)), .val (.int (natB c1)), .val (.int (punB c1)), .val (.int (resB c1)), .unset] [(.int (0 : Int32))])
        rw [show hexB c1 = (0 : Int32) from by simp [hexB, c141, c142]] at kk
        exact kk
      · refine Go.by (fun _ k => XS.icmpNo X0.here hx rfl (hb hby d1_297) rfl (XT.ii_lt_f c142) k) ?_
        show Go _ _ _ _ s₁ (mkF m 300 #[.val (.int k1), .val (.int c1), .val (.int (lowB c1)), .val (.int (upB c1)), .val (.int (digB c1)), .val (.int (safeB c1)), .val (.int (extB c1)), .val (.int (natB c1)), .val (.int (punB c1)), .val (.int (resB c1)), .unset] [])
        refine Go.by (fun _ k => XS.iloadN X0.here hx rfl (hb hby d1_300) rfl k) ?_
        show Go _ _ _ _ s₁ (mkF m 301 #[.val (.int k1), .val (.int c1), .val (.int (lowB c1)), .val (.int (upB c1)), .val (.int (digB c1)), .val (.int (safeB c1)), .val (.int (extB c1)), .val (.int (natB c1)), .val (.int (punB c1)), .val (.int (resB c1)), .unset] [(.int c1)])
        refine Go.by (fun _ k => XT.bipushV X0.here hx rfl (102 : Int32) (hb hby d1_301) (by decide) k) ?_
        show Go _ _ _ _ s₁ (mkF m 303 #[.val (.int k1), .val (.int c1), .val (.int (lowB c1)), .val (.int (upB c1)), .val (.int (digB c1)), .val (.int (safeB c1)), .val (.int (extB c1)), .val (.int (natB c1)), .val (.int (punB c1)), .val (.int (resB c1)), .unset] [(.int (102 : Int32)), (.int c1)])
        by_cases c143 : (102 : Int32) < c1
        · refine Go.by (fun _ k => XS.icmpYes X0.here hx rfl (pc0 := 303) (pc' := 310) rfl (hb hby d1_303) rfl (XT.ii_gt_t c143) (by decide) (by decide) k) ?_
          show Go _ _ _ _ s₁ (mkF m 310 #[.val (.int k1), .val (.int c1), .val (.int (lowB c1)), .val (.int (upB c1)), .val (.int (digB c1)), .val (.int (safeB c1)), .val (.int (extB c1)), .val (.int (natB c1)), .val (.int (punB c1)), .val (.int (resB c1)), .unset] [])
          refine Go.by (fun _ k => XT.iconstV X0.here hx rfl (0 : Int32) (hb hby d1_310) (by decide) k) ?_
          show Go _ _ _ _ s₁ (mkF m 311 #[.val (.int k1), .val (.int c1), .val (.int (lowB c1)), .val (.int (upB c1)), .val (.int (digB c1)), .val (.int (safeB c1)), .val (.int (extB c1)), .val (.int (natB c1)), .val (.int (punB c1)), .val (.int (resB c1)), .unset] [(.int (0 : Int32))])
          rw [show hexB c1 = (0 : Int32) from by simp [hexB, c141, c142, c143]] at kk
          exact kk
        · refine Go.by (fun _ k => XS.icmpNo X0.here hx rfl (hb hby d1_303) rfl (XT.ii_gt_f c143) k) ?_
          show Go _ _ _ _ s₁ (mkF m 306 #[.val (.int k1), .val (.int c1), .val (.int (lowB c1)), .val (.int (upB c1)), .val (.int (digB c1)), .val (.int (safeB c1)), .val (.int (extB c1)), .val (.int (natB c1)), .val (.int (punB c1)), .val (.int (resB c1)), .unset] [])
          refine Go.by (fun _ k => XT.iconstV X0.here hx rfl (1 : Int32) (hb hby d1_306) (by decide) k) ?_
          show Go _ _ _ _ s₁ (mkF m 307 #[.val (.int k1), .val (.int c1), .val (.int (lowB c1)), .val (.int (upB c1)), .val (.int (digB c1)), .val (.int (safeB c1)), .val (.int (extB c1)), .val (.int (natB c1)), .val (.int (punB c1)), .val (.int (resB c1)), .unset] [(.int (1 : Int32))])
          refine Go.by (fun _ k => XS.goto X0.here hx rfl (pc0 := 307) (pc' := 311) rfl (hb hby d1_307) (by decide) (by decide) k) ?_
          show Go _ _ _ _ s₁ (mkF m 311 #[.val (.int k1), .val (.int c1), .val (.int (lowB c1)), .val (.int (upB c1)), .val (.int (digB c1)), .val (.int (safeB c1)), .val (.int (extB c1)), .val (.int (natB c1)), .val (.int (punB c1)), .val (.int (resB c1)), .unset] [(.int (1 : Int32))])
          rw [show hexB c1 = (1 : Int32) from by simp [hexB, c141, c142, c143]] at kk
          exact kk
    · refine Go.by (fun _ k => XS.icmpNo X0.here hx rfl (hb hby d1_285) rfl (XT.ii_lt_f c141) k) ?_
      show Go _ _ _ _ s₁ (mkF m 288 #[.val (.int k1), .val (.int c1), .val (.int (lowB c1)), .val (.int (upB c1)), .val (.int (digB c1)), .val (.int (safeB c1)), .val (.int (extB c1)), .val (.int (natB c1)), .val (.int (punB c1)), .val (.int (resB c1)), .unset] [])
      refine Go.by (fun _ k => XS.iloadN X0.here hx rfl (hb hby d1_288) rfl k) ?_
      show Go _ _ _ _ s₁ (mkF m 289 #[.val (.int k1), .val (.int c1), .val (.int (lowB c1)), .val (.int (upB c1)), .val (.int (digB c1)), .val (.int (safeB c1)), .val (.int (extB c1)), .val (.int (natB c1)), .val (.int (punB c1)), .val (.int (resB c1)), .unset] [(.int c1)])
      refine Go.by (fun _ k => XT.bipushV X0.here hx rfl (70 : Int32) (hb hby d1_289) (by decide) k) ?_
      show Go _ _ _ _ s₁ (mkF m 291 #[.val (.int k1), .val (.int c1), .val (.int (lowB c1)), .val (.int (upB c1)), .val (.int (digB c1)), .val (.int (safeB c1)), .val (.int (extB c1)), .val (.int (natB c1)), .val (.int (punB c1)), .val (.int (resB c1)), .unset] [(.int (70 : Int32)), (.int c1)])
      by_cases c144 : (70 : Int32) < c1
      · refine Go.by (fun _ k => XS.icmpNo X0.here hx rfl (hb hby d1_291) rfl (XT.ii_le_f c144) k) ?_
        show Go _ _ _ _ s₁ (mkF m 294 #[.val (.int k1), .val (.int c1), .val (.int (lowB c1)), .val (.int (upB c1)), .val (.int (digB c1)), .val (.int (safeB c1)), .val (.int (extB c1)), .val (.int (natB c1)), .val (.int (punB c1)), .val (.int (resB c1)), .unset] [])
        refine Go.by (fun _ k => XS.iloadN X0.here hx rfl (hb hby d1_294) rfl k) ?_
        show Go _ _ _ _ s₁ (mkF m 295 #[.val (.int k1), .val (.int c1), .val (.int (lowB c1)), .val (.int (upB c1)), .val (.int (digB c1)), .val (.int (safeB c1)), .val (.int (extB c1)), .val (.int (natB c1)), .val (.int (punB c1)), .val (.int (resB c1)), .unset] [(.int c1)])
        refine Go.by (fun _ k => XT.bipushV X0.here hx rfl (97 : Int32) (hb hby d1_295) (by decide) k) ?_
        show Go _ _ _ _ s₁ (mkF m 297 #[.val (.int k1), .val (.int c1), .val (.int (lowB c1)), .val (.int (upB c1)), .val (.int (digB c1)), .val (.int (safeB c1)), .val (.int (extB c1)), .val (.int (natB c1)), .val (.int (punB c1)), .val (.int (resB c1)), .unset] [(.int (97 : Int32)), (.int c1)])
        by_cases c145 : c1 < (97 : Int32)
        · refine Go.by (fun _ k => XS.icmpYes X0.here hx rfl (pc0 := 297) (pc' := 310) rfl (hb hby d1_297) rfl (XT.ii_lt_t c145) (by decide) (by decide) k) ?_
          show Go _ _ _ _ s₁ (mkF m 310 #[.val (.int k1), .val (.int c1), .val (.int (lowB c1)), .val (.int (upB c1)), .val (.int (digB c1)), .val (.int (safeB c1)), .val (.int (extB c1)), .val (.int (natB c1)), .val (.int (punB c1)), .val (.int (resB c1)), .unset] [])
          refine Go.by (fun _ k => XT.iconstV X0.here hx rfl (0 : Int32) (hb hby d1_310) (by decide) k) ?_
          show Go _ _ _ _ s₁ (mkF m 311 #[.val (.int k1), .val (.int c1), .val (.int (lowB c1)), .val (.int (upB c1)), .val (.int (digB c1)), .val (.int (safeB c1)), .val (.int (extB c1)), .val (.int (natB c1)), .val (.int (punB c1)), .val (.int (resB c1)), .unset] [(.int (0 : Int32))])
          rw [show hexB c1 = (0 : Int32) from by simp [hexB, c141, c144, c145]] at kk
          exact kk
        · refine Go.by (fun _ k => XS.icmpNo X0.here hx rfl (hb hby d1_297) rfl (XT.ii_lt_f c145) k) ?_
          show Go _ _ _ _ s₁ (mkF m 300 #[.val (.int k1), .val (.int c1), .val (.int (lowB c1)), .val (.int (upB c1)), .val (.int (digB c1)), .val (.int (safeB c1)), .val (.int (extB c1)), .val (.int (natB c1)), .val (.int (punB c1)), .val (.int (resB c1)), .unset] [])
          refine Go.by (fun _ k => XS.iloadN X0.here hx rfl (hb hby d1_300) rfl k) ?_
          show Go _ _ _ _ s₁ (mkF m 301 #[.val (.int k1), .val (.int c1), .val (.int (lowB c1)), .val (.int (upB c1)), .val (.int (digB c1)), .val (.int (safeB c1)), .val (.int (extB c1)), .val (.int (natB c1)), .val (.int (punB c1)), .val (.int (resB c1)), .unset] [(.int c1)])
          refine Go.by (fun _ k => XT.bipushV X0.here hx rfl (102 : Int32) (hb hby d1_301) (by decide) k) ?_
          show Go _ _ _ _ s₁ (mkF m 303 #[.val (.int k1), .val (.int c1), .val (.int (lowB c1)), .val (.int (upB c1)), .val (.int (digB c1)), .val (.int (safeB c1)), .val (.int (extB c1)), .val (.int (natB c1)), .val (.int (punB c1)), .val (.int (resB c1)), .unset] [(.int (102 : Int32)), (.int c1)])
          by_cases c146 : (102 : Int32) < c1
          · refine Go.by (fun _ k => XS.icmpYes X0.here hx rfl (pc0 := 303) (pc' := 310) rfl (hb hby d1_303) rfl (XT.ii_gt_t c146) (by decide) (by decide) k) ?_
            show Go _ _ _ _ s₁ (mkF m 310 #[.val (.int k1), .val (.int c1), .val (.int (lowB c1)), .val (.int (upB c1)), .val (.int (digB c1)), .val (.int (safeB c1)), .val (.int (extB c1)), .val (.int (natB c1)), .val (.int (punB c1)), .val (.int (resB c1)), .unset] [])
            refine Go.by (fun _ k => XT.iconstV X0.here hx rfl (0 : Int32) (hb hby d1_310) (by decide) k) ?_
            show Go _ _ _ _ s₁ (mkF m 311 #[.val (.int k1), .val (.int c1), .val (.int (lowB c1)), .val (.int (upB c1)), .val (.int (digB c1)), .val (.int (safeB c1)), .val (.int (extB c1)), .val (.int (natB c1)), .val (.int (punB c1)), .val (.int (resB c1)), .unset] [(.int (0 : Int32))])
            rw [show hexB c1 = (0 : Int32) from by simp [hexB, c141, c144, c145, c146]] at kk
            exact kk
          · refine Go.by (fun _ k => XS.icmpNo X0.here hx rfl (hb hby d1_303) rfl (XT.ii_gt_f c146) k) ?_
            show Go _ _ _ _ s₁ (mkF m 306 #[.val (.int k1), .val (.int c1), .val (.int (lowB c1)), .val (.int (upB c1)), .val (.int (digB c1)), .val (.int (safeB c1)), .val (.int (extB c1)), .val (.int (natB c1)), .val (.int (punB c1)), .val (.int (resB c1)), .unset] [])
            refine Go.by (fun _ k => XT.iconstV X0.here hx rfl (1 : Int32) (hb hby d1_306) (by decide) k) ?_
            show Go _ _ _ _ s₁ (mkF m 307 #[.val (.int k1), .val (.int c1), .val (.int (lowB c1)), .val (.int (upB c1)), .val (.int (digB c1)), .val (.int (safeB c1)), .val (.int (extB c1)), .val (.int (natB c1)), .val (.int (punB c1)), .val (.int (resB c1)), .unset] [(.int (1 : Int32))])
            refine Go.by (fun _ k => XS.goto X0.here hx rfl (pc0 := 307) (pc' := 311) rfl (hb hby d1_307) (by decide) (by decide) k) ?_
            show Go _ _ _ _ s₁ (mkF m 311 #[.val (.int k1), .val (.int c1), .val (.int (lowB c1)), .val (.int (upB c1)), .val (.int (digB c1)), .val (.int (safeB c1)), .val (.int (extB c1)), .val (.int (natB c1)), .val (.int (punB c1)), .val (.int (resB c1)), .unset] [(.int (1 : Int32))])
            rw [show hexB c1 = (1 : Int32) from by simp [hexB, c141, c144, c145, c146]] at kk
            exact kk
      · refine Go.by (fun _ k => XS.icmpYes X0.here hx rfl (pc0 := 291) (pc' := 306) rfl (hb hby d1_291) rfl (XT.ii_le_t c144) (by decide) (by decide) k) ?_
        show Go _ _ _ _ s₁ (mkF m 306 #[.val (.int k1), .val (.int c1), .val (.int (lowB c1)), .val (.int (upB c1)), .val (.int (digB c1)), .val (.int (safeB c1)), .val (.int (extB c1)), .val (.int (natB c1)), .val (.int (punB c1)), .val (.int (resB c1)), .unset] [])
        refine Go.by (fun _ k => XT.iconstV X0.here hx rfl (1 : Int32) (hb hby d1_306) (by decide) k) ?_
        show Go _ _ _ _ s₁ (mkF m 307 #[.val (.int k1), .val (.int c1), .val (.int (lowB c1)), .val (.int (upB c1)), .val (.int (digB c1)), .val (.int (safeB c1)), .val (.int (extB c1)), .val (.int (natB c1)), .val (.int (punB c1)), .val (.int (resB c1)), .unset] [(.int (1 : Int32))])
        refine Go.by (fun _ k => XS.goto X0.here hx rfl (pc0 := 307) (pc' := 311) rfl (hb hby d1_307) (by decide) (by decide) k) ?_
        show Go _ _ _ _ s₁ (mkF m 311 #[.val (.int k1), .val (.int c1), .val (.int (lowB c1)), .val (.int (upB c1)), .val (.int (digB c1)), .val (.int (safeB c1)), .val (.int (extB c1)), .val (.int (natB c1)), .val (.int (punB c1)), .val (.int (resB c1)), .unset] [(.int (1 : Int32))])
        rw [show hexB c1 = (1 : Int32) from by simp [hexB, c141, c144]] at kk
        exact kk
  refine Go.by (fun _ k => XS.istore X0.here hx rfl (hb hby d1_311) rfl (l' := #[.val (.int k1), .val (.int c1), .val (.int (lowB c1)), .val (.int (upB c1)), .val (.int (digB c1)), .val (.int (safeB c1)), .val (.int (extB c1)), .val (.int (natB c1)), .val (.int (punB c1)), .val (.int (resB c1)), .val (.int (hexB c1))]) rfl k) ?_
  show Go _ _ _ _ s₁ (mkF m 313 #[.val (.int k1), .val (.int c1), .val (.int (lowB c1)), .val (.int (upB c1)), .val (.int (digB c1)), .val (.int (safeB c1)), .val (.int (extB c1)), .val (.int (natB c1)), .val (.int (punB c1)), .val (.int (resB c1)), .val (.int (hexB c1))] [])
  refine Go.by (fun _ k => XS.iloadN X0.here hx rfl (hb hby d1_313) rfl k) ?_
  show Go _ _ _ _ s₁ (mkF m 314 #[.val (.int k1), .val (.int c1), .val (.int (lowB c1)), .val (.int (upB c1)), .val (.int (digB c1)), .val (.int (safeB c1)), .val (.int (extB c1)), .val (.int (natB c1)), .val (.int (punB c1)), .val (.int (resB c1)), .val (.int (hexB c1))] [(.int k1)])
  by_cases c147 : k1 = 0
  · refine Go.by (fun _ k => XS.ifNo X0.here hx rfl (hb hby d1_314) rfl (XT.i0_ne_f c147) k) ?_
    show Go _ _ _ _ s₁ (mkF m 317 #[.val (.int k1), .val (.int c1), .val (.int (lowB c1)), .val (.int (upB c1)), .val (.int (digB c1)), .val (.int (safeB c1)), .val (.int (extB c1)), .val (.int (natB c1)), .val (.int (punB c1)), .val (.int (resB c1)), .val (.int (hexB c1))] [])
    refine Go.by (fun _ k => XS.iloadN X0.here hx rfl (hb hby d1_317) rfl k) ?_
    show Go _ _ _ _ s₁ (mkF m 318 #[.val (.int k1), .val (.int c1), .val (.int (lowB c1)), .val (.int (upB c1)), .val (.int (digB c1)), .val (.int (safeB c1)), .val (.int (extB c1)), .val (.int (natB c1)), .val (.int (punB c1)), .val (.int (resB c1)), .val (.int (hexB c1))] [(.int (lowB c1))])
    exact Go.retZ X0 hx Bd.notSynchronized (t := .boolean) Bd.returns (by simp) (hb hby d1_318) ⟨by simp [refV, nb, nar, c147], N0, e0⟩ (by decide) (by decide)
  · refine Go.by (fun _ k => XS.ifYes X0.here hx rfl (pc0 := 314) (pc' := 319) rfl (hb hby d1_314) rfl (XT.i0_ne_t c147) (by decide) (by decide) k) ?_
    show Go _ _ _ _ s₁ (mkF m 319 #[.val (.int k1), .val (.int c1), .val (.int (lowB c1)), .val (.int (upB c1)), .val (.int (digB c1)), .val (.int (safeB c1)), .val (.int (extB c1)), .val (.int (natB c1)), .val (.int (punB c1)), .val (.int (resB c1)), .val (.int (hexB c1))] [])
    refine Go.by (fun _ k => XS.iloadN X0.here hx rfl (hb hby d1_319) rfl k) ?_
    show Go _ _ _ _ s₁ (mkF m 320 #[.val (.int k1), .val (.int c1), .val (.int (lowB c1)), .val (.int (upB c1)), .val (.int (digB c1)), .val (.int (safeB c1)), .val (.int (extB c1)), .val (.int (natB c1)), .val (.int (punB c1)), .val (.int (resB c1)), .val (.int (hexB c1))] [(.int k1)])
    refine Go.by (fun _ k => XT.iconstV X0.here hx rfl (1 : Int32) (hb hby d1_320) (by decide) k) ?_
    show Go _ _ _ _ s₁ (mkF m 321 #[.val (.int k1), .val (.int c1), .val (.int (lowB c1)), .val (.int (upB c1)), .val (.int (digB c1)), .val (.int (safeB c1)), .val (.int (extB c1)), .val (.int (natB c1)), .val (.int (punB c1)), .val (.int (resB c1)), .val (.int (hexB c1))] [(.int (1 : Int32)), (.int k1)])
    by_cases c148 : k1 = (1 : Int32)
    · refine Go.by (fun _ k => XS.icmpNo X0.here hx rfl (hb hby d1_321) rfl (XT.ii_ne_f c148) k) ?_
      show Go _ _ _ _ s₁ (mkF m 324 #[.val (.int k1), .val (.int c1), .val (.int (lowB c1)), .val (.int (upB c1)), .val (.int (digB c1)), .val (.int (safeB c1)), .val (.int (extB c1)), .val (.int (natB c1)), .val (.int (punB c1)), .val (.int (resB c1)), .val (.int (hexB c1))] [])
      refine Go.by (fun _ k => XS.iloadN X0.here hx rfl (hb hby d1_324) rfl k) ?_
      show Go _ _ _ _ s₁ (mkF m 325 #[.val (.int k1), .val (.int c1), .val (.int (lowB c1)), .val (.int (upB c1)), .val (.int (digB c1)), .val (.int (safeB c1)), .val (.int (extB c1)), .val (.int (natB c1)), .val (.int (punB c1)), .val (.int (resB c1)), .val (.int (hexB c1))] [(.int (upB c1))])
      exact Go.retZ X0 hx Bd.notSynchronized (t := .boolean) Bd.returns (by simp) (hb hby d1_325) ⟨by simp [refV, nb, nar, c147, c148], N0, e0⟩ (by decide) (by decide)
    · refine Go.by (fun _ k => XS.icmpYes X0.here hx rfl (pc0 := 321) (pc' := 326) rfl (hb hby d1_321) rfl (XT.ii_ne_t c148) (by decide) (by decide) k) ?_
      show Go _ _ _ _ s₁ (mkF m 326 #[.val (.int k1), .val (.int c1), .val (.int (lowB c1)), .val (.int (upB c1)), .val (.int (digB c1)), .val (.int (safeB c1)), .val (.int (extB c1)), .val (.int (natB c1)), .val (.int (punB c1)), .val (.int (resB c1)), .val (.int (hexB c1))] [])
      refine Go.by (fun _ k => XS.iloadN X0.here hx rfl (hb hby d1_326) rfl k) ?_
      show Go _ _ _ _ s₁ (mkF m 327 #[.val (.int k1), .val (.int c1), .val (.int (lowB c1)), .val (.int (upB c1)), .val (.int (digB c1)), .val (.int (safeB c1)), .val (.int (extB c1)), .val (.int (natB c1)), .val (.int (punB c1)), .val (.int (resB c1)), .val (.int (hexB c1))] [(.int k1)])
      refine Go.by (fun _ k => XT.iconstV X0.here hx rfl (2 : Int32) (hb hby d1_327) (by decide) k) ?_
      show Go _ _ _ _ s₁ (mkF m 328 #[.val (.int k1), .val (.int c1), .val (.int (lowB c1)), .val (.int (upB c1)), .val (.int (digB c1)), .val (.int (safeB c1)), .val (.int (extB c1)), .val (.int (natB c1)), .val (.int (punB c1)), .val (.int (resB c1)), .val (.int (hexB c1))] [(.int (2 : Int32)), (.int k1)])
      by_cases c149 : k1 = (2 : Int32)
      · refine Go.by (fun _ k => XS.icmpNo X0.here hx rfl (hb hby d1_328) rfl (XT.ii_ne_f c149) k) ?_
        show Go _ _ _ _ s₁ (mkF m 331 #[.val (.int k1), .val (.int c1), .val (.int (lowB c1)), .val (.int (upB c1)), .val (.int (digB c1)), .val (.int (safeB c1)), .val (.int (extB c1)), .val (.int (natB c1)), .val (.int (punB c1)), .val (.int (resB c1)), .val (.int (hexB c1))] [])
        refine Go.by (fun _ k => XS.iloadN X0.here hx rfl (hb hby d1_331) rfl k) ?_
        show Go _ _ _ _ s₁ (mkF m 332 #[.val (.int k1), .val (.int c1), .val (.int (lowB c1)), .val (.int (upB c1)), .val (.int (digB c1)), .val (.int (safeB c1)), .val (.int (extB c1)), .val (.int (natB c1)), .val (.int (punB c1)), .val (.int (resB c1)), .val (.int (hexB c1))] [(.int (lowB c1))])
        by_cases c150 : (lowB c1) = 0
        · refine Go.by (fun _ k => XS.ifNo X0.here hx rfl (hb hby d1_332) rfl (XT.i0_ne_f c150) k) ?_
          show Go _ _ _ _ s₁ (mkF m 335 #[.val (.int k1), .val (.int c1), .val (.int (lowB c1)), .val (.int (upB c1)), .val (.int (digB c1)), .val (.int (safeB c1)), .val (.int (extB c1)), .val (.int (natB c1)), .val (.int (punB c1)), .val (.int (resB c1)), .val (.int (hexB c1))] [])
          refine Go.by (fun _ k => XS.iloadN X0.here hx rfl (hb hby d1_335) rfl k) ?_
          show Go _ _ _ _ s₁ (mkF m 336 #[.val (.int k1), .val (.int c1), .val (.int (lowB c1)), .val (.int (upB c1)), .val (.int (digB c1)), .val (.int (safeB c1)), .val (.int (extB c1)), .val (.int (natB c1)), .val (.int (punB c1)), .val (.int (resB c1)), .val (.int (hexB c1))] [(.int (upB c1))])
          by_cases c151 : (upB c1) = 0
          · refine Go.by (fun _ k => XS.ifYes X0.here hx rfl (pc0 := 336) (pc' := 343) rfl (hb hby d1_336) rfl (XT.i0_eq_t c151) (by decide) (by decide) k) ?_
            show Go _ _ _ _ s₁ (mkF m 343 #[.val (.int k1), .val (.int c1), .val (.int (lowB c1)), .val (.int (upB c1)), .val (.int (digB c1)), .val (.int (safeB c1)), .val (.int (extB c1)), .val (.int (natB c1)), .val (.int (punB c1)), .val (.int (resB c1)), .val (.int (hexB c1))] [])
            refine Go.by (fun _ k => XT.iconstV X0.here hx rfl (0 : Int32) (hb hby d1_343) (by decide) k) ?_
            show Go _ _ _ _ s₁ (mkF m 344 #[.val (.int k1), .val (.int c1), .val (.int (lowB c1)), .val (.int (upB c1)), .val (.int (digB c1)), .val (.int (safeB c1)), .val (.int (extB c1)), .val (.int (natB c1)), .val (.int (punB c1)), .val (.int (resB c1)), .val (.int (hexB c1))] [(.int (0 : Int32))])
            exact Go.retZ X0 hx Bd.notSynchronized (t := .boolean) Bd.returns (by simp) (hb hby d1_344) ⟨by simp [refV, nb, nar, c147, c148, c149, c150, c151], N0, e0⟩ (by decide) (by decide)
          · refine Go.by (fun _ k => XS.ifNo X0.here hx rfl (hb hby d1_336) rfl (XT.i0_eq_f c151) k) ?_
            show Go _ _ _ _ s₁ (mkF m 339 #[.val (.int k1), .val (.int c1), .val (.int (lowB c1)), .val (.int (upB c1)), .val (.int (digB c1)), .val (.int (safeB c1)), .val (.int (extB c1)), .val (.int (natB c1)), .val (.int (punB c1)), .val (.int (resB c1)), .val (.int (hexB c1))] [])
            refine Go.by (fun _ k => XT.iconstV X0.here hx rfl (1 : Int32) (hb hby d1_339) (by decide) k) ?_
            show Go _ _ _ _ s₁ (mkF m 340 #[.val (.int k1), .val (.int c1), .val (.int (lowB c1)), .val (.int (upB c1)), .val (.int (digB c1)), .val (.int (safeB c1)), .val (.int (extB c1)), .val (.int (natB c1)), .val (.int (punB c1)), .val (.int (resB c1)), .val (.int (hexB c1))] [(.int (1 : Int32))])
            refine Go.by (fun _ k => XS.goto X0.here hx rfl (pc0 := 340) (pc' := 344) rfl (hb hby d1_340) (by decide) (by decide) k) ?_
            show Go _ _ _ _ s₁ (mkF m 344 #[.val (.int k1), .val (.int c1), .val (.int (lowB c1)), .val (.int (upB c1)), .val (.int (digB c1)), .val (.int (safeB c1)), .val (.int (extB c1)), .val (.int (natB c1)), .val (.int (punB c1)), .val (.int (resB c1)), .val (.int (hexB c1))] [(.int (1 : Int32))])
            exact Go.retZ X0 hx Bd.notSynchronized (t := .boolean) Bd.returns (by simp) (hb hby d1_344) ⟨by simp [refV, nb, nar, c147, c148, c149, c150, c151], N0, e0⟩ (by decide) (by decide)
        · refine Go.by (fun _ k => XS.ifYes X0.here hx rfl (pc0 := 332) (pc' := 339) rfl (hb hby d1_332) rfl (XT.i0_ne_t c150) (by decide) (by decide) k) ?_
          show Go _ _ _ _ s₁ (mkF m 339 #[.val (.int k1), .val (.int c1), .val (.int (lowB c1)), .val (.int (upB c1)), .val (.int (digB c1)), .val (.int (safeB c1)), .val (.int (extB c1)), .val (.int (natB c1)), .val (.int (punB c1)), .val (.int (resB c1)), .val (.int (hexB c1))] [])
          refine Go.by (fun _ k => XT.iconstV X0.here hx rfl (1 : Int32) (hb hby d1_339) (by decide) k) ?_
          show Go _ _ _ _ s₁ (mkF m 340 #[.val (.int k1), .val (.int c1), .val (.int (lowB c1)), .val (.int (upB c1)), .val (.int (digB c1)), .val (.int (safeB c1)), .val (.int (extB c1)), .val (.int (natB c1)), .val (.int (punB c1)), .val (.int (resB c1)), .val (.int (hexB c1))] [(.int (1 : Int32))])
          refine Go.by (fun _ k => XS.goto X0.here hx rfl (pc0 := 340) (pc' := 344) rfl (hb hby d1_340) (by decide) (by decide) k) ?_
          show Go _ _ _ _ s₁ (mkF m 344 #[.val (.int k1), .val (.int c1), .val (.int (lowB c1)), .val (.int (upB c1)), .val (.int (digB c1)), .val (.int (safeB c1)), .val (.int (extB c1)), .val (.int (natB c1)), .val (.int (punB c1)), .val (.int (resB c1)), .val (.int (hexB c1))] [(.int (1 : Int32))])
          exact Go.retZ X0 hx Bd.notSynchronized (t := .boolean) Bd.returns (by simp) (hb hby d1_344) ⟨by simp [refV, nb, nar, c147, c148, c149, c150], N0, e0⟩ (by decide) (by decide)
      · refine Go.by (fun _ k => XS.icmpYes X0.here hx rfl (pc0 := 328) (pc' := 345) rfl (hb hby d1_328) rfl (XT.ii_ne_t c149) (by decide) (by decide) k) ?_
        show Go _ _ _ _ s₁ (mkF m 345 #[.val (.int k1), .val (.int c1), .val (.int (lowB c1)), .val (.int (upB c1)), .val (.int (digB c1)), .val (.int (safeB c1)), .val (.int (extB c1)), .val (.int (natB c1)), .val (.int (punB c1)), .val (.int (resB c1)), .val (.int (hexB c1))] [])
        refine Go.by (fun _ k => XS.iloadN X0.here hx rfl (hb hby d1_345) rfl k) ?_
        show Go _ _ _ _ s₁ (mkF m 346 #[.val (.int k1), .val (.int c1), .val (.int (lowB c1)), .val (.int (upB c1)), .val (.int (digB c1)), .val (.int (safeB c1)), .val (.int (extB c1)), .val (.int (natB c1)), .val (.int (punB c1)), .val (.int (resB c1)), .val (.int (hexB c1))] [(.int k1)])
        refine Go.by (fun _ k => XT.iconstV X0.here hx rfl (3 : Int32) (hb hby d1_346) (by decide) k) ?_
        show Go _ _ _ _ s₁ (mkF m 347 #[.val (.int k1), .val (.int c1), .val (.int (lowB c1)), .val (.int (upB c1)), .val (.int (digB c1)), .val (.int (safeB c1)), .val (.int (extB c1)), .val (.int (natB c1)), .val (.int (punB c1)), .val (.int (resB c1)), .val (.int (hexB c1))] [(.int (3 : Int32)), (.int k1)])
        by_cases c152 : k1 = (3 : Int32)
        · refine Go.by (fun _ k => XS.icmpNo X0.here hx rfl (hb hby d1_347) rfl (XT.ii_ne_f c152) k) ?_
          show Go _ _ _ _ s₁ (mkF m 350 #[.val (.int k1), .val (.int c1), .val (.int (lowB c1)), .val (.int (upB c1)), .val (.int (digB c1)), .val (.int (safeB c1)), .val (.int (extB c1)), .val (.int (natB c1)), .val (.int (punB c1)), .val (.int (resB c1)), .val (.int (hexB c1))] [])
          refine Go.by (fun _ k => XS.iload X0.here hx rfl (hb hby d1_350) rfl k) ?_
          show Go _ _ _ _ s₁ (mkF m 352 #[.val (.int k1), .val (.int c1), .val (.int (lowB c1)), .val (.int (upB c1)), .val (.int (digB c1)), .val (.int (safeB c1)), .val (.int (extB c1)), .val (.int (natB c1)), .val (.int (punB c1)), .val (.int (resB c1)), .val (.int (hexB c1))] [(.int (digB c1))])
          exact Go.retZ X0 hx Bd.notSynchronized (t := .boolean) Bd.returns (by simp) (hb hby d1_352) ⟨by simp [refV, nb, nar, c147, c148, c149, c152], N0, e0⟩ (by decide) (by decide)
        · refine Go.by (fun _ k => XS.icmpYes X0.here hx rfl (pc0 := 347) (pc' := 353) rfl (hb hby d1_347) rfl (XT.ii_ne_t c152) (by decide) (by decide) k) ?_
          show Go _ _ _ _ s₁ (mkF m 353 #[.val (.int k1), .val (.int c1), .val (.int (lowB c1)), .val (.int (upB c1)), .val (.int (digB c1)), .val (.int (safeB c1)), .val (.int (extB c1)), .val (.int (natB c1)), .val (.int (punB c1)), .val (.int (resB c1)), .val (.int (hexB c1))] [])
          refine Go.by (fun _ k => XS.iloadN X0.here hx rfl (hb hby d1_353) rfl k) ?_
          show Go _ _ _ _ s₁ (mkF m 354 #[.val (.int k1), .val (.int c1), .val (.int (lowB c1)), .val (.int (upB c1)), .val (.int (digB c1)), .val (.int (safeB c1)), .val (.int (extB c1)), .val (.int (natB c1)), .val (.int (punB c1)), .val (.int (resB c1)), .val (.int (hexB c1))] [(.int k1)])
          refine Go.by (fun _ k => XT.iconstV X0.here hx rfl (4 : Int32) (hb hby d1_354) (by decide) k) ?_
          show Go _ _ _ _ s₁ (mkF m 355 #[.val (.int k1), .val (.int c1), .val (.int (lowB c1)), .val (.int (upB c1)), .val (.int (digB c1)), .val (.int (safeB c1)), .val (.int (extB c1)), .val (.int (natB c1)), .val (.int (punB c1)), .val (.int (resB c1)), .val (.int (hexB c1))] [(.int (4 : Int32)), (.int k1)])
          by_cases c153 : k1 = (4 : Int32)
          · refine Go.by (fun _ k => XS.icmpNo X0.here hx rfl (hb hby d1_355) rfl (XT.ii_ne_f c153) k) ?_
            show Go _ _ _ _ s₁ (mkF m 358 #[.val (.int k1), .val (.int c1), .val (.int (lowB c1)), .val (.int (upB c1)), .val (.int (digB c1)), .val (.int (safeB c1)), .val (.int (extB c1)), .val (.int (natB c1)), .val (.int (punB c1)), .val (.int (resB c1)), .val (.int (hexB c1))] [])
            refine Go.by (fun _ k => XS.iloadN X0.here hx rfl (hb hby d1_358) rfl k) ?_
            show Go _ _ _ _ s₁ (mkF m 359 #[.val (.int k1), .val (.int c1), .val (.int (lowB c1)), .val (.int (upB c1)), .val (.int (digB c1)), .val (.int (safeB c1)), .val (.int (extB c1)), .val (.int (natB c1)), .val (.int (punB c1)), .val (.int (resB c1)), .val (.int (hexB c1))] [(.int (lowB c1))])
            by_cases c154 : (lowB c1) = 0
            · refine Go.by (fun _ k => XS.ifNo X0.here hx rfl (hb hby d1_359) rfl (XT.i0_ne_f c154) k) ?_
              show Go _ _ _ _ s₁ (mkF m 362 #[.val (.int k1), .val (.int c1), .val (.int (lowB c1)), .val (.int (upB c1)), .val (.int (digB c1)), .val (.int (safeB c1)), .val (.int (extB c1)), .val (.int (natB c1)), .val (.int (punB c1)), .val (.int (resB c1)), .val (.int (hexB c1))] [])
              refine Go.by (fun _ k => XS.iloadN X0.here hx rfl (hb hby d1_362) rfl k) ?_
              show Go _ _ _ _ s₁ (mkF m 363 #[.val (.int k1), .val (.int c1), .val (.int (lowB c1)), .val (.int (upB c1)), .val (.int (digB c1)), .val (.int (safeB c1)), .val (.int (extB c1)), .val (.int (natB c1)), .val (.int (punB c1)), .val (.int (resB c1)), .val (.int (hexB c1))] [(.int (upB c1))])
              by_cases c155 : (upB c1) = 0
              · refine Go.by (fun _ k => XS.ifNo X0.here hx rfl (hb hby d1_363) rfl (XT.i0_ne_f c155) k) ?_
                show Go _ _ _ _ s₁ (mkF m 366 #[.val (.int k1), .val (.int c1), .val (.int (lowB c1)), .val (.int (upB c1)), .val (.int (digB c1)), .val (.int (safeB c1)), .val (.int (extB c1)), .val (.int (natB c1)), .val (.int (punB c1)), .val (.int (resB c1)), .val (.int (hexB c1))] [])
                refine Go.by (fun _ k => XS.iload X0.here hx rfl (hb hby d1_366) rfl k) ?_
                show Go _ _ _ _ s₁ (mkF m 368 #[.val (.int k1), .val (.int c1), .val (.int (lowB c1)), .val (.int (upB c1)), .val (.int (digB c1)), .val (.int (safeB c1)), .val (.int (extB c1)), .val (.int (natB c1)), .val (.int (punB c1)), .val (.int (resB c1)), .val (.int (hexB c1))] [(.int (digB c1))])
                by_cases c156 : (digB c1) = 0
                · refine Go.by (fun _ k => XS.ifYes X0.here hx rfl (pc0 := 368) (pc' := 375) rfl (hb hby d1_368) rfl (XT.i0_eq_t c156) (by decide) (by decide) k) ?_
                  show Go _ _ _ _ s₁ (mkF m 375 #[.val (.int k1), .val (.int c1), .val (.int (lowB c1)), .val (.int (upB c1)), .val (.int (digB c1)), .val (.int (safeB c1)), .val (.int (extB c1)), .val (.int (natB c1)), .val (.int (punB c1)), .val (.int (resB c1)), .val (.int (hexB c1))] [])
                  refine Go.by (fun _ k => XT.iconstV X0.here hx rfl (0 : Int32) (hb hby d1_375) (by decide) k) ?_
                  show Go _ _ _ _ s₁ (mkF m 376 #[.val (.int k1), .val (.int c1), .val (.int (lowB c1)), .val (.int (upB c1)), .val (.int (digB c1)), .val (.int (safeB c1)), .val (.int (extB c1)), .val (.int (natB c1)), .val (.int (punB c1)), .val (.int (resB c1)), .val (.int (hexB c1))] [(.int (0 : Int32))])
                  exact Go.retZ X0 hx Bd.notSynchronized (t := .boolean) Bd.returns (by simp) (hb hby d1_376) ⟨by simp [refV, nb, nar, c147, c148, c149, c152, c153, c154, c155, c156], N0, e0⟩ (by decide) (by decide)
                · refine Go.by (fun _ k => XS.ifNo X0.here hx rfl (hb hby d1_368) rfl (XT.i0_eq_f c156) k) ?_
                  show Go _ _ _ _ s₁ (mkF m 371 #[.val (.int k1), .val (.int c1), .val (.int (lowB c1)), .val (.int (upB c1)), .val (.int (digB c1)), .val (.int (safeB c1)), .val (.int (extB c1)), .val (.int (natB c1)), .val (.int (punB c1)), .val (.int (resB c1)), .val (.int (hexB c1))] [])
                  refine Go.by (fun _ k => XT.iconstV X0.here hx rfl (1 : Int32) (hb hby d1_371) (by decide) k) ?_
                  show Go _ _ _ _ s₁ (mkF m 372 #[.val (.int k1), .val (.int c1), .val (.int (lowB c1)), .val (.int (upB c1)), .val (.int (digB c1)), .val (.int (safeB c1)), .val (.int (extB c1)), .val (.int (natB c1)), .val (.int (punB c1)), .val (.int (resB c1)), .val (.int (hexB c1))] [(.int (1 : Int32))])
                  refine Go.by (fun _ k => XS.goto X0.here hx rfl (pc0 := 372) (pc' := 376) rfl (hb hby d1_372) (by decide) (by decide) k) ?_
                  show Go _ _ _ _ s₁ (mkF m 376 #[.val (.int k1), .val (.int c1), .val (.int (lowB c1)), .val (.int (upB c1)), .val (.int (digB c1)), .val (.int (safeB c1)), .val (.int (extB c1)), .val (.int (natB c1)), .val (.int (punB c1)), .val (.int (resB c1)), .val (.int (hexB c1))] [(.int (1 : Int32))])
                  exact Go.retZ X0 hx Bd.notSynchronized (t := .boolean) Bd.returns (by simp) (hb hby d1_376) ⟨by simp [refV, nb, nar, c147, c148, c149, c152, c153, c154, c155, c156], N0, e0⟩ (by decide) (by decide)
              · refine Go.by (fun _ k => XS.ifYes X0.here hx rfl (pc0 := 363) (pc' := 371) rfl (hb hby d1_363) rfl (XT.i0_ne_t c155) (by decide) (by decide) k) ?_
                show Go _ _ _ _ s₁ (mkF m 371 #[.val (.int k1), .val (.int c1), .val (.int (lowB c1)), .val (.int (upB c1)), .val (.int (digB c1)), .val (.int (safeB c1)), .val (.int (extB c1)), .val (.int (natB c1)), .val (.int (punB c1)), .val (.int (resB c1)), .val (.int (hexB c1))] [])
                refine Go.by (fun _ k => XT.iconstV X0.here hx rfl (1 : Int32) (hb hby d1_371) (by decide) k) ?_
                show Go _ _ _ _ s₁ (mkF m 372 #[.val (.int k1), .val (.int c1), .val (.int (lowB c1)), .val (.int (upB c1)), .val (.int (digB c1)), .val (.int (safeB c1)), .val (.int (extB c1)), .val (.int (natB c1)), .val (.int (punB c1)), .val (.int (resB c1)), .val (.int (hexB c1))] [(.int (1 : Int32))])
                refine Go.by (fun _ k => XS.goto X0.here hx rfl (pc0 := 372) (pc' := 376) rfl (hb hby d1_372) (by decide) (by decide) k) ?_
                show Go _ _ _ _ s₁ (mkF m 376 #[.val (.int k1), .val (.int c1), .val (.int (lowB c1)), .val (.int (upB c1)), .val (.int (digB c1)), .val (.int (safeB c1)), .val (.int (extB c1)), .val (.int (natB c1)), .val (.int (punB c1)), .val (.int (resB c1)), .val (.int (hexB c1))] [(.int (1 : Int32))])
                exact Go.retZ X0 hx Bd.notSynchronized (t := .boolean) Bd.returns (by simp) (hb hby d1_376) ⟨by simp [refV, nb, nar, c147, c148, c149, c152, c153, c154, c155], N0, e0⟩ (by decide) (by decide)
            · refine Go.by (fun _ k => XS.ifYes X0.here hx rfl (pc0 := 359) (pc' := 371) rfl (hb hby d1_359) rfl (XT.i0_ne_t c154) (by decide) (by decide) k) ?_
              show Go _ _ _ _ s₁ (mkF m 371 #[.val (.int k1), .val (.int c1), .val (.int (lowB c1)), .val (.int (upB c1)), .val (.int (digB c1)), .val (.int (safeB c1)), .val (.int (extB c1)), .val (.int (natB c1)), .val (.int (punB c1)), .val (.int (resB c1)), .val (.int (hexB c1))] [])
              refine Go.by (fun _ k => XT.iconstV X0.here hx rfl (1 : Int32) (hb hby d1_371) (by decide) k) ?_
              show Go _ _ _ _ s₁ (mkF m 372 #[.val (.int k1), .val (.int c1), .val (.int (lowB c1)), .val (.int (upB c1)), .val (.int (digB c1)), .val (.int (safeB c1)), .val (.int (extB c1)), .val (.int (natB c1)), .val (.int (punB c1)), .val (.int (resB c1)), .val (.int (hexB c1))] [(.int (1 : Int32))])
              refine Go.by (fun _ k => XS.goto X0.here hx rfl (pc0 := 372) (pc' := 376) rfl (hb hby d1_372) (by decide) (by decide) k) ?_
              show Go _ _ _ _ s₁ (mkF m 376 #[.val (.int k1), .val (.int c1), .val (.int (lowB c1)), .val (.int (upB c1)), .val (.int (digB c1)), .val (.int (safeB c1)), .val (.int (extB c1)), .val (.int (natB c1)), .val (.int (punB c1)), .val (.int (resB c1)), .val (.int (hexB c1))] [(.int (1 : Int32))])
              exact Go.retZ X0 hx Bd.notSynchronized (t := .boolean) Bd.returns (by simp) (hb hby d1_376) ⟨by simp [refV, nb, nar, c147, c148, c149, c152, c153, c154], N0, e0⟩ (by decide) (by decide)
          · refine Go.by (fun _ k => XS.icmpYes X0.here hx rfl (pc0 := 355) (pc' := 377) rfl (hb hby d1_355) rfl (XT.ii_ne_t c153) (by decide) (by decide) k) ?_
            show Go _ _ _ _ s₁ (mkF m 377 #[.val (.int k1), .val (.int c1), .val (.int (lowB c1)), .val (.int (upB c1)), .val (.int (digB c1)), .val (.int (safeB c1)), .val (.int (extB c1)), .val (.int (natB c1)), .val (.int (punB c1)), .val (.int (resB c1)), .val (.int (hexB c1))] [])
            refine Go.by (fun _ k => XS.iloadN X0.here hx rfl (hb hby d1_377) rfl k) ?_
            show Go _ _ _ _ s₁ (mkF m 378 #[.val (.int k1), .val (.int c1), .val (.int (lowB c1)), .val (.int (upB c1)), .val (.int (digB c1)), .val (.int (safeB c1)), .val (.int (extB c1)), .val (.int (natB c1)), .val (.int (punB c1)), .val (.int (resB c1)), .val (.int (hexB c1))] [(.int k1)])
            refine Go.by (fun _ k => XT.iconstV X0.here hx rfl (5 : Int32) (hb hby d1_378) (by decide) k) ?_
            show Go _ _ _ _ s₁ (mkF m 379 #[.val (.int k1), .val (.int c1), .val (.int (lowB c1)), .val (.int (upB c1)), .val (.int (digB c1)), .val (.int (safeB c1)), .val (.int (extB c1)), .val (.int (natB c1)), .val (.int (punB c1)), .val (.int (resB c1)), .val (.int (hexB c1))] [(.int (5 : Int32)), (.int k1)])
            by_cases c157 : k1 = (5 : Int32)
            · refine Go.by (fun _ k => XS.icmpNo X0.here hx rfl (hb hby d1_379) rfl (XT.ii_ne_f c157) k) ?_
              show Go _ _ _ _ s₁ (mkF m 382 #[.val (.int k1), .val (.int c1), .val (.int (lowB c1)), .val (.int (upB c1)), .val (.int (digB c1)), .val (.int (safeB c1)), .val (.int (extB c1)), .val (.int (natB c1)), .val (.int (punB c1)), .val (.int (resB c1)), .val (.int (hexB c1))] [])
              refine Go.by (fun _ k => XS.iload X0.here hx rfl (hb hby d1_382) rfl k) ?_
              show Go _ _ _ _ s₁ (mkF m 384 #[.val (.int k1), .val (.int c1), .val (.int (lowB c1)), .val (.int (upB c1)), .val (.int (digB c1)), .val (.int (safeB c1)), .val (.int (extB c1)), .val (.int (natB c1)), .val (.int (punB c1)), .val (.int (resB c1)), .val (.int (hexB c1))] [(.int (safeB c1))])
              exact Go.retZ X0 hx Bd.notSynchronized (t := .boolean) Bd.returns (by simp) (hb hby d1_384) ⟨by simp [refV, nb, nar, c147, c148, c149, c152, c153, c157], N0, e0⟩ (by decide) (by decide)
            · refine Go.by (fun _ k => XS.icmpYes X0.here hx rfl (pc0 := 379) (pc' := 385) rfl (hb hby d1_379) rfl (XT.ii_ne_t c157) (by decide) (by decide) k) ?_
              show Go _ _ _ _ s₁ (mkF m 385 #[.val (.int k1), .val (.int c1), .val (.int (lowB c1)), .val (.int (upB c1)), .val (.int (digB c1)), .val (.int (safeB c1)), .val (.int (extB c1)), .val (.int (natB c1)), .val (.int (punB c1)), .val (.int (resB c1)), .val (.int (hexB c1))] [])
              refine Go.by (fun _ k => XS.iloadN X0.here hx rfl (hb hby d1_385) rfl k) ?_
              show Go _ _ _ _ s₁ (mkF m 386 #[.val (.int k1), .val (.int c1), .val (.int (lowB c1)), .val (.int (upB c1)), .val (.int (digB c1)), .val (.int (safeB c1)), .val (.int (extB c1)), .val (.int (natB c1)), .val (.int (punB c1)), .val (.int (resB c1)), .val (.int (hexB c1))] [(.int k1)])
              refine Go.by (fun _ k => XT.bipushV X0.here hx rfl (6 : Int32) (hb hby d1_386) (by decide) k) ?_
              show Go _ _ _ _ s₁ (mkF m 388 #[.val (.int k1), .val (.int c1), .val (.int (lowB c1)), .val (.int (upB c1)), .val (.int (digB c1)), .val (.int (safeB c1)), .val (.int (extB c1)), .val (.int (natB c1)), .val (.int (punB c1)), .val (.int (resB c1)), .val (.int (hexB c1))] [(.int (6 : Int32)), (.int k1)])
              by_cases c158 : k1 = (6 : Int32)
              · refine Go.by (fun _ k => XS.icmpNo X0.here hx rfl (hb hby d1_388) rfl (XT.ii_ne_f c158) k) ?_
                show Go _ _ _ _ s₁ (mkF m 391 #[.val (.int k1), .val (.int c1), .val (.int (lowB c1)), .val (.int (upB c1)), .val (.int (digB c1)), .val (.int (safeB c1)), .val (.int (extB c1)), .val (.int (natB c1)), .val (.int (punB c1)), .val (.int (resB c1)), .val (.int (hexB c1))] [])
                refine Go.by (fun _ k => XS.iload X0.here hx rfl (hb hby d1_391) rfl k) ?_
                show Go _ _ _ _ s₁ (mkF m 393 #[.val (.int k1), .val (.int c1), .val (.int (lowB c1)), .val (.int (upB c1)), .val (.int (digB c1)), .val (.int (safeB c1)), .val (.int (extB c1)), .val (.int (natB c1)), .val (.int (punB c1)), .val (.int (resB c1)), .val (.int (hexB c1))] [(.int (extB c1))])
                exact Go.retZ X0 hx Bd.notSynchronized (t := .boolean) Bd.returns (by simp) (hb hby d1_393) ⟨by simp [refV, nb, nar, c147, c148, c149, c152, c153, c157, c158], N0, e0⟩ (by decide) (by decide)
              · refine Go.by (fun _ k => XS.icmpYes X0.here hx rfl (pc0 := 388) (pc' := 394) rfl (hb hby d1_388) rfl (XT.ii_ne_t c158) (by decide) (by decide) k) ?_
                show Go _ _ _ _ s₁ (mkF m 394 #[.val (.int k1), .val (.int c1), .val (.int (lowB c1)), .val (.int (upB c1)), .val (.int (digB c1)), .val (.int (safeB c1)), .val (.int (extB c1)), .val (.int (natB c1)), .val (.int (punB c1)), .val (.int (resB c1)), .val (.int (hexB c1))] [])
                refine Go.by (fun _ k => XS.iloadN X0.here hx rfl (hb hby d1_394) rfl k) ?_
                show Go _ _ _ _ s₁ (mkF m 395 #[.val (.int k1), .val (.int c1), .val (.int (lowB c1)), .val (.int (upB c1)), .val (.int (digB c1)), .val (.int (safeB c1)), .val (.int (extB c1)), .val (.int (natB c1)), .val (.int (punB c1)), .val (.int (resB c1)), .val (.int (hexB c1))] [(.int k1)])
                refine Go.by (fun _ k => XT.bipushV X0.here hx rfl (7 : Int32) (hb hby d1_395) (by decide) k) ?_
                show Go _ _ _ _ s₁ (mkF m 397 #[.val (.int k1), .val (.int c1), .val (.int (lowB c1)), .val (.int (upB c1)), .val (.int (digB c1)), .val (.int (safeB c1)), .val (.int (extB c1)), .val (.int (natB c1)), .val (.int (punB c1)), .val (.int (resB c1)), .val (.int (hexB c1))] [(.int (7 : Int32)), (.int k1)])
                by_cases c159 : k1 = (7 : Int32)
                · refine Go.by (fun _ k => XS.icmpNo X0.here hx rfl (hb hby d1_397) rfl (XT.ii_ne_f c159) k) ?_
                  show Go _ _ _ _ s₁ (mkF m 400 #[.val (.int k1), .val (.int c1), .val (.int (lowB c1)), .val (.int (upB c1)), .val (.int (digB c1)), .val (.int (safeB c1)), .val (.int (extB c1)), .val (.int (natB c1)), .val (.int (punB c1)), .val (.int (resB c1)), .val (.int (hexB c1))] [])
                  refine Go.by (fun _ k => XS.iload X0.here hx rfl (hb hby d1_400) rfl k) ?_
                  show Go _ _ _ _ s₁ (mkF m 402 #[.val (.int k1), .val (.int c1), .val (.int (lowB c1)), .val (.int (upB c1)), .val (.int (digB c1)), .val (.int (safeB c1)), .val (.int (extB c1)), .val (.int (natB c1)), .val (.int (punB c1)), .val (.int (resB c1)), .val (.int (hexB c1))] [(.int (natB c1))])
                  exact Go.retZ X0 hx Bd.notSynchronized (t := .boolean) Bd.returns (by simp) (hb hby d1_402) ⟨by simp [refV, nb, nar, c147, c148, c149, c152, c153, c157, c158, c159], N0, e0⟩ (by decide) (by decide)
                · refine Go.by (fun _ k => XS.icmpYes X0.here hx rfl (pc0 := 397) (pc' := 403) rfl (hb hby d1_397) rfl (XT.ii_ne_t c159) (by decide) (by decide) k) ?_
                  show Go _ _ _ _ s₁ (mkF m 403 #[.val (.int k1), .val (.int c1), .val (.int (lowB c1)), .val (.int (upB c1)), .val (.int (digB c1)), .val (.int (safeB c1)), .val (.int (extB c1)), .val (.int (natB c1)), .val (.int (punB c1)), .val (.int (resB c1)), .val (.int (hexB c1))] [])
                  refine Go.by (fun _ k => XS.iloadN X0.here hx rfl (hb hby d1_403) rfl k) ?_
                  show Go _ _ _ _ s₁ (mkF m 404 #[.val (.int k1), .val (.int c1), .val (.int (lowB c1)), .val (.int (upB c1)), .val (.int (digB c1)), .val (.int (safeB c1)), .val (.int (extB c1)), .val (.int (natB c1)), .val (.int (punB c1)), .val (.int (resB c1)), .val (.int (hexB c1))] [(.int k1)])
                  refine Go.by (fun _ k => XT.bipushV X0.here hx rfl (8 : Int32) (hb hby d1_404) (by decide) k) ?_
                  show Go _ _ _ _ s₁ (mkF m 406 #[.val (.int k1), .val (.int c1), .val (.int (lowB c1)), .val (.int (upB c1)), .val (.int (digB c1)), .val (.int (safeB c1)), .val (.int (extB c1)), .val (.int (natB c1)), .val (.int (punB c1)), .val (.int (resB c1)), .val (.int (hexB c1))] [(.int (8 : Int32)), (.int k1)])
                  by_cases c160 : k1 = (8 : Int32)
                  · refine Go.by (fun _ k => XS.icmpNo X0.here hx rfl (hb hby d1_406) rfl (XT.ii_ne_f c160) k) ?_
                    show Go _ _ _ _ s₁ (mkF m 409 #[.val (.int k1), .val (.int c1), .val (.int (lowB c1)), .val (.int (upB c1)), .val (.int (digB c1)), .val (.int (safeB c1)), .val (.int (extB c1)), .val (.int (natB c1)), .val (.int (punB c1)), .val (.int (resB c1)), .val (.int (hexB c1))] [])
                    refine Go.by (fun _ k => XS.iload X0.here hx rfl (hb hby d1_409) rfl k) ?_
                    show Go _ _ _ _ s₁ (mkF m 411 #[.val (.int k1), .val (.int c1), .val (.int (lowB c1)), .val (.int (upB c1)), .val (.int (digB c1)), .val (.int (safeB c1)), .val (.int (extB c1)), .val (.int (natB c1)), .val (.int (punB c1)), .val (.int (resB c1)), .val (.int (hexB c1))] [(.int (punB c1))])
                    exact Go.retZ X0 hx Bd.notSynchronized (t := .boolean) Bd.returns (by simp) (hb hby d1_411) ⟨by simp [refV, nb, nar, c147, c148, c149, c152, c153, c157, c158, c159, c160], N0, e0⟩ (by decide) (by decide)
                  · refine Go.by (fun _ k => XS.icmpYes X0.here hx rfl (pc0 := 406) (pc' := 412) rfl (hb hby d1_406) rfl (XT.ii_ne_t c160) (by decide) (by decide) k) ?_
                    show Go _ _ _ _ s₁ (mkF m 412 #[.val (.int k1), .val (.int c1), .val (.int (lowB c1)), .val (.int (upB c1)), .val (.int (digB c1)), .val (.int (safeB c1)), .val (.int (extB c1)), .val (.int (natB c1)), .val (.int (punB c1)), .val (.int (resB c1)), .val (.int (hexB c1))] [])
                    refine Go.by (fun _ k => XS.iloadN X0.here hx rfl (hb hby d1_412) rfl k) ?_
                    show Go _ _ _ _ s₁ (mkF m 413 #[.val (.int k1), .val (.int c1), .val (.int (lowB c1)), .val (.int (upB c1)), .val (.int (digB c1)), .val (.int (safeB c1)), .val (.int (extB c1)), .val (.int (natB c1)), .val (.int (punB c1)), .val (.int (resB c1)), .val (.int (hexB c1))] [(.int k1)])
                    refine Go.by (fun _ k => XT.bipushV X0.here hx rfl (9 : Int32) (hb hby d1_413) (by decide) k) ?_
                    show Go _ _ _ _ s₁ (mkF m 415 #[.val (.int k1), .val (.int c1), .val (.int (lowB c1)), .val (.int (upB c1)), .val (.int (digB c1)), .val (.int (safeB c1)), .val (.int (extB c1)), .val (.int (natB c1)), .val (.int (punB c1)), .val (.int (resB c1)), .val (.int (hexB c1))] [(.int (9 : Int32)), (.int k1)])
                    by_cases c161 : k1 = (9 : Int32)
                    · refine Go.by (fun _ k => XS.icmpNo X0.here hx rfl (hb hby d1_415) rfl (XT.ii_ne_f c161) k) ?_
                      show Go _ _ _ _ s₁ (mkF m 418 #[.val (.int k1), .val (.int c1), .val (.int (lowB c1)), .val (.int (upB c1)), .val (.int (digB c1)), .val (.int (safeB c1)), .val (.int (extB c1)), .val (.int (natB c1)), .val (.int (punB c1)), .val (.int (resB c1)), .val (.int (hexB c1))] [])
                      refine Go.by (fun _ k => XS.iload X0.here hx rfl (hb hby d1_418) rfl k) ?_
                      show Go _ _ _ _ s₁ (mkF m 420 #[.val (.int k1), .val (.int c1), .val (.int (lowB c1)), .val (.int (upB c1)), .val (.int (digB c1)), .val (.int (safeB c1)), .val (.int (extB c1)), .val (.int (natB c1)), .val (.int (punB c1)), .val (.int (resB c1)), .val (.int (hexB c1))] [(.int (resB c1))])
                      exact Go.retZ X0 hx Bd.notSynchronized (t := .boolean) Bd.returns (by simp) (hb hby d1_420) ⟨by simp [refV, nb, nar, c147, c148, c149, c152, c153, c157, c158, c159, c160, c161], N0, e0⟩ (by decide) (by decide)
                    · refine Go.by (fun _ k => XS.icmpYes X0.here hx rfl (pc0 := 415) (pc' := 421) rfl (hb hby d1_415) rfl (XT.ii_ne_t c161) (by decide) (by decide) k) ?_
                      show Go _ _ _ _ s₁ (mkF m 421 #[.val (.int k1), .val (.int c1), .val (.int (lowB c1)), .val (.int (upB c1)), .val (.int (digB c1)), .val (.int (safeB c1)), .val (.int (extB c1)), .val (.int (natB c1)), .val (.int (punB c1)), .val (.int (resB c1)), .val (.int (hexB c1))] [])
                      refine Go.by (fun _ k => XS.iloadN X0.here hx rfl (hb hby d1_421) rfl k) ?_
                      show Go _ _ _ _ s₁ (mkF m 422 #[.val (.int k1), .val (.int c1), .val (.int (lowB c1)), .val (.int (upB c1)), .val (.int (digB c1)), .val (.int (safeB c1)), .val (.int (extB c1)), .val (.int (natB c1)), .val (.int (punB c1)), .val (.int (resB c1)), .val (.int (hexB c1))] [(.int k1)])
                      refine Go.by (fun _ k => XT.bipushV X0.here hx rfl (10 : Int32) (hb hby d1_422) (by decide) k) ?_
                      show Go _ _ _ _ s₁ (mkF m 424 #[.val (.int k1), .val (.int c1), .val (.int (lowB c1)), .val (.int (upB c1)), .val (.int (digB c1)), .val (.int (safeB c1)), .val (.int (extB c1)), .val (.int (natB c1)), .val (.int (punB c1)), .val (.int (resB c1)), .val (.int (hexB c1))] [(.int (10 : Int32)), (.int k1)])
                      by_cases c162 : k1 = (10 : Int32)
                      · refine Go.by (fun _ k => XS.icmpNo X0.here hx rfl (hb hby d1_424) rfl (XT.ii_ne_f c162) k) ?_
                        show Go _ _ _ _ s₁ (mkF m 427 #[.val (.int k1), .val (.int c1), .val (.int (lowB c1)), .val (.int (upB c1)), .val (.int (digB c1)), .val (.int (safeB c1)), .val (.int (extB c1)), .val (.int (natB c1)), .val (.int (punB c1)), .val (.int (resB c1)), .val (.int (hexB c1))] [])
                        refine Go.by (fun _ k => XS.iload X0.here hx rfl (hb hby d1_427) rfl k) ?_
                        show Go _ _ _ _ s₁ (mkF m 429 #[.val (.int k1), .val (.int c1), .val (.int (lowB c1)), .val (.int (upB c1)), .val (.int (digB c1)), .val (.int (safeB c1)), .val (.int (extB c1)), .val (.int (natB c1)), .val (.int (punB c1)), .val (.int (resB c1)), .val (.int (hexB c1))] [(.int (hexB c1))])
                        by_cases c163 : (hexB c1) = 0
                        · refine Go.by (fun _ k => XS.ifNo X0.here hx rfl (hb hby d1_429) rfl (XT.i0_ne_f c163) k) ?_
                          show Go _ _ _ _ s₁ (mkF m 432 #[.val (.int k1), .val (.int c1), .val (.int (lowB c1)), .val (.int (upB c1)), .val (.int (digB c1)), .val (.int (safeB c1)), .val (.int (extB c1)), .val (.int (natB c1)), .val (.int (punB c1)), .val (.int (resB c1)), .val (.int (hexB c1))] [])
                          refine Go.by (fun _ k => XS.iload X0.here hx rfl (hb hby d1_432) rfl k) ?_
                          show Go _ _ _ _ s₁ (mkF m 434 #[.val (.int k1), .val (.int c1), .val (.int (lowB c1)), .val (.int (upB c1)), .val (.int (digB c1)), .val (.int (safeB c1)), .val (.int (extB c1)), .val (.int (natB c1)), .val (.int (punB c1)), .val (.int (resB c1)), .val (.int (hexB c1))] [(.int (digB c1))])
                          by_cases c164 : (digB c1) = 0
                          · refine Go.by (fun _ k => XS.ifYes X0.here hx rfl (pc0 := 434) (pc' := 441) rfl (hb hby d1_434) rfl (XT.i0_eq_t c164) (by decide) (by decide) k) ?_
                            show Go _ _ _ _ s₁ (mkF m 441 #[.val (.int k1), .val (.int c1), .val (.int (lowB c1)), .val (.int (upB c1)), .val (.int (digB c1)), .val (.int (safeB c1)), .val (.int (extB c1)), .val (.int (natB c1)), .val (.int (punB c1)), .val (.int (resB c1)), .val (.int (hexB c1))] [])
                            refine Go.by (fun _ k => XT.iconstV X0.here hx rfl (0 : Int32) (hb hby d1_441) (by decide) k) ?_
                            show Go _ _ _ _ s₁ (mkF m 442 #[.val (.int k1), .val (.int c1), .val (.int (lowB c1)), .val (.int (upB c1)), .val (.int (digB c1)), .val (.int (safeB c1)), .val (.int (extB c1)), .val (.int (natB c1)), .val (.int (punB c1)), .val (.int (resB c1)), .val (.int (hexB c1))] [(.int (0 : Int32))])
                            exact Go.retZ X0 hx Bd.notSynchronized (t := .boolean) Bd.returns (by simp) (hb hby d1_442) ⟨by simp [refV, nb, nar, c147, c148, c149, c152, c153, c157, c158, c159, c160, c161, c162, c163, c164], N0, e0⟩ (by decide) (by decide)
                          · refine Go.by (fun _ k => XS.ifNo X0.here hx rfl (hb hby d1_434) rfl (XT.i0_eq_f c164) k) ?_
                            show Go _ _ _ _ s₁ (mkF m 437 #[.val (.int k1), .val (.int c1), .val (.int (lowB c1)), .val (.int (upB c1)), .val (.int (digB c1)), .val (.int (safeB c1)), .val (.int (extB c1)), .val (.int (natB c1)), .val (.int (punB c1)), .val (.int (resB c1)), .val (.int (hexB c1))] [])
                            refine Go.by (fun _ k => XT.iconstV X0.here hx rfl (1 : Int32) (hb hby d1_437) (by decide) k) ?_
                            show Go _ _ _ _ s₁ (mkF m 438 #[.val (.int k1), .val (.int c1), .val (.int (lowB c1)), .val (.int (upB c1)), .val (.int (digB c1)), .val (.int (safeB c1)), .val (.int (extB c1)), .val (.int (natB c1)), .val (.int (punB c1)), .val (.int (resB c1)), .val (.int (hexB c1))] [(.int (1 : Int32))])
                            refine Go.by (fun _ k => XS.goto X0.here hx rfl (pc0 := 438) (pc' := 442) rfl (hb hby d1_438) (by decide) (by decide) k) ?_
                            show Go _ _ _ _ s₁ (mkF m 442 #[.val (.int k1), .val (.int c1), .val (.int (lowB c1)), .val (.int (upB c1)), .val (.int (digB c1)), .val (.int (safeB c1)), .val (.int (extB c1)), .val (.int (natB c1)), .val (.int (punB c1)), .val (.int (resB c1)), .val (.int (hexB c1))] [(.int (1 : Int32))])
                            exact Go.retZ X0 hx Bd.notSynchronized (t := .boolean) Bd.returns (by simp) (hb hby d1_442) ⟨by simp [refV, nb, nar, c147, c148, c149, c152, c153, c157, c158, c159, c160, c161, c162, c163, c164], N0, e0⟩ (by decide) (by decide)
                        · refine Go.by (fun _ k => XS.ifYes X0.here hx rfl (pc0 := 429) (pc' := 437) rfl (hb hby d1_429) rfl (XT.i0_ne_t c163) (by decide) (by decide) k) ?_
                          show Go _ _ _ _ s₁ (mkF m 437 #[.val (.int k1), .val (.int c1), .val (.int (lowB c1)), .val (.int (upB c1)), .val (.int (digB c1)), .val (.int (safeB c1)), .val (.int (extB c1)), .val (.int (natB c1)), .val (.int (punB c1)), .val (.int (resB c1)), .val (.int (hexB c1))] [])
                          refine Go.by (fun _ k => XT.iconstV X0.here hx rfl (1 : Int32) (hb hby d1_437) (by decide) k) ?_
                          show Go _ _ _ _ s₁ (mkF m 438 #[.val (.int k1), .val (.int c1), .val (.int (lowB c1)), .val (.int (upB c1)), .val (.int (digB c1)), .val (.int (safeB c1)), .val (.int (extB c1)), .val (.int (natB c1)), .val (.int (punB c1)), .val (.int (resB c1)), .val (.int (hexB c1))] [(.int (1 : Int32))])
                          refine Go.by (fun _ k => XS.goto X0.here hx rfl (pc0 := 438) (pc' := 442) rfl (hb hby d1_438) (by decide) (by decide) k) ?_
                          show Go _ _ _ _ s₁ (mkF m 442 #[.val (.int k1), .val (.int c1), .val (.int (lowB c1)), .val (.int (upB c1)), .val (.int (digB c1)), .val (.int (safeB c1)), .val (.int (extB c1)), .val (.int (natB c1)), .val (.int (punB c1)), .val (.int (resB c1)), .val (.int (hexB c1))] [(.int (1 : Int32))])
                          exact Go.retZ X0 hx Bd.notSynchronized (t := .boolean) Bd.returns (by simp) (hb hby d1_442) ⟨by simp [refV, nb, nar, c147, c148, c149, c152, c153, c157, c158, c159, c160, c161, c162, c163], N0, e0⟩ (by decide) (by decide)
                      · refine Go.by (fun _ k => XS.icmpYes X0.here hx rfl (pc0 := 424) (pc' := 443) rfl (hb hby d1_424) rfl (XT.ii_ne_t c162) (by decide) (by decide) k) ?_
                        show Go _ _ _ _ s₁ (mkF m 443 #[.val (.int k1), .val (.int c1), .val (.int (lowB c1)), .val (.int (upB c1)), .val (.int (digB c1)), .val (.int (safeB c1)), .val (.int (extB c1)), .val (.int (natB c1)), .val (.int (punB c1)), .val (.int (resB c1)), .val (.int (hexB c1))] [])
                        refine Go.by (fun _ k => XS.iloadN X0.here hx rfl (hb hby d1_443) rfl k) ?_
                        show Go _ _ _ _ s₁ (mkF m 444 #[.val (.int k1), .val (.int c1), .val (.int (lowB c1)), .val (.int (upB c1)), .val (.int (digB c1)), .val (.int (safeB c1)), .val (.int (extB c1)), .val (.int (natB c1)), .val (.int (punB c1)), .val (.int (resB c1)), .val (.int (hexB c1))] [(.int (lowB c1))])
                        by_cases c165 : (lowB c1) = 0
                        · refine Go.by (fun _ k => XS.ifNo X0.here hx rfl (hb hby d1_444) rfl (XT.i0_ne_f c165) k) ?_
                          show Go _ _ _ _ s₁ (mkF m 447 #[.val (.int k1), .val (.int c1), .val (.int (lowB c1)), .val (.int (upB c1)), .val (.int (digB c1)), .val (.int (safeB c1)), .val (.int (extB c1)), .val (.int (natB c1)), .val (.int (punB c1)), .val (.int (resB c1)), .val (.int (hexB c1))] [])
                          refine Go.by (fun _ k => XS.iloadN X0.here hx rfl (hb hby d1_447) rfl k) ?_
                          show Go _ _ _ _ s₁ (mkF m 448 #[.val (.int k1), .val (.int c1), .val (.int (lowB c1)), .val (.int (upB c1)), .val (.int (digB c1)), .val (.int (safeB c1)), .val (.int (extB c1)), .val (.int (natB c1)), .val (.int (punB c1)), .val (.int (resB c1)), .val (.int (hexB c1))] [(.int (upB c1))])
                          by_cases c166 : (upB c1) = 0
                          · refine Go.by (fun _ k => XS.ifNo X0.here hx rfl (hb hby d1_448) rfl (XT.i0_ne_f c166) k) ?_
                            show Go _ _ _ _ s₁ (mkF m 451 #[.val (.int k1), .val (.int c1), .val (.int (lowB c1)), .val (.int (upB c1)), .val (.int (digB c1)), .val (.int (safeB c1)), .val (.int (extB c1)), .val (.int (natB c1)), .val (.int (punB c1)), .val (.int (resB c1)), .val (.int (hexB c1))] [])
                            refine Go.by (fun _ k => XS.iload X0.here hx rfl (hb hby d1_451) rfl k) ?_
                            show Go _ _ _ _ s₁ (mkF m 453 #[.val (.int k1), .val (.int c1), .val (.int (lowB c1)), .val (.int (upB c1)), .val (.int (digB c1)), .val (.int (safeB c1)), .val (.int (extB c1)), .val (.int (natB c1)), .val (.int (punB c1)), .val (.int (resB c1)), .val (.int (hexB c1))] [(.int (digB c1))])
                            by_cases c167 : (digB c1) = 0
                            · refine Go.by (fun _ k => XS.ifNo X0.here hx rfl (hb hby d1_453) rfl (XT.i0_ne_f c167) k) ?_
                              show Go _ _ _ _ s₁ (mkF m 456 #[.val (.int k1), .val (.int c1), .val (.int (lowB c1)), .val (.int (upB c1)), .val (.int (digB c1)), .val (.int (safeB c1)), .val (.int (extB c1)), .val (.int (natB c1)), .val (.int (punB c1)), .val (.int (resB c1)), .val (.int (hexB c1))] [])
                              refine Go.by (fun _ k => XS.iload X0.here hx rfl (hb hby d1_456) rfl k) ?_
                              show Go _ _ _ _ s₁ (mkF m 458 #[.val (.int k1), .val (.int c1), .val (.int (lowB c1)), .val (.int (upB c1)), .val (.int (digB c1)), .val (.int (safeB c1)), .val (.int (extB c1)), .val (.int (natB c1)), .val (.int (punB c1)), .val (.int (resB c1)), .val (.int (hexB c1))] [(.int (safeB c1))])
                              by_cases c168 : (safeB c1) = 0
                              · refine Go.by (fun _ k => XS.ifNo X0.here hx rfl (hb hby d1_458) rfl (XT.i0_ne_f c168) k) ?_
                                show Go _ _ _ _ s₁ (mkF m 461 #[.val (.int k1), .val (.int c1), .val (.int (lowB c1)), .val (.int (upB c1)), .val (.int (digB c1)), .val (.int (safeB c1)), .val (.int (extB c1)), .val (.int (natB c1)), .val (.int (punB c1)), .val (.int (resB c1)), .val (.int (hexB c1))] [])
                                refine Go.by (fun _ k => XS.iload X0.here hx rfl (hb hby d1_461) rfl k) ?_
                                show Go _ _ _ _ s₁ (mkF m 463 #[.val (.int k1), .val (.int c1), .val (.int (lowB c1)), .val (.int (upB c1)), .val (.int (digB c1)), .val (.int (safeB c1)), .val (.int (extB c1)), .val (.int (natB c1)), .val (.int (punB c1)), .val (.int (resB c1)), .val (.int (hexB c1))] [(.int (extB c1))])
                                by_cases c169 : (extB c1) = 0
                                · refine Go.by (fun _ k => XS.ifYes X0.here hx rfl (pc0 := 463) (pc' := 470) rfl (hb hby d1_463) rfl (XT.i0_eq_t c169) (by decide) (by decide) k) ?_
                                  show Go _ _ _ _ s₁ (mkF m 470 #[.val (.int k1), .val (.int c1), .val (.int (lowB c1)), .val (.int (upB c1)), .val (.int (digB c1)), .val (.int (safeB c1)), .val (.int (extB c1)), .val (.int (natB c1)), .val (.int (punB c1)), .val (.int (resB c1)), .val (.int (hexB c1))] [])
                                  refine Go.by (fun _ k => XT.iconstV X0.here hx rfl (0 : Int32) (hb hby d1_470) (by decide) k) ?_
                                  show Go _ _ _ _ s₁ (mkF m 471 #[.val (.int k1), .val (.int c1), .val (.int (lowB c1)), .val (.int (upB c1)), .val (.int (digB c1)), .val (.int (safeB c1)), .val (.int (extB c1)), .val (.int (natB c1)), .val (.int (punB c1)), .val (.int (resB c1)), .val (.int (hexB c1))] [(.int (0 : Int32))])
                                  exact Go.retZ X0 hx Bd.notSynchronized (t := .boolean) Bd.returns (by simp) (hb hby d1_471) ⟨by simp [refV, nb, nar, c147, c148, c149, c152, c153, c157, c158, c159, c160, c161, c162, c165, c166, c167, c168, c169], N0, e0⟩ (by decide) (by decide)
                                · refine Go.by (fun _ k => XS.ifNo X0.here hx rfl (hb hby d1_463) rfl (XT.i0_eq_f c169) k) ?_
                                  show Go _ _ _ _ s₁ (mkF m 466 #[.val (.int k1), .val (.int c1), .val (.int (lowB c1)), .val (.int (upB c1)), .val (.int (digB c1)), .val (.int (safeB c1)), .val (.int (extB c1)), .val (.int (natB c1)), .val (.int (punB c1)), .val (.int (resB c1)), .val (.int (hexB c1))] [])
                                  refine Go.by (fun _ k => XT.iconstV X0.here hx rfl (1 : Int32) (hb hby d1_466) (by decide) k) ?_
                                  show Go _ _ _ _ s₁ (mkF m 467 #[.val (.int k1), .val (.int c1), .val (.int (lowB c1)), .val (.int (upB c1)), .val (.int (digB c1)), .val (.int (safeB c1)), .val (.int (extB c1)), .val (.int (natB c1)), .val (.int (punB c1)), .val (.int (resB c1)), .val (.int (hexB c1))] [(.int (1 : Int32))])
                                  refine Go.by (fun _ k => XS.goto X0.here hx rfl (pc0 := 467) (pc' := 471) rfl (hb hby d1_467) (by decide) (by decide) k) ?_
                                  show Go _ _ _ _ s₁ (mkF m 471 #[.val (.int k1), .val (.int c1), .val (.int (lowB c1)), .val (.int (upB c1)), .val (.int (digB c1)), .val (.int (safeB c1)), .val (.int (extB c1)), .val (.int (natB c1)), .val (.int (punB c1)), .val (.int (resB c1)), .val (.int (hexB c1))] [(.int (1 : Int32))])
                                  exact Go.retZ X0 hx Bd.notSynchronized (t := .boolean) Bd.returns (by simp) (hb hby d1_471) ⟨by simp [refV, nb, nar, c147, c148, c149, c152, c153, c157, c158, c159, c160, c161, c162, c165, c166, c167, c168, c169], N0, e0⟩ (by decide) (by decide)
                              · refine Go.by (fun _ k => XS.ifYes X0.here hx rfl (pc0 := 458) (pc' := 466) rfl (hb hby d1_458) rfl (XT.i0_ne_t c168) (by decide) (by decide) k) ?_
                                show Go _ _ _ _ s₁ (mkF m 466 #[.val (.int k1), .val (.int c1), .val (.int (lowB c1)), .val (.int (upB c1)), .val (.int (digB c1)), .val (.int (safeB c1)), .val (.int (extB c1)), .val (.int (natB c1)), .val (.int (punB c1)), .val (.int (resB c1)), .val (.int (hexB c1))] [])
                                refine Go.by (fun _ k => XT.iconstV X0.here hx rfl (1 : Int32) (hb hby d1_466) (by decide) k) ?_
                                show Go _ _ _ _ s₁ (mkF m 467 #[.val (.int k1), .val (.int c1), .val (.int (lowB c1)), .val (.int (upB c1)), .val (.int (digB c1)), .val (.int (safeB c1)), .val (.int (extB c1)), .val (.int (natB c1)), .val (.int (punB c1)), .val (.int (resB c1)), .val (.int (hexB c1))] [(.int (1 : Int32))])
                                refine Go.by (fun _ k => XS.goto X0.here hx rfl (pc0 := 467) (pc' := 471) rfl (hb hby d1_467) (by decide) (by decide) k) ?_
                                show Go _ _ _ _ s₁ (mkF m 471 #[.val (.int k1), .val (.int c1), .val (.int (lowB c1)), .val (.int (upB c1)), .val (.int (digB c1)), .val (.int (safeB c1)), .val (.int (extB c1)), .val (.int (natB c1)), .val (.int (punB c1)), .val (.int (resB c1)), .val (.int (hexB c1))] [(.int (1 : Int32))])
                                exact Go.retZ X0 hx Bd.notSynchronized (t := .boolean) Bd.returns (by simp) (hb hby d1_471) ⟨by simp [refV, nb, nar, c147, c148, c149, c152, c153, c157, c158, c159, c160, c161, c162, c165, c166, c167, c168], N0, e0⟩ (by decide) (by decide)
                            · refine Go.by (fun _ k => XS.ifYes X0.here hx rfl (pc0 := 453) (pc' := 466) rfl (hb hby d1_453) rfl (XT.i0_ne_t c167) (by decide) (by decide) k) ?_
                              show Go _ _ _ _ s₁ (mkF m 466 #[.val (.int k1), .val (.int c1), .val (.int (lowB c1)), .val (.int (upB c1)), .val (.int (digB c1)), .val (.int (safeB c1)), .val (.int (extB c1)), .val (.int (natB c1)), .val (.int (punB c1)), .val (.int (resB c1)), .val (.int (hexB c1))] [])
                              refine Go.by (fun _ k => XT.iconstV X0.here hx rfl (1 : Int32) (hb hby d1_466) (by decide) k) ?_
                              show Go _ _ _ _ s₁ (mkF m 467 #[.val (.int k1), .val (.int c1), .val (.int (lowB c1)), .val (.int (upB c1)), .val (.int (digB c1)), .val (.int (safeB c1)), .val (.int (extB c1)), .val (.int (natB c1)), .val (.int (punB c1)), .val (.int (resB c1)), .val (.int (hexB c1))] [(.int (1 : Int32))])
                              refine Go.by (fun _ k => XS.goto X0.here hx rfl (pc0 := 467) (pc' := 471) rfl (hb hby d1_467) (by decide) (by decide) k) ?_
                              show Go _ _ _ _ s₁ (mkF m 471 #[.val (.int k1), .val (.int c1), .val (.int (lowB c1)), .val (.int (upB c1)), .val (.int (digB c1)), .val (.int (safeB c1)), .val (.int (extB c1)), .val (.int (natB c1)), .val (.int (punB c1)), .val (.int (resB c1)), .val (.int (hexB c1))] [(.int (1 : Int32))])
                              exact Go.retZ X0 hx Bd.notSynchronized (t := .boolean) Bd.returns (by simp) (hb hby d1_471) ⟨by simp [refV, nb, nar, c147, c148, c149, c152, c153, c157, c158, c159, c160, c161, c162, c165, c166, c167], N0, e0⟩ (by decide) (by decide)
                          · refine Go.by (fun _ k => XS.ifYes X0.here hx rfl (pc0 := 448) (pc' := 466) rfl (hb hby d1_448) rfl (XT.i0_ne_t c166) (by decide) (by decide) k) ?_
                            show Go _ _ _ _ s₁ (mkF m 466 #[.val (.int k1), .val (.int c1), .val (.int (lowB c1)), .val (.int (upB c1)), .val (.int (digB c1)), .val (.int (safeB c1)), .val (.int (extB c1)), .val (.int (natB c1)), .val (.int (punB c1)), .val (.int (resB c1)), .val (.int (hexB c1))] [])
                            refine Go.by (fun _ k => XT.iconstV X0.here hx rfl (1 : Int32) (hb hby d1_466) (by decide) k) ?_
                            show Go _ _ _ _ s₁ (mkF m 467 #[.val (.int k1), .val (.int c1), .val (.int (lowB c1)), .val (.int (upB c1)), .val (.int (digB c1)), .val (.int (safeB c1)), .val (.int (extB c1)), .val (.int (natB c1)), .val (.int (punB c1)), .val (.int (resB c1)), .val (.int (hexB c1))] [(.int (1 : Int32))])
                            refine Go.by (fun _ k => XS.goto X0.here hx rfl (pc0 := 467) (pc' := 471) rfl (hb hby d1_467) (by decide) (by decide) k) ?_
                            show Go _ _ _ _ s₁ (mkF m 471 #[.val (.int k1), .val (.int c1), .val (.int (lowB c1)), .val (.int (upB c1)), .val (.int (digB c1)), .val (.int (safeB c1)), .val (.int (extB c1)), .val (.int (natB c1)), .val (.int (punB c1)), .val (.int (resB c1)), .val (.int (hexB c1))] [(.int (1 : Int32))])
                            exact Go.retZ X0 hx Bd.notSynchronized (t := .boolean) Bd.returns (by simp) (hb hby d1_471) ⟨by simp [refV, nb, nar, c147, c148, c149, c152, c153, c157, c158, c159, c160, c161, c162, c165, c166], N0, e0⟩ (by decide) (by decide)
                        · refine Go.by (fun _ k => XS.ifYes X0.here hx rfl (pc0 := 444) (pc' := 466) rfl (hb hby d1_444) rfl (XT.i0_ne_t c165) (by decide) (by decide) k) ?_
                          show Go _ _ _ _ s₁ (mkF m 466 #[.val (.int k1), .val (.int c1), .val (.int (lowB c1)), .val (.int (upB c1)), .val (.int (digB c1)), .val (.int (safeB c1)), .val (.int (extB c1)), .val (.int (natB c1)), .val (.int (punB c1)), .val (.int (resB c1)), .val (.int (hexB c1))] [])
                          refine Go.by (fun _ k => XT.iconstV X0.here hx rfl (1 : Int32) (hb hby d1_466) (by decide) k) ?_
                          show Go _ _ _ _ s₁ (mkF m 467 #[.val (.int k1), .val (.int c1), .val (.int (lowB c1)), .val (.int (upB c1)), .val (.int (digB c1)), .val (.int (safeB c1)), .val (.int (extB c1)), .val (.int (natB c1)), .val (.int (punB c1)), .val (.int (resB c1)), .val (.int (hexB c1))] [(.int (1 : Int32))])
                          refine Go.by (fun _ k => XS.goto X0.here hx rfl (pc0 := 467) (pc' := 471) rfl (hb hby d1_467) (by decide) (by decide) k) ?_
                          show Go _ _ _ _ s₁ (mkF m 471 #[.val (.int k1), .val (.int c1), .val (.int (lowB c1)), .val (.int (upB c1)), .val (.int (digB c1)), .val (.int (safeB c1)), .val (.int (extB c1)), .val (.int (natB c1)), .val (.int (punB c1)), .val (.int (resB c1)), .val (.int (hexB c1))] [(.int (1 : Int32))])
                          exact Go.retZ X0 hx Bd.notSynchronized (t := .boolean) Bd.returns (by simp) (hb hby d1_471) ⟨by simp [refV, nb, nar, c147, c148, c149, c152, c153, c157, c158, c159, c160, c161, c162, c165], N0, e0⟩ (by decide) (by decide)
theorem pd__C_Z : parseMethodDescriptor "(C)Z" = some ⟨[.char], some .boolean⟩ := by decide +kernel
theorem pd__IC_Z : parseMethodDescriptor "(IC)Z" = some ⟨[.int, .char], some .boolean⟩ := by decide +kernel
def Q_rm0 (Z : State) (i0 : Int32) (i1 : Int32) (i2 : Int32) (ad0 : Addr) (ad1 : Addr) (ad2 : Addr) (ad3 : Addr) (ad4 : Addr) (ad5 : Addr) (ad6 : Addr) (ad7 : Addr) (ad8 : Addr) (ad9 : Addr) (ad10 : Addr) (ad11 : Addr) (b0 : Addr) (b1 : Addr) (b2 : Addr) (b3 : Addr) (b4 : Addr) (b5 : Addr) (b6 : Addr) (b7 : Addr) (b8 : Addr) (b9 : Addr) (b10 : Addr) (b11 : Addr) (k0 : ClassId) (k1 : ClassId) (k2 : ClassId) (k3 : ClassId) (k4 : ClassId) (k5 : ClassId) (k6 : ClassId) (k7 : ClassId) (k8 : ClassId) (k9 : ClassId) (k10 : ClassId) (k11 : ClassId) (h0 : Heap) (n0 : Nat) (v : Option Value) (h : Heap) (L : List Loc) : Prop := v = some (.int 1) ∧ Fr n0 L
set_option maxRecDepth 65536 in
set_option maxHeartbeats 40000000 in
theorem rm0 (l : Launch) (Z : State) (a0 : Array Value) (hw : ∀ d ∈ tables_1, d.before a0 Z = true) (ws : List Jvm.Cond) (i0 : Int32) (i1 : Int32) (i2 : Int32) (ad0 : Addr) (ad1 : Addr) (ad2 : Addr) (ad3 : Addr) (ad4 : Addr) (ad5 : Addr) (ad6 : Addr) (ad7 : Addr) (ad8 : Addr) (ad9 : Addr) (ad10 : Addr) (ad11 : Addr) (b0 : Addr) (b1 : Addr) (b2 : Addr) (b3 : Addr) (b4 : Addr) (b5 : Addr) (b6 : Addr) (b7 : Addr) (b8 : Addr) (b9 : Addr) (b10 : Addr) (b11 : Addr) (k0 : ClassId) (k1 : ClassId) (k2 : ClassId) (k3 : ClassId) (k4 : ClassId) (k5 : ClassId) (k6 : ClassId) (k7 : ClassId) (k8 : ClassId) (k9 : ClassId) (k10 : ClassId) (k11 : ClassId) (h0 : Heap) (n0 : Nat) (Z0 : n0 ≤ h0.size) (O0 : Old Z n0 h0) (S0 : Sta Z Z.heap "com/example/wayfaring_tree/wayfaringtree/grammar/CharClass" "LOWALPHA" "Lcom/example/wayfaring_tree/wayfaringtree/grammar/CharClass;" (.ref ad0)) (S1 : Sta Z Z.heap "com/example/wayfaring_tree/wayfaringtree/grammar/CharClass" "HIALPHA" "Lcom/example/wayfaring_tree/wayfaringtree/grammar/CharClass;" (.ref ad1)) (S2 : Sta Z Z.heap "com/example/wayfaring_tree/wayfaringtree/grammar/CharClass" "ALPHA" "Lcom/example/wayfaring_tree/wayfaringtree/grammar/CharClass;" (.ref ad2)) (S3 : Sta Z Z.heap "com/example/wayfaring_tree/wayfaringtree/grammar/CharClass" "DIGIT" "Lcom/example/wayfaring_tree/wayfaringtree/grammar/CharClass;" (.ref ad3)) (S4 : Sta Z Z.heap "com/example/wayfaring_tree/wayfaringtree/grammar/CharClass" "ALPHADIGIT" "Lcom/example/wayfaring_tree/wayfaringtree/grammar/CharClass;" (.ref ad4)) (S5 : Sta Z Z.heap "com/example/wayfaring_tree/wayfaringtree/grammar/CharClass" "SAFE" "Lcom/example/wayfaring_tree/wayfaringtree/grammar/CharClass;" (.ref ad5)) (S6 : Sta Z Z.heap "com/example/wayfaring_tree/wayfaringtree/grammar/CharClass" "EXTRA" "Lcom/example/wayfaring_tree/wayfaringtree/grammar/CharClass;" (.ref ad6)) (S7 : Sta Z Z.heap "com/example/wayfaring_tree/wayfaringtree/grammar/CharClass" "NATIONAL" "Lcom/example/wayfaring_tree/wayfaringtree/grammar/CharClass;" (.ref ad7)) (S8 : Sta Z Z.heap "com/example/wayfaring_tree/wayfaringtree/grammar/CharClass" "PUNCTUATION" "Lcom/example/wayfaring_tree/wayfaringtree/grammar/CharClass;" (.ref ad8)) (S9 : Sta Z Z.heap "com/example/wayfaring_tree/wayfaringtree/grammar/CharClass" "RESERVED" "Lcom/example/wayfaring_tree/wayfaringtree/grammar/CharClass;" (.ref ad9)) (S10 : Sta Z Z.heap "com/example/wayfaring_tree/wayfaringtree/grammar/CharClass" "HEX" "Lcom/example/wayfaring_tree/wayfaringtree/grammar/CharClass;" (.ref ad10)) (S11 : Sta Z Z.heap "com/example/wayfaring_tree/wayfaringtree/grammar/CharClass" "UNRESERVED" "Lcom/example/wayfaring_tree/wayfaringtree/grammar/CharClass;" (.ref ad11)) (E0 : Exa Z Z.heap ad0 "com/example/wayfaring_tree/wayfaringtree/grammar/CharClass") (E1 : Exa Z Z.heap ad1 "com/example/wayfaring_tree/wayfaringtree/grammar/CharClass") (E2 : Exa Z Z.heap ad2 "com/example/wayfaring_tree/wayfaringtree/grammar/CharClass") (E3 : Exa Z Z.heap ad3 "com/example/wayfaring_tree/wayfaringtree/grammar/CharClass") (E4 : Exa Z Z.heap ad4 "com/example/wayfaring_tree/wayfaringtree/grammar/CharClass") (E5 : Exa Z Z.heap ad5 "com/example/wayfaring_tree/wayfaringtree/grammar/CharClass") (E6 : Exa Z Z.heap ad6 "com/example/wayfaring_tree/wayfaringtree/grammar/CharClass") (E7 : Exa Z Z.heap ad7 "com/example/wayfaring_tree/wayfaringtree/grammar/CharClass") (E8 : Exa Z Z.heap ad8 "com/example/wayfaring_tree/wayfaringtree/grammar/CharClass") (E9 : Exa Z Z.heap ad9 "com/example/wayfaring_tree/wayfaringtree/grammar/CharClass") (E10 : Exa Z Z.heap ad10 "com/example/wayfaring_tree/wayfaringtree/grammar/CharClass") (E11 : Exa Z Z.heap ad11 "com/example/wayfaring_tree/wayfaringtree/grammar/CharClass") (F0 : Fld Z Z.heap ad0 "com/example/wayfaring_tree/wayfaringtree/grammar/CharClass" "words" "[J" (.ref b0)) (F1 : Fld Z Z.heap ad1 "com/example/wayfaring_tree/wayfaringtree/grammar/CharClass" "words" "[J" (.ref b1)) (F2 : Fld Z Z.heap ad2 "com/example/wayfaring_tree/wayfaringtree/grammar/CharClass" "words" "[J" (.ref b2)) (F3 : Fld Z Z.heap ad3 "com/example/wayfaring_tree/wayfaringtree/grammar/CharClass" "words" "[J" (.ref b3)) (F4 : Fld Z Z.heap ad4 "com/example/wayfaring_tree/wayfaringtree/grammar/CharClass" "words" "[J" (.ref b4)) (F5 : Fld Z Z.heap ad5 "com/example/wayfaring_tree/wayfaringtree/grammar/CharClass" "words" "[J" (.ref b5)) (F6 : Fld Z Z.heap ad6 "com/example/wayfaring_tree/wayfaringtree/grammar/CharClass" "words" "[J" (.ref b6)) (F7 : Fld Z Z.heap ad7 "com/example/wayfaring_tree/wayfaringtree/grammar/CharClass" "words" "[J" (.ref b7)) (F8 : Fld Z Z.heap ad8 "com/example/wayfaring_tree/wayfaringtree/grammar/CharClass" "words" "[J" (.ref b8)) (F9 : Fld Z Z.heap ad9 "com/example/wayfaring_tree/wayfaringtree/grammar/CharClass" "words" "[J" (.ref b9)) (F10 : Fld Z Z.heap ad10 "com/example/wayfaring_tree/wayfaringtree/grammar/CharClass" "words" "[J" (.ref b10)) (F11 : Fld Z Z.heap ad11 "com/example/wayfaring_tree/wayfaringtree/grammar/CharClass" "words" "[J" (.ref b11)) (V0 : Arv Z Z.heap b0 k0 .long 2 [.long (0), .long (576460743713488896)] (.long 0)) (V1 : Arv Z Z.heap b1 k1 .long 2 [.long (0), .long (134217726)] (.long 0)) (V2 : Arv Z Z.heap b2 k2 .long 2 [.long (0), .long (576460743847706622)] (.long 0)) (V3 : Arv Z Z.heap b3 k3 .long 2 [.long (287948901175001088), .long (0)] (.long 0)) (V4 : Arv Z Z.heap b4 k4 .long 2 [.long (287948901175001088), .long (576460743847706622)] (.long 0)) (V5 : Arv Z Z.heap b5 k5 .long 2 [.long (114417928765440), .long (2147483648)] (.long 0)) (V6 : Arv Z Z.heap b6 k6 .long 2 [.long (25847113187328), .long (0)] (.long 0)) (V7 : Arv Z Z.heap b7 k7 .long 2 [.long (0), .long (8646911290859585536)] (.long 0)) (V8 : Arv Z Z.heap b8 k8 .long 2 [.long (5764607712012795904), .long (0)] (.long 0)) (V9 : Arv Z Z.heap b9 k9 .long 2 [.long (-6052696886819684352), .long (1)] (.long 0)) (V10 : Arv Z Z.heap b10 k10 .long 2 [.long (287948901175001088), .long (541165879422)] (.long 0)) (V11 : Arv Z Z.heap b11 k11 .long 2 [.long (288089166216953856), .long (576460745995190270)] (.long 0)) :
    MetFree l x (head1 (Jvm.Cond.code x code maxLocals ret :: ws) room_1) (fun a U => a = #[(.int i0), (.int i1), (.int i2)] ∧ Z.Warmed39 U.vm ∧ U.heap = h0) (fun _ _ _ _ _ => True) (fun _ U o U' => ∃ v L, o = .returned v ∧ Q_rm0 Z i0 i1 i2 ad0 ad1 ad2 ad3 ad4 ad5 ad6 ad7 ad8 ad9 ad10 ad11 b0 b1 b2 b3 b4 b5 b6 b7 b8 b9 b10 b11 k0 k1 k2 k3 k4 k5 k6 k7 k8 k9 k10 k11 h0 n0 v U'.heap L ∧ FrameEnd U o U' L 1 12) := by
  refine MetFree.of_bodySF (plainFor_of_name pn_com_example_wayfaring_tree_wayfaringtree_grammar_CharClassContainsPinLaw) hisR ?_
  intro p e s m args below meth c s₁ Bd hml0 hP hK
  obtain ⟨rfl, hZ, hh⟩ := hP
  have hx := Bd.exec
  have hby := Bd.bytes
  have hml : c.maxLocals = 6 := hml0
  have hown : s.vm.findClass "com/example/wayfaring_tree/wayfaringtree/grammar/CharClassContainsPinLaw" = some m.cls := findClass_of_methodNamed Bd.named
  have hnm := (name_of_methodNamed Bd.named Bd.method).1
  have X0 : Stand p l e room_1 s m #[(.int i0), (.int i1), (.int i2)] below meth c s₁ [] 0 0 := Stand.of_body Bd
  have e0 : s₁.heap = h0 := by rw [← hh, Bd.state]; rfl
  have N0 := Fr.nil n0
  have ef : entryFrame m #[(.int i0), (.int i1), (.int i2)] maxLocals = mkF m 0 #[.val (.int i0), .val (.int i1), .val (.int i2), .unset, .unset, .unset] [] := by first | (simp [entryFrame, mkF, argsToLocals, Value.category, maxLocals]; done) | rfl
  show Go p e below (FinN s (Q_rm0 Z i0 i1 i2 ad0 ad1 ad2 ad3 ad4 ad5 ad6 ad7 ad8 ad9 ad10 ad11 b0 b1 b2 b3 b4 b5 b6 b7 b8 b9 b10 b11 k0 k1 k2 k3 k4 k5 k6 k7 k8 k9 k10 k11 h0 n0) 1 12) s₁ (entryFrame m #[(.int i0), (.int i1), (.int i2)] maxLocals)
  rw [ef]
  show Go _ _ _ _ s₁ (mkF m 0 #[.val (.int i0), .val (.int i1), .val (.int i2), .unset, .unset, .unset] [])
  refine Go.by (fun _ k => XT.bipushV X0.here hx rfl (12 : Int32) (hb hby at_0) (by decide) k) ?_
  show Go _ _ _ _ s₁ (mkF m 2 #[.val (.int i0), .val (.int i1), .val (.int i2), .unset, .unset, .unset] [(.int (12 : Int32))])
  obtain ⟨T1, h1, kA, X1, e1, Ex1, Ar1, Ov1, st1⟩ := newR X0 hx hZ hown (hw _ (List.mem_of_getElem? (i := 0) rfl)) (hw _ (List.mem_of_getElem? (i := 1) rfl)) e0 (g := (mkF m 2 #[.val (.int i0), .val (.int i1), .val (.int i2), .unset, .unset, .unset] [(.int (12 : Int32))])) rfl (hb hby at_2) (n := (12 : Int32)) (rest := []) rfl (by decide) (cap := 12) (by decide) (by decide) (by decide) (by decide)
  obtain ⟨ar, gar⟩ : ∃ q, q = h0.size := ⟨_, rfl⟩
  rw [← gar] at Ar1 st1
  have O1 := O0.ext Ex1
  have nar0 : n0 ≤ ar := gar ▸ Z0
  have VA1 := (Arv.new Ar1 (by decide)).pad (vs' := List.replicate 12 .null) (pad_rep [] _ 12)
  refine Go.by st1 ?_
  show Go _ _ _ _ T1 (mkF m 5 #[.val (.int i0), .val (.int i1), .val (.int i2), .unset, .unset, .unset] [(.ref ar)])
  refine Go.by (fun _ k => XS.dup X1.here hx rfl (hb hby at_5) rfl rfl k) ?_
  show Go _ _ _ _ T1 (mkF m 6 #[.val (.int i0), .val (.int i1), .val (.int i2), .unset, .unset, .unset] [(.ref ar), (.ref ar)])
  refine Go.by (fun _ k => XT.iconstV X1.here hx rfl (0 : Int32) (hb hby at_6) (by decide) k) ?_
  show Go _ _ _ _ T1 (mkF m 7 #[.val (.int i0), .val (.int i1), .val (.int i2), .unset, .unset, .unset] [(.int (0 : Int32)), (.ref ar), (.ref ar)])
  obtain ⟨T170, X171, e172, st173⟩ := getS X1 hx hZ hown (host := "") (hw _ (List.mem_of_getElem? (i := 2) rfl)) Via.refl e1 (S0.ext O1.2) (g := (mkF m 7 #[.val (.int i0), .val (.int i1), .val (.int i2), .unset, .unset, .unset] [(.int (0 : Int32)), (.ref ar), (.ref ar)])) rfl (hb hby at_7)
  refine Go.by st173 ?_
  show Go _ _ _ _ T170 (mkF m 10 #[.val (.int i0), .val (.int i1), .val (.int i2), .unset, .unset, .unset] [(.ref ad0), (.int (0 : Int32)), (.ref ar), (.ref ar)])
  obtain ⟨T174, h174, X174, e174, W174, V174, st174⟩ := own_stR X171 hx hZ e172 VA1 rfl Ov1 (Ins.of_exa (E0.ext O1.2) (hw _ (List.mem_of_getElem? (i := 5) rfl))) (j := (0 : Int32)) (by decide) 0 (by decide) (by show 0 < 12; decide) (g := (mkF m 10 #[.val (.int i0), .val (.int i1), .val (.int i2), .unset, .unset, .unset] [(.ref ad0), (.int (0 : Int32)), (.ref ar), (.ref ar)])) rfl rfl (hb hby at_10)
  replace V174 : Arv Z h174 ar kA _ _ [.ref ad0, .null, .null, .null, .null, .null, .null, .null, .null, .null, .null, .null] _ := V174
  have O174 := O1.wr W174 nar0
  have N174 := Fr.snoc X174 N0 nar0
  refine Go.by st174 ?_
  show Go _ _ _ _ T174 (mkF m 11 #[.val (.int i0), .val (.int i1), .val (.int i2), .unset, .unset, .unset] [(.ref ar)])
  refine Go.by (fun _ k => XS.dup X174.here hx rfl (hb hby at_11) rfl rfl k) ?_
  show Go _ _ _ _ T174 (mkF m 12 #[.val (.int i0), .val (.int i1), .val (.int i2), .unset, .unset, .unset] [(.ref ar), (.ref ar)])
  refine Go.by (fun _ k => XT.iconstV X174.here hx rfl (1 : Int32) (hb hby at_12) (by decide) k) ?_
  show Go _ _ _ _ T174 (mkF m 13 #[.val (.int i0), .val (.int i1), .val (.int i2), .unset, .unset, .unset] [(.int (1 : Int32)), (.ref ar), (.ref ar)])
  obtain ⟨T175, X176, e177, st178⟩ := getS X174 hx hZ hown (host := "") (hw _ (List.mem_of_getElem? (i := 6) rfl)) Via.refl e174 (S1.ext O174.2) (g := (mkF m 13 #[.val (.int i0), .val (.int i1), .val (.int i2), .unset, .unset, .unset] [(.int (1 : Int32)), (.ref ar), (.ref ar)])) rfl (hb hby at_13)
  refine Go.by st178 ?_
  show Go _ _ _ _ T175 (mkF m 16 #[.val (.int i0), .val (.int i1), .val (.int i2), .unset, .unset, .unset] [(.ref ad1), (.int (1 : Int32)), (.ref ar), (.ref ar)])
  obtain ⟨T179, h179, X179, e179, W179, V179, st179⟩ := own_stR X176 hx hZ e177 V174 rfl Ov1 (Ins.of_exa (E1.ext O174.2) (hw _ (List.mem_of_getElem? (i := 5) rfl))) (j := (1 : Int32)) (by decide) 1 (by decide) (by show 1 < 12; decide) (g := (mkF m 16 #[.val (.int i0), .val (.int i1), .val (.int i2), .unset, .unset, .unset] [(.ref ad1), (.int (1 : Int32)), (.ref ar), (.ref ar)])) rfl rfl (hb hby at_16)
  replace V179 : Arv Z h179 ar kA _ _ [.ref ad0, .ref ad1, .null, .null, .null, .null, .null, .null, .null, .null, .null, .null] _ := V179
  have O179 := O174.wr W179 nar0
  have N179 := Fr.snoc X179 N174 nar0
  refine Go.by st179 ?_
  show Go _ _ _ _ T179 (mkF m 17 #[.val (.int i0), .val (.int i1), .val (.int i2), .unset, .unset, .unset] [(.ref ar)])
  refine Go.by (fun _ k => XS.dup X179.here hx rfl (hb hby at_17) rfl rfl k) ?_
  show Go _ _ _ _ T179 (mkF m 18 #[.val (.int i0), .val (.int i1), .val (.int i2), .unset, .unset, .unset] [(.ref ar), (.ref ar)])
  refine Go.by (fun _ k => XT.iconstV X179.here hx rfl (2 : Int32) (hb hby at_18) (by decide) k) ?_
  show Go _ _ _ _ T179 (mkF m 19 #[.val (.int i0), .val (.int i1), .val (.int i2), .unset, .unset, .unset] [(.int (2 : Int32)), (.ref ar), (.ref ar)])
  obtain ⟨T180, X181, e182, st183⟩ := getS X179 hx hZ hown (host := "") (hw _ (List.mem_of_getElem? (i := 8) rfl)) Via.refl e179 (S2.ext O179.2) (g := (mkF m 19 #[.val (.int i0), .val (.int i1), .val (.int i2), .unset, .unset, .unset] [(.int (2 : Int32)), (.ref ar), (.ref ar)])) rfl (hb hby at_19)
  refine Go.by st183 ?_
  show Go _ _ _ _ T180 (mkF m 22 #[.val (.int i0), .val (.int i1), .val (.int i2), .unset, .unset, .unset] [(.ref ad2), (.int (2 : Int32)), (.ref ar), (.ref ar)])
  obtain ⟨T184, h184, X184, e184, W184, V184, st184⟩ := own_stR X181 hx hZ e182 V179 rfl Ov1 (Ins.of_exa (E2.ext O179.2) (hw _ (List.mem_of_getElem? (i := 5) rfl))) (j := (2 : Int32)) (by decide) 2 (by decide) (by show 2 < 12; decide) (g := (mkF m 22 #[.val (.int i0), .val (.int i1), .val (.int i2), .unset, .unset, .unset] [(.ref ad2), (.int (2 : Int32)), (.ref ar), (.ref ar)])) rfl rfl (hb hby at_22)
  replace V184 : Arv Z h184 ar kA _ _ [.ref ad0, .ref ad1, .ref ad2, .null, .null, .null, .null, .null, .null, .null, .null, .null] _ := V184
  have O184 := O179.wr W184 nar0
  have N184 := Fr.snoc X184 N179 nar0
  refine Go.by st184 ?_
  show Go _ _ _ _ T184 (mkF m 23 #[.val (.int i0), .val (.int i1), .val (.int i2), .unset, .unset, .unset] [(.ref ar)])
  refine Go.by (fun _ k => XS.dup X184.here hx rfl (hb hby at_23) rfl rfl k) ?_
  show Go _ _ _ _ T184 (mkF m 24 #[.val (.int i0), .val (.int i1), .val (.int i2), .unset, .unset, .unset] [(.ref ar), (.ref ar)])
  refine Go.by (fun _ k => XT.iconstV X184.here hx rfl (3 : Int32) (hb hby at_24) (by decide) k) ?_
  show Go _ _ _ _ T184 (mkF m 25 #[.val (.int i0), .val (.int i1), .val (.int i2), .unset, .unset, .unset] [(.int (3 : Int32)), (.ref ar), (.ref ar)])
  obtain ⟨T185, X186, e187, st188⟩ := getS X184 hx hZ hown (host := "") (hw _ (List.mem_of_getElem? (i := 10) rfl)) Via.refl e184 (S3.ext O184.2) (g := (mkF m 25 #[.val (.int i0), .val (.int i1), .val (.int i2), .unset, .unset, .unset] [(.int (3 : Int32)), (.ref ar), (.ref ar)])) rfl (hb hby at_25)
  refine Go.by st188 ?_
  show Go _ _ _ _ T185 (mkF m 28 #[.val (.int i0), .val (.int i1), .val (.int i2), .unset, .unset, .unset] [(.ref ad3), (.int (3 : Int32)), (.ref ar), (.ref ar)])
  obtain ⟨T189, h189, X189, e189, W189, V189, st189⟩ := own_stR X186 hx hZ e187 V184 rfl Ov1 (Ins.of_exa (E3.ext O184.2) (hw _ (List.mem_of_getElem? (i := 5) rfl))) (j := (3 : Int32)) (by decide) 3 (by decide) (by show 3 < 12; decide) (g := (mkF m 28 #[.val (.int i0), .val (.int i1), .val (.int i2), .unset, .unset, .unset] [(.ref ad3), (.int (3 : Int32)), (.ref ar), (.ref ar)])) rfl rfl (hb hby at_28)
  replace V189 : Arv Z h189 ar kA _ _ [.ref ad0, .ref ad1, .ref ad2, .ref ad3, .null, .null, .null, .null, .null, .null, .null, .null] _ := V189
  have O189 := O184.wr W189 nar0
  have N189 := Fr.snoc X189 N184 nar0
  refine Go.by st189 ?_
  show Go _ _ _ _ T189 (mkF m 29 #[.val (.int i0), .val (.int i1), .val (.int i2), .unset, .unset, .unset] [(.ref ar)])
  refine Go.by (fun _ k => XS.dup X189.here hx rfl (hb hby at_29) rfl rfl k) ?_
  show Go _ _ _ _ T189 (mkF m 30 #[.val (.int i0), .val (.int i1), .val (.int i2), .unset, .unset, .unset] [(.ref ar), (.ref ar)])
  refine Go.by (fun _ k => XT.iconstV X189.here hx rfl (4 : Int32) (hb hby at_30) (by decide) k) ?_
  show Go _ _ _ _ T189 (mkF m 31 #[.val (.int i0), .val (.int i1), .val (.int i2), .unset, .unset, .unset] [(.int (4 : Int32)), (.ref ar), (.ref ar)])
  obtain ⟨T190, X191, e192, st193⟩ := getS X189 hx hZ hown (host := "") (hw _ (List.mem_of_getElem? (i := 12) rfl)) Via.refl e189 (S4.ext O189.2) (g := (mkF m 31 #[.val (.int i0), .val (.int i1), .val (.int i2), .unset, .unset, .unset] [(.int (4 : Int32)), (.ref ar), (.ref ar)])) rfl (hb hby at_31)
  refine Go.by st193 ?_
  show Go _ _ _ _ T190 (mkF m 34 #[.val (.int i0), .val (.int i1), .val (.int i2), .unset, .unset, .unset] [(.ref ad4), (.int (4 : Int32)), (.ref ar), (.ref ar)])
  obtain ⟨T194, h194, X194, e194, W194, V194, st194⟩ := own_stR X191 hx hZ e192 V189 rfl Ov1 (Ins.of_exa (E4.ext O189.2) (hw _ (List.mem_of_getElem? (i := 5) rfl))) (j := (4 : Int32)) (by decide) 4 (by decide) (by show 4 < 12; decide) (g := (mkF m 34 #[.val (.int i0), .val (.int i1), .val (.int i2), .unset, .unset, .unset] [(.ref ad4), (.int (4 : Int32)), (.ref ar), (.ref ar)])) rfl rfl (hb hby at_34)
  replace V194 : Arv Z h194 ar kA _ _ [.ref ad0, .ref ad1, .ref ad2, .ref ad3, .ref ad4, .null, .null, .null, .null, .null, .null, .null] _ := V194
  have O194 := O189.wr W194 nar0
  have N194 := Fr.snoc X194 N189 nar0
  refine Go.by st194 ?_
  show Go _ _ _ _ T194 (mkF m 35 #[.val (.int i0), .val (.int i1), .val (.int i2), .unset, .unset, .unset] [(.ref ar)])
  refine Go.by (fun _ k => XS.dup X194.here hx rfl (hb hby at_35) rfl rfl k) ?_
  show Go _ _ _ _ T194 (mkF m 36 #[.val (.int i0), .val (.int i1), .val (.int i2), .unset, .unset, .unset] [(.ref ar), (.ref ar)])
  refine Go.by (fun _ k => XT.iconstV X194.here hx rfl (5 : Int32) (hb hby at_36) (by decide) k) ?_
  show Go _ _ _ _ T194 (mkF m 37 #[.val (.int i0), .val (.int i1), .val (.int i2), .unset, .unset, .unset] [(.int (5 : Int32)), (.ref ar), (.ref ar)])
  obtain ⟨T195, X196, e197, st198⟩ := getS X194 hx hZ hown (host := "") (hw _ (List.mem_of_getElem? (i := 14) rfl)) Via.refl e194 (S5.ext O194.2) (g := (mkF m 37 #[.val (.int i0), .val (.int i1), .val (.int i2), .unset, .unset, .unset] [(.int (5 : Int32)), (.ref ar), (.ref ar)])) rfl (hb hby at_37)
  refine Go.by st198 ?_
  show Go _ _ _ _ T195 (mkF m 40 #[.val (.int i0), .val (.int i1), .val (.int i2), .unset, .unset, .unset] [(.ref ad5), (.int (5 : Int32)), (.ref ar), (.ref ar)])
  obtain ⟨T199, h199, X199, e199, W199, V199, st199⟩ := own_stR X196 hx hZ e197 V194 rfl Ov1 (Ins.of_exa (E5.ext O194.2) (hw _ (List.mem_of_getElem? (i := 5) rfl))) (j := (5 : Int32)) (by decide) 5 (by decide) (by show 5 < 12; decide) (g := (mkF m 40 #[.val (.int i0), .val (.int i1), .val (.int i2), .unset, .unset, .unset] [(.ref ad5), (.int (5 : Int32)), (.ref ar), (.ref ar)])) rfl rfl (hb hby at_40)
  replace V199 : Arv Z h199 ar kA _ _ [.ref ad0, .ref ad1, .ref ad2, .ref ad3, .ref ad4, .ref ad5, .null, .null, .null, .null, .null, .null] _ := V199
  have O199 := O194.wr W199 nar0
  have N199 := Fr.snoc X199 N194 nar0
  refine Go.by st199 ?_
  show Go _ _ _ _ T199 (mkF m 41 #[.val (.int i0), .val (.int i1), .val (.int i2), .unset, .unset, .unset] [(.ref ar)])
  refine Go.by (fun _ k => XS.dup X199.here hx rfl (hb hby at_41) rfl rfl k) ?_
  show Go _ _ _ _ T199 (mkF m 42 #[.val (.int i0), .val (.int i1), .val (.int i2), .unset, .unset, .unset] [(.ref ar), (.ref ar)])
  refine Go.by (fun _ k => XT.bipushV X199.here hx rfl (6 : Int32) (hb hby at_42) (by decide) k) ?_
  show Go _ _ _ _ T199 (mkF m 44 #[.val (.int i0), .val (.int i1), .val (.int i2), .unset, .unset, .unset] [(.int (6 : Int32)), (.ref ar), (.ref ar)])
  obtain ⟨T200, X201, e202, st203⟩ := getS X199 hx hZ hown (host := "") (hw _ (List.mem_of_getElem? (i := 16) rfl)) Via.refl e199 (S6.ext O199.2) (g := (mkF m 44 #[.val (.int i0), .val (.int i1), .val (.int i2), .unset, .unset, .unset] [(.int (6 : Int32)), (.ref ar), (.ref ar)])) rfl (hb hby at_44)
  refine Go.by st203 ?_
  show Go _ _ _ _ T200 (mkF m 47 #[.val (.int i0), .val (.int i1), .val (.int i2), .unset, .unset, .unset] [(.ref ad6), (.int (6 : Int32)), (.ref ar), (.ref ar)])
  obtain ⟨T204, h204, X204, e204, W204, V204, st204⟩ := own_stR X201 hx hZ e202 V199 rfl Ov1 (Ins.of_exa (E6.ext O199.2) (hw _ (List.mem_of_getElem? (i := 5) rfl))) (j := (6 : Int32)) (by decide) 6 (by decide) (by show 6 < 12; decide) (g := (mkF m 47 #[.val (.int i0), .val (.int i1), .val (.int i2), .unset, .unset, .unset] [(.ref ad6), (.int (6 : Int32)), (.ref ar), (.ref ar)])) rfl rfl (hb hby at_47)
  replace V204 : Arv Z h204 ar kA _ _ [.ref ad0, .ref ad1, .ref ad2, .ref ad3, .ref ad4, .ref ad5, .ref ad6, .null, .null, .null, .null, .null] _ := V204
  have O204 := O199.wr W204 nar0
  have N204 := Fr.snoc X204 N199 nar0
  refine Go.by st204 ?_
  show Go _ _ _ _ T204 (mkF m 48 #[.val (.int i0), .val (.int i1), .val (.int i2), .unset, .unset, .unset] [(.ref ar)])
  refine Go.by (fun _ k => XS.dup X204.here hx rfl (hb hby at_48) rfl rfl k) ?_
  show Go _ _ _ _ T204 (mkF m 49 #[.val (.int i0), .val (.int i1), .val (.int i2), .unset, .unset, .unset] [(.ref ar), (.ref ar)])
  refine Go.by (fun _ k => XT.bipushV X204.here hx rfl (7 : Int32) (hb hby at_49) (by decide) k) ?_
  show Go _ _ _ _ T204 (mkF m 51 #[.val (.int i0), .val (.int i1), .val (.int i2), .unset, .unset, .unset] [(.int (7 : Int32)), (.ref ar), (.ref ar)])
  obtain ⟨T205, X206, e207, st208⟩ := getS X204 hx hZ hown (host := "") (hw _ (List.mem_of_getElem? (i := 18) rfl)) Via.refl e204 (S7.ext O204.2) (g := (mkF m 51 #[.val (.int i0), .val (.int i1), .val (.int i2), .unset, .unset, .unset] [(.int (7 : Int32)), (.ref ar), (.ref ar)])) rfl (hb hby at_51)
  refine Go.by st208 ?_
  show Go _ _ _ _ T205 (mkF m 54 #[.val (.int i0), .val (.int i1), .val (.int i2), .unset, .unset, .unset] [(.ref ad7), (.int (7 : Int32)), (.ref ar), (.ref ar)])
  obtain ⟨T209, h209, X209, e209, W209, V209, st209⟩ := own_stR X206 hx hZ e207 V204 rfl Ov1 (Ins.of_exa (E7.ext O204.2) (hw _ (List.mem_of_getElem? (i := 5) rfl))) (j := (7 : Int32)) (by decide) 7 (by decide) (by show 7 < 12; decide) (g := (mkF m 54 #[.val (.int i0), .val (.int i1), .val (.int i2), .unset, .unset, .unset] [(.ref ad7), (.int (7 : Int32)), (.ref ar), (.ref ar)])) rfl rfl (hb hby at_54)
  replace V209 : Arv Z h209 ar kA _ _ [.ref ad0, .ref ad1, .ref ad2, .ref ad3, .ref ad4, .ref ad5, .ref ad6, .ref ad7, .null, .null, .null, .null] _ := V209
  have O209 := O204.wr W209 nar0
  have N209 := Fr.snoc X209 N204 nar0
  refine Go.by st209 ?_
  show Go _ _ _ _ T209 (mkF m 55 #[.val (.int i0), .val (.int i1), .val (.int i2), .unset, .unset, .unset] [(.ref ar)])
  refine Go.by (fun _ k => XS.dup X209.here hx rfl (hb hby at_55) rfl rfl k) ?_
  show Go _ _ _ _ T209 (mkF m 56 #[.val (.int i0), .val (.int i1), .val (.int i2), .unset, .unset, .unset] [(.ref ar), (.ref ar)])
  refine Go.by (fun _ k => XT.bipushV X209.here hx rfl (8 : Int32) (hb hby at_56) (by decide) k) ?_
  show Go _ _ _ _ T209 (mkF m 58 #[.val (.int i0), .val (.int i1), .val (.int i2), .unset, .unset, .unset] [(.int (8 : Int32)), (.ref ar), (.ref ar)])
  obtain ⟨T210, X211, e212, st213⟩ := getS X209 hx hZ hown (host := "") (hw _ (List.mem_of_getElem? (i := 20) rfl)) Via.refl e209 (S8.ext O209.2) (g := (mkF m 58 #[.val (.int i0), .val (.int i1), .val (.int i2), .unset, .unset, .unset] [(.int (8 : Int32)), (.ref ar), (.ref ar)])) rfl (hb hby at_58)
  refine Go.by st213 ?_
  show Go _ _ _ _ T210 (mkF m 61 #[.val (.int i0), .val (.int i1), .val (.int i2), .unset, .unset, .unset] [(.ref ad8), (.int (8 : Int32)), (.ref ar), (.ref ar)])
  obtain ⟨T214, h214, X214, e214, W214, V214, st214⟩ := own_stR X211 hx hZ e212 V209 rfl Ov1 (Ins.of_exa (E8.ext O209.2) (hw _ (List.mem_of_getElem? (i := 5) rfl))) (j := (8 : Int32)) (by decide) 8 (by decide) (by show 8 < 12; decide) (g := (mkF m 61 #[.val (.int i0), .val (.int i1), .val (.int i2), .unset, .unset, .unset] [(.ref ad8), (.int (8 : Int32)), (.ref ar), (.ref ar)])) rfl rfl (hb hby at_61)
  replace V214 : Arv Z h214 ar kA _ _ [.ref ad0, .ref ad1, .ref ad2, .ref ad3, .ref ad4, .ref ad5, .ref ad6, .ref ad7, .ref ad8, .null, .null, .null] _ := V214
  have O214 := O209.wr W214 nar0
  have N214 := Fr.snoc X214 N209 nar0
  refine Go.by st214 ?_
  show Go _ _ _ _ T214 (mkF m 62 #[.val (.int i0), .val (.int i1), .val (.int i2), .unset, .unset, .unset] [(.ref ar)])
  refine Go.by (fun _ k => XS.dup X214.here hx rfl (hb hby at_62) rfl rfl k) ?_
  show Go _ _ _ _ T214 (mkF m 63 #[.val (.int i0), .val (.int i1), .val (.int i2), .unset, .unset, .unset] [(.ref ar), (.ref ar)])
  refine Go.by (fun _ k => XT.bipushV X214.here hx rfl (9 : Int32) (hb hby at_63) (by decide) k) ?_
  show Go _ _ _ _ T214 (mkF m 65 #[.val (.int i0), .val (.int i1), .val (.int i2), .unset, .unset, .unset] [(.int (9 : Int32)), (.ref ar), (.ref ar)])
  obtain ⟨T215, X216, e217, st218⟩ := getS X214 hx hZ hown (host := "") (hw _ (List.mem_of_getElem? (i := 22) rfl)) Via.refl e214 (S9.ext O214.2) (g := (mkF m 65 #[.val (.int i0), .val (.int i1), .val (.int i2), .unset, .unset, .unset] [(.int (9 : Int32)), (.ref ar), (.ref ar)])) rfl (hb hby at_65)
  refine Go.by st218 ?_
  show Go _ _ _ _ T215 (mkF m 68 #[.val (.int i0), .val (.int i1), .val (.int i2), .unset, .unset, .unset] [(.ref ad9), (.int (9 : Int32)), (.ref ar), (.ref ar)])
  obtain ⟨T219, h219, X219, e219, W219, V219, st219⟩ := own_stR X216 hx hZ e217 V214 rfl Ov1 (Ins.of_exa (E9.ext O214.2) (hw _ (List.mem_of_getElem? (i := 5) rfl))) (j := (9 : Int32)) (by decide) 9 (by decide) (by show 9 < 12; decide) (g := (mkF m 68 #[.val (.int i0), .val (.int i1), .val (.int i2), .unset, .unset, .unset] [(.ref ad9), (.int (9 : Int32)), (.ref ar), (.ref ar)])) rfl rfl (hb hby at_68)
  replace V219 : Arv Z h219 ar kA _ _ [.ref ad0, .ref ad1, .ref ad2, .ref ad3, .ref ad4, .ref ad5, .ref ad6, .ref ad7, .ref ad8, .ref ad9, .null, .null] _ := V219
  have O219 := O214.wr W219 nar0
  have N219 := Fr.snoc X219 N214 nar0
  refine Go.by st219 ?_
  show Go _ _ _ _ T219 (mkF m 69 #[.val (.int i0), .val (.int i1), .val (.int i2), .unset, .unset, .unset] [(.ref ar)])
  refine Go.by (fun _ k => XS.dup X219.here hx rfl (hb hby at_69) rfl rfl k) ?_
  show Go _ _ _ _ T219 (mkF m 70 #[.val (.int i0), .val (.int i1), .val (.int i2), .unset, .unset, .unset] [(.ref ar), (.ref ar)])
  refine Go.by (fun _ k => XT.bipushV X219.here hx rfl (10 : Int32) (hb hby at_70) (by decide) k) ?_
  show Go _ _ _ _ T219 (mkF m 72 #[.val (.int i0), .val (.int i1), .val (.int i2), .unset, .unset, .unset] [(.int (10 : Int32)), (.ref ar), (.ref ar)])
  obtain ⟨T220, X221, e222, st223⟩ := getS X219 hx hZ hown (host := "") (hw _ (List.mem_of_getElem? (i := 24) rfl)) Via.refl e219 (S10.ext O219.2) (g := (mkF m 72 #[.val (.int i0), .val (.int i1), .val (.int i2), .unset, .unset, .unset] [(.int (10 : Int32)), (.ref ar), (.ref ar)])) rfl (hb hby at_72)
  refine Go.by st223 ?_
  show Go _ _ _ _ T220 (mkF m 75 #[.val (.int i0), .val (.int i1), .val (.int i2), .unset, .unset, .unset] [(.ref ad10), (.int (10 : Int32)), (.ref ar), (.ref ar)])
  obtain ⟨T224, h224, X224, e224, W224, V224, st224⟩ := own_stR X221 hx hZ e222 V219 rfl Ov1 (Ins.of_exa (E10.ext O219.2) (hw _ (List.mem_of_getElem? (i := 5) rfl))) (j := (10 : Int32)) (by decide) 10 (by decide) (by show 10 < 12; decide) (g := (mkF m 75 #[.val (.int i0), .val (.int i1), .val (.int i2), .unset, .unset, .unset] [(.ref ad10), (.int (10 : Int32)), (.ref ar), (.ref ar)])) rfl rfl (hb hby at_75)
  replace V224 : Arv Z h224 ar kA _ _ [.ref ad0, .ref ad1, .ref ad2, .ref ad3, .ref ad4, .ref ad5, .ref ad6, .ref ad7, .ref ad8, .ref ad9, .ref ad10, .null] _ := V224
  have O224 := O219.wr W224 nar0
  have N224 := Fr.snoc X224 N219 nar0
  refine Go.by st224 ?_
  show Go _ _ _ _ T224 (mkF m 76 #[.val (.int i0), .val (.int i1), .val (.int i2), .unset, .unset, .unset] [(.ref ar)])
  refine Go.by (fun _ k => XS.dup X224.here hx rfl (hb hby at_76) rfl rfl k) ?_
  show Go _ _ _ _ T224 (mkF m 77 #[.val (.int i0), .val (.int i1), .val (.int i2), .unset, .unset, .unset] [(.ref ar), (.ref ar)])
  refine Go.by (fun _ k => XT.bipushV X224.here hx rfl (11 : Int32) (hb hby at_77) (by decide) k) ?_
  show Go _ _ _ _ T224 (mkF m 79 #[.val (.int i0), .val (.int i1), .val (.int i2), .unset, .unset, .unset] [(.int (11 : Int32)), (.ref ar), (.ref ar)])
  obtain ⟨T225, X226, e227, st228⟩ := getS X224 hx hZ hown (host := "") (hw _ (List.mem_of_getElem? (i := 26) rfl)) Via.refl e224 (S11.ext O224.2) (g := (mkF m 79 #[.val (.int i0), .val (.int i1), .val (.int i2), .unset, .unset, .unset] [(.int (11 : Int32)), (.ref ar), (.ref ar)])) rfl (hb hby at_79)
  refine Go.by st228 ?_
  show Go _ _ _ _ T225 (mkF m 82 #[.val (.int i0), .val (.int i1), .val (.int i2), .unset, .unset, .unset] [(.ref ad11), (.int (11 : Int32)), (.ref ar), (.ref ar)])
  obtain ⟨T229, h229, X229, e229, W229, V229, st229⟩ := own_stR X226 hx hZ e227 V224 rfl Ov1 (Ins.of_exa (E11.ext O224.2) (hw _ (List.mem_of_getElem? (i := 5) rfl))) (j := (11 : Int32)) (by decide) 11 (by decide) (by show 11 < 12; decide) (g := (mkF m 82 #[.val (.int i0), .val (.int i1), .val (.int i2), .unset, .unset, .unset] [(.ref ad11), (.int (11 : Int32)), (.ref ar), (.ref ar)])) rfl rfl (hb hby at_82)
  replace V229 : Arv Z h229 ar kA _ _ [.ref ad0, .ref ad1, .ref ad2, .ref ad3, .ref ad4, .ref ad5, .ref ad6, .ref ad7, .ref ad8, .ref ad9, .ref ad10, .ref ad11] _ := V229
  have O229 := O224.wr W229 nar0
  have N229 := Fr.snoc X229 N224 nar0
  refine Go.by st229 ?_
  show Go _ _ _ _ T229 (mkF m 83 #[.val (.int i0), .val (.int i1), .val (.int i2), .unset, .unset, .unset] [(.ref ar)])
  refine Go.by (fun _ k => XS.astoreN X229.here hx rfl (hb hby at_83) rfl rfl (l' := #[.val (.int i0), .val (.int i1), .val (.int i2), .val (.ref ar), .unset, .unset]) rfl k) ?_
  show Go _ _ _ _ T229 (mkF m 84 #[.val (.int i0), .val (.int i1), .val (.int i2), .val (.ref ar), .unset, .unset] [])
  refine Go.by (fun _ k => XS.iloadN X229.here hx rfl (hb hby at_84) rfl k) ?_
  show Go _ _ _ _ T229 (mkF m 85 #[.val (.int i0), .val (.int i1), .val (.int i2), .val (.ref ar), .unset, .unset] [(.int i0)])
  refine Go.by (fun _ k => X229.ldcI hx hown (mvT hZ (hw _ (List.mem_of_getElem? (i := 28) rfl))) rfl (hb hby at_85) k) ?_
  show Go _ _ _ _ T229 (mkF m 87 #[.val (.int i0), .val (.int i1), .val (.int i2), .val (.ref ar), .unset, .unset] [(.int (2147483647 : Int32)), (.int i0)])
  refine Go.by (fun _ k => XS.iand X229.here hx rfl (hb hby at_87) rfl k) ?_
  show Go _ _ _ _ T229 (mkF m 88 #[.val (.int i0), .val (.int i1), .val (.int i2), .val (.ref ar), .unset, .unset] [(.int (i0 &&& (2147483647 : Int32)))])
  refine Go.by (fun _ k => XT.bipushV X229.here hx rfl (12 : Int32) (hb hby at_88) (by decide) k) ?_
  show Go _ _ _ _ T229 (mkF m 90 #[.val (.int i0), .val (.int i1), .val (.int i2), .val (.ref ar), .unset, .unset] [(.int (12 : Int32)), (.int (i0 &&& (2147483647 : Int32)))])
  refine Go.by (fun _ k => iremM X229 hx rfl (hb hby at_90) rfl (by decide) k) ?_
  show Go _ _ _ _ T229 (mkF m 91 #[.val (.int i0), .val (.int i1), .val (.int i2), .val (.ref ar), .unset, .unset] [(.int ((i0 &&& (2147483647 : Int32)) % (12 : Int32)))])
  refine Go.by (fun _ k => XS.istore X229.here hx rfl (hb hby at_91) rfl (l' := #[.val (.int i0), .val (.int i1), .val (.int i2), .val (.ref ar), .val (.int ((i0 &&& (2147483647 : Int32)) % (12 : Int32))), .unset]) rfl k) ?_
  show Go _ _ _ _ T229 (mkF m 93 #[.val (.int i0), .val (.int i1), .val (.int i2), .val (.ref ar), .val (.int ((i0 &&& (2147483647 : Int32)) % (12 : Int32))), .unset] [])
  obtain ⟨kk, hkk⟩ := own_mod12 i0
  rw [hkk]
  clear hkk
  have rest : ∀ ch : Int32, 0 ≤ ch.toInt → Go p e below (FinN s (Q_rm0 Z i0 i1 i2 ad0 ad1 ad2 ad3 ad4 ad5 ad6 ad7 ad8 ad9 ad10 ad11 b0 b1 b2 b3 b4 b5 b6 b7 b8 b9 b10 b11 k0 k1 k2 k3 k4 k5 k6 k7 k8 k9 k10 k11 h0 n0) 1 12) T229 (mkF m 109 #[.val (.int i0), .val (.int i1), .val (.int i2), .val (.ref ar), .val (.int (Int32.ofInt kk.1)), .unset] [(.int ch)]) := by
    intro ch hch
    have Z9 : n0 ≤ h229.size := O229.1 ▸ O229.2.1
    match kk with
    | ⟨0, _⟩ =>
      show Go _ _ _ _ T229 (mkF m 109 #[.val (.int i0), .val (.int i1), .val (.int i2), .val (.ref ar), .val (.int (0 : Int32)), .unset] [(.int ch)])
      refine Go.by (fun _ k => XS.istore X229.here hx rfl (hb hby at_109) rfl (l' := #[.val (.int i0), .val (.int i1), .val (.int i2), .val (.ref ar), .val (.int (0 : Int32)), .val (.int ch)]) rfl k) ?_
      show Go _ _ _ _ T229 (mkF m 111 #[.val (.int i0), .val (.int i1), .val (.int i2), .val (.ref ar), .val (.int (0 : Int32)), .val (.int ch)] [])
      refine Go.by (fun _ k => XS.aloadN X229.here hx rfl (hb hby at_111) rfl rfl k) ?_
      show Go _ _ _ _ T229 (mkF m 112 #[.val (.int i0), .val (.int i1), .val (.int i2), .val (.ref ar), .val (.int (0 : Int32)), .val (.int ch)] [(.ref ar)])
      refine Go.by (fun _ k => XS.iload X229.here hx rfl (hb hby at_112) rfl k) ?_
      show Go _ _ _ _ T229 (mkF m 114 #[.val (.int i0), .val (.int i1), .val (.int i2), .val (.ref ar), .val (.int (0 : Int32)), .val (.int ch)] [(.int (0 : Int32)), (.ref ar)])
      refine Go.by (own_aaload X229 hx hZ e229 V229 rfl (j := (0 : Int32)) (by decide) (v := .ref ad0) rfl (g := (mkF m 114 #[.val (.int i0), .val (.int i1), .val (.int i2), .val (.ref ar), .val (.int (0 : Int32)), .val (.int ch)] [(.int (0 : Int32)), (.ref ar)])) rfl rfl (hb hby at_114)) ?_
      show Go _ _ _ _ T229 (mkF m 115 #[.val (.int i0), .val (.int i1), .val (.int i2), .val (.ref ar), .val (.int (0 : Int32)), .val (.int ch)] [(.ref ad0)])
      refine Go.by (fun _ k => XS.iload X229.here hx rfl (hb hby at_115) rfl k) ?_
      show Go _ _ _ _ T229 (mkF m 117 #[.val (.int i0), .val (.int i1), .val (.int i2), .val (.ref ar), .val (.int (0 : Int32)), .val (.int ch)] [(.int ch), (.ref ad0)])
      obtain ⟨cq231, kq231, q231a, q231b, q231c⟩ := isOf hZ e229 (E0.ext O229.2)
      obtain ⟨_, _, ⟨T230, L230, k230, n230⟩, -, X230, ⟨Lc230, hQ230, l230, y230, z230⟩, st230⟩ := X229.virtualBack hx (y := (⟨"com/example/wayfaring_tree/wayfaringtree/grammar/CharClass", "contains", "(C)Z"⟩ : MethodName)) (z := (⟨"com/example/wayfaring_tree/wayfaringtree/grammar/CharClass", "contains", "(C)Z"⟩ : MethodName)) hown (mvT hZ (hw _ (List.mem_of_getElem? (i := 29) rfl))) (mvT hZ (hw _ (List.mem_of_getElem? (i := 30) rfl))) (notFace_of_selects (args := #[]) (mvT hZ (hw _ (List.mem_of_getElem? (i := 32) rfl)))) (mvT hZ (hw _ (List.mem_of_getElem? (i := 32) rfl))) (mvT hZ (hw _ (List.mem_of_getElem? (i := 31) rfl))) (by decide) (backOf (W := 0) (rm1 l Z a0 hw [] ad0 ch b0 k0 (0) (576460743713488896) h229 n0 Z9 hch (F0.ext O229.2) (V0.ext O229.2)) hZ (hw _ (List.mem_of_getElem? (i := 33) rfl)) (hw _ (List.mem_of_getElem? (i := 3) rfl)) (by decide) (by decide)) q231a q231c (g := (mkF m 117 #[.val (.int i0), .val (.int i1), .val (.int i2), .val (.ref ar), .val (.int (0 : Int32)), .val (.int ch)] [(.int ch), (.ref ad0)])) rfl (by rw [hml]; rfl) (Steps.refl _) (argsL := [(.int ch)]) (rest := []) (lenOf pd__C_Z rfl) rfl (by show 2 * 0 + _ ≤ _; exact Nat.le_of_eq rfl) (hb hby at_117) (fun _ _ => ⟨rfl, e229, (by decide : 0 + 1 + 0 ≤ _), (by decide : 0 + 12 + 0 ≤ _)⟩)
      dsimp only [Pt.U, Pt.locs, Pt.cells, Pt.slots] at X230 l230 y230 z230 st230 hQ230
      subst l230 y230 z230
      obtain ⟨rfl, N230, e230⟩ := hQ230
      have NN230 := Fr.app N229 N230
      refine Go.call st230 ?_
      show Go _ _ _ _ T230 (mkF m 120 #[.val (.int i0), .val (.int i1), .val (.int i2), .val (.ref ar), .val (.int (0 : Int32)), .val (.int ch)] [(.int (contV (0) (576460743713488896) ch))])
      refine Go.by (fun _ k => XS.iload X230.here hx rfl (hb hby at_120) rfl k) ?_
      show Go _ _ _ _ T230 (mkF m 122 #[.val (.int i0), .val (.int i1), .val (.int i2), .val (.ref ar), .val (.int (0 : Int32)), .val (.int ch)] [(.int (0 : Int32)), (.int (contV (0) (576460743713488896) ch))])
      refine Go.by (fun _ k => XS.iload X230.here hx rfl (hb hby at_122) rfl k) ?_
      show Go _ _ _ _ T230 (mkF m 124 #[.val (.int i0), .val (.int i1), .val (.int i2), .val (.ref ar), .val (.int (0 : Int32)), .val (.int ch)] [(.int ch), (.int (0 : Int32)), (.int (contV (0) (576460743713488896) ch))])
      obtain ⟨_, _, ⟨T232, L232, k232, n232⟩, -, X232, ⟨Lc232, hQ232, l232, y232, z232⟩, st232⟩ := Jvm.LawKit.callS X230 hx (y := (⟨"com/example/wayfaring_tree/wayfaringtree/grammar/CharClassContainsPinLaw", "ref", "(IC)Z"⟩ : MethodName)) hown (mvT hZ (hw _ (List.mem_of_getElem? (i := 36) rfl))) (mvT hZ (hw _ (List.mem_of_getElem? (i := 37) rfl))) (mvT hZ (hw _ (List.mem_of_getElem? (i := 38) rfl))) (mvT hZ (hw _ (List.mem_of_getElem? (i := 39) rfl))) (by decide) (backOf (W := 1) (rm2 l Z a0 hw [] (0 : Int32) ch h229 n0 Z9 ) hZ (hw _ (List.mem_of_getElem? (i := 39) rfl)) (hw _ (List.mem_of_getElem? (i := 38) rfl)) (by decide) (by decide)) (g := (mkF m 124 #[.val (.int i0), .val (.int i1), .val (.int i2), .val (.ref ar), .val (.int (0 : Int32)), .val (.int ch)] [(.int ch), (.int (0 : Int32)), (.int (contV (0) (576460743713488896) ch))])) rfl (by rw [hml]; rfl) (argsL := [(.int (0 : Int32)), (.int ch)]) (rest := [(.int (contV (0) (576460743713488896) ch))]) (lenOf pd__IC_Z rfl) rfl (by show 2 * 0 + _ ≤ _; exact Nat.le_of_eq rfl) (hb hby at_124) (fun _ _ => ⟨rfl, e230, (by decide : 0 + 1 + 0 + 0 ≤ _), (by decide : 0 + 12 + 0 + 0 ≤ _)⟩)
      dsimp only [Pt.U, Pt.locs, Pt.cells, Pt.slots] at X232 l232 y232 z232 st232 hQ232
      subst l232 y232 z232
      obtain ⟨rfl, N232, e232⟩ := hQ232
      have NN232 := Fr.app NN230 N232
      refine Go.by st232 ?_
      show Go _ _ _ _ T232 (mkF m 127 #[.val (.int i0), .val (.int i1), .val (.int i2), .val (.ref ar), .val (.int (0 : Int32)), .val (.int ch)] [(.int (refV (0 : Int32) ch)), (.int (contV (0) (576460743713488896) ch))])
      refine Go.by (fun _ k => XS.icmpNo X232.here hx rfl (hb hby at_127) rfl (XT.ii_ne_f (law_0 ch hch)) k) ?_
      show Go _ _ _ _ T232 (mkF m 130 #[.val (.int i0), .val (.int i1), .val (.int i2), .val (.ref ar), .val (.int (0 : Int32)), .val (.int ch)] [])
      refine Go.by (fun _ k => XT.iconstV X232.here hx rfl (1 : Int32) (hb hby at_130) (by decide) k) ?_
      show Go _ _ _ _ T232 (mkF m 131 #[.val (.int i0), .val (.int i1), .val (.int i2), .val (.ref ar), .val (.int (0 : Int32)), .val (.int ch)] [(.int (1 : Int32))])
      refine Go.by (fun _ k => XS.goto X232.here hx rfl (pc0 := 131) (pc' := 135) rfl (hb hby at_131) (by decide) (by decide) k) ?_
      show Go _ _ _ _ T232 (mkF m 135 #[.val (.int i0), .val (.int i1), .val (.int i2), .val (.ref ar), .val (.int (0 : Int32)), .val (.int ch)] [(.int (1 : Int32))])
      exact Go.retZ X232 hx Bd.notSynchronized (t := .boolean) Bd.returns (by simp) (hb hby at_135) ⟨rfl, NN232⟩ (by decide) (by decide)
    | ⟨1, _⟩ =>
      show Go _ _ _ _ T229 (mkF m 109 #[.val (.int i0), .val (.int i1), .val (.int i2), .val (.ref ar), .val (.int (1 : Int32)), .unset] [(.int ch)])
      refine Go.by (fun _ k => XS.istore X229.here hx rfl (hb hby at_109) rfl (l' := #[.val (.int i0), .val (.int i1), .val (.int i2), .val (.ref ar), .val (.int (1 : Int32)), .val (.int ch)]) rfl k) ?_
      show Go _ _ _ _ T229 (mkF m 111 #[.val (.int i0), .val (.int i1), .val (.int i2), .val (.ref ar), .val (.int (1 : Int32)), .val (.int ch)] [])
      refine Go.by (fun _ k => XS.aloadN X229.here hx rfl (hb hby at_111) rfl rfl k) ?_
      show Go _ _ _ _ T229 (mkF m 112 #[.val (.int i0), .val (.int i1), .val (.int i2), .val (.ref ar), .val (.int (1 : Int32)), .val (.int ch)] [(.ref ar)])
      refine Go.by (fun _ k => XS.iload X229.here hx rfl (hb hby at_112) rfl k) ?_
      show Go _ _ _ _ T229 (mkF m 114 #[.val (.int i0), .val (.int i1), .val (.int i2), .val (.ref ar), .val (.int (1 : Int32)), .val (.int ch)] [(.int (1 : Int32)), (.ref ar)])
      refine Go.by (own_aaload X229 hx hZ e229 V229 rfl (j := (1 : Int32)) (by decide) (v := .ref ad1) rfl (g := (mkF m 114 #[.val (.int i0), .val (.int i1), .val (.int i2), .val (.ref ar), .val (.int (1 : Int32)), .val (.int ch)] [(.int (1 : Int32)), (.ref ar)])) rfl rfl (hb hby at_114)) ?_
      show Go _ _ _ _ T229 (mkF m 115 #[.val (.int i0), .val (.int i1), .val (.int i2), .val (.ref ar), .val (.int (1 : Int32)), .val (.int ch)] [(.ref ad1)])
      refine Go.by (fun _ k => XS.iload X229.here hx rfl (hb hby at_115) rfl k) ?_
      show Go _ _ _ _ T229 (mkF m 117 #[.val (.int i0), .val (.int i1), .val (.int i2), .val (.ref ar), .val (.int (1 : Int32)), .val (.int ch)] [(.int ch), (.ref ad1)])
      obtain ⟨cq234, kq234, q234a, q234b, q234c⟩ := isOf hZ e229 (E1.ext O229.2)
      obtain ⟨_, _, ⟨T233, L233, k233, n233⟩, -, X233, ⟨Lc233, hQ233, l233, y233, z233⟩, st233⟩ := X229.virtualBack hx (y := (⟨"com/example/wayfaring_tree/wayfaringtree/grammar/CharClass", "contains", "(C)Z"⟩ : MethodName)) (z := (⟨"com/example/wayfaring_tree/wayfaringtree/grammar/CharClass", "contains", "(C)Z"⟩ : MethodName)) hown (mvT hZ (hw _ (List.mem_of_getElem? (i := 29) rfl))) (mvT hZ (hw _ (List.mem_of_getElem? (i := 30) rfl))) (notFace_of_selects (args := #[]) (mvT hZ (hw _ (List.mem_of_getElem? (i := 32) rfl)))) (mvT hZ (hw _ (List.mem_of_getElem? (i := 32) rfl))) (mvT hZ (hw _ (List.mem_of_getElem? (i := 31) rfl))) (by decide) (backOf (W := 0) (rm1 l Z a0 hw [] ad1 ch b1 k1 (0) (134217726) h229 n0 Z9 hch (F1.ext O229.2) (V1.ext O229.2)) hZ (hw _ (List.mem_of_getElem? (i := 33) rfl)) (hw _ (List.mem_of_getElem? (i := 3) rfl)) (by decide) (by decide)) q234a q234c (g := (mkF m 117 #[.val (.int i0), .val (.int i1), .val (.int i2), .val (.ref ar), .val (.int (1 : Int32)), .val (.int ch)] [(.int ch), (.ref ad1)])) rfl (by rw [hml]; rfl) (Steps.refl _) (argsL := [(.int ch)]) (rest := []) (lenOf pd__C_Z rfl) rfl (by show 2 * 0 + _ ≤ _; exact Nat.le_of_eq rfl) (hb hby at_117) (fun _ _ => ⟨rfl, e229, (by decide : 0 + 1 + 0 ≤ _), (by decide : 0 + 12 + 0 ≤ _)⟩)
      dsimp only [Pt.U, Pt.locs, Pt.cells, Pt.slots] at X233 l233 y233 z233 st233 hQ233
      subst l233 y233 z233
      obtain ⟨rfl, N233, e233⟩ := hQ233
      have NN233 := Fr.app N229 N233
      refine Go.call st233 ?_
      show Go _ _ _ _ T233 (mkF m 120 #[.val (.int i0), .val (.int i1), .val (.int i2), .val (.ref ar), .val (.int (1 : Int32)), .val (.int ch)] [(.int (contV (0) (134217726) ch))])
      refine Go.by (fun _ k => XS.iload X233.here hx rfl (hb hby at_120) rfl k) ?_
      show Go _ _ _ _ T233 (mkF m 122 #[.val (.int i0), .val (.int i1), .val (.int i2), .val (.ref ar), .val (.int (1 : Int32)), .val (.int ch)] [(.int (1 : Int32)), (.int (contV (0) (134217726) ch))])
      refine Go.by (fun _ k => XS.iload X233.here hx rfl (hb hby at_122) rfl k) ?_
      show Go _ _ _ _ T233 (mkF m 124 #[.val (.int i0), .val (.int i1), .val (.int i2), .val (.ref ar), .val (.int (1 : Int32)), .val (.int ch)] [(.int ch), (.int (1 : Int32)), (.int (contV (0) (134217726) ch))])
      obtain ⟨_, _, ⟨T235, L235, k235, n235⟩, -, X235, ⟨Lc235, hQ235, l235, y235, z235⟩, st235⟩ := Jvm.LawKit.callS X233 hx (y := (⟨"com/example/wayfaring_tree/wayfaringtree/grammar/CharClassContainsPinLaw", "ref", "(IC)Z"⟩ : MethodName)) hown (mvT hZ (hw _ (List.mem_of_getElem? (i := 36) rfl))) (mvT hZ (hw _ (List.mem_of_getElem? (i := 37) rfl))) (mvT hZ (hw _ (List.mem_of_getElem? (i := 38) rfl))) (mvT hZ (hw _ (List.mem_of_getElem? (i := 39) rfl))) (by decide) (backOf (W := 1) (rm2 l Z a0 hw [] (1 : Int32) ch h229 n0 Z9 ) hZ (hw _ (List.mem_of_getElem? (i := 39) rfl)) (hw _ (List.mem_of_getElem? (i := 38) rfl)) (by decide) (by decide)) (g := (mkF m 124 #[.val (.int i0), .val (.int i1), .val (.int i2), .val (.ref ar), .val (.int (1 : Int32)), .val (.int ch)] [(.int ch), (.int (1 : Int32)), (.int (contV (0) (134217726) ch))])) rfl (by rw [hml]; rfl) (argsL := [(.int (1 : Int32)), (.int ch)]) (rest := [(.int (contV (0) (134217726) ch))]) (lenOf pd__IC_Z rfl) rfl (by show 2 * 0 + _ ≤ _; exact Nat.le_of_eq rfl) (hb hby at_124) (fun _ _ => ⟨rfl, e233, (by decide : 0 + 1 + 0 + 0 ≤ _), (by decide : 0 + 12 + 0 + 0 ≤ _)⟩)
      dsimp only [Pt.U, Pt.locs, Pt.cells, Pt.slots] at X235 l235 y235 z235 st235 hQ235
      subst l235 y235 z235
      obtain ⟨rfl, N235, e235⟩ := hQ235
      have NN235 := Fr.app NN233 N235
      refine Go.by st235 ?_
      show Go _ _ _ _ T235 (mkF m 127 #[.val (.int i0), .val (.int i1), .val (.int i2), .val (.ref ar), .val (.int (1 : Int32)), .val (.int ch)] [(.int (refV (1 : Int32) ch)), (.int (contV (0) (134217726) ch))])
      refine Go.by (fun _ k => XS.icmpNo X235.here hx rfl (hb hby at_127) rfl (XT.ii_ne_f (law_1 ch hch)) k) ?_
      show Go _ _ _ _ T235 (mkF m 130 #[.val (.int i0), .val (.int i1), .val (.int i2), .val (.ref ar), .val (.int (1 : Int32)), .val (.int ch)] [])
      refine Go.by (fun _ k => XT.iconstV X235.here hx rfl (1 : Int32) (hb hby at_130) (by decide) k) ?_
      show Go _ _ _ _ T235 (mkF m 131 #[.val (.int i0), .val (.int i1), .val (.int i2), .val (.ref ar), .val (.int (1 : Int32)), .val (.int ch)] [(.int (1 : Int32))])
      refine Go.by (fun _ k => XS.goto X235.here hx rfl (pc0 := 131) (pc' := 135) rfl (hb hby at_131) (by decide) (by decide) k) ?_
      show Go _ _ _ _ T235 (mkF m 135 #[.val (.int i0), .val (.int i1), .val (.int i2), .val (.ref ar), .val (.int (1 : Int32)), .val (.int ch)] [(.int (1 : Int32))])
      exact Go.retZ X235 hx Bd.notSynchronized (t := .boolean) Bd.returns (by simp) (hb hby at_135) ⟨rfl, NN235⟩ (by decide) (by decide)
    | ⟨2, _⟩ =>
      show Go _ _ _ _ T229 (mkF m 109 #[.val (.int i0), .val (.int i1), .val (.int i2), .val (.ref ar), .val (.int (2 : Int32)), .unset] [(.int ch)])
      refine Go.by (fun _ k => XS.istore X229.here hx rfl (hb hby at_109) rfl (l' := #[.val (.int i0), .val (.int i1), .val (.int i2), .val (.ref ar), .val (.int (2 : Int32)), .val (.int ch)]) rfl k) ?_
      show Go _ _ _ _ T229 (mkF m 111 #[.val (.int i0), .val (.int i1), .val (.int i2), .val (.ref ar), .val (.int (2 : Int32)), .val (.int ch)] [])
      refine Go.by (fun _ k => XS.aloadN X229.here hx rfl (hb hby at_111) rfl rfl k) ?_
      show Go _ _ _ _ T229 (mkF m 112 #[.val (.int i0), .val (.int i1), .val (.int i2), .val (.ref ar), .val (.int (2 : Int32)), .val (.int ch)] [(.ref ar)])
      refine Go.by (fun _ k => XS.iload X229.here hx rfl (hb hby at_112) rfl k) ?_
      show Go _ _ _ _ T229 (mkF m 114 #[.val (.int i0), .val (.int i1), .val (.int i2), .val (.ref ar), .val (.int (2 : Int32)), .val (.int ch)] [(.int (2 : Int32)), (.ref ar)])
      refine Go.by (own_aaload X229 hx hZ e229 V229 rfl (j := (2 : Int32)) (by decide) (v := .ref ad2) rfl (g := (mkF m 114 #[.val (.int i0), .val (.int i1), .val (.int i2), .val (.ref ar), .val (.int (2 : Int32)), .val (.int ch)] [(.int (2 : Int32)), (.ref ar)])) rfl rfl (hb hby at_114)) ?_
      show Go _ _ _ _ T229 (mkF m 115 #[.val (.int i0), .val (.int i1), .val (.int i2), .val (.ref ar), .val (.int (2 : Int32)), .val (.int ch)] [(.ref ad2)])
      refine Go.by (fun _ k => XS.iload X229.here hx rfl (hb hby at_115) rfl k) ?_
      show Go _ _ _ _ T229 (mkF m 117 #[.val (.int i0), .val (.int i1), .val (.int i2), .val (.ref ar), .val (.int (2 : Int32)), .val (.int ch)] [(.int ch), (.ref ad2)])
      obtain ⟨cq237, kq237, q237a, q237b, q237c⟩ := isOf hZ e229 (E2.ext O229.2)
      obtain ⟨_, _, ⟨T236, L236, k236, n236⟩, -, X236, ⟨Lc236, hQ236, l236, y236, z236⟩, st236⟩ := X229.virtualBack hx (y := (⟨"com/example/wayfaring_tree/wayfaringtree/grammar/CharClass", "contains", "(C)Z"⟩ : MethodName)) (z := (⟨"com/example/wayfaring_tree/wayfaringtree/grammar/CharClass", "contains", "(C)Z"⟩ : MethodName)) hown (mvT hZ (hw _ (List.mem_of_getElem? (i := 29) rfl))) (mvT hZ (hw _ (List.mem_of_getElem? (i := 30) rfl))) (notFace_of_selects (args := #[]) (mvT hZ (hw _ (List.mem_of_getElem? (i := 32) rfl)))) (mvT hZ (hw _ (List.mem_of_getElem? (i := 32) rfl))) (mvT hZ (hw _ (List.mem_of_getElem? (i := 31) rfl))) (by decide) (backOf (W := 0) (rm1 l Z a0 hw [] ad2 ch b2 k2 (0) (576460743847706622) h229 n0 Z9 hch (F2.ext O229.2) (V2.ext O229.2)) hZ (hw _ (List.mem_of_getElem? (i := 33) rfl)) (hw _ (List.mem_of_getElem? (i := 3) rfl)) (by decide) (by decide)) q237a q237c (g := (mkF m 117 #[.val (.int i0), .val (.int i1), .val (.int i2), .val (.ref ar), .val (.int (2 : Int32)), .val (.int ch)] [(.int ch), (.ref ad2)])) rfl (by rw [hml]; rfl) (Steps.refl _) (argsL := [(.int ch)]) (rest := []) (lenOf pd__C_Z rfl) rfl (by show 2 * 0 + _ ≤ _; exact Nat.le_of_eq rfl) (hb hby at_117) (fun _ _ => ⟨rfl, e229, (by decide : 0 + 1 + 0 ≤ _), (by decide : 0 + 12 + 0 ≤ _)⟩)
      dsimp only [Pt.U, Pt.locs, Pt.cells, Pt.slots] at X236 l236 y236 z236 st236 hQ236
      subst l236 y236 z236
      obtain ⟨rfl, N236, e236⟩ := hQ236
      have NN236 := Fr.app N229 N236
      refine Go.call st236 ?_
      show Go _ _ _ _ T236 (mkF m 120 #[.val (.int i0), .val (.int i1), .val (.int i2), .val (.ref ar), .val (.int (2 : Int32)), .val (.int ch)] [(.int (contV (0) (576460743847706622) ch))])
      refine Go.by (fun _ k => XS.iload X236.here hx rfl (hb hby at_120) rfl k) ?_
      show Go _ _ _ _ T236 (mkF m 122 #[.val (.int i0), .val (.int i1), .val (.int i2), .val (.ref ar), .val (.int (2 : Int32)), .val (.int ch)] [(.int (2 : Int32)), (.int (contV (0) (576460743847706622) ch))])
      refine Go.by (fun _ k => XS.iload X236.here hx rfl (hb hby at_122) rfl k) ?_
      show Go _ _ _ _ T236 (mkF m 124 #[.val (.int i0), .val (.int i1), .val (.int i2), .val (.ref ar), .val (.int (2 : Int32)), .val (.int ch)] [(.int ch), (.int (2 : Int32)), (.int (contV (0) (576460743847706622) ch))])
      obtain ⟨_, _, ⟨T238, L238, k238, n238⟩, -, X238, ⟨Lc238, hQ238, l238, y238, z238⟩, st238⟩ := Jvm.LawKit.callS X236 hx (y := (⟨"com/example/wayfaring_tree/wayfaringtree/grammar/CharClassContainsPinLaw", "ref", "(IC)Z"⟩ : MethodName)) hown (mvT hZ (hw _ (List.mem_of_getElem? (i := 36) rfl))) (mvT hZ (hw _ (List.mem_of_getElem? (i := 37) rfl))) (mvT hZ (hw _ (List.mem_of_getElem? (i := 38) rfl))) (mvT hZ (hw _ (List.mem_of_getElem? (i := 39) rfl))) (by decide) (backOf (W := 1) (rm2 l Z a0 hw [] (2 : Int32) ch h229 n0 Z9 ) hZ (hw _ (List.mem_of_getElem? (i := 39) rfl)) (hw _ (List.mem_of_getElem? (i := 38) rfl)) (by decide) (by decide)) (g := (mkF m 124 #[.val (.int i0), .val (.int i1), .val (.int i2), .val (.ref ar), .val (.int (2 : Int32)), .val (.int ch)] [(.int ch), (.int (2 : Int32)), (.int (contV (0) (576460743847706622) ch))])) rfl (by rw [hml]; rfl) (argsL := [(.int (2 : Int32)), (.int ch)]) (rest := [(.int (contV (0) (576460743847706622) ch))]) (lenOf pd__IC_Z rfl) rfl (by show 2 * 0 + _ ≤ _; exact Nat.le_of_eq rfl) (hb hby at_124) (fun _ _ => ⟨rfl, e236, (by decide : 0 + 1 + 0 + 0 ≤ _), (by decide : 0 + 12 + 0 + 0 ≤ _)⟩)
      dsimp only [Pt.U, Pt.locs, Pt.cells, Pt.slots] at X238 l238 y238 z238 st238 hQ238
      subst l238 y238 z238
      obtain ⟨rfl, N238, e238⟩ := hQ238
      have NN238 := Fr.app NN236 N238
      refine Go.by st238 ?_
      show Go _ _ _ _ T238 (mkF m 127 #[.val (.int i0), .val (.int i1), .val (.int i2), .val (.ref ar), .val (.int (2 : Int32)), .val (.int ch)] [(.int (refV (2 : Int32) ch)), (.int (contV (0) (576460743847706622) ch))])
      refine Go.by (fun _ k => XS.icmpNo X238.here hx rfl (hb hby at_127) rfl (XT.ii_ne_f (law_2 ch hch)) k) ?_
      show Go _ _ _ _ T238 (mkF m 130 #[.val (.int i0), .val (.int i1), .val (.int i2), .val (.ref ar), .val (.int (2 : Int32)), .val (.int ch)] [])
      refine Go.by (fun _ k => XT.iconstV X238.here hx rfl (1 : Int32) (hb hby at_130) (by decide) k) ?_
      show Go _ _ _ _ T238 (mkF m 131 #[.val (.int i0), .val (.int i1), .val (.int i2), .val (.ref ar), .val (.int (2 : Int32)), .val (.int ch)] [(.int (1 : Int32))])
      refine Go.by (fun _ k => XS.goto X238.here hx rfl (pc0 := 131) (pc' := 135) rfl (hb hby at_131) (by decide) (by decide) k) ?_
      show Go _ _ _ _ T238 (mkF m 135 #[.val (.int i0), .val (.int i1), .val (.int i2), .val (.ref ar), .val (.int (2 : Int32)), .val (.int ch)] [(.int (1 : Int32))])
      exact Go.retZ X238 hx Bd.notSynchronized (t := .boolean) Bd.returns (by simp) (hb hby at_135) ⟨rfl, NN238⟩ (by decide) (by decide)
    | ⟨3, _⟩ =>
      show Go _ _ _ _ T229 (mkF m 109 #[.val (.int i0), .val (.int i1), .val (.int i2), .val (.ref ar), .val (.int (3 : Int32)), .unset] [(.int ch)])
      refine Go.by (fun _ k => XS.istore X229.here hx rfl (hb hby at_109) rfl (l' := #[.val (.int i0), .val (.int i1), .val (.int i2), .val (.ref ar), .val (.int (3 : Int32)), .val (.int ch)]) rfl k) ?_
      show Go _ _ _ _ T229 (mkF m 111 #[.val (.int i0), .val (.int i1), .val (.int i2), .val (.ref ar), .val (.int (3 : Int32)), .val (.int ch)] [])
      refine Go.by (fun _ k => XS.aloadN X229.here hx rfl (hb hby at_111) rfl rfl k) ?_
      show Go _ _ _ _ T229 (mkF m 112 #[.val (.int i0), .val (.int i1), .val (.int i2), .val (.ref ar), .val (.int (3 : Int32)), .val (.int ch)] [(.ref ar)])
      refine Go.by (fun _ k => XS.iload X229.here hx rfl (hb hby at_112) rfl k) ?_
      show Go _ _ _ _ T229 (mkF m 114 #[.val (.int i0), .val (.int i1), .val (.int i2), .val (.ref ar), .val (.int (3 : Int32)), .val (.int ch)] [(.int (3 : Int32)), (.ref ar)])
      refine Go.by (own_aaload X229 hx hZ e229 V229 rfl (j := (3 : Int32)) (by decide) (v := .ref ad3) rfl (g := (mkF m 114 #[.val (.int i0), .val (.int i1), .val (.int i2), .val (.ref ar), .val (.int (3 : Int32)), .val (.int ch)] [(.int (3 : Int32)), (.ref ar)])) rfl rfl (hb hby at_114)) ?_
      show Go _ _ _ _ T229 (mkF m 115 #[.val (.int i0), .val (.int i1), .val (.int i2), .val (.ref ar), .val (.int (3 : Int32)), .val (.int ch)] [(.ref ad3)])
      refine Go.by (fun _ k => XS.iload X229.here hx rfl (hb hby at_115) rfl k) ?_
      show Go _ _ _ _ T229 (mkF m 117 #[.val (.int i0), .val (.int i1), .val (.int i2), .val (.ref ar), .val (.int (3 : Int32)), .val (.int ch)] [(.int ch), (.ref ad3)])
      obtain ⟨cq240, kq240, q240a, q240b, q240c⟩ := isOf hZ e229 (E3.ext O229.2)
      obtain ⟨_, _, ⟨T239, L239, k239, n239⟩, -, X239, ⟨Lc239, hQ239, l239, y239, z239⟩, st239⟩ := X229.virtualBack hx (y := (⟨"com/example/wayfaring_tree/wayfaringtree/grammar/CharClass", "contains", "(C)Z"⟩ : MethodName)) (z := (⟨"com/example/wayfaring_tree/wayfaringtree/grammar/CharClass", "contains", "(C)Z"⟩ : MethodName)) hown (mvT hZ (hw _ (List.mem_of_getElem? (i := 29) rfl))) (mvT hZ (hw _ (List.mem_of_getElem? (i := 30) rfl))) (notFace_of_selects (args := #[]) (mvT hZ (hw _ (List.mem_of_getElem? (i := 32) rfl)))) (mvT hZ (hw _ (List.mem_of_getElem? (i := 32) rfl))) (mvT hZ (hw _ (List.mem_of_getElem? (i := 31) rfl))) (by decide) (backOf (W := 0) (rm1 l Z a0 hw [] ad3 ch b3 k3 (287948901175001088) (0) h229 n0 Z9 hch (F3.ext O229.2) (V3.ext O229.2)) hZ (hw _ (List.mem_of_getElem? (i := 33) rfl)) (hw _ (List.mem_of_getElem? (i := 3) rfl)) (by decide) (by decide)) q240a q240c (g := (mkF m 117 #[.val (.int i0), .val (.int i1), .val (.int i2), .val (.ref ar), .val (.int (3 : Int32)), .val (.int ch)] [(.int ch), (.ref ad3)])) rfl (by rw [hml]; rfl) (Steps.refl _) (argsL := [(.int ch)]) (rest := []) (lenOf pd__C_Z rfl) rfl (by show 2 * 0 + _ ≤ _; exact Nat.le_of_eq rfl) (hb hby at_117) (fun _ _ => ⟨rfl, e229, (by decide : 0 + 1 + 0 ≤ _), (by decide : 0 + 12 + 0 ≤ _)⟩)
      dsimp only [Pt.U, Pt.locs, Pt.cells, Pt.slots] at X239 l239 y239 z239 st239 hQ239
      subst l239 y239 z239
      obtain ⟨rfl, N239, e239⟩ := hQ239
      have NN239 := Fr.app N229 N239
      refine Go.call st239 ?_
      show Go _ _ _ _ T239 (mkF m 120 #[.val (.int i0), .val (.int i1), .val (.int i2), .val (.ref ar), .val (.int (3 : Int32)), .val (.int ch)] [(.int (contV (287948901175001088) (0) ch))])
      refine Go.by (fun _ k => XS.iload X239.here hx rfl (hb hby at_120) rfl k) ?_
      show Go _ _ _ _ T239 (mkF m 122 #[.val (.int i0), .val (.int i1), .val (.int i2), .val (.ref ar), .val (.int (3 : Int32)), .val (.int ch)] [(.int (3 : Int32)), (.int (contV (287948901175001088) (0) ch))])
      refine Go.by (fun _ k => XS.iload X239.here hx rfl (hb hby at_122) rfl k) ?_
      show Go _ _ _ _ T239 (mkF m 124 #[.val (.int i0), .val (.int i1), .val (.int i2), .val (.ref ar), .val (.int (3 : Int32)), .val (.int ch)] [(.int ch), (.int (3 : Int32)), (.int (contV (287948901175001088) (0) ch))])
      obtain ⟨_, _, ⟨T241, L241, k241, n241⟩, -, X241, ⟨Lc241, hQ241, l241, y241, z241⟩, st241⟩ := Jvm.LawKit.callS X239 hx (y := (⟨"com/example/wayfaring_tree/wayfaringtree/grammar/CharClassContainsPinLaw", "ref", "(IC)Z"⟩ : MethodName)) hown (mvT hZ (hw _ (List.mem_of_getElem? (i := 36) rfl))) (mvT hZ (hw _ (List.mem_of_getElem? (i := 37) rfl))) (mvT hZ (hw _ (List.mem_of_getElem? (i := 38) rfl))) (mvT hZ (hw _ (List.mem_of_getElem? (i := 39) rfl))) (by decide) (backOf (W := 1) (rm2 l Z a0 hw [] (3 : Int32) ch h229 n0 Z9 ) hZ (hw _ (List.mem_of_getElem? (i := 39) rfl)) (hw _ (List.mem_of_getElem? (i := 38) rfl)) (by decide) (by decide)) (g := (mkF m 124 #[.val (.int i0), .val (.int i1), .val (.int i2), .val (.ref ar), .val (.int (3 : Int32)), .val (.int ch)] [(.int ch), (.int (3 : Int32)), (.int (contV (287948901175001088) (0) ch))])) rfl (by rw [hml]; rfl) (argsL := [(.int (3 : Int32)), (.int ch)]) (rest := [(.int (contV (287948901175001088) (0) ch))]) (lenOf pd__IC_Z rfl) rfl (by show 2 * 0 + _ ≤ _; exact Nat.le_of_eq rfl) (hb hby at_124) (fun _ _ => ⟨rfl, e239, (by decide : 0 + 1 + 0 + 0 ≤ _), (by decide : 0 + 12 + 0 + 0 ≤ _)⟩)
      dsimp only [Pt.U, Pt.locs, Pt.cells, Pt.slots] at X241 l241 y241 z241 st241 hQ241
      subst l241 y241 z241
      obtain ⟨rfl, N241, e241⟩ := hQ241
      have NN241 := Fr.app NN239 N241
      refine Go.by st241 ?_
      show Go _ _ _ _ T241 (mkF m 127 #[.val (.int i0), .val (.int i1), .val (.int i2), .val (.ref ar), .val (.int (3 : Int32)), .val (.int ch)] [(.int (refV (3 : Int32) ch)), (.int (contV (287948901175001088) (0) ch))])
      refine Go.by (fun _ k => XS.icmpNo X241.here hx rfl (hb hby at_127) rfl (XT.ii_ne_f (law_3 ch hch)) k) ?_
      show Go _ _ _ _ T241 (mkF m 130 #[.val (.int i0), .val (.int i1), .val (.int i2), .val (.ref ar), .val (.int (3 : Int32)), .val (.int ch)] [])
      refine Go.by (fun _ k => XT.iconstV X241.here hx rfl (1 : Int32) (hb hby at_130) (by decide) k) ?_
      show Go _ _ _ _ T241 (mkF m 131 #[.val (.int i0), .val (.int i1), .val (.int i2), .val (.ref ar), .val (.int (3 : Int32)), .val (.int ch)] [(.int (1 : Int32))])
      refine Go.by (fun _ k => XS.goto X241.here hx rfl (pc0 := 131) (pc' := 135) rfl (hb hby at_131) (by decide) (by decide) k) ?_
      show Go _ _ _ _ T241 (mkF m 135 #[.val (.int i0), .val (.int i1), .val (.int i2), .val (.ref ar), .val (.int (3 : Int32)), .val (.int ch)] [(.int (1 : Int32))])
      exact Go.retZ X241 hx Bd.notSynchronized (t := .boolean) Bd.returns (by simp) (hb hby at_135) ⟨rfl, NN241⟩ (by decide) (by decide)
    | ⟨4, _⟩ =>
      show Go _ _ _ _ T229 (mkF m 109 #[.val (.int i0), .val (.int i1), .val (.int i2), .val (.ref ar), .val (.int (4 : Int32)), .unset] [(.int ch)])
      refine Go.by (fun _ k => XS.istore X229.here hx rfl (hb hby at_109) rfl (l' := #[.val (.int i0), .val (.int i1), .val (.int i2), .val (.ref ar), .val (.int (4 : Int32)), .val (.int ch)]) rfl k) ?_
      show Go _ _ _ _ T229 (mkF m 111 #[.val (.int i0), .val (.int i1), .val (.int i2), .val (.ref ar), .val (.int (4 : Int32)), .val (.int ch)] [])
      refine Go.by (fun _ k => XS.aloadN X229.here hx rfl (hb hby at_111) rfl rfl k) ?_
      show Go _ _ _ _ T229 (mkF m 112 #[.val (.int i0), .val (.int i1), .val (.int i2), .val (.ref ar), .val (.int (4 : Int32)), .val (.int ch)] [(.ref ar)])
      refine Go.by (fun _ k => XS.iload X229.here hx rfl (hb hby at_112) rfl k) ?_
      show Go _ _ _ _ T229 (mkF m 114 #[.val (.int i0), .val (.int i1), .val (.int i2), .val (.ref ar), .val (.int (4 : Int32)), .val (.int ch)] [(.int (4 : Int32)), (.ref ar)])
      refine Go.by (own_aaload X229 hx hZ e229 V229 rfl (j := (4 : Int32)) (by decide) (v := .ref ad4) rfl (g := (mkF m 114 #[.val (.int i0), .val (.int i1), .val (.int i2), .val (.ref ar), .val (.int (4 : Int32)), .val (.int ch)] [(.int (4 : Int32)), (.ref ar)])) rfl rfl (hb hby at_114)) ?_
      show Go _ _ _ _ T229 (mkF m 115 #[.val (.int i0), .val (.int i1), .val (.int i2), .val (.ref ar), .val (.int (4 : Int32)), .val (.int ch)] [(.ref ad4)])
      refine Go.by (fun _ k => XS.iload X229.here hx rfl (hb hby at_115) rfl k) ?_
      show Go _ _ _ _ T229 (mkF m 117 #[.val (.int i0), .val (.int i1), .val (.int i2), .val (.ref ar), .val (.int (4 : Int32)), .val (.int ch)] [(.int ch), (.ref ad4)])
      obtain ⟨cq243, kq243, q243a, q243b, q243c⟩ := isOf hZ e229 (E4.ext O229.2)
      obtain ⟨_, _, ⟨T242, L242, k242, n242⟩, -, X242, ⟨Lc242, hQ242, l242, y242, z242⟩, st242⟩ := X229.virtualBack hx (y := (⟨"com/example/wayfaring_tree/wayfaringtree/grammar/CharClass", "contains", "(C)Z"⟩ : MethodName)) (z := (⟨"com/example/wayfaring_tree/wayfaringtree/grammar/CharClass", "contains", "(C)Z"⟩ : MethodName)) hown (mvT hZ (hw _ (List.mem_of_getElem? (i := 29) rfl))) (mvT hZ (hw _ (List.mem_of_getElem? (i := 30) rfl))) (notFace_of_selects (args := #[]) (mvT hZ (hw _ (List.mem_of_getElem? (i := 32) rfl)))) (mvT hZ (hw _ (List.mem_of_getElem? (i := 32) rfl))) (mvT hZ (hw _ (List.mem_of_getElem? (i := 31) rfl))) (by decide) (backOf (W := 0) (rm1 l Z a0 hw [] ad4 ch b4 k4 (287948901175001088) (576460743847706622) h229 n0 Z9 hch (F4.ext O229.2) (V4.ext O229.2)) hZ (hw _ (List.mem_of_getElem? (i := 33) rfl)) (hw _ (List.mem_of_getElem? (i := 3) rfl)) (by decide) (by decide)) q243a q243c (g := (mkF m 117 #[.val (.int i0), .val (.int i1), .val (.int i2), .val (.ref ar), .val (.int (4 : Int32)), .val (.int ch)] [(.int ch), (.ref ad4)])) rfl (by rw [hml]; rfl) (Steps.refl _) (argsL := [(.int ch)]) (rest := []) (lenOf pd__C_Z rfl) rfl (by show 2 * 0 + _ ≤ _; exact Nat.le_of_eq rfl) (hb hby at_117) (fun _ _ => ⟨rfl, e229, (by decide : 0 + 1 + 0 ≤ _), (by decide : 0 + 12 + 0 ≤ _)⟩)
      dsimp only [Pt.U, Pt.locs, Pt.cells, Pt.slots] at X242 l242 y242 z242 st242 hQ242
      subst l242 y242 z242
      obtain ⟨rfl, N242, e242⟩ := hQ242
      have NN242 := Fr.app N229 N242
      refine Go.call st242 ?_
      show Go _ _ _ _ T242 (mkF m 120 #[.val (.int i0), .val (.int i1), .val (.int i2), .val (.ref ar), .val (.int (4 : Int32)), .val (.int ch)] [(.int (contV (287948901175001088) (576460743847706622) ch))])
      refine Go.by (fun _ k => XS.iload X242.here hx rfl (hb hby at_120) rfl k) ?_
      show Go _ _ _ _ T242 (mkF m 122 #[.val (.int i0), .val (.int i1), .val (.int i2), .val (.ref ar), .val (.int (4 : Int32)), .val (.int ch)] [(.int (4 : Int32)), (.int (contV (287948901175001088) (576460743847706622) ch))])
      refine Go.by (fun _ k => XS.iload X242.here hx rfl (hb hby at_122) rfl k) ?_
      show Go _ _ _ _ T242 (mkF m 124 #[.val (.int i0), .val (.int i1), .val (.int i2), .val (.ref ar), .val (.int (4 : Int32)), .val (.int ch)] [(.int ch), (.int (4 : Int32)), (.int (contV (287948901175001088) (576460743847706622) ch))])
      obtain ⟨_, _, ⟨T244, L244, k244, n244⟩, -, X244, ⟨Lc244, hQ244, l244, y244, z244⟩, st244⟩ := Jvm.LawKit.callS X242 hx (y := (⟨"com/example/wayfaring_tree/wayfaringtree/grammar/CharClassContainsPinLaw", "ref", "(IC)Z"⟩ : MethodName)) hown (mvT hZ (hw _ (List.mem_of_getElem? (i := 36) rfl))) (mvT hZ (hw _ (List.mem_of_getElem? (i := 37) rfl))) (mvT hZ (hw _ (List.mem_of_getElem? (i := 38) rfl))) (mvT hZ (hw _ (List.mem_of_getElem? (i := 39) rfl))) (by decide) (backOf (W := 1) (rm2 l Z a0 hw [] (4 : Int32) ch h229 n0 Z9 ) hZ (hw _ (List.mem_of_getElem? (i := 39) rfl)) (hw _ (List.mem_of_getElem? (i := 38) rfl)) (by decide) (by decide)) (g := (mkF m 124 #[.val (.int i0), .val (.int i1), .val (.int i2), .val (.ref ar), .val (.int (4 : Int32)), .val (.int ch)] [(.int ch), (.int (4 : Int32)), (.int (contV (287948901175001088) (576460743847706622) ch))])) rfl (by rw [hml]; rfl) (argsL := [(.int (4 : Int32)), (.int ch)]) (rest := [(.int (contV (287948901175001088) (576460743847706622) ch))]) (lenOf pd__IC_Z rfl) rfl (by show 2 * 0 + _ ≤ _; exact Nat.le_of_eq rfl) (hb hby at_124) (fun _ _ => ⟨rfl, e242, (by decide : 0 + 1 + 0 + 0 ≤ _), (by decide : 0 + 12 + 0 + 0 ≤ _)⟩)
      dsimp only [Pt.U, Pt.locs, Pt.cells, Pt.slots] at X244 l244 y244 z244 st244 hQ244
      subst l244 y244 z244
      obtain ⟨rfl, N244, e244⟩ := hQ244
      have NN244 := Fr.app NN242 N244
      refine Go.by st244 ?_
      show Go _ _ _ _ T244 (mkF m 127 #[.val (.int i0), .val (.int i1), .val (.int i2), .val (.ref ar), .val (.int (4 : Int32)), .val (.int ch)] [(.int (refV (4 : Int32) ch)), (.int (contV (287948901175001088) (576460743847706622) ch))])
      refine Go.by (fun _ k => XS.icmpNo X244.here hx rfl (hb hby at_127) rfl (XT.ii_ne_f (law_4 ch hch)) k) ?_
      show Go _ _ _ _ T244 (mkF m 130 #[.val (.int i0), .val (.int i1), .val (.int i2), .val (.ref ar), .val (.int (4 : Int32)), .val (.int ch)] [])
      refine Go.by (fun _ k => XT.iconstV X244.here hx rfl (1 : Int32) (hb hby at_130) (by decide) k) ?_
      show Go _ _ _ _ T244 (mkF m 131 #[.val (.int i0), .val (.int i1), .val (.int i2), .val (.ref ar), .val (.int (4 : Int32)), .val (.int ch)] [(.int (1 : Int32))])
      refine Go.by (fun _ k => XS.goto X244.here hx rfl (pc0 := 131) (pc' := 135) rfl (hb hby at_131) (by decide) (by decide) k) ?_
      show Go _ _ _ _ T244 (mkF m 135 #[.val (.int i0), .val (.int i1), .val (.int i2), .val (.ref ar), .val (.int (4 : Int32)), .val (.int ch)] [(.int (1 : Int32))])
      exact Go.retZ X244 hx Bd.notSynchronized (t := .boolean) Bd.returns (by simp) (hb hby at_135) ⟨rfl, NN244⟩ (by decide) (by decide)
    | ⟨5, _⟩ =>
      show Go _ _ _ _ T229 (mkF m 109 #[.val (.int i0), .val (.int i1), .val (.int i2), .val (.ref ar), .val (.int (5 : Int32)), .unset] [(.int ch)])
      refine Go.by (fun _ k => XS.istore X229.here hx rfl (hb hby at_109) rfl (l' := #[.val (.int i0), .val (.int i1), .val (.int i2), .val (.ref ar), .val (.int (5 : Int32)), .val (.int ch)]) rfl k) ?_
      show Go _ _ _ _ T229 (mkF m 111 #[.val (.int i0), .val (.int i1), .val (.int i2), .val (.ref ar), .val (.int (5 : Int32)), .val (.int ch)] [])
      refine Go.by (fun _ k => XS.aloadN X229.here hx rfl (hb hby at_111) rfl rfl k) ?_
      show Go _ _ _ _ T229 (mkF m 112 #[.val (.int i0), .val (.int i1), .val (.int i2), .val (.ref ar), .val (.int (5 : Int32)), .val (.int ch)] [(.ref ar)])
      refine Go.by (fun _ k => XS.iload X229.here hx rfl (hb hby at_112) rfl k) ?_
      show Go _ _ _ _ T229 (mkF m 114 #[.val (.int i0), .val (.int i1), .val (.int i2), .val (.ref ar), .val (.int (5 : Int32)), .val (.int ch)] [(.int (5 : Int32)), (.ref ar)])
      refine Go.by (own_aaload X229 hx hZ e229 V229 rfl (j := (5 : Int32)) (by decide) (v := .ref ad5) rfl (g := (mkF m 114 #[.val (.int i0), .val (.int i1), .val (.int i2), .val (.ref ar), .val (.int (5 : Int32)), .val (.int ch)] [(.int (5 : Int32)), (.ref ar)])) rfl rfl (hb hby at_114)) ?_
      show Go _ _ _ _ T229 (mkF m 115 #[.val (.int i0), .val (.int i1), .val (.int i2), .val (.ref ar), .val (.int (5 : Int32)), .val (.int ch)] [(.ref ad5)])
      refine Go.by (fun _ k => XS.iload X229.here hx rfl (hb hby at_115) rfl k) ?_
      show Go _ _ _ _ T229 (mkF m 117 #[.val (.int i0), .val (.int i1), .val (.int i2), .val (.ref ar), .val (.int (5 : Int32)), .val (.int ch)] [(.int ch), (.ref ad5)])
      obtain ⟨cq246, kq246, q246a, q246b, q246c⟩ := isOf hZ e229 (E5.ext O229.2)
      obtain ⟨_, _, ⟨T245, L245, k245, n245⟩, -, X245, ⟨Lc245, hQ245, l245, y245, z245⟩, st245⟩ := X229.virtualBack hx (y := (⟨"com/example/wayfaring_tree/wayfaringtree/grammar/CharClass", "contains", "(C)Z"⟩ : MethodName)) (z := (⟨"com/example/wayfaring_tree/wayfaringtree/grammar/CharClass", "contains", "(C)Z"⟩ : MethodName)) hown (mvT hZ (hw _ (List.mem_of_getElem? (i := 29) rfl))) (mvT hZ (hw _ (List.mem_of_getElem? (i := 30) rfl))) (notFace_of_selects (args := #[]) (mvT hZ (hw _ (List.mem_of_getElem? (i := 32) rfl)))) (mvT hZ (hw _ (List.mem_of_getElem? (i := 32) rfl))) (mvT hZ (hw _ (List.mem_of_getElem? (i := 31) rfl))) (by decide) (backOf (W := 0) (rm1 l Z a0 hw [] ad5 ch b5 k5 (114417928765440) (2147483648) h229 n0 Z9 hch (F5.ext O229.2) (V5.ext O229.2)) hZ (hw _ (List.mem_of_getElem? (i := 33) rfl)) (hw _ (List.mem_of_getElem? (i := 3) rfl)) (by decide) (by decide)) q246a q246c (g := (mkF m 117 #[.val (.int i0), .val (.int i1), .val (.int i2), .val (.ref ar), .val (.int (5 : Int32)), .val (.int ch)] [(.int ch), (.ref ad5)])) rfl (by rw [hml]; rfl) (Steps.refl _) (argsL := [(.int ch)]) (rest := []) (lenOf pd__C_Z rfl) rfl (by show 2 * 0 + _ ≤ _; exact Nat.le_of_eq rfl) (hb hby at_117) (fun _ _ => ⟨rfl, e229, (by decide : 0 + 1 + 0 ≤ _), (by decide : 0 + 12 + 0 ≤ _)⟩)
      dsimp only [Pt.U, Pt.locs, Pt.cells, Pt.slots] at X245 l245 y245 z245 st245 hQ245
      subst l245 y245 z245
      obtain ⟨rfl, N245, e245⟩ := hQ245
      have NN245 := Fr.app N229 N245
      refine Go.call st245 ?_
      show Go _ _ _ _ T245 (mkF m 120 #[.val (.int i0), .val (.int i1), .val (.int i2), .val (.ref ar), .val (.int (5 : Int32)), .val (.int ch)] [(.int (contV (114417928765440) (2147483648) ch))])
      refine Go.by (fun _ k => XS.iload X245.here hx rfl (hb hby at_120) rfl k) ?_
      show Go _ _ _ _ T245 (mkF m 122 #[.val (.int i0), .val (.int i1), .val (.int i2), .val (.ref ar), .val (.int (5 : Int32)), .val (.int ch)] [(.int (5 : Int32)), (.int (contV (114417928765440) (2147483648) ch))])
      refine Go.by (fun _ k => XS.iload X245.here hx rfl (hb hby at_122) rfl k) ?_
      show Go _ _ _ _ T245 (mkF m 124 #[.val (.int i0), .val (.int i1), .val (.int i2), .val (.ref ar), .val (.int (5 : Int32)), .val (.int ch)] [(.int ch), (.int (5 : Int32)), (.int (contV (114417928765440) (2147483648) ch))])
      obtain ⟨_, _, ⟨T247, L247, k247, n247⟩, -, X247, ⟨Lc247, hQ247, l247, y247, z247⟩, st247⟩ := Jvm.LawKit.callS X245 hx (y := (⟨"com/example/wayfaring_tree/wayfaringtree/grammar/CharClassContainsPinLaw", "ref", "(IC)Z"⟩ : MethodName)) hown (mvT hZ (hw _ (List.mem_of_getElem? (i := 36) rfl))) (mvT hZ (hw _ (List.mem_of_getElem? (i := 37) rfl))) (mvT hZ (hw _ (List.mem_of_getElem? (i := 38) rfl))) (mvT hZ (hw _ (List.mem_of_getElem? (i := 39) rfl))) (by decide) (backOf (W := 1) (rm2 l Z a0 hw [] (5 : Int32) ch h229 n0 Z9 ) hZ (hw _ (List.mem_of_getElem? (i := 39) rfl)) (hw _ (List.mem_of_getElem? (i := 38) rfl)) (by decide) (by decide)) (g := (mkF m 124 #[.val (.int i0), .val (.int i1), .val (.int i2), .val (.ref ar), .val (.int (5 : Int32)), .val (.int ch)] [(.int ch), (.int (5 : Int32)), (.int (contV (114417928765440) (2147483648) ch))])) rfl (by rw [hml]; rfl) (argsL := [(.int (5 : Int32)), (.int ch)]) (rest := [(.int (contV (114417928765440) (2147483648) ch))]) (lenOf pd__IC_Z rfl) rfl (by show 2 * 0 + _ ≤ _; exact Nat.le_of_eq rfl) (hb hby at_124) (fun _ _ => ⟨rfl, e245, (by decide : 0 + 1 + 0 + 0 ≤ _), (by decide : 0 + 12 + 0 + 0 ≤ _)⟩)
      dsimp only [Pt.U, Pt.locs, Pt.cells, Pt.slots] at X247 l247 y247 z247 st247 hQ247
      subst l247 y247 z247
      obtain ⟨rfl, N247, e247⟩ := hQ247
      have NN247 := Fr.app NN245 N247
      refine Go.by st247 ?_
      show Go _ _ _ _ T247 (mkF m 127 #[.val (.int i0), .val (.int i1), .val (.int i2), .val (.ref ar), .val (.int (5 : Int32)), .val (.int ch)] [(.int (refV (5 : Int32) ch)), (.int (contV (114417928765440) (2147483648) ch))])
      refine Go.by (fun _ k => XS.icmpNo X247.here hx rfl (hb hby at_127) rfl (XT.ii_ne_f (law_5 ch hch)) k) ?_
      show Go _ _ _ _ T247 (mkF m 130 #[.val (.int i0), .val (.int i1), .val (.int i2), .val (.ref ar), .val (.int (5 : Int32)), .val (.int ch)] [])
      refine Go.by (fun _ k => XT.iconstV X247.here hx rfl (1 : Int32) (hb hby at_130) (by decide) k) ?_
      show Go _ _ _ _ T247 (mkF m 131 #[.val (.int i0), .val (.int i1), .val (.int i2), .val (.ref ar), .val (.int (5 : Int32)), .val (.int ch)] [(.int (1 : Int32))])
      refine Go.by (fun _ k => XS.goto X247.here hx rfl (pc0 := 131) (pc' := 135) rfl (hb hby at_131) (by decide) (by decide) k) ?_
      show Go _ _ _ _ T247 (mkF m 135 #[.val (.int i0), .val (.int i1), .val (.int i2), .val (.ref ar), .val (.int (5 : Int32)), .val (.int ch)] [(.int (1 : Int32))])
      exact Go.retZ X247 hx Bd.notSynchronized (t := .boolean) Bd.returns (by simp) (hb hby at_135) ⟨rfl, NN247⟩ (by decide) (by decide)
    | ⟨6, _⟩ =>
      show Go _ _ _ _ T229 (mkF m 109 #[.val (.int i0), .val (.int i1), .val (.int i2), .val (.ref ar), .val (.int (6 : Int32)), .unset] [(.int ch)])
      refine Go.by (fun _ k => XS.istore X229.here hx rfl (hb hby at_109) rfl (l' := #[.val (.int i0), .val (.int i1), .val (.int i2), .val (.ref ar), .val (.int (6 : Int32)), .val (.int ch)]) rfl k) ?_
      show Go _ _ _ _ T229 (mkF m 111 #[.val (.int i0), .val (.int i1), .val (.int i2), .val (.ref ar), .val (.int (6 : Int32)), .val (.int ch)] [])
      refine Go.by (fun _ k => XS.aloadN X229.here hx rfl (hb hby at_111) rfl rfl k) ?_
      show Go _ _ _ _ T229 (mkF m 112 #[.val (.int i0), .val (.int i1), .val (.int i2), .val (.ref ar), .val (.int (6 : Int32)), .val (.int ch)] [(.ref ar)])
      refine Go.by (fun _ k => XS.iload X229.here hx rfl (hb hby at_112) rfl k) ?_
      show Go _ _ _ _ T229 (mkF m 114 #[.val (.int i0), .val (.int i1), .val (.int i2), .val (.ref ar), .val (.int (6 : Int32)), .val (.int ch)] [(.int (6 : Int32)), (.ref ar)])
      refine Go.by (own_aaload X229 hx hZ e229 V229 rfl (j := (6 : Int32)) (by decide) (v := .ref ad6) rfl (g := (mkF m 114 #[.val (.int i0), .val (.int i1), .val (.int i2), .val (.ref ar), .val (.int (6 : Int32)), .val (.int ch)] [(.int (6 : Int32)), (.ref ar)])) rfl rfl (hb hby at_114)) ?_
      show Go _ _ _ _ T229 (mkF m 115 #[.val (.int i0), .val (.int i1), .val (.int i2), .val (.ref ar), .val (.int (6 : Int32)), .val (.int ch)] [(.ref ad6)])
      refine Go.by (fun _ k => XS.iload X229.here hx rfl (hb hby at_115) rfl k) ?_
      show Go _ _ _ _ T229 (mkF m 117 #[.val (.int i0), .val (.int i1), .val (.int i2), .val (.ref ar), .val (.int (6 : Int32)), .val (.int ch)] [(.int ch), (.ref ad6)])
      obtain ⟨cq249, kq249, q249a, q249b, q249c⟩ := isOf hZ e229 (E6.ext O229.2)
      obtain ⟨_, _, ⟨T248, L248, k248, n248⟩, -, X248, ⟨Lc248, hQ248, l248, y248, z248⟩, st248⟩ := X229.virtualBack hx (y := (⟨"com/example/wayfaring_tree/wayfaringtree/grammar/CharClass", "contains", "(C)Z"⟩ : MethodName)) (z := (⟨"com/example/wayfaring_tree/wayfaringtree/grammar/CharClass", "contains", "(C)Z"⟩ : MethodName)) hown (mvT hZ (hw _ (List.mem_of_getElem? (i := 29) rfl))) (mvT hZ (hw _ (List.mem_of_getElem? (i := 30) rfl))) (notFace_of_selects (args := #[]) (mvT hZ (hw _ (List.mem_of_getElem? (i := 32) rfl)))) (mvT hZ (hw _ (List.mem_of_getElem? (i := 32) rfl))) (mvT hZ (hw _ (List.mem_of_getElem? (i := 31) rfl))) (by decide) (backOf (W := 0) (rm1 l Z a0 hw [] ad6 ch b6 k6 (25847113187328) (0) h229 n0 Z9 hch (F6.ext O229.2) (V6.ext O229.2)) hZ (hw _ (List.mem_of_getElem? (i := 33) rfl)) (hw _ (List.mem_of_getElem? (i := 3) rfl)) (by decide) (by decide)) q249a q249c (g := (mkF m 117 #[.val (.int i0), .val (.int i1), .val (.int i2), .val (.ref ar), .val (.int (6 : Int32)), .val (.int ch)] [(.int ch), (.ref ad6)])) rfl (by rw [hml]; rfl) (Steps.refl _) (argsL := [(.int ch)]) (rest := []) (lenOf pd__C_Z rfl) rfl (by show 2 * 0 + _ ≤ _; exact Nat.le_of_eq rfl) (hb hby at_117) (fun _ _ => ⟨rfl, e229, (by decide : 0 + 1 + 0 ≤ _), (by decide : 0 + 12 + 0 ≤ _)⟩)
      dsimp only [Pt.U, Pt.locs, Pt.cells, Pt.slots] at X248 l248 y248 z248 st248 hQ248
      subst l248 y248 z248
      obtain ⟨rfl, N248, e248⟩ := hQ248
      have NN248 := Fr.app N229 N248
      refine Go.call st248 ?_
      show Go _ _ _ _ T248 (mkF m 120 #[.val (.int i0), .val (.int i1), .val (.int i2), .val (.ref ar), .val (.int (6 : Int32)), .val (.int ch)] [(.int (contV (25847113187328) (0) ch))])
      refine Go.by (fun _ k => XS.iload X248.here hx rfl (hb hby at_120) rfl k) ?_
      show Go _ _ _ _ T248 (mkF m 122 #[.val (.int i0), .val (.int i1), .val (.int i2), .val (.ref ar), .val (.int (6 : Int32)), .val (.int ch)] [(.int (6 : Int32)), (.int (contV (25847113187328) (0) ch))])
      refine Go.by (fun _ k => XS.iload X248.here hx rfl (hb hby at_122) rfl k) ?_
      show Go _ _ _ _ T248 (mkF m 124 #[.val (.int i0), .val (.int i1), .val (.int i2), .val (.ref ar), .val (.int (6 : Int32)), .val (.int ch)] [(.int ch), (.int (6 : Int32)), (.int (contV (25847113187328) (0) ch))])
      obtain ⟨_, _, ⟨T250, L250, k250, n250⟩, -, X250, ⟨Lc250, hQ250, l250, y250, z250⟩, st250⟩ := Jvm.LawKit.callS X248 hx (y := (⟨"com/example/wayfaring_tree/wayfaringtree/grammar/CharClassContainsPinLaw", "ref", "(IC)Z"⟩ : MethodName)) hown (mvT hZ (hw _ (List.mem_of_getElem? (i := 36) rfl))) (mvT hZ (hw _ (List.mem_of_getElem? (i := 37) rfl))) (mvT hZ (hw _ (List.mem_of_getElem? (i := 38) rfl))) (mvT hZ (hw _ (List.mem_of_getElem? (i := 39) rfl))) (by decide) (backOf (W := 1) (rm2 l Z a0 hw [] (6 : Int32) ch h229 n0 Z9 ) hZ (hw _ (List.mem_of_getElem? (i := 39) rfl)) (hw _ (List.mem_of_getElem? (i := 38) rfl)) (by decide) (by decide)) (g := (mkF m 124 #[.val (.int i0), .val (.int i1), .val (.int i2), .val (.ref ar), .val (.int (6 : Int32)), .val (.int ch)] [(.int ch), (.int (6 : Int32)), (.int (contV (25847113187328) (0) ch))])) rfl (by rw [hml]; rfl) (argsL := [(.int (6 : Int32)), (.int ch)]) (rest := [(.int (contV (25847113187328) (0) ch))]) (lenOf pd__IC_Z rfl) rfl (by show 2 * 0 + _ ≤ _; exact Nat.le_of_eq rfl) (hb hby at_124) (fun _ _ => ⟨rfl, e248, (by decide : 0 + 1 + 0 + 0 ≤ _), (by decide : 0 + 12 + 0 + 0 ≤ _)⟩)
      dsimp only [Pt.U, Pt.locs, Pt.cells, Pt.slots] at X250 l250 y250 z250 st250 hQ250
      subst l250 y250 z250
      obtain ⟨rfl, N250, e250⟩ := hQ250
      have NN250 := Fr.app NN248 N250
      refine Go.by st250 ?_
      show Go _ _ _ _ T250 (mkF m 127 #[.val (.int i0), .val (.int i1), .val (.int i2), .val (.ref ar), .val (.int (6 : Int32)), .val (.int ch)] [(.int (refV (6 : Int32) ch)), (.int (contV (25847113187328) (0) ch))])
      refine Go.by (fun _ k => XS.icmpNo X250.here hx rfl (hb hby at_127) rfl (XT.ii_ne_f (law_6 ch hch)) k) ?_
      show Go _ _ _ _ T250 (mkF m 130 #[.val (.int i0), .val (.int i1), .val (.int i2), .val (.ref ar), .val (.int (6 : Int32)), .val (.int ch)] [])
      refine Go.by (fun _ k => XT.iconstV X250.here hx rfl (1 : Int32) (hb hby at_130) (by decide) k) ?_
      show Go _ _ _ _ T250 (mkF m 131 #[.val (.int i0), .val (.int i1), .val (.int i2), .val (.ref ar), .val (.int (6 : Int32)), .val (.int ch)] [(.int (1 : Int32))])
      refine Go.by (fun _ k => XS.goto X250.here hx rfl (pc0 := 131) (pc' := 135) rfl (hb hby at_131) (by decide) (by decide) k) ?_
      show Go _ _ _ _ T250 (mkF m 135 #[.val (.int i0), .val (.int i1), .val (.int i2), .val (.ref ar), .val (.int (6 : Int32)), .val (.int ch)] [(.int (1 : Int32))])
      exact Go.retZ X250 hx Bd.notSynchronized (t := .boolean) Bd.returns (by simp) (hb hby at_135) ⟨rfl, NN250⟩ (by decide) (by decide)
    | ⟨7, _⟩ =>
      show Go _ _ _ _ T229 (mkF m 109 #[.val (.int i0), .val (.int i1), .val (.int i2), .val (.ref ar), .val (.int (7 : Int32)), .unset] [(.int ch)])
      refine Go.by (fun _ k => XS.istore X229.here hx rfl (hb hby at_109) rfl (l' := #[.val (.int i0), .val (.int i1), .val (.int i2), .val (.ref ar), .val (.int (7 : Int32)), .val (.int ch)]) rfl k) ?_
      show Go _ _ _ _ T229 (mkF m 111 #[.val (.int i0), .val (.int i1), .val (.int i2), .val (.ref ar), .val (.int (7 : Int32)), .val (.int ch)] [])
      refine Go.by (fun _ k => XS.aloadN X229.here hx rfl (hb hby at_111) rfl rfl k) ?_
      show Go _ _ _ _ T229 (mkF m 112 #[.val (.int i0), .val (.int i1), .val (.int i2), .val (.ref ar), .val (.int (7 : Int32)), .val (.int ch)] [(.ref ar)])
      refine Go.by (fun _ k => XS.iload X229.here hx rfl (hb hby at_112) rfl k) ?_
      show Go _ _ _ _ T229 (mkF m 114 #[.val (.int i0), .val (.int i1), .val (.int i2), .val (.ref ar), .val (.int (7 : Int32)), .val (.int ch)] [(.int (7 : Int32)), (.ref ar)])
      refine Go.by (own_aaload X229 hx hZ e229 V229 rfl (j := (7 : Int32)) (by decide) (v := .ref ad7) rfl (g := (mkF m 114 #[.val (.int i0), .val (.int i1), .val (.int i2), .val (.ref ar), .val (.int (7 : Int32)), .val (.int ch)] [(.int (7 : Int32)), (.ref ar)])) rfl rfl (hb hby at_114)) ?_
      show Go _ _ _ _ T229 (mkF m 115 #[.val (.int i0), .val (.int i1), .val (.int i2), .val (.ref ar), .val (.int (7 : Int32)), .val (.int ch)] [(.ref ad7)])
      refine Go.by (fun _ k => XS.iload X229.here hx rfl (hb hby at_115) rfl k) ?_
      show Go _ _ _ _ T229 (mkF m 117 #[.val (.int i0), .val (.int i1), .val (.int i2), .val (.ref ar), .val (.int (7 : Int32)), .val (.int ch)] [(.int ch), (.ref ad7)])
      obtain ⟨cq252, kq252, q252a, q252b, q252c⟩ := isOf hZ e229 (E7.ext O229.2)
      obtain ⟨_, _, ⟨T251, L251, k251, n251⟩, -, X251, ⟨Lc251, hQ251, l251, y251, z251⟩, st251⟩ := X229.virtualBack hx (y := (⟨"com/example/wayfaring_tree/wayfaringtree/grammar/CharClass", "contains", "(C)Z"⟩ : MethodName)) (z := (⟨"com/example/wayfaring_tree/wayfaringtree/grammar/CharClass", "contains", "(C)Z"⟩ : MethodName)) hown (mvT hZ (hw _ (List.mem_of_getElem? (i := 29) rfl))) (mvT hZ (hw _ (List.mem_of_getElem? (i := 30) rfl))) (notFace_of_selects (args := #[]) (mvT hZ (hw _ (List.mem_of_getElem? (i := 32) rfl)))) (mvT hZ (hw _ (List.mem_of_getElem? (i := 32) rfl))) (mvT hZ (hw _ (List.mem_of_getElem? (i := 31) rfl))) (by decide) (backOf (W := 0) (rm1 l Z a0 hw [] ad7 ch b7 k7 (0) (8646911290859585536) h229 n0 Z9 hch (F7.ext O229.2) (V7.ext O229.2)) hZ (hw _ (List.mem_of_getElem? (i := 33) rfl)) (hw _ (List.mem_of_getElem? (i := 3) rfl)) (by decide) (by decide)) q252a q252c (g := (mkF m 117 #[.val (.int i0), .val (.int i1), .val (.int i2), .val (.ref ar), .val (.int (7 : Int32)), .val (.int ch)] [(.int ch), (.ref ad7)])) rfl (by rw [hml]; rfl) (Steps.refl _) (argsL := [(.int ch)]) (rest := []) (lenOf pd__C_Z rfl) rfl (by show 2 * 0 + _ ≤ _; exact Nat.le_of_eq rfl) (hb hby at_117) (fun _ _ => ⟨rfl, e229, (by decide : 0 + 1 + 0 ≤ _), (by decide : 0 + 12 + 0 ≤ _)⟩)
      dsimp only [Pt.U, Pt.locs, Pt.cells, Pt.slots] at X251 l251 y251 z251 st251 hQ251
      subst l251 y251 z251
      obtain ⟨rfl, N251, e251⟩ := hQ251
      have NN251 := Fr.app N229 N251
      refine Go.call st251 ?_
      show Go _ _ _ _ T251 (mkF m 120 #[.val (.int i0), .val (.int i1), .val (.int i2), .val (.ref ar), .val (.int (7 : Int32)), .val (.int ch)] [(.int (contV (0) (8646911290859585536) ch))])
      refine Go.by (fun _ k => XS.iload X251.here hx rfl (hb hby at_120) rfl k) ?_
      show Go _ _ _ _ T251 (mkF m 122 #[.val (.int i0), .val (.int i1), .val (.int i2), .val (.ref ar), .val (.int (7 : Int32)), .val (.int ch)] [(.int (7 : Int32)), (.int (contV (0) (8646911290859585536) ch))])
      refine Go.by (fun _ k => XS.iload X251.here hx rfl (hb hby at_122) rfl k) ?_
      show Go _ _ _ _ T251 (mkF m 124 #[.val (.int i0), .val (.int i1), .val (.int i2), .val (.ref ar), .val (.int (7 : Int32)), .val (.int ch)] [(.int ch), (.int (7 : Int32)), (.int (contV (0) (8646911290859585536) ch))])
      obtain ⟨_, _, ⟨T253, L253, k253, n253⟩, -, X253, ⟨Lc253, hQ253, l253, y253, z253⟩, st253⟩ := Jvm.LawKit.callS X251 hx (y := (⟨"com/example/wayfaring_tree/wayfaringtree/grammar/CharClassContainsPinLaw", "ref", "(IC)Z"⟩ : MethodName)) hown (mvT hZ (hw _ (List.mem_of_getElem? (i := 36) rfl))) (mvT hZ (hw _ (List.mem_of_getElem? (i := 37) rfl))) (mvT hZ (hw _ (List.mem_of_getElem? (i := 38) rfl))) (mvT hZ (hw _ (List.mem_of_getElem? (i := 39) rfl))) (by decide) (backOf (W := 1) (rm2 l Z a0 hw [] (7 : Int32) ch h229 n0 Z9 ) hZ (hw _ (List.mem_of_getElem? (i := 39) rfl)) (hw _ (List.mem_of_getElem? (i := 38) rfl)) (by decide) (by decide)) (g := (mkF m 124 #[.val (.int i0), .val (.int i1), .val (.int i2), .val (.ref ar), .val (.int (7 : Int32)), .val (.int ch)] [(.int ch), (.int (7 : Int32)), (.int (contV (0) (8646911290859585536) ch))])) rfl (by rw [hml]; rfl) (argsL := [(.int (7 : Int32)), (.int ch)]) (rest := [(.int (contV (0) (8646911290859585536) ch))]) (lenOf pd__IC_Z rfl) rfl (by show 2 * 0 + _ ≤ _; exact Nat.le_of_eq rfl) (hb hby at_124) (fun _ _ => ⟨rfl, e251, (by decide : 0 + 1 + 0 + 0 ≤ _), (by decide : 0 + 12 + 0 + 0 ≤ _)⟩)
      dsimp only [Pt.U, Pt.locs, Pt.cells, Pt.slots] at X253 l253 y253 z253 st253 hQ253
      subst l253 y253 z253
      obtain ⟨rfl, N253, e253⟩ := hQ253
      have NN253 := Fr.app NN251 N253
      refine Go.by st253 ?_
      show Go _ _ _ _ T253 (mkF m 127 #[.val (.int i0), .val (.int i1), .val (.int i2), .val (.ref ar), .val (.int (7 : Int32)), .val (.int ch)] [(.int (refV (7 : Int32) ch)), (.int (contV (0) (8646911290859585536) ch))])
      refine Go.by (fun _ k => XS.icmpNo X253.here hx rfl (hb hby at_127) rfl (XT.ii_ne_f (law_7 ch hch)) k) ?_
      show Go _ _ _ _ T253 (mkF m 130 #[.val (.int i0), .val (.int i1), .val (.int i2), .val (.ref ar), .val (.int (7 : Int32)), .val (.int ch)] [])
      refine Go.by (fun _ k => XT.iconstV X253.here hx rfl (1 : Int32) (hb hby at_130) (by decide) k) ?_
      show Go _ _ _ _ T253 (mkF m 131 #[.val (.int i0), .val (.int i1), .val (.int i2), .val (.ref ar), .val (.int (7 : Int32)), .val (.int ch)] [(.int (1 : Int32))])
      refine Go.by (fun _ k => XS.goto X253.here hx rfl (pc0 := 131) (pc' := 135) rfl (hb hby at_131) (by decide) (by decide) k) ?_
      show Go _ _ _ _ T253 (mkF m 135 #[.val (.int i0), .val (.int i1), .val (.int i2), .val (.ref ar), .val (.int (7 : Int32)), .val (.int ch)] [(.int (1 : Int32))])
      exact Go.retZ X253 hx Bd.notSynchronized (t := .boolean) Bd.returns (by simp) (hb hby at_135) ⟨rfl, NN253⟩ (by decide) (by decide)
    | ⟨8, _⟩ =>
      show Go _ _ _ _ T229 (mkF m 109 #[.val (.int i0), .val (.int i1), .val (.int i2), .val (.ref ar), .val (.int (8 : Int32)), .unset] [(.int ch)])
      refine Go.by (fun _ k => XS.istore X229.here hx rfl (hb hby at_109) rfl (l' := #[.val (.int i0), .val (.int i1), .val (.int i2), .val (.ref ar), .val (.int (8 : Int32)), .val (.int ch)]) rfl k) ?_
      show Go _ _ _ _ T229 (mkF m 111 #[.val (.int i0), .val (.int i1), .val (.int i2), .val (.ref ar), .val (.int (8 : Int32)), .val (.int ch)] [])
      refine Go.by (fun _ k => XS.aloadN X229.here hx rfl (hb hby at_111) rfl rfl k) ?_
      show Go _ _ _ _ T229 (mkF m 112 #[.val (.int i0), .val (.int i1), .val (.int i2), .val (.ref ar), .val (.int (8 : Int32)), .val (.int ch)] [(.ref ar)])
      refine Go.by (fun _ k => XS.iload X229.here hx rfl (hb hby at_112) rfl k) ?_
      show Go _ _ _ _ T229 (mkF m 114 #[.val (.int i0), .val (.int i1), .val (.int i2), .val (.ref ar), .val (.int (8 : Int32)), .val (.int ch)] [(.int (8 : Int32)), (.ref ar)])
      refine Go.by (own_aaload X229 hx hZ e229 V229 rfl (j := (8 : Int32)) (by decide) (v := .ref ad8) rfl (g := (mkF m 114 #[.val (.int i0), .val (.int i1), .val (.int i2), .val (.ref ar), .val (.int (8 : Int32)), .val (.int ch)] [(.int (8 : Int32)), (.ref ar)])) rfl rfl (hb hby at_114)) ?_
      show Go _ _ _ _ T229 (mkF m 115 #[.val (.int i0), .val (.int i1), .val (.int i2), .val (.ref ar), .val (.int (8 : Int32)), .val (.int ch)] [(.ref ad8)])
      refine Go.by (fun _ k => XS.iload X229.here hx rfl (hb hby at_115) rfl k) ?_
      show Go _ _ _ _ T229 (mkF m 117 #[.val (.int i0), .val (.int i1), .val (.int i2), .val (.ref ar), .val (.int (8 : Int32)), .val (.int ch)] [(.int ch), (.ref ad8)])
      obtain ⟨cq255, kq255, q255a, q255b, q255c⟩ := isOf hZ e229 (E8.ext O229.2)
      obtain ⟨_, _, ⟨T254, L254, k254, n254⟩, -, X254, ⟨Lc254, hQ254, l254, y254, z254⟩, st254⟩ := X229.virtualBack hx (y := (⟨"com/example/wayfaring_tree/wayfaringtree/grammar/CharClass", "contains", "(C)Z"⟩ : MethodName)) (z := (⟨"com/example/wayfaring_tree/wayfaringtree/grammar/CharClass", "contains", "(C)Z"⟩ : MethodName)) hown (mvT hZ (hw _ (List.mem_of_getElem? (i := 29) rfl))) (mvT hZ (hw _ (List.mem_of_getElem? (i := 30) rfl))) (notFace_of_selects (args := #[]) (mvT hZ (hw _ (List.mem_of_getElem? (i := 32) rfl)))) (mvT hZ (hw _ (List.mem_of_getElem? (i := 32) rfl))) (mvT hZ (hw _ (List.mem_of_getElem? (i := 31) rfl))) (by decide) (backOf (W := 0) (rm1 l Z a0 hw [] ad8 ch b8 k8 (5764607712012795904) (0) h229 n0 Z9 hch (F8.ext O229.2) (V8.ext O229.2)) hZ (hw _ (List.mem_of_getElem? (i := 33) rfl)) (hw _ (List.mem_of_getElem? (i := 3) rfl)) (by decide) (by decide)) q255a q255c (g := (mkF m 117 #[.val (.int i0), .val (.int i1), .val (.int i2), .val (.ref ar), .val (.int (8 : Int32)), .val (.int ch)] [(.int ch), (.ref ad8)])) rfl (by rw [hml]; rfl) (Steps.refl _) (argsL := [(.int ch)]) (rest := []) (lenOf pd__C_Z rfl) rfl (by show 2 * 0 + _ ≤ _; exact Nat.le_of_eq rfl) (hb hby at_117) (fun _ _ => ⟨rfl, e229, (by decide : 0 + 1 + 0 ≤ _), (by decide : 0 + 12 + 0 ≤ _)⟩)
      dsimp only [Pt.U, Pt.locs, Pt.cells, Pt.slots] at X254 l254 y254 z254 st254 hQ254
      subst l254 y254 z254
      obtain ⟨rfl, N254, e254⟩ := hQ254
      have NN254 := Fr.app N229 N254
      refine Go.call st254 ?_
      show Go _ _ _ _ T254 (mkF m 120 #[.val (.int i0), .val (.int i1), .val (.int i2), .val (.ref ar), .val (.int (8 : Int32)), .val (.int ch)] [(.int (contV (5764607712012795904) (0) ch))])
      refine Go.by (fun _ k => XS.iload X254.here hx rfl (hb hby at_120) rfl k) ?_
      show Go _ _ _ _ T254 (mkF m 122 #[.val (.int i0), .val (.int i1), .val (.int i2), .val (.ref ar), .val (.int (8 : Int32)), .val (.int ch)] [(.int (8 : Int32)), (.int (contV (5764607712012795904) (0) ch))])
      refine Go.by (fun _ k => XS.iload X254.here hx rfl (hb hby at_122) rfl k) ?_
      show Go _ _ _ _ T254 (mkF m 124 #[.val (.int i0), .val (.int i1), .val (.int i2), .val (.ref ar), .val (.int (8 : Int32)), .val (.int ch)] [(.int ch), (.int (8 : Int32)), (.int (contV (5764607712012795904) (0) ch))])
      obtain ⟨_, _, ⟨T256, L256, k256, n256⟩, -, X256, ⟨Lc256, hQ256, l256, y256, z256⟩, st256⟩ := Jvm.LawKit.callS X254 hx (y := (⟨"com/example/wayfaring_tree/wayfaringtree/grammar/CharClassContainsPinLaw", "ref", "(IC)Z"⟩ : MethodName)) hown (mvT hZ (hw _ (List.mem_of_getElem? (i := 36) rfl))) (mvT hZ (hw _ (List.mem_of_getElem? (i := 37) rfl))) (mvT hZ (hw _ (List.mem_of_getElem? (i := 38) rfl))) (mvT hZ (hw _ (List.mem_of_getElem? (i := 39) rfl))) (by decide) (backOf (W := 1) (rm2 l Z a0 hw [] (8 : Int32) ch h229 n0 Z9 ) hZ (hw _ (List.mem_of_getElem? (i := 39) rfl)) (hw _ (List.mem_of_getElem? (i := 38) rfl)) (by decide) (by decide)) (g := (mkF m 124 #[.val (.int i0), .val (.int i1), .val (.int i2), .val (.ref ar), .val (.int (8 : Int32)), .val (.int ch)] [(.int ch), (.int (8 : Int32)), (.int (contV (5764607712012795904) (0) ch))])) rfl (by rw [hml]; rfl) (argsL := [(.int (8 : Int32)), (.int ch)]) (rest := [(.int (contV (5764607712012795904) (0) ch))]) (lenOf pd__IC_Z rfl) rfl (by show 2 * 0 + _ ≤ _; exact Nat.le_of_eq rfl) (hb hby at_124) (fun _ _ => ⟨rfl, e254, (by decide : 0 + 1 + 0 + 0 ≤ _), (by decide : 0 + 12 + 0 + 0 ≤ _)⟩)
      dsimp only [Pt.U, Pt.locs, Pt.cells, Pt.slots] at X256 l256 y256 z256 st256 hQ256
      subst l256 y256 z256
      obtain ⟨rfl, N256, e256⟩ := hQ256
      have NN256 := Fr.app NN254 N256
      refine Go.by st256 ?_
      show Go _ _ _ _ T256 (mkF m 127 #[.val (.int i0), .val (.int i1), .val (.int i2), .val (.ref ar), .val (.int (8 : Int32)), .val (.int ch)] [(.int (refV (8 : Int32) ch)), (.int (contV (5764607712012795904) (0) ch))])
      refine Go.by (fun _ k => XS.icmpNo X256.here hx rfl (hb hby at_127) rfl (XT.ii_ne_f (law_8 ch hch)) k) ?_
      show Go _ _ _ _ T256 (mkF m 130 #[.val (.int i0), .val (.int i1), .val (.int i2), .val (.ref ar), .val (.int (8 : Int32)), .val (.int ch)] [])
      refine Go.by (fun _ k => XT.iconstV X256.here hx rfl (1 : Int32) (hb hby at_130) (by decide) k) ?_
      show Go _ _ _ _ T256 (mkF m 131 #[.val (.int i0), .val (.int i1), .val (.int i2), .val (.ref ar), .val (.int (8 : Int32)), .val (.int ch)] [(.int (1 : Int32))])
      refine Go.by (fun _ k => XS.goto X256.here hx rfl (pc0 := 131) (pc' := 135) rfl (hb hby at_131) (by decide) (by decide) k) ?_
      show Go _ _ _ _ T256 (mkF m 135 #[.val (.int i0), .val (.int i1), .val (.int i2), .val (.ref ar), .val (.int (8 : Int32)), .val (.int ch)] [(.int (1 : Int32))])
      exact Go.retZ X256 hx Bd.notSynchronized (t := .boolean) Bd.returns (by simp) (hb hby at_135) ⟨rfl, NN256⟩ (by decide) (by decide)
    | ⟨9, _⟩ =>
      show Go _ _ _ _ T229 (mkF m 109 #[.val (.int i0), .val (.int i1), .val (.int i2), .val (.ref ar), .val (.int (9 : Int32)), .unset] [(.int ch)])
      refine Go.by (fun _ k => XS.istore X229.here hx rfl (hb hby at_109) rfl (l' := #[.val (.int i0), .val (.int i1), .val (.int i2), .val (.ref ar), .val (.int (9 : Int32)), .val (.int ch)]) rfl k) ?_
      show Go _ _ _ _ T229 (mkF m 111 #[.val (.int i0), .val (.int i1), .val (.int i2), .val (.ref ar), .val (.int (9 : Int32)), .val (.int ch)] [])
      refine Go.by (fun _ k => XS.aloadN X229.here hx rfl (hb hby at_111) rfl rfl k) ?_
      show Go _ _ _ _ T229 (mkF m 112 #[.val (.int i0), .val (.int i1), .val (.int i2), .val (.ref ar), .val (.int (9 : Int32)), .val (.int ch)] [(.ref ar)])
      refine Go.by (fun _ k => XS.iload X229.here hx rfl (hb hby at_112) rfl k) ?_
      show Go _ _ _ _ T229 (mkF m 114 #[.val (.int i0), .val (.int i1), .val (.int i2), .val (.ref ar), .val (.int (9 : Int32)), .val (.int ch)] [(.int (9 : Int32)), (.ref ar)])
      refine Go.by (own_aaload X229 hx hZ e229 V229 rfl (j := (9 : Int32)) (by decide) (v := .ref ad9) rfl (g := (mkF m 114 #[.val (.int i0), .val (.int i1), .val (.int i2), .val (.ref ar), .val (.int (9 : Int32)), .val (.int ch)] [(.int (9 : Int32)), (.ref ar)])) rfl rfl (hb hby at_114)) ?_
      show Go _ _ _ _ T229 (mkF m 115 #[.val (.int i0), .val (.int i1), .val (.int i2), .val (.ref ar), .val (.int (9 : Int32)), .val (.int ch)] [(.ref ad9)])
      refine Go.by (fun _ k => XS.iload X229.here hx rfl (hb hby at_115) rfl k) ?_
      show Go _ _ _ _ T229 (mkF m 117 #[.val (.int i0), .val (.int i1), .val (.int i2), .val (.ref ar), .val (.int (9 : Int32)), .val (.int ch)] [(.int ch), (.ref ad9)])
      obtain ⟨cq258, kq258, q258a, q258b, q258c⟩ := isOf hZ e229 (E9.ext O229.2)
      obtain ⟨_, _, ⟨T257, L257, k257, n257⟩, -, X257, ⟨Lc257, hQ257, l257, y257, z257⟩, st257⟩ := X229.virtualBack hx (y := (⟨"com/example/wayfaring_tree/wayfaringtree/grammar/CharClass", "contains", "(C)Z"⟩ : MethodName)) (z := (⟨"com/example/wayfaring_tree/wayfaringtree/grammar/CharClass", "contains", "(C)Z"⟩ : MethodName)) hown (mvT hZ (hw _ (List.mem_of_getElem? (i := 29) rfl))) (mvT hZ (hw _ (List.mem_of_getElem? (i := 30) rfl))) (notFace_of_selects (args := #[]) (mvT hZ (hw _ (List.mem_of_getElem? (i := 32) rfl)))) (mvT hZ (hw _ (List.mem_of_getElem? (i := 32) rfl))) (mvT hZ (hw _ (List.mem_of_getElem? (i := 31) rfl))) (by decide) (backOf (W := 0) (rm1 l Z a0 hw [] ad9 ch b9 k9 (-6052696886819684352) (1) h229 n0 Z9 hch (F9.ext O229.2) (V9.ext O229.2)) hZ (hw _ (List.mem_of_getElem? (i := 33) rfl)) (hw _ (List.mem_of_getElem? (i := 3) rfl)) (by decide) (by decide)) q258a q258c (g := (mkF m 117 #[.val (.int i0), .val (.int i1), .val (.int i2), .val (.ref ar), .val (.int (9 : Int32)), .val (.int ch)] [(.int ch), (.ref ad9)])) rfl (by rw [hml]; rfl) (Steps.refl _) (argsL := [(.int ch)]) (rest := []) (lenOf pd__C_Z rfl) rfl (by show 2 * 0 + _ ≤ _; exact Nat.le_of_eq rfl) (hb hby at_117) (fun _ _ => ⟨rfl, e229, (by decide : 0 + 1 + 0 ≤ _), (by decide : 0 + 12 + 0 ≤ _)⟩)
      dsimp only [Pt.U, Pt.locs, Pt.cells, Pt.slots] at X257 l257 y257 z257 st257 hQ257
      subst l257 y257 z257
      obtain ⟨rfl, N257, e257⟩ := hQ257
      have NN257 := Fr.app N229 N257
      refine Go.call st257 ?_
      show Go _ _ _ _ T257 (mkF m 120 #[.val (.int i0), .val (.int i1), .val (.int i2), .val (.ref ar), .val (.int (9 : Int32)), .val (.int ch)] [(.int (contV (-6052696886819684352) (1) ch))])
      refine Go.by (fun _ k => XS.iload X257.here hx rfl (hb hby at_120) rfl k) ?_
      show Go _ _ _ _ T257 (mkF m 122 #[.val (.int i0), .val (.int i1), .val (.int i2), .val (.ref ar), .val (.int (9 : Int32)), .val (.int ch)] [(.int (9 : Int32)), (.int (contV (-6052696886819684352) (1) ch))])
      refine Go.by (fun _ k => XS.iload X257.here hx rfl (hb hby at_122) rfl k) ?_
      show Go _ _ _ _ T257 (mkF m 124 #[.val (.int i0), .val (.int i1), .val (.int i2), .val (.ref ar), .val (.int (9 : Int32)), .val (.int ch)] [(.int ch), (.int (9 : Int32)), (.int (contV (-6052696886819684352) (1) ch))])
      obtain ⟨_, _, ⟨T259, L259, k259, n259⟩, -, X259, ⟨Lc259, hQ259, l259, y259, z259⟩, st259⟩ := Jvm.LawKit.callS X257 hx (y := (⟨"com/example/wayfaring_tree/wayfaringtree/grammar/CharClassContainsPinLaw", "ref", "(IC)Z"⟩ : MethodName)) hown (mvT hZ (hw _ (List.mem_of_getElem? (i := 36) rfl))) (mvT hZ (hw _ (List.mem_of_getElem? (i := 37) rfl))) (mvT hZ (hw _ (List.mem_of_getElem? (i := 38) rfl))) (mvT hZ (hw _ (List.mem_of_getElem? (i := 39) rfl))) (by decide) (backOf (W := 1) (rm2 l Z a0 hw [] (9 : Int32) ch h229 n0 Z9 ) hZ (hw _ (List.mem_of_getElem? (i := 39) rfl)) (hw _ (List.mem_of_getElem? (i := 38) rfl)) (by decide) (by decide)) (g := (mkF m 124 #[.val (.int i0), .val (.int i1), .val (.int i2), .val (.ref ar), .val (.int (9 : Int32)), .val (.int ch)] [(.int ch), (.int (9 : Int32)), (.int (contV (-6052696886819684352) (1) ch))])) rfl (by rw [hml]; rfl) (argsL := [(.int (9 : Int32)), (.int ch)]) (rest := [(.int (contV (-6052696886819684352) (1) ch))]) (lenOf pd__IC_Z rfl) rfl (by show 2 * 0 + _ ≤ _; exact Nat.le_of_eq rfl) (hb hby at_124) (fun _ _ => ⟨rfl, e257, (by decide : 0 + 1 + 0 + 0 ≤ _), (by decide : 0 + 12 + 0 + 0 ≤ _)⟩)
      dsimp only [Pt.U, Pt.locs, Pt.cells, Pt.slots] at X259 l259 y259 z259 st259 hQ259
      subst l259 y259 z259
      obtain ⟨rfl, N259, e259⟩ := hQ259
      have NN259 := Fr.app NN257 N259
      refine Go.by st259 ?_
      show Go _ _ _ _ T259 (mkF m 127 #[.val (.int i0), .val (.int i1), .val (.int i2), .val (.ref ar), .val (.int (9 : Int32)), .val (.int ch)] [(.int (refV (9 : Int32) ch)), (.int (contV (-6052696886819684352) (1) ch))])
      refine Go.by (fun _ k => XS.icmpNo X259.here hx rfl (hb hby at_127) rfl (XT.ii_ne_f (law_9 ch hch)) k) ?_
      show Go _ _ _ _ T259 (mkF m 130 #[.val (.int i0), .val (.int i1), .val (.int i2), .val (.ref ar), .val (.int (9 : Int32)), .val (.int ch)] [])
      refine Go.by (fun _ k => XT.iconstV X259.here hx rfl (1 : Int32) (hb hby at_130) (by decide) k) ?_
      show Go _ _ _ _ T259 (mkF m 131 #[.val (.int i0), .val (.int i1), .val (.int i2), .val (.ref ar), .val (.int (9 : Int32)), .val (.int ch)] [(.int (1 : Int32))])
      refine Go.by (fun _ k => XS.goto X259.here hx rfl (pc0 := 131) (pc' := 135) rfl (hb hby at_131) (by decide) (by decide) k) ?_
      show Go _ _ _ _ T259 (mkF m 135 #[.val (.int i0), .val (.int i1), .val (.int i2), .val (.ref ar), .val (.int (9 : Int32)), .val (.int ch)] [(.int (1 : Int32))])
      exact Go.retZ X259 hx Bd.notSynchronized (t := .boolean) Bd.returns (by simp) (hb hby at_135) ⟨rfl, NN259⟩ (by decide) (by decide)
    | ⟨10, _⟩ =>
      show Go _ _ _ _ T229 (mkF m 109 #[.val (.int i0), .val (.int i1), .val (.int i2), .val (.ref ar), .val (.int (10 : Int32)), .unset] [(.int ch)])
      refine Go.by (fun _ k => XS.istore X229.here hx rfl (hb hby at_109) rfl (l' := #[.val (.int i0), .val (.int i1), .val (.int i2), .val (.ref ar), .val (.int (10 : Int32)), .val (.int ch)]) rfl k) ?_
      show Go _ _ _ _ T229 (mkF m 111 #[.val (.int i0), .val (.int i1), .val (.int i2), .val (.ref ar), .val (.int (10 : Int32)), .val (.int ch)] [])
      refine Go.by (fun _ k => XS.aloadN X229.here hx rfl (hb hby at_111) rfl rfl k) ?_
      show Go _ _ _ _ T229 (mkF m 112 #[.val (.int i0), .val (.int i1), .val (.int i2), .val (.ref ar), .val (.int (10 : Int32)), .val (.int ch)] [(.ref ar)])
      refine Go.by (fun _ k => XS.iload X229.here hx rfl (hb hby at_112) rfl k) ?_
      show Go _ _ _ _ T229 (mkF m 114 #[.val (.int i0), .val (.int i1), .val (.int i2), .val (.ref ar), .val (.int (10 : Int32)), .val (.int ch)] [(.int (10 : Int32)), (.ref ar)])
      refine Go.by (own_aaload X229 hx hZ e229 V229 rfl (j := (10 : Int32)) (by decide) (v := .ref ad10) rfl (g := (mkF m 114 #[.val (.int i0), .val (.int i1), .val (.int i2), .val (.ref ar), .val (.int (10 : Int32)), .val (.int ch)] [(.int (10 : Int32)), (.ref ar)])) rfl rfl (hb hby at_114)) ?_
      show Go _ _ _ _ T229 (mkF m 115 #[.val (.int i0), .val (.int i1), .val (.int i2), .val (.ref ar), .val (.int (10 : Int32)), .val (.int ch)] [(.ref ad10)])
      refine Go.by (fun _ k => XS.iload X229.here hx rfl (hb hby at_115) rfl k) ?_
      show Go _ _ _ _ T229 (mkF m 117 #[.val (.int i0), .val (.int i1), .val (.int i2), .val (.ref ar), .val (.int (10 : Int32)), .val (.int ch)] [(.int ch), (.ref ad10)])
      obtain ⟨cq261, kq261, q261a, q261b, q261c⟩ := isOf hZ e229 (E10.ext O229.2)
      obtain ⟨_, _, ⟨T260, L260, k260, n260⟩, -, X260, ⟨Lc260, hQ260, l260, y260, z260⟩, st260⟩ := X229.virtualBack hx (y := (⟨"com/example/wayfaring_tree/wayfaringtree/grammar/CharClass", "contains", "(C)Z"⟩ : MethodName)) (z := (⟨"com/example/wayfaring_tree/wayfaringtree/grammar/CharClass", "contains", "(C)Z"⟩ : MethodName)) hown (mvT hZ (hw _ (List.mem_of_getElem? (i := 29) rfl))) (mvT hZ (hw _ (List.mem_of_getElem? (i := 30) rfl))) (notFace_of_selects (args := #[]) (mvT hZ (hw _ (List.mem_of_getElem? (i := 32) rfl)))) (mvT hZ (hw _ (List.mem_of_getElem? (i := 32) rfl))) (mvT hZ (hw _ (List.mem_of_getElem? (i := 31) rfl))) (by decide) (backOf (W := 0) (rm1 l Z a0 hw [] ad10 ch b10 k10 (287948901175001088) (541165879422) h229 n0 Z9 hch (F10.ext O229.2) (V10.ext O229.2)) hZ (hw _ (List.mem_of_getElem? (i := 33) rfl)) (hw _ (List.mem_of_getElem? (i := 3) rfl)) (by decide) (by decide)) q261a q261c (g := (mkF m 117 #[.val (.int i0), .val (.int i1), .val (.int i2), .val (.ref ar), .val (.int (10 : Int32)), .val (.int ch)] [(.int ch), (.ref ad10)])) rfl (by rw [hml]; rfl) (Steps.refl _) (argsL := [(.int ch)]) (rest := []) (lenOf pd__C_Z rfl) rfl (by show 2 * 0 + _ ≤ _; exact Nat.le_of_eq rfl) (hb hby at_117) (fun _ _ => ⟨rfl, e229, (by decide : 0 + 1 + 0 ≤ _), (by decide : 0 + 12 + 0 ≤ _)⟩)
      dsimp only [Pt.U, Pt.locs, Pt.cells, Pt.slots] at X260 l260 y260 z260 st260 hQ260
      subst l260 y260 z260
      obtain ⟨rfl, N260, e260⟩ := hQ260
      have NN260 := Fr.app N229 N260
      refine Go.call st260 ?_
      show Go _ _ _ _ T260 (mkF m 120 #[.val (.int i0), .val (.int i1), .val (.int i2), .val (.ref ar), .val (.int (10 : Int32)), .val (.int ch)] [(.int (contV (287948901175001088) (541165879422) ch))])
      refine Go.by (fun _ k => XS.iload X260.here hx rfl (hb hby at_120) rfl k) ?_
      show Go _ _ _ _ T260 (mkF m 122 #[.val (.int i0), .val (.int i1), .val (.int i2), .val (.ref ar), .val (.int (10 : Int32)), .val (.int ch)] [(.int (10 : Int32)), (.int (contV (287948901175001088) (541165879422) ch))])
      refine Go.by (fun _ k => XS.iload X260.here hx rfl (hb hby at_122) rfl k) ?_
      show Go _ _ _ _ T260 (mkF m 124 #[.val (.int i0), .val (.int i1), .val (.int i2), .val (.ref ar), .val (.int (10 : Int32)), .val (.int ch)] [(.int ch), (.int (10 : Int32)), (.int (contV (287948901175001088) (541165879422) ch))])
      obtain ⟨_, _, ⟨T262, L262, k262, n262⟩, -, X262, ⟨Lc262, hQ262, l262, y262, z262⟩, st262⟩ := Jvm.LawKit.callS X260 hx (y := (⟨"com/example/wayfaring_tree/wayfaringtree/grammar/CharClassContainsPinLaw", "ref", "(IC)Z"⟩ : MethodName)) hown (mvT hZ (hw _ (List.mem_of_getElem? (i := 36) rfl))) (mvT hZ (hw _ (List.mem_of_getElem? (i := 37) rfl))) (mvT hZ (hw _ (List.mem_of_getElem? (i := 38) rfl))) (mvT hZ (hw _ (List.mem_of_getElem? (i := 39) rfl))) (by decide) (backOf (W := 1) (rm2 l Z a0 hw [] (10 : Int32) ch h229 n0 Z9 ) hZ (hw _ (List.mem_of_getElem? (i := 39) rfl)) (hw _ (List.mem_of_getElem? (i := 38) rfl)) (by decide) (by decide)) (g := (mkF m 124 #[.val (.int i0), .val (.int i1), .val (.int i2), .val (.ref ar), .val (.int (10 : Int32)), .val (.int ch)] [(.int ch), (.int (10 : Int32)), (.int (contV (287948901175001088) (541165879422) ch))])) rfl (by rw [hml]; rfl) (argsL := [(.int (10 : Int32)), (.int ch)]) (rest := [(.int (contV (287948901175001088) (541165879422) ch))]) (lenOf pd__IC_Z rfl) rfl (by show 2 * 0 + _ ≤ _; exact Nat.le_of_eq rfl) (hb hby at_124) (fun _ _ => ⟨rfl, e260, (by decide : 0 + 1 + 0 + 0 ≤ _), (by decide : 0 + 12 + 0 + 0 ≤ _)⟩)
      dsimp only [Pt.U, Pt.locs, Pt.cells, Pt.slots] at X262 l262 y262 z262 st262 hQ262
      subst l262 y262 z262
      obtain ⟨rfl, N262, e262⟩ := hQ262
      have NN262 := Fr.app NN260 N262
      refine Go.by st262 ?_
      show Go _ _ _ _ T262 (mkF m 127 #[.val (.int i0), .val (.int i1), .val (.int i2), .val (.ref ar), .val (.int (10 : Int32)), .val (.int ch)] [(.int (refV (10 : Int32) ch)), (.int (contV (287948901175001088) (541165879422) ch))])
      refine Go.by (fun _ k => XS.icmpNo X262.here hx rfl (hb hby at_127) rfl (XT.ii_ne_f (law_10 ch hch)) k) ?_
      show Go _ _ _ _ T262 (mkF m 130 #[.val (.int i0), .val (.int i1), .val (.int i2), .val (.ref ar), .val (.int (10 : Int32)), .val (.int ch)] [])
      refine Go.by (fun _ k => XT.iconstV X262.here hx rfl (1 : Int32) (hb hby at_130) (by decide) k) ?_
      show Go _ _ _ _ T262 (mkF m 131 #[.val (.int i0), .val (.int i1), .val (.int i2), .val (.ref ar), .val (.int (10 : Int32)), .val (.int ch)] [(.int (1 : Int32))])
      refine Go.by (fun _ k => XS.goto X262.here hx rfl (pc0 := 131) (pc' := 135) rfl (hb hby at_131) (by decide) (by decide) k) ?_
      show Go _ _ _ _ T262 (mkF m 135 #[.val (.int i0), .val (.int i1), .val (.int i2), .val (.ref ar), .val (.int (10 : Int32)), .val (.int ch)] [(.int (1 : Int32))])
      exact Go.retZ X262 hx Bd.notSynchronized (t := .boolean) Bd.returns (by simp) (hb hby at_135) ⟨rfl, NN262⟩ (by decide) (by decide)
    | ⟨11, _⟩ =>
      show Go _ _ _ _ T229 (mkF m 109 #[.val (.int i0), .val (.int i1), .val (.int i2), .val (.ref ar), .val (.int (11 : Int32)), .unset] [(.int ch)])
      refine Go.by (fun _ k => XS.istore X229.here hx rfl (hb hby at_109) rfl (l' := #[.val (.int i0), .val (.int i1), .val (.int i2), .val (.ref ar), .val (.int (11 : Int32)), .val (.int ch)]) rfl k) ?_
      show Go _ _ _ _ T229 (mkF m 111 #[.val (.int i0), .val (.int i1), .val (.int i2), .val (.ref ar), .val (.int (11 : Int32)), .val (.int ch)] [])
      refine Go.by (fun _ k => XS.aloadN X229.here hx rfl (hb hby at_111) rfl rfl k) ?_
      show Go _ _ _ _ T229 (mkF m 112 #[.val (.int i0), .val (.int i1), .val (.int i2), .val (.ref ar), .val (.int (11 : Int32)), .val (.int ch)] [(.ref ar)])
      refine Go.by (fun _ k => XS.iload X229.here hx rfl (hb hby at_112) rfl k) ?_
      show Go _ _ _ _ T229 (mkF m 114 #[.val (.int i0), .val (.int i1), .val (.int i2), .val (.ref ar), .val (.int (11 : Int32)), .val (.int ch)] [(.int (11 : Int32)), (.ref ar)])
      refine Go.by (own_aaload X229 hx hZ e229 V229 rfl (j := (11 : Int32)) (by decide) (v := .ref ad11) rfl (g := (mkF m 114 #[.val (.int i0), .val (.int i1), .val (.int i2), .val (.ref ar), .val (.int (11 : Int32)), .val (.int ch)] [(.int (11 : Int32)), (.ref ar)])) rfl rfl (hb hby at_114)) ?_
      show Go _ _ _ _ T229 (mkF m 115 #[.val (.int i0), .val (.int i1), .val (.int i2), .val (.ref ar), .val (.int (11 : Int32)), .val (.int ch)] [(.ref ad11)])
      refine Go.by (fun _ k => XS.iload X229.here hx rfl (hb hby at_115) rfl k) ?_
      show Go _ _ _ _ T229 (mkF m 117 #[.val (.int i0), .val (.int i1), .val (.int i2), .val (.ref ar), .val (.int (11 : Int32)), .val (.int ch)] [(.int ch), (.ref ad11)])
      obtain ⟨cq264, kq264, q264a, q264b, q264c⟩ := isOf hZ e229 (E11.ext O229.2)
      obtain ⟨_, _, ⟨T263, L263, k263, n263⟩, -, X263, ⟨Lc263, hQ263, l263, y263, z263⟩, st263⟩ := X229.virtualBack hx (y := (⟨"com/example/wayfaring_tree/wayfaringtree/grammar/CharClass", "contains", "(C)Z"⟩ : MethodName)) (z := (⟨"com/example/wayfaring_tree/wayfaringtree/grammar/CharClass", "contains", "(C)Z"⟩ : MethodName)) hown (mvT hZ (hw _ (List.mem_of_getElem? (i := 29) rfl))) (mvT hZ (hw _ (List.mem_of_getElem? (i := 30) rfl))) (notFace_of_selects (args := #[]) (mvT hZ (hw _ (List.mem_of_getElem? (i := 32) rfl)))) (mvT hZ (hw _ (List.mem_of_getElem? (i := 32) rfl))) (mvT hZ (hw _ (List.mem_of_getElem? (i := 31) rfl))) (by decide) (backOf (W := 0) (rm1 l Z a0 hw [] ad11 ch b11 k11 (288089166216953856) (576460745995190270) h229 n0 Z9 hch (F11.ext O229.2) (V11.ext O229.2)) hZ (hw _ (List.mem_of_getElem? (i := 33) rfl)) (hw _ (List.mem_of_getElem? (i := 3) rfl)) (by decide) (by decide)) q264a q264c (g := (mkF m 117 #[.val (.int i0), .val (.int i1), .val (.int i2), .val (.ref ar), .val (.int (11 : Int32)), .val (.int ch)] [(.int ch), (.ref ad11)])) rfl (by rw [hml]; rfl) (Steps.refl _) (argsL := [(.int ch)]) (rest := []) (lenOf pd__C_Z rfl) rfl (by show 2 * 0 + _ ≤ _; exact Nat.le_of_eq rfl) (hb hby at_117) (fun _ _ => ⟨rfl, e229, (by decide : 0 + 1 + 0 ≤ _), (by decide : 0 + 12 + 0 ≤ _)⟩)
      dsimp only [Pt.U, Pt.locs, Pt.cells, Pt.slots] at X263 l263 y263 z263 st263 hQ263
      subst l263 y263 z263
      obtain ⟨rfl, N263, e263⟩ := hQ263
      have NN263 := Fr.app N229 N263
      refine Go.call st263 ?_
      show Go _ _ _ _ T263 (mkF m 120 #[.val (.int i0), .val (.int i1), .val (.int i2), .val (.ref ar), .val (.int (11 : Int32)), .val (.int ch)] [(.int (contV (288089166216953856) (576460745995190270) ch))])
      refine Go.by (fun _ k => XS.iload X263.here hx rfl (hb hby at_120) rfl k) ?_
      show Go _ _ _ _ T263 (mkF m 122 #[.val (.int i0), .val (.int i1), .val (.int i2), .val (.ref ar), .val (.int (11 : Int32)), .val (.int ch)] [(.int (11 : Int32)), (.int (contV (288089166216953856) (576460745995190270) ch))])
      refine Go.by (fun _ k => XS.iload X263.here hx rfl (hb hby at_122) rfl k) ?_
      show Go _ _ _ _ T263 (mkF m 124 #[.val (.int i0), .val (.int i1), .val (.int i2), .val (.ref ar), .val (.int (11 : Int32)), .val (.int ch)] [(.int ch), (.int (11 : Int32)), (.int (contV (288089166216953856) (576460745995190270) ch))])
      obtain ⟨_, _, ⟨T265, L265, k265, n265⟩, -, X265, ⟨Lc265, hQ265, l265, y265, z265⟩, st265⟩ := Jvm.LawKit.callS X263 hx (y := (⟨"com/example/wayfaring_tree/wayfaringtree/grammar/CharClassContainsPinLaw", "ref", "(IC)Z"⟩ : MethodName)) hown (mvT hZ (hw _ (List.mem_of_getElem? (i := 36) rfl))) (mvT hZ (hw _ (List.mem_of_getElem? (i := 37) rfl))) (mvT hZ (hw _ (List.mem_of_getElem? (i := 38) rfl))) (mvT hZ (hw _ (List.mem_of_getElem? (i := 39) rfl))) (by decide) (backOf (W := 1) (rm2 l Z a0 hw [] (11 : Int32) ch h229 n0 Z9 ) hZ (hw _ (List.mem_of_getElem? (i := 39) rfl)) (hw _ (List.mem_of_getElem? (i := 38) rfl)) (by decide) (by decide)) (g := (mkF m 124 #[.val (.int i0), .val (.int i1), .val (.int i2), .val (.ref ar), .val (.int (11 : Int32)), .val (.int ch)] [(.int ch), (.int (11 : Int32)), (.int (contV (288089166216953856) (576460745995190270) ch))])) rfl (by rw [hml]; rfl) (argsL := [(.int (11 : Int32)), (.int ch)]) (rest := [(.int (contV (288089166216953856) (576460745995190270) ch))]) (lenOf pd__IC_Z rfl) rfl (by show 2 * 0 + _ ≤ _; exact Nat.le_of_eq rfl) (hb hby at_124) (fun _ _ => ⟨rfl, e263, (by decide : 0 + 1 + 0 + 0 ≤ _), (by decide : 0 + 12 + 0 + 0 ≤ _)⟩)
      dsimp only [Pt.U, Pt.locs, Pt.cells, Pt.slots] at X265 l265 y265 z265 st265 hQ265
      subst l265 y265 z265
      obtain ⟨rfl, N265, e265⟩ := hQ265
      have NN265 := Fr.app NN263 N265
      refine Go.by st265 ?_
      show Go _ _ _ _ T265 (mkF m 127 #[.val (.int i0), .val (.int i1), .val (.int i2), .val (.ref ar), .val (.int (11 : Int32)), .val (.int ch)] [(.int (refV (11 : Int32) ch)), (.int (contV (288089166216953856) (576460745995190270) ch))])
      refine Go.by (fun _ k => XS.icmpNo X265.here hx rfl (hb hby at_127) rfl (XT.ii_ne_f (law_11 ch hch)) k) ?_
      show Go _ _ _ _ T265 (mkF m 130 #[.val (.int i0), .val (.int i1), .val (.int i2), .val (.ref ar), .val (.int (11 : Int32)), .val (.int ch)] [])
      refine Go.by (fun _ k => XT.iconstV X265.here hx rfl (1 : Int32) (hb hby at_130) (by decide) k) ?_
      show Go _ _ _ _ T265 (mkF m 131 #[.val (.int i0), .val (.int i1), .val (.int i2), .val (.ref ar), .val (.int (11 : Int32)), .val (.int ch)] [(.int (1 : Int32))])
      refine Go.by (fun _ k => XS.goto X265.here hx rfl (pc0 := 131) (pc' := 135) rfl (hb hby at_131) (by decide) (by decide) k) ?_
      show Go _ _ _ _ T265 (mkF m 135 #[.val (.int i0), .val (.int i1), .val (.int i2), .val (.ref ar), .val (.int (11 : Int32)), .val (.int ch)] [(.int (1 : Int32))])
      exact Go.retZ X265 hx Bd.notSynchronized (t := .boolean) Bd.returns (by simp) (hb hby at_135) ⟨rfl, NN265⟩ (by decide) (by decide)
  refine Go.by (fun _ k => XS.iloadN X229.here hx rfl (hb hby at_93) rfl k) ?_
  show Go _ _ _ _ T229 (mkF m 94 #[.val (.int i0), .val (.int i1), .val (.int i2), .val (.ref ar), .val (.int (Int32.ofInt kk.1)), .unset] [(.int i2)])
  refine Go.by (fun _ k => XT.iconstV X229.here hx rfl (1 : Int32) (hb hby at_94) (by decide) k) ?_
  show Go _ _ _ _ T229 (mkF m 95 #[.val (.int i0), .val (.int i1), .val (.int i2), .val (.ref ar), .val (.int (Int32.ofInt kk.1)), .unset] [(.int (1 : Int32)), (.int i2)])
  refine Go.by (fun _ k => XS.iand X229.here hx rfl (hb hby at_95) rfl k) ?_
  show Go _ _ _ _ T229 (mkF m 96 #[.val (.int i0), .val (.int i1), .val (.int i2), .val (.ref ar), .val (.int (Int32.ofInt kk.1)), .unset] [(.int (i2 &&& (1 : Int32)))])
  by_cases c266 : (i2 &&& (1 : Int32)) = 0
  · refine Go.by (fun _ k => XS.ifYes X229.here hx rfl (pc0 := 96) (pc' := 107) rfl (hb hby at_96) rfl (XT.i0_eq_t c266) (by decide) (by decide) k) ?_
    show Go _ _ _ _ T229 (mkF m 107 #[.val (.int i0), .val (.int i1), .val (.int i2), .val (.ref ar), .val (.int (Int32.ofInt kk.1)), .unset] [])
    refine Go.by (fun _ k => XS.iloadN X229.here hx rfl (hb hby at_107) rfl k) ?_
    show Go _ _ _ _ T229 (mkF m 108 #[.val (.int i0), .val (.int i1), .val (.int i2), .val (.ref ar), .val (.int (Int32.ofInt kk.1)), .unset] [(.int i1)])
    refine Go.by (fun _ k => XT.i2c X229.here hx rfl (hb hby at_108) rfl k) ?_
    show Go _ _ _ _ T229 (mkF m 109 #[.val (.int i0), .val (.int i1), .val (.int i2), .val (.ref ar), .val (.int (Int32.ofInt kk.1)), .unset] [(.int i1.toUInt32.toUInt16.toUInt32.toInt32)])
    exact rest _ (c_i2c _).2.1
  · refine Go.by (fun _ k => XS.ifNo X229.here hx rfl (hb hby at_96) rfl (XT.i0_eq_f c266) k) ?_
    show Go _ _ _ _ T229 (mkF m 99 #[.val (.int i0), .val (.int i1), .val (.int i2), .val (.ref ar), .val (.int (Int32.ofInt kk.1)), .unset] [])
    refine Go.by (fun _ k => XS.iloadN X229.here hx rfl (hb hby at_99) rfl k) ?_
    show Go _ _ _ _ T229 (mkF m 100 #[.val (.int i0), .val (.int i1), .val (.int i2), .val (.ref ar), .val (.int (Int32.ofInt kk.1)), .unset] [(.int i1)])
    refine Go.by (fun _ k => XT.bipushV X229.here hx rfl (127 : Int32) (hb hby at_100) (by decide) k) ?_
    show Go _ _ _ _ T229 (mkF m 102 #[.val (.int i0), .val (.int i1), .val (.int i2), .val (.ref ar), .val (.int (Int32.ofInt kk.1)), .unset] [(.int (127 : Int32)), (.int i1)])
    refine Go.by (fun _ k => XS.iand X229.here hx rfl (hb hby at_102) rfl k) ?_
    show Go _ _ _ _ T229 (mkF m 103 #[.val (.int i0), .val (.int i1), .val (.int i2), .val (.ref ar), .val (.int (Int32.ofInt kk.1)), .unset] [(.int (i1 &&& (127 : Int32)))])
    refine Go.by (fun _ k => XT.i2c X229.here hx rfl (hb hby at_103) rfl k) ?_
    show Go _ _ _ _ T229 (mkF m 104 #[.val (.int i0), .val (.int i1), .val (.int i2), .val (.ref ar), .val (.int (Int32.ofInt kk.1)), .unset] [(.int ((i1 &&& (127 : Int32)).toUInt32.toUInt16.toUInt32.toInt32))])
    refine Go.by (fun _ k => XS.goto X229.here hx rfl (pc0 := 104) (pc' := 109) rfl (hb hby at_104) (by decide) (by decide) k) ?_
    show Go _ _ _ _ T229 (mkF m 109 #[.val (.int i0), .val (.int i1), .val (.int i2), .val (.ref ar), .val (.int (Int32.ofInt kk.1)), .unset] [(.int ((i1 &&& (127 : Int32)).toUInt32.toUInt16.toUInt32.toInt32))])
    exact rest _ (c_i2c _).2.1
set_option maxRecDepth 65536 in
set_option maxHeartbeats 40000000 in
theorem comes_1 {Post : Tables → Env → Array Value → State → Outcome → State → Prop} (hpost : ∀ tb e args s v u, (limb_1_1.after args s (.returned v) u = true ∧ limb_1_2.after args s (.returned v) u = true ∧ True) → FrameEnd s (.returned v) u (Jvm.fieldLocs frame_1_writes args s ++ Jvm.arrayLocs frame_1_arrays args s ++ Jvm.staticLocs frame_1_statics s) 16 128 → Post tb e args s (.returned v) u) :
    ArmFor flags0 classFile x code maxLocals ret World_1 tables_1 room_1 Calls_1 rest_1 Pre_1 Post := by
  intro l hfl _ _ p e ha hc hk s m args below hf hA hF happ hP
  obtain ⟨hcalls, hrest, hpre⟩ := hP
  obtain ⟨-, -, -, hnamed, -, -, -, hat⟩ := (Spec.applies_iff hf).mp happ
  obtain ⟨hg, hn⟩ := and_e (Cond.before_iff.mp (show (Jvm.Cond.and given_1 narrow_1).before args s = true from hpre))
  obtain ⟨h1, hg⟩ := and_e hg
  obtain ⟨w0, w1, w2, rfl⟩ : ∃ w0 w1 w2 : Value, args = #[w0, w1, w2] := by
    have hs : args.size = 3 := by simpa [Cond.value, given_1] using h1
    obtain ⟨L⟩ := args
    match L, hs with
    | [w0, w1, w2], _ => exact ⟨w0, w1, w2, rfl⟩
  obtain ⟨hg0, hg⟩ := and_e hg
  obtain ⟨i0, ei0⟩ := is_v hg0
  obtain rfl : w0 = (.int i0) := Option.some.inj ei0
  obtain ⟨hg1, hg⟩ := and_e hg
  obtain ⟨i1, ei1⟩ := is_v hg1
  obtain rfl : w1 = (.int i1) := Option.some.inj ei1
  have hg2 := hg
  obtain ⟨i2, ei2⟩ := is_v hg2
  obtain rfl : w2 = (.int i2) := Option.some.inj ei2
  have hw := fun d (hd : d ∈ tables_1) => atoms_spec (ws := Jvm.Cond.code x code maxLocals ret :: tables_1) hat d (List.mem_cons_of_mem _ hd)
  have hfit : Fit s := fun {y c} hc i hi => by
    obtain ⟨ha, rfl⟩ := Array.getElem?_eq_some_iff.mp hc
    have q := List.all_eq_true.mp ((Array.all_eq_true_iff_forall_mem.mp hF) _ (Array.getElem_mem ha)) i (List.mem_range.mpr hi)
    simpa [Array.getElem?_eq_getElem hi] using q
  obtain ⟨m0, hn⟩ := and_e hn
  obtain ⟨m1, hn⟩ := and_e hn
  obtain ⟨m2, hn⟩ := and_e hn
  obtain ⟨m3, hn⟩ := and_e hn
  obtain ⟨m4, hn⟩ := and_e hn
  obtain ⟨m5, hn⟩ := and_e hn
  obtain ⟨m6, hn⟩ := and_e hn
  obtain ⟨m7, hn⟩ := and_e hn
  obtain ⟨m8, hn⟩ := and_e hn
  obtain ⟨m9, hn⟩ := and_e hn
  obtain ⟨m10, hn⟩ := and_e hn
  obtain ⟨m11, hn⟩ := and_e hn
  obtain ⟨m12, hn⟩ := and_e hn
  obtain ⟨m13, hn⟩ := and_e hn
  obtain ⟨m14, hn⟩ := and_e hn
  obtain ⟨m15, hn⟩ := and_e hn
  obtain ⟨m16, hn⟩ := and_e hn
  obtain ⟨m17, hn⟩ := and_e hn
  obtain ⟨m18, hn⟩ := and_e hn
  obtain ⟨m19, hn⟩ := and_e hn
  obtain ⟨m20, hn⟩ := and_e hn
  obtain ⟨m21, hn⟩ := and_e hn
  obtain ⟨m22, hn⟩ := and_e hn
  obtain ⟨m23, hn⟩ := and_e hn
  obtain ⟨m24, hn⟩ := and_e hn
  obtain ⟨m25, hn⟩ := and_e hn
  obtain ⟨m26, hn⟩ := and_e hn
  obtain ⟨m27, hn⟩ := and_e hn
  obtain ⟨m28, hn⟩ := and_e hn
  obtain ⟨m29, hn⟩ := and_e hn
  obtain ⟨m30, hn⟩ := and_e hn
  obtain ⟨m31, hn⟩ := and_e hn
  obtain ⟨m32, hn⟩ := and_e hn
  obtain ⟨m33, hn⟩ := and_e hn
  obtain ⟨m34, hn⟩ := and_e hn
  obtain ⟨m35, hn⟩ := and_e hn
  obtain ⟨m36, hn⟩ := and_e hn
  obtain ⟨m37, hn⟩ := and_e hn
  obtain ⟨m38, hn⟩ := and_e hn
  obtain ⟨m39, hn⟩ := and_e hn
  obtain ⟨m40, hn⟩ := and_e hn
  obtain ⟨m41, hn⟩ := and_e hn
  obtain ⟨m42, hn⟩ := and_e hn
  obtain ⟨m43, hn⟩ := and_e hn
  obtain ⟨m44, hn⟩ := and_e hn
  obtain ⟨m45, hn⟩ := and_e hn
  obtain ⟨m46, hn⟩ := and_e hn
  obtain ⟨m47, hn⟩ := and_e hn
  obtain ⟨m48, hn⟩ := and_e hn
  obtain ⟨m49, hn⟩ := and_e hn
  obtain ⟨m50, hn⟩ := and_e hn
  obtain ⟨m51, hn⟩ := and_e hn
  obtain ⟨m52, hn⟩ := and_e hn
  obtain ⟨m53, hn⟩ := and_e hn
  obtain ⟨m54, hn⟩ := and_e hn
  obtain ⟨m55, hn⟩ := and_e hn
  obtain ⟨m56, hn⟩ := and_e hn
  obtain ⟨m57, hn⟩ := and_e hn
  obtain ⟨m58, hn⟩ := and_e hn
  have m59 := hn
  obtain ⟨ad0, v0⟩ := exa_v m0
  have E0 := Exa.start v0 m0
  have S0 := Sta.start v0 (Or.inr ⟨(hw _ (List.mem_of_getElem? (i := 3) rfl)), (hw _ (List.mem_of_getElem? (i := 4) rfl))⟩)
  obtain ⟨b0, k0, F0, V0⟩ := own_words hfit v0 m12 m13 m14 m58
  obtain ⟨ad1, v1⟩ := exa_v m1
  have E1 := Exa.start v1 m1
  have S1 := Sta.start v1 (Or.inr ⟨(hw _ (List.mem_of_getElem? (i := 3) rfl)), (hw _ (List.mem_of_getElem? (i := 7) rfl))⟩)
  obtain ⟨b1, k1, F1, V1⟩ := own_words hfit v1 m15 m16 m17 m41
  obtain ⟨ad2, v2⟩ := exa_v m2
  have E2 := Exa.start v2 m2
  have S2 := Sta.start v2 (Or.inr ⟨(hw _ (List.mem_of_getElem? (i := 3) rfl)), (hw _ (List.mem_of_getElem? (i := 9) rfl))⟩)
  obtain ⟨b2, k2, F2, V2⟩ := own_words hfit v2 m42 m43 m44 m49
  obtain ⟨ad3, v3⟩ := exa_v m3
  have E3 := Exa.start v3 m3
  have S3 := Sta.start v3 (Or.inr ⟨(hw _ (List.mem_of_getElem? (i := 3) rfl)), (hw _ (List.mem_of_getElem? (i := 11) rfl))⟩)
  obtain ⟨b3, k3, F3, V3⟩ := own_words hfit v3 m31 m32 m33 m48
  obtain ⟨ad4, v4⟩ := exa_v m4
  have E4 := Exa.start v4 m4
  have S4 := Sta.start v4 (Or.inr ⟨(hw _ (List.mem_of_getElem? (i := 3) rfl)), (hw _ (List.mem_of_getElem? (i := 13) rfl))⟩)
  obtain ⟨b4, k4, F4, V4⟩ := own_words hfit v4 m45 m46 m50 m47
  obtain ⟨ad5, v5⟩ := exa_v m5
  have E5 := Exa.start v5 m5
  have S5 := Sta.start v5 (Or.inr ⟨(hw _ (List.mem_of_getElem? (i := 3) rfl)), (hw _ (List.mem_of_getElem? (i := 15) rfl))⟩)
  obtain ⟨b5, k5, F5, V5⟩ := own_words hfit v5 m37 m38 m40 m39
  obtain ⟨ad6, v6⟩ := exa_v m6
  have E6 := Exa.start v6 m6
  have S6 := Sta.start v6 (Or.inr ⟨(hw _ (List.mem_of_getElem? (i := 3) rfl)), (hw _ (List.mem_of_getElem? (i := 17) rfl))⟩)
  obtain ⟨b6, k6, F6, V6⟩ := own_words hfit v6 m25 m26 m54 m27
  obtain ⟨ad7, v7⟩ := exa_v m7
  have E7 := Exa.start v7 m7
  have S7 := Sta.start v7 (Or.inr ⟨(hw _ (List.mem_of_getElem? (i := 3) rfl)), (hw _ (List.mem_of_getElem? (i := 19) rfl))⟩)
  obtain ⟨b7, k7, F7, V7⟩ := own_words hfit v7 m28 m29 m55 m30
  obtain ⟨ad8, v8⟩ := exa_v m8
  have E8 := Exa.start v8 m8
  have S8 := Sta.start v8 (Or.inr ⟨(hw _ (List.mem_of_getElem? (i := 3) rfl)), (hw _ (List.mem_of_getElem? (i := 21) rfl))⟩)
  obtain ⟨b8, k8, F8, V8⟩ := own_words hfit v8 m18 m19 m24 m20
  obtain ⟨ad9, v9⟩ := exa_v m9
  have E9 := Exa.start v9 m9
  have S9 := Sta.start v9 (Or.inr ⟨(hw _ (List.mem_of_getElem? (i := 3) rfl)), (hw _ (List.mem_of_getElem? (i := 23) rfl))⟩)
  obtain ⟨b9, k9, F9, V9⟩ := own_words hfit v9 m51 m52 m53 m56
  obtain ⟨ad10, v10⟩ := exa_v m10
  have E10 := Exa.start v10 m10
  have S10 := Sta.start v10 (Or.inr ⟨(hw _ (List.mem_of_getElem? (i := 3) rfl)), (hw _ (List.mem_of_getElem? (i := 25) rfl))⟩)
  obtain ⟨b10, k10, F10, V10⟩ := own_words hfit v10 m34 m35 m36 m57
  obtain ⟨ad11, v11⟩ := exa_v m11
  have E11 := Exa.start v11 m11
  have S11 := Sta.start v11 (Or.inr ⟨(hw _ (List.mem_of_getElem? (i := 3) rfl)), (hw _ (List.mem_of_getElem? (i := 27) rfl))⟩)
  obtain ⟨b11, k11, F11, V11⟩ := own_words hfit v11 m21 m22 m23 m59
  obtain ⟨n, o, h1, h2, h3, _, L, rfl, ⟨rfl, N⟩, hq⟩ := rm0 l s _ hw tables_1 i0 i1 i2 ad0 ad1 ad2 ad3 ad4 ad5 ad6 ad7 ad8 ad9 ad10 ad11 b0 b1 b2 b3 b4 b5 b6 b7 b8 b9 b10 b11 k0 k1 k2 k3 k4 k5 k6 k7 k8 k9 k10 k11 s.heap s.heap.size (Nat.le_refl _) (Old.start s) S0 S1 S2 S3 S4 S5 S6 S7 S8 S9 S10 S11 E0 E1 E2 E3 E4 E5 E6 E7 E8 E9 E10 E11 F0 F1 F2 F3 F4 F5 F6 F7 F8 F9 F10 F11 V0 V1 V2 V3 V4 V5 V6 V7 V8 V9 V10 V11 p e ha hc hk s m _ below hf ((Spec.applies_iff_loose hf).mp happ).1 ⟨rfl, State.Warmed39.refl s, rfl⟩ trivial
  refine ⟨n, _, h1, h2, h3, hpost _ _ _ _ _ _ ⟨Cond.after_iff.mpr rfl, Cond.after_iff.mpr (eq_i res_at (Term.int_eval (1)) rfl), trivial⟩ ⟨hq.1, hq.2.1, (hq.2.2.sift fun y hy => Or.inr (N y hy)).mono (by decide) (by decide)⟩⟩
theorem main_1_1 : Claimed_1_1 := comes_1 fun _ _ _ _ _ _ h hF => ⟨h.1, hF⟩
theorem main_1_2 : Claimed_1_2 := comes_1 fun _ _ _ _ _ _ h hF => ⟨h.2.1, hF⟩
end Jvm.Pilot.@@N@@
namespace Jvm.Pilot.@@N@@
open Jvm Jvm.ClassFile Sem Op Lib Jvm.Free Jvm.Stand Jvm.Pilot.@@N@@.Jvm.D
/-! MADE BY PROGRAM (witnessworld.py) out of the Statement's table words and the real class files: 15 classes; the members and pool entries that the words name. The judged class is class 1, her method 1. -/
namespace start1
open Jvm.ClassFile
def u (s : String) : CpInfo := .utf8 (stringToUtf16 s)
/-- a pool by its gaps: so many unusable entries, then the entry; so many at the end -/
def gap : Nat → List CpInfo → List CpInfo
  | 0, r => r
  | n + 1, r => .unusable :: gap n r
def poolList (es : List (Nat × CpInfo)) (last : Nat) : List CpInfo := es.foldr (fun e r => gap e.1 (e.2 :: r)) (gap last [])
def pool (es : List (Nat × CpInfo)) (last : Nat) : Array CpInfo := ⟨poolList es last⟩
def fileOf (pool : Array CpInfo) (this : Nat) (attrs : Array Attribute := #[]) (ms : Array MethodInfo := #[]) (fl : Nat := 33) (sup : Nat := 0) (ifs : Array Nat := #[]) (fds : Array FieldInfo := #[]) : ClassFile where
  minorVersion := 0
  majorVersion := 65
  constantPool := pool
  accessFlags := fl
  thisClass := this
  superClass := sup
  interfaces := ifs
  fields := fds
  methods := ms
  attributes := attrs
def plain (name : String) (sup : Option ClassId) : Class where
  name := name
  kind := .ordinary
  loader := none
  accessFlags := 33
  super := sup
  interfaces := #[]
  cf := none
  fields := #[]
  methods := #[]
  instanceTypes := #[]
  staticTypes := #[]
  resolved := #[]
  callSites := []
  init := .initialized
  statics := none
  mirror := none

def pool0 : Array CpInfo := pool [(5, u "<init>"), (0, u "()V"), (1, .class_ 10), (1, u "java/lang/Object")] 113

def k0m0 : Method := { name := "<init>", desc := "()V", sig := { parameters := [], returnType := none }, accessFlags := 1, code := none }
/-- java/lang/Object -/
def k0 : Class := { plain "java/lang/Object" none with
  accessFlags := 33
  interfaces := #[]
  cf := some (fileOf pool0 8 #[] #[{ accessFlags := 1, nameIndex := 5, descriptorIndex := 6, attributes := #[] }] 33 0 #[] #[])
  fields := #[]
  methods := #[k0m0]
  instanceTypes := #[]
  staticTypes := #[]
  resolved := Array.replicate 124 none
  statics := none }

def pool1 : Array CpInfo := pool [(2, .class_ 4), (1, u "java/lang/Object"), (0, u "<init>"), (0, u "()V"), (0, .class_ 8), (0, u "com/example/wayfaring_tree/wayfaringtree/grammar/CharClass"), (0, .fieldref 7 10), (0, .nameAndType 11 12), (0, u "LOWALPHA"), (0, u "Lcom/example/wayfaring_tree/wayfaringtree/grammar/CharClass;"), (0, .fieldref 7 14), (0, .nameAndType 15 12), (0, u "HIALPHA"), (0, .fieldref 7 17), (0, .nameAndType 18 12), (0, u "ALPHA"), (0, .fieldref 7 20), (0, .nameAndType 21 12), (0, u "DIGIT"), (0, .fieldref 7 23), (0, .nameAndType 24 12), (0, u "ALPHADIGIT"), (0, .fieldref 7 26), (0, .nameAndType 27 12), (0, u "SAFE"), (0, .fieldref 7 29), (0, .nameAndType 30 12), (0, u "EXTRA"), (0, .fieldref 7 32), (0, .nameAndType 33 12), (0, u "NATIONAL"), (0, .fieldref 7 35), (0, .nameAndType 36 12), (0, u "PUNCTUATION"), (0, .fieldref 7 38), (0, .nameAndType 39 12), (0, u "RESERVED"), (0, .fieldref 7 41), (0, .nameAndType 42 12), (0, u "HEX"), (0, .fieldref 7 44), (0, .nameAndType 45 12), (0, u "UNRESERVED"), (0, .integer 2147483647), (0, .methodref 7 48), (0, .nameAndType 49 50), (0, u "contains"), (0, u "(C)Z"), (0, .methodref 52 53), (0, .class_ 54), (0, .nameAndType 55 56), (0, u "com/example/wayfaring_tree/wayfaringtree/grammar/CharClassContainsPinLaw"), (0, u "ref"), (0, u "(IC)Z"), (2, u "law"), (0, u "(III)Z")] 5

def k1m0 : Method := { name := "<init>", desc := "()V", sig := { parameters := [], returnType := none }, accessFlags := 1, code := none }
def k1c1 : Code := { maxStack := 4, maxLocals := 6, code := code, exceptionTable := #[], attributes := #[] }
def k1m1 : Method := { name := "law", desc := "(III)Z", sig := { parameters := [.int, .int, .int], returnType := some .boolean }, accessFlags := 9, code := some k1c1 }
def k1c2 : Code := { maxStack := 2, maxLocals := 11, code := method_3_code, exceptionTable := #[], attributes := #[] }
def k1m2 : Method := { name := "ref", desc := "(IC)Z", sig := { parameters := [.int, .char], returnType := some .boolean }, accessFlags := 10, code := some k1c2 }
/-- com/example/wayfaring_tree/wayfaringtree/grammar/CharClassContainsPinLaw -/
def k1 : Class := { plain "com/example/wayfaring_tree/wayfaringtree/grammar/CharClassContainsPinLaw" (some 0) with
  accessFlags := 49
  interfaces := #[]
  cf := some (fileOf pool1 52 #[] #[{ accessFlags := 1, nameIndex := 5, descriptorIndex := 6, attributes := #[] }, { accessFlags := 9, nameIndex := 59, descriptorIndex := 60, attributes := #[] }, { accessFlags := 10, nameIndex := 55, descriptorIndex := 56, attributes := #[] }] 49 2 #[] #[])
  fields := #[]
  methods := #[k1m0, k1m1, k1m2]
  instanceTypes := #[]
  staticTypes := #[]
  resolved := Array.replicate 66 none
  statics := none }

def pool2 : Array CpInfo := pool [(1, .class_ 2), (0, u "java/lang/constant/Constable"), (0, .class_ 4), (0, u "java/lang/Object")] 6

/-- java/lang/constant/Constable -/
def k2 : Class := { plain "java/lang/constant/Constable" (some 0) with
  accessFlags := 1537
  interfaces := #[]
  cf := some (fileOf pool2 1 #[] #[] 1537 3 #[] #[])
  fields := #[]
  methods := #[]
  instanceTypes := #[]
  staticTypes := #[]
  resolved := Array.replicate 11 none
  statics := none }

def pool3 : Array CpInfo := pool [(1, .class_ 2), (0, u "java/lang/Comparable"), (0, .class_ 4), (0, u "java/lang/Object")] 7

/-- java/lang/Comparable -/
def k3 : Class := { plain "java/lang/Comparable" (some 0) with
  accessFlags := 1537
  interfaces := #[]
  cf := some (fileOf pool3 1 #[] #[] 1537 3 #[] #[])
  fields := #[]
  methods := #[]
  instanceTypes := #[]
  staticTypes := #[]
  resolved := Array.replicate 12 none
  statics := none }

def pool4 : Array CpInfo := pool [(1, .class_ 2), (0, u "java/io/Serializable"), (0, .class_ 4), (0, u "java/lang/Object")] 2

/-- java/io/Serializable -/
def k4 : Class := { plain "java/io/Serializable" (some 0) with
  accessFlags := 1537
  interfaces := #[]
  cf := some (fileOf pool4 1 #[] #[] 1537 3 #[] #[])
  fields := #[]
  methods := #[]
  instanceTypes := #[]
  staticTypes := #[]
  resolved := Array.replicate 7 none
  statics := none }

def pool5 : Array CpInfo := pool [(2, .class_ 4), (1, u "java/lang/Enum"), (0, u "name"), (0, u "Ljava/lang/String;"), (2, u "ordinal"), (0, u "I"), (1, .class_ 14), (1, u "java/lang/Object"), (4, u "hash"), (86, .class_ 108), (1, u "java/lang/Enum$EnumDesc"), (2, .class_ 112), (0, u "java/lang/constant/Constable"), (0, .class_ 114), (0, u "java/lang/Comparable"), (0, .class_ 116), (0, u "java/io/Serializable")] 87

/-- java/lang/Enum -/
def k5 : Class := { plain "java/lang/Enum" (some 0) with
  accessFlags := 1057
  interfaces := #[2, 3, 4]
  cf := some (fileOf pool5 2 #[.nestMembers #[106]] #[] 1057 12 #[111, 113, 115] #[{ accessFlags := 18, nameIndex := 5, descriptorIndex := 6, attributes := #[] }, { accessFlags := 18, nameIndex := 9, descriptorIndex := 10, attributes := #[] }, { accessFlags := 2, nameIndex := 19, descriptorIndex := 10, attributes := #[] }])
  fields := #[{ name := "name", type := (.object "java/lang/String"), accessFlags := 18, slot := 0, constantValue := 0 }, { name := "ordinal", type := .int, accessFlags := 18, slot := 1, constantValue := 0 }, { name := "hash", type := .int, accessFlags := 2, slot := 2, constantValue := 0 }]
  methods := #[]
  instanceTypes := #[(.object "java/lang/String"), .int, .int]
  staticTypes := #[]
  resolved := Array.replicate 204 none
  statics := none }

def pool6 : Array CpInfo := pool [(1, .class_ 2), (0, u "com/example/wayfaring_tree/wayfaringtree/grammar/CharClass"), (2, u "LOWALPHA"), (0, u "Lcom/example/wayfaring_tree/wayfaringtree/grammar/CharClass;"), (2, u "HIALPHA"), (2, u "ALPHA"), (2, u "DIGIT"), (2, u "ALPHADIGIT"), (2, u "SAFE"), (2, u "EXTRA"), (2, u "NATIONAL"), (2, u "PUNCTUATION"), (2, u "RESERVED"), (2, u "HEX"), (2, u "UNRESERVED"), (2, u "$VALUES"), (0, u "[Lcom/example/wayfaring_tree/wayfaringtree/grammar/CharClass;"), (6, .class_ 52), (1, u "java/lang/Enum"), (6, .fieldref 1 60), (0, .nameAndType 61 62), (0, u "words"), (0, u "[J"), (57, u "contains"), (0, u "(C)Z")] 5

def k6c0 : Code := { maxStack := 5, maxLocals := 2, code := prog_13_method_4_code, exceptionTable := #[], attributes := #[] }
def k6m0 : Method := { name := "contains", desc := "(C)Z", sig := { parameters := [.char], returnType := some .boolean }, accessFlags := 1, code := some k6c0 }
/-- com/example/wayfaring_tree/wayfaringtree/grammar/CharClass -/
def k6 : Class := { plain "com/example/wayfaring_tree/wayfaringtree/grammar/CharClass" (some 5) with
  accessFlags := 16433
  interfaces := #[]
  cf := some (fileOf pool6 1 #[] #[{ accessFlags := 1, nameIndex := 120, descriptorIndex := 121, attributes := #[] }] 16433 50 #[] #[{ accessFlags := 16409, nameIndex := 5, descriptorIndex := 6, attributes := #[] }, { accessFlags := 16409, nameIndex := 9, descriptorIndex := 6, attributes := #[] }, { accessFlags := 16409, nameIndex := 12, descriptorIndex := 6, attributes := #[] }, { accessFlags := 16409, nameIndex := 15, descriptorIndex := 6, attributes := #[] }, { accessFlags := 16409, nameIndex := 18, descriptorIndex := 6, attributes := #[] }, { accessFlags := 16409, nameIndex := 21, descriptorIndex := 6, attributes := #[] }, { accessFlags := 16409, nameIndex := 24, descriptorIndex := 6, attributes := #[] }, { accessFlags := 16409, nameIndex := 27, descriptorIndex := 6, attributes := #[] }, { accessFlags := 16409, nameIndex := 30, descriptorIndex := 6, attributes := #[] }, { accessFlags := 16409, nameIndex := 33, descriptorIndex := 6, attributes := #[] }, { accessFlags := 16409, nameIndex := 36, descriptorIndex := 6, attributes := #[] }, { accessFlags := 16409, nameIndex := 39, descriptorIndex := 6, attributes := #[] }, { accessFlags := 18, nameIndex := 61, descriptorIndex := 62, attributes := #[] }, { accessFlags := 4122, nameIndex := 42, descriptorIndex := 43, attributes := #[] }])
  fields := #[{ name := "LOWALPHA", type := (.object "com/example/wayfaring_tree/wayfaringtree/grammar/CharClass"), accessFlags := 16409, slot := 0, constantValue := 0 }, { name := "HIALPHA", type := (.object "com/example/wayfaring_tree/wayfaringtree/grammar/CharClass"), accessFlags := 16409, slot := 1, constantValue := 0 }, { name := "ALPHA", type := (.object "com/example/wayfaring_tree/wayfaringtree/grammar/CharClass"), accessFlags := 16409, slot := 2, constantValue := 0 }, { name := "DIGIT", type := (.object "com/example/wayfaring_tree/wayfaringtree/grammar/CharClass"), accessFlags := 16409, slot := 3, constantValue := 0 }, { name := "ALPHADIGIT", type := (.object "com/example/wayfaring_tree/wayfaringtree/grammar/CharClass"), accessFlags := 16409, slot := 4, constantValue := 0 }, { name := "SAFE", type := (.object "com/example/wayfaring_tree/wayfaringtree/grammar/CharClass"), accessFlags := 16409, slot := 5, constantValue := 0 }, { name := "EXTRA", type := (.object "com/example/wayfaring_tree/wayfaringtree/grammar/CharClass"), accessFlags := 16409, slot := 6, constantValue := 0 }, { name := "NATIONAL", type := (.object "com/example/wayfaring_tree/wayfaringtree/grammar/CharClass"), accessFlags := 16409, slot := 7, constantValue := 0 }, { name := "PUNCTUATION", type := (.object "com/example/wayfaring_tree/wayfaringtree/grammar/CharClass"), accessFlags := 16409, slot := 8, constantValue := 0 }, { name := "RESERVED", type := (.object "com/example/wayfaring_tree/wayfaringtree/grammar/CharClass"), accessFlags := 16409, slot := 9, constantValue := 0 }, { name := "HEX", type := (.object "com/example/wayfaring_tree/wayfaringtree/grammar/CharClass"), accessFlags := 16409, slot := 10, constantValue := 0 }, { name := "UNRESERVED", type := (.object "com/example/wayfaring_tree/wayfaringtree/grammar/CharClass"), accessFlags := 16409, slot := 11, constantValue := 0 }, { name := "words", type := (.array .long), accessFlags := 18, slot := 3, constantValue := 0 }, { name := "$VALUES", type := (.array (.object "com/example/wayfaring_tree/wayfaringtree/grammar/CharClass")), accessFlags := 4122, slot := 12, constantValue := 0 }]
  methods := #[k6m0]
  instanceTypes := #[(.object "java/lang/String"), .int, .int, (.array .long)]
  staticTypes := #[(.object "com/example/wayfaring_tree/wayfaringtree/grammar/CharClass"), (.object "com/example/wayfaring_tree/wayfaringtree/grammar/CharClass"), (.object "com/example/wayfaring_tree/wayfaringtree/grammar/CharClass"), (.object "com/example/wayfaring_tree/wayfaringtree/grammar/CharClass"), (.object "com/example/wayfaring_tree/wayfaringtree/grammar/CharClass"), (.object "com/example/wayfaring_tree/wayfaringtree/grammar/CharClass"), (.object "com/example/wayfaring_tree/wayfaringtree/grammar/CharClass"), (.object "com/example/wayfaring_tree/wayfaringtree/grammar/CharClass"), (.object "com/example/wayfaring_tree/wayfaringtree/grammar/CharClass"), (.object "com/example/wayfaring_tree/wayfaringtree/grammar/CharClass"), (.object "com/example/wayfaring_tree/wayfaringtree/grammar/CharClass"), (.object "com/example/wayfaring_tree/wayfaringtree/grammar/CharClass"), (.array (.object "com/example/wayfaring_tree/wayfaringtree/grammar/CharClass"))]
  resolved := Array.replicate 127 none
  statics := some 0 }

def pool7 : Array CpInfo := pool [(1, u "java/lang/Cloneable"), (0, .class_ 1), (0, u "java/lang/Object"), (0, .class_ 3)] 3

/-- java/lang/Cloneable -/
def k7 : Class := { plain "java/lang/Cloneable" (some 0) with
  accessFlags := 1537
  interfaces := #[]
  cf := some (fileOf pool7 2 #[] #[] 1537 4 #[] #[])
  fields := #[]
  methods := #[]
  instanceTypes := #[]
  staticTypes := #[]
  resolved := Array.replicate 8 none
  statics := none }

/-- the primitive byte -/
def k8 : Class := { plain "byte" none with kind := .primitive 'B', accessFlags := 0x411 }
/-- [B -/
def k9 : Class := { plain "[B" (some 0) with kind := .array 8 .byte, interfaces := #[7, 4], accessFlags := 1041 }

/-- the primitive int -/
def k10 : Class := { plain "int" none with kind := .primitive 'I', accessFlags := 0x411 }
/-- [I -/
def k11 : Class := { plain "[I" (some 0) with kind := .array 10 .int, interfaces := #[7, 4], accessFlags := 1041 }

/-- the primitive long -/
def k12 : Class := { plain "long" none with kind := .primitive 'J', accessFlags := 0x411 }
/-- [J -/
def k13 : Class := { plain "[J" (some 0) with kind := .array 12 .long, interfaces := #[7, 4], accessFlags := 1041 }

/-- [Lcom/example/wayfaring_tree/wayfaringtree/grammar/CharClass; -/
def k14 : Class := { plain "[Lcom/example/wayfaring_tree/wayfaringtree/grammar/CharClass;" (some 0) with kind := .array 6 (.object "com/example/wayfaring_tree/wayfaringtree/grammar/CharClass"), interfaces := #[7, 4], accessFlags := 1041 }

def heap : Heap := #[{ cls := 6, slots := #[.ref 13, .ref 14, .ref 15, .ref 16, .ref 17, .ref 18, .ref 19, .ref 20, .ref 21, .ref 22, .ref 23, .ref 24, .null], vm := .statics 6 },
  { cls := 13, slots := #[.long (0), .long (576460743713488896)], vm := .none },
  { cls := 13, slots := #[.long (0), .long (134217726)], vm := .none },
  { cls := 13, slots := #[.long (0), .long (576460743847706622)], vm := .none },
  { cls := 13, slots := #[.long (287948901175001088), .long (0)], vm := .none },
  { cls := 13, slots := #[.long (287948901175001088), .long (576460743847706622)], vm := .none },
  { cls := 13, slots := #[.long (114417928765440), .long (2147483648)], vm := .none },
  { cls := 13, slots := #[.long (25847113187328), .long (0)], vm := .none },
  { cls := 13, slots := #[.long (0), .long (8646911290859585536)], vm := .none },
  { cls := 13, slots := #[.long (5764607712012795904), .long (0)], vm := .none },
  { cls := 13, slots := #[.long (-6052696886819684352), .long (1)], vm := .none },
  { cls := 13, slots := #[.long (287948901175001088), .long (541165879422)], vm := .none },
  { cls := 13, slots := #[.long (288089166216953856), .long (576460745995190270)], vm := .none },
  { cls := 6, slots := #[.null, .int 0, .int 0, .ref 1], vm := .none },
  { cls := 6, slots := #[.null, .int 1, .int 0, .ref 2], vm := .none },
  { cls := 6, slots := #[.null, .int 2, .int 0, .ref 3], vm := .none },
  { cls := 6, slots := #[.null, .int 3, .int 0, .ref 4], vm := .none },
  { cls := 6, slots := #[.null, .int 4, .int 0, .ref 5], vm := .none },
  { cls := 6, slots := #[.null, .int 5, .int 0, .ref 6], vm := .none },
  { cls := 6, slots := #[.null, .int 6, .int 0, .ref 7], vm := .none },
  { cls := 6, slots := #[.null, .int 7, .int 0, .ref 8], vm := .none },
  { cls := 6, slots := #[.null, .int 8, .int 0, .ref 9], vm := .none },
  { cls := 6, slots := #[.null, .int 9, .int 0, .ref 10], vm := .none },
  { cls := 6, slots := #[.null, .int 10, .int 0, .ref 11], vm := .none },
  { cls := 6, slots := #[.null, .int 11, .int 0, .ref 12], vm := .none }]
def classes : Array Class := #[k0, k1, k2, k3, k4, k5, k6, k7, k8, k9, k10, k11, k12, k13, k14]
def interned : List (Array UInt16 × Addr) := []
def slotsUsed : Nat := 85
def theMethod : MethodId := ⟨1, 1⟩
def args0 : Array Value := #[.int 5, .int 65, .int 1]
def aboutOver (below : List Frame) : State where
  vm := { classes := classes, interned := interned.toArray }
  heap := heap
  slotsUsed := slotsUsed
  threads := #[{ frames := .invoking theMethod args0 :: below }]
def below0 : List Frame := [.native { method := ⟨0, 0⟩, args := #[] }]
def about1 : State := aboutOver below0
def p0 : Program := .bare "" "" ""
def e0 : Env := launch0.env 0 0 0
theorem w_frames : about1.frames = Frame.invoking theMethod args0 :: below0 := rfl
set_option maxRecDepth 65536 in
theorem w_args : argsFit about1.vm theMethod args0 = true := by decide +kernel
set_option maxRecDepth 65536 in
theorem w_heap : heapFits about1 = true := by decide +kernel
set_option maxRecDepth 65536 in
theorem w_runnable : about1.curStatus? = some .runnable := by decide +kernel
set_option maxRecDepth 65536 in
theorem w_alone : about1.alone = true := by decide +kernel
set_option maxRecDepth 65536 in
theorem w_named : about1.methodNamed? x = some theMethod := by decide +kernel
set_option maxRecDepth 65536 in
theorem w_hears : about1.hears theMethod below0 = true := by decide +kernel
set_option maxRecDepth 65536 in
theorem w_ripe : about1.ripe theMethod args0 below0 = true := by decide +kernel
theorem w_running : about1.status = .running := rfl
set_option maxRecDepth 65536 in
theorem w_room : about1.hasRoom e0.platform room_1 = true :=
  launch0.hasRoom_least _ room_1 (by decide +kernel) (by decide +kernel) (by decide +kernel) (by decide +kernel) (by decide +kernel) (by decide +kernel)
theorem allAtoms_all (ts : List Jvm.Cond) (a : Array Jvm.Value) (st : Jvm.State) : (allAtoms ts).before a st = ts.all (fun c => c.before a st) := by
  induction ts with
  | nil => rfl
  | cons c t ih =>
    show (Jvm.Cond.and c (allAtoms t)).before a st = _
    rw [Jvm.Cond.before_and, ih, List.all_cons]
def words1 : List Jvm.Cond := Jvm.Cond.code x code maxLocals ret :: tables_1
/-- a 'code' word, met by the world's own term for the bytes: nothing is compared byte by byte -/
theorem code_word {y : MethodName} {bytes : ByteArray} {mx : Nat} {rt : Option FieldType} {a : Array Value} {s : State} {m : MethodId} {meth : Method} {c : Code} (h1 : s.methodNamed? y = some m) (h2 : s.vm.method? m = some meth) (h3 : meth.code = some c) (h4 : c.code = bytes)
    (h5 : (c.maxLocals == mx && c.exceptionTable.isEmpty && decide (c.maxStack ≤ mostOperands) && decide (meth.sig.returnType = rt) && !meth.locks && decide (parseMethodDescriptor y.desc = some meth.sig)) = true) : (Jvm.Cond.code y bytes mx rt).before a s = true := by
  simp only [Bool.and_eq_true, beq_iff_eq, Bool.not_eq_true', decide_eq_true_eq] at h5
  obtain ⟨⟨⟨⟨⟨g1, g2⟩, g3⟩, g4⟩, g5⟩, g6⟩ := h5
  simp [Cond.before, Cond.holds, Cond.value, h1, h2, h3, h4, g1, g2, g3, g4, g5, g6]
def isCode : Jvm.Cond → Bool
  | .code _ _ _ _ => true
  | _ => false
theorem all_split {L : List Jvm.Cond} {P : Jvm.Cond → Bool} (h1 : L.all (fun c => isCode c || P c) = true) (h2 : ∀ c ∈ L.filter isCode, P c = true) : L.all P = true := by
  refine List.all_eq_true.mpr fun c hc => ?_
  have h := List.all_eq_true.mp h1 c hc
  rcases Bool.eq_false_or_eq_true (isCode c) with hi | hi
  · exact h2 c (List.mem_filter.mpr ⟨hc, hi⟩)
  · simpa [hi] using h
set_option maxRecDepth 65536 in
theorem w_c0 : (Jvm.Cond.code x code maxLocals ret).before args0 about1 = true := code_word (m := ⟨1, 1⟩) (meth := k1m1) (c := k1c1) (by decide +kernel) rfl rfl rfl (by decide +kernel)
set_option maxRecDepth 65536 in
theorem w_c1 : (Jvm.Cond.code ({ cls := "com/example/wayfaring_tree/wayfaringtree/grammar/CharClass", name := "contains", desc := "(C)Z" } : Jvm.MethodName) prog_13_method_4_code (2 : Nat) (Option.some Jvm.ClassFile.FieldType.boolean)).before args0 about1 = true := code_word (m := ⟨6, 0⟩) (meth := k6m0) (c := k6c0) (by decide +kernel) rfl rfl rfl (by decide +kernel)
set_option maxRecDepth 65536 in
theorem w_c2 : (Jvm.Cond.code ({ cls := "com/example/wayfaring_tree/wayfaringtree/grammar/CharClassContainsPinLaw", name := "ref", desc := "(IC)Z" } : Jvm.MethodName) method_3_code (11 : Nat) (Option.some Jvm.ClassFile.FieldType.boolean)).before args0 about1 = true := code_word (m := ⟨1, 2⟩) (meth := k1m2) (c := k1c2) (by decide +kernel) rfl rfl rfl (by decide +kernel)
def codes1 : List Jvm.Cond := [Jvm.Cond.code x code maxLocals ret, Jvm.Cond.code ({ cls := "com/example/wayfaring_tree/wayfaringtree/grammar/CharClass", name := "contains", desc := "(C)Z" } : Jvm.MethodName) prog_13_method_4_code (2 : Nat) (Option.some Jvm.ClassFile.FieldType.boolean), Jvm.Cond.code ({ cls := "com/example/wayfaring_tree/wayfaringtree/grammar/CharClassContainsPinLaw", name := "ref", desc := "(IC)Z" } : Jvm.MethodName) method_3_code (11 : Nat) (Option.some Jvm.ClassFile.FieldType.boolean)]
set_option maxRecDepth 65536 in
theorem codes_eq : words1.filter isCode = codes1 := rfl
theorem w_codes : ∀ c ∈ words1.filter isCode, c.before args0 about1 = true := by
  rw [codes_eq]
  intro c hc
  simp only [codes1, List.mem_cons, List.not_mem_nil, or_false] at hc
  rcases hc with rfl | rfl | rfl
  · exact w_c0
  · exact w_c1
  · exact w_c2
set_option maxRecDepth 65536 in
theorem w_t1 : (words1.take 24).all (fun c => isCode c || c.before args0 about1) = true := by decide +kernel
set_option maxRecDepth 65536 in
theorem w_t2 : (words1.drop 24).all (fun c => isCode c || c.before args0 about1) = true := by decide +kernel
theorem w_tables : (allAtoms (Jvm.Cond.code x code maxLocals ret :: tables_1)).before args0 about1 = true := by
  rw [allAtoms_all]
  show words1.all (fun c => c.before args0 about1) = true
  refine all_split ?_ w_codes
  rw [← List.take_append_drop 24 words1, List.all_append, w_t1, w_t2]
  rfl
set_option maxRecDepth 65536 in
theorem w_case : (Jvm.Cond.and given_1 narrow_1).before args0 about1 = true := by decide +kernel
theorem w_applies : (headSpec (Jvm.Cond.code x code maxLocals ret :: tables_1) room_1).applies x e0.platform about1 = true :=
  (Spec.applies_iff w_frames).mpr ⟨w_running, w_runnable, w_alone, w_named, w_hears, w_ripe, w_room, w_tables⟩
theorem atStart : AtStart classFile x code maxLocals ret World_1 tables_1 room_1 Calls_1 rest_1 Pre_1 launch0 p0 e0 about1 theMethod args0 below0 :=
  ⟨lists_1, trivial, launch0.admits_env _ _ _, launch0.least_env, fairChoices_fair.cas, fairChoices_fair.clock, w_frames, w_args, w_heap, w_applies, trivial, trivial, w_case⟩
end start1
theorem witness_1 : WitnessClaimed_1 := ⟨start1.p0, start1.e0, start1.about1, start1.theMethod, start1.args0, start1.below0, start1.atStart⟩
end Jvm.Pilot.@@N@@
