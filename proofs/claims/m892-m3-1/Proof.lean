import JvmDerived
import JvmDerived.Pilot.@@N@@Statement
import JvmDerived.Pilot.@@N@@Code
set_option linter.unusedVariables false
set_option linter.unusedSimpArgs false
namespace Jvm.RoadKit
open Sem ClassFile Op Lib Jvm.Stand Jvm.Free Jvm.LawKit
section Own
variable {p : Program} {l : Launch} {e : Env} {R : Room} {s : State} {m : MethodId} {args : Array Value} {below : List Frame} {meth : Method} {c : Code} {T T' : State} {locs : List Loc} {cells slots : Nat} {Q : Option Value → Heap → List Loc → Prop} {h : Heap}
/-- from T the invocation comes to an end of which P holds -/
def Ends (p : Program) (e : Env) (below : List Frame) (P : Outcome → State → Prop) (T : State) : Prop := ∃ s₂ o, Steps p.tables e below T s₂ ∧ s₂.status = .running ∧ Ended s₂ below o ∧ P o s₂
/-- the end of a body that interns nothing -/
def EndN (s : State) (R : Room) (Q : Option Value → Heap → List Loc → Prop) (o : Outcome) (s₂ : State) : Prop := ∃ v L, o = .returned v ∧ Q v s₂.heap L ∧ FrameEnd s o s₂ L R.cells R.slots
/-- the end of a body that may intern String constants -/
def EndW (s : State) (R : Room) (Z : State) (EL : List (String × Nat)) (Q : Option Value → Heap → List Loc → Prop) (o : Outcome) (s₂ : State) : Prop := ∃ v L, o = .returned v ∧ Q v s₂.heap L ∧ CHr Z EL s.vm s.heap s₂.vm s₂.heap ∧ ReturnedEndW s o s₂ L R.cells R.slots
theorem Ends.pre {P : Outcome → State → Prop} (k : ∀ t, Steps p.tables e below T' t → Steps p.tables e below T t) (h : Ends p e below P T') : Ends p e below P T := by
  obtain ⟨a, b, d, r⟩ := h
  exact ⟨a, b, k _ d, r⟩
theorem Ends.cast {P : Outcome → State → Prop} {g g' : JFrame} (q : g = g') (h : Ends p e below P (T.setTop g')) : Ends p e below P (T.setTop g) := q ▸ h
theorem Ends.ret (X : Stand p l e R s m args below meth c T locs cells slots) (hx : p.tables.exec = Jvm.exec) (hlk : meth.locks = false) {pc : Nat} {Ls : Array Slot} {w : Value} {t : FieldType} {i : Instr} {rest : List Value} (hret : meth.sig.returnType = some t) (hn : narrow t w = w)
    (hi : (i = .ireturn ∧ (t = .int ∨ t = .boolean ∨ t = .byte ∨ t = .char ∨ t = .short) ∧ ∃ z, w = .int z) ∨ (i = .lreturn ∧ t = .long ∧ ∃ z, w = .long z) ∨ (i = .dreturn ∧ t = .double ∧ ∃ z, w = .double z) ∨ (i = .freturn ∧ t = .float ∧ ∃ z, w = .float z) ∨ (i = .areturn ∧ t.isReference = true ∧ w.isRef = true))
    (hd : decode c.code pc = .ok (i, 1)) (eT : T.heap = h) (hq : Q (some w) h locs) (h1 : cells ≤ R.cells) (h2 : slots ≤ R.slots) : Ends p e below (EndN s R Q) (T.setTop (mkF m pc Ls (w :: rest))) := by
  obtain ⟨fs, hr, hrun, hended, hW, hsame⟩ := X.leave (v := some w) (fun q => by rw [hret] at q; cases q) hlk
  refine ⟨_, _, retOut X hx hret hn hi hd hr, hrun, hended, _, _, rfl, ?_, ⟨_, rfl⟩, hW, hsame.mono h1 h2⟩
  show Q (some w) T.heap locs
  rw [eT]; exact hq
theorem Ends.ret0 (X : Stand p l e R s m args below meth c T locs cells slots) (hx : p.tables.exec = Jvm.exec) (hlk : meth.locks = false) {pc : Nat} {Ls : Array Slot} (hret : meth.sig.returnType = none)
    (hd : decode c.code pc = .ok (.return_, 1)) (eT : T.heap = h) (hq : Q none h locs) (h1 : cells ≤ R.cells) (h2 : slots ≤ R.slots) : Ends p e below (EndN s R Q) (T.setTop (mkF m pc Ls [])) := by
  obtain ⟨fs, hr, hrun, hended, hW, hsame⟩ := X.leave (v := none) (fun _ => rfl) hlk
  refine ⟨_, _, X.returnOut hx hret hd hr, hrun, hended, _, _, rfl, ?_, ⟨_, rfl⟩, hW, hsame.mono h1 h2⟩
  show Q none T.heap locs
  rw [eT]; exact hq
theorem Ends.retW {Z : State} {a0 : Array Value} {EL : List (String × Nat)} {vm0 : Vm} {k0 : Nat} {h0 : Heap} (X : Stand p l e R (s.setVm vm0) m args below meth c T locs cells slots) (hx : p.tables.exec = Jvm.exec) (hlk : meth.locks = false) {pc : Nat} {Ls : Array Slot} {w : Value} {t : FieldType} {i : Instr} {rest : List Value} (hret : meth.sig.returnType = some t) (hn : narrow t w = w)
    (hi : (i = .ireturn ∧ (t = .int ∨ t = .boolean ∨ t = .byte ∨ t = .char ∨ t = .short) ∧ ∃ z, w = .int z) ∨ (i = .lreturn ∧ t = .long ∧ ∃ z, w = .long z) ∨ (i = .dreturn ∧ t = .double ∧ ∃ z, w = .double z) ∨ (i = .freturn ∧ t = .float ∧ ∃ z, w = .float z) ∨ (i = .areturn ∧ t.isReference = true ∧ w.isRef = true))
    (hd : decode c.code pc = .ok (i, 1)) (eT : T.heap = h) (hZ : Z.Warmed39 vm0) (hEL : EW Z a0 EL) (hS : s.Since vm0 k0) (hk : k0 ≤ h.size) (hh : s.heap = h0) (CR : CHr Z EL s.vm h0 vm0 h) (hq : Q (some w) h locs) (h1 : cells ≤ R.cells) (h2 : slots ≤ R.slots) : Ends p e below (EndW s R Z EL Q) (T.setTop (mkF m pc Ls (w :: rest))) := by
  subst eT hh
  obtain ⟨fs, hr, hrun, hended, r1, r2, r3, r4⟩ := X.leaveW hS hk (v := some w) (fun q => by rw [hret] at q; cases q) hlk
  have q := CR.trans (CHv.at X hZ hEL CR.1)
  exact ⟨_, _, retOut X hx hret hn hi hd hr, hrun, hended, _, _, rfl, hq, q, r1, r2, r3, r4.mono h1 h2⟩
theorem Ends.ret0W {Z : State} {a0 : Array Value} {EL : List (String × Nat)} {vm0 : Vm} {k0 : Nat} {h0 : Heap} (X : Stand p l e R (s.setVm vm0) m args below meth c T locs cells slots) (hx : p.tables.exec = Jvm.exec) (hlk : meth.locks = false) {pc : Nat} {Ls : Array Slot} (hret : meth.sig.returnType = none)
    (hd : decode c.code pc = .ok (.return_, 1)) (eT : T.heap = h) (hZ : Z.Warmed39 vm0) (hEL : EW Z a0 EL) (hS : s.Since vm0 k0) (hk : k0 ≤ h.size) (hh : s.heap = h0) (CR : CHr Z EL s.vm h0 vm0 h) (hq : Q none h locs) (h1 : cells ≤ R.cells) (h2 : slots ≤ R.slots) : Ends p e below (EndW s R Z EL Q) (T.setTop (mkF m pc Ls [])) := by
  subst eT hh
  obtain ⟨fs, hr, hrun, hended, r1, r2, r3, r4⟩ := X.leaveW hS hk (v := none) (fun _ => rfl) hlk
  have q := CR.trans (CHv.at X hZ hEL CR.1)
  exact ⟨_, _, X.returnOut hx hret hd hr, hrun, hended, _, _, rfl, hq, q, r1, r2, r3, r4.mono h1 h2⟩
/-- T' stands as T does -/
def SS (X : Stand p l e R s m args below meth c T locs cells slots) (T' : State) : Prop := Stand p l e R s m args below meth c T' locs cells slots
theorem Stand_mono {cells' slots' : Nat} (X : Stand p l e R s m args below meth c T locs cells slots) (h1 : cells ≤ cells') (h2 : slots ≤ slots') : Stand p l e R s m args below meth c T locs cells' slots' := { X with same := X.same.mono h1 h2 }
theorem lremM {g : JFrame} {target : State} (X : Stand p l e R s m args below meth c T locs cells slots) (hx : p.tables.exec = Jvm.exec) (hg : g.method = m) {x y : Int64} {rest : List Value} (hd : decode c.code g.pc = .ok (.lrem, 1)) (hs : g.stack = .long y :: .long x :: rest) (hy : y ≠ 0)
    (hr : Steps p.tables e below (T.setTop { g with pc := g.pc + 1, stack := .long (x % y) :: rest }) target) : Steps p.tables e below (T.setTop g) target :=
  XS.lrem X.here hx hg hd hs hy (by rw [lrem_mod]; exact hr)
theorem nf_via {y y' : MethodName} {m' : MethodId} (hn : s.methodNamed? y' = some m') (hc : y'.cls = y.cls) (nf : NotFace s y') : NotFace s y := fun r0 h0 => by
  obtain ⟨kr, h1, h2⟩ := nf _ hn
  have e1 := findClass_of_methodNamed hn
  have e2 := findClass_of_methodNamed h0
  rw [hc] at e1
  have e3 : m'.cls = r0.cls := Option.some.inj (e1.symm.trans e2)
  exact ⟨kr, e3 ▸ h1, h2⟩
theorem Sta_keep0 {Z : State} {h h' : Heap} {C n d : String} {v : Value} (F : Sta Z h C n d v) (K : Keep h h' []) : Sta Z h' C n d v := by
  obtain ⟨cf, i, k, f, st, cell, h1, h2, h3, h4, h5, r⟩ := F
  exact ⟨cf, i, k, f, st, cell, h1, h2, h3, h4, K.2.1 _ _ h5 nin0, r⟩
theorem Sta_keepW {Z : State} {h h' : Heap} {ws : List Addr} {C n d : String} {v : Value} (F : Sta Z h C n d v) (K : Keep h h' ws) (q : ∀ x ∈ ws, ∀ cell : Cell, h[x]? = some cell → cell.vm.isStatics = false) : Sta Z h' C n d v := by
  obtain ⟨cf, i, k, f, st, cell, h1, h2, h3, h4, h5, h6, r⟩ := F
  exact ⟨cf, i, k, f, st, cell, h1, h2, h3, h4, K.2.1 _ _ h5 (fun z => by have := q _ z _ h5; rw [h6] at this; cases this), h6, r⟩
theorem Ins_keep {Z : State} {h h' : Heap} {ws : List Addr} {a : Addr} {C : String} {b : Bool} (F : Ins Z h a C b) (K : Keep h h' ws) : Ins Z h' a C b := by
  obtain ⟨cell, cT, h1, h2, h3⟩ := F
  obtain ⟨c', q1, q2, q3, -⟩ := K.2.2 _ _ h1
  exact ⟨c', cT, q1, h2, by rw [q2, q3]; exact h3⟩
theorem Arr_keep0 {Z : State} {h h' : Heap} {a : Addr} {c : Cell} {ty : FieldType} (F : Arr Z h a c ty) (K : Keep h h' []) : Arr Z h' a c ty := ⟨K.2.1 _ _ F.1 nin0, F.2⟩
theorem NS_root' {Z : State} {a0 : Array Value} {O K : String} {n : Nat} (w : (Cond.noSuperclass O).before a0 Z = true) (wk : (Cond.instantiable K n).before a0 Z = true) (hn : O ≠ K) : NS Z O K := by
  obtain ⟨c, k, h1, h2, h3, -, -⟩ := Cond.noSuperclass_spec w
  obtain ⟨t, kt, g1, -⟩ := Cond.instantiable_spec wk
  have ne := ids_ne h1 g1 hn
  refine ⟨c, t, h1, g1, fun fuel => ?_⟩
  cases fuel with
  | zero => rfl
  | succ f => simp [Vm.isSubclassAux, ne, h2, h3]
theorem NS_no' {Z : State} {a0 : Array Value} {C S K : String} {n : Nat} (w : (Cond.superclass C S).before a0 Z = true) (wk : (Cond.instantiable K n).before a0 Z = true) (q : NS Z C K) (hn : C ≠ K) : ∃ c t, Z.vm.findClass C = some c ∧ Z.vm.findClass K = some t ∧ Z.vm.assignable c t = false := by
  obtain ⟨c, t, h0, g0, n3⟩ := q
  obtain ⟨p, k, kp, h1, h2, h3, h4, h5, -, h7⟩ := Cond.superclass_spec h0 w
  obtain ⟨t', k', g1, g2, g5, g7, -⟩ := Cond.instantiable_spec wk
  cases g0.symm.trans g1
  have ne := ids_ne h0 g0 hn
  have g8 : k'.isInterface = false := by
    cases hq : k'.isInterface with
    | false => rfl
    | true => simp [hq] at g7
  refine ⟨c, t, h0, g0, ?_⟩
  show Z.vm.assignableAux (255 + 1) c t = false
  simp [Vm.assignableAux, ne, h2, g2, h5, g5, g8, Vm.isSubclass, n3]
theorem Safe_null {Z : State} {EL : List (String × Nat)} {vm : Vm} {h : Heap} {x : Addr} (hal : Z.vm.Alike vm) (E : Exa Z h x "java/lang/String") (F : Fld Z h x "java/lang/String" "value" "[B" .null) : Safe Z EL vm h x := fun B => by
  obtain ⟨p, -, u, a, -, q, -, G, rfl | rfl⟩ := B
  · have ha : h[q.sa]? = some q.sC := G.ha
    obtain ⟨cS, ⟨⟨-, -, -, ⟨c1, k1, i1, f1, -⟩, -, -, -, v1, -⟩, -⟩, -⟩ := G
    obtain ⟨cell, cf, k, i, f, g1, g2, -, -, -, -, g7⟩ := F
    cases ha.symm.trans g1
    obtain ⟨k3, e3, -⟩ := State.fieldFound?_setVm (s := Z) hal g2
    have e4 := (show (Wst Z vm h).fieldFound? _ _ _ = _ from e3).symm.trans f1
    simp only [Option.some.injEq, Prod.mk.injEq] at e4
    rw [← e4.2.2.2, g7] at v1
    cases v1
  · have hd : h[q.sd]? = some q.SA := G.hd
    obtain ⟨cS, -, -, f, -⟩ := G
    obtain ⟨cell, k, e1, e2, -⟩ := E
    cases hd.symm.trans e1
    exact ids_ne e2 ((hal.findClass _ _).symm.trans f) (by decide) rfl
theorem sel_priv {args : Array Value} {n : Nat} {y : MethodName} (hy : y.cls ≠ "java/lang/invoke/MethodHandle" ∧ y.cls ≠ "java/lang/invoke/VarHandle") (hins : (Cond.instantiable y.cls n).before args s = true) (hpriv : (Cond.privateMethod y).before args s = true) (hinst : (Cond.instanceMethod y).before args s = true) : (Cond.selects y.cls y y).before args s = true := by
  obtain ⟨c, k, hc, hk, -, hniab, -, -⟩ := Cond.instantiable_spec hins
  have hni : k.isInterface = false := (Bool.or_eq_false_iff.mp hniab).1
  obtain ⟨mk, methM, hnamed, hmethM, -, -⟩ := Cond.instanceMethod_spec hinst
  have hfound : s.methodFound? y.cls y.name y.desc = some mk := State.methodFound?_of_named hnamed hy
  have hcls : mk.cls = c := Option.some.inj ((findClass_of_methodNamed hnamed).symm.trans hc)
  have hsel : selectMethod {} s.vm c mk = .method mk := selectMethod_private hmethM (Cond.privateMethod_at hpriv mk methM hnamed hmethM)
  simp only [Cond.before, Cond.holds, Cond.value, hc, hfound, hnamed, hsel, hcls, hk]
  simp; exact hni
theorem arv_ty {Z : State} {h : Heap} {a b : Addr} {k1 k2 : ClassId} {t1 t2 : FieldType} {z1 z2 : Int32} {v1 v2 : List Value} {d1 d2 : Value} (A : Arv Z h a k1 t1 z1 v1 d1) (B : Arv Z h b k2 t2 z2 v2 d2) (q : t1 ≠ t2) : a ≠ b := fun e => by
  subst e
  obtain ⟨c1, A1, -⟩ := A
  obtain ⟨c2, B1, -⟩ := B
  cases A1.1.symm.trans B1.1
  obtain ⟨-, k, h1, comp, h2⟩ := A1.2.1
  obtain ⟨-, k', h1', comp', h2'⟩ := B1.2.1
  cases h1.symm.trans h1'
  rw [h2] at h2'
  cases h2'
  exact q rfl
theorem eqI_v {first : State} {o : Option Outcome} {idx : List Nat} {a : Term} {k : Int32} (q : (Cond.eq a (.int k)).value args first o s idx = some true) : a.eval args first o idx s = some (.int k) := by
  cases ha : a.eval args first o idx s with
  | none => simp [Cond.value, ha] at q
  | some x => cases x <;> simp [Cond.value, ha, Term.eval] at q ⊢; exact q
theorem eqL_v {first : State} {o : Option Outcome} {idx : List Nat} {a : Term} {k : Int64} (q : (Cond.eq a (.long k)).value args first o s idx = some true) : a.eval args first o idx s = some (.long k) := by
  cases ha : a.eval args first o idx s with
  | none => simp [Cond.value, ha] at q
  | some x => cases x <;> simp [Cond.value, ha, Term.eval] at q ⊢; exact q
end Own
end Jvm.RoadKit
namespace Jvm.Pilot.@@N@@
open Jvm Jvm.ClassFile Sem Op Lib Jvm.Free Jvm.Stand Jvm.LawKit Jvm.RoadKit Bundle Jvm.Pilot.@@N@@.Jvm.D

theorem own_q1 (d : Int64) (h0 : 0 ≤ d.toInt) (h1 : d.toInt < 4611686018427387904) : ¬ ((d + (1 : Int64) - (1 : Int64)) / (1 : Int64)) < (0 : Int64) ∧ ¬ ((d / (1 : Int64)) + (1 : Int64)) < ((d + (1 : Int64) - (1 : Int64)) / (1 : Int64)) ∧ ¬ (((d + (1 : Int64) - (1 : Int64)) / (1 : Int64)) * (1 : Int64)) < d ∧ ((((d + (1 : Int64) - (1 : Int64)) / (1 : Int64)) - (1 : Int64)) * (1 : Int64)) < d := by
  have a1 := c_ladd d (1 : Int64)
  have a2 := c_lsub (d + (1 : Int64)) (1 : Int64)
  have a3 := rng64 (d + (1 : Int64))
  have a4 := rng64 (d + (1 : Int64) - (1 : Int64))
  have a5 := (c_ldiv (d + (1 : Int64) - (1 : Int64)) (1 : Int64) 1 (by decide) (by decide)).1
  have a6 := (c_ldiv d (1 : Int64) 1 (by decide) (by decide)).1
  have a7 := c_ladd (d / (1 : Int64)) (1 : Int64)
  have a8 := rng64 ((d / (1 : Int64)) + (1 : Int64))
  have a9 := c_lmul ((d + (1 : Int64) - (1 : Int64)) / (1 : Int64)) (1 : Int64)
  have b1 := rng64 (((d + (1 : Int64) - (1 : Int64)) / (1 : Int64)) * (1 : Int64))
  have b2 := c_lsub ((d + (1 : Int64) - (1 : Int64)) / (1 : Int64)) (1 : Int64)
  have b3 := rng64 (((d + (1 : Int64) - (1 : Int64)) / (1 : Int64)) - (1 : Int64))
  have b4 := c_lmul (((d + (1 : Int64) - (1 : Int64)) / (1 : Int64)) - (1 : Int64)) (1 : Int64)
  have b5 := rng64 ((((d + (1 : Int64) - (1 : Int64)) / (1 : Int64)) - (1 : Int64)) * (1 : Int64))
  have c1 : ((1 : Int64)).toInt = 1 := by decide
  have c2 : ((1 : Int64)).toInt = 1 := by decide
  have c3 : ((0 : Int64)).toInt = 0 := by decide
  rw [c1] at a1 a9 b4
  rw [c2] at a2 a7 b2
  simp only [Int64.lt_iff_toInt_lt, c3]
  generalize ((d + (1 : Int64) - (1 : Int64)) / (1 : Int64)) = s at *
  omega
theorem own_q1364 (d : Int64) (h0 : 0 ≤ d.toInt) (h1 : d.toInt < 4611686018427387904) : ¬ ((d + (1364 : Int64) - (1 : Int64)) / (1364 : Int64)) < (0 : Int64) ∧ ¬ ((d / (1364 : Int64)) + (1 : Int64)) < ((d + (1364 : Int64) - (1 : Int64)) / (1364 : Int64)) ∧ ¬ (((d + (1364 : Int64) - (1 : Int64)) / (1364 : Int64)) * (1364 : Int64)) < d ∧ ((((d + (1364 : Int64) - (1 : Int64)) / (1364 : Int64)) - (1 : Int64)) * (1364 : Int64)) < d := by
  have a1 := c_ladd d (1364 : Int64)
  have a2 := c_lsub (d + (1364 : Int64)) (1 : Int64)
  have a3 := rng64 (d + (1364 : Int64))
  have a4 := rng64 (d + (1364 : Int64) - (1 : Int64))
  have a5 := (c_ldiv (d + (1364 : Int64) - (1 : Int64)) (1364 : Int64) 1364 (by decide) (by decide)).1
  have a6 := (c_ldiv d (1364 : Int64) 1364 (by decide) (by decide)).1
  have a7 := c_ladd (d / (1364 : Int64)) (1 : Int64)
  have a8 := rng64 ((d / (1364 : Int64)) + (1 : Int64))
  have a9 := c_lmul ((d + (1364 : Int64) - (1 : Int64)) / (1364 : Int64)) (1364 : Int64)
  have b1 := rng64 (((d + (1364 : Int64) - (1 : Int64)) / (1364 : Int64)) * (1364 : Int64))
  have b2 := c_lsub ((d + (1364 : Int64) - (1 : Int64)) / (1364 : Int64)) (1 : Int64)
  have b3 := rng64 (((d + (1364 : Int64) - (1 : Int64)) / (1364 : Int64)) - (1 : Int64))
  have b4 := c_lmul (((d + (1364 : Int64) - (1 : Int64)) / (1364 : Int64)) - (1 : Int64)) (1364 : Int64)
  have b5 := rng64 ((((d + (1364 : Int64) - (1 : Int64)) / (1364 : Int64)) - (1 : Int64)) * (1364 : Int64))
  have c1 : ((1364 : Int64)).toInt = 1364 := by decide
  have c2 : ((1 : Int64)).toInt = 1 := by decide
  have c3 : ((0 : Int64)).toInt = 0 := by decide
  rw [c1] at a1 a9 b4
  rw [c2] at a2 a7 b2
  simp only [Int64.lt_iff_toInt_lt, c3]
  generalize ((d + (1364 : Int64) - (1 : Int64)) / (1364 : Int64)) = s at *
  omega
theorem own_q1032 (d : Int64) (h0 : 0 ≤ d.toInt) (h1 : d.toInt < 4611686018427387904) : ¬ ((d + (1032 : Int64) - (1 : Int64)) / (1032 : Int64)) < (0 : Int64) ∧ ¬ ((d / (1032 : Int64)) + (1 : Int64)) < ((d + (1032 : Int64) - (1 : Int64)) / (1032 : Int64)) ∧ ¬ (((d + (1032 : Int64) - (1 : Int64)) / (1032 : Int64)) * (1032 : Int64)) < d ∧ ((((d + (1032 : Int64) - (1 : Int64)) / (1032 : Int64)) - (1 : Int64)) * (1032 : Int64)) < d := by
  have a1 := c_ladd d (1032 : Int64)
  have a2 := c_lsub (d + (1032 : Int64)) (1 : Int64)
  have a3 := rng64 (d + (1032 : Int64))
  have a4 := rng64 (d + (1032 : Int64) - (1 : Int64))
  have a5 := (c_ldiv (d + (1032 : Int64) - (1 : Int64)) (1032 : Int64) 1032 (by decide) (by decide)).1
  have a6 := (c_ldiv d (1032 : Int64) 1032 (by decide) (by decide)).1
  have a7 := c_ladd (d / (1032 : Int64)) (1 : Int64)
  have a8 := rng64 ((d / (1032 : Int64)) + (1 : Int64))
  have a9 := c_lmul ((d + (1032 : Int64) - (1 : Int64)) / (1032 : Int64)) (1032 : Int64)
  have b1 := rng64 (((d + (1032 : Int64) - (1 : Int64)) / (1032 : Int64)) * (1032 : Int64))
  have b2 := c_lsub ((d + (1032 : Int64) - (1 : Int64)) / (1032 : Int64)) (1 : Int64)
  have b3 := rng64 (((d + (1032 : Int64) - (1 : Int64)) / (1032 : Int64)) - (1 : Int64))
  have b4 := c_lmul (((d + (1032 : Int64) - (1 : Int64)) / (1032 : Int64)) - (1 : Int64)) (1032 : Int64)
  have b5 := rng64 ((((d + (1032 : Int64) - (1 : Int64)) / (1032 : Int64)) - (1 : Int64)) * (1032 : Int64))
  have c1 : ((1032 : Int64)).toInt = 1032 := by decide
  have c2 : ((1 : Int64)).toInt = 1 := by decide
  have c3 : ((0 : Int64)).toInt = 0 := by decide
  rw [c1] at a1 a9 b4
  rw [c2] at a2 a7 b2
  simp only [Int64.lt_iff_toInt_lt, c3]
  generalize ((d + (1032 : Int64) - (1 : Int64)) / (1032 : Int64)) = s at *
  omega
theorem own_q64 (d : Int64) (h0 : 0 ≤ d.toInt) (h1 : d.toInt < 4611686018427387904) : ¬ ((d + (64 : Int64) - (1 : Int64)) / (64 : Int64)) < (0 : Int64) ∧ ¬ ((d / (64 : Int64)) + (1 : Int64)) < ((d + (64 : Int64) - (1 : Int64)) / (64 : Int64)) ∧ ¬ (((d + (64 : Int64) - (1 : Int64)) / (64 : Int64)) * (64 : Int64)) < d ∧ ((((d + (64 : Int64) - (1 : Int64)) / (64 : Int64)) - (1 : Int64)) * (64 : Int64)) < d := by
  have a1 := c_ladd d (64 : Int64)
  have a2 := c_lsub (d + (64 : Int64)) (1 : Int64)
  have a3 := rng64 (d + (64 : Int64))
  have a4 := rng64 (d + (64 : Int64) - (1 : Int64))
  have a5 := (c_ldiv (d + (64 : Int64) - (1 : Int64)) (64 : Int64) 64 (by decide) (by decide)).1
  have a6 := (c_ldiv d (64 : Int64) 64 (by decide) (by decide)).1
  have a7 := c_ladd (d / (64 : Int64)) (1 : Int64)
  have a8 := rng64 ((d / (64 : Int64)) + (1 : Int64))
  have a9 := c_lmul ((d + (64 : Int64) - (1 : Int64)) / (64 : Int64)) (64 : Int64)
  have b1 := rng64 (((d + (64 : Int64) - (1 : Int64)) / (64 : Int64)) * (64 : Int64))
  have b2 := c_lsub ((d + (64 : Int64) - (1 : Int64)) / (64 : Int64)) (1 : Int64)
  have b3 := rng64 (((d + (64 : Int64) - (1 : Int64)) / (64 : Int64)) - (1 : Int64))
  have b4 := c_lmul (((d + (64 : Int64) - (1 : Int64)) / (64 : Int64)) - (1 : Int64)) (64 : Int64)
  have b5 := rng64 ((((d + (64 : Int64) - (1 : Int64)) / (64 : Int64)) - (1 : Int64)) * (64 : Int64))
  have c1 : ((64 : Int64)).toInt = 64 := by decide
  have c2 : ((1 : Int64)).toInt = 1 := by decide
  have c3 : ((0 : Int64)).toInt = 0 := by decide
  rw [c1] at a1 a9 b4
  rw [c2] at a2 a7 b2
  simp only [Int64.lt_iff_toInt_lt, c3]
  generalize ((d + (64 : Int64) - (1 : Int64)) / (64 : Int64)) = s at *
  omega
theorem d1_0 : decode prog_5_method_8_code 0 = .ok (.lload_n 1, 1) := by decide +kernel
theorem d1_1 : decode prog_5_method_8_code 1 = .ok (.aload_n 0, 1) := by decide +kernel
theorem d1_2 : decode prog_5_method_8_code 2 = .ok (.getfield 39, 3) := by decide +kernel
theorem d1_5 : decode prog_5_method_8_code 5 = .ok (.ladd, 1) := by decide +kernel
theorem d1_6 : decode prog_5_method_8_code 6 = .ok (.lconst 1, 1) := by decide +kernel
theorem d1_7 : decode prog_5_method_8_code 7 = .ok (.lsub, 1) := by decide +kernel
theorem d1_8 : decode prog_5_method_8_code 8 = .ok (.aload_n 0, 1) := by decide +kernel
theorem d1_9 : decode prog_5_method_8_code 9 = .ok (.getfield 39, 3) := by decide +kernel
theorem d1_12 : decode prog_5_method_8_code 12 = .ok (.ldiv, 1) := by decide +kernel
theorem d1_13 : decode prog_5_method_8_code 13 = .ok (.lreturn, 1) := by decide +kernel
theorem pn_0 : plainName "org/lumiclear/io/Compression" = true := by first | (simp [plainName, overriddenIn]; done) | decide +kernel
theorem ef_rm1 (m : MethodId) (x0 : Addr) (x1 : Int64) : entryFrame m #[(.ref x0), (.long x1)] 3 = mkF m 0 #[.val (.ref x0), .val (.long x1), .second] [] := by first | (simp [entryFrame, mkF, argsToLocals, Value.category]; done) | rfl
def Q_rm1 (Z : State) (a : Addr) (q : Int64) (ex : Int64) (h0 : Heap) (n0 : Nat) (v : Option Value) (h : Heap) (L : List Loc) : Prop := v = some (.long ((q + ex - (1 : Int64)) / ex)) ∧ Fr n0 L ∧ h = h0
set_option maxRecDepth 65536 in
set_option maxHeartbeats 40000000 in
theorem rm1 (l : Launch) (Z : State) (a0 : Array Value) (hw : ∀ d ∈ tables_1, d.before a0 Z = true) (ws : List Jvm.Cond) (a : Addr) (q : Int64) (ex : Int64) (h0 : Heap) (n0 : Nat) (Z0 : n0 ≤ h0.size) (FE : Fld Z h0 a "org/lumiclear/io/Compression" "expansion" "J" (.long ex)) (hnz : ex ≠ 0) :
    MetFree l (⟨"org/lumiclear/io/Compression", "leastStored", "(J)J"⟩ : MethodName) (head1 (Jvm.Cond.code (⟨"org/lumiclear/io/Compression", "leastStored", "(J)J"⟩ : MethodName) prog_5_method_8_code 3 (some .long) :: ws) ({ frames := 0, cells := 0, slots := 0, locals := 0 } : Room)) (fun aa_ U => aa_ = #[(.ref a), (.long q)] ∧ Z.Warmed39 U.vm ∧ U.heap = h0) (fun _ _ _ _ _ => True) (fun _ U o U' => ∃ v L, o = .returned v ∧ Q_rm1 Z a q ex h0 n0 v U'.heap L ∧ FrameEnd U o U' L ({ frames := 0, cells := 0, slots := 0, locals := 0 } : Room).cells ({ frames := 0, cells := 0, slots := 0, locals := 0 } : Room).slots) := by
  refine MetFree.of_bodySF (plainFor_of_name pn_0) hisR ?_
  intro p e s m args below meth c s₁ Bd hml0 hP hK
  obtain ⟨rfl, hZ, hh⟩ := hP
  have hx := Bd.exec
  have hby := Bd.bytes
  have hml : c.maxLocals = 3 := hml0
  have hown : s.vm.findClass "org/lumiclear/io/Compression" = some m.cls := findClass_of_methodNamed Bd.named
  have hnm := (name_of_methodNamed Bd.named Bd.method).1
  have X0 : Stand p l e ({ frames := 0, cells := 0, slots := 0, locals := 0 } : Room) s m #[(.ref a), (.long q)] below meth c s₁ [] 0 0 := Stand.of_body Bd
  have e0 : s₁.heap = h0 := by rw [← hh, Bd.state]; rfl
  have N0 := Fr.nil n0
  refine Ends.cast (P := EndN s ({ frames := 0, cells := 0, slots := 0, locals := 0 } : Room) (Q_rm1 Z a q ex h0 n0)) (ef_rm1 m a q) ?_
  refine Ends.pre (T' := s₁.setTop (mkF m 1 #[.val (.ref a), .val (.long q), .second] [(.long q)])) (fun t k => XS.lloadN X0.here hx rfl (hb hby d1_0) rfl k) ?_
  refine Ends.pre (T' := s₁.setTop (mkF m 2 #[.val (.ref a), .val (.long q), .second] [(.ref a), (.long q)])) (fun t k => XS.aloadN X0.here hx rfl (hb hby d1_1) rfl rfl k) ?_
  obtain ⟨T1, X1, e1, st1⟩ := getF X0 hx hZ hown (host := "") (Or.inl (hw _ (List.mem_of_getElem? (i := 9) rfl))) Via.refl e0 FE (g := (mkF m 2 #[.val (.ref a), .val (.long q), .second] [(.ref a), (.long q)])) rfl rfl (hb hby d1_2)
  refine Ends.pre (T' := T1.setTop (mkF m 5 #[.val (.ref a), .val (.long q), .second] [(.long ex), (.long q)])) (fun t k => st1 _ k) ?_
  refine Ends.pre (T' := T1.setTop (mkF m 6 #[.val (.ref a), .val (.long q), .second] [(.long (q + ex))])) (fun t k => XS.ladd X1.here hx rfl (hb hby d1_5) rfl k) ?_
  refine Ends.pre (T' := T1.setTop (mkF m 7 #[.val (.ref a), .val (.long q), .second] [(.long (1 : Int64)), (.long (q + ex))])) (fun t k => XS.lconst X1.here hx rfl (hb hby d1_6) k) ?_
  refine Ends.pre (T' := T1.setTop (mkF m 8 #[.val (.ref a), .val (.long q), .second] [(.long ((q + ex) - (1 : Int64)))])) (fun t k => XS.lsub X1.here hx rfl (hb hby d1_7) rfl k) ?_
  refine Ends.pre (T' := T1.setTop (mkF m 9 #[.val (.ref a), .val (.long q), .second] [(.ref a), (.long ((q + ex) - (1 : Int64)))])) (fun t k => XS.aloadN X1.here hx rfl (hb hby d1_8) rfl rfl k) ?_
  obtain ⟨T2, X2, e2, st2⟩ := getF X1 hx hZ hown (host := "") (Or.inl (hw _ (List.mem_of_getElem? (i := 9) rfl))) Via.refl e1 FE (g := (mkF m 9 #[.val (.ref a), .val (.long q), .second] [(.ref a), (.long ((q + ex) - (1 : Int64)))])) rfl rfl (hb hby d1_9)
  refine Ends.pre (T' := T2.setTop (mkF m 12 #[.val (.ref a), .val (.long q), .second] [(.long ex), (.long ((q + ex) - (1 : Int64)))])) (fun t k => st2 _ k) ?_
  refine Ends.pre (T' := T2.setTop (mkF m 13 #[.val (.ref a), .val (.long q), .second] [(.long (((q + ex) - (1 : Int64)) / ex))])) (fun t k => XS.ldiv X2.here hx rfl (hb hby d1_12) rfl hnz k) ?_
  exact Ends.ret (w := (.long (((q + ex) - (1 : Int64)) / ex))) X2 hx Bd.notSynchronized Bd.returns rfl (Or.inr (Or.inl ⟨rfl, rfl, _, rfl⟩)) (hb hby d1_13) e2 ⟨rfl, N0, rfl⟩ (by decide) (by decide)
theorem pd_0 : parseMethodDescriptor "(J)J" = some ⟨[.long], some .long⟩ := by decide +kernel
theorem pn_1 : plainName "org/lumiclear/io/CompressionLeastStoredPinLaw" = true := by first | (simp [plainName, overriddenIn]; done) | decide +kernel
theorem ef_rm0 (m : MethodId) (x0 : Int32) (x1 : Int64) : entryFrame m #[(.int x0), (.long x1)] maxLocals = mkF m 0 #[.val (.int x0), .val (.long x1), .second, .unset, .unset, .unset, .unset, .unset, .unset, .unset, .unset] [] := by first | (simp [entryFrame, mkF, argsToLocals, Value.category, maxLocals]; done) | rfl
def Q_rm0 (Z : State) (x0 : Int32) (x1 : Int64) (wNONE : Addr) (wLZW : Addr) (wDEFLATE : Addr) (wPACKBITS : Addr) (h0 : Heap) (n0 : Nat) (v : Option Value) (h : Heap) (L : List Loc) : Prop := v = some (.int 1) ∧ Fr n0 L
set_option maxRecDepth 65536 in
set_option maxHeartbeats 40000000 in
theorem rm0 (l : Launch) (Z : State) (a0 : Array Value) (hw : ∀ d ∈ tables_1, d.before a0 Z = true) (ws : List Jvm.Cond) (x0 : Int32) (x1 : Int64) (wNONE : Addr) (wLZW : Addr) (wDEFLATE : Addr) (wPACKBITS : Addr) (h0 : Heap) (n0 : Nat) (Z0 : n0 ≤ h0.size) (S_NONE : Sta Z h0 "org/lumiclear/io/Compression" "NONE" "Lorg/lumiclear/io/Compression;" (.ref wNONE)) (S_LZW : Sta Z h0 "org/lumiclear/io/Compression" "LZW" "Lorg/lumiclear/io/Compression;" (.ref wLZW)) (S_DEFLATE : Sta Z h0 "org/lumiclear/io/Compression" "DEFLATE" "Lorg/lumiclear/io/Compression;" (.ref wDEFLATE)) (S_PACKBITS : Sta Z h0 "org/lumiclear/io/Compression" "PACKBITS" "Lorg/lumiclear/io/Compression;" (.ref wPACKBITS)) (E_NONE : Exa Z h0 wNONE "org/lumiclear/io/Compression") (E_LZW : Exa Z h0 wLZW "org/lumiclear/io/Compression") (E_DEFLATE : Exa Z h0 wDEFLATE "org/lumiclear/io/Compression") (E_PACKBITS : Exa Z h0 wPACKBITS "org/lumiclear/io/Compression") (F_NONE : Fld Z h0 wNONE "org/lumiclear/io/Compression" "expansion" "J" (.long (1 : Int64))) (F_LZW : Fld Z h0 wLZW "org/lumiclear/io/Compression" "expansion" "J" (.long (1364 : Int64))) (F_DEFLATE : Fld Z h0 wDEFLATE "org/lumiclear/io/Compression" "expansion" "J" (.long (1032 : Int64))) (F_PACKBITS : Fld Z h0 wPACKBITS "org/lumiclear/io/Compression" "expansion" "J" (.long (64 : Int64))) :
    MetFree l x (head1 (Jvm.Cond.code x code maxLocals ret :: ws) room_1) (fun aa_ U => aa_ = #[(.int x0), (.long x1)] ∧ Z.Warmed39 U.vm ∧ U.heap = h0) (fun _ _ _ _ _ => True) (fun _ U o U' => ∃ v L, o = .returned v ∧ Q_rm0 Z x0 x1 wNONE wLZW wDEFLATE wPACKBITS h0 n0 v U'.heap L ∧ FrameEnd U o U' L room_1.cells room_1.slots) := by
  refine MetFree.of_bodySF (plainFor_of_name pn_1) hisR ?_
  intro p e s m args below meth c s₁ Bd hml0 hP hK
  obtain ⟨rfl, hZ, hh⟩ := hP
  have hx := Bd.exec
  have hby := Bd.bytes
  have hml : c.maxLocals = 11 := hml0
  have hown : s.vm.findClass "org/lumiclear/io/CompressionLeastStoredPinLaw" = some m.cls := findClass_of_methodNamed Bd.named
  have hnm := (name_of_methodNamed Bd.named Bd.method).1
  have X0 : Stand p l e room_1 s m #[(.int x0), (.long x1)] below meth c s₁ [] 0 0 := Stand.of_body Bd
  have e0 : s₁.heap = h0 := by rw [← hh, Bd.state]; rfl
  have N0 := Fr.nil n0
  refine Ends.cast (P := EndN s room_1 (Q_rm0 Z x0 x1 wNONE wLZW wDEFLATE wPACKBITS h0 n0)) (ef_rm0 m x0 x1) ?_
  refine Ends.pre (T' := s₁.setTop (mkF m 1 #[.val (.int x0), .val (.long x1), .second, .unset, .unset, .unset, .unset, .unset, .unset, .unset, .unset] [(.int x0)])) (fun t k => XS.iloadN X0.here hx rfl (hb hby at_0) rfl k) ?_
  refine Ends.pre (T' := s₁.setTop (mkF m 2 #[.val (.int x0), .val (.long x1), .second, .unset, .unset, .unset, .unset, .unset, .unset, .unset, .unset] [(.int (3 : Int32)), (.int x0)])) (fun t k => XS.iconst X0.here hx rfl (hb hby at_1) k) ?_
  refine Ends.pre (T' := s₁.setTop (mkF m 3 #[.val (.int x0), .val (.long x1), .second, .unset, .unset, .unset, .unset, .unset, .unset, .unset, .unset] [(.int (x0 &&& (3 : Int32)))])) (fun t k => XS.iand X0.here hx rfl (hb hby at_2) rfl k) ?_
  refine Ends.pre (T' := s₁.setTop (mkF m 4 #[.val (.int x0), .val (.long x1), .second, .val (.int (x0 &&& (3 : Int32))), .unset, .unset, .unset, .unset, .unset, .unset, .unset] [])) (fun t k => XS.istoreN X0.here hx rfl (hb hby at_3) rfl (l' := #[.val (.int x0), .val (.long x1), .second, .val (.int (x0 &&& (3 : Int32))), .unset, .unset, .unset, .unset, .unset, .unset, .unset]) rfl k) ?_
  generalize hv_kk : (x0 &&& (3 : Int32)) = kk
  refine Ends.pre (T' := s₁.setTop (mkF m 5 #[.val (.int x0), .val (.long x1), .second, .val (.int kk), .unset, .unset, .unset, .unset, .unset, .unset, .unset] [(.int kk)])) (fun t k => XS.iloadN X0.here hx rfl (hb hby at_4) rfl k) ?_
  by_cases hc5_1 : kk = 0
  · refine Ends.pre (T' := s₁.setTop (mkF m 8 #[.val (.int x0), .val (.long x1), .second, .val (.int kk), .unset, .unset, .unset, .unset, .unset, .unset, .unset] [])) (fun t k => XS.ifNo X0.here hx rfl (hb hby at_5) rfl (Jvm.Free.XT.i0_ne_f hc5_1) k) ?_
    obtain ⟨T2, X2, e2, st2⟩ := getS2 X0 hx hZ hown (host := "") (Or.inl (hw _ (List.mem_of_getElem? (i := 0) rfl))) Via.refl e0 S_NONE (g := (mkF m 8 #[.val (.int x0), .val (.long x1), .second, .val (.int kk), .unset, .unset, .unset, .unset, .unset, .unset, .unset] [])) rfl (hb hby at_8)
    refine Ends.pre (T' := T2.setTop (mkF m 11 #[.val (.int x0), .val (.long x1), .second, .val (.int kk), .unset, .unset, .unset, .unset, .unset, .unset, .unset] [(.ref wNONE)])) (fun t k => st2 _ k) ?_
    refine Ends.pre (T' := T2.setTop (mkF m 13 #[.val (.int x0), .val (.long x1), .second, .val (.int kk), .val (.ref wNONE), .unset, .unset, .unset, .unset, .unset, .unset] [])) (fun t k => XS.astore X2.here hx rfl (hb hby at_11) rfl rfl (l' := #[.val (.int x0), .val (.long x1), .second, .val (.int kk), .val (.ref wNONE), .unset, .unset, .unset, .unset, .unset, .unset]) rfl k) ?_
    refine Ends.pre (T' := T2.setTop (mkF m 14 #[.val (.int x0), .val (.long x1), .second, .val (.int kk), .val (.ref wNONE), .unset, .unset, .unset, .unset, .unset, .unset] [(.long (1 : Int64))])) (fun t k => XS.lconst X2.here hx rfl (hb hby at_13) k) ?_
    refine Ends.pre (T' := T2.setTop (mkF m 16 #[.val (.int x0), .val (.long x1), .second, .val (.int kk), .val (.ref wNONE), .val (.long (1 : Int64)), .second, .unset, .unset, .unset, .unset] [])) (fun t k => XS.lstore X2.here hx rfl (hb hby at_14) rfl (l' := #[.val (.int x0), .val (.long x1), .second, .val (.int kk), .val (.ref wNONE), .val (.long (1 : Int64)), .second, .unset, .unset, .unset, .unset]) rfl k) ?_
    refine Ends.pre (T' := T2.setTop (mkF m 65 #[.val (.int x0), .val (.long x1), .second, .val (.int kk), .val (.ref wNONE), .val (.long (1 : Int64)), .second, .unset, .unset, .unset, .unset] [])) (fun t k => XS.goto X2.here hx rfl (pc0 := 16) (pc' := 65) rfl (hb hby at_16) (by decide) (by decide) k) ?_
    refine Ends.pre (T' := T2.setTop (mkF m 66 #[.val (.int x0), .val (.long x1), .second, .val (.int kk), .val (.ref wNONE), .val (.long (1 : Int64)), .second, .unset, .unset, .unset, .unset] [(.long x1)])) (fun t k => XS.lloadN X2.here hx rfl (hb hby at_65) rfl k) ?_
    refine Ends.pre (T' := T2.setTop (mkF m 69 #[.val (.int x0), .val (.long x1), .second, .val (.int kk), .val (.ref wNONE), .val (.long (1 : Int64)), .second, .unset, .unset, .unset, .unset] [(.long (4611686018427387903 : Int64)), (.long x1)])) (fun t k => X2.ldc2Long (index := 28) (v := (4611686018427387903 : Int64)) hx hown (mvT hZ (hw _ (List.mem_of_getElem? (i := 3) rfl))) (g := (mkF m 66 #[.val (.int x0), .val (.long x1), .second, .val (.int kk), .val (.ref wNONE), .val (.long (1 : Int64)), .second, .unset, .unset, .unset, .unset] [(.long x1)])) rfl (hb hby at_66) t k) ?_
    refine Ends.pre (T' := T2.setTop (mkF m 70 #[.val (.int x0), .val (.long x1), .second, .val (.int kk), .val (.ref wNONE), .val (.long (1 : Int64)), .second, .unset, .unset, .unset, .unset] [(.long (x1 &&& (4611686018427387903 : Int64)))])) (fun t k => XS.land X2.here hx rfl (hb hby at_69) rfl k) ?_
    refine Ends.pre (T' := T2.setTop (mkF m 72 #[.val (.int x0), .val (.long x1), .second, .val (.int kk), .val (.ref wNONE), .val (.long (1 : Int64)), .second, .val (.long (x1 &&& (4611686018427387903 : Int64))), .second, .unset, .unset] [])) (fun t k => XS.lstore X2.here hx rfl (hb hby at_70) rfl (l' := #[.val (.int x0), .val (.long x1), .second, .val (.int kk), .val (.ref wNONE), .val (.long (1 : Int64)), .second, .val (.long (x1 &&& (4611686018427387903 : Int64))), .second, .unset, .unset]) rfl k) ?_
    generalize hv_dd : (x1 &&& (4611686018427387903 : Int64)) = dd
    have hd := c_maskL x1 (4611686018427387903 : Int64) 62 (by decide) (by decide)
    rw [hv_dd] at hd
    refine Ends.pre (T' := T2.setTop (mkF m 74 #[.val (.int x0), .val (.long x1), .second, .val (.int kk), .val (.ref wNONE), .val (.long (1 : Int64)), .second, .val (.long dd), .second, .unset, .unset] [(.ref wNONE)])) (fun t k => XS.aload X2.here hx rfl (hb hby at_72) rfl rfl k) ?_
    refine Ends.pre (T' := T2.setTop (mkF m 76 #[.val (.int x0), .val (.long x1), .second, .val (.int kk), .val (.ref wNONE), .val (.long (1 : Int64)), .second, .val (.long dd), .second, .unset, .unset] [(.long dd), (.ref wNONE)])) (fun t k => XS.lload X2.here hx rfl (hb hby at_74) rfl k) ?_
    obtain ⟨cq3, kq3, q3a, q3b, q3c⟩ := isOf hZ e2 E_NONE
    obtain ⟨_, _, ⟨T3, L3, k3, n3⟩, -, X3, ⟨Lc3, hQ3, l3, y3, z3⟩, st3⟩ := X2.virtualBack hx (y := (⟨"org/lumiclear/io/Compression", "leastStored", "(J)J"⟩ : MethodName)) (z := (⟨"org/lumiclear/io/Compression", "leastStored", "(J)J"⟩ : MethodName)) hown (mvT hZ (hw _ (List.mem_of_getElem? (i := 4) rfl))) (mvT hZ (hw _ (List.mem_of_getElem? (i := 5) rfl))) (notFace_of_selects (args := #[]) (mvT hZ (hw _ (List.mem_of_getElem? (i := 7) rfl)))) (mvT hZ (hw _ (List.mem_of_getElem? (i := 7) rfl))) (mvT hZ (hw _ (List.mem_of_getElem? (i := 6) rfl))) (by decide) (backOf (W := 0) (rm1 l Z a0 hw [] wNONE dd (1 : Int64) h0 n0 Z0 F_NONE (by decide)) hZ (hw _ (List.mem_of_getElem? (i := 8) rfl)) (hw _ (List.mem_of_getElem? (i := 1) rfl)) (by decide) (by decide)) q3a q3c (g := (mkF m 76 #[.val (.int x0), .val (.long x1), .second, .val (.int kk), .val (.ref wNONE), .val (.long (1 : Int64)), .second, .val (.long dd), .second, .unset, .unset] [(.long dd), (.ref wNONE)])) rfl (by rw [hml]; rfl) (Steps.refl _) (argsL := [(.long dd)]) (rest := []) (lenOf pd_0 rfl) rfl (by show 2 * 0 + _ ≤ _; exact Nat.le_of_eq rfl) (hb hby at_76) (fun _ _ => ⟨rfl, e2, (by decide : 0 + 0 ≤ _), (by decide : 0 + 0 ≤ _)⟩)
    dsimp only [Pt.U, Pt.locs, Pt.cells, Pt.slots] at X3 l3 y3 z3 st3 hQ3
    subst l3 y3 z3
    obtain ⟨rfl, N3q, eh3⟩ := hQ3
    have N3 := Fr.app N0 N3q
    refine Ends.pre (T' := T3.setTop (mkF m 79 #[.val (.int x0), .val (.long x1), .second, .val (.int kk), .val (.ref wNONE), .val (.long (1 : Int64)), .second, .val (.long dd), .second, .unset, .unset] [(.long ((dd + (1 : Int64) - (1 : Int64)) / (1 : Int64)))])) (fun t k => st3.trans k) ?_
    refine Ends.pre (T' := T3.setTop (mkF m 81 #[.val (.int x0), .val (.long x1), .second, .val (.int kk), .val (.ref wNONE), .val (.long (1 : Int64)), .second, .val (.long dd), .second, .val (.long ((dd + (1 : Int64) - (1 : Int64)) / (1 : Int64))), .second] [])) (fun t k => XS.lstore X3.here hx rfl (hb hby at_79) rfl (l' := #[.val (.int x0), .val (.long x1), .second, .val (.int kk), .val (.ref wNONE), .val (.long (1 : Int64)), .second, .val (.long dd), .second, .val (.long ((dd + (1 : Int64) - (1 : Int64)) / (1 : Int64))), .second]) rfl k) ?_
    generalize hv_ss : ((dd + (1 : Int64) - (1 : Int64)) / (1 : Int64)) = ss
    have hq := own_q1 dd (by omega) (by omega)
    rw [hv_ss] at hq
    obtain ⟨q1, q2, q3, q4⟩ := hq
    refine Ends.pre (T' := T3.setTop (mkF m 83 #[.val (.int x0), .val (.long x1), .second, .val (.int kk), .val (.ref wNONE), .val (.long (1 : Int64)), .second, .val (.long dd), .second, .val (.long ss), .second] [(.long ss)])) (fun t k => XS.lload X3.here hx rfl (hb hby at_81) rfl k) ?_
    refine Ends.pre (T' := T3.setTop (mkF m 84 #[.val (.int x0), .val (.long x1), .second, .val (.int kk), .val (.ref wNONE), .val (.long (1 : Int64)), .second, .val (.long dd), .second, .val (.long ss), .second] [(.long (0 : Int64)), (.long ss)])) (fun t k => XS.lconst X3.here hx rfl (hb hby at_83) k) ?_
    refine Ends.pre (T' := T3.setTop (mkF m 85 #[.val (.int x0), .val (.long x1), .second, .val (.int kk), .val (.ref wNONE), .val (.long (1 : Int64)), .second, .val (.long dd), .second, .val (.long ss), .second] [(.int (lcmpW ss (0 : Int64)))])) (fun t k => XS.lcmp X3.here hx rfl (hb hby at_84) rfl k) ?_
    by_cases hc85_4 : ss < (0 : Int64)
    · exact absurd hc85_4 q1
    · refine Ends.pre (T' := T3.setTop (mkF m 90 #[.val (.int x0), .val (.long x1), .second, .val (.int kk), .val (.ref wNONE), .val (.long (1 : Int64)), .second, .val (.long dd), .second, .val (.long ss), .second] [])) (fun t k => XS.ifYes X3.here hx rfl (pc0 := 85) (pc' := 90) rfl (hb hby at_85) rfl (Jvm.Free.XT.i0_ge_t (fun q => hc85_4 ((lw_lt _ _).mp q))) (by decide) (by decide) k) ?_
      refine Ends.pre (T' := T3.setTop (mkF m 92 #[.val (.int x0), .val (.long x1), .second, .val (.int kk), .val (.ref wNONE), .val (.long (1 : Int64)), .second, .val (.long dd), .second, .val (.long ss), .second] [(.long ss)])) (fun t k => XS.lload X3.here hx rfl (hb hby at_90) rfl k) ?_
      refine Ends.pre (T' := T3.setTop (mkF m 94 #[.val (.int x0), .val (.long x1), .second, .val (.int kk), .val (.ref wNONE), .val (.long (1 : Int64)), .second, .val (.long dd), .second, .val (.long ss), .second] [(.long dd), (.long ss)])) (fun t k => XS.lload X3.here hx rfl (hb hby at_92) rfl k) ?_
      refine Ends.pre (T' := T3.setTop (mkF m 96 #[.val (.int x0), .val (.long x1), .second, .val (.int kk), .val (.ref wNONE), .val (.long (1 : Int64)), .second, .val (.long dd), .second, .val (.long ss), .second] [(.long (1 : Int64)), (.long dd), (.long ss)])) (fun t k => XS.lload X3.here hx rfl (hb hby at_94) rfl k) ?_
      refine Ends.pre (T' := T3.setTop (mkF m 97 #[.val (.int x0), .val (.long x1), .second, .val (.int kk), .val (.ref wNONE), .val (.long (1 : Int64)), .second, .val (.long dd), .second, .val (.long ss), .second] [(.long (dd / (1 : Int64))), (.long ss)])) (fun t k => XS.ldiv X3.here hx rfl (hb hby at_96) rfl (by decide) k) ?_
      refine Ends.pre (T' := T3.setTop (mkF m 98 #[.val (.int x0), .val (.long x1), .second, .val (.int kk), .val (.ref wNONE), .val (.long (1 : Int64)), .second, .val (.long dd), .second, .val (.long ss), .second] [(.long (1 : Int64)), (.long (dd / (1 : Int64))), (.long ss)])) (fun t k => XS.lconst X3.here hx rfl (hb hby at_97) k) ?_
      refine Ends.pre (T' := T3.setTop (mkF m 99 #[.val (.int x0), .val (.long x1), .second, .val (.int kk), .val (.ref wNONE), .val (.long (1 : Int64)), .second, .val (.long dd), .second, .val (.long ss), .second] [(.long ((dd / (1 : Int64)) + (1 : Int64))), (.long ss)])) (fun t k => XS.ladd X3.here hx rfl (hb hby at_98) rfl k) ?_
      refine Ends.pre (T' := T3.setTop (mkF m 100 #[.val (.int x0), .val (.long x1), .second, .val (.int kk), .val (.ref wNONE), .val (.long (1 : Int64)), .second, .val (.long dd), .second, .val (.long ss), .second] [(.int (lcmpW ss ((dd / (1 : Int64)) + (1 : Int64))))])) (fun t k => XS.lcmp X3.here hx rfl (hb hby at_99) rfl k) ?_
      by_cases hc100_5 : ((dd / (1 : Int64)) + (1 : Int64)) < ss
      · exact absurd hc100_5 q2
      · refine Ends.pre (T' := T3.setTop (mkF m 105 #[.val (.int x0), .val (.long x1), .second, .val (.int kk), .val (.ref wNONE), .val (.long (1 : Int64)), .second, .val (.long dd), .second, .val (.long ss), .second] [])) (fun t k => XS.ifYes X3.here hx rfl (pc0 := 100) (pc' := 105) rfl (hb hby at_100) rfl (Jvm.Free.XT.i0_le_t (fun q => hc100_5 ((lw_gt _ _).mp q))) (by decide) (by decide) k) ?_
        refine Ends.pre (T' := T3.setTop (mkF m 107 #[.val (.int x0), .val (.long x1), .second, .val (.int kk), .val (.ref wNONE), .val (.long (1 : Int64)), .second, .val (.long dd), .second, .val (.long ss), .second] [(.long ss)])) (fun t k => XS.lload X3.here hx rfl (hb hby at_105) rfl k) ?_
        refine Ends.pre (T' := T3.setTop (mkF m 109 #[.val (.int x0), .val (.long x1), .second, .val (.int kk), .val (.ref wNONE), .val (.long (1 : Int64)), .second, .val (.long dd), .second, .val (.long ss), .second] [(.long (1 : Int64)), (.long ss)])) (fun t k => XS.lload X3.here hx rfl (hb hby at_107) rfl k) ?_
        refine Ends.pre (T' := T3.setTop (mkF m 110 #[.val (.int x0), .val (.long x1), .second, .val (.int kk), .val (.ref wNONE), .val (.long (1 : Int64)), .second, .val (.long dd), .second, .val (.long ss), .second] [(.long (ss * (1 : Int64)))])) (fun t k => XS.lmul X3.here hx rfl (hb hby at_109) rfl k) ?_
        refine Ends.pre (T' := T3.setTop (mkF m 112 #[.val (.int x0), .val (.long x1), .second, .val (.int kk), .val (.ref wNONE), .val (.long (1 : Int64)), .second, .val (.long dd), .second, .val (.long ss), .second] [(.long dd), (.long (ss * (1 : Int64)))])) (fun t k => XS.lload X3.here hx rfl (hb hby at_110) rfl k) ?_
        refine Ends.pre (T' := T3.setTop (mkF m 113 #[.val (.int x0), .val (.long x1), .second, .val (.int kk), .val (.ref wNONE), .val (.long (1 : Int64)), .second, .val (.long dd), .second, .val (.long ss), .second] [(.int (lcmpW (ss * (1 : Int64)) dd))])) (fun t k => XS.lcmp X3.here hx rfl (hb hby at_112) rfl k) ?_
        by_cases hc113_6 : (ss * (1 : Int64)) < dd
        · exact absurd hc113_6 q3
        · refine Ends.pre (T' := T3.setTop (mkF m 118 #[.val (.int x0), .val (.long x1), .second, .val (.int kk), .val (.ref wNONE), .val (.long (1 : Int64)), .second, .val (.long dd), .second, .val (.long ss), .second] [])) (fun t k => XS.ifYes X3.here hx rfl (pc0 := 113) (pc' := 118) rfl (hb hby at_113) rfl (Jvm.Free.XT.i0_ge_t (fun q => hc113_6 ((lw_lt _ _).mp q))) (by decide) (by decide) k) ?_
          refine Ends.pre (T' := T3.setTop (mkF m 120 #[.val (.int x0), .val (.long x1), .second, .val (.int kk), .val (.ref wNONE), .val (.long (1 : Int64)), .second, .val (.long dd), .second, .val (.long ss), .second] [(.long ss)])) (fun t k => XS.lload X3.here hx rfl (hb hby at_118) rfl k) ?_
          refine Ends.pre (T' := T3.setTop (mkF m 121 #[.val (.int x0), .val (.long x1), .second, .val (.int kk), .val (.ref wNONE), .val (.long (1 : Int64)), .second, .val (.long dd), .second, .val (.long ss), .second] [(.long (0 : Int64)), (.long ss)])) (fun t k => XS.lconst X3.here hx rfl (hb hby at_120) k) ?_
          refine Ends.pre (T' := T3.setTop (mkF m 122 #[.val (.int x0), .val (.long x1), .second, .val (.int kk), .val (.ref wNONE), .val (.long (1 : Int64)), .second, .val (.long dd), .second, .val (.long ss), .second] [(.int (lcmpW ss (0 : Int64)))])) (fun t k => XS.lcmp X3.here hx rfl (hb hby at_121) rfl k) ?_
          by_cases hc122_7 : (0 : Int64) < ss
          · refine Ends.pre (T' := T3.setTop (mkF m 125 #[.val (.int x0), .val (.long x1), .second, .val (.int kk), .val (.ref wNONE), .val (.long (1 : Int64)), .second, .val (.long dd), .second, .val (.long ss), .second] [])) (fun t k => XS.ifNo X3.here hx rfl (hb hby at_122) rfl (Jvm.Free.XT.i0_le_f ((lw_gt _ _).mpr hc122_7)) k) ?_
            refine Ends.pre (T' := T3.setTop (mkF m 127 #[.val (.int x0), .val (.long x1), .second, .val (.int kk), .val (.ref wNONE), .val (.long (1 : Int64)), .second, .val (.long dd), .second, .val (.long ss), .second] [(.long ss)])) (fun t k => XS.lload X3.here hx rfl (hb hby at_125) rfl k) ?_
            refine Ends.pre (T' := T3.setTop (mkF m 128 #[.val (.int x0), .val (.long x1), .second, .val (.int kk), .val (.ref wNONE), .val (.long (1 : Int64)), .second, .val (.long dd), .second, .val (.long ss), .second] [(.long (1 : Int64)), (.long ss)])) (fun t k => XS.lconst X3.here hx rfl (hb hby at_127) k) ?_
            refine Ends.pre (T' := T3.setTop (mkF m 129 #[.val (.int x0), .val (.long x1), .second, .val (.int kk), .val (.ref wNONE), .val (.long (1 : Int64)), .second, .val (.long dd), .second, .val (.long ss), .second] [(.long (ss - (1 : Int64)))])) (fun t k => XS.lsub X3.here hx rfl (hb hby at_128) rfl k) ?_
            refine Ends.pre (T' := T3.setTop (mkF m 131 #[.val (.int x0), .val (.long x1), .second, .val (.int kk), .val (.ref wNONE), .val (.long (1 : Int64)), .second, .val (.long dd), .second, .val (.long ss), .second] [(.long (1 : Int64)), (.long (ss - (1 : Int64)))])) (fun t k => XS.lload X3.here hx rfl (hb hby at_129) rfl k) ?_
            refine Ends.pre (T' := T3.setTop (mkF m 132 #[.val (.int x0), .val (.long x1), .second, .val (.int kk), .val (.ref wNONE), .val (.long (1 : Int64)), .second, .val (.long dd), .second, .val (.long ss), .second] [(.long ((ss - (1 : Int64)) * (1 : Int64)))])) (fun t k => XS.lmul X3.here hx rfl (hb hby at_131) rfl k) ?_
            refine Ends.pre (T' := T3.setTop (mkF m 134 #[.val (.int x0), .val (.long x1), .second, .val (.int kk), .val (.ref wNONE), .val (.long (1 : Int64)), .second, .val (.long dd), .second, .val (.long ss), .second] [(.long dd), (.long ((ss - (1 : Int64)) * (1 : Int64)))])) (fun t k => XS.lload X3.here hx rfl (hb hby at_132) rfl k) ?_
            refine Ends.pre (T' := T3.setTop (mkF m 135 #[.val (.int x0), .val (.long x1), .second, .val (.int kk), .val (.ref wNONE), .val (.long (1 : Int64)), .second, .val (.long dd), .second, .val (.long ss), .second] [(.int (lcmpW ((ss - (1 : Int64)) * (1 : Int64)) dd))])) (fun t k => XS.lcmp X3.here hx rfl (hb hby at_134) rfl k) ?_
            by_cases hc135_8 : ((ss - (1 : Int64)) * (1 : Int64)) < dd
            · refine Ends.pre (T' := T3.setTop (mkF m 140 #[.val (.int x0), .val (.long x1), .second, .val (.int kk), .val (.ref wNONE), .val (.long (1 : Int64)), .second, .val (.long dd), .second, .val (.long ss), .second] [])) (fun t k => XS.ifYes X3.here hx rfl (pc0 := 135) (pc' := 140) rfl (hb hby at_135) rfl (Jvm.Free.XT.i0_lt_t ((lw_lt _ _).mpr hc135_8)) (by decide) (by decide) k) ?_
              refine Ends.pre (T' := T3.setTop (mkF m 141 #[.val (.int x0), .val (.long x1), .second, .val (.int kk), .val (.ref wNONE), .val (.long (1 : Int64)), .second, .val (.long dd), .second, .val (.long ss), .second] [(.int (1 : Int32))])) (fun t k => XS.iconst X3.here hx rfl (hb hby at_140) k) ?_
              exact Ends.ret (w := (.int (1 : Int32))) X3 hx Bd.notSynchronized Bd.returns rfl (Or.inl ⟨rfl, Or.inr (Or.inl rfl), _, rfl⟩) (hb hby at_141) eh3 ⟨rfl, N3⟩ (by decide) (by decide)
            · exact absurd q4 hc135_8
          · refine Ends.pre (T' := T3.setTop (mkF m 140 #[.val (.int x0), .val (.long x1), .second, .val (.int kk), .val (.ref wNONE), .val (.long (1 : Int64)), .second, .val (.long dd), .second, .val (.long ss), .second] [])) (fun t k => XS.ifYes X3.here hx rfl (pc0 := 122) (pc' := 140) rfl (hb hby at_122) rfl (Jvm.Free.XT.i0_le_t (fun q => hc122_7 ((lw_gt _ _).mp q))) (by decide) (by decide) k) ?_
            refine Ends.pre (T' := T3.setTop (mkF m 141 #[.val (.int x0), .val (.long x1), .second, .val (.int kk), .val (.ref wNONE), .val (.long (1 : Int64)), .second, .val (.long dd), .second, .val (.long ss), .second] [(.int (1 : Int32))])) (fun t k => XS.iconst X3.here hx rfl (hb hby at_140) k) ?_
            exact Ends.ret (w := (.int (1 : Int32))) X3 hx Bd.notSynchronized Bd.returns rfl (Or.inl ⟨rfl, Or.inr (Or.inl rfl), _, rfl⟩) (hb hby at_141) eh3 ⟨rfl, N3⟩ (by decide) (by decide)
  · refine Ends.pre (T' := s₁.setTop (mkF m 19 #[.val (.int x0), .val (.long x1), .second, .val (.int kk), .unset, .unset, .unset, .unset, .unset, .unset, .unset] [])) (fun t k => XS.ifYes X0.here hx rfl (pc0 := 5) (pc' := 19) rfl (hb hby at_5) rfl (Jvm.Free.XT.i0_ne_t hc5_1) (by decide) (by decide) k) ?_
    refine Ends.pre (T' := s₁.setTop (mkF m 20 #[.val (.int x0), .val (.long x1), .second, .val (.int kk), .unset, .unset, .unset, .unset, .unset, .unset, .unset] [(.int kk)])) (fun t k => XS.iloadN X0.here hx rfl (hb hby at_19) rfl k) ?_
    refine Ends.pre (T' := s₁.setTop (mkF m 21 #[.val (.int x0), .val (.long x1), .second, .val (.int kk), .unset, .unset, .unset, .unset, .unset, .unset, .unset] [(.int (1 : Int32)), (.int kk)])) (fun t k => XS.iconst X0.here hx rfl (hb hby at_20) k) ?_
    by_cases hc21_9 : kk = (1 : Int32)
    · refine Ends.pre (T' := s₁.setTop (mkF m 24 #[.val (.int x0), .val (.long x1), .second, .val (.int kk), .unset, .unset, .unset, .unset, .unset, .unset, .unset] [])) (fun t k => XS.icmpNo X0.here hx rfl (hb hby at_21) rfl (Jvm.Free.XT.ii_ne_f hc21_9) k) ?_
      obtain ⟨T10, X10, e10, st10⟩ := getS2 X0 hx hZ hown (host := "") (Or.inl (hw _ (List.mem_of_getElem? (i := 11) rfl))) Via.refl e0 S_LZW (g := (mkF m 24 #[.val (.int x0), .val (.long x1), .second, .val (.int kk), .unset, .unset, .unset, .unset, .unset, .unset, .unset] [])) rfl (hb hby at_24)
      refine Ends.pre (T' := T10.setTop (mkF m 27 #[.val (.int x0), .val (.long x1), .second, .val (.int kk), .unset, .unset, .unset, .unset, .unset, .unset, .unset] [(.ref wLZW)])) (fun t k => st10 _ k) ?_
      refine Ends.pre (T' := T10.setTop (mkF m 29 #[.val (.int x0), .val (.long x1), .second, .val (.int kk), .val (.ref wLZW), .unset, .unset, .unset, .unset, .unset, .unset] [])) (fun t k => XS.astore X10.here hx rfl (hb hby at_27) rfl rfl (l' := #[.val (.int x0), .val (.long x1), .second, .val (.int kk), .val (.ref wLZW), .unset, .unset, .unset, .unset, .unset, .unset]) rfl k) ?_
      refine Ends.pre (T' := T10.setTop (mkF m 32 #[.val (.int x0), .val (.long x1), .second, .val (.int kk), .val (.ref wLZW), .unset, .unset, .unset, .unset, .unset, .unset] [(.long (1364 : Int64))])) (fun t k => X10.ldc2Long (index := 16) (v := (1364 : Int64)) hx hown (mvT hZ (hw _ (List.mem_of_getElem? (i := 13) rfl))) (g := (mkF m 29 #[.val (.int x0), .val (.long x1), .second, .val (.int kk), .val (.ref wLZW), .unset, .unset, .unset, .unset, .unset, .unset] [])) rfl (hb hby at_29) t k) ?_
      refine Ends.pre (T' := T10.setTop (mkF m 34 #[.val (.int x0), .val (.long x1), .second, .val (.int kk), .val (.ref wLZW), .val (.long (1364 : Int64)), .second, .unset, .unset, .unset, .unset] [])) (fun t k => XS.lstore X10.here hx rfl (hb hby at_32) rfl (l' := #[.val (.int x0), .val (.long x1), .second, .val (.int kk), .val (.ref wLZW), .val (.long (1364 : Int64)), .second, .unset, .unset, .unset, .unset]) rfl k) ?_
      refine Ends.pre (T' := T10.setTop (mkF m 65 #[.val (.int x0), .val (.long x1), .second, .val (.int kk), .val (.ref wLZW), .val (.long (1364 : Int64)), .second, .unset, .unset, .unset, .unset] [])) (fun t k => XS.goto X10.here hx rfl (pc0 := 34) (pc' := 65) rfl (hb hby at_34) (by decide) (by decide) k) ?_
      refine Ends.pre (T' := T10.setTop (mkF m 66 #[.val (.int x0), .val (.long x1), .second, .val (.int kk), .val (.ref wLZW), .val (.long (1364 : Int64)), .second, .unset, .unset, .unset, .unset] [(.long x1)])) (fun t k => XS.lloadN X10.here hx rfl (hb hby at_65) rfl k) ?_
      refine Ends.pre (T' := T10.setTop (mkF m 69 #[.val (.int x0), .val (.long x1), .second, .val (.int kk), .val (.ref wLZW), .val (.long (1364 : Int64)), .second, .unset, .unset, .unset, .unset] [(.long (4611686018427387903 : Int64)), (.long x1)])) (fun t k => X10.ldc2Long (index := 28) (v := (4611686018427387903 : Int64)) hx hown (mvT hZ (hw _ (List.mem_of_getElem? (i := 3) rfl))) (g := (mkF m 66 #[.val (.int x0), .val (.long x1), .second, .val (.int kk), .val (.ref wLZW), .val (.long (1364 : Int64)), .second, .unset, .unset, .unset, .unset] [(.long x1)])) rfl (hb hby at_66) t k) ?_
      refine Ends.pre (T' := T10.setTop (mkF m 70 #[.val (.int x0), .val (.long x1), .second, .val (.int kk), .val (.ref wLZW), .val (.long (1364 : Int64)), .second, .unset, .unset, .unset, .unset] [(.long (x1 &&& (4611686018427387903 : Int64)))])) (fun t k => XS.land X10.here hx rfl (hb hby at_69) rfl k) ?_
      refine Ends.pre (T' := T10.setTop (mkF m 72 #[.val (.int x0), .val (.long x1), .second, .val (.int kk), .val (.ref wLZW), .val (.long (1364 : Int64)), .second, .val (.long (x1 &&& (4611686018427387903 : Int64))), .second, .unset, .unset] [])) (fun t k => XS.lstore X10.here hx rfl (hb hby at_70) rfl (l' := #[.val (.int x0), .val (.long x1), .second, .val (.int kk), .val (.ref wLZW), .val (.long (1364 : Int64)), .second, .val (.long (x1 &&& (4611686018427387903 : Int64))), .second, .unset, .unset]) rfl k) ?_
      generalize hv_dd : (x1 &&& (4611686018427387903 : Int64)) = dd
      have hd := c_maskL x1 (4611686018427387903 : Int64) 62 (by decide) (by decide)
      rw [hv_dd] at hd
      refine Ends.pre (T' := T10.setTop (mkF m 74 #[.val (.int x0), .val (.long x1), .second, .val (.int kk), .val (.ref wLZW), .val (.long (1364 : Int64)), .second, .val (.long dd), .second, .unset, .unset] [(.ref wLZW)])) (fun t k => XS.aload X10.here hx rfl (hb hby at_72) rfl rfl k) ?_
      refine Ends.pre (T' := T10.setTop (mkF m 76 #[.val (.int x0), .val (.long x1), .second, .val (.int kk), .val (.ref wLZW), .val (.long (1364 : Int64)), .second, .val (.long dd), .second, .unset, .unset] [(.long dd), (.ref wLZW)])) (fun t k => XS.lload X10.here hx rfl (hb hby at_74) rfl k) ?_
      obtain ⟨cq11, kq11, q11a, q11b, q11c⟩ := isOf hZ e10 E_LZW
      obtain ⟨_, _, ⟨T11, L11, k11, n11⟩, -, X11, ⟨Lc11, hQ11, l11, y11, z11⟩, st11⟩ := X10.virtualBack hx (y := (⟨"org/lumiclear/io/Compression", "leastStored", "(J)J"⟩ : MethodName)) (z := (⟨"org/lumiclear/io/Compression", "leastStored", "(J)J"⟩ : MethodName)) hown (mvT hZ (hw _ (List.mem_of_getElem? (i := 4) rfl))) (mvT hZ (hw _ (List.mem_of_getElem? (i := 5) rfl))) (notFace_of_selects (args := #[]) (mvT hZ (hw _ (List.mem_of_getElem? (i := 7) rfl)))) (mvT hZ (hw _ (List.mem_of_getElem? (i := 7) rfl))) (mvT hZ (hw _ (List.mem_of_getElem? (i := 6) rfl))) (by decide) (backOf (W := 0) (rm1 l Z a0 hw [] wLZW dd (1364 : Int64) h0 n0 Z0 F_LZW (by decide)) hZ (hw _ (List.mem_of_getElem? (i := 8) rfl)) (hw _ (List.mem_of_getElem? (i := 1) rfl)) (by decide) (by decide)) q11a q11c (g := (mkF m 76 #[.val (.int x0), .val (.long x1), .second, .val (.int kk), .val (.ref wLZW), .val (.long (1364 : Int64)), .second, .val (.long dd), .second, .unset, .unset] [(.long dd), (.ref wLZW)])) rfl (by rw [hml]; rfl) (Steps.refl _) (argsL := [(.long dd)]) (rest := []) (lenOf pd_0 rfl) rfl (by show 2 * 0 + _ ≤ _; exact Nat.le_of_eq rfl) (hb hby at_76) (fun _ _ => ⟨rfl, e10, (by decide : 0 + 0 ≤ _), (by decide : 0 + 0 ≤ _)⟩)
      dsimp only [Pt.U, Pt.locs, Pt.cells, Pt.slots] at X11 l11 y11 z11 st11 hQ11
      subst l11 y11 z11
      obtain ⟨rfl, N11q, eh11⟩ := hQ11
      have N11 := Fr.app N0 N11q
      refine Ends.pre (T' := T11.setTop (mkF m 79 #[.val (.int x0), .val (.long x1), .second, .val (.int kk), .val (.ref wLZW), .val (.long (1364 : Int64)), .second, .val (.long dd), .second, .unset, .unset] [(.long ((dd + (1364 : Int64) - (1 : Int64)) / (1364 : Int64)))])) (fun t k => st11.trans k) ?_
      refine Ends.pre (T' := T11.setTop (mkF m 81 #[.val (.int x0), .val (.long x1), .second, .val (.int kk), .val (.ref wLZW), .val (.long (1364 : Int64)), .second, .val (.long dd), .second, .val (.long ((dd + (1364 : Int64) - (1 : Int64)) / (1364 : Int64))), .second] [])) (fun t k => XS.lstore X11.here hx rfl (hb hby at_79) rfl (l' := #[.val (.int x0), .val (.long x1), .second, .val (.int kk), .val (.ref wLZW), .val (.long (1364 : Int64)), .second, .val (.long dd), .second, .val (.long ((dd + (1364 : Int64) - (1 : Int64)) / (1364 : Int64))), .second]) rfl k) ?_
      generalize hv_ss : ((dd + (1364 : Int64) - (1 : Int64)) / (1364 : Int64)) = ss
      have hq := own_q1364 dd (by omega) (by omega)
      rw [hv_ss] at hq
      obtain ⟨q1, q2, q3, q4⟩ := hq
      refine Ends.pre (T' := T11.setTop (mkF m 83 #[.val (.int x0), .val (.long x1), .second, .val (.int kk), .val (.ref wLZW), .val (.long (1364 : Int64)), .second, .val (.long dd), .second, .val (.long ss), .second] [(.long ss)])) (fun t k => XS.lload X11.here hx rfl (hb hby at_81) rfl k) ?_
      refine Ends.pre (T' := T11.setTop (mkF m 84 #[.val (.int x0), .val (.long x1), .second, .val (.int kk), .val (.ref wLZW), .val (.long (1364 : Int64)), .second, .val (.long dd), .second, .val (.long ss), .second] [(.long (0 : Int64)), (.long ss)])) (fun t k => XS.lconst X11.here hx rfl (hb hby at_83) k) ?_
      refine Ends.pre (T' := T11.setTop (mkF m 85 #[.val (.int x0), .val (.long x1), .second, .val (.int kk), .val (.ref wLZW), .val (.long (1364 : Int64)), .second, .val (.long dd), .second, .val (.long ss), .second] [(.int (lcmpW ss (0 : Int64)))])) (fun t k => XS.lcmp X11.here hx rfl (hb hby at_84) rfl k) ?_
      by_cases hc85_12 : ss < (0 : Int64)
      · exact absurd hc85_12 q1
      · refine Ends.pre (T' := T11.setTop (mkF m 90 #[.val (.int x0), .val (.long x1), .second, .val (.int kk), .val (.ref wLZW), .val (.long (1364 : Int64)), .second, .val (.long dd), .second, .val (.long ss), .second] [])) (fun t k => XS.ifYes X11.here hx rfl (pc0 := 85) (pc' := 90) rfl (hb hby at_85) rfl (Jvm.Free.XT.i0_ge_t (fun q => hc85_12 ((lw_lt _ _).mp q))) (by decide) (by decide) k) ?_
        refine Ends.pre (T' := T11.setTop (mkF m 92 #[.val (.int x0), .val (.long x1), .second, .val (.int kk), .val (.ref wLZW), .val (.long (1364 : Int64)), .second, .val (.long dd), .second, .val (.long ss), .second] [(.long ss)])) (fun t k => XS.lload X11.here hx rfl (hb hby at_90) rfl k) ?_
        refine Ends.pre (T' := T11.setTop (mkF m 94 #[.val (.int x0), .val (.long x1), .second, .val (.int kk), .val (.ref wLZW), .val (.long (1364 : Int64)), .second, .val (.long dd), .second, .val (.long ss), .second] [(.long dd), (.long ss)])) (fun t k => XS.lload X11.here hx rfl (hb hby at_92) rfl k) ?_
        refine Ends.pre (T' := T11.setTop (mkF m 96 #[.val (.int x0), .val (.long x1), .second, .val (.int kk), .val (.ref wLZW), .val (.long (1364 : Int64)), .second, .val (.long dd), .second, .val (.long ss), .second] [(.long (1364 : Int64)), (.long dd), (.long ss)])) (fun t k => XS.lload X11.here hx rfl (hb hby at_94) rfl k) ?_
        refine Ends.pre (T' := T11.setTop (mkF m 97 #[.val (.int x0), .val (.long x1), .second, .val (.int kk), .val (.ref wLZW), .val (.long (1364 : Int64)), .second, .val (.long dd), .second, .val (.long ss), .second] [(.long (dd / (1364 : Int64))), (.long ss)])) (fun t k => XS.ldiv X11.here hx rfl (hb hby at_96) rfl (by decide) k) ?_
        refine Ends.pre (T' := T11.setTop (mkF m 98 #[.val (.int x0), .val (.long x1), .second, .val (.int kk), .val (.ref wLZW), .val (.long (1364 : Int64)), .second, .val (.long dd), .second, .val (.long ss), .second] [(.long (1 : Int64)), (.long (dd / (1364 : Int64))), (.long ss)])) (fun t k => XS.lconst X11.here hx rfl (hb hby at_97) k) ?_
        refine Ends.pre (T' := T11.setTop (mkF m 99 #[.val (.int x0), .val (.long x1), .second, .val (.int kk), .val (.ref wLZW), .val (.long (1364 : Int64)), .second, .val (.long dd), .second, .val (.long ss), .second] [(.long ((dd / (1364 : Int64)) + (1 : Int64))), (.long ss)])) (fun t k => XS.ladd X11.here hx rfl (hb hby at_98) rfl k) ?_
        refine Ends.pre (T' := T11.setTop (mkF m 100 #[.val (.int x0), .val (.long x1), .second, .val (.int kk), .val (.ref wLZW), .val (.long (1364 : Int64)), .second, .val (.long dd), .second, .val (.long ss), .second] [(.int (lcmpW ss ((dd / (1364 : Int64)) + (1 : Int64))))])) (fun t k => XS.lcmp X11.here hx rfl (hb hby at_99) rfl k) ?_
        by_cases hc100_13 : ((dd / (1364 : Int64)) + (1 : Int64)) < ss
        · exact absurd hc100_13 q2
        · refine Ends.pre (T' := T11.setTop (mkF m 105 #[.val (.int x0), .val (.long x1), .second, .val (.int kk), .val (.ref wLZW), .val (.long (1364 : Int64)), .second, .val (.long dd), .second, .val (.long ss), .second] [])) (fun t k => XS.ifYes X11.here hx rfl (pc0 := 100) (pc' := 105) rfl (hb hby at_100) rfl (Jvm.Free.XT.i0_le_t (fun q => hc100_13 ((lw_gt _ _).mp q))) (by decide) (by decide) k) ?_
          refine Ends.pre (T' := T11.setTop (mkF m 107 #[.val (.int x0), .val (.long x1), .second, .val (.int kk), .val (.ref wLZW), .val (.long (1364 : Int64)), .second, .val (.long dd), .second, .val (.long ss), .second] [(.long ss)])) (fun t k => XS.lload X11.here hx rfl (hb hby at_105) rfl k) ?_
          refine Ends.pre (T' := T11.setTop (mkF m 109 #[.val (.int x0), .val (.long x1), .second, .val (.int kk), .val (.ref wLZW), .val (.long (1364 : Int64)), .second, .val (.long dd), .second, .val (.long ss), .second] [(.long (1364 : Int64)), (.long ss)])) (fun t k => XS.lload X11.here hx rfl (hb hby at_107) rfl k) ?_
          refine Ends.pre (T' := T11.setTop (mkF m 110 #[.val (.int x0), .val (.long x1), .second, .val (.int kk), .val (.ref wLZW), .val (.long (1364 : Int64)), .second, .val (.long dd), .second, .val (.long ss), .second] [(.long (ss * (1364 : Int64)))])) (fun t k => XS.lmul X11.here hx rfl (hb hby at_109) rfl k) ?_
          refine Ends.pre (T' := T11.setTop (mkF m 112 #[.val (.int x0), .val (.long x1), .second, .val (.int kk), .val (.ref wLZW), .val (.long (1364 : Int64)), .second, .val (.long dd), .second, .val (.long ss), .second] [(.long dd), (.long (ss * (1364 : Int64)))])) (fun t k => XS.lload X11.here hx rfl (hb hby at_110) rfl k) ?_
          refine Ends.pre (T' := T11.setTop (mkF m 113 #[.val (.int x0), .val (.long x1), .second, .val (.int kk), .val (.ref wLZW), .val (.long (1364 : Int64)), .second, .val (.long dd), .second, .val (.long ss), .second] [(.int (lcmpW (ss * (1364 : Int64)) dd))])) (fun t k => XS.lcmp X11.here hx rfl (hb hby at_112) rfl k) ?_
          by_cases hc113_14 : (ss * (1364 : Int64)) < dd
          · exact absurd hc113_14 q3
          · refine Ends.pre (T' := T11.setTop (mkF m 118 #[.val (.int x0), .val (.long x1), .second, .val (.int kk), .val (.ref wLZW), .val (.long (1364 : Int64)), .second, .val (.long dd), .second, .val (.long ss), .second] [])) (fun t k => XS.ifYes X11.here hx rfl (pc0 := 113) (pc' := 118) rfl (hb hby at_113) rfl (Jvm.Free.XT.i0_ge_t (fun q => hc113_14 ((lw_lt _ _).mp q))) (by decide) (by decide) k) ?_
            refine Ends.pre (T' := T11.setTop (mkF m 120 #[.val (.int x0), .val (.long x1), .second, .val (.int kk), .val (.ref wLZW), .val (.long (1364 : Int64)), .second, .val (.long dd), .second, .val (.long ss), .second] [(.long ss)])) (fun t k => XS.lload X11.here hx rfl (hb hby at_118) rfl k) ?_
            refine Ends.pre (T' := T11.setTop (mkF m 121 #[.val (.int x0), .val (.long x1), .second, .val (.int kk), .val (.ref wLZW), .val (.long (1364 : Int64)), .second, .val (.long dd), .second, .val (.long ss), .second] [(.long (0 : Int64)), (.long ss)])) (fun t k => XS.lconst X11.here hx rfl (hb hby at_120) k) ?_
            refine Ends.pre (T' := T11.setTop (mkF m 122 #[.val (.int x0), .val (.long x1), .second, .val (.int kk), .val (.ref wLZW), .val (.long (1364 : Int64)), .second, .val (.long dd), .second, .val (.long ss), .second] [(.int (lcmpW ss (0 : Int64)))])) (fun t k => XS.lcmp X11.here hx rfl (hb hby at_121) rfl k) ?_
            by_cases hc122_15 : (0 : Int64) < ss
            · refine Ends.pre (T' := T11.setTop (mkF m 125 #[.val (.int x0), .val (.long x1), .second, .val (.int kk), .val (.ref wLZW), .val (.long (1364 : Int64)), .second, .val (.long dd), .second, .val (.long ss), .second] [])) (fun t k => XS.ifNo X11.here hx rfl (hb hby at_122) rfl (Jvm.Free.XT.i0_le_f ((lw_gt _ _).mpr hc122_15)) k) ?_
              refine Ends.pre (T' := T11.setTop (mkF m 127 #[.val (.int x0), .val (.long x1), .second, .val (.int kk), .val (.ref wLZW), .val (.long (1364 : Int64)), .second, .val (.long dd), .second, .val (.long ss), .second] [(.long ss)])) (fun t k => XS.lload X11.here hx rfl (hb hby at_125) rfl k) ?_
              refine Ends.pre (T' := T11.setTop (mkF m 128 #[.val (.int x0), .val (.long x1), .second, .val (.int kk), .val (.ref wLZW), .val (.long (1364 : Int64)), .second, .val (.long dd), .second, .val (.long ss), .second] [(.long (1 : Int64)), (.long ss)])) (fun t k => XS.lconst X11.here hx rfl (hb hby at_127) k) ?_
              refine Ends.pre (T' := T11.setTop (mkF m 129 #[.val (.int x0), .val (.long x1), .second, .val (.int kk), .val (.ref wLZW), .val (.long (1364 : Int64)), .second, .val (.long dd), .second, .val (.long ss), .second] [(.long (ss - (1 : Int64)))])) (fun t k => XS.lsub X11.here hx rfl (hb hby at_128) rfl k) ?_
              refine Ends.pre (T' := T11.setTop (mkF m 131 #[.val (.int x0), .val (.long x1), .second, .val (.int kk), .val (.ref wLZW), .val (.long (1364 : Int64)), .second, .val (.long dd), .second, .val (.long ss), .second] [(.long (1364 : Int64)), (.long (ss - (1 : Int64)))])) (fun t k => XS.lload X11.here hx rfl (hb hby at_129) rfl k) ?_
              refine Ends.pre (T' := T11.setTop (mkF m 132 #[.val (.int x0), .val (.long x1), .second, .val (.int kk), .val (.ref wLZW), .val (.long (1364 : Int64)), .second, .val (.long dd), .second, .val (.long ss), .second] [(.long ((ss - (1 : Int64)) * (1364 : Int64)))])) (fun t k => XS.lmul X11.here hx rfl (hb hby at_131) rfl k) ?_
              refine Ends.pre (T' := T11.setTop (mkF m 134 #[.val (.int x0), .val (.long x1), .second, .val (.int kk), .val (.ref wLZW), .val (.long (1364 : Int64)), .second, .val (.long dd), .second, .val (.long ss), .second] [(.long dd), (.long ((ss - (1 : Int64)) * (1364 : Int64)))])) (fun t k => XS.lload X11.here hx rfl (hb hby at_132) rfl k) ?_
              refine Ends.pre (T' := T11.setTop (mkF m 135 #[.val (.int x0), .val (.long x1), .second, .val (.int kk), .val (.ref wLZW), .val (.long (1364 : Int64)), .second, .val (.long dd), .second, .val (.long ss), .second] [(.int (lcmpW ((ss - (1 : Int64)) * (1364 : Int64)) dd))])) (fun t k => XS.lcmp X11.here hx rfl (hb hby at_134) rfl k) ?_
              by_cases hc135_16 : ((ss - (1 : Int64)) * (1364 : Int64)) < dd
              · refine Ends.pre (T' := T11.setTop (mkF m 140 #[.val (.int x0), .val (.long x1), .second, .val (.int kk), .val (.ref wLZW), .val (.long (1364 : Int64)), .second, .val (.long dd), .second, .val (.long ss), .second] [])) (fun t k => XS.ifYes X11.here hx rfl (pc0 := 135) (pc' := 140) rfl (hb hby at_135) rfl (Jvm.Free.XT.i0_lt_t ((lw_lt _ _).mpr hc135_16)) (by decide) (by decide) k) ?_
                refine Ends.pre (T' := T11.setTop (mkF m 141 #[.val (.int x0), .val (.long x1), .second, .val (.int kk), .val (.ref wLZW), .val (.long (1364 : Int64)), .second, .val (.long dd), .second, .val (.long ss), .second] [(.int (1 : Int32))])) (fun t k => XS.iconst X11.here hx rfl (hb hby at_140) k) ?_
                exact Ends.ret (w := (.int (1 : Int32))) X11 hx Bd.notSynchronized Bd.returns rfl (Or.inl ⟨rfl, Or.inr (Or.inl rfl), _, rfl⟩) (hb hby at_141) eh11 ⟨rfl, N11⟩ (by decide) (by decide)
              · exact absurd q4 hc135_16
            · refine Ends.pre (T' := T11.setTop (mkF m 140 #[.val (.int x0), .val (.long x1), .second, .val (.int kk), .val (.ref wLZW), .val (.long (1364 : Int64)), .second, .val (.long dd), .second, .val (.long ss), .second] [])) (fun t k => XS.ifYes X11.here hx rfl (pc0 := 122) (pc' := 140) rfl (hb hby at_122) rfl (Jvm.Free.XT.i0_le_t (fun q => hc122_15 ((lw_gt _ _).mp q))) (by decide) (by decide) k) ?_
              refine Ends.pre (T' := T11.setTop (mkF m 141 #[.val (.int x0), .val (.long x1), .second, .val (.int kk), .val (.ref wLZW), .val (.long (1364 : Int64)), .second, .val (.long dd), .second, .val (.long ss), .second] [(.int (1 : Int32))])) (fun t k => XS.iconst X11.here hx rfl (hb hby at_140) k) ?_
              exact Ends.ret (w := (.int (1 : Int32))) X11 hx Bd.notSynchronized Bd.returns rfl (Or.inl ⟨rfl, Or.inr (Or.inl rfl), _, rfl⟩) (hb hby at_141) eh11 ⟨rfl, N11⟩ (by decide) (by decide)
    · refine Ends.pre (T' := s₁.setTop (mkF m 37 #[.val (.int x0), .val (.long x1), .second, .val (.int kk), .unset, .unset, .unset, .unset, .unset, .unset, .unset] [])) (fun t k => XS.icmpYes X0.here hx rfl (pc0 := 21) (pc' := 37) rfl (hb hby at_21) rfl (Jvm.Free.XT.ii_ne_t hc21_9) (by decide) (by decide) k) ?_
      refine Ends.pre (T' := s₁.setTop (mkF m 38 #[.val (.int x0), .val (.long x1), .second, .val (.int kk), .unset, .unset, .unset, .unset, .unset, .unset, .unset] [(.int kk)])) (fun t k => XS.iloadN X0.here hx rfl (hb hby at_37) rfl k) ?_
      refine Ends.pre (T' := s₁.setTop (mkF m 39 #[.val (.int x0), .val (.long x1), .second, .val (.int kk), .unset, .unset, .unset, .unset, .unset, .unset, .unset] [(.int (2 : Int32)), (.int kk)])) (fun t k => XS.iconst X0.here hx rfl (hb hby at_38) k) ?_
      by_cases hc39_17 : kk = (2 : Int32)
      · refine Ends.pre (T' := s₁.setTop (mkF m 42 #[.val (.int x0), .val (.long x1), .second, .val (.int kk), .unset, .unset, .unset, .unset, .unset, .unset, .unset] [])) (fun t k => XS.icmpNo X0.here hx rfl (hb hby at_39) rfl (Jvm.Free.XT.ii_ne_f hc39_17) k) ?_
        obtain ⟨T18, X18, e18, st18⟩ := getS2 X0 hx hZ hown (host := "") (Or.inl (hw _ (List.mem_of_getElem? (i := 14) rfl))) Via.refl e0 S_DEFLATE (g := (mkF m 42 #[.val (.int x0), .val (.long x1), .second, .val (.int kk), .unset, .unset, .unset, .unset, .unset, .unset, .unset] [])) rfl (hb hby at_42)
        refine Ends.pre (T' := T18.setTop (mkF m 45 #[.val (.int x0), .val (.long x1), .second, .val (.int kk), .unset, .unset, .unset, .unset, .unset, .unset, .unset] [(.ref wDEFLATE)])) (fun t k => st18 _ k) ?_
        refine Ends.pre (T' := T18.setTop (mkF m 47 #[.val (.int x0), .val (.long x1), .second, .val (.int kk), .val (.ref wDEFLATE), .unset, .unset, .unset, .unset, .unset, .unset] [])) (fun t k => XS.astore X18.here hx rfl (hb hby at_45) rfl rfl (l' := #[.val (.int x0), .val (.long x1), .second, .val (.int kk), .val (.ref wDEFLATE), .unset, .unset, .unset, .unset, .unset, .unset]) rfl k) ?_
        refine Ends.pre (T' := T18.setTop (mkF m 50 #[.val (.int x0), .val (.long x1), .second, .val (.int kk), .val (.ref wDEFLATE), .unset, .unset, .unset, .unset, .unset, .unset] [(.long (1032 : Int64))])) (fun t k => X18.ldc2Long (index := 21) (v := (1032 : Int64)) hx hown (mvT hZ (hw _ (List.mem_of_getElem? (i := 16) rfl))) (g := (mkF m 47 #[.val (.int x0), .val (.long x1), .second, .val (.int kk), .val (.ref wDEFLATE), .unset, .unset, .unset, .unset, .unset, .unset] [])) rfl (hb hby at_47) t k) ?_
        refine Ends.pre (T' := T18.setTop (mkF m 52 #[.val (.int x0), .val (.long x1), .second, .val (.int kk), .val (.ref wDEFLATE), .val (.long (1032 : Int64)), .second, .unset, .unset, .unset, .unset] [])) (fun t k => XS.lstore X18.here hx rfl (hb hby at_50) rfl (l' := #[.val (.int x0), .val (.long x1), .second, .val (.int kk), .val (.ref wDEFLATE), .val (.long (1032 : Int64)), .second, .unset, .unset, .unset, .unset]) rfl k) ?_
        refine Ends.pre (T' := T18.setTop (mkF m 65 #[.val (.int x0), .val (.long x1), .second, .val (.int kk), .val (.ref wDEFLATE), .val (.long (1032 : Int64)), .second, .unset, .unset, .unset, .unset] [])) (fun t k => XS.goto X18.here hx rfl (pc0 := 52) (pc' := 65) rfl (hb hby at_52) (by decide) (by decide) k) ?_
        refine Ends.pre (T' := T18.setTop (mkF m 66 #[.val (.int x0), .val (.long x1), .second, .val (.int kk), .val (.ref wDEFLATE), .val (.long (1032 : Int64)), .second, .unset, .unset, .unset, .unset] [(.long x1)])) (fun t k => XS.lloadN X18.here hx rfl (hb hby at_65) rfl k) ?_
        refine Ends.pre (T' := T18.setTop (mkF m 69 #[.val (.int x0), .val (.long x1), .second, .val (.int kk), .val (.ref wDEFLATE), .val (.long (1032 : Int64)), .second, .unset, .unset, .unset, .unset] [(.long (4611686018427387903 : Int64)), (.long x1)])) (fun t k => X18.ldc2Long (index := 28) (v := (4611686018427387903 : Int64)) hx hown (mvT hZ (hw _ (List.mem_of_getElem? (i := 3) rfl))) (g := (mkF m 66 #[.val (.int x0), .val (.long x1), .second, .val (.int kk), .val (.ref wDEFLATE), .val (.long (1032 : Int64)), .second, .unset, .unset, .unset, .unset] [(.long x1)])) rfl (hb hby at_66) t k) ?_
        refine Ends.pre (T' := T18.setTop (mkF m 70 #[.val (.int x0), .val (.long x1), .second, .val (.int kk), .val (.ref wDEFLATE), .val (.long (1032 : Int64)), .second, .unset, .unset, .unset, .unset] [(.long (x1 &&& (4611686018427387903 : Int64)))])) (fun t k => XS.land X18.here hx rfl (hb hby at_69) rfl k) ?_
        refine Ends.pre (T' := T18.setTop (mkF m 72 #[.val (.int x0), .val (.long x1), .second, .val (.int kk), .val (.ref wDEFLATE), .val (.long (1032 : Int64)), .second, .val (.long (x1 &&& (4611686018427387903 : Int64))), .second, .unset, .unset] [])) (fun t k => XS.lstore X18.here hx rfl (hb hby at_70) rfl (l' := #[.val (.int x0), .val (.long x1), .second, .val (.int kk), .val (.ref wDEFLATE), .val (.long (1032 : Int64)), .second, .val (.long (x1 &&& (4611686018427387903 : Int64))), .second, .unset, .unset]) rfl k) ?_
        generalize hv_dd : (x1 &&& (4611686018427387903 : Int64)) = dd
        have hd := c_maskL x1 (4611686018427387903 : Int64) 62 (by decide) (by decide)
        rw [hv_dd] at hd
        refine Ends.pre (T' := T18.setTop (mkF m 74 #[.val (.int x0), .val (.long x1), .second, .val (.int kk), .val (.ref wDEFLATE), .val (.long (1032 : Int64)), .second, .val (.long dd), .second, .unset, .unset] [(.ref wDEFLATE)])) (fun t k => XS.aload X18.here hx rfl (hb hby at_72) rfl rfl k) ?_
        refine Ends.pre (T' := T18.setTop (mkF m 76 #[.val (.int x0), .val (.long x1), .second, .val (.int kk), .val (.ref wDEFLATE), .val (.long (1032 : Int64)), .second, .val (.long dd), .second, .unset, .unset] [(.long dd), (.ref wDEFLATE)])) (fun t k => XS.lload X18.here hx rfl (hb hby at_74) rfl k) ?_
        obtain ⟨cq19, kq19, q19a, q19b, q19c⟩ := isOf hZ e18 E_DEFLATE
        obtain ⟨_, _, ⟨T19, L19, k19, n19⟩, -, X19, ⟨Lc19, hQ19, l19, y19, z19⟩, st19⟩ := X18.virtualBack hx (y := (⟨"org/lumiclear/io/Compression", "leastStored", "(J)J"⟩ : MethodName)) (z := (⟨"org/lumiclear/io/Compression", "leastStored", "(J)J"⟩ : MethodName)) hown (mvT hZ (hw _ (List.mem_of_getElem? (i := 4) rfl))) (mvT hZ (hw _ (List.mem_of_getElem? (i := 5) rfl))) (notFace_of_selects (args := #[]) (mvT hZ (hw _ (List.mem_of_getElem? (i := 7) rfl)))) (mvT hZ (hw _ (List.mem_of_getElem? (i := 7) rfl))) (mvT hZ (hw _ (List.mem_of_getElem? (i := 6) rfl))) (by decide) (backOf (W := 0) (rm1 l Z a0 hw [] wDEFLATE dd (1032 : Int64) h0 n0 Z0 F_DEFLATE (by decide)) hZ (hw _ (List.mem_of_getElem? (i := 8) rfl)) (hw _ (List.mem_of_getElem? (i := 1) rfl)) (by decide) (by decide)) q19a q19c (g := (mkF m 76 #[.val (.int x0), .val (.long x1), .second, .val (.int kk), .val (.ref wDEFLATE), .val (.long (1032 : Int64)), .second, .val (.long dd), .second, .unset, .unset] [(.long dd), (.ref wDEFLATE)])) rfl (by rw [hml]; rfl) (Steps.refl _) (argsL := [(.long dd)]) (rest := []) (lenOf pd_0 rfl) rfl (by show 2 * 0 + _ ≤ _; exact Nat.le_of_eq rfl) (hb hby at_76) (fun _ _ => ⟨rfl, e18, (by decide : 0 + 0 ≤ _), (by decide : 0 + 0 ≤ _)⟩)
        dsimp only [Pt.U, Pt.locs, Pt.cells, Pt.slots] at X19 l19 y19 z19 st19 hQ19
        subst l19 y19 z19
        obtain ⟨rfl, N19q, eh19⟩ := hQ19
        have N19 := Fr.app N0 N19q
        refine Ends.pre (T' := T19.setTop (mkF m 79 #[.val (.int x0), .val (.long x1), .second, .val (.int kk), .val (.ref wDEFLATE), .val (.long (1032 : Int64)), .second, .val (.long dd), .second, .unset, .unset] [(.long ((dd + (1032 : Int64) - (1 : Int64)) / (1032 : Int64)))])) (fun t k => st19.trans k) ?_
        refine Ends.pre (T' := T19.setTop (mkF m 81 #[.val (.int x0), .val (.long x1), .second, .val (.int kk), .val (.ref wDEFLATE), .val (.long (1032 : Int64)), .second, .val (.long dd), .second, .val (.long ((dd + (1032 : Int64) - (1 : Int64)) / (1032 : Int64))), .second] [])) (fun t k => XS.lstore X19.here hx rfl (hb hby at_79) rfl (l' := #[.val (.int x0), .val (.long x1), .second, .val (.int kk), .val (.ref wDEFLATE), .val (.long (1032 : Int64)), .second, .val (.long dd), .second, .val (.long ((dd + (1032 : Int64) - (1 : Int64)) / (1032 : Int64))), .second]) rfl k) ?_
        generalize hv_ss : ((dd + (1032 : Int64) - (1 : Int64)) / (1032 : Int64)) = ss
        have hq := own_q1032 dd (by omega) (by omega)
        rw [hv_ss] at hq
        obtain ⟨q1, q2, q3, q4⟩ := hq
        refine Ends.pre (T' := T19.setTop (mkF m 83 #[.val (.int x0), .val (.long x1), .second, .val (.int kk), .val (.ref wDEFLATE), .val (.long (1032 : Int64)), .second, .val (.long dd), .second, .val (.long ss), .second] [(.long ss)])) (fun t k => XS.lload X19.here hx rfl (hb hby at_81) rfl k) ?_
        refine Ends.pre (T' := T19.setTop (mkF m 84 #[.val (.int x0), .val (.long x1), .second, .val (.int kk), .val (.ref wDEFLATE), .val (.long (1032 : Int64)), .second, .val (.long dd), .second, .val (.long ss), .second] [(.long (0 : Int64)), (.long ss)])) (fun t k => XS.lconst X19.here hx rfl (hb hby at_83) k) ?_
        refine Ends.pre (T' := T19.setTop (mkF m 85 #[.val (.int x0), .val (.long x1), .second, .val (.int kk), .val (.ref wDEFLATE), .val (.long (1032 : Int64)), .second, .val (.long dd), .second, .val (.long ss), .second] [(.int (lcmpW ss (0 : Int64)))])) (fun t k => XS.lcmp X19.here hx rfl (hb hby at_84) rfl k) ?_
        by_cases hc85_20 : ss < (0 : Int64)
        · exact absurd hc85_20 q1
        · refine Ends.pre (T' := T19.setTop (mkF m 90 #[.val (.int x0), .val (.long x1), .second, .val (.int kk), .val (.ref wDEFLATE), .val (.long (1032 : Int64)), .second, .val (.long dd), .second, .val (.long ss), .second] [])) (fun t k => XS.ifYes X19.here hx rfl (pc0 := 85) (pc' := 90) rfl (hb hby at_85) rfl (Jvm.Free.XT.i0_ge_t (fun q => hc85_20 ((lw_lt _ _).mp q))) (by decide) (by decide) k) ?_
          refine Ends.pre (T' := T19.setTop (mkF m 92 #[.val (.int x0), .val (.long x1), .second, .val (.int kk), .val (.ref wDEFLATE), .val (.long (1032 : Int64)), .second, .val (.long dd), .second, .val (.long ss), .second] [(.long ss)])) (fun t k => XS.lload X19.here hx rfl (hb hby at_90) rfl k) ?_
          refine Ends.pre (T' := T19.setTop (mkF m 94 #[.val (.int x0), .val (.long x1), .second, .val (.int kk), .val (.ref wDEFLATE), .val (.long (1032 : Int64)), .second, .val (.long dd), .second, .val (.long ss), .second] [(.long dd), (.long ss)])) (fun t k => XS.lload X19.here hx rfl (hb hby at_92) rfl k) ?_
          refine Ends.pre (T' := T19.setTop (mkF m 96 #[.val (.int x0), .val (.long x1), .second, .val (.int kk), .val (.ref wDEFLATE), .val (.long (1032 : Int64)), .second, .val (.long dd), .second, .val (.long ss), .second] [(.long (1032 : Int64)), (.long dd), (.long ss)])) (fun t k => XS.lload X19.here hx rfl (hb hby at_94) rfl k) ?_
          refine Ends.pre (T' := T19.setTop (mkF m 97 #[.val (.int x0), .val (.long x1), .second, .val (.int kk), .val (.ref wDEFLATE), .val (.long (1032 : Int64)), .second, .val (.long dd), .second, .val (.long ss), .second] [(.long (dd / (1032 : Int64))), (.long ss)])) (fun t k => XS.ldiv X19.here hx rfl (hb hby at_96) rfl (by decide) k) ?_
          refine Ends.pre (T' := T19.setTop (mkF m 98 #[.val (.int x0), .val (.long x1), .second, .val (.int kk), .val (.ref wDEFLATE), .val (.long (1032 : Int64)), .second, .val (.long dd), .second, .val (.long ss), .second] [(.long (1 : Int64)), (.long (dd / (1032 : Int64))), (.long ss)])) (fun t k => XS.lconst X19.here hx rfl (hb hby at_97) k) ?_
          refine Ends.pre (T' := T19.setTop (mkF m 99 #[.val (.int x0), .val (.long x1), .second, .val (.int kk), .val (.ref wDEFLATE), .val (.long (1032 : Int64)), .second, .val (.long dd), .second, .val (.long ss), .second] [(.long ((dd / (1032 : Int64)) + (1 : Int64))), (.long ss)])) (fun t k => XS.ladd X19.here hx rfl (hb hby at_98) rfl k) ?_
          refine Ends.pre (T' := T19.setTop (mkF m 100 #[.val (.int x0), .val (.long x1), .second, .val (.int kk), .val (.ref wDEFLATE), .val (.long (1032 : Int64)), .second, .val (.long dd), .second, .val (.long ss), .second] [(.int (lcmpW ss ((dd / (1032 : Int64)) + (1 : Int64))))])) (fun t k => XS.lcmp X19.here hx rfl (hb hby at_99) rfl k) ?_
          by_cases hc100_21 : ((dd / (1032 : Int64)) + (1 : Int64)) < ss
          · exact absurd hc100_21 q2
          · refine Ends.pre (T' := T19.setTop (mkF m 105 #[.val (.int x0), .val (.long x1), .second, .val (.int kk), .val (.ref wDEFLATE), .val (.long (1032 : Int64)), .second, .val (.long dd), .second, .val (.long ss), .second] [])) (fun t k => XS.ifYes X19.here hx rfl (pc0 := 100) (pc' := 105) rfl (hb hby at_100) rfl (Jvm.Free.XT.i0_le_t (fun q => hc100_21 ((lw_gt _ _).mp q))) (by decide) (by decide) k) ?_
            refine Ends.pre (T' := T19.setTop (mkF m 107 #[.val (.int x0), .val (.long x1), .second, .val (.int kk), .val (.ref wDEFLATE), .val (.long (1032 : Int64)), .second, .val (.long dd), .second, .val (.long ss), .second] [(.long ss)])) (fun t k => XS.lload X19.here hx rfl (hb hby at_105) rfl k) ?_
            refine Ends.pre (T' := T19.setTop (mkF m 109 #[.val (.int x0), .val (.long x1), .second, .val (.int kk), .val (.ref wDEFLATE), .val (.long (1032 : Int64)), .second, .val (.long dd), .second, .val (.long ss), .second] [(.long (1032 : Int64)), (.long ss)])) (fun t k => XS.lload X19.here hx rfl (hb hby at_107) rfl k) ?_
            refine Ends.pre (T' := T19.setTop (mkF m 110 #[.val (.int x0), .val (.long x1), .second, .val (.int kk), .val (.ref wDEFLATE), .val (.long (1032 : Int64)), .second, .val (.long dd), .second, .val (.long ss), .second] [(.long (ss * (1032 : Int64)))])) (fun t k => XS.lmul X19.here hx rfl (hb hby at_109) rfl k) ?_
            refine Ends.pre (T' := T19.setTop (mkF m 112 #[.val (.int x0), .val (.long x1), .second, .val (.int kk), .val (.ref wDEFLATE), .val (.long (1032 : Int64)), .second, .val (.long dd), .second, .val (.long ss), .second] [(.long dd), (.long (ss * (1032 : Int64)))])) (fun t k => XS.lload X19.here hx rfl (hb hby at_110) rfl k) ?_
            refine Ends.pre (T' := T19.setTop (mkF m 113 #[.val (.int x0), .val (.long x1), .second, .val (.int kk), .val (.ref wDEFLATE), .val (.long (1032 : Int64)), .second, .val (.long dd), .second, .val (.long ss), .second] [(.int (lcmpW (ss * (1032 : Int64)) dd))])) (fun t k => XS.lcmp X19.here hx rfl (hb hby at_112) rfl k) ?_
            by_cases hc113_22 : (ss * (1032 : Int64)) < dd
            · exact absurd hc113_22 q3
            · refine Ends.pre (T' := T19.setTop (mkF m 118 #[.val (.int x0), .val (.long x1), .second, .val (.int kk), .val (.ref wDEFLATE), .val (.long (1032 : Int64)), .second, .val (.long dd), .second, .val (.long ss), .second] [])) (fun t k => XS.ifYes X19.here hx rfl (pc0 := 113) (pc' := 118) rfl (hb hby at_113) rfl (Jvm.Free.XT.i0_ge_t (fun q => hc113_22 ((lw_lt _ _).mp q))) (by decide) (by decide) k) ?_
              refine Ends.pre (T' := T19.setTop (mkF m 120 #[.val (.int x0), .val (.long x1), .second, .val (.int kk), .val (.ref wDEFLATE), .val (.long (1032 : Int64)), .second, .val (.long dd), .second, .val (.long ss), .second] [(.long ss)])) (fun t k => XS.lload X19.here hx rfl (hb hby at_118) rfl k) ?_
              refine Ends.pre (T' := T19.setTop (mkF m 121 #[.val (.int x0), .val (.long x1), .second, .val (.int kk), .val (.ref wDEFLATE), .val (.long (1032 : Int64)), .second, .val (.long dd), .second, .val (.long ss), .second] [(.long (0 : Int64)), (.long ss)])) (fun t k => XS.lconst X19.here hx rfl (hb hby at_120) k) ?_
              refine Ends.pre (T' := T19.setTop (mkF m 122 #[.val (.int x0), .val (.long x1), .second, .val (.int kk), .val (.ref wDEFLATE), .val (.long (1032 : Int64)), .second, .val (.long dd), .second, .val (.long ss), .second] [(.int (lcmpW ss (0 : Int64)))])) (fun t k => XS.lcmp X19.here hx rfl (hb hby at_121) rfl k) ?_
              by_cases hc122_23 : (0 : Int64) < ss
              · refine Ends.pre (T' := T19.setTop (mkF m 125 #[.val (.int x0), .val (.long x1), .second, .val (.int kk), .val (.ref wDEFLATE), .val (.long (1032 : Int64)), .second, .val (.long dd), .second, .val (.long ss), .second] [])) (fun t k => XS.ifNo X19.here hx rfl (hb hby at_122) rfl (Jvm.Free.XT.i0_le_f ((lw_gt _ _).mpr hc122_23)) k) ?_
                refine Ends.pre (T' := T19.setTop (mkF m 127 #[.val (.int x0), .val (.long x1), .second, .val (.int kk), .val (.ref wDEFLATE), .val (.long (1032 : Int64)), .second, .val (.long dd), .second, .val (.long ss), .second] [(.long ss)])) (fun t k => XS.lload X19.here hx rfl (hb hby at_125) rfl k) ?_
                refine Ends.pre (T' := T19.setTop (mkF m 128 #[.val (.int x0), .val (.long x1), .second, .val (.int kk), .val (.ref wDEFLATE), .val (.long (1032 : Int64)), .second, .val (.long dd), .second, .val (.long ss), .second] [(.long (1 : Int64)), (.long ss)])) (fun t k => XS.lconst X19.here hx rfl (hb hby at_127) k) ?_
                refine Ends.pre (T' := T19.setTop (mkF m 129 #[.val (.int x0), .val (.long x1), .second, .val (.int kk), .val (.ref wDEFLATE), .val (.long (1032 : Int64)), .second, .val (.long dd), .second, .val (.long ss), .second] [(.long (ss - (1 : Int64)))])) (fun t k => XS.lsub X19.here hx rfl (hb hby at_128) rfl k) ?_
                refine Ends.pre (T' := T19.setTop (mkF m 131 #[.val (.int x0), .val (.long x1), .second, .val (.int kk), .val (.ref wDEFLATE), .val (.long (1032 : Int64)), .second, .val (.long dd), .second, .val (.long ss), .second] [(.long (1032 : Int64)), (.long (ss - (1 : Int64)))])) (fun t k => XS.lload X19.here hx rfl (hb hby at_129) rfl k) ?_
                refine Ends.pre (T' := T19.setTop (mkF m 132 #[.val (.int x0), .val (.long x1), .second, .val (.int kk), .val (.ref wDEFLATE), .val (.long (1032 : Int64)), .second, .val (.long dd), .second, .val (.long ss), .second] [(.long ((ss - (1 : Int64)) * (1032 : Int64)))])) (fun t k => XS.lmul X19.here hx rfl (hb hby at_131) rfl k) ?_
                refine Ends.pre (T' := T19.setTop (mkF m 134 #[.val (.int x0), .val (.long x1), .second, .val (.int kk), .val (.ref wDEFLATE), .val (.long (1032 : Int64)), .second, .val (.long dd), .second, .val (.long ss), .second] [(.long dd), (.long ((ss - (1 : Int64)) * (1032 : Int64)))])) (fun t k => XS.lload X19.here hx rfl (hb hby at_132) rfl k) ?_
                refine Ends.pre (T' := T19.setTop (mkF m 135 #[.val (.int x0), .val (.long x1), .second, .val (.int kk), .val (.ref wDEFLATE), .val (.long (1032 : Int64)), .second, .val (.long dd), .second, .val (.long ss), .second] [(.int (lcmpW ((ss - (1 : Int64)) * (1032 : Int64)) dd))])) (fun t k => XS.lcmp X19.here hx rfl (hb hby at_134) rfl k) ?_
                by_cases hc135_24 : ((ss - (1 : Int64)) * (1032 : Int64)) < dd
                · refine Ends.pre (T' := T19.setTop (mkF m 140 #[.val (.int x0), .val (.long x1), .second, .val (.int kk), .val (.ref wDEFLATE), .val (.long (1032 : Int64)), .second, .val (.long dd), .second, .val (.long ss), .second] [])) (fun t k => XS.ifYes X19.here hx rfl (pc0 := 135) (pc' := 140) rfl (hb hby at_135) rfl (Jvm.Free.XT.i0_lt_t ((lw_lt _ _).mpr hc135_24)) (by decide) (by decide) k) ?_
                  refine Ends.pre (T' := T19.setTop (mkF m 141 #[.val (.int x0), .val (.long x1), .second, .val (.int kk), .val (.ref wDEFLATE), .val (.long (1032 : Int64)), .second, .val (.long dd), .second, .val (.long ss), .second] [(.int (1 : Int32))])) (fun t k => XS.iconst X19.here hx rfl (hb hby at_140) k) ?_
                  exact Ends.ret (w := (.int (1 : Int32))) X19 hx Bd.notSynchronized Bd.returns rfl (Or.inl ⟨rfl, Or.inr (Or.inl rfl), _, rfl⟩) (hb hby at_141) eh19 ⟨rfl, N19⟩ (by decide) (by decide)
                · exact absurd q4 hc135_24
              · refine Ends.pre (T' := T19.setTop (mkF m 140 #[.val (.int x0), .val (.long x1), .second, .val (.int kk), .val (.ref wDEFLATE), .val (.long (1032 : Int64)), .second, .val (.long dd), .second, .val (.long ss), .second] [])) (fun t k => XS.ifYes X19.here hx rfl (pc0 := 122) (pc' := 140) rfl (hb hby at_122) rfl (Jvm.Free.XT.i0_le_t (fun q => hc122_23 ((lw_gt _ _).mp q))) (by decide) (by decide) k) ?_
                refine Ends.pre (T' := T19.setTop (mkF m 141 #[.val (.int x0), .val (.long x1), .second, .val (.int kk), .val (.ref wDEFLATE), .val (.long (1032 : Int64)), .second, .val (.long dd), .second, .val (.long ss), .second] [(.int (1 : Int32))])) (fun t k => XS.iconst X19.here hx rfl (hb hby at_140) k) ?_
                exact Ends.ret (w := (.int (1 : Int32))) X19 hx Bd.notSynchronized Bd.returns rfl (Or.inl ⟨rfl, Or.inr (Or.inl rfl), _, rfl⟩) (hb hby at_141) eh19 ⟨rfl, N19⟩ (by decide) (by decide)
      · refine Ends.pre (T' := s₁.setTop (mkF m 55 #[.val (.int x0), .val (.long x1), .second, .val (.int kk), .unset, .unset, .unset, .unset, .unset, .unset, .unset] [])) (fun t k => XS.icmpYes X0.here hx rfl (pc0 := 39) (pc' := 55) rfl (hb hby at_39) rfl (Jvm.Free.XT.ii_ne_t hc39_17) (by decide) (by decide) k) ?_
        obtain ⟨T25, X25, e25, st25⟩ := getS2 X0 hx hZ hown (host := "") (Or.inl (hw _ (List.mem_of_getElem? (i := 17) rfl))) Via.refl e0 S_PACKBITS (g := (mkF m 55 #[.val (.int x0), .val (.long x1), .second, .val (.int kk), .unset, .unset, .unset, .unset, .unset, .unset, .unset] [])) rfl (hb hby at_55)
        refine Ends.pre (T' := T25.setTop (mkF m 58 #[.val (.int x0), .val (.long x1), .second, .val (.int kk), .unset, .unset, .unset, .unset, .unset, .unset, .unset] [(.ref wPACKBITS)])) (fun t k => st25 _ k) ?_
        refine Ends.pre (T' := T25.setTop (mkF m 60 #[.val (.int x0), .val (.long x1), .second, .val (.int kk), .val (.ref wPACKBITS), .unset, .unset, .unset, .unset, .unset, .unset] [])) (fun t k => XS.astore X25.here hx rfl (hb hby at_58) rfl rfl (l' := #[.val (.int x0), .val (.long x1), .second, .val (.int kk), .val (.ref wPACKBITS), .unset, .unset, .unset, .unset, .unset, .unset]) rfl k) ?_
        refine Ends.pre (T' := T25.setTop (mkF m 63 #[.val (.int x0), .val (.long x1), .second, .val (.int kk), .val (.ref wPACKBITS), .unset, .unset, .unset, .unset, .unset, .unset] [(.long (64 : Int64))])) (fun t k => X25.ldc2Long (index := 26) (v := (64 : Int64)) hx hown (mvT hZ (hw _ (List.mem_of_getElem? (i := 19) rfl))) (g := (mkF m 60 #[.val (.int x0), .val (.long x1), .second, .val (.int kk), .val (.ref wPACKBITS), .unset, .unset, .unset, .unset, .unset, .unset] [])) rfl (hb hby at_60) t k) ?_
        refine Ends.pre (T' := T25.setTop (mkF m 65 #[.val (.int x0), .val (.long x1), .second, .val (.int kk), .val (.ref wPACKBITS), .val (.long (64 : Int64)), .second, .unset, .unset, .unset, .unset] [])) (fun t k => XS.lstore X25.here hx rfl (hb hby at_63) rfl (l' := #[.val (.int x0), .val (.long x1), .second, .val (.int kk), .val (.ref wPACKBITS), .val (.long (64 : Int64)), .second, .unset, .unset, .unset, .unset]) rfl k) ?_
        refine Ends.pre (T' := T25.setTop (mkF m 66 #[.val (.int x0), .val (.long x1), .second, .val (.int kk), .val (.ref wPACKBITS), .val (.long (64 : Int64)), .second, .unset, .unset, .unset, .unset] [(.long x1)])) (fun t k => XS.lloadN X25.here hx rfl (hb hby at_65) rfl k) ?_
        refine Ends.pre (T' := T25.setTop (mkF m 69 #[.val (.int x0), .val (.long x1), .second, .val (.int kk), .val (.ref wPACKBITS), .val (.long (64 : Int64)), .second, .unset, .unset, .unset, .unset] [(.long (4611686018427387903 : Int64)), (.long x1)])) (fun t k => X25.ldc2Long (index := 28) (v := (4611686018427387903 : Int64)) hx hown (mvT hZ (hw _ (List.mem_of_getElem? (i := 3) rfl))) (g := (mkF m 66 #[.val (.int x0), .val (.long x1), .second, .val (.int kk), .val (.ref wPACKBITS), .val (.long (64 : Int64)), .second, .unset, .unset, .unset, .unset] [(.long x1)])) rfl (hb hby at_66) t k) ?_
        refine Ends.pre (T' := T25.setTop (mkF m 70 #[.val (.int x0), .val (.long x1), .second, .val (.int kk), .val (.ref wPACKBITS), .val (.long (64 : Int64)), .second, .unset, .unset, .unset, .unset] [(.long (x1 &&& (4611686018427387903 : Int64)))])) (fun t k => XS.land X25.here hx rfl (hb hby at_69) rfl k) ?_
        refine Ends.pre (T' := T25.setTop (mkF m 72 #[.val (.int x0), .val (.long x1), .second, .val (.int kk), .val (.ref wPACKBITS), .val (.long (64 : Int64)), .second, .val (.long (x1 &&& (4611686018427387903 : Int64))), .second, .unset, .unset] [])) (fun t k => XS.lstore X25.here hx rfl (hb hby at_70) rfl (l' := #[.val (.int x0), .val (.long x1), .second, .val (.int kk), .val (.ref wPACKBITS), .val (.long (64 : Int64)), .second, .val (.long (x1 &&& (4611686018427387903 : Int64))), .second, .unset, .unset]) rfl k) ?_
        generalize hv_dd : (x1 &&& (4611686018427387903 : Int64)) = dd
        have hd := c_maskL x1 (4611686018427387903 : Int64) 62 (by decide) (by decide)
        rw [hv_dd] at hd
        refine Ends.pre (T' := T25.setTop (mkF m 74 #[.val (.int x0), .val (.long x1), .second, .val (.int kk), .val (.ref wPACKBITS), .val (.long (64 : Int64)), .second, .val (.long dd), .second, .unset, .unset] [(.ref wPACKBITS)])) (fun t k => XS.aload X25.here hx rfl (hb hby at_72) rfl rfl k) ?_
        refine Ends.pre (T' := T25.setTop (mkF m 76 #[.val (.int x0), .val (.long x1), .second, .val (.int kk), .val (.ref wPACKBITS), .val (.long (64 : Int64)), .second, .val (.long dd), .second, .unset, .unset] [(.long dd), (.ref wPACKBITS)])) (fun t k => XS.lload X25.here hx rfl (hb hby at_74) rfl k) ?_
        obtain ⟨cq26, kq26, q26a, q26b, q26c⟩ := isOf hZ e25 E_PACKBITS
        obtain ⟨_, _, ⟨T26, L26, k26, n26⟩, -, X26, ⟨Lc26, hQ26, l26, y26, z26⟩, st26⟩ := X25.virtualBack hx (y := (⟨"org/lumiclear/io/Compression", "leastStored", "(J)J"⟩ : MethodName)) (z := (⟨"org/lumiclear/io/Compression", "leastStored", "(J)J"⟩ : MethodName)) hown (mvT hZ (hw _ (List.mem_of_getElem? (i := 4) rfl))) (mvT hZ (hw _ (List.mem_of_getElem? (i := 5) rfl))) (notFace_of_selects (args := #[]) (mvT hZ (hw _ (List.mem_of_getElem? (i := 7) rfl)))) (mvT hZ (hw _ (List.mem_of_getElem? (i := 7) rfl))) (mvT hZ (hw _ (List.mem_of_getElem? (i := 6) rfl))) (by decide) (backOf (W := 0) (rm1 l Z a0 hw [] wPACKBITS dd (64 : Int64) h0 n0 Z0 F_PACKBITS (by decide)) hZ (hw _ (List.mem_of_getElem? (i := 8) rfl)) (hw _ (List.mem_of_getElem? (i := 1) rfl)) (by decide) (by decide)) q26a q26c (g := (mkF m 76 #[.val (.int x0), .val (.long x1), .second, .val (.int kk), .val (.ref wPACKBITS), .val (.long (64 : Int64)), .second, .val (.long dd), .second, .unset, .unset] [(.long dd), (.ref wPACKBITS)])) rfl (by rw [hml]; rfl) (Steps.refl _) (argsL := [(.long dd)]) (rest := []) (lenOf pd_0 rfl) rfl (by show 2 * 0 + _ ≤ _; exact Nat.le_of_eq rfl) (hb hby at_76) (fun _ _ => ⟨rfl, e25, (by decide : 0 + 0 ≤ _), (by decide : 0 + 0 ≤ _)⟩)
        dsimp only [Pt.U, Pt.locs, Pt.cells, Pt.slots] at X26 l26 y26 z26 st26 hQ26
        subst l26 y26 z26
        obtain ⟨rfl, N26q, eh26⟩ := hQ26
        have N26 := Fr.app N0 N26q
        refine Ends.pre (T' := T26.setTop (mkF m 79 #[.val (.int x0), .val (.long x1), .second, .val (.int kk), .val (.ref wPACKBITS), .val (.long (64 : Int64)), .second, .val (.long dd), .second, .unset, .unset] [(.long ((dd + (64 : Int64) - (1 : Int64)) / (64 : Int64)))])) (fun t k => st26.trans k) ?_
        refine Ends.pre (T' := T26.setTop (mkF m 81 #[.val (.int x0), .val (.long x1), .second, .val (.int kk), .val (.ref wPACKBITS), .val (.long (64 : Int64)), .second, .val (.long dd), .second, .val (.long ((dd + (64 : Int64) - (1 : Int64)) / (64 : Int64))), .second] [])) (fun t k => XS.lstore X26.here hx rfl (hb hby at_79) rfl (l' := #[.val (.int x0), .val (.long x1), .second, .val (.int kk), .val (.ref wPACKBITS), .val (.long (64 : Int64)), .second, .val (.long dd), .second, .val (.long ((dd + (64 : Int64) - (1 : Int64)) / (64 : Int64))), .second]) rfl k) ?_
        generalize hv_ss : ((dd + (64 : Int64) - (1 : Int64)) / (64 : Int64)) = ss
        have hq := own_q64 dd (by omega) (by omega)
        rw [hv_ss] at hq
        obtain ⟨q1, q2, q3, q4⟩ := hq
        refine Ends.pre (T' := T26.setTop (mkF m 83 #[.val (.int x0), .val (.long x1), .second, .val (.int kk), .val (.ref wPACKBITS), .val (.long (64 : Int64)), .second, .val (.long dd), .second, .val (.long ss), .second] [(.long ss)])) (fun t k => XS.lload X26.here hx rfl (hb hby at_81) rfl k) ?_
        refine Ends.pre (T' := T26.setTop (mkF m 84 #[.val (.int x0), .val (.long x1), .second, .val (.int kk), .val (.ref wPACKBITS), .val (.long (64 : Int64)), .second, .val (.long dd), .second, .val (.long ss), .second] [(.long (0 : Int64)), (.long ss)])) (fun t k => XS.lconst X26.here hx rfl (hb hby at_83) k) ?_
        refine Ends.pre (T' := T26.setTop (mkF m 85 #[.val (.int x0), .val (.long x1), .second, .val (.int kk), .val (.ref wPACKBITS), .val (.long (64 : Int64)), .second, .val (.long dd), .second, .val (.long ss), .second] [(.int (lcmpW ss (0 : Int64)))])) (fun t k => XS.lcmp X26.here hx rfl (hb hby at_84) rfl k) ?_
        by_cases hc85_27 : ss < (0 : Int64)
        · exact absurd hc85_27 q1
        · refine Ends.pre (T' := T26.setTop (mkF m 90 #[.val (.int x0), .val (.long x1), .second, .val (.int kk), .val (.ref wPACKBITS), .val (.long (64 : Int64)), .second, .val (.long dd), .second, .val (.long ss), .second] [])) (fun t k => XS.ifYes X26.here hx rfl (pc0 := 85) (pc' := 90) rfl (hb hby at_85) rfl (Jvm.Free.XT.i0_ge_t (fun q => hc85_27 ((lw_lt _ _).mp q))) (by decide) (by decide) k) ?_
          refine Ends.pre (T' := T26.setTop (mkF m 92 #[.val (.int x0), .val (.long x1), .second, .val (.int kk), .val (.ref wPACKBITS), .val (.long (64 : Int64)), .second, .val (.long dd), .second, .val (.long ss), .second] [(.long ss)])) (fun t k => XS.lload X26.here hx rfl (hb hby at_90) rfl k) ?_
          refine Ends.pre (T' := T26.setTop (mkF m 94 #[.val (.int x0), .val (.long x1), .second, .val (.int kk), .val (.ref wPACKBITS), .val (.long (64 : Int64)), .second, .val (.long dd), .second, .val (.long ss), .second] [(.long dd), (.long ss)])) (fun t k => XS.lload X26.here hx rfl (hb hby at_92) rfl k) ?_
          refine Ends.pre (T' := T26.setTop (mkF m 96 #[.val (.int x0), .val (.long x1), .second, .val (.int kk), .val (.ref wPACKBITS), .val (.long (64 : Int64)), .second, .val (.long dd), .second, .val (.long ss), .second] [(.long (64 : Int64)), (.long dd), (.long ss)])) (fun t k => XS.lload X26.here hx rfl (hb hby at_94) rfl k) ?_
          refine Ends.pre (T' := T26.setTop (mkF m 97 #[.val (.int x0), .val (.long x1), .second, .val (.int kk), .val (.ref wPACKBITS), .val (.long (64 : Int64)), .second, .val (.long dd), .second, .val (.long ss), .second] [(.long (dd / (64 : Int64))), (.long ss)])) (fun t k => XS.ldiv X26.here hx rfl (hb hby at_96) rfl (by decide) k) ?_
          refine Ends.pre (T' := T26.setTop (mkF m 98 #[.val (.int x0), .val (.long x1), .second, .val (.int kk), .val (.ref wPACKBITS), .val (.long (64 : Int64)), .second, .val (.long dd), .second, .val (.long ss), .second] [(.long (1 : Int64)), (.long (dd / (64 : Int64))), (.long ss)])) (fun t k => XS.lconst X26.here hx rfl (hb hby at_97) k) ?_
          refine Ends.pre (T' := T26.setTop (mkF m 99 #[.val (.int x0), .val (.long x1), .second, .val (.int kk), .val (.ref wPACKBITS), .val (.long (64 : Int64)), .second, .val (.long dd), .second, .val (.long ss), .second] [(.long ((dd / (64 : Int64)) + (1 : Int64))), (.long ss)])) (fun t k => XS.ladd X26.here hx rfl (hb hby at_98) rfl k) ?_
          refine Ends.pre (T' := T26.setTop (mkF m 100 #[.val (.int x0), .val (.long x1), .second, .val (.int kk), .val (.ref wPACKBITS), .val (.long (64 : Int64)), .second, .val (.long dd), .second, .val (.long ss), .second] [(.int (lcmpW ss ((dd / (64 : Int64)) + (1 : Int64))))])) (fun t k => XS.lcmp X26.here hx rfl (hb hby at_99) rfl k) ?_
          by_cases hc100_28 : ((dd / (64 : Int64)) + (1 : Int64)) < ss
          · exact absurd hc100_28 q2
          · refine Ends.pre (T' := T26.setTop (mkF m 105 #[.val (.int x0), .val (.long x1), .second, .val (.int kk), .val (.ref wPACKBITS), .val (.long (64 : Int64)), .second, .val (.long dd), .second, .val (.long ss), .second] [])) (fun t k => XS.ifYes X26.here hx rfl (pc0 := 100) (pc' := 105) rfl (hb hby at_100) rfl (Jvm.Free.XT.i0_le_t (fun q => hc100_28 ((lw_gt _ _).mp q))) (by decide) (by decide) k) ?_
            refine Ends.pre (T' := T26.setTop (mkF m 107 #[.val (.int x0), .val (.long x1), .second, .val (.int kk), .val (.ref wPACKBITS), .val (.long (64 : Int64)), .second, .val (.long dd), .second, .val (.long ss), .second] [(.long ss)])) (fun t k => XS.lload X26.here hx rfl (hb hby at_105) rfl k) ?_
            refine Ends.pre (T' := T26.setTop (mkF m 109 #[.val (.int x0), .val (.long x1), .second, .val (.int kk), .val (.ref wPACKBITS), .val (.long (64 : Int64)), .second, .val (.long dd), .second, .val (.long ss), .second] [(.long (64 : Int64)), (.long ss)])) (fun t k => XS.lload X26.here hx rfl (hb hby at_107) rfl k) ?_
            refine Ends.pre (T' := T26.setTop (mkF m 110 #[.val (.int x0), .val (.long x1), .second, .val (.int kk), .val (.ref wPACKBITS), .val (.long (64 : Int64)), .second, .val (.long dd), .second, .val (.long ss), .second] [(.long (ss * (64 : Int64)))])) (fun t k => XS.lmul X26.here hx rfl (hb hby at_109) rfl k) ?_
            refine Ends.pre (T' := T26.setTop (mkF m 112 #[.val (.int x0), .val (.long x1), .second, .val (.int kk), .val (.ref wPACKBITS), .val (.long (64 : Int64)), .second, .val (.long dd), .second, .val (.long ss), .second] [(.long dd), (.long (ss * (64 : Int64)))])) (fun t k => XS.lload X26.here hx rfl (hb hby at_110) rfl k) ?_
            refine Ends.pre (T' := T26.setTop (mkF m 113 #[.val (.int x0), .val (.long x1), .second, .val (.int kk), .val (.ref wPACKBITS), .val (.long (64 : Int64)), .second, .val (.long dd), .second, .val (.long ss), .second] [(.int (lcmpW (ss * (64 : Int64)) dd))])) (fun t k => XS.lcmp X26.here hx rfl (hb hby at_112) rfl k) ?_
            by_cases hc113_29 : (ss * (64 : Int64)) < dd
            · exact absurd hc113_29 q3
            · refine Ends.pre (T' := T26.setTop (mkF m 118 #[.val (.int x0), .val (.long x1), .second, .val (.int kk), .val (.ref wPACKBITS), .val (.long (64 : Int64)), .second, .val (.long dd), .second, .val (.long ss), .second] [])) (fun t k => XS.ifYes X26.here hx rfl (pc0 := 113) (pc' := 118) rfl (hb hby at_113) rfl (Jvm.Free.XT.i0_ge_t (fun q => hc113_29 ((lw_lt _ _).mp q))) (by decide) (by decide) k) ?_
              refine Ends.pre (T' := T26.setTop (mkF m 120 #[.val (.int x0), .val (.long x1), .second, .val (.int kk), .val (.ref wPACKBITS), .val (.long (64 : Int64)), .second, .val (.long dd), .second, .val (.long ss), .second] [(.long ss)])) (fun t k => XS.lload X26.here hx rfl (hb hby at_118) rfl k) ?_
              refine Ends.pre (T' := T26.setTop (mkF m 121 #[.val (.int x0), .val (.long x1), .second, .val (.int kk), .val (.ref wPACKBITS), .val (.long (64 : Int64)), .second, .val (.long dd), .second, .val (.long ss), .second] [(.long (0 : Int64)), (.long ss)])) (fun t k => XS.lconst X26.here hx rfl (hb hby at_120) k) ?_
              refine Ends.pre (T' := T26.setTop (mkF m 122 #[.val (.int x0), .val (.long x1), .second, .val (.int kk), .val (.ref wPACKBITS), .val (.long (64 : Int64)), .second, .val (.long dd), .second, .val (.long ss), .second] [(.int (lcmpW ss (0 : Int64)))])) (fun t k => XS.lcmp X26.here hx rfl (hb hby at_121) rfl k) ?_
              by_cases hc122_30 : (0 : Int64) < ss
              · refine Ends.pre (T' := T26.setTop (mkF m 125 #[.val (.int x0), .val (.long x1), .second, .val (.int kk), .val (.ref wPACKBITS), .val (.long (64 : Int64)), .second, .val (.long dd), .second, .val (.long ss), .second] [])) (fun t k => XS.ifNo X26.here hx rfl (hb hby at_122) rfl (Jvm.Free.XT.i0_le_f ((lw_gt _ _).mpr hc122_30)) k) ?_
                refine Ends.pre (T' := T26.setTop (mkF m 127 #[.val (.int x0), .val (.long x1), .second, .val (.int kk), .val (.ref wPACKBITS), .val (.long (64 : Int64)), .second, .val (.long dd), .second, .val (.long ss), .second] [(.long ss)])) (fun t k => XS.lload X26.here hx rfl (hb hby at_125) rfl k) ?_
                refine Ends.pre (T' := T26.setTop (mkF m 128 #[.val (.int x0), .val (.long x1), .second, .val (.int kk), .val (.ref wPACKBITS), .val (.long (64 : Int64)), .second, .val (.long dd), .second, .val (.long ss), .second] [(.long (1 : Int64)), (.long ss)])) (fun t k => XS.lconst X26.here hx rfl (hb hby at_127) k) ?_
                refine Ends.pre (T' := T26.setTop (mkF m 129 #[.val (.int x0), .val (.long x1), .second, .val (.int kk), .val (.ref wPACKBITS), .val (.long (64 : Int64)), .second, .val (.long dd), .second, .val (.long ss), .second] [(.long (ss - (1 : Int64)))])) (fun t k => XS.lsub X26.here hx rfl (hb hby at_128) rfl k) ?_
                refine Ends.pre (T' := T26.setTop (mkF m 131 #[.val (.int x0), .val (.long x1), .second, .val (.int kk), .val (.ref wPACKBITS), .val (.long (64 : Int64)), .second, .val (.long dd), .second, .val (.long ss), .second] [(.long (64 : Int64)), (.long (ss - (1 : Int64)))])) (fun t k => XS.lload X26.here hx rfl (hb hby at_129) rfl k) ?_
                refine Ends.pre (T' := T26.setTop (mkF m 132 #[.val (.int x0), .val (.long x1), .second, .val (.int kk), .val (.ref wPACKBITS), .val (.long (64 : Int64)), .second, .val (.long dd), .second, .val (.long ss), .second] [(.long ((ss - (1 : Int64)) * (64 : Int64)))])) (fun t k => XS.lmul X26.here hx rfl (hb hby at_131) rfl k) ?_
                refine Ends.pre (T' := T26.setTop (mkF m 134 #[.val (.int x0), .val (.long x1), .second, .val (.int kk), .val (.ref wPACKBITS), .val (.long (64 : Int64)), .second, .val (.long dd), .second, .val (.long ss), .second] [(.long dd), (.long ((ss - (1 : Int64)) * (64 : Int64)))])) (fun t k => XS.lload X26.here hx rfl (hb hby at_132) rfl k) ?_
                refine Ends.pre (T' := T26.setTop (mkF m 135 #[.val (.int x0), .val (.long x1), .second, .val (.int kk), .val (.ref wPACKBITS), .val (.long (64 : Int64)), .second, .val (.long dd), .second, .val (.long ss), .second] [(.int (lcmpW ((ss - (1 : Int64)) * (64 : Int64)) dd))])) (fun t k => XS.lcmp X26.here hx rfl (hb hby at_134) rfl k) ?_
                by_cases hc135_31 : ((ss - (1 : Int64)) * (64 : Int64)) < dd
                · refine Ends.pre (T' := T26.setTop (mkF m 140 #[.val (.int x0), .val (.long x1), .second, .val (.int kk), .val (.ref wPACKBITS), .val (.long (64 : Int64)), .second, .val (.long dd), .second, .val (.long ss), .second] [])) (fun t k => XS.ifYes X26.here hx rfl (pc0 := 135) (pc' := 140) rfl (hb hby at_135) rfl (Jvm.Free.XT.i0_lt_t ((lw_lt _ _).mpr hc135_31)) (by decide) (by decide) k) ?_
                  refine Ends.pre (T' := T26.setTop (mkF m 141 #[.val (.int x0), .val (.long x1), .second, .val (.int kk), .val (.ref wPACKBITS), .val (.long (64 : Int64)), .second, .val (.long dd), .second, .val (.long ss), .second] [(.int (1 : Int32))])) (fun t k => XS.iconst X26.here hx rfl (hb hby at_140) k) ?_
                  exact Ends.ret (w := (.int (1 : Int32))) X26 hx Bd.notSynchronized Bd.returns rfl (Or.inl ⟨rfl, Or.inr (Or.inl rfl), _, rfl⟩) (hb hby at_141) eh26 ⟨rfl, N26⟩ (by decide) (by decide)
                · exact absurd q4 hc135_31
              · refine Ends.pre (T' := T26.setTop (mkF m 140 #[.val (.int x0), .val (.long x1), .second, .val (.int kk), .val (.ref wPACKBITS), .val (.long (64 : Int64)), .second, .val (.long dd), .second, .val (.long ss), .second] [])) (fun t k => XS.ifYes X26.here hx rfl (pc0 := 122) (pc' := 140) rfl (hb hby at_122) rfl (Jvm.Free.XT.i0_le_t (fun q => hc122_30 ((lw_gt _ _).mp q))) (by decide) (by decide) k) ?_
                refine Ends.pre (T' := T26.setTop (mkF m 141 #[.val (.int x0), .val (.long x1), .second, .val (.int kk), .val (.ref wPACKBITS), .val (.long (64 : Int64)), .second, .val (.long dd), .second, .val (.long ss), .second] [(.int (1 : Int32))])) (fun t k => XS.iconst X26.here hx rfl (hb hby at_140) k) ?_
                exact Ends.ret (w := (.int (1 : Int32))) X26 hx Bd.notSynchronized Bd.returns rfl (Or.inl ⟨rfl, Or.inr (Or.inl rfl), _, rfl⟩) (hb hby at_141) eh26 ⟨rfl, N26⟩ (by decide) (by decide)
set_option maxRecDepth 65536 in
set_option maxHeartbeats 40000000 in
theorem comes_1 {Post : Tables → Env → Array Value → State → Outcome → State → Prop} (hpost : ∀ tb e args s v u, (limb_1_1.after args s (.returned v) u = true ∧ limb_1_2.after args s (.returned v) u = true ∧ True) → FrameEnd s (.returned v) u (Jvm.fieldLocs frame_1_writes args s ++ Jvm.arrayLocs frame_1_arrays args s ++ Jvm.staticLocs frame_1_statics s) 0 0 → Post tb e args s (.returned v) u) :
    ArmFor flags0 classFile x code maxLocals ret World_1 tables_1 room_1 Calls_1 rest_1 Pre_1 Post := by
  intro l hfl _ _ p e ha hc hk s m args below hf hA hF happ hP
  obtain ⟨hcalls, hrest, hpre⟩ := hP
  obtain ⟨-, -, -, hnamed, -, -, -, hat⟩ := (Spec.applies_iff hf).mp happ
  obtain ⟨hg, hn⟩ := and_e (Cond.before_iff.mp (show (Jvm.Cond.and given_1 narrow_1).before args s = true from hpre))
  obtain ⟨gg1, gg2⟩ := and_e hg
  obtain ⟨gg3, gg4⟩ := and_e gg2
  obtain ⟨gg5, gg6⟩ := and_e hn
  obtain ⟨gg7, gg8⟩ := and_e gg6
  obtain ⟨gg9, gg10⟩ := and_e gg8
  obtain ⟨gg11, gg12⟩ := and_e gg10
  obtain ⟨gg13, gg14⟩ := and_e gg12
  obtain ⟨gg15, gg16⟩ := and_e gg14
  obtain ⟨gg17, gg18⟩ := and_e gg16
  obtain ⟨w0, w1, rfl⟩ : ∃ w0 w1 : Value, args = #[w0, w1] := by
    have hs : args.size = 2 := by simpa [Cond.value, given_1] using gg1
    obtain ⟨L⟩ := args
    match L, hs with
    | [w0, w1], _ => exact ⟨w0, w1, rfl⟩
  have hw := fun d (hd : d ∈ tables_1) => atoms_spec (ws := Jvm.Cond.code x code maxLocals ret :: tables_1) hat d (List.mem_cons_of_mem _ hd)
  have hfit : Fit s := fun {y c} hc i hi => by
    obtain ⟨ha, rfl⟩ := Array.getElem?_eq_some_iff.mp hc
    have q := List.all_eq_true.mp ((Array.all_eq_true_iff_forall_mem.mp hF) _ (Array.getElem_mem ha)) i (List.mem_range.mpr hi)
    simpa [Array.getElem?_eq_getElem hi] using q
  obtain ⟨i0, ei0⟩ := is_v gg3
  obtain rfl : w0 = (.int i0) := Option.some.inj ei0
  obtain ⟨i1, ei1⟩ := isL_v gg4
  obtain rfl : w1 = (.long i1) := Option.some.inj ei1
  obtain ⟨st_NONE, ev_NONE⟩ := exa_v gg5
  have S_NONE : Sta s s.heap "org/lumiclear/io/Compression" "NONE" "Lorg/lumiclear/io/Compression;" (.ref st_NONE) := Sta.start ev_NONE (Or.inr ⟨(hw _ (List.mem_of_getElem? (i := 1) rfl)), (hw _ (List.mem_of_getElem? (i := 2) rfl))⟩)
  have E_NONE : Exa s s.heap st_NONE "org/lumiclear/io/Compression" := Exa.start ev_NONE gg5
  obtain ⟨st_LZW, ev_LZW⟩ := exa_v gg9
  have S_LZW : Sta s s.heap "org/lumiclear/io/Compression" "LZW" "Lorg/lumiclear/io/Compression;" (.ref st_LZW) := Sta.start ev_LZW (Or.inr ⟨(hw _ (List.mem_of_getElem? (i := 1) rfl)), (hw _ (List.mem_of_getElem? (i := 12) rfl))⟩)
  have E_LZW : Exa s s.heap st_LZW "org/lumiclear/io/Compression" := Exa.start ev_LZW gg9
  obtain ⟨st_DEFLATE, ev_DEFLATE⟩ := exa_v gg13
  have S_DEFLATE : Sta s s.heap "org/lumiclear/io/Compression" "DEFLATE" "Lorg/lumiclear/io/Compression;" (.ref st_DEFLATE) := Sta.start ev_DEFLATE (Or.inr ⟨(hw _ (List.mem_of_getElem? (i := 1) rfl)), (hw _ (List.mem_of_getElem? (i := 15) rfl))⟩)
  have E_DEFLATE : Exa s s.heap st_DEFLATE "org/lumiclear/io/Compression" := Exa.start ev_DEFLATE gg13
  obtain ⟨st_PACKBITS, ev_PACKBITS⟩ := exa_v gg17
  have S_PACKBITS : Sta s s.heap "org/lumiclear/io/Compression" "PACKBITS" "Lorg/lumiclear/io/Compression;" (.ref st_PACKBITS) := Sta.start ev_PACKBITS (Or.inr ⟨(hw _ (List.mem_of_getElem? (i := 1) rfl)), (hw _ (List.mem_of_getElem? (i := 18) rfl))⟩)
  have E_PACKBITS : Exa s s.heap st_PACKBITS "org/lumiclear/io/Compression" := Exa.start ev_PACKBITS gg17
  have O_NONE_expansion : Fld s s.heap st_NONE "org/lumiclear/io/Compression" "expansion" "J" (.long (1 : Int64)) := Fld.start ((fld_at ev_NONE).symm.trans (eqL_v gg7))
  have O_LZW_expansion : Fld s s.heap st_LZW "org/lumiclear/io/Compression" "expansion" "J" (.long (1364 : Int64)) := Fld.start ((fld_at ev_LZW).symm.trans (eqL_v gg11))
  have O_DEFLATE_expansion : Fld s s.heap st_DEFLATE "org/lumiclear/io/Compression" "expansion" "J" (.long (1032 : Int64)) := Fld.start ((fld_at ev_DEFLATE).symm.trans (eqL_v gg15))
  have O_PACKBITS_expansion : Fld s s.heap st_PACKBITS "org/lumiclear/io/Compression" "expansion" "J" (.long (64 : Int64)) := Fld.start ((fld_at ev_PACKBITS).symm.trans (eqL_v gg18))
  obtain ⟨n, o, h1, h2, h3, _, L, rfl, ⟨rfl, N⟩, hq⟩ := rm0 l s _ hw tables_1 i0 i1 st_NONE st_LZW st_DEFLATE st_PACKBITS s.heap s.heap.size (Nat.le_refl _) S_NONE S_LZW S_DEFLATE S_PACKBITS E_NONE E_LZW E_DEFLATE E_PACKBITS O_NONE_expansion O_LZW_expansion O_DEFLATE_expansion O_PACKBITS_expansion p e ha hc hk s m _ below hf ((Spec.applies_iff_loose hf).mp happ).1 ⟨rfl, State.Warmed39.refl s, rfl⟩ trivial
  refine ⟨n, _, h1, h2, h3, hpost _ _ _ _ _ _ ⟨Cond.after_iff.mpr rfl, Cond.after_iff.mpr (eq_i res_at (Term.int_eval (1)) rfl), trivial⟩ ⟨hq.1, hq.2.1, (hq.2.2.sift fun y hy => Or.inr (N y hy)).mono (by decide) (by decide)⟩⟩
theorem main_1_1 : Claimed_1_1 := comes_1 fun _ _ _ _ _ _ h hF => ⟨h.1, hF⟩
theorem main_1_2 : Claimed_1_2 := comes_1 fun _ _ _ _ _ _ h hF => ⟨h.2.1, hF⟩
end Jvm.Pilot.@@N@@
namespace Jvm.Pilot.@@N@@
open Jvm Jvm.ClassFile Sem Op Lib Jvm.Free Jvm.Stand Jvm.Pilot.@@N@@.Jvm.D
/-! MADE BY PROGRAM (witnessworld.py) out of the Statement's table words and the real class files: 12 classes; the members and pool entries that the words name. The judged class is class 1, her method 1. -/
namespace start1
open Jvm.ClassFile
def u (s : String) : CpInfo := .utf8 (stringToUtf16 s)
/-- a pool by its gaps: so many unusable entries, then the entry; so many at the end -/
def gap : Nat → List CpInfo → List CpInfo
  | 0, r => r
  | n + 1, r => .unusable :: gap n r
def poolList (es : List (Nat × CpInfo)) (last : Nat) : List CpInfo := es.foldr (fun e r => gap e.1 (e.2 :: r)) (gap last [])
def pool (es : List (Nat × CpInfo)) (last : Nat) : Array CpInfo := ⟨poolList es last⟩
def fileOf (pool : Array CpInfo) (this : Nat) (attrs : Array Attribute := #[]) (ms : Array MethodInfo := #[]) (fl : Nat := 33) (sup : Nat := 0) (ifs : Array Nat := #[]) (fds : Array FieldInfo := #[]) : ClassFile where
  minorVersion := 0
  majorVersion := 65
  constantPool := pool
  accessFlags := fl
  thisClass := this
  superClass := sup
  interfaces := ifs
  fields := fds
  methods := ms
  attributes := attrs
def plain (name : String) (sup : Option ClassId) : Class where
  name := name
  kind := .ordinary
  loader := none
  accessFlags := 33
  super := sup
  interfaces := #[]
  cf := none
  fields := #[]
  methods := #[]
  instanceTypes := #[]
  staticTypes := #[]
  resolved := #[]
  callSites := []
  init := .initialized
  statics := none
  mirror := none

def pool0 : Array CpInfo := pool [(5, u "<init>"), (0, u "()V"), (1, .class_ 10), (1, u "java/lang/Object")] 113

def k0m0 : Method := { name := "<init>", desc := "()V", sig := { parameters := [], returnType := none }, accessFlags := 1, code := none }
/-- java/lang/Object -/
def k0 : Class := { plain "java/lang/Object" none with
  accessFlags := 33
  interfaces := #[]
  cf := some (fileOf pool0 8 #[] #[{ accessFlags := 1, nameIndex := 5, descriptorIndex := 6, attributes := #[] }] 33 0 #[] #[])
  fields := #[]
  methods := #[k0m0]
  instanceTypes := #[]
  staticTypes := #[]
  resolved := Array.replicate 124 none
  statics := none }

def pool1 : Array CpInfo := pool [(2, .class_ 4), (1, u "java/lang/Object"), (0, u "<init>"), (0, u "()V"), (0, .fieldref 8 9), (0, .class_ 10), (0, .nameAndType 11 12), (0, u "org/lumiclear/io/Compression"), (0, u "NONE"), (0, u "Lorg/lumiclear/io/Compression;"), (0, .fieldref 8 14), (0, .nameAndType 15 12), (0, u "LZW"), (0, .long 1364), (1, .fieldref 8 19), (0, .nameAndType 20 12), (0, u "DEFLATE"), (0, .long 1032), (1, .fieldref 8 24), (0, .nameAndType 25 12), (0, u "PACKBITS"), (0, .long 64), (1, .long 4611686018427387903), (1, .methodref 8 31), (0, .nameAndType 32 33), (0, u "leastStored"), (0, u "(J)J"), (0, .class_ 35), (0, u "org/lumiclear/io/CompressionLeastStoredPinLaw"), (2, u "law"), (0, u "(IJ)Z")] 3

def k1m0 : Method := { name := "<init>", desc := "()V", sig := { parameters := [], returnType := none }, accessFlags := 1, code := none }
def k1c1 : Code := { maxStack := 6, maxLocals := 11, code := code, exceptionTable := #[], attributes := #[] }
def k1m1 : Method := { name := "law", desc := "(IJ)Z", sig := { parameters := [.int, .long], returnType := some .boolean }, accessFlags := 9, code := some k1c1 }
/-- org/lumiclear/io/CompressionLeastStoredPinLaw -/
def k1 : Class := { plain "org/lumiclear/io/CompressionLeastStoredPinLaw" (some 0) with
  accessFlags := 49
  interfaces := #[]
  cf := some (fileOf pool1 34 #[] #[{ accessFlags := 1, nameIndex := 5, descriptorIndex := 6, attributes := #[] }, { accessFlags := 9, nameIndex := 38, descriptorIndex := 39, attributes := #[] }] 49 2 #[] #[])
  fields := #[]
  methods := #[k1m0, k1m1]
  instanceTypes := #[]
  staticTypes := #[]
  resolved := Array.replicate 43 none
  statics := none }

def pool2 : Array CpInfo := pool [(1, .class_ 2), (0, u "java/lang/constant/Constable"), (0, .class_ 4), (0, u "java/lang/Object")] 6

/-- java/lang/constant/Constable -/
def k2 : Class := { plain "java/lang/constant/Constable" (some 0) with
  accessFlags := 1537
  interfaces := #[]
  cf := some (fileOf pool2 1 #[] #[] 1537 3 #[] #[])
  fields := #[]
  methods := #[]
  instanceTypes := #[]
  staticTypes := #[]
  resolved := Array.replicate 11 none
  statics := none }

def pool3 : Array CpInfo := pool [(1, .class_ 2), (0, u "java/lang/Comparable"), (0, .class_ 4), (0, u "java/lang/Object")] 7

/-- java/lang/Comparable -/
def k3 : Class := { plain "java/lang/Comparable" (some 0) with
  accessFlags := 1537
  interfaces := #[]
  cf := some (fileOf pool3 1 #[] #[] 1537 3 #[] #[])
  fields := #[]
  methods := #[]
  instanceTypes := #[]
  staticTypes := #[]
  resolved := Array.replicate 12 none
  statics := none }

def pool4 : Array CpInfo := pool [(1, .class_ 2), (0, u "java/io/Serializable"), (0, .class_ 4), (0, u "java/lang/Object")] 2

/-- java/io/Serializable -/
def k4 : Class := { plain "java/io/Serializable" (some 0) with
  accessFlags := 1537
  interfaces := #[]
  cf := some (fileOf pool4 1 #[] #[] 1537 3 #[] #[])
  fields := #[]
  methods := #[]
  instanceTypes := #[]
  staticTypes := #[]
  resolved := Array.replicate 7 none
  statics := none }

def pool5 : Array CpInfo := pool [(2, .class_ 4), (1, u "java/lang/Enum"), (0, u "name"), (0, u "Ljava/lang/String;"), (2, u "ordinal"), (0, u "I"), (1, .class_ 14), (1, u "java/lang/Object"), (4, u "hash"), (86, .class_ 108), (1, u "java/lang/Enum$EnumDesc"), (2, .class_ 112), (0, u "java/lang/constant/Constable"), (0, .class_ 114), (0, u "java/lang/Comparable"), (0, .class_ 116), (0, u "java/io/Serializable")] 87

/-- java/lang/Enum -/
def k5 : Class := { plain "java/lang/Enum" (some 0) with
  accessFlags := 1057
  interfaces := #[2, 3, 4]
  cf := some (fileOf pool5 2 #[.nestMembers #[106]] #[] 1057 12 #[111, 113, 115] #[{ accessFlags := 18, nameIndex := 5, descriptorIndex := 6, attributes := #[] }, { accessFlags := 18, nameIndex := 9, descriptorIndex := 10, attributes := #[] }, { accessFlags := 2, nameIndex := 19, descriptorIndex := 10, attributes := #[] }])
  fields := #[{ name := "name", type := (.object "java/lang/String"), accessFlags := 18, slot := 0, constantValue := 0 }, { name := "ordinal", type := .int, accessFlags := 18, slot := 1, constantValue := 0 }, { name := "hash", type := .int, accessFlags := 2, slot := 2, constantValue := 0 }]
  methods := #[]
  instanceTypes := #[(.object "java/lang/String"), .int, .int]
  staticTypes := #[]
  resolved := Array.replicate 204 none
  statics := none }

def pool6 : Array CpInfo := pool [(1, .class_ 2), (0, u "org/lumiclear/io/Compression"), (2, u "NONE"), (0, u "Lorg/lumiclear/io/Compression;"), (2, u "LZW"), (2, u "DEFLATE"), (2, u "PACKBITS"), (2, u "$VALUES"), (0, u "[Lorg/lumiclear/io/Compression;"), (6, .class_ 28), (1, u "java/lang/Enum"), (8, u "label"), (0, u "Ljava/lang/String;"), (0, .fieldref 1 40), (0, .nameAndType 41 42), (0, u "expansion"), (0, u "J"), (2, u "predicted"), (0, u "Z"), (2, u "count"), (0, u "Lorg/lumiclear/io/Compression$Count;"), (2, u "codes"), (0, u "[I"), (22, .class_ 79), (1, u "org/lumiclear/io/Compression$Count"), (46, u "(J)J"), (0, u "leastStored")] 44

def k6c0 : Code := { maxStack := 4, maxLocals := 3, code := prog_5_method_8_code, exceptionTable := #[], attributes := #[] }
def k6m0 : Method := { name := "leastStored", desc := "(J)J", sig := { parameters := [.long], returnType := some .long }, accessFlags := 0, code := some k6c0 }
/-- org/lumiclear/io/Compression -/
def k6 : Class := { plain "org/lumiclear/io/Compression" (some 5) with
  accessFlags := 16432
  interfaces := #[]
  cf := some (fileOf pool6 1 #[.nestMembers #[77]] #[{ accessFlags := 0, nameIndex := 127, descriptorIndex := 126, attributes := #[] }] 16432 26 #[] #[{ accessFlags := 16409, nameIndex := 5, descriptorIndex := 6, attributes := #[] }, { accessFlags := 16409, nameIndex := 9, descriptorIndex := 6, attributes := #[] }, { accessFlags := 16409, nameIndex := 12, descriptorIndex := 6, attributes := #[] }, { accessFlags := 16409, nameIndex := 15, descriptorIndex := 6, attributes := #[] }, { accessFlags := 18, nameIndex := 37, descriptorIndex := 38, attributes := #[] }, { accessFlags := 18, nameIndex := 41, descriptorIndex := 42, attributes := #[] }, { accessFlags := 18, nameIndex := 45, descriptorIndex := 46, attributes := #[] }, { accessFlags := 18, nameIndex := 49, descriptorIndex := 50, attributes := #[] }, { accessFlags := 18, nameIndex := 53, descriptorIndex := 54, attributes := #[] }, { accessFlags := 4122, nameIndex := 18, descriptorIndex := 19, attributes := #[] }])
  fields := #[{ name := "NONE", type := (.object "org/lumiclear/io/Compression"), accessFlags := 16409, slot := 0, constantValue := 0 }, { name := "LZW", type := (.object "org/lumiclear/io/Compression"), accessFlags := 16409, slot := 1, constantValue := 0 }, { name := "DEFLATE", type := (.object "org/lumiclear/io/Compression"), accessFlags := 16409, slot := 2, constantValue := 0 }, { name := "PACKBITS", type := (.object "org/lumiclear/io/Compression"), accessFlags := 16409, slot := 3, constantValue := 0 }, { name := "label", type := (.object "java/lang/String"), accessFlags := 18, slot := 3, constantValue := 0 }, { name := "expansion", type := .long, accessFlags := 18, slot := 4, constantValue := 0 }, { name := "predicted", type := .boolean, accessFlags := 18, slot := 5, constantValue := 0 }, { name := "count", type := (.object "org/lumiclear/io/Compression$Count"), accessFlags := 18, slot := 6, constantValue := 0 }, { name := "codes", type := (.array .int), accessFlags := 18, slot := 7, constantValue := 0 }, { name := "$VALUES", type := (.array (.object "org/lumiclear/io/Compression")), accessFlags := 4122, slot := 4, constantValue := 0 }]
  methods := #[k6m0]
  instanceTypes := #[(.object "java/lang/String"), .int, .int, (.object "java/lang/String"), .long, .boolean, (.object "org/lumiclear/io/Compression$Count"), (.array .int)]
  staticTypes := #[(.object "org/lumiclear/io/Compression"), (.object "org/lumiclear/io/Compression"), (.object "org/lumiclear/io/Compression"), (.object "org/lumiclear/io/Compression"), (.array (.object "org/lumiclear/io/Compression"))]
  resolved := Array.replicate 172 none
  statics := some 0 }

def pool7 : Array CpInfo := pool [(1, u "java/lang/Cloneable"), (0, .class_ 1), (0, u "java/lang/Object"), (0, .class_ 3)] 3

/-- java/lang/Cloneable -/
def k7 : Class := { plain "java/lang/Cloneable" (some 0) with
  accessFlags := 1537
  interfaces := #[]
  cf := some (fileOf pool7 2 #[] #[] 1537 4 #[] #[])
  fields := #[]
  methods := #[]
  instanceTypes := #[]
  staticTypes := #[]
  resolved := Array.replicate 8 none
  statics := none }

/-- the primitive byte -/
def k8 : Class := { plain "byte" none with kind := .primitive 'B', accessFlags := 0x411 }
/-- [B -/
def k9 : Class := { plain "[B" (some 0) with kind := .array 8 .byte, interfaces := #[7, 4], accessFlags := 1041 }

/-- the primitive int -/
def k10 : Class := { plain "int" none with kind := .primitive 'I', accessFlags := 0x411 }
/-- [I -/
def k11 : Class := { plain "[I" (some 0) with kind := .array 10 .int, interfaces := #[7, 4], accessFlags := 1041 }

def heap : Heap := #[{ cls := 6, slots := #[.ref 1, .ref 2, .ref 3, .ref 4, .null], vm := .statics 6 },
  { cls := 6, slots := #[.null, .int 0, .int 0, .null, .long (1), .int 0, .null, .null], vm := .none },
  { cls := 6, slots := #[.null, .int 0, .int 0, .null, .long (1364), .int 0, .null, .null], vm := .none },
  { cls := 6, slots := #[.null, .int 0, .int 0, .null, .long (1032), .int 0, .null, .null], vm := .none },
  { cls := 6, slots := #[.null, .int 0, .int 0, .null, .long (64), .int 0, .null, .null], vm := .none }]
def classes : Array Class := #[k0, k1, k2, k3, k4, k5, k6, k7, k8, k9, k10, k11]
def interned : List (Array UInt16 × Addr) := []
def slotsUsed : Nat := 37
def theMethod : MethodId := ⟨1, 1⟩
def args0 : Array Value := #[.int 1, .long 5]
def aboutOver (below : List Frame) : State where
  vm := { classes := classes, interned := interned.toArray }
  heap := heap
  slotsUsed := slotsUsed
  threads := #[{ frames := .invoking theMethod args0 :: below }]
def below0 : List Frame := [.native { method := ⟨0, 0⟩, args := #[] }]
def about1 : State := aboutOver below0
def p0 : Program := .bare "" "" ""
def e0 : Env := launch0.env 0 0 0
theorem w_frames : about1.frames = Frame.invoking theMethod args0 :: below0 := rfl
set_option maxRecDepth 65536 in
theorem w_args : argsFit about1.vm theMethod args0 = true := by decide +kernel
set_option maxRecDepth 65536 in
theorem w_heap : heapFits about1 = true := by decide +kernel
set_option maxRecDepth 65536 in
theorem w_runnable : about1.curStatus? = some .runnable := by decide +kernel
set_option maxRecDepth 65536 in
theorem w_alone : about1.alone = true := by decide +kernel
set_option maxRecDepth 65536 in
theorem w_named : about1.methodNamed? x = some theMethod := by decide +kernel
set_option maxRecDepth 65536 in
theorem w_hears : about1.hears theMethod below0 = true := by decide +kernel
set_option maxRecDepth 65536 in
theorem w_ripe : about1.ripe theMethod args0 below0 = true := by decide +kernel
theorem w_running : about1.status = .running := rfl
set_option maxRecDepth 65536 in
theorem w_room : about1.hasRoom e0.platform room_1 = true :=
  launch0.hasRoom_least _ room_1 (by decide +kernel) (by decide +kernel) (by decide +kernel) (by decide +kernel) (by decide +kernel) (by decide +kernel)
theorem allAtoms_all (ts : List Jvm.Cond) (a : Array Jvm.Value) (st : Jvm.State) : (allAtoms ts).before a st = ts.all (fun c => c.before a st) := by
  induction ts with
  | nil => rfl
  | cons c t ih =>
    show (Jvm.Cond.and c (allAtoms t)).before a st = _
    rw [Jvm.Cond.before_and, ih, List.all_cons]
def words1 : List Jvm.Cond := Jvm.Cond.code x code maxLocals ret :: tables_1
/-- a 'code' word, met by the world's own term for the bytes: nothing is compared byte by byte -/
theorem code_word {y : MethodName} {bytes : ByteArray} {mx : Nat} {rt : Option FieldType} {a : Array Value} {s : State} {m : MethodId} {meth : Method} {c : Code} (h1 : s.methodNamed? y = some m) (h2 : s.vm.method? m = some meth) (h3 : meth.code = some c) (h4 : c.code = bytes)
    (h5 : (c.maxLocals == mx && c.exceptionTable.isEmpty && decide (c.maxStack ≤ mostOperands) && decide (meth.sig.returnType = rt) && !meth.locks && decide (parseMethodDescriptor y.desc = some meth.sig)) = true) : (Jvm.Cond.code y bytes mx rt).before a s = true := by
  simp only [Bool.and_eq_true, beq_iff_eq, Bool.not_eq_true', decide_eq_true_eq] at h5
  obtain ⟨⟨⟨⟨⟨g1, g2⟩, g3⟩, g4⟩, g5⟩, g6⟩ := h5
  simp [Cond.before, Cond.holds, Cond.value, h1, h2, h3, h4, g1, g2, g3, g4, g5, g6]
def isCode : Jvm.Cond → Bool
  | .code _ _ _ _ => true
  | _ => false
theorem all_split {L : List Jvm.Cond} {P : Jvm.Cond → Bool} (h1 : L.all (fun c => isCode c || P c) = true) (h2 : ∀ c ∈ L.filter isCode, P c = true) : L.all P = true := by
  refine List.all_eq_true.mpr fun c hc => ?_
  have h := List.all_eq_true.mp h1 c hc
  rcases Bool.eq_false_or_eq_true (isCode c) with hi | hi
  · exact h2 c (List.mem_filter.mpr ⟨hc, hi⟩)
  · simpa [hi] using h
set_option maxRecDepth 65536 in
theorem w_c0 : (Jvm.Cond.code x code maxLocals ret).before args0 about1 = true := code_word (m := ⟨1, 1⟩) (meth := k1m1) (c := k1c1) (by decide +kernel) rfl rfl rfl (by decide +kernel)
set_option maxRecDepth 65536 in
theorem w_c1 : (Jvm.Cond.code ({ cls := "org/lumiclear/io/Compression", name := "leastStored", desc := "(J)J" } : Jvm.MethodName) prog_5_method_8_code (3 : Nat) (Option.some Jvm.ClassFile.FieldType.long)).before args0 about1 = true := code_word (m := ⟨6, 0⟩) (meth := k6m0) (c := k6c0) (by decide +kernel) rfl rfl rfl (by decide +kernel)
def codes1 : List Jvm.Cond := [Jvm.Cond.code x code maxLocals ret, Jvm.Cond.code ({ cls := "org/lumiclear/io/Compression", name := "leastStored", desc := "(J)J" } : Jvm.MethodName) prog_5_method_8_code (3 : Nat) (Option.some Jvm.ClassFile.FieldType.long)]
set_option maxRecDepth 65536 in
theorem codes_eq : words1.filter isCode = codes1 := rfl
theorem w_codes : ∀ c ∈ words1.filter isCode, c.before args0 about1 = true := by
  rw [codes_eq]
  intro c hc
  simp only [codes1, List.mem_cons, List.not_mem_nil, or_false] at hc
  rcases hc with rfl | rfl
  · exact w_c0
  · exact w_c1
set_option maxRecDepth 65536 in
theorem w_t1 : words1.all (fun c => isCode c || c.before args0 about1) = true := by decide +kernel
theorem w_tables : (allAtoms (Jvm.Cond.code x code maxLocals ret :: tables_1)).before args0 about1 = true := by
  rw [allAtoms_all]
  show words1.all (fun c => c.before args0 about1) = true
  refine all_split ?_ w_codes
  rw [w_t1]
set_option maxRecDepth 65536 in
theorem w_case : (Jvm.Cond.and given_1 narrow_1).before args0 about1 = true := by decide +kernel
theorem w_applies : (headSpec (Jvm.Cond.code x code maxLocals ret :: tables_1) room_1).applies x e0.platform about1 = true :=
  (Spec.applies_iff w_frames).mpr ⟨w_running, w_runnable, w_alone, w_named, w_hears, w_ripe, w_room, w_tables⟩
theorem atStart : AtStart classFile x code maxLocals ret World_1 tables_1 room_1 Calls_1 rest_1 Pre_1 launch0 p0 e0 about1 theMethod args0 below0 :=
  ⟨lists_1, trivial, launch0.admits_env _ _ _, launch0.least_env, fairChoices_fair.cas, fairChoices_fair.clock, w_frames, w_args, w_heap, w_applies, trivial, trivial, w_case⟩
end start1
theorem witness_1 : WitnessClaimed_1 := ⟨start1.p0, start1.e0, start1.about1, start1.theMethod, start1.args0, start1.below0, start1.atStart⟩
end Jvm.Pilot.@@N@@
