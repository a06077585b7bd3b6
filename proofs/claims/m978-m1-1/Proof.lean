import JvmDerived
import JvmDerived.Pilot.@@N@@Statement
import JvmDerived.Pilot.@@N@@Code
set_option linter.unusedVariables false
set_option linter.unusedSimpArgs false
namespace Jvm.RoadKit
open Sem ClassFile Op Lib Jvm.Stand Jvm.Free Jvm.LawKit
section Own
variable {p : Program} {l : Launch} {e : Env} {R : Room} {s : State} {m : MethodId} {args : Array Value} {below : List Frame} {meth : Method} {c : Code} {T T' : State} {locs : List Loc} {cells slots : Nat} {Q : Option Value → Heap → List Loc → Prop} {h : Heap}
/-- from T the invocation comes to an end of which P holds -/
def Ends (p : Program) (e : Env) (below : List Frame) (P : Outcome → State → Prop) (T : State) : Prop := ∃ s₂ o, Steps p.tables e below T s₂ ∧ s₂.status = .running ∧ Ended s₂ below o ∧ P o s₂
/-- the end of a body that interns nothing -/
def EndN (s : State) (R : Room) (Q : Option Value → Heap → List Loc → Prop) (o : Outcome) (s₂ : State) : Prop := ∃ v L, o = .returned v ∧ Q v s₂.heap L ∧ FrameEnd s o s₂ L R.cells R.slots
/-- the end of a body that may intern String constants -/
def EndW (s : State) (R : Room) (Z : State) (EL : List (String × Nat)) (Q : Option Value → Heap → List Loc → Prop) (o : Outcome) (s₂ : State) : Prop := ∃ v L, o = .returned v ∧ Q v s₂.heap L ∧ CHr Z EL s.vm s.heap s₂.vm s₂.heap ∧ ReturnedEndW s o s₂ L R.cells R.slots
theorem Ends.pre {P : Outcome → State → Prop} (k : ∀ t, Steps p.tables e below T' t → Steps p.tables e below T t) (h : Ends p e below P T') : Ends p e below P T := by
  obtain ⟨a, b, d, r⟩ := h
  exact ⟨a, b, k _ d, r⟩
theorem Ends.cast {P : Outcome → State → Prop} {g g' : JFrame} (q : g = g') (h : Ends p e below P (T.setTop g')) : Ends p e below P (T.setTop g) := q ▸ h
theorem Ends.ret (X : Stand p l e R s m args below meth c T locs cells slots) (hx : p.tables.exec = Jvm.exec) (hlk : meth.locks = false) {pc : Nat} {Ls : Array Slot} {w : Value} {t : FieldType} {i : Instr} {rest : List Value} (hret : meth.sig.returnType = some t) (hn : narrow t w = w)
    (hi : (i = .ireturn ∧ (t = .int ∨ t = .boolean ∨ t = .byte ∨ t = .char ∨ t = .short) ∧ ∃ z, w = .int z) ∨ (i = .lreturn ∧ t = .long ∧ ∃ z, w = .long z) ∨ (i = .dreturn ∧ t = .double ∧ ∃ z, w = .double z) ∨ (i = .freturn ∧ t = .float ∧ ∃ z, w = .float z) ∨ (i = .areturn ∧ t.isReference = true ∧ w.isRef = true))
    (hd : decode c.code pc = .ok (i, 1)) (eT : T.heap = h) (hq : Q (some w) h locs) (h1 : cells ≤ R.cells) (h2 : slots ≤ R.slots) : Ends p e below (EndN s R Q) (T.setTop (mkF m pc Ls (w :: rest))) := by
  obtain ⟨fs, hr, hrun, hended, hW, hsame⟩ := X.leave (v := some w) (fun q => by rw [hret] at q; cases q) hlk
  refine ⟨_, _, retOut X hx hret hn hi hd hr, hrun, hended, _, _, rfl, ?_, ⟨_, rfl⟩, hW, hsame.mono h1 h2⟩
  show Q (some w) T.heap locs
  rw [eT]; exact hq
theorem Ends.ret0 (X : Stand p l e R s m args below meth c T locs cells slots) (hx : p.tables.exec = Jvm.exec) (hlk : meth.locks = false) {pc : Nat} {Ls : Array Slot} (hret : meth.sig.returnType = none)
    (hd : decode c.code pc = .ok (.return_, 1)) (eT : T.heap = h) (hq : Q none h locs) (h1 : cells ≤ R.cells) (h2 : slots ≤ R.slots) : Ends p e below (EndN s R Q) (T.setTop (mkF m pc Ls [])) := by
  obtain ⟨fs, hr, hrun, hended, hW, hsame⟩ := X.leave (v := none) (fun _ => rfl) hlk
  refine ⟨_, _, X.returnOut hx hret hd hr, hrun, hended, _, _, rfl, ?_, ⟨_, rfl⟩, hW, hsame.mono h1 h2⟩
  show Q none T.heap locs
  rw [eT]; exact hq
theorem Ends.retW {Z : State} {a0 : Array Value} {EL : List (String × Nat)} {vm0 : Vm} {k0 : Nat} {h0 : Heap} (X : Stand p l e R (s.setVm vm0) m args below meth c T locs cells slots) (hx : p.tables.exec = Jvm.exec) (hlk : meth.locks = false) {pc : Nat} {Ls : Array Slot} {w : Value} {t : FieldType} {i : Instr} {rest : List Value} (hret : meth.sig.returnType = some t) (hn : narrow t w = w)
    (hi : (i = .ireturn ∧ (t = .int ∨ t = .boolean ∨ t = .byte ∨ t = .char ∨ t = .short) ∧ ∃ z, w = .int z) ∨ (i = .lreturn ∧ t = .long ∧ ∃ z, w = .long z) ∨ (i = .dreturn ∧ t = .double ∧ ∃ z, w = .double z) ∨ (i = .freturn ∧ t = .float ∧ ∃ z, w = .float z) ∨ (i = .areturn ∧ t.isReference = true ∧ w.isRef = true))
    (hd : decode c.code pc = .ok (i, 1)) (eT : T.heap = h) (hZ : Z.Warmed39 vm0) (hEL : EW Z a0 EL) (hS : s.Since vm0 k0) (hk : k0 ≤ h.size) (hh : s.heap = h0) (CR : CHr Z EL s.vm h0 vm0 h) (hq : Q (some w) h locs) (h1 : cells ≤ R.cells) (h2 : slots ≤ R.slots) : Ends p e below (EndW s R Z EL Q) (T.setTop (mkF m pc Ls (w :: rest))) := by
  subst eT hh
  obtain ⟨fs, hr, hrun, hended, r1, r2, r3, r4⟩ := X.leaveW hS hk (v := some w) (fun q => by rw [hret] at q; cases q) hlk
  have q := CR.trans (CHv.at X hZ hEL CR.1)
  exact ⟨_, _, retOut X hx hret hn hi hd hr, hrun, hended, _, _, rfl, hq, q, r1, r2, r3, r4.mono h1 h2⟩
theorem Ends.ret0W {Z : State} {a0 : Array Value} {EL : List (String × Nat)} {vm0 : Vm} {k0 : Nat} {h0 : Heap} (X : Stand p l e R (s.setVm vm0) m args below meth c T locs cells slots) (hx : p.tables.exec = Jvm.exec) (hlk : meth.locks = false) {pc : Nat} {Ls : Array Slot} (hret : meth.sig.returnType = none)
    (hd : decode c.code pc = .ok (.return_, 1)) (eT : T.heap = h) (hZ : Z.Warmed39 vm0) (hEL : EW Z a0 EL) (hS : s.Since vm0 k0) (hk : k0 ≤ h.size) (hh : s.heap = h0) (CR : CHr Z EL s.vm h0 vm0 h) (hq : Q none h locs) (h1 : cells ≤ R.cells) (h2 : slots ≤ R.slots) : Ends p e below (EndW s R Z EL Q) (T.setTop (mkF m pc Ls [])) := by
  subst eT hh
  obtain ⟨fs, hr, hrun, hended, r1, r2, r3, r4⟩ := X.leaveW hS hk (v := none) (fun _ => rfl) hlk
  have q := CR.trans (CHv.at X hZ hEL CR.1)
  exact ⟨_, _, X.returnOut hx hret hd hr, hrun, hended, _, _, rfl, hq, q, r1, r2, r3, r4.mono h1 h2⟩
/-- T' stands as T does -/
def SS (X : Stand p l e R s m args below meth c T locs cells slots) (T' : State) : Prop := Stand p l e R s m args below meth c T' locs cells slots
theorem Stand_mono {cells' slots' : Nat} (X : Stand p l e R s m args below meth c T locs cells slots) (h1 : cells ≤ cells') (h2 : slots ≤ slots') : Stand p l e R s m args below meth c T locs cells' slots' := { X with same := X.same.mono h1 h2 }
theorem lremM {g : JFrame} {target : State} (X : Stand p l e R s m args below meth c T locs cells slots) (hx : p.tables.exec = Jvm.exec) (hg : g.method = m) {x y : Int64} {rest : List Value} (hd : decode c.code g.pc = .ok (.lrem, 1)) (hs : g.stack = .long y :: .long x :: rest) (hy : y ≠ 0)
    (hr : Steps p.tables e below (T.setTop { g with pc := g.pc + 1, stack := .long (x % y) :: rest }) target) : Steps p.tables e below (T.setTop g) target :=
  XS.lrem X.here hx hg hd hs hy (by rw [lrem_mod]; exact hr)
theorem nf_via {y y' : MethodName} {m' : MethodId} (hn : s.methodNamed? y' = some m') (hc : y'.cls = y.cls) (nf : NotFace s y') : NotFace s y := fun r0 h0 => by
  obtain ⟨kr, h1, h2⟩ := nf _ hn
  have e1 := findClass_of_methodNamed hn
  have e2 := findClass_of_methodNamed h0
  rw [hc] at e1
  have e3 : m'.cls = r0.cls := Option.some.inj (e1.symm.trans e2)
  exact ⟨kr, e3 ▸ h1, h2⟩
theorem Sta_keep0 {Z : State} {h h' : Heap} {C n d : String} {v : Value} (F : Sta Z h C n d v) (K : Keep h h' []) : Sta Z h' C n d v := by
  obtain ⟨cf, i, k, f, st, cell, h1, h2, h3, h4, h5, r⟩ := F
  exact ⟨cf, i, k, f, st, cell, h1, h2, h3, h4, K.2.1 _ _ h5 nin0, r⟩
theorem Sta_keepW {Z : State} {h h' : Heap} {ws : List Addr} {C n d : String} {v : Value} (F : Sta Z h C n d v) (K : Keep h h' ws) (q : ∀ x ∈ ws, ∀ cell : Cell, h[x]? = some cell → cell.vm.isStatics = false) : Sta Z h' C n d v := by
  obtain ⟨cf, i, k, f, st, cell, h1, h2, h3, h4, h5, h6, r⟩ := F
  exact ⟨cf, i, k, f, st, cell, h1, h2, h3, h4, K.2.1 _ _ h5 (fun z => by have := q _ z _ h5; rw [h6] at this; cases this), h6, r⟩
theorem Ins_keep {Z : State} {h h' : Heap} {ws : List Addr} {a : Addr} {C : String} {b : Bool} (F : Ins Z h a C b) (K : Keep h h' ws) : Ins Z h' a C b := by
  obtain ⟨cell, cT, h1, h2, h3⟩ := F
  obtain ⟨c', q1, q2, q3, -⟩ := K.2.2 _ _ h1
  exact ⟨c', cT, q1, h2, by rw [q2, q3]; exact h3⟩
theorem Arr_keep0 {Z : State} {h h' : Heap} {a : Addr} {c : Cell} {ty : FieldType} (F : Arr Z h a c ty) (K : Keep h h' []) : Arr Z h' a c ty := ⟨K.2.1 _ _ F.1 nin0, F.2⟩
theorem NS_root' {Z : State} {a0 : Array Value} {O K : String} {n : Nat} (w : (Cond.noSuperclass O).before a0 Z = true) (wk : (Cond.instantiable K n).before a0 Z = true) (hn : O ≠ K) : NS Z O K := by
  obtain ⟨c, k, h1, h2, h3, -, -⟩ := Cond.noSuperclass_spec w
  obtain ⟨t, kt, g1, -⟩ := Cond.instantiable_spec wk
  have ne := ids_ne h1 g1 hn
  refine ⟨c, t, h1, g1, fun fuel => ?_⟩
  cases fuel with
  | zero => rfl
  | succ f => simp [Vm.isSubclassAux, ne, h2, h3]
theorem NS_no' {Z : State} {a0 : Array Value} {C S K : String} {n : Nat} (w : (Cond.superclass C S).before a0 Z = true) (wk : (Cond.instantiable K n).before a0 Z = true) (q : NS Z C K) (hn : C ≠ K) : ∃ c t, Z.vm.findClass C = some c ∧ Z.vm.findClass K = some t ∧ Z.vm.assignable c t = false := by
  obtain ⟨c, t, h0, g0, n3⟩ := q
  obtain ⟨p, k, kp, h1, h2, h3, h4, h5, -, h7⟩ := Cond.superclass_spec h0 w
  obtain ⟨t', k', g1, g2, g5, g7, -⟩ := Cond.instantiable_spec wk
  cases g0.symm.trans g1
  have ne := ids_ne h0 g0 hn
  have g8 : k'.isInterface = false := by
    cases hq : k'.isInterface with
    | false => rfl
    | true => simp [hq] at g7
  refine ⟨c, t, h0, g0, ?_⟩
  show Z.vm.assignableAux (255 + 1) c t = false
  simp [Vm.assignableAux, ne, h2, g2, h5, g5, g8, Vm.isSubclass, n3]
theorem Safe_null {Z : State} {EL : List (String × Nat)} {vm : Vm} {h : Heap} {x : Addr} (hal : Z.vm.Alike vm) (E : Exa Z h x "java/lang/String") (F : Fld Z h x "java/lang/String" "value" "[B" .null) : Safe Z EL vm h x := fun B => by
  obtain ⟨p, -, u, a, -, q, -, G, rfl | rfl⟩ := B
  · have ha : h[q.sa]? = some q.sC := G.ha
    obtain ⟨cS, ⟨⟨-, -, -, ⟨c1, k1, i1, f1, -⟩, -, -, -, v1, -⟩, -⟩, -⟩ := G
    obtain ⟨cell, cf, k, i, f, g1, g2, -, -, -, -, g7⟩ := F
    cases ha.symm.trans g1
    obtain ⟨k3, e3, -⟩ := State.fieldFound?_setVm (s := Z) hal g2
    have e4 := (show (Wst Z vm h).fieldFound? _ _ _ = _ from e3).symm.trans f1
    simp only [Option.some.injEq, Prod.mk.injEq] at e4
    rw [← e4.2.2.2, g7] at v1
    cases v1
  · have hd : h[q.sd]? = some q.SA := G.hd
    obtain ⟨cS, -, -, f, -⟩ := G
    obtain ⟨cell, k, e1, e2, -⟩ := E
    cases hd.symm.trans e1
    exact ids_ne e2 ((hal.findClass _ _).symm.trans f) (by decide) rfl
theorem sel_priv {args : Array Value} {n : Nat} {y : MethodName} (hy : y.cls ≠ "java/lang/invoke/MethodHandle" ∧ y.cls ≠ "java/lang/invoke/VarHandle") (hins : (Cond.instantiable y.cls n).before args s = true) (hpriv : (Cond.privateMethod y).before args s = true) (hinst : (Cond.instanceMethod y).before args s = true) : (Cond.selects y.cls y y).before args s = true := by
  obtain ⟨c, k, hc, hk, -, hniab, -, -⟩ := Cond.instantiable_spec hins
  have hni : k.isInterface = false := (Bool.or_eq_false_iff.mp hniab).1
  obtain ⟨mk, methM, hnamed, hmethM, -, -⟩ := Cond.instanceMethod_spec hinst
  have hfound : s.methodFound? y.cls y.name y.desc = some mk := State.methodFound?_of_named hnamed hy
  have hcls : mk.cls = c := Option.some.inj ((findClass_of_methodNamed hnamed).symm.trans hc)
  have hsel : selectMethod {} s.vm c mk = .method mk := selectMethod_private hmethM (Cond.privateMethod_at hpriv mk methM hnamed hmethM)
  simp only [Cond.before, Cond.holds, Cond.value, hc, hfound, hnamed, hsel, hcls, hk]
  simp; exact hni
theorem arv_ty {Z : State} {h : Heap} {a b : Addr} {k1 k2 : ClassId} {t1 t2 : FieldType} {z1 z2 : Int32} {v1 v2 : List Value} {d1 d2 : Value} (A : Arv Z h a k1 t1 z1 v1 d1) (B : Arv Z h b k2 t2 z2 v2 d2) (q : t1 ≠ t2) : a ≠ b := fun e => by
  subst e
  obtain ⟨c1, A1, -⟩ := A
  obtain ⟨c2, B1, -⟩ := B
  cases A1.1.symm.trans B1.1
  obtain ⟨-, k, h1, comp, h2⟩ := A1.2.1
  obtain ⟨-, k', h1', comp', h2'⟩ := B1.2.1
  cases h1.symm.trans h1'
  rw [h2] at h2'
  cases h2'
  exact q rfl
theorem eqI_v {first : State} {o : Option Outcome} {idx : List Nat} {a : Term} {k : Int32} (q : (Cond.eq a (.int k)).value args first o s idx = some true) : a.eval args first o idx s = some (.int k) := by
  cases ha : a.eval args first o idx s with
  | none => simp [Cond.value, ha] at q
  | some x => cases x <;> simp [Cond.value, ha, Term.eval] at q ⊢; exact q
theorem eqL_v {first : State} {o : Option Outcome} {idx : List Nat} {a : Term} {k : Int64} (q : (Cond.eq a (.long k)).value args first o s idx = some true) : a.eval args first o idx s = some (.long k) := by
  cases ha : a.eval args first o idx s with
  | none => simp [Cond.value, ha] at q
  | some x => cases x <;> simp [Cond.value, ha, Term.eval] at q ⊢; exact q
end Own
end Jvm.RoadKit
namespace Jvm.Pilot.@@N@@
open Jvm Jvm.ClassFile Sem Op Lib Jvm.Free Jvm.Stand Jvm.LawKit Jvm.RoadKit Bundle Jvm.Pilot.@@N@@.Jvm.D

theorem d1_0 : decode prog_5_method_1_code 0 = .ok (.aload_n 0, 1) := by decide +kernel
theorem d1_1 : decode prog_5_method_1_code 1 = .ok (.invokespecial 1, 3) := by decide +kernel
theorem d1_4 : decode prog_5_method_1_code 4 = .ok (.aload_n 0, 1) := by decide +kernel
theorem d1_5 : decode prog_5_method_1_code 5 = .ok (.lload_n 1, 1) := by decide +kernel
theorem d1_6 : decode prog_5_method_1_code 6 = .ok (.putfield 7, 3) := by decide +kernel
theorem d1_9 : decode prog_5_method_1_code 9 = .ok (.aload_n 0, 1) := by decide +kernel
theorem d1_10 : decode prog_5_method_1_code 10 = .ok (.lload_n 3, 1) := by decide +kernel
theorem d1_11 : decode prog_5_method_1_code 11 = .ok (.putfield 13, 3) := by decide +kernel
theorem d1_14 : decode prog_5_method_1_code 14 = .ok (.aload_n 0, 1) := by decide +kernel
theorem d1_15 : decode prog_5_method_1_code 15 = .ok (.lload 5, 2) := by decide +kernel
theorem d1_17 : decode prog_5_method_1_code 17 = .ok (.putfield 16, 3) := by decide +kernel
theorem d1_20 : decode prog_5_method_1_code 20 = .ok (.aload_n 0, 1) := by decide +kernel
theorem d1_21 : decode prog_5_method_1_code 21 = .ok (.lload 7, 2) := by decide +kernel
theorem d1_23 : decode prog_5_method_1_code 23 = .ok (.putfield 19, 3) := by decide +kernel
theorem d1_26 : decode prog_5_method_1_code 26 = .ok (.aload_n 0, 1) := by decide +kernel
theorem d1_27 : decode prog_5_method_1_code 27 = .ok (.lload 9, 2) := by decide +kernel
theorem d1_29 : decode prog_5_method_1_code 29 = .ok (.putfield 22, 3) := by decide +kernel
theorem d1_32 : decode prog_5_method_1_code 32 = .ok (.return_, 1) := by decide +kernel
theorem pn_0 : plainName "com/example/kept_backlog/keptbacklog/QueueStats" = true := by first | (simp [plainName, overriddenIn]; done) | decide +kernel
theorem ef_rm1 (m : MethodId) (x0 : Addr) (x1 : Int64) (x2 : Int64) (x3 : Int64) (x4 : Int64) (x5 : Int64) : entryFrame m #[(.ref x0), (.long x1), (.long x2), (.long x3), (.long x4), (.long x5)] 11 = mkF m 0 #[.val (.ref x0), .val (.long x1), .second, .val (.long x2), .second, .val (.long x3), .second, .val (.long x4), .second, .val (.long x5), .second] [] := by first | (simp [entryFrame, mkF, argsToLocals, Value.category]; done) | rfl
def Q_rm1 (Z : State) (a : Addr) (q0 : Int64) (q1 : Int64) (q2 : Int64) (q3 : Int64) (q4 : Int64) (h0 : Heap) (n0 : Nat) (v : Option Value) (h : Heap) (L : List Loc) : Prop := v = none ∧ Fr n0 L ∧ Keep h0 h [a] ∧ Exa Z h a "com/example/kept_backlog/keptbacklog/QueueStats" ∧ Fld Z h a "com/example/kept_backlog/keptbacklog/QueueStats" "waiting" "J" (.long q0) ∧ Fld Z h a "com/example/kept_backlog/keptbacklog/QueueStats" "delayed" "J" (.long q1) ∧ Fld Z h a "com/example/kept_backlog/keptbacklog/QueueStats" "leased" "J" (.long q2) ∧ Fld Z h a "com/example/kept_backlog/keptbacklog/QueueStats" "dead" "J" (.long q3) ∧ Fld Z h a "com/example/kept_backlog/keptbacklog/QueueStats" "completed" "J" (.long q4)
set_option maxRecDepth 65536 in
set_option maxHeartbeats 40000000 in
theorem rm1 (l : Launch) (Z : State) (a0 : Array Value) (hw : ∀ d ∈ tables_1, d.before a0 Z = true) (ws : List Jvm.Cond) (a : Addr) (q0 : Int64) (q1 : Int64) (q2 : Int64) (q3 : Int64) (q4 : Int64) (h0 : Heap) (n0 : Nat) (Z0 : n0 ≤ h0.size) (EA : Exa Z h0 a "com/example/kept_backlog/keptbacklog/QueueStats") (F0_ : Fld Z h0 a "com/example/kept_backlog/keptbacklog/QueueStats" "waiting" "J" (.long (0 : Int64))) (F1_ : Fld Z h0 a "com/example/kept_backlog/keptbacklog/QueueStats" "delayed" "J" (.long (0 : Int64))) (F2_ : Fld Z h0 a "com/example/kept_backlog/keptbacklog/QueueStats" "leased" "J" (.long (0 : Int64))) (F3_ : Fld Z h0 a "com/example/kept_backlog/keptbacklog/QueueStats" "dead" "J" (.long (0 : Int64))) (F4_ : Fld Z h0 a "com/example/kept_backlog/keptbacklog/QueueStats" "completed" "J" (.long (0 : Int64))) (ga : n0 ≤ a) :
    MetFree l (⟨"com/example/kept_backlog/keptbacklog/QueueStats", "<init>", "(JJJJJ)V"⟩ : MethodName) (head1 (Jvm.Cond.code (⟨"com/example/kept_backlog/keptbacklog/QueueStats", "<init>", "(JJJJJ)V"⟩ : MethodName) prog_5_method_1_code 11 none :: ws) ({ frames := 1, cells := 0, slots := 0, locals := 12 } : Room)) (fun aa_ U => aa_ = #[(.ref a), (.long q0), (.long q1), (.long q2), (.long q3), (.long q4)] ∧ Z.Warmed39 U.vm ∧ U.heap = h0) (fun _ _ _ _ _ => True) (fun _ U o U' => ∃ v L, o = .returned v ∧ Q_rm1 Z a q0 q1 q2 q3 q4 h0 n0 v U'.heap L ∧ FrameEnd U o U' L ({ frames := 1, cells := 0, slots := 0, locals := 12 } : Room).cells ({ frames := 1, cells := 0, slots := 0, locals := 12 } : Room).slots) := by
  refine MetFree.of_bodySF (plainFor_of_name pn_0) hisR ?_
  intro p e s m args below meth c s₁ Bd hml0 hP hK
  obtain ⟨rfl, hZ, hh⟩ := hP
  have hx := Bd.exec
  have hby := Bd.bytes
  have hml : c.maxLocals = 11 := hml0
  have hown : s.vm.findClass "com/example/kept_backlog/keptbacklog/QueueStats" = some m.cls := findClass_of_methodNamed Bd.named
  have hnm := (name_of_methodNamed Bd.named Bd.method).1
  have X0 : Stand p l e ({ frames := 1, cells := 0, slots := 0, locals := 12 } : Room) s m #[(.ref a), (.long q0), (.long q1), (.long q2), (.long q3), (.long q4)] below meth c s₁ [] 0 0 := Stand.of_body Bd
  have e0 : s₁.heap = h0 := by rw [← hh, Bd.state]; rfl
  have N0 := Fr.nil n0
  refine Ends.cast (P := EndN s ({ frames := 1, cells := 0, slots := 0, locals := 12 } : Room) (Q_rm1 Z a q0 q1 q2 q3 q4 h0 n0)) (ef_rm1 m a q0 q1 q2 q3 q4) ?_
  refine Ends.pre (T' := s₁.setTop (mkF m 1 #[.val (.ref a), .val (.long q0), .second, .val (.long q1), .second, .val (.long q2), .second, .val (.long q3), .second, .val (.long q4), .second] [(.ref a)])) (fun t k => XS.aloadN X0.here hx rfl (hb hby d1_0) rfl rfl k) ?_
  obtain ⟨T1, X1, e1, st1⟩ := initO X0 hx hZ hown (hw _ (List.mem_of_getElem? (i := 6) rfl)) (hw _ (List.mem_of_getElem? (i := 7) rfl)) (hw _ (List.mem_of_getElem? (i := 8) rfl)) e0 (g := (mkF m 1 #[.val (.ref a), .val (.long q0), .second, .val (.long q1), .second, .val (.long q2), .second, .val (.long q3), .second, .val (.long q4), .second] [(.ref a)])) rfl (by rw [hml]; rfl) rfl (hb hby d1_1) (by decide) (W := 0) (by show 2 * 0 + _ ≤ _; exact Nat.le_of_eq rfl) (by decide)
  refine Ends.pre (T' := T1.setTop (mkF m 4 #[.val (.ref a), .val (.long q0), .second, .val (.long q1), .second, .val (.long q2), .second, .val (.long q3), .second, .val (.long q4), .second] [])) (fun t k => st1 _ k) ?_
  refine Ends.pre (T' := T1.setTop (mkF m 5 #[.val (.ref a), .val (.long q0), .second, .val (.long q1), .second, .val (.long q2), .second, .val (.long q3), .second, .val (.long q4), .second] [(.ref a)])) (fun t k => XS.aloadN X1.here hx rfl (hb hby d1_4) rfl rfl k) ?_
  refine Ends.pre (T' := T1.setTop (mkF m 6 #[.val (.ref a), .val (.long q0), .second, .val (.long q1), .second, .val (.long q2), .second, .val (.long q3), .second, .val (.long q4), .second] [(.long q0), (.ref a)])) (fun t k => XS.lloadN X1.here hx rfl (hb hby d1_5) rfl k) ?_
  obtain ⟨T2, h2, X2, e2, W2, st2⟩ := putF X1 hx hZ hown (host := "") (Or.inl (hw _ (List.mem_of_getElem? (i := 9) rfl))) Via.refl e1 F0_ EA (Or.inr ⟨(hw _ (List.mem_of_getElem? (i := 10) rfl)), rfl, hnm⟩) (hw _ (List.mem_of_getElem? (i := 1) rfl)) (ty := .long) (by decide) rfl rfl (g := (mkF m 6 #[.val (.ref a), .val (.long q0), .second, .val (.long q1), .second, .val (.long q2), .second, .val (.long q3), .second, .val (.long q4), .second] [(.long q0), (.ref a)])) rfl rfl (hb hby d1_6)
  have Fw2 : Fld Z h2 a "com/example/kept_backlog/keptbacklog/QueueStats" "waiting" "J" (.long q0) := F0_.same W2
  have N2 := Fr.snoc X2 N0 ga
  refine Ends.pre (T' := T2.setTop (mkF m 9 #[.val (.ref a), .val (.long q0), .second, .val (.long q1), .second, .val (.long q2), .second, .val (.long q3), .second, .val (.long q4), .second] [])) (fun t k => st2 _ k) ?_
  have K2 : Keep h0 h2 [a] := (Keep.refl h0 [a]).wr W2 (Or.inl (List.mem_of_getElem? (i := 0) rfl))
  refine Ends.pre (T' := T2.setTop (mkF m 10 #[.val (.ref a), .val (.long q0), .second, .val (.long q1), .second, .val (.long q2), .second, .val (.long q3), .second, .val (.long q4), .second] [(.ref a)])) (fun t k => XS.aloadN X2.here hx rfl (hb hby d1_9) rfl rfl k) ?_
  refine Ends.pre (T' := T2.setTop (mkF m 11 #[.val (.ref a), .val (.long q0), .second, .val (.long q1), .second, .val (.long q2), .second, .val (.long q3), .second, .val (.long q4), .second] [(.long q1), (.ref a)])) (fun t k => XS.lloadN X2.here hx rfl (hb hby d1_10) rfl k) ?_
  have F3 : Fld Z h2 a "com/example/kept_backlog/keptbacklog/QueueStats" "delayed" "J" (.long (0 : Int64)) := (F1_.other W2 (Or.inr (slot_ne (Or.inr (hw _ (List.mem_of_getElem? (i := 12) rfl))) (Or.inr (hw _ (List.mem_of_getElem? (i := 10) rfl))) (by decide) (t := .long) (t' := .long) (by decide) (by decide))))
  have F4 : Exa Z h2 a "com/example/kept_backlog/keptbacklog/QueueStats" := (EA.wr W2)
  obtain ⟨T5, h5, X5, e5, W5, st5⟩ := putF X2 hx hZ hown (host := "") (Or.inl (hw _ (List.mem_of_getElem? (i := 11) rfl))) Via.refl e2 F3 F4 (Or.inr ⟨(hw _ (List.mem_of_getElem? (i := 12) rfl)), rfl, hnm⟩) (hw _ (List.mem_of_getElem? (i := 1) rfl)) (ty := .long) (by decide) rfl rfl (g := (mkF m 11 #[.val (.ref a), .val (.long q0), .second, .val (.long q1), .second, .val (.long q2), .second, .val (.long q3), .second, .val (.long q4), .second] [(.long q1), (.ref a)])) rfl rfl (hb hby d1_11)
  have Fw5 : Fld Z h5 a "com/example/kept_backlog/keptbacklog/QueueStats" "delayed" "J" (.long q1) := F3.same W5
  have N5 := Fr.snoc X5 N2 ga
  refine Ends.pre (T' := T5.setTop (mkF m 14 #[.val (.ref a), .val (.long q0), .second, .val (.long q1), .second, .val (.long q2), .second, .val (.long q3), .second, .val (.long q4), .second] [])) (fun t k => st5 _ k) ?_
  have K5 : Keep h0 h5 [a] := K2.wr W5 (Or.inl (List.mem_of_getElem? (i := 0) rfl))
  refine Ends.pre (T' := T5.setTop (mkF m 15 #[.val (.ref a), .val (.long q0), .second, .val (.long q1), .second, .val (.long q2), .second, .val (.long q3), .second, .val (.long q4), .second] [(.ref a)])) (fun t k => XS.aloadN X5.here hx rfl (hb hby d1_14) rfl rfl k) ?_
  refine Ends.pre (T' := T5.setTop (mkF m 17 #[.val (.ref a), .val (.long q0), .second, .val (.long q1), .second, .val (.long q2), .second, .val (.long q3), .second, .val (.long q4), .second] [(.long q2), (.ref a)])) (fun t k => XS.lload X5.here hx rfl (hb hby d1_15) rfl k) ?_
  have F6 : Fld Z h5 a "com/example/kept_backlog/keptbacklog/QueueStats" "leased" "J" (.long (0 : Int64)) := ((F2_.other W2 (Or.inr (slot_ne (Or.inr (hw _ (List.mem_of_getElem? (i := 14) rfl))) (Or.inr (hw _ (List.mem_of_getElem? (i := 10) rfl))) (by decide) (t := .long) (t' := .long) (by decide) (by decide)))).other W5 (Or.inr (slot_ne (Or.inr (hw _ (List.mem_of_getElem? (i := 14) rfl))) (Or.inr (hw _ (List.mem_of_getElem? (i := 12) rfl))) (by decide) (t := .long) (t' := .long) (by decide) (by decide))))
  have F7 : Exa Z h5 a "com/example/kept_backlog/keptbacklog/QueueStats" := (F4.wr W5)
  obtain ⟨T8, h8, X8, e8, W8, st8⟩ := putF X5 hx hZ hown (host := "") (Or.inl (hw _ (List.mem_of_getElem? (i := 13) rfl))) Via.refl e5 F6 F7 (Or.inr ⟨(hw _ (List.mem_of_getElem? (i := 14) rfl)), rfl, hnm⟩) (hw _ (List.mem_of_getElem? (i := 1) rfl)) (ty := .long) (by decide) rfl rfl (g := (mkF m 17 #[.val (.ref a), .val (.long q0), .second, .val (.long q1), .second, .val (.long q2), .second, .val (.long q3), .second, .val (.long q4), .second] [(.long q2), (.ref a)])) rfl rfl (hb hby d1_17)
  have Fw8 : Fld Z h8 a "com/example/kept_backlog/keptbacklog/QueueStats" "leased" "J" (.long q2) := F6.same W8
  have N8 := Fr.snoc X8 N5 ga
  refine Ends.pre (T' := T8.setTop (mkF m 20 #[.val (.ref a), .val (.long q0), .second, .val (.long q1), .second, .val (.long q2), .second, .val (.long q3), .second, .val (.long q4), .second] [])) (fun t k => st8 _ k) ?_
  have K8 : Keep h0 h8 [a] := K5.wr W8 (Or.inl (List.mem_of_getElem? (i := 0) rfl))
  refine Ends.pre (T' := T8.setTop (mkF m 21 #[.val (.ref a), .val (.long q0), .second, .val (.long q1), .second, .val (.long q2), .second, .val (.long q3), .second, .val (.long q4), .second] [(.ref a)])) (fun t k => XS.aloadN X8.here hx rfl (hb hby d1_20) rfl rfl k) ?_
  refine Ends.pre (T' := T8.setTop (mkF m 23 #[.val (.ref a), .val (.long q0), .second, .val (.long q1), .second, .val (.long q2), .second, .val (.long q3), .second, .val (.long q4), .second] [(.long q3), (.ref a)])) (fun t k => XS.lload X8.here hx rfl (hb hby d1_21) rfl k) ?_
  have F9 : Fld Z h8 a "com/example/kept_backlog/keptbacklog/QueueStats" "dead" "J" (.long (0 : Int64)) := (((F3_.other W2 (Or.inr (slot_ne (Or.inr (hw _ (List.mem_of_getElem? (i := 16) rfl))) (Or.inr (hw _ (List.mem_of_getElem? (i := 10) rfl))) (by decide) (t := .long) (t' := .long) (by decide) (by decide)))).other W5 (Or.inr (slot_ne (Or.inr (hw _ (List.mem_of_getElem? (i := 16) rfl))) (Or.inr (hw _ (List.mem_of_getElem? (i := 12) rfl))) (by decide) (t := .long) (t' := .long) (by decide) (by decide)))).other W8 (Or.inr (slot_ne (Or.inr (hw _ (List.mem_of_getElem? (i := 16) rfl))) (Or.inr (hw _ (List.mem_of_getElem? (i := 14) rfl))) (by decide) (t := .long) (t' := .long) (by decide) (by decide))))
  have F10 : Exa Z h8 a "com/example/kept_backlog/keptbacklog/QueueStats" := (F7.wr W8)
  obtain ⟨T11, h11, X11, e11, W11, st11⟩ := putF X8 hx hZ hown (host := "") (Or.inl (hw _ (List.mem_of_getElem? (i := 15) rfl))) Via.refl e8 F9 F10 (Or.inr ⟨(hw _ (List.mem_of_getElem? (i := 16) rfl)), rfl, hnm⟩) (hw _ (List.mem_of_getElem? (i := 1) rfl)) (ty := .long) (by decide) rfl rfl (g := (mkF m 23 #[.val (.ref a), .val (.long q0), .second, .val (.long q1), .second, .val (.long q2), .second, .val (.long q3), .second, .val (.long q4), .second] [(.long q3), (.ref a)])) rfl rfl (hb hby d1_23)
  have Fw11 : Fld Z h11 a "com/example/kept_backlog/keptbacklog/QueueStats" "dead" "J" (.long q3) := F9.same W11
  have N11 := Fr.snoc X11 N8 ga
  refine Ends.pre (T' := T11.setTop (mkF m 26 #[.val (.ref a), .val (.long q0), .second, .val (.long q1), .second, .val (.long q2), .second, .val (.long q3), .second, .val (.long q4), .second] [])) (fun t k => st11 _ k) ?_
  have K11 : Keep h0 h11 [a] := K8.wr W11 (Or.inl (List.mem_of_getElem? (i := 0) rfl))
  refine Ends.pre (T' := T11.setTop (mkF m 27 #[.val (.ref a), .val (.long q0), .second, .val (.long q1), .second, .val (.long q2), .second, .val (.long q3), .second, .val (.long q4), .second] [(.ref a)])) (fun t k => XS.aloadN X11.here hx rfl (hb hby d1_26) rfl rfl k) ?_
  refine Ends.pre (T' := T11.setTop (mkF m 29 #[.val (.ref a), .val (.long q0), .second, .val (.long q1), .second, .val (.long q2), .second, .val (.long q3), .second, .val (.long q4), .second] [(.long q4), (.ref a)])) (fun t k => XS.lload X11.here hx rfl (hb hby d1_27) rfl k) ?_
  have F12 : Fld Z h11 a "com/example/kept_backlog/keptbacklog/QueueStats" "completed" "J" (.long (0 : Int64)) := ((((F4_.other W2 (Or.inr (slot_ne (Or.inr (hw _ (List.mem_of_getElem? (i := 18) rfl))) (Or.inr (hw _ (List.mem_of_getElem? (i := 10) rfl))) (by decide) (t := .long) (t' := .long) (by decide) (by decide)))).other W5 (Or.inr (slot_ne (Or.inr (hw _ (List.mem_of_getElem? (i := 18) rfl))) (Or.inr (hw _ (List.mem_of_getElem? (i := 12) rfl))) (by decide) (t := .long) (t' := .long) (by decide) (by decide)))).other W8 (Or.inr (slot_ne (Or.inr (hw _ (List.mem_of_getElem? (i := 18) rfl))) (Or.inr (hw _ (List.mem_of_getElem? (i := 14) rfl))) (by decide) (t := .long) (t' := .long) (by decide) (by decide)))).other W11 (Or.inr (slot_ne (Or.inr (hw _ (List.mem_of_getElem? (i := 18) rfl))) (Or.inr (hw _ (List.mem_of_getElem? (i := 16) rfl))) (by decide) (t := .long) (t' := .long) (by decide) (by decide))))
  have F13 : Exa Z h11 a "com/example/kept_backlog/keptbacklog/QueueStats" := (F10.wr W11)
  obtain ⟨T14, h14, X14, e14, W14, st14⟩ := putF X11 hx hZ hown (host := "") (Or.inl (hw _ (List.mem_of_getElem? (i := 17) rfl))) Via.refl e11 F12 F13 (Or.inr ⟨(hw _ (List.mem_of_getElem? (i := 18) rfl)), rfl, hnm⟩) (hw _ (List.mem_of_getElem? (i := 1) rfl)) (ty := .long) (by decide) rfl rfl (g := (mkF m 29 #[.val (.ref a), .val (.long q0), .second, .val (.long q1), .second, .val (.long q2), .second, .val (.long q3), .second, .val (.long q4), .second] [(.long q4), (.ref a)])) rfl rfl (hb hby d1_29)
  have Fw14 : Fld Z h14 a "com/example/kept_backlog/keptbacklog/QueueStats" "completed" "J" (.long q4) := F12.same W14
  have N14 := Fr.snoc X14 N11 ga
  refine Ends.pre (T' := T14.setTop (mkF m 32 #[.val (.ref a), .val (.long q0), .second, .val (.long q1), .second, .val (.long q2), .second, .val (.long q3), .second, .val (.long q4), .second] [])) (fun t k => st14 _ k) ?_
  have K14 : Keep h0 h14 [a] := K11.wr W14 (Or.inl (List.mem_of_getElem? (i := 0) rfl))
  have F15 : Exa Z h14 a "com/example/kept_backlog/keptbacklog/QueueStats" := (F13.wr W14)
  have F16 : Fld Z h14 a "com/example/kept_backlog/keptbacklog/QueueStats" "waiting" "J" (.long q0) := ((((Fw2.other W5 (Or.inr (slot_ne (Or.inr (hw _ (List.mem_of_getElem? (i := 10) rfl))) (Or.inr (hw _ (List.mem_of_getElem? (i := 12) rfl))) (by decide) (t := .long) (t' := .long) (by decide) (by decide)))).other W8 (Or.inr (slot_ne (Or.inr (hw _ (List.mem_of_getElem? (i := 10) rfl))) (Or.inr (hw _ (List.mem_of_getElem? (i := 14) rfl))) (by decide) (t := .long) (t' := .long) (by decide) (by decide)))).other W11 (Or.inr (slot_ne (Or.inr (hw _ (List.mem_of_getElem? (i := 10) rfl))) (Or.inr (hw _ (List.mem_of_getElem? (i := 16) rfl))) (by decide) (t := .long) (t' := .long) (by decide) (by decide)))).other W14 (Or.inr (slot_ne (Or.inr (hw _ (List.mem_of_getElem? (i := 10) rfl))) (Or.inr (hw _ (List.mem_of_getElem? (i := 18) rfl))) (by decide) (t := .long) (t' := .long) (by decide) (by decide))))
  have F17 : Fld Z h14 a "com/example/kept_backlog/keptbacklog/QueueStats" "delayed" "J" (.long q1) := (((Fw5.other W8 (Or.inr (slot_ne (Or.inr (hw _ (List.mem_of_getElem? (i := 12) rfl))) (Or.inr (hw _ (List.mem_of_getElem? (i := 14) rfl))) (by decide) (t := .long) (t' := .long) (by decide) (by decide)))).other W11 (Or.inr (slot_ne (Or.inr (hw _ (List.mem_of_getElem? (i := 12) rfl))) (Or.inr (hw _ (List.mem_of_getElem? (i := 16) rfl))) (by decide) (t := .long) (t' := .long) (by decide) (by decide)))).other W14 (Or.inr (slot_ne (Or.inr (hw _ (List.mem_of_getElem? (i := 12) rfl))) (Or.inr (hw _ (List.mem_of_getElem? (i := 18) rfl))) (by decide) (t := .long) (t' := .long) (by decide) (by decide))))
  have F18 : Fld Z h14 a "com/example/kept_backlog/keptbacklog/QueueStats" "leased" "J" (.long q2) := ((Fw8.other W11 (Or.inr (slot_ne (Or.inr (hw _ (List.mem_of_getElem? (i := 14) rfl))) (Or.inr (hw _ (List.mem_of_getElem? (i := 16) rfl))) (by decide) (t := .long) (t' := .long) (by decide) (by decide)))).other W14 (Or.inr (slot_ne (Or.inr (hw _ (List.mem_of_getElem? (i := 14) rfl))) (Or.inr (hw _ (List.mem_of_getElem? (i := 18) rfl))) (by decide) (t := .long) (t' := .long) (by decide) (by decide))))
  have F19 : Fld Z h14 a "com/example/kept_backlog/keptbacklog/QueueStats" "dead" "J" (.long q3) := (Fw11.other W14 (Or.inr (slot_ne (Or.inr (hw _ (List.mem_of_getElem? (i := 16) rfl))) (Or.inr (hw _ (List.mem_of_getElem? (i := 18) rfl))) (by decide) (t := .long) (t' := .long) (by decide) (by decide))))
  exact Ends.ret0 X14 hx Bd.notSynchronized Bd.returns (hb hby d1_32) e14 ⟨rfl, N14, K14, F15, F16, F17, F18, F19, Fw14⟩ (by decide) (by decide)
theorem d3_0 : decode prog_5_method_7_code 0 = .ok (.aload_n 1, 1) := by decide +kernel
theorem d3_1 : decode prog_5_method_7_code 1 = .ok (.instanceof 8, 3) := by decide +kernel
theorem d3_4 : decode prog_5_method_7_code 4 = .ok (.ifCond .eq 72, 3) := by decide +kernel
theorem d3_7 : decode prog_5_method_7_code 7 = .ok (.aload_n 1, 1) := by decide +kernel
theorem d3_8 : decode prog_5_method_7_code 8 = .ok (.checkcast 8, 3) := by decide +kernel
theorem d3_11 : decode prog_5_method_7_code 11 = .ok (.astore_n 2, 1) := by decide +kernel
theorem d3_12 : decode prog_5_method_7_code 12 = .ok (.aload_n 0, 1) := by decide +kernel
theorem d3_13 : decode prog_5_method_7_code 13 = .ok (.getfield 7, 3) := by decide +kernel
theorem d3_16 : decode prog_5_method_7_code 16 = .ok (.aload_n 2, 1) := by decide +kernel
theorem d3_17 : decode prog_5_method_7_code 17 = .ok (.getfield 7, 3) := by decide +kernel
theorem d3_20 : decode prog_5_method_7_code 20 = .ok (.lcmp, 1) := by decide +kernel
theorem d3_21 : decode prog_5_method_7_code 21 = .ok (.ifCond .ne 55, 3) := by decide +kernel
theorem d3_24 : decode prog_5_method_7_code 24 = .ok (.aload_n 0, 1) := by decide +kernel
theorem d3_25 : decode prog_5_method_7_code 25 = .ok (.getfield 13, 3) := by decide +kernel
theorem d3_28 : decode prog_5_method_7_code 28 = .ok (.aload_n 2, 1) := by decide +kernel
theorem d3_29 : decode prog_5_method_7_code 29 = .ok (.getfield 13, 3) := by decide +kernel
theorem d3_32 : decode prog_5_method_7_code 32 = .ok (.lcmp, 1) := by decide +kernel
theorem d3_33 : decode prog_5_method_7_code 33 = .ok (.ifCond .ne 43, 3) := by decide +kernel
theorem d3_36 : decode prog_5_method_7_code 36 = .ok (.aload_n 0, 1) := by decide +kernel
theorem d3_37 : decode prog_5_method_7_code 37 = .ok (.getfield 16, 3) := by decide +kernel
theorem d3_40 : decode prog_5_method_7_code 40 = .ok (.aload_n 2, 1) := by decide +kernel
theorem d3_41 : decode prog_5_method_7_code 41 = .ok (.getfield 16, 3) := by decide +kernel
theorem d3_44 : decode prog_5_method_7_code 44 = .ok (.lcmp, 1) := by decide +kernel
theorem d3_45 : decode prog_5_method_7_code 45 = .ok (.ifCond .ne 31, 3) := by decide +kernel
theorem d3_48 : decode prog_5_method_7_code 48 = .ok (.aload_n 0, 1) := by decide +kernel
theorem d3_49 : decode prog_5_method_7_code 49 = .ok (.getfield 19, 3) := by decide +kernel
theorem d3_52 : decode prog_5_method_7_code 52 = .ok (.aload_n 2, 1) := by decide +kernel
theorem d3_53 : decode prog_5_method_7_code 53 = .ok (.getfield 19, 3) := by decide +kernel
theorem d3_56 : decode prog_5_method_7_code 56 = .ok (.lcmp, 1) := by decide +kernel
theorem d3_57 : decode prog_5_method_7_code 57 = .ok (.ifCond .ne 19, 3) := by decide +kernel
theorem d3_60 : decode prog_5_method_7_code 60 = .ok (.aload_n 0, 1) := by decide +kernel
theorem d3_61 : decode prog_5_method_7_code 61 = .ok (.getfield 22, 3) := by decide +kernel
theorem d3_64 : decode prog_5_method_7_code 64 = .ok (.aload_n 2, 1) := by decide +kernel
theorem d3_65 : decode prog_5_method_7_code 65 = .ok (.getfield 22, 3) := by decide +kernel
theorem d3_68 : decode prog_5_method_7_code 68 = .ok (.lcmp, 1) := by decide +kernel
theorem d3_69 : decode prog_5_method_7_code 69 = .ok (.ifCond .ne 7, 3) := by decide +kernel
theorem d3_72 : decode prog_5_method_7_code 72 = .ok (.iconst 1, 1) := by decide +kernel
theorem d3_73 : decode prog_5_method_7_code 73 = .ok (.goto 4, 3) := by decide +kernel
theorem d3_77 : decode prog_5_method_7_code 77 = .ok (.ireturn, 1) := by decide +kernel
theorem d3_76 : decode prog_5_method_7_code 76 = .ok (.iconst 0, 1) := by decide +kernel
theorem ef_rm3q (m : MethodId) (x0 : Addr) (x1 : Addr) : entryFrame m #[(.ref x0), (.ref x1)] 3 = mkF m 0 #[.val (.ref x0), .val (.ref x1), .unset] [] := by first | (simp [entryFrame, mkF, argsToLocals, Value.category]; done) | rfl
def Q_rm3q (Z : State) (a : Addr) (oo : Addr) (q0 : Int64) (q1 : Int64) (q2 : Int64) (q3 : Int64) (q4 : Int64) (r0 : Int64) (r1 : Int64) (r2 : Int64) (r3 : Int64) (r4 : Int64) (h0 : Heap) (n0 : Nat) (v : Option Value) (h : Heap) (L : List Loc) : Prop := v = some (.int (if q0 = r0 then (if q1 = r1 then (if q2 = r2 then (if q3 = r3 then (if q4 = r4 then (1 : Int32) else (0 : Int32)) else (0 : Int32)) else (0 : Int32)) else (0 : Int32)) else (0 : Int32))) ∧ Fr n0 L ∧ h = h0
set_option maxRecDepth 65536 in
set_option maxHeartbeats 40000000 in
theorem rm3q (l : Launch) (Z : State) (a0 : Array Value) (hw : ∀ d ∈ tables_1, d.before a0 Z = true) (ws : List Jvm.Cond) (a : Addr) (oo : Addr) (q0 : Int64) (q1 : Int64) (q2 : Int64) (q3 : Int64) (q4 : Int64) (r0 : Int64) (r1 : Int64) (r2 : Int64) (r3 : Int64) (r4 : Int64) (h0 : Heap) (n0 : Nat) (Z0 : n0 ≤ h0.size) (EO : Exa Z h0 oo "com/example/kept_backlog/keptbacklog/QueueStats") (Fa0 : Fld Z h0 a "com/example/kept_backlog/keptbacklog/QueueStats" "waiting" "J" (.long q0)) (Fa1 : Fld Z h0 a "com/example/kept_backlog/keptbacklog/QueueStats" "delayed" "J" (.long q1)) (Fa2 : Fld Z h0 a "com/example/kept_backlog/keptbacklog/QueueStats" "leased" "J" (.long q2)) (Fa3 : Fld Z h0 a "com/example/kept_backlog/keptbacklog/QueueStats" "dead" "J" (.long q3)) (Fa4 : Fld Z h0 a "com/example/kept_backlog/keptbacklog/QueueStats" "completed" "J" (.long q4)) (Foo0 : Fld Z h0 oo "com/example/kept_backlog/keptbacklog/QueueStats" "waiting" "J" (.long r0)) (Foo1 : Fld Z h0 oo "com/example/kept_backlog/keptbacklog/QueueStats" "delayed" "J" (.long r1)) (Foo2 : Fld Z h0 oo "com/example/kept_backlog/keptbacklog/QueueStats" "leased" "J" (.long r2)) (Foo3 : Fld Z h0 oo "com/example/kept_backlog/keptbacklog/QueueStats" "dead" "J" (.long r3)) (Foo4 : Fld Z h0 oo "com/example/kept_backlog/keptbacklog/QueueStats" "completed" "J" (.long r4)) :
    MetFree l (⟨"com/example/kept_backlog/keptbacklog/QueueStats", "equals", "(Ljava/lang/Object;)Z"⟩ : MethodName) (head1 (Jvm.Cond.code (⟨"com/example/kept_backlog/keptbacklog/QueueStats", "equals", "(Ljava/lang/Object;)Z"⟩ : MethodName) prog_5_method_7_code 3 (some .boolean) :: ws) ({ frames := 0, cells := 0, slots := 0, locals := 0 } : Room)) (fun aa_ U => aa_ = #[(.ref a), (.ref oo)] ∧ Z.Warmed39 U.vm ∧ U.heap = h0) (fun _ _ _ _ _ => True) (fun _ U o U' => ∃ v L, o = .returned v ∧ Q_rm3q Z a oo q0 q1 q2 q3 q4 r0 r1 r2 r3 r4 h0 n0 v U'.heap L ∧ FrameEnd U o U' L ({ frames := 0, cells := 0, slots := 0, locals := 0 } : Room).cells ({ frames := 0, cells := 0, slots := 0, locals := 0 } : Room).slots) := by
  refine MetFree.of_bodySF (plainFor_of_name pn_0) hisR ?_
  intro p e s m args below meth c s₁ Bd hml0 hP hK
  obtain ⟨rfl, hZ, hh⟩ := hP
  have hx := Bd.exec
  have hby := Bd.bytes
  have hml : c.maxLocals = 3 := hml0
  have hown : s.vm.findClass "com/example/kept_backlog/keptbacklog/QueueStats" = some m.cls := findClass_of_methodNamed Bd.named
  have hnm := (name_of_methodNamed Bd.named Bd.method).1
  have X0 : Stand p l e ({ frames := 0, cells := 0, slots := 0, locals := 0 } : Room) s m #[(.ref a), (.ref oo)] below meth c s₁ [] 0 0 := Stand.of_body Bd
  have e0 : s₁.heap = h0 := by rw [← hh, Bd.state]; rfl
  have N0 := Fr.nil n0
  refine Ends.cast (P := EndN s ({ frames := 0, cells := 0, slots := 0, locals := 0 } : Room) (Q_rm3q Z a oo q0 q1 q2 q3 q4 r0 r1 r2 r3 r4 h0 n0)) (ef_rm3q m a oo) ?_
  refine Ends.pre (T' := s₁.setTop (mkF m 1 #[.val (.ref a), .val (.ref oo), .unset] [(.ref oo)])) (fun t k => XS.aloadN X0.here hx rfl (hb hby d3_0) rfl rfl k) ?_
  obtain ⟨T1, X1, e1, st1⟩ := instY X0 hx hZ hown (hw _ (List.mem_of_getElem? (i := 24) rfl)) e0 (Ins.self EO) (g := (mkF m 1 #[.val (.ref a), .val (.ref oo), .unset] [(.ref oo)])) rfl rfl (hb hby d3_1)
  refine Ends.pre (T' := T1.setTop (mkF m 4 #[.val (.ref a), .val (.ref oo), .unset] [(.int (1 : Int32))])) (fun t k => st1 _ k) ?_
  refine Ends.pre (T' := T1.setTop (mkF m 7 #[.val (.ref a), .val (.ref oo), .unset] [])) (fun t k => XS.ifNo X1.here hx rfl (hb hby d3_4) rfl (by decide) k) ?_
  refine Ends.pre (T' := T1.setTop (mkF m 8 #[.val (.ref a), .val (.ref oo), .unset] [(.ref oo)])) (fun t k => XS.aloadN X1.here hx rfl (hb hby d3_7) rfl rfl k) ?_
  obtain ⟨T2, X2, e2, st2⟩ := castY X1 hx hZ hown (hw _ (List.mem_of_getElem? (i := 24) rfl)) e1 (Ins.self EO) (g := (mkF m 8 #[.val (.ref a), .val (.ref oo), .unset] [(.ref oo)])) rfl rfl (hb hby d3_8)
  refine Ends.pre (T' := T2.setTop (mkF m 11 #[.val (.ref a), .val (.ref oo), .unset] [(.ref oo)])) (fun t k => st2 _ k) ?_
  refine Ends.pre (T' := T2.setTop (mkF m 12 #[.val (.ref a), .val (.ref oo), .val (.ref oo)] [])) (fun t k => XS.astoreN (g := (mkF m 11 #[.val (.ref a), .val (.ref oo), .unset] [(.ref oo)])) X2.here hx rfl (hb hby d3_11) rfl rfl (l' := #[.val (.ref a), .val (.ref oo), .val (.ref oo)]) rfl k) ?_
  refine Ends.pre (T' := T2.setTop (mkF m 13 #[.val (.ref a), .val (.ref oo), .val (.ref oo)] [(.ref a)])) (fun t k => XS.aloadN X2.here hx rfl (hb hby d3_12) rfl rfl k) ?_
  obtain ⟨T3, X3, e3, st3⟩ := getF X2 hx hZ hown (host := "") (Or.inl (hw _ (List.mem_of_getElem? (i := 9) rfl))) Via.refl e2 Fa0 (g := (mkF m 13 #[.val (.ref a), .val (.ref oo), .val (.ref oo)] [(.ref a)])) rfl rfl (hb hby d3_13)
  refine Ends.pre (T' := T3.setTop (mkF m 16 #[.val (.ref a), .val (.ref oo), .val (.ref oo)] [(.long q0)])) (fun t k => st3 _ k) ?_
  refine Ends.pre (T' := T3.setTop (mkF m 17 #[.val (.ref a), .val (.ref oo), .val (.ref oo)] [(.ref oo), (.long q0)])) (fun t k => XS.aloadN X3.here hx rfl (hb hby d3_16) rfl rfl k) ?_
  obtain ⟨T4, X4, e4, st4⟩ := getF X3 hx hZ hown (host := "") (Or.inl (hw _ (List.mem_of_getElem? (i := 9) rfl))) Via.refl e3 Foo0 (g := (mkF m 17 #[.val (.ref a), .val (.ref oo), .val (.ref oo)] [(.ref oo), (.long q0)])) rfl rfl (hb hby d3_17)
  refine Ends.pre (T' := T4.setTop (mkF m 20 #[.val (.ref a), .val (.ref oo), .val (.ref oo)] [(.long r0), (.long q0)])) (fun t k => st4 _ k) ?_
  refine Ends.pre (T' := T4.setTop (mkF m 21 #[.val (.ref a), .val (.ref oo), .val (.ref oo)] [(.int (lcmpW q0 r0))])) (fun t k => XS.lcmp X4.here hx rfl (hb hby d3_20) rfl k) ?_
  by_cases hc21_5 : q0 = r0
  · refine Ends.pre (T' := T4.setTop (mkF m 24 #[.val (.ref a), .val (.ref oo), .val (.ref oo)] [])) (fun t k => XS.ifNo X4.here hx rfl (hb hby d3_21) rfl (Jvm.Free.XT.i0_ne_f ((lw_eq _ _).mpr hc21_5)) k) ?_
    refine Ends.pre (T' := T4.setTop (mkF m 25 #[.val (.ref a), .val (.ref oo), .val (.ref oo)] [(.ref a)])) (fun t k => XS.aloadN X4.here hx rfl (hb hby d3_24) rfl rfl k) ?_
    obtain ⟨T6, X6, e6, st6⟩ := getF X4 hx hZ hown (host := "") (Or.inl (hw _ (List.mem_of_getElem? (i := 11) rfl))) Via.refl e4 Fa1 (g := (mkF m 25 #[.val (.ref a), .val (.ref oo), .val (.ref oo)] [(.ref a)])) rfl rfl (hb hby d3_25)
    refine Ends.pre (T' := T6.setTop (mkF m 28 #[.val (.ref a), .val (.ref oo), .val (.ref oo)] [(.long q1)])) (fun t k => st6 _ k) ?_
    refine Ends.pre (T' := T6.setTop (mkF m 29 #[.val (.ref a), .val (.ref oo), .val (.ref oo)] [(.ref oo), (.long q1)])) (fun t k => XS.aloadN X6.here hx rfl (hb hby d3_28) rfl rfl k) ?_
    obtain ⟨T7, X7, e7, st7⟩ := getF X6 hx hZ hown (host := "") (Or.inl (hw _ (List.mem_of_getElem? (i := 11) rfl))) Via.refl e6 Foo1 (g := (mkF m 29 #[.val (.ref a), .val (.ref oo), .val (.ref oo)] [(.ref oo), (.long q1)])) rfl rfl (hb hby d3_29)
    refine Ends.pre (T' := T7.setTop (mkF m 32 #[.val (.ref a), .val (.ref oo), .val (.ref oo)] [(.long r1), (.long q1)])) (fun t k => st7 _ k) ?_
    refine Ends.pre (T' := T7.setTop (mkF m 33 #[.val (.ref a), .val (.ref oo), .val (.ref oo)] [(.int (lcmpW q1 r1))])) (fun t k => XS.lcmp X7.here hx rfl (hb hby d3_32) rfl k) ?_
    by_cases hc33_8 : q1 = r1
    · refine Ends.pre (T' := T7.setTop (mkF m 36 #[.val (.ref a), .val (.ref oo), .val (.ref oo)] [])) (fun t k => XS.ifNo X7.here hx rfl (hb hby d3_33) rfl (Jvm.Free.XT.i0_ne_f ((lw_eq _ _).mpr hc33_8)) k) ?_
      refine Ends.pre (T' := T7.setTop (mkF m 37 #[.val (.ref a), .val (.ref oo), .val (.ref oo)] [(.ref a)])) (fun t k => XS.aloadN X7.here hx rfl (hb hby d3_36) rfl rfl k) ?_
      obtain ⟨T9, X9, e9, st9⟩ := getF X7 hx hZ hown (host := "") (Or.inl (hw _ (List.mem_of_getElem? (i := 13) rfl))) Via.refl e7 Fa2 (g := (mkF m 37 #[.val (.ref a), .val (.ref oo), .val (.ref oo)] [(.ref a)])) rfl rfl (hb hby d3_37)
      refine Ends.pre (T' := T9.setTop (mkF m 40 #[.val (.ref a), .val (.ref oo), .val (.ref oo)] [(.long q2)])) (fun t k => st9 _ k) ?_
      refine Ends.pre (T' := T9.setTop (mkF m 41 #[.val (.ref a), .val (.ref oo), .val (.ref oo)] [(.ref oo), (.long q2)])) (fun t k => XS.aloadN X9.here hx rfl (hb hby d3_40) rfl rfl k) ?_
      obtain ⟨T10, X10, e10, st10⟩ := getF X9 hx hZ hown (host := "") (Or.inl (hw _ (List.mem_of_getElem? (i := 13) rfl))) Via.refl e9 Foo2 (g := (mkF m 41 #[.val (.ref a), .val (.ref oo), .val (.ref oo)] [(.ref oo), (.long q2)])) rfl rfl (hb hby d3_41)
      refine Ends.pre (T' := T10.setTop (mkF m 44 #[.val (.ref a), .val (.ref oo), .val (.ref oo)] [(.long r2), (.long q2)])) (fun t k => st10 _ k) ?_
      refine Ends.pre (T' := T10.setTop (mkF m 45 #[.val (.ref a), .val (.ref oo), .val (.ref oo)] [(.int (lcmpW q2 r2))])) (fun t k => XS.lcmp X10.here hx rfl (hb hby d3_44) rfl k) ?_
      by_cases hc45_11 : q2 = r2
      · refine Ends.pre (T' := T10.setTop (mkF m 48 #[.val (.ref a), .val (.ref oo), .val (.ref oo)] [])) (fun t k => XS.ifNo X10.here hx rfl (hb hby d3_45) rfl (Jvm.Free.XT.i0_ne_f ((lw_eq _ _).mpr hc45_11)) k) ?_
        refine Ends.pre (T' := T10.setTop (mkF m 49 #[.val (.ref a), .val (.ref oo), .val (.ref oo)] [(.ref a)])) (fun t k => XS.aloadN X10.here hx rfl (hb hby d3_48) rfl rfl k) ?_
        obtain ⟨T12, X12, e12, st12⟩ := getF X10 hx hZ hown (host := "") (Or.inl (hw _ (List.mem_of_getElem? (i := 15) rfl))) Via.refl e10 Fa3 (g := (mkF m 49 #[.val (.ref a), .val (.ref oo), .val (.ref oo)] [(.ref a)])) rfl rfl (hb hby d3_49)
        refine Ends.pre (T' := T12.setTop (mkF m 52 #[.val (.ref a), .val (.ref oo), .val (.ref oo)] [(.long q3)])) (fun t k => st12 _ k) ?_
        refine Ends.pre (T' := T12.setTop (mkF m 53 #[.val (.ref a), .val (.ref oo), .val (.ref oo)] [(.ref oo), (.long q3)])) (fun t k => XS.aloadN X12.here hx rfl (hb hby d3_52) rfl rfl k) ?_
        obtain ⟨T13, X13, e13, st13⟩ := getF X12 hx hZ hown (host := "") (Or.inl (hw _ (List.mem_of_getElem? (i := 15) rfl))) Via.refl e12 Foo3 (g := (mkF m 53 #[.val (.ref a), .val (.ref oo), .val (.ref oo)] [(.ref oo), (.long q3)])) rfl rfl (hb hby d3_53)
        refine Ends.pre (T' := T13.setTop (mkF m 56 #[.val (.ref a), .val (.ref oo), .val (.ref oo)] [(.long r3), (.long q3)])) (fun t k => st13 _ k) ?_
        refine Ends.pre (T' := T13.setTop (mkF m 57 #[.val (.ref a), .val (.ref oo), .val (.ref oo)] [(.int (lcmpW q3 r3))])) (fun t k => XS.lcmp X13.here hx rfl (hb hby d3_56) rfl k) ?_
        by_cases hc57_14 : q3 = r3
        · refine Ends.pre (T' := T13.setTop (mkF m 60 #[.val (.ref a), .val (.ref oo), .val (.ref oo)] [])) (fun t k => XS.ifNo X13.here hx rfl (hb hby d3_57) rfl (Jvm.Free.XT.i0_ne_f ((lw_eq _ _).mpr hc57_14)) k) ?_
          refine Ends.pre (T' := T13.setTop (mkF m 61 #[.val (.ref a), .val (.ref oo), .val (.ref oo)] [(.ref a)])) (fun t k => XS.aloadN X13.here hx rfl (hb hby d3_60) rfl rfl k) ?_
          obtain ⟨T15, X15, e15, st15⟩ := getF X13 hx hZ hown (host := "") (Or.inl (hw _ (List.mem_of_getElem? (i := 17) rfl))) Via.refl e13 Fa4 (g := (mkF m 61 #[.val (.ref a), .val (.ref oo), .val (.ref oo)] [(.ref a)])) rfl rfl (hb hby d3_61)
          refine Ends.pre (T' := T15.setTop (mkF m 64 #[.val (.ref a), .val (.ref oo), .val (.ref oo)] [(.long q4)])) (fun t k => st15 _ k) ?_
          refine Ends.pre (T' := T15.setTop (mkF m 65 #[.val (.ref a), .val (.ref oo), .val (.ref oo)] [(.ref oo), (.long q4)])) (fun t k => XS.aloadN X15.here hx rfl (hb hby d3_64) rfl rfl k) ?_
          obtain ⟨T16, X16, e16, st16⟩ := getF X15 hx hZ hown (host := "") (Or.inl (hw _ (List.mem_of_getElem? (i := 17) rfl))) Via.refl e15 Foo4 (g := (mkF m 65 #[.val (.ref a), .val (.ref oo), .val (.ref oo)] [(.ref oo), (.long q4)])) rfl rfl (hb hby d3_65)
          refine Ends.pre (T' := T16.setTop (mkF m 68 #[.val (.ref a), .val (.ref oo), .val (.ref oo)] [(.long r4), (.long q4)])) (fun t k => st16 _ k) ?_
          refine Ends.pre (T' := T16.setTop (mkF m 69 #[.val (.ref a), .val (.ref oo), .val (.ref oo)] [(.int (lcmpW q4 r4))])) (fun t k => XS.lcmp X16.here hx rfl (hb hby d3_68) rfl k) ?_
          by_cases hc69_17 : q4 = r4
          · refine Ends.pre (T' := T16.setTop (mkF m 72 #[.val (.ref a), .val (.ref oo), .val (.ref oo)] [])) (fun t k => XS.ifNo X16.here hx rfl (hb hby d3_69) rfl (Jvm.Free.XT.i0_ne_f ((lw_eq _ _).mpr hc69_17)) k) ?_
            refine Ends.pre (T' := T16.setTop (mkF m 73 #[.val (.ref a), .val (.ref oo), .val (.ref oo)] [(.int (1 : Int32))])) (fun t k => XS.iconst X16.here hx rfl (hb hby d3_72) k) ?_
            refine Ends.pre (T' := T16.setTop (mkF m 77 #[.val (.ref a), .val (.ref oo), .val (.ref oo)] [(.int (1 : Int32))])) (fun t k => XS.goto X16.here hx rfl (pc0 := 73) (pc' := 77) rfl (hb hby d3_73) (by decide) (by decide) k) ?_
            exact Ends.ret (w := (.int (1 : Int32))) X16 hx Bd.notSynchronized Bd.returns rfl (Or.inl ⟨rfl, Or.inr (Or.inl rfl), _, rfl⟩) (hb hby d3_77) e16 ⟨by rw [if_pos hc21_5, if_pos hc33_8, if_pos hc45_11, if_pos hc57_14, if_pos hc69_17], N0, rfl⟩ (by decide) (by decide)
          · refine Ends.pre (T' := T16.setTop (mkF m 76 #[.val (.ref a), .val (.ref oo), .val (.ref oo)] [])) (fun t k => XS.ifYes X16.here hx rfl (pc0 := 69) (pc' := 76) rfl (hb hby d3_69) rfl (Jvm.Free.XT.i0_ne_t (fun q => hc69_17 ((lw_eq _ _).mp q))) (by decide) (by decide) k) ?_
            refine Ends.pre (T' := T16.setTop (mkF m 77 #[.val (.ref a), .val (.ref oo), .val (.ref oo)] [(.int (0 : Int32))])) (fun t k => XS.iconst X16.here hx rfl (hb hby d3_76) k) ?_
            exact Ends.ret (w := (.int (0 : Int32))) X16 hx Bd.notSynchronized Bd.returns rfl (Or.inl ⟨rfl, Or.inr (Or.inl rfl), _, rfl⟩) (hb hby d3_77) e16 ⟨by rw [if_pos hc21_5, if_pos hc33_8, if_pos hc45_11, if_pos hc57_14, if_neg hc69_17], N0, rfl⟩ (by decide) (by decide)
        · refine Ends.pre (T' := T13.setTop (mkF m 76 #[.val (.ref a), .val (.ref oo), .val (.ref oo)] [])) (fun t k => XS.ifYes X13.here hx rfl (pc0 := 57) (pc' := 76) rfl (hb hby d3_57) rfl (Jvm.Free.XT.i0_ne_t (fun q => hc57_14 ((lw_eq _ _).mp q))) (by decide) (by decide) k) ?_
          refine Ends.pre (T' := T13.setTop (mkF m 77 #[.val (.ref a), .val (.ref oo), .val (.ref oo)] [(.int (0 : Int32))])) (fun t k => XS.iconst X13.here hx rfl (hb hby d3_76) k) ?_
          exact Ends.ret (w := (.int (0 : Int32))) X13 hx Bd.notSynchronized Bd.returns rfl (Or.inl ⟨rfl, Or.inr (Or.inl rfl), _, rfl⟩) (hb hby d3_77) e13 ⟨by rw [if_pos hc21_5, if_pos hc33_8, if_pos hc45_11, if_neg hc57_14], N0, rfl⟩ (by decide) (by decide)
      · refine Ends.pre (T' := T10.setTop (mkF m 76 #[.val (.ref a), .val (.ref oo), .val (.ref oo)] [])) (fun t k => XS.ifYes X10.here hx rfl (pc0 := 45) (pc' := 76) rfl (hb hby d3_45) rfl (Jvm.Free.XT.i0_ne_t (fun q => hc45_11 ((lw_eq _ _).mp q))) (by decide) (by decide) k) ?_
        refine Ends.pre (T' := T10.setTop (mkF m 77 #[.val (.ref a), .val (.ref oo), .val (.ref oo)] [(.int (0 : Int32))])) (fun t k => XS.iconst X10.here hx rfl (hb hby d3_76) k) ?_
        exact Ends.ret (w := (.int (0 : Int32))) X10 hx Bd.notSynchronized Bd.returns rfl (Or.inl ⟨rfl, Or.inr (Or.inl rfl), _, rfl⟩) (hb hby d3_77) e10 ⟨by rw [if_pos hc21_5, if_pos hc33_8, if_neg hc45_11], N0, rfl⟩ (by decide) (by decide)
    · refine Ends.pre (T' := T7.setTop (mkF m 76 #[.val (.ref a), .val (.ref oo), .val (.ref oo)] [])) (fun t k => XS.ifYes X7.here hx rfl (pc0 := 33) (pc' := 76) rfl (hb hby d3_33) rfl (Jvm.Free.XT.i0_ne_t (fun q => hc33_8 ((lw_eq _ _).mp q))) (by decide) (by decide) k) ?_
      refine Ends.pre (T' := T7.setTop (mkF m 77 #[.val (.ref a), .val (.ref oo), .val (.ref oo)] [(.int (0 : Int32))])) (fun t k => XS.iconst X7.here hx rfl (hb hby d3_76) k) ?_
      exact Ends.ret (w := (.int (0 : Int32))) X7 hx Bd.notSynchronized Bd.returns rfl (Or.inl ⟨rfl, Or.inr (Or.inl rfl), _, rfl⟩) (hb hby d3_77) e7 ⟨by rw [if_pos hc21_5, if_neg hc33_8], N0, rfl⟩ (by decide) (by decide)
  · refine Ends.pre (T' := T4.setTop (mkF m 76 #[.val (.ref a), .val (.ref oo), .val (.ref oo)] [])) (fun t k => XS.ifYes X4.here hx rfl (pc0 := 21) (pc' := 76) rfl (hb hby d3_21) rfl (Jvm.Free.XT.i0_ne_t (fun q => hc21_5 ((lw_eq _ _).mp q))) (by decide) (by decide) k) ?_
    refine Ends.pre (T' := T4.setTop (mkF m 77 #[.val (.ref a), .val (.ref oo), .val (.ref oo)] [(.int (0 : Int32))])) (fun t k => XS.iconst X4.here hx rfl (hb hby d3_76) k) ?_
    exact Ends.ret (w := (.int (0 : Int32))) X4 hx Bd.notSynchronized Bd.returns rfl (Or.inl ⟨rfl, Or.inr (Or.inl rfl), _, rfl⟩) (hb hby d3_77) e4 ⟨by rw [if_neg hc21_5], N0, rfl⟩ (by decide) (by decide)
theorem ef_rm3n (m : MethodId) (x0 : Addr) : entryFrame m #[(.ref x0), .null] 3 = mkF m 0 #[.val (.ref x0), .val .null, .unset] [] := by first | (simp [entryFrame, mkF, argsToLocals, Value.category]; done) | rfl
def Q_rm3n (Z : State) (a : Addr) (h0 : Heap) (n0 : Nat) (v : Option Value) (h : Heap) (L : List Loc) : Prop := v = some (.int 0) ∧ Fr n0 L ∧ h = h0
set_option maxRecDepth 65536 in
set_option maxHeartbeats 40000000 in
theorem rm3n (l : Launch) (Z : State) (a0 : Array Value) (hw : ∀ d ∈ tables_1, d.before a0 Z = true) (ws : List Jvm.Cond) (a : Addr) (h0 : Heap) (n0 : Nat) (Z0 : n0 ≤ h0.size)  :
    MetFree l (⟨"com/example/kept_backlog/keptbacklog/QueueStats", "equals", "(Ljava/lang/Object;)Z"⟩ : MethodName) (head1 (Jvm.Cond.code (⟨"com/example/kept_backlog/keptbacklog/QueueStats", "equals", "(Ljava/lang/Object;)Z"⟩ : MethodName) prog_5_method_7_code 3 (some .boolean) :: ws) ({ frames := 0, cells := 0, slots := 0, locals := 0 } : Room)) (fun aa_ U => aa_ = #[(.ref a), .null] ∧ Z.Warmed39 U.vm ∧ U.heap = h0) (fun _ _ _ _ _ => True) (fun _ U o U' => ∃ v L, o = .returned v ∧ Q_rm3n Z a h0 n0 v U'.heap L ∧ FrameEnd U o U' L ({ frames := 0, cells := 0, slots := 0, locals := 0 } : Room).cells ({ frames := 0, cells := 0, slots := 0, locals := 0 } : Room).slots) := by
  refine MetFree.of_bodySF (plainFor_of_name pn_0) hisR ?_
  intro p e s m args below meth c s₁ Bd hml0 hP hK
  obtain ⟨rfl, hZ, hh⟩ := hP
  have hx := Bd.exec
  have hby := Bd.bytes
  have hml : c.maxLocals = 3 := hml0
  have hown : s.vm.findClass "com/example/kept_backlog/keptbacklog/QueueStats" = some m.cls := findClass_of_methodNamed Bd.named
  have hnm := (name_of_methodNamed Bd.named Bd.method).1
  have X0 : Stand p l e ({ frames := 0, cells := 0, slots := 0, locals := 0 } : Room) s m #[(.ref a), .null] below meth c s₁ [] 0 0 := Stand.of_body Bd
  have e0 : s₁.heap = h0 := by rw [← hh, Bd.state]; rfl
  have N0 := Fr.nil n0
  refine Ends.cast (P := EndN s ({ frames := 0, cells := 0, slots := 0, locals := 0 } : Room) (Q_rm3n Z a h0 n0)) (ef_rm3n m a) ?_
  refine Ends.pre (T' := s₁.setTop (mkF m 1 #[.val (.ref a), .val .null, .unset] [.null])) (fun t k => XS.aloadN X0.here hx rfl (hb hby d3_0) rfl rfl k) ?_
  refine Ends.pre (T' := s₁.setTop (mkF m 4 #[.val (.ref a), .val .null, .unset] [(.int (0 : Int32))])) (fun t k => X0.instanceofNull hx (g := (mkF m 1 #[.val (.ref a), .val .null, .unset] [.null])) rfl rfl (hb hby d3_1) _ k) ?_
  refine Ends.pre (T' := s₁.setTop (mkF m 76 #[.val (.ref a), .val .null, .unset] [])) (fun t k => XS.ifYes X0.here hx rfl (pc0 := 4) (pc' := 76) rfl (hb hby d3_4) rfl (by decide) (by decide) (by decide) k) ?_
  refine Ends.pre (T' := s₁.setTop (mkF m 77 #[.val (.ref a), .val .null, .unset] [(.int (0 : Int32))])) (fun t k => XS.iconst X0.here hx rfl (hb hby d3_76) k) ?_
  exact Ends.ret (w := (.int (0 : Int32))) X0 hx Bd.notSynchronized Bd.returns rfl (Or.inl ⟨rfl, Or.inr (Or.inl rfl), _, rfl⟩) (hb hby d3_77) e0 ⟨rfl, N0, rfl⟩ (by decide) (by decide)
theorem ef_rm3l (m : MethodId) (x0 : Addr) (x1 : Addr) : entryFrame m #[(.ref x0), (.ref x1)] 3 = mkF m 0 #[.val (.ref x0), .val (.ref x1), .unset] [] := by first | (simp [entryFrame, mkF, argsToLocals, Value.category]; done) | rfl
def Q_rm3l (Z : State) (a : Addr) (oo : Addr) (h0 : Heap) (n0 : Nat) (v : Option Value) (h : Heap) (L : List Loc) : Prop := v = some (.int 0) ∧ Fr n0 L ∧ h = h0
set_option maxRecDepth 65536 in
set_option maxHeartbeats 40000000 in
theorem rm3l (l : Launch) (Z : State) (a0 : Array Value) (hw : ∀ d ∈ tables_1, d.before a0 Z = true) (ws : List Jvm.Cond) (a : Addr) (oo : Addr) (h0 : Heap) (n0 : Nat) (Z0 : n0 ≤ h0.size) (EO : Exa Z h0 oo "java/lang/Long") :
    MetFree l (⟨"com/example/kept_backlog/keptbacklog/QueueStats", "equals", "(Ljava/lang/Object;)Z"⟩ : MethodName) (head1 (Jvm.Cond.code (⟨"com/example/kept_backlog/keptbacklog/QueueStats", "equals", "(Ljava/lang/Object;)Z"⟩ : MethodName) prog_5_method_7_code 3 (some .boolean) :: ws) ({ frames := 0, cells := 0, slots := 0, locals := 0 } : Room)) (fun aa_ U => aa_ = #[(.ref a), (.ref oo)] ∧ Z.Warmed39 U.vm ∧ U.heap = h0) (fun _ _ _ _ _ => True) (fun _ U o U' => ∃ v L, o = .returned v ∧ Q_rm3l Z a oo h0 n0 v U'.heap L ∧ FrameEnd U o U' L ({ frames := 0, cells := 0, slots := 0, locals := 0 } : Room).cells ({ frames := 0, cells := 0, slots := 0, locals := 0 } : Room).slots) := by
  refine MetFree.of_bodySF (plainFor_of_name pn_0) hisR ?_
  intro p e s m args below meth c s₁ Bd hml0 hP hK
  obtain ⟨rfl, hZ, hh⟩ := hP
  have hx := Bd.exec
  have hby := Bd.bytes
  have hml : c.maxLocals = 3 := hml0
  have hown : s.vm.findClass "com/example/kept_backlog/keptbacklog/QueueStats" = some m.cls := findClass_of_methodNamed Bd.named
  have hnm := (name_of_methodNamed Bd.named Bd.method).1
  have X0 : Stand p l e ({ frames := 0, cells := 0, slots := 0, locals := 0 } : Room) s m #[(.ref a), (.ref oo)] below meth c s₁ [] 0 0 := Stand.of_body Bd
  have e0 : s₁.heap = h0 := by rw [← hh, Bd.state]; rfl
  have N0 := Fr.nil n0
  refine Ends.cast (P := EndN s ({ frames := 0, cells := 0, slots := 0, locals := 0 } : Room) (Q_rm3l Z a oo h0 n0)) (ef_rm3l m a oo) ?_
  refine Ends.pre (T' := s₁.setTop (mkF m 1 #[.val (.ref a), .val (.ref oo), .unset] [(.ref oo)])) (fun t k => XS.aloadN X0.here hx rfl (hb hby d3_0) rfl rfl k) ?_
  obtain ⟨T1, X1, e1, st1⟩ := instNo X0 hx hZ hown (hw _ (List.mem_of_getElem? (i := 24) rfl)) e0 EO (NS_no' (hw _ (List.mem_of_getElem? (i := 47) rfl)) (hw _ (List.mem_of_getElem? (i := 1) rfl)) (NS.step (hw _ (List.mem_of_getElem? (i := 47) rfl)) (NS.step (hw _ (List.mem_of_getElem? (i := 48) rfl)) (NS_root' (hw _ (List.mem_of_getElem? (i := 49) rfl)) (hw _ (List.mem_of_getElem? (i := 1) rfl)) (by decide)) (by decide)) (by decide)) (by decide)) (g := (mkF m 1 #[.val (.ref a), .val (.ref oo), .unset] [(.ref oo)])) rfl rfl (hb hby d3_1)
  refine Ends.pre (T' := T1.setTop (mkF m 4 #[.val (.ref a), .val (.ref oo), .unset] [(.int (0 : Int32))])) (fun t k => st1 _ k) ?_
  refine Ends.pre (T' := T1.setTop (mkF m 76 #[.val (.ref a), .val (.ref oo), .unset] [])) (fun t k => XS.ifYes X1.here hx rfl (pc0 := 4) (pc' := 76) rfl (hb hby d3_4) rfl (by decide) (by decide) (by decide) k) ?_
  refine Ends.pre (T' := T1.setTop (mkF m 77 #[.val (.ref a), .val (.ref oo), .unset] [(.int (0 : Int32))])) (fun t k => XS.iconst X1.here hx rfl (hb hby d3_76) k) ?_
  exact Ends.ret (w := (.int (0 : Int32))) X1 hx Bd.notSynchronized Bd.returns rfl (Or.inl ⟨rfl, Or.inr (Or.inl rfl), _, rfl⟩) (hb hby d3_77) e1 ⟨rfl, N0, rfl⟩ (by decide) (by decide)
theorem d6_0 : decode jdk_18_method_1_code 0 = .ok (.aload_n 0, 1) := by decide +kernel
theorem d6_1 : decode jdk_18_method_1_code 1 = .ok (.invokespecial 1, 3) := by decide +kernel
theorem d6_4 : decode jdk_18_method_1_code 4 = .ok (.return_, 1) := by decide +kernel
theorem pn_1 : plainName "java/lang/Number" = true := by first | (simp [plainName, overriddenIn]; done) | decide +kernel
theorem ef_rm6 (m : MethodId) (x0 : Addr) : entryFrame m #[(.ref x0)] 1 = mkF m 0 #[.val (.ref x0)] [] := by first | (simp [entryFrame, mkF, argsToLocals, Value.category]; done) | rfl
def Q_rm6 (Z : State) (a : Addr) (h0 : Heap) (n0 : Nat) (v : Option Value) (h : Heap) (L : List Loc) : Prop := v = none ∧ Fr n0 L ∧ h = h0
set_option maxRecDepth 65536 in
set_option maxHeartbeats 40000000 in
theorem rm6 (l : Launch) (Z : State) (a0 : Array Value) (hw : ∀ d ∈ tables_1, d.before a0 Z = true) (ws : List Jvm.Cond) (a : Addr) (h0 : Heap) (n0 : Nat) (Z0 : n0 ≤ h0.size)  :
    MetFree l (⟨"java/lang/Number", "<init>", "()V"⟩ : MethodName) (head1 (Jvm.Cond.code (⟨"java/lang/Number", "<init>", "()V"⟩ : MethodName) jdk_18_method_1_code 1 none :: ws) ({ frames := 1, cells := 0, slots := 0, locals := 12 } : Room)) (fun aa_ U => aa_ = #[(.ref a)] ∧ Z.Warmed39 U.vm ∧ U.heap = h0) (fun _ _ _ _ _ => True) (fun _ U o U' => ∃ v L, o = .returned v ∧ Q_rm6 Z a h0 n0 v U'.heap L ∧ FrameEnd U o U' L ({ frames := 1, cells := 0, slots := 0, locals := 12 } : Room).cells ({ frames := 1, cells := 0, slots := 0, locals := 12 } : Room).slots) := by
  refine MetFree.of_bodySF (plainFor_of_name pn_1) hisR ?_
  intro p e s m args below meth c s₁ Bd hml0 hP hK
  obtain ⟨rfl, hZ, hh⟩ := hP
  have hx := Bd.exec
  have hby := Bd.bytes
  have hml : c.maxLocals = 1 := hml0
  have hown : s.vm.findClass "java/lang/Number" = some m.cls := findClass_of_methodNamed Bd.named
  have hnm := (name_of_methodNamed Bd.named Bd.method).1
  have X0 : Stand p l e ({ frames := 1, cells := 0, slots := 0, locals := 12 } : Room) s m #[(.ref a)] below meth c s₁ [] 0 0 := Stand.of_body Bd
  have e0 : s₁.heap = h0 := by rw [← hh, Bd.state]; rfl
  have N0 := Fr.nil n0
  refine Ends.cast (P := EndN s ({ frames := 1, cells := 0, slots := 0, locals := 12 } : Room) (Q_rm6 Z a h0 n0)) (ef_rm6 m a) ?_
  refine Ends.pre (T' := s₁.setTop (mkF m 1 #[.val (.ref a)] [(.ref a)])) (fun t k => XS.aloadN X0.here hx rfl (hb hby d6_0) rfl rfl k) ?_
  obtain ⟨T1, X1, e1, st1⟩ := initO X0 hx hZ hown (hw _ (List.mem_of_getElem? (i := 44) rfl)) (hw _ (List.mem_of_getElem? (i := 7) rfl)) (hw _ (List.mem_of_getElem? (i := 8) rfl)) e0 (g := (mkF m 1 #[.val (.ref a)] [(.ref a)])) rfl (by rw [hml]; rfl) rfl (hb hby d6_1) (by decide) (W := 0) (by show 2 * 0 + _ ≤ _; exact Nat.le_of_eq rfl) (by decide)
  refine Ends.pre (T' := T1.setTop (mkF m 4 #[.val (.ref a)] [])) (fun t k => st1 _ k) ?_
  exact Ends.ret0 X1 hx Bd.notSynchronized Bd.returns (hb hby d6_4) e1 ⟨rfl, N0, rfl⟩ (by decide) (by decide)
theorem d5_0 : decode jdk_35_method_26_code 0 = .ok (.aload_n 0, 1) := by decide +kernel
theorem d5_1 : decode jdk_35_method_26_code 1 = .ok (.invokespecial 270, 3) := by decide +kernel
theorem pd_0 : parseMethodDescriptor "()V" = some ⟨[], none⟩ := by decide +kernel
theorem d5_4 : decode jdk_35_method_26_code 4 = .ok (.aload_n 0, 1) := by decide +kernel
theorem d5_5 : decode jdk_35_method_26_code 5 = .ok (.lload_n 1, 1) := by decide +kernel
theorem d5_6 : decode jdk_35_method_26_code 6 = .ok (.putfield 273, 3) := by decide +kernel
theorem d5_9 : decode jdk_35_method_26_code 9 = .ok (.return_, 1) := by decide +kernel
theorem pn_2 : plainName "java/lang/Long" = true := by first | (simp [plainName, overriddenIn]; done) | decide +kernel
theorem ef_rm5 (m : MethodId) (x0 : Addr) (x1 : Int64) : entryFrame m #[(.ref x0), (.long x1)] 3 = mkF m 0 #[.val (.ref x0), .val (.long x1), .second] [] := by first | (simp [entryFrame, mkF, argsToLocals, Value.category]; done) | rfl
def Q_rm5 (Z : State) (a : Addr) (q : Int64) (h0 : Heap) (n0 : Nat) (v : Option Value) (h : Heap) (L : List Loc) : Prop := v = none ∧ Fr n0 L ∧ Keep h0 h [a] ∧ Exa Z h a "java/lang/Long"
set_option maxRecDepth 65536 in
set_option maxHeartbeats 40000000 in
theorem rm5 (l : Launch) (Z : State) (a0 : Array Value) (hw : ∀ d ∈ tables_1, d.before a0 Z = true) (ws : List Jvm.Cond) (a : Addr) (q : Int64) (h0 : Heap) (n0 : Nat) (Z0 : n0 ≤ h0.size) (EA : Exa Z h0 a "java/lang/Long") (FA : Fld Z h0 a "java/lang/Long" "value" "J" (.long (0 : Int64))) (ga : n0 ≤ a) :
    MetFree l (⟨"java/lang/Long", "<init>", "(J)V"⟩ : MethodName) (head1 (Jvm.Cond.code (⟨"java/lang/Long", "<init>", "(J)V"⟩ : MethodName) jdk_35_method_26_code 3 none :: ws) ({ frames := 2, cells := 0, slots := 0, locals := 24 } : Room)) (fun aa_ U => aa_ = #[(.ref a), (.long q)] ∧ Z.Warmed39 U.vm ∧ U.heap = h0) (fun _ _ _ _ _ => True) (fun _ U o U' => ∃ v L, o = .returned v ∧ Q_rm5 Z a q h0 n0 v U'.heap L ∧ FrameEnd U o U' L ({ frames := 2, cells := 0, slots := 0, locals := 24 } : Room).cells ({ frames := 2, cells := 0, slots := 0, locals := 24 } : Room).slots) := by
  refine MetFree.of_bodySF (plainFor_of_name pn_2) hisR ?_
  intro p e s m args below meth c s₁ Bd hml0 hP hK
  obtain ⟨rfl, hZ, hh⟩ := hP
  have hx := Bd.exec
  have hby := Bd.bytes
  have hml : c.maxLocals = 3 := hml0
  have hown : s.vm.findClass "java/lang/Long" = some m.cls := findClass_of_methodNamed Bd.named
  have hnm := (name_of_methodNamed Bd.named Bd.method).1
  have X0 : Stand p l e ({ frames := 2, cells := 0, slots := 0, locals := 24 } : Room) s m #[(.ref a), (.long q)] below meth c s₁ [] 0 0 := Stand.of_body Bd
  have e0 : s₁.heap = h0 := by rw [← hh, Bd.state]; rfl
  have N0 := Fr.nil n0
  refine Ends.cast (P := EndN s ({ frames := 2, cells := 0, slots := 0, locals := 24 } : Room) (Q_rm5 Z a q h0 n0)) (ef_rm5 m a q) ?_
  refine Ends.pre (T' := s₁.setTop (mkF m 1 #[.val (.ref a), .val (.long q), .second] [(.ref a)])) (fun t k => XS.aloadN X0.here hx rfl (hb hby d5_0) rfl rfl k) ?_
  obtain ⟨_, _, ⟨T1, L1, k1, n1⟩, -, X1, ⟨Lc1, hQ1, l1, y1, z1⟩, st1⟩ := X0.specialBack hx (y := (⟨"java/lang/Number", "<init>", "()V"⟩ : MethodName)) rfl hown (mvT hZ (hw _ (List.mem_of_getElem? (i := 38) rfl))) (mvT hZ (hw _ (List.mem_of_getElem? (i := 39) rfl))) (mvT hZ (hw _ (List.mem_of_getElem? (i := 43) rfl))) (by decide) (backOf (W := 0) (rm6 l Z a0 hw [] a h0 n0 Z0) hZ (hw _ (List.mem_of_getElem? (i := 43) rfl)) (hw _ (List.mem_of_getElem? (i := 42) rfl)) (by decide) (by decide)) (g := (mkF m 1 #[.val (.ref a), .val (.long q), .second] [(.ref a)])) rfl (by rw [hml]; rfl) (Steps.refl _) (a := a) (argsL := []) (rest := []) (lenOf pd_0 rfl) rfl (by show 2 * 0 + _ ≤ _; exact Nat.le_of_eq rfl) (hb hby d5_1) (fun _ _ => ⟨rfl, e0, (by decide : 0 + 0 ≤ _), (by decide : 0 + 0 ≤ _)⟩)
  dsimp only [Pt.U, Pt.locs, Pt.cells, Pt.slots] at X1 l1 y1 z1 st1 hQ1
  subst l1 y1 z1
  obtain ⟨rfl, N1q, eh1⟩ := hQ1
  have N1 := Fr.app N0 N1q
  refine Ends.pre (T' := T1.setTop (mkF m 4 #[.val (.ref a), .val (.long q), .second] [])) (fun t k => st1.trans k) ?_
  refine Ends.pre (T' := T1.setTop (mkF m 5 #[.val (.ref a), .val (.long q), .second] [(.ref a)])) (fun t k => XS.aloadN X1.here hx rfl (hb hby d5_4) rfl rfl k) ?_
  refine Ends.pre (T' := T1.setTop (mkF m 6 #[.val (.ref a), .val (.long q), .second] [(.long q), (.ref a)])) (fun t k => XS.lloadN X1.here hx rfl (hb hby d5_5) rfl k) ?_
  obtain ⟨T2, h2, X2, e2, W2, st2⟩ := putF X1 hx hZ hown (host := "") (Or.inl (hw _ (List.mem_of_getElem? (i := 45) rfl))) Via.refl eh1 FA EA (Or.inr ⟨(hw _ (List.mem_of_getElem? (i := 46) rfl)), rfl, hnm⟩) (hw _ (List.mem_of_getElem? (i := 33) rfl)) (ty := .long) (by decide) rfl rfl (g := (mkF m 6 #[.val (.ref a), .val (.long q), .second] [(.long q), (.ref a)])) rfl rfl (hb hby d5_6)
  have Fw2 : Fld Z h2 a "java/lang/Long" "value" "J" (.long q) := FA.same W2
  have N2 := Fr.snoc X2 N1 ga
  refine Ends.pre (T' := T2.setTop (mkF m 9 #[.val (.ref a), .val (.long q), .second] [])) (fun t k => st2 _ k) ?_
  have K2 : Keep h0 h2 [a] := (Keep.refl h0 [a]).wr W2 (Or.inl (List.mem_of_getElem? (i := 0) rfl))
  have F3 : Exa Z h2 a "java/lang/Long" := (EA.wr W2)
  exact Ends.ret0 X2 hx Bd.notSynchronized Bd.returns (hb hby d5_9) e2 ⟨rfl, N2, K2, F3⟩ (by decide) (by decide)
theorem d4_0 : decode jdk_35_method_24_code 0 = .ok (.sipush 128, 3) := by decide +kernel
theorem d4_3 : decode jdk_35_method_24_code 3 = .ok (.istore_n 2, 1) := by decide +kernel
theorem d4_4 : decode jdk_35_method_24_code 4 = .ok (.lload_n 0, 1) := by decide +kernel
theorem d4_5 : decode jdk_35_method_24_code 5 = .ok (.ldc2_w 230, 3) := by decide +kernel
theorem d4_8 : decode jdk_35_method_24_code 8 = .ok (.lcmp, 1) := by decide +kernel
theorem d4_9 : decode jdk_35_method_24_code 9 = .ok (.ifCond .lt 22, 3) := by decide +kernel
theorem d4_31 : decode jdk_35_method_24_code 31 = .ok (.new 1, 3) := by decide +kernel
theorem d4_34 : decode jdk_35_method_24_code 34 = .ok (.dup, 1) := by decide +kernel
theorem d4_35 : decode jdk_35_method_24_code 35 = .ok (.lload_n 0, 1) := by decide +kernel
theorem d4_36 : decode jdk_35_method_24_code 36 = .ok (.invokespecial 240, 3) := by decide +kernel
theorem pd_1 : parseMethodDescriptor "(J)V" = some ⟨[.long], none⟩ := by decide +kernel
theorem d4_39 : decode jdk_35_method_24_code 39 = .ok (.areturn, 1) := by decide +kernel
theorem d4_12 : decode jdk_35_method_24_code 12 = .ok (.lload_n 0, 1) := by decide +kernel
theorem d4_13 : decode jdk_35_method_24_code 13 = .ok (.ldc2_w 232, 3) := by decide +kernel
theorem d4_16 : decode jdk_35_method_24_code 16 = .ok (.lcmp, 1) := by decide +kernel
theorem d4_17 : decode jdk_35_method_24_code 17 = .ok (.ifCond .gt 14, 3) := by decide +kernel
theorem d4_20 : decode jdk_35_method_24_code 20 = .ok (.getstatic 234, 3) := by decide +kernel
theorem d4_23 : decode jdk_35_method_24_code 23 = .ok (.lload_n 0, 1) := by decide +kernel
theorem d4_24 : decode jdk_35_method_24_code 24 = .ok (.l2i, 1) := by decide +kernel
theorem d4_25 : decode jdk_35_method_24_code 25 = .ok (.sipush 128, 3) := by decide +kernel
theorem d4_28 : decode jdk_35_method_24_code 28 = .ok (.iadd, 1) := by decide +kernel
theorem d4_29 : decode jdk_35_method_24_code 29 = .ok (.aaload, 1) := by decide +kernel
theorem d4_30 : decode jdk_35_method_24_code 30 = .ok (.areturn, 1) := by decide +kernel
theorem ef_rm4 (m : MethodId) (x0 : Int64) : entryFrame m #[(.long x0)] 3 = mkF m 0 #[.val (.long x0), .second, .unset] [] := by first | (simp [entryFrame, mkF, argsToLocals, Value.category]; done) | rfl
def Q_rm4 (Z : State) (q : Int64) (ca : Addr) (cl : Cell) (h0 : Heap) (n0 : Nat) (v : Option Value) (h : Heap) (L : List Loc) : Prop := ∃ r, v = some (.ref r) ∧ Fr n0 L ∧ Keep h0 h [] ∧ Exa Z h r "java/lang/Long"
set_option maxRecDepth 65536 in
set_option maxHeartbeats 40000000 in
theorem rm4 (l : Launch) (Z : State) (a0 : Array Value) (hw : ∀ d ∈ tables_1, d.before a0 Z = true) (ws : List Jvm.Cond) (q : Int64) (ca : Addr) (cl : Cell) (h0 : Heap) (n0 : Nat) (Z0 : n0 ≤ h0.size) (SC : Sta Z h0 "java/lang/Long$LongCache" "cache" "[Ljava/lang/Long;" (.ref ca)) (Ar : Arr Z h0 ca cl (.object "java/lang/Long")) (hsz : cl.slots.size = 256) (hel : ∀ j : Int32, ¬ (j < 0 ∨ cl.slots.size ≤ j.toNatClampNeg) → ∃ r, cl.slots[j.toNatClampNeg]? = some (.ref r) ∧ Exa Z h0 r "java/lang/Long") :
    MetFree l (⟨"java/lang/Long", "valueOf", "(J)Ljava/lang/Long;"⟩ : MethodName) (head1 (Jvm.Cond.code (⟨"java/lang/Long", "valueOf", "(J)Ljava/lang/Long;"⟩ : MethodName) jdk_35_method_24_code 3 (some (.object "java/lang/Long")) :: ws) ({ frames := 3, cells := 1, slots := 1, locals := 39 } : Room)) (fun aa_ U => aa_ = #[(.long q)] ∧ Z.Warmed39 U.vm ∧ U.heap = h0) (fun _ _ _ _ _ => True) (fun _ U o U' => ∃ v L, o = .returned v ∧ Q_rm4 Z q ca cl h0 n0 v U'.heap L ∧ FrameEnd U o U' L ({ frames := 3, cells := 1, slots := 1, locals := 39 } : Room).cells ({ frames := 3, cells := 1, slots := 1, locals := 39 } : Room).slots) := by
  refine MetFree.of_bodySF (plainFor_of_name pn_2) hisR ?_
  intro p e s m args below meth c s₁ Bd hml0 hP hK
  obtain ⟨rfl, hZ, hh⟩ := hP
  have hx := Bd.exec
  have hby := Bd.bytes
  have hml : c.maxLocals = 3 := hml0
  have hown : s.vm.findClass "java/lang/Long" = some m.cls := findClass_of_methodNamed Bd.named
  have hnm := (name_of_methodNamed Bd.named Bd.method).1
  have X0 : Stand p l e ({ frames := 3, cells := 1, slots := 1, locals := 39 } : Room) s m #[(.long q)] below meth c s₁ [] 0 0 := Stand.of_body Bd
  have e0 : s₁.heap = h0 := by rw [← hh, Bd.state]; rfl
  have N0 := Fr.nil n0
  refine Ends.cast (P := EndN s ({ frames := 3, cells := 1, slots := 1, locals := 39 } : Room) (Q_rm4 Z q ca cl h0 n0)) (ef_rm4 m q) ?_
  refine Ends.pre (T' := s₁.setTop (mkF m 3 #[.val (.long q), .second, .unset] [(.int (128 : Int32))])) (fun t k => XS.sipush X0.here hx rfl (hb hby d4_0) k) ?_
  refine Ends.pre (T' := s₁.setTop (mkF m 4 #[.val (.long q), .second, .val (.int (128 : Int32))] [])) (fun t k => XS.istoreN (g := (mkF m 3 #[.val (.long q), .second, .unset] [(.int (128 : Int32))])) X0.here hx rfl (hb hby d4_3) rfl (l' := #[.val (.long q), .second, .val (.int (128 : Int32))]) rfl k) ?_
  refine Ends.pre (T' := s₁.setTop (mkF m 5 #[.val (.long q), .second, .val (.int (128 : Int32))] [(.long q)])) (fun t k => XS.lloadN X0.here hx rfl (hb hby d4_4) rfl k) ?_
  refine Ends.pre (T' := s₁.setTop (mkF m 8 #[.val (.long q), .second, .val (.int (128 : Int32))] [(.long (-128 : Int64)), (.long q)])) (fun t k => X0.ldc2Long (index := 230) (v := (-128 : Int64)) hx hown (mvT hZ (hw _ (List.mem_of_getElem? (i := 30) rfl))) (g := (mkF m 5 #[.val (.long q), .second, .val (.int (128 : Int32))] [(.long q)])) rfl (hb hby d4_5) t k) ?_
  refine Ends.pre (T' := s₁.setTop (mkF m 9 #[.val (.long q), .second, .val (.int (128 : Int32))] [(.int (lcmpW q (-128 : Int64)))])) (fun t k => XS.lcmp X0.here hx rfl (hb hby d4_8) rfl k) ?_
  by_cases hc9_1 : q < (-128 : Int64)
  · refine Ends.pre (T' := s₁.setTop (mkF m 31 #[.val (.long q), .second, .val (.int (128 : Int32))] [])) (fun t k => XS.ifYes X0.here hx rfl (pc0 := 9) (pc' := 31) rfl (hb hby d4_9) rfl (Jvm.Free.XT.i0_lt_t ((lw_lt _ _).mpr hc9_1)) (by decide) (by decide) k) ?_
    obtain ⟨T2, h2, X2, e2, E2, A2, D2, -, st2⟩ := newO X0 hx hZ hown (hw _ (List.mem_of_getElem? (i := 32) rfl)) (hw _ (List.mem_of_getElem? (i := 33) rfl)) (hw _ (List.mem_of_getElem? (i := 28) rfl)) e0 (g := (mkF m 31 #[.val (.long q), .second, .val (.int (128 : Int32))] [])) rfl (hb hby d4_31) (by decide) (by decide)
    obtain ⟨b2, g2⟩ : ∃ z, z = h0.size := ⟨_, rfl⟩
    rw [← g2] at A2 D2 st2
    have ge_b2 : n0 ≤ b2 := Nat.le_trans Z0 (Nat.le_of_eq g2.symm)
    have sz_b2 : h0.size ≤ b2 := Nat.le_trans (Keep.refl h0 []).1 (Nat.le_of_eq g2.symm)
    have K2 : Keep h0 h2 [] := (Keep.refl h0 []).ext E2
    have Fd2_value : Fld Z h2 b2 "java/lang/Long" "value" "J" (.long (0 : Int64)) := D2 (Or.inr (hw _ (List.mem_of_getElem? (i := 46) rfl))) (ty := .long) (by decide)
    refine Ends.pre (T' := T2.setTop (mkF m 34 #[.val (.long q), .second, .val (.int (128 : Int32))] [(.ref b2)])) (fun t k => st2 _ k) ?_
    refine Ends.pre (T' := T2.setTop (mkF m 35 #[.val (.long q), .second, .val (.int (128 : Int32))] [(.ref b2), (.ref b2)])) (fun t k => XS.dup X2.here hx rfl (hb hby d4_34) rfl rfl k) ?_
    refine Ends.pre (T' := T2.setTop (mkF m 36 #[.val (.long q), .second, .val (.int (128 : Int32))] [(.long q), (.ref b2), (.ref b2)])) (fun t k => XS.lloadN X2.here hx rfl (hb hby d4_35) rfl k) ?_
    obtain ⟨_, _, ⟨T3, L3, k3, n3⟩, -, X3, ⟨Lc3, hQ3, l3, y3, z3⟩, st3⟩ := X2.specialBack hx (y := (⟨"java/lang/Long", "<init>", "(J)V"⟩ : MethodName)) rfl hown (mvT hZ (hw _ (List.mem_of_getElem? (i := 34) rfl))) (mvT hZ (hw _ (List.mem_of_getElem? (i := 35) rfl))) (mvT hZ (hw _ (List.mem_of_getElem? (i := 37) rfl))) (by decide) (backOf (W := 1) (rm5 l Z a0 hw [] b2 q h2 n0 (Nat.le_trans Z0 E2.1) A2 Fd2_value ge_b2) hZ (hw _ (List.mem_of_getElem? (i := 37) rfl)) (hw _ (List.mem_of_getElem? (i := 28) rfl)) (by decide) (by decide)) (g := (mkF m 36 #[.val (.long q), .second, .val (.int (128 : Int32))] [(.long q), (.ref b2), (.ref b2)])) rfl (by rw [hml]; rfl) (Steps.refl _) (a := b2) (argsL := [(.long q)]) (rest := [(.ref b2)]) (lenOf pd_1 rfl) rfl (by show 2 * 0 + _ ≤ _; exact Nat.le_of_eq rfl) (hb hby d4_36) (fun _ _ => ⟨rfl, e2, (by decide : 1 + 0 ≤ _), (by decide : 1 + 0 ≤ _)⟩)
    dsimp only [Pt.U, Pt.locs, Pt.cells, Pt.slots] at X3 l3 y3 z3 st3 hQ3
    subst l3 y3 z3
    obtain ⟨rfl, N3q, Kc3, Ec3⟩ := hQ3
    have N3 := Fr.app N0 N3q
    have K3 : Keep h0 T3.heap [] := K2.trans Kc3 (allS (Or.inr sz_b2) all0)
    refine Ends.pre (T' := T3.setTop (mkF m 39 #[.val (.long q), .second, .val (.int (128 : Int32))] [(.ref b2)])) (fun t k => st3.trans k) ?_
    exact Ends.ret (w := (.ref b2)) X3 hx Bd.notSynchronized Bd.returns rfl (Or.inr (Or.inr (Or.inr (Or.inr ⟨rfl, rfl, rfl⟩)))) (hb hby d4_39) rfl ⟨_, rfl, N3, K3, Ec3⟩ (by decide) (by decide)
  · refine Ends.pre (T' := s₁.setTop (mkF m 12 #[.val (.long q), .second, .val (.int (128 : Int32))] [])) (fun t k => XS.ifNo X0.here hx rfl (hb hby d4_9) rfl (Jvm.Free.XT.i0_lt_f (fun q => hc9_1 ((lw_lt _ _).mp q))) k) ?_
    refine Ends.pre (T' := s₁.setTop (mkF m 13 #[.val (.long q), .second, .val (.int (128 : Int32))] [(.long q)])) (fun t k => XS.lloadN X0.here hx rfl (hb hby d4_12) rfl k) ?_
    refine Ends.pre (T' := s₁.setTop (mkF m 16 #[.val (.long q), .second, .val (.int (128 : Int32))] [(.long (127 : Int64)), (.long q)])) (fun t k => X0.ldc2Long (index := 232) (v := (127 : Int64)) hx hown (mvT hZ (hw _ (List.mem_of_getElem? (i := 31) rfl))) (g := (mkF m 13 #[.val (.long q), .second, .val (.int (128 : Int32))] [(.long q)])) rfl (hb hby d4_13) t k) ?_
    refine Ends.pre (T' := s₁.setTop (mkF m 17 #[.val (.long q), .second, .val (.int (128 : Int32))] [(.int (lcmpW q (127 : Int64)))])) (fun t k => XS.lcmp X0.here hx rfl (hb hby d4_16) rfl k) ?_
    by_cases hc17_4 : (127 : Int64) < q
    · refine Ends.pre (T' := s₁.setTop (mkF m 31 #[.val (.long q), .second, .val (.int (128 : Int32))] [])) (fun t k => XS.ifYes X0.here hx rfl (pc0 := 17) (pc' := 31) rfl (hb hby d4_17) rfl (Jvm.Free.XT.i0_gt_t ((lw_gt _ _).mpr hc17_4)) (by decide) (by decide) k) ?_
      obtain ⟨T5, h5, X5, e5, E5, A5, D5, -, st5⟩ := newO X0 hx hZ hown (hw _ (List.mem_of_getElem? (i := 32) rfl)) (hw _ (List.mem_of_getElem? (i := 33) rfl)) (hw _ (List.mem_of_getElem? (i := 28) rfl)) e0 (g := (mkF m 31 #[.val (.long q), .second, .val (.int (128 : Int32))] [])) rfl (hb hby d4_31) (by decide) (by decide)
      obtain ⟨b5, g5⟩ : ∃ z, z = h0.size := ⟨_, rfl⟩
      rw [← g5] at A5 D5 st5
      have ge_b5 : n0 ≤ b5 := Nat.le_trans Z0 (Nat.le_of_eq g5.symm)
      have sz_b5 : h0.size ≤ b5 := Nat.le_trans (Keep.refl h0 []).1 (Nat.le_of_eq g5.symm)
      have K5 : Keep h0 h5 [] := (Keep.refl h0 []).ext E5
      have Fd5_value : Fld Z h5 b5 "java/lang/Long" "value" "J" (.long (0 : Int64)) := D5 (Or.inr (hw _ (List.mem_of_getElem? (i := 46) rfl))) (ty := .long) (by decide)
      refine Ends.pre (T' := T5.setTop (mkF m 34 #[.val (.long q), .second, .val (.int (128 : Int32))] [(.ref b5)])) (fun t k => st5 _ k) ?_
      refine Ends.pre (T' := T5.setTop (mkF m 35 #[.val (.long q), .second, .val (.int (128 : Int32))] [(.ref b5), (.ref b5)])) (fun t k => XS.dup X5.here hx rfl (hb hby d4_34) rfl rfl k) ?_
      refine Ends.pre (T' := T5.setTop (mkF m 36 #[.val (.long q), .second, .val (.int (128 : Int32))] [(.long q), (.ref b5), (.ref b5)])) (fun t k => XS.lloadN X5.here hx rfl (hb hby d4_35) rfl k) ?_
      obtain ⟨_, _, ⟨T6, L6, k6, n6⟩, -, X6, ⟨Lc6, hQ6, l6, y6, z6⟩, st6⟩ := X5.specialBack hx (y := (⟨"java/lang/Long", "<init>", "(J)V"⟩ : MethodName)) rfl hown (mvT hZ (hw _ (List.mem_of_getElem? (i := 34) rfl))) (mvT hZ (hw _ (List.mem_of_getElem? (i := 35) rfl))) (mvT hZ (hw _ (List.mem_of_getElem? (i := 37) rfl))) (by decide) (backOf (W := 1) (rm5 l Z a0 hw [] b5 q h5 n0 (Nat.le_trans Z0 E5.1) A5 Fd5_value ge_b5) hZ (hw _ (List.mem_of_getElem? (i := 37) rfl)) (hw _ (List.mem_of_getElem? (i := 28) rfl)) (by decide) (by decide)) (g := (mkF m 36 #[.val (.long q), .second, .val (.int (128 : Int32))] [(.long q), (.ref b5), (.ref b5)])) rfl (by rw [hml]; rfl) (Steps.refl _) (a := b5) (argsL := [(.long q)]) (rest := [(.ref b5)]) (lenOf pd_1 rfl) rfl (by show 2 * 0 + _ ≤ _; exact Nat.le_of_eq rfl) (hb hby d4_36) (fun _ _ => ⟨rfl, e5, (by decide : 1 + 0 ≤ _), (by decide : 1 + 0 ≤ _)⟩)
      dsimp only [Pt.U, Pt.locs, Pt.cells, Pt.slots] at X6 l6 y6 z6 st6 hQ6
      subst l6 y6 z6
      obtain ⟨rfl, N6q, Kc6, Ec6⟩ := hQ6
      have N6 := Fr.app N0 N6q
      have K6 : Keep h0 T6.heap [] := K5.trans Kc6 (allS (Or.inr sz_b5) all0)
      refine Ends.pre (T' := T6.setTop (mkF m 39 #[.val (.long q), .second, .val (.int (128 : Int32))] [(.ref b5)])) (fun t k => st6.trans k) ?_
      exact Ends.ret (w := (.ref b5)) X6 hx Bd.notSynchronized Bd.returns rfl (Or.inr (Or.inr (Or.inr (Or.inr ⟨rfl, rfl, rfl⟩)))) (hb hby d4_39) rfl ⟨_, rfl, N6, K6, Ec6⟩ (by decide) (by decide)
    · refine Ends.pre (T' := s₁.setTop (mkF m 20 #[.val (.long q), .second, .val (.int (128 : Int32))] [])) (fun t k => XS.ifNo X0.here hx rfl (hb hby d4_17) rfl (Jvm.Free.XT.i0_gt_f (fun q => hc17_4 ((lw_gt _ _).mp q))) k) ?_
      obtain ⟨T7, X7, e7, st7⟩ := getS2 X0 hx hZ hown (host := "") (Or.inl (hw _ (List.mem_of_getElem? (i := 50) rfl))) Via.refl e0 SC (g := (mkF m 20 #[.val (.long q), .second, .val (.int (128 : Int32))] [])) rfl (hb hby d4_20)
      refine Ends.pre (T' := T7.setTop (mkF m 23 #[.val (.long q), .second, .val (.int (128 : Int32))] [(.ref ca)])) (fun t k => st7 _ k) ?_
      refine Ends.pre (T' := T7.setTop (mkF m 24 #[.val (.long q), .second, .val (.int (128 : Int32))] [(.long q), (.ref ca)])) (fun t k => XS.lloadN X7.here hx rfl (hb hby d4_23) rfl k) ?_
      refine Ends.pre (T' := T7.setTop (mkF m 25 #[.val (.long q), .second, .val (.int (128 : Int32))] [(.int (q.toInt32)), (.ref ca)])) (fun t k => XS.l2i X7.here hx rfl (hb hby d4_24) rfl k) ?_
      refine Ends.pre (T' := T7.setTop (mkF m 28 #[.val (.long q), .second, .val (.int (128 : Int32))] [(.int (128 : Int32)), (.int (q.toInt32)), (.ref ca)])) (fun t k => XS.sipush X7.here hx rfl (hb hby d4_25) k) ?_
      refine Ends.pre (T' := T7.setTop (mkF m 29 #[.val (.long q), .second, .val (.int (128 : Int32))] [(.int ((q.toInt32) + (128 : Int32))), (.ref ca)])) (fun t k => XS.iadd X7.here hx rfl (hb hby d4_28) rfl k) ?_
      have hj := (Jvm.Free.LongBox.place_okL q hc9_1 hc17_4).1
      rw [← hsz] at hj
      obtain ⟨r, hr, Er⟩ := hel _ hj
      refine Ends.pre (T' := T7.setTop (mkF m 30 #[.val (.long q), .second, .val (.int (128 : Int32))] [(.ref r)])) (fun t k => X7.aaload hx (j := ((q.toInt32) + (128 : Int32))) (v := .ref r) (by rw [e7]; exact Ar.1) (State.isArrayOf_alike hZ.alike Ar.2.1) rfl Ar.2.2 hj hr (g := (mkF m 29 #[.val (.long q), .second, .val (.int (128 : Int32))] [(.int ((q.toInt32) + (128 : Int32))), (.ref ca)])) rfl rfl (hb hby d4_29) _ k) ?_
      exact Ends.ret (w := (.ref r)) X7 hx Bd.notSynchronized Bd.returns rfl (Or.inr (Or.inr (Or.inr (Or.inr ⟨rfl, rfl, rfl⟩)))) (hb hby d4_30) e7 ⟨_, rfl, N0, (Keep.refl h0 []), Er⟩ (by decide) (by decide)
theorem pd_2 : parseMethodDescriptor "(JJJJJ)V" = some ⟨[.long, .long, .long, .long, .long], none⟩ := by decide +kernel
theorem pd_3 : parseMethodDescriptor "(Ljava/lang/Object;)Z" = some ⟨[(.object "java/lang/Object")], some .boolean⟩ := by decide +kernel
theorem pd_4 : parseMethodDescriptor "(J)Ljava/lang/Long;" = some ⟨[.long], some (.object "java/lang/Long")⟩ := by decide +kernel
theorem pn_3 : plainName "com/example/kept_backlog/keptbacklog/QueueStatsEqualsPinLaw" = true := by first | (simp [plainName, overriddenIn]; done) | decide +kernel
theorem ef_rm0 (m : MethodId) (x0 : Int64) (x1 : Int64) (x2 : Int64) (x3 : Int64) (x4 : Int64) (x5 : Int32) : entryFrame m #[(.long x0), (.long x1), (.long x2), (.long x3), (.long x4), (.int x5)] maxLocals = mkF m 0 #[.val (.long x0), .second, .val (.long x1), .second, .val (.long x2), .second, .val (.long x3), .second, .val (.long x4), .second, .val (.int x5), .unset, .unset, .unset, .unset, .unset, .unset, .unset, .unset, .unset, .unset, .unset, .unset, .unset, .unset, .unset, .unset] [] := by first | (simp [entryFrame, mkF, argsToLocals, Value.category, maxLocals]; done) | rfl
def Q_rm0 (Z : State) (x0 : Int64) (x1 : Int64) (x2 : Int64) (x3 : Int64) (x4 : Int64) (x5 : Int32) (ca : Addr) (cl : Cell) (h0 : Heap) (n0 : Nat) (v : Option Value) (h : Heap) (L : List Loc) : Prop := v = some (.int 1) ∧ Fr n0 L
set_option maxRecDepth 65536 in
set_option maxHeartbeats 40000000 in
theorem rm0 (l : Launch) (Z : State) (a0 : Array Value) (hw : ∀ d ∈ tables_1, d.before a0 Z = true) (ws : List Jvm.Cond) (x0 : Int64) (x1 : Int64) (x2 : Int64) (x3 : Int64) (x4 : Int64) (x5 : Int32) (ca : Addr) (cl : Cell) (h0 : Heap) (n0 : Nat) (Z0 : n0 ≤ h0.size) (SC : Sta Z h0 "java/lang/Long$LongCache" "cache" "[Ljava/lang/Long;" (.ref ca)) (Ar : Arr Z h0 ca cl (.object "java/lang/Long")) (hsz : cl.slots.size = 256) (hel : ∀ j : Int32, ¬ (j < 0 ∨ cl.slots.size ≤ j.toNatClampNeg) → ∃ r, cl.slots[j.toNatClampNeg]? = some (.ref r) ∧ Exa Z h0 r "java/lang/Long") :
    MetFree l x (head1 (Jvm.Cond.code x code maxLocals ret :: ws) room_1) (fun aa_ U => aa_ = #[(.long x0), (.long x1), (.long x2), (.long x3), (.long x4), (.int x5)] ∧ Z.Warmed39 U.vm ∧ U.heap = h0) (fun _ _ _ _ _ => True) (fun _ U o U' => ∃ v L, o = .returned v ∧ Q_rm0 Z x0 x1 x2 x3 x4 x5 ca cl h0 n0 v U'.heap L ∧ FrameEnd U o U' L room_1.cells room_1.slots) := by
  refine MetFree.of_bodySF (plainFor_of_name pn_3) hisR ?_
  intro p e s m args below meth c s₁ Bd hml0 hP hK
  obtain ⟨rfl, hZ, hh⟩ := hP
  have hx := Bd.exec
  have hby := Bd.bytes
  have hml : c.maxLocals = 27 := hml0
  have hown : s.vm.findClass "com/example/kept_backlog/keptbacklog/QueueStatsEqualsPinLaw" = some m.cls := findClass_of_methodNamed Bd.named
  have hnm := (name_of_methodNamed Bd.named Bd.method).1
  have X0 : Stand p l e room_1 s m #[(.long x0), (.long x1), (.long x2), (.long x3), (.long x4), (.int x5)] below meth c s₁ [] 0 0 := Stand.of_body Bd
  have e0 : s₁.heap = h0 := by rw [← hh, Bd.state]; rfl
  have N0 := Fr.nil n0
  refine Ends.cast (P := EndN s room_1 (Q_rm0 Z x0 x1 x2 x3 x4 x5 ca cl h0 n0)) (ef_rm0 m x0 x1 x2 x3 x4 x5) ?_
  have J12_1 : ∀ (y0 : Int64), Jvm.RoadKit.Ends p e below (EndN s room_1 (Q_rm0 Z x0 x1 x2 x3 x4 x5 ca cl h0 n0)) (s₁.setTop (mkF m 12 #[.val (.long x0), .second, .val (.long x1), .second, .val (.long x2), .second, .val (.long x3), .second, .val (.long x4), .second, .val (.int x5), .unset, .unset, .unset, .unset, .unset, .unset, .unset, .unset, .unset, .unset, .unset, .unset, .unset, .unset, .unset, .unset] [(.long y0)])) := by
    intro y0
    refine Ends.pre (T' := s₁.setTop (mkF m 14 #[.val (.long x0), .second, .val (.long x1), .second, .val (.long x2), .second, .val (.long x3), .second, .val (.long x4), .second, .val (.int x5), .val (.long y0), .second, .unset, .unset, .unset, .unset, .unset, .unset, .unset, .unset, .unset, .unset, .unset, .unset, .unset, .unset] [])) (fun t k => XS.lstore (g := (mkF m 12 #[.val (.long x0), .second, .val (.long x1), .second, .val (.long x2), .second, .val (.long x3), .second, .val (.long x4), .second, .val (.int x5), .unset, .unset, .unset, .unset, .unset, .unset, .unset, .unset, .unset, .unset, .unset, .unset, .unset, .unset, .unset, .unset] [(.long y0)])) X0.here hx rfl (hb hby at_12) rfl (l' := #[.val (.long x0), .second, .val (.long x1), .second, .val (.long x2), .second, .val (.long x3), .second, .val (.long x4), .second, .val (.int x5), .val (.long y0), .second, .unset, .unset, .unset, .unset, .unset, .unset, .unset, .unset, .unset, .unset, .unset, .unset, .unset, .unset]) rfl k) ?_
    have J27_2 : ∀ (y1 : Int64), Jvm.RoadKit.Ends p e below (EndN s room_1 (Q_rm0 Z x0 x1 x2 x3 x4 x5 ca cl h0 n0)) (s₁.setTop (mkF m 27 #[.val (.long x0), .second, .val (.long x1), .second, .val (.long x2), .second, .val (.long x3), .second, .val (.long x4), .second, .val (.int x5), .val (.long y0), .second, .unset, .unset, .unset, .unset, .unset, .unset, .unset, .unset, .unset, .unset, .unset, .unset, .unset, .unset] [(.long y1)])) := by
      intro y1
      refine Ends.pre (T' := s₁.setTop (mkF m 29 #[.val (.long x0), .second, .val (.long x1), .second, .val (.long x2), .second, .val (.long x3), .second, .val (.long x4), .second, .val (.int x5), .val (.long y0), .second, .val (.long y1), .second, .unset, .unset, .unset, .unset, .unset, .unset, .unset, .unset, .unset, .unset, .unset, .unset] [])) (fun t k => XS.lstore (g := (mkF m 27 #[.val (.long x0), .second, .val (.long x1), .second, .val (.long x2), .second, .val (.long x3), .second, .val (.long x4), .second, .val (.int x5), .val (.long y0), .second, .unset, .unset, .unset, .unset, .unset, .unset, .unset, .unset, .unset, .unset, .unset, .unset, .unset, .unset] [(.long y1)])) X0.here hx rfl (hb hby at_27) rfl (l' := #[.val (.long x0), .second, .val (.long x1), .second, .val (.long x2), .second, .val (.long x3), .second, .val (.long x4), .second, .val (.int x5), .val (.long y0), .second, .val (.long y1), .second, .unset, .unset, .unset, .unset, .unset, .unset, .unset, .unset, .unset, .unset, .unset, .unset]) rfl k) ?_
      have J43_3 : ∀ (y2 : Int64), Jvm.RoadKit.Ends p e below (EndN s room_1 (Q_rm0 Z x0 x1 x2 x3 x4 x5 ca cl h0 n0)) (s₁.setTop (mkF m 43 #[.val (.long x0), .second, .val (.long x1), .second, .val (.long x2), .second, .val (.long x3), .second, .val (.long x4), .second, .val (.int x5), .val (.long y0), .second, .val (.long y1), .second, .unset, .unset, .unset, .unset, .unset, .unset, .unset, .unset, .unset, .unset, .unset, .unset] [(.long y2)])) := by
        intro y2
        refine Ends.pre (T' := s₁.setTop (mkF m 45 #[.val (.long x0), .second, .val (.long x1), .second, .val (.long x2), .second, .val (.long x3), .second, .val (.long x4), .second, .val (.int x5), .val (.long y0), .second, .val (.long y1), .second, .val (.long y2), .second, .unset, .unset, .unset, .unset, .unset, .unset, .unset, .unset, .unset, .unset] [])) (fun t k => XS.lstore (g := (mkF m 43 #[.val (.long x0), .second, .val (.long x1), .second, .val (.long x2), .second, .val (.long x3), .second, .val (.long x4), .second, .val (.int x5), .val (.long y0), .second, .val (.long y1), .second, .unset, .unset, .unset, .unset, .unset, .unset, .unset, .unset, .unset, .unset, .unset, .unset] [(.long y2)])) X0.here hx rfl (hb hby at_43) rfl (l' := #[.val (.long x0), .second, .val (.long x1), .second, .val (.long x2), .second, .val (.long x3), .second, .val (.long x4), .second, .val (.int x5), .val (.long y0), .second, .val (.long y1), .second, .val (.long y2), .second, .unset, .unset, .unset, .unset, .unset, .unset, .unset, .unset, .unset, .unset]) rfl k) ?_
        have J60_4 : ∀ (y3 : Int64), Jvm.RoadKit.Ends p e below (EndN s room_1 (Q_rm0 Z x0 x1 x2 x3 x4 x5 ca cl h0 n0)) (s₁.setTop (mkF m 60 #[.val (.long x0), .second, .val (.long x1), .second, .val (.long x2), .second, .val (.long x3), .second, .val (.long x4), .second, .val (.int x5), .val (.long y0), .second, .val (.long y1), .second, .val (.long y2), .second, .unset, .unset, .unset, .unset, .unset, .unset, .unset, .unset, .unset, .unset] [(.long y3)])) := by
          intro y3
          refine Ends.pre (T' := s₁.setTop (mkF m 62 #[.val (.long x0), .second, .val (.long x1), .second, .val (.long x2), .second, .val (.long x3), .second, .val (.long x4), .second, .val (.int x5), .val (.long y0), .second, .val (.long y1), .second, .val (.long y2), .second, .val (.long y3), .second, .unset, .unset, .unset, .unset, .unset, .unset, .unset, .unset] [])) (fun t k => XS.lstore (g := (mkF m 60 #[.val (.long x0), .second, .val (.long x1), .second, .val (.long x2), .second, .val (.long x3), .second, .val (.long x4), .second, .val (.int x5), .val (.long y0), .second, .val (.long y1), .second, .val (.long y2), .second, .unset, .unset, .unset, .unset, .unset, .unset, .unset, .unset, .unset, .unset] [(.long y3)])) X0.here hx rfl (hb hby at_60) rfl (l' := #[.val (.long x0), .second, .val (.long x1), .second, .val (.long x2), .second, .val (.long x3), .second, .val (.long x4), .second, .val (.int x5), .val (.long y0), .second, .val (.long y1), .second, .val (.long y2), .second, .val (.long y3), .second, .unset, .unset, .unset, .unset, .unset, .unset, .unset, .unset]) rfl k) ?_
          have J76_5 : ∀ (y4 : Int64), Jvm.RoadKit.Ends p e below (EndN s room_1 (Q_rm0 Z x0 x1 x2 x3 x4 x5 ca cl h0 n0)) (s₁.setTop (mkF m 76 #[.val (.long x0), .second, .val (.long x1), .second, .val (.long x2), .second, .val (.long x3), .second, .val (.long x4), .second, .val (.int x5), .val (.long y0), .second, .val (.long y1), .second, .val (.long y2), .second, .val (.long y3), .second, .unset, .unset, .unset, .unset, .unset, .unset, .unset, .unset] [(.long y4)])) := by
            intro y4
            refine Ends.pre (T' := s₁.setTop (mkF m 78 #[.val (.long x0), .second, .val (.long x1), .second, .val (.long x2), .second, .val (.long x3), .second, .val (.long x4), .second, .val (.int x5), .val (.long y0), .second, .val (.long y1), .second, .val (.long y2), .second, .val (.long y3), .second, .val (.long y4), .second, .unset, .unset, .unset, .unset, .unset, .unset] [])) (fun t k => XS.lstore (g := (mkF m 76 #[.val (.long x0), .second, .val (.long x1), .second, .val (.long x2), .second, .val (.long x3), .second, .val (.long x4), .second, .val (.int x5), .val (.long y0), .second, .val (.long y1), .second, .val (.long y2), .second, .val (.long y3), .second, .unset, .unset, .unset, .unset, .unset, .unset, .unset, .unset] [(.long y4)])) X0.here hx rfl (hb hby at_76) rfl (l' := #[.val (.long x0), .second, .val (.long x1), .second, .val (.long x2), .second, .val (.long x3), .second, .val (.long x4), .second, .val (.int x5), .val (.long y0), .second, .val (.long y1), .second, .val (.long y2), .second, .val (.long y3), .second, .val (.long y4), .second, .unset, .unset, .unset, .unset, .unset, .unset]) rfl k) ?_
            obtain ⟨T6, h6, X6, e6, E6, A6, D6, -, st6⟩ := newO X0 hx hZ hown (hw _ (List.mem_of_getElem? (i := 0) rfl)) (hw _ (List.mem_of_getElem? (i := 1) rfl)) (hw _ (List.mem_of_getElem? (i := 2) rfl)) e0 (g := (mkF m 78 #[.val (.long x0), .second, .val (.long x1), .second, .val (.long x2), .second, .val (.long x3), .second, .val (.long x4), .second, .val (.int x5), .val (.long y0), .second, .val (.long y1), .second, .val (.long y2), .second, .val (.long y3), .second, .val (.long y4), .second, .unset, .unset, .unset, .unset, .unset, .unset] [])) rfl (hb hby at_78) (by decide) (by decide)
            obtain ⟨b6, g6⟩ : ∃ z, z = h0.size := ⟨_, rfl⟩
            rw [← g6] at A6 D6 st6
            have ge_b6 : n0 ≤ b6 := Nat.le_trans Z0 (Nat.le_of_eq g6.symm)
            have sz_b6 : h0.size ≤ b6 := Nat.le_trans (Keep.refl h0 []).1 (Nat.le_of_eq g6.symm)
            have K6 : Keep h0 h6 [] := (Keep.refl h0 []).ext E6
            have Fd6_waiting : Fld Z h6 b6 "com/example/kept_backlog/keptbacklog/QueueStats" "waiting" "J" (.long (0 : Int64)) := D6 (Or.inr (hw _ (List.mem_of_getElem? (i := 10) rfl))) (ty := .long) (by decide)
            have Fd6_delayed : Fld Z h6 b6 "com/example/kept_backlog/keptbacklog/QueueStats" "delayed" "J" (.long (0 : Int64)) := D6 (Or.inr (hw _ (List.mem_of_getElem? (i := 12) rfl))) (ty := .long) (by decide)
            have Fd6_leased : Fld Z h6 b6 "com/example/kept_backlog/keptbacklog/QueueStats" "leased" "J" (.long (0 : Int64)) := D6 (Or.inr (hw _ (List.mem_of_getElem? (i := 14) rfl))) (ty := .long) (by decide)
            have Fd6_dead : Fld Z h6 b6 "com/example/kept_backlog/keptbacklog/QueueStats" "dead" "J" (.long (0 : Int64)) := D6 (Or.inr (hw _ (List.mem_of_getElem? (i := 16) rfl))) (ty := .long) (by decide)
            have Fd6_completed : Fld Z h6 b6 "com/example/kept_backlog/keptbacklog/QueueStats" "completed" "J" (.long (0 : Int64)) := D6 (Or.inr (hw _ (List.mem_of_getElem? (i := 18) rfl))) (ty := .long) (by decide)
            refine Ends.pre (T' := T6.setTop (mkF m 81 #[.val (.long x0), .second, .val (.long x1), .second, .val (.long x2), .second, .val (.long x3), .second, .val (.long x4), .second, .val (.int x5), .val (.long y0), .second, .val (.long y1), .second, .val (.long y2), .second, .val (.long y3), .second, .val (.long y4), .second, .unset, .unset, .unset, .unset, .unset, .unset] [(.ref b6)])) (fun t k => st6 _ k) ?_
            refine Ends.pre (T' := T6.setTop (mkF m 82 #[.val (.long x0), .second, .val (.long x1), .second, .val (.long x2), .second, .val (.long x3), .second, .val (.long x4), .second, .val (.int x5), .val (.long y0), .second, .val (.long y1), .second, .val (.long y2), .second, .val (.long y3), .second, .val (.long y4), .second, .unset, .unset, .unset, .unset, .unset, .unset] [(.ref b6), (.ref b6)])) (fun t k => XS.dup X6.here hx rfl (hb hby at_81) rfl rfl k) ?_
            refine Ends.pre (T' := T6.setTop (mkF m 83 #[.val (.long x0), .second, .val (.long x1), .second, .val (.long x2), .second, .val (.long x3), .second, .val (.long x4), .second, .val (.int x5), .val (.long y0), .second, .val (.long y1), .second, .val (.long y2), .second, .val (.long y3), .second, .val (.long y4), .second, .unset, .unset, .unset, .unset, .unset, .unset] [(.long x0), (.ref b6), (.ref b6)])) (fun t k => XS.lloadN X6.here hx rfl (hb hby at_82) rfl k) ?_
            refine Ends.pre (T' := T6.setTop (mkF m 84 #[.val (.long x0), .second, .val (.long x1), .second, .val (.long x2), .second, .val (.long x3), .second, .val (.long x4), .second, .val (.int x5), .val (.long y0), .second, .val (.long y1), .second, .val (.long y2), .second, .val (.long y3), .second, .val (.long y4), .second, .unset, .unset, .unset, .unset, .unset, .unset] [(.long x1), (.long x0), (.ref b6), (.ref b6)])) (fun t k => XS.lloadN X6.here hx rfl (hb hby at_83) rfl k) ?_
            refine Ends.pre (T' := T6.setTop (mkF m 86 #[.val (.long x0), .second, .val (.long x1), .second, .val (.long x2), .second, .val (.long x3), .second, .val (.long x4), .second, .val (.int x5), .val (.long y0), .second, .val (.long y1), .second, .val (.long y2), .second, .val (.long y3), .second, .val (.long y4), .second, .unset, .unset, .unset, .unset, .unset, .unset] [(.long x2), (.long x1), (.long x0), (.ref b6), (.ref b6)])) (fun t k => XS.lload X6.here hx rfl (hb hby at_84) rfl k) ?_
            refine Ends.pre (T' := T6.setTop (mkF m 88 #[.val (.long x0), .second, .val (.long x1), .second, .val (.long x2), .second, .val (.long x3), .second, .val (.long x4), .second, .val (.int x5), .val (.long y0), .second, .val (.long y1), .second, .val (.long y2), .second, .val (.long y3), .second, .val (.long y4), .second, .unset, .unset, .unset, .unset, .unset, .unset] [(.long x3), (.long x2), (.long x1), (.long x0), (.ref b6), (.ref b6)])) (fun t k => XS.lload X6.here hx rfl (hb hby at_86) rfl k) ?_
            refine Ends.pre (T' := T6.setTop (mkF m 90 #[.val (.long x0), .second, .val (.long x1), .second, .val (.long x2), .second, .val (.long x3), .second, .val (.long x4), .second, .val (.int x5), .val (.long y0), .second, .val (.long y1), .second, .val (.long y2), .second, .val (.long y3), .second, .val (.long y4), .second, .unset, .unset, .unset, .unset, .unset, .unset] [(.long x4), (.long x3), (.long x2), (.long x1), (.long x0), (.ref b6), (.ref b6)])) (fun t k => XS.lload X6.here hx rfl (hb hby at_88) rfl k) ?_
            obtain ⟨_, _, ⟨T7, L7, k7, n7⟩, -, X7, ⟨Lc7, hQ7, l7, y7, z7⟩, st7⟩ := X6.specialBack hx (y := (⟨"com/example/kept_backlog/keptbacklog/QueueStats", "<init>", "(JJJJJ)V"⟩ : MethodName)) rfl hown (mvT hZ (hw _ (List.mem_of_getElem? (i := 3) rfl))) (mvT hZ (hw _ (List.mem_of_getElem? (i := 4) rfl))) (mvT hZ (hw _ (List.mem_of_getElem? (i := 5) rfl))) (by decide) (backOf (W := 1) (rm1 l Z a0 hw [] b6 x0 x1 x2 x3 x4 h6 n0 (Nat.le_trans Z0 E6.1) A6 Fd6_waiting Fd6_delayed Fd6_leased Fd6_dead Fd6_completed ge_b6) hZ (hw _ (List.mem_of_getElem? (i := 5) rfl)) (hw _ (List.mem_of_getElem? (i := 2) rfl)) (by decide) (by decide)) (g := (mkF m 90 #[.val (.long x0), .second, .val (.long x1), .second, .val (.long x2), .second, .val (.long x3), .second, .val (.long x4), .second, .val (.int x5), .val (.long y0), .second, .val (.long y1), .second, .val (.long y2), .second, .val (.long y3), .second, .val (.long y4), .second, .unset, .unset, .unset, .unset, .unset, .unset] [(.long x4), (.long x3), (.long x2), (.long x1), (.long x0), (.ref b6), (.ref b6)])) rfl (by rw [hml]; rfl) (Steps.refl _) (a := b6) (argsL := [(.long x0), (.long x1), (.long x2), (.long x3), (.long x4)]) (rest := [(.ref b6)]) (lenOf pd_2 rfl) rfl (by show 2 * 0 + _ ≤ _; exact Nat.le_of_eq rfl) (hb hby at_90) (fun _ _ => ⟨rfl, e6, (by decide : 1 + 0 ≤ _), (by decide : 5 + 0 ≤ _)⟩)
            dsimp only [Pt.U, Pt.locs, Pt.cells, Pt.slots] at X7 l7 y7 z7 st7 hQ7
            subst l7 y7 z7
            obtain ⟨rfl, N7q, Kc7, Ec7, Fc7_0, Fc7_1, Fc7_2, Fc7_3, Fc7_4⟩ := hQ7
            have N7 := Fr.app N0 N7q
            have K7 : Keep h0 T7.heap [] := K6.trans Kc7 (allS (Or.inr sz_b6) all0)
            refine Ends.pre (T' := T7.setTop (mkF m 93 #[.val (.long x0), .second, .val (.long x1), .second, .val (.long x2), .second, .val (.long x3), .second, .val (.long x4), .second, .val (.int x5), .val (.long y0), .second, .val (.long y1), .second, .val (.long y2), .second, .val (.long y3), .second, .val (.long y4), .second, .unset, .unset, .unset, .unset, .unset, .unset] [(.ref b6)])) (fun t k => st7.trans k) ?_
            refine Ends.pre (T' := T7.setTop (mkF m 95 #[.val (.long x0), .second, .val (.long x1), .second, .val (.long x2), .second, .val (.long x3), .second, .val (.long x4), .second, .val (.int x5), .val (.long y0), .second, .val (.long y1), .second, .val (.long y2), .second, .val (.long y3), .second, .val (.long y4), .second, .val (.ref b6), .unset, .unset, .unset, .unset, .unset] [])) (fun t k => XS.astore (g := (mkF m 93 #[.val (.long x0), .second, .val (.long x1), .second, .val (.long x2), .second, .val (.long x3), .second, .val (.long x4), .second, .val (.int x5), .val (.long y0), .second, .val (.long y1), .second, .val (.long y2), .second, .val (.long y3), .second, .val (.long y4), .second, .unset, .unset, .unset, .unset, .unset, .unset] [(.ref b6)])) X7.here hx rfl (hb hby at_93) rfl rfl (l' := #[.val (.long x0), .second, .val (.long x1), .second, .val (.long x2), .second, .val (.long x3), .second, .val (.long x4), .second, .val (.int x5), .val (.long y0), .second, .val (.long y1), .second, .val (.long y2), .second, .val (.long y3), .second, .val (.long y4), .second, .val (.ref b6), .unset, .unset, .unset, .unset, .unset]) rfl k) ?_
            obtain ⟨T8, h8, X8, e8, E8, A8, D8, -, st8⟩ := newO X7 hx hZ hown (hw _ (List.mem_of_getElem? (i := 0) rfl)) (hw _ (List.mem_of_getElem? (i := 1) rfl)) (hw _ (List.mem_of_getElem? (i := 2) rfl)) rfl (g := (mkF m 95 #[.val (.long x0), .second, .val (.long x1), .second, .val (.long x2), .second, .val (.long x3), .second, .val (.long x4), .second, .val (.int x5), .val (.long y0), .second, .val (.long y1), .second, .val (.long y2), .second, .val (.long y3), .second, .val (.long y4), .second, .val (.ref b6), .unset, .unset, .unset, .unset, .unset] [])) rfl (hb hby at_95) (by decide) (by decide)
            obtain ⟨b8, g8⟩ : ∃ z, z = T7.heap.size := ⟨_, rfl⟩
            rw [← g8] at A8 D8 st8
            have ge_b8 : n0 ≤ b8 := Nat.le_trans (Nat.le_trans (Nat.le_trans Z0 E6.1) Kc7.1) (Nat.le_of_eq g8.symm)
            have sz_b8 : h0.size ≤ b8 := Nat.le_trans K7.1 (Nat.le_of_eq g8.symm)
            have K8 : Keep h0 h8 [] := K7.ext E8
            have Fd8_waiting : Fld Z h8 b8 "com/example/kept_backlog/keptbacklog/QueueStats" "waiting" "J" (.long (0 : Int64)) := D8 (Or.inr (hw _ (List.mem_of_getElem? (i := 10) rfl))) (ty := .long) (by decide)
            have Fd8_delayed : Fld Z h8 b8 "com/example/kept_backlog/keptbacklog/QueueStats" "delayed" "J" (.long (0 : Int64)) := D8 (Or.inr (hw _ (List.mem_of_getElem? (i := 12) rfl))) (ty := .long) (by decide)
            have Fd8_leased : Fld Z h8 b8 "com/example/kept_backlog/keptbacklog/QueueStats" "leased" "J" (.long (0 : Int64)) := D8 (Or.inr (hw _ (List.mem_of_getElem? (i := 14) rfl))) (ty := .long) (by decide)
            have Fd8_dead : Fld Z h8 b8 "com/example/kept_backlog/keptbacklog/QueueStats" "dead" "J" (.long (0 : Int64)) := D8 (Or.inr (hw _ (List.mem_of_getElem? (i := 16) rfl))) (ty := .long) (by decide)
            have Fd8_completed : Fld Z h8 b8 "com/example/kept_backlog/keptbacklog/QueueStats" "completed" "J" (.long (0 : Int64)) := D8 (Or.inr (hw _ (List.mem_of_getElem? (i := 18) rfl))) (ty := .long) (by decide)
            refine Ends.pre (T' := T8.setTop (mkF m 98 #[.val (.long x0), .second, .val (.long x1), .second, .val (.long x2), .second, .val (.long x3), .second, .val (.long x4), .second, .val (.int x5), .val (.long y0), .second, .val (.long y1), .second, .val (.long y2), .second, .val (.long y3), .second, .val (.long y4), .second, .val (.ref b6), .unset, .unset, .unset, .unset, .unset] [(.ref b8)])) (fun t k => st8 _ k) ?_
            refine Ends.pre (T' := T8.setTop (mkF m 99 #[.val (.long x0), .second, .val (.long x1), .second, .val (.long x2), .second, .val (.long x3), .second, .val (.long x4), .second, .val (.int x5), .val (.long y0), .second, .val (.long y1), .second, .val (.long y2), .second, .val (.long y3), .second, .val (.long y4), .second, .val (.ref b6), .unset, .unset, .unset, .unset, .unset] [(.ref b8), (.ref b8)])) (fun t k => XS.dup X8.here hx rfl (hb hby at_98) rfl rfl k) ?_
            refine Ends.pre (T' := T8.setTop (mkF m 101 #[.val (.long x0), .second, .val (.long x1), .second, .val (.long x2), .second, .val (.long x3), .second, .val (.long x4), .second, .val (.int x5), .val (.long y0), .second, .val (.long y1), .second, .val (.long y2), .second, .val (.long y3), .second, .val (.long y4), .second, .val (.ref b6), .unset, .unset, .unset, .unset, .unset] [(.long y0), (.ref b8), (.ref b8)])) (fun t k => XS.lload X8.here hx rfl (hb hby at_99) rfl k) ?_
            refine Ends.pre (T' := T8.setTop (mkF m 103 #[.val (.long x0), .second, .val (.long x1), .second, .val (.long x2), .second, .val (.long x3), .second, .val (.long x4), .second, .val (.int x5), .val (.long y0), .second, .val (.long y1), .second, .val (.long y2), .second, .val (.long y3), .second, .val (.long y4), .second, .val (.ref b6), .unset, .unset, .unset, .unset, .unset] [(.long y1), (.long y0), (.ref b8), (.ref b8)])) (fun t k => XS.lload X8.here hx rfl (hb hby at_101) rfl k) ?_
            refine Ends.pre (T' := T8.setTop (mkF m 105 #[.val (.long x0), .second, .val (.long x1), .second, .val (.long x2), .second, .val (.long x3), .second, .val (.long x4), .second, .val (.int x5), .val (.long y0), .second, .val (.long y1), .second, .val (.long y2), .second, .val (.long y3), .second, .val (.long y4), .second, .val (.ref b6), .unset, .unset, .unset, .unset, .unset] [(.long y2), (.long y1), (.long y0), (.ref b8), (.ref b8)])) (fun t k => XS.lload X8.here hx rfl (hb hby at_103) rfl k) ?_
            refine Ends.pre (T' := T8.setTop (mkF m 107 #[.val (.long x0), .second, .val (.long x1), .second, .val (.long x2), .second, .val (.long x3), .second, .val (.long x4), .second, .val (.int x5), .val (.long y0), .second, .val (.long y1), .second, .val (.long y2), .second, .val (.long y3), .second, .val (.long y4), .second, .val (.ref b6), .unset, .unset, .unset, .unset, .unset] [(.long y3), (.long y2), (.long y1), (.long y0), (.ref b8), (.ref b8)])) (fun t k => XS.lload X8.here hx rfl (hb hby at_105) rfl k) ?_
            refine Ends.pre (T' := T8.setTop (mkF m 109 #[.val (.long x0), .second, .val (.long x1), .second, .val (.long x2), .second, .val (.long x3), .second, .val (.long x4), .second, .val (.int x5), .val (.long y0), .second, .val (.long y1), .second, .val (.long y2), .second, .val (.long y3), .second, .val (.long y4), .second, .val (.ref b6), .unset, .unset, .unset, .unset, .unset] [(.long y4), (.long y3), (.long y2), (.long y1), (.long y0), (.ref b8), (.ref b8)])) (fun t k => XS.lload X8.here hx rfl (hb hby at_107) rfl k) ?_
            obtain ⟨_, _, ⟨T9, L9, k9, n9⟩, -, X9, ⟨Lc9, hQ9, l9, y9, z9⟩, st9⟩ := X8.specialBack hx (y := (⟨"com/example/kept_backlog/keptbacklog/QueueStats", "<init>", "(JJJJJ)V"⟩ : MethodName)) rfl hown (mvT hZ (hw _ (List.mem_of_getElem? (i := 3) rfl))) (mvT hZ (hw _ (List.mem_of_getElem? (i := 4) rfl))) (mvT hZ (hw _ (List.mem_of_getElem? (i := 5) rfl))) (by decide) (backOf (W := 1) (rm1 l Z a0 hw [] b8 y0 y1 y2 y3 y4 h8 n0 (Nat.le_trans (Nat.le_trans (Nat.le_trans Z0 E6.1) Kc7.1) E8.1) A8 Fd8_waiting Fd8_delayed Fd8_leased Fd8_dead Fd8_completed ge_b8) hZ (hw _ (List.mem_of_getElem? (i := 5) rfl)) (hw _ (List.mem_of_getElem? (i := 2) rfl)) (by decide) (by decide)) (g := (mkF m 109 #[.val (.long x0), .second, .val (.long x1), .second, .val (.long x2), .second, .val (.long x3), .second, .val (.long x4), .second, .val (.int x5), .val (.long y0), .second, .val (.long y1), .second, .val (.long y2), .second, .val (.long y3), .second, .val (.long y4), .second, .val (.ref b6), .unset, .unset, .unset, .unset, .unset] [(.long y4), (.long y3), (.long y2), (.long y1), (.long y0), (.ref b8), (.ref b8)])) rfl (by rw [hml]; rfl) (Steps.refl _) (a := b8) (argsL := [(.long y0), (.long y1), (.long y2), (.long y3), (.long y4)]) (rest := [(.ref b8)]) (lenOf pd_2 rfl) rfl (by show 2 * 0 + _ ≤ _; exact Nat.le_of_eq rfl) (hb hby at_109) (fun _ _ => ⟨rfl, e8, (by decide : 2 + 0 ≤ _), (by decide : 10 + 0 ≤ _)⟩)
            dsimp only [Pt.U, Pt.locs, Pt.cells, Pt.slots] at X9 l9 y9 z9 st9 hQ9
            subst l9 y9 z9
            obtain ⟨rfl, N9q, Kc9, Ec9, Fc9_0, Fc9_1, Fc9_2, Fc9_3, Fc9_4⟩ := hQ9
            have N9 := Fr.app N7 N9q
            have K9 : Keep h0 T9.heap [] := K8.trans Kc9 (allS (Or.inr sz_b8) all0)
            refine Ends.pre (T' := T9.setTop (mkF m 112 #[.val (.long x0), .second, .val (.long x1), .second, .val (.long x2), .second, .val (.long x3), .second, .val (.long x4), .second, .val (.int x5), .val (.long y0), .second, .val (.long y1), .second, .val (.long y2), .second, .val (.long y3), .second, .val (.long y4), .second, .val (.ref b6), .unset, .unset, .unset, .unset, .unset] [(.ref b8)])) (fun t k => st9.trans k) ?_
            refine Ends.pre (T' := T9.setTop (mkF m 114 #[.val (.long x0), .second, .val (.long x1), .second, .val (.long x2), .second, .val (.long x3), .second, .val (.long x4), .second, .val (.int x5), .val (.long y0), .second, .val (.long y1), .second, .val (.long y2), .second, .val (.long y3), .second, .val (.long y4), .second, .val (.ref b6), .val (.ref b8), .unset, .unset, .unset, .unset] [])) (fun t k => XS.astore (g := (mkF m 112 #[.val (.long x0), .second, .val (.long x1), .second, .val (.long x2), .second, .val (.long x3), .second, .val (.long x4), .second, .val (.int x5), .val (.long y0), .second, .val (.long y1), .second, .val (.long y2), .second, .val (.long y3), .second, .val (.long y4), .second, .val (.ref b6), .unset, .unset, .unset, .unset, .unset] [(.ref b8)])) X9.here hx rfl (hb hby at_112) rfl rfl (l' := #[.val (.long x0), .second, .val (.long x1), .second, .val (.long x2), .second, .val (.long x3), .second, .val (.long x4), .second, .val (.int x5), .val (.long y0), .second, .val (.long y1), .second, .val (.long y2), .second, .val (.long y3), .second, .val (.long y4), .second, .val (.ref b6), .val (.ref b8), .unset, .unset, .unset, .unset]) rfl k) ?_
            refine Ends.pre (T' := T9.setTop (mkF m 116 #[.val (.long x0), .second, .val (.long x1), .second, .val (.long x2), .second, .val (.long x3), .second, .val (.long x4), .second, .val (.int x5), .val (.long y0), .second, .val (.long y1), .second, .val (.long y2), .second, .val (.long y3), .second, .val (.long y4), .second, .val (.ref b6), .val (.ref b8), .unset, .unset, .unset, .unset] [(.int x5)])) (fun t k => XS.iload X9.here hx rfl (hb hby at_114) rfl k) ?_
            refine Ends.pre (T' := T9.setTop (mkF m 117 #[.val (.long x0), .second, .val (.long x1), .second, .val (.long x2), .second, .val (.long x3), .second, .val (.long x4), .second, .val (.int x5), .val (.long y0), .second, .val (.long y1), .second, .val (.long y2), .second, .val (.long y3), .second, .val (.long y4), .second, .val (.ref b6), .val (.ref b8), .unset, .unset, .unset, .unset] [(.int (5 : Int32)), (.int x5)])) (fun t k => XS.iconst X9.here hx rfl (hb hby at_116) k) ?_
            refine Ends.pre (T' := T9.setTop (mkF m 118 #[.val (.long x0), .second, .val (.long x1), .second, .val (.long x2), .second, .val (.long x3), .second, .val (.long x4), .second, .val (.int x5), .val (.long y0), .second, .val (.long y1), .second, .val (.long y2), .second, .val (.long y3), .second, .val (.long y4), .second, .val (.ref b6), .val (.ref b8), .unset, .unset, .unset, .unset] [(.int ((x5.toUInt32 >>> ((5 : Int32) &&& 31).toUInt32).toInt32))])) (fun t k => XS.iushr X9.here hx rfl (hb hby at_117) rfl k) ?_
            refine Ends.pre (T' := T9.setTop (mkF m 119 #[.val (.long x0), .second, .val (.long x1), .second, .val (.long x2), .second, .val (.long x3), .second, .val (.long x4), .second, .val (.int x5), .val (.long y0), .second, .val (.long y1), .second, .val (.long y2), .second, .val (.long y3), .second, .val (.long y4), .second, .val (.ref b6), .val (.ref b8), .unset, .unset, .unset, .unset] [(.int (3 : Int32)), (.int ((x5.toUInt32 >>> ((5 : Int32) &&& 31).toUInt32).toInt32))])) (fun t k => XS.iconst X9.here hx rfl (hb hby at_118) k) ?_
            refine Ends.pre (T' := T9.setTop (mkF m 120 #[.val (.long x0), .second, .val (.long x1), .second, .val (.long x2), .second, .val (.long x3), .second, .val (.long x4), .second, .val (.int x5), .val (.long y0), .second, .val (.long y1), .second, .val (.long y2), .second, .val (.long y3), .second, .val (.long y4), .second, .val (.ref b6), .val (.ref b8), .unset, .unset, .unset, .unset] [(.int (((x5.toUInt32 >>> ((5 : Int32) &&& 31).toUInt32).toInt32) &&& (3 : Int32)))])) (fun t k => XS.iand X9.here hx rfl (hb hby at_119) rfl k) ?_
            refine Ends.pre (T' := T9.setTop (mkF m 122 #[.val (.long x0), .second, .val (.long x1), .second, .val (.long x2), .second, .val (.long x3), .second, .val (.long x4), .second, .val (.int x5), .val (.long y0), .second, .val (.long y1), .second, .val (.long y2), .second, .val (.long y3), .second, .val (.long y4), .second, .val (.ref b6), .val (.ref b8), .val (.int (((x5.toUInt32 >>> ((5 : Int32) &&& 31).toUInt32).toInt32) &&& (3 : Int32))), .unset, .unset, .unset] [])) (fun t k => XS.istore (g := (mkF m 120 #[.val (.long x0), .second, .val (.long x1), .second, .val (.long x2), .second, .val (.long x3), .second, .val (.long x4), .second, .val (.int x5), .val (.long y0), .second, .val (.long y1), .second, .val (.long y2), .second, .val (.long y3), .second, .val (.long y4), .second, .val (.ref b6), .val (.ref b8), .unset, .unset, .unset, .unset] [(.int (((x5.toUInt32 >>> ((5 : Int32) &&& 31).toUInt32).toInt32) &&& (3 : Int32)))])) X9.here hx rfl (hb hby at_120) rfl (l' := #[.val (.long x0), .second, .val (.long x1), .second, .val (.long x2), .second, .val (.long x3), .second, .val (.long x4), .second, .val (.int x5), .val (.long y0), .second, .val (.long y1), .second, .val (.long y2), .second, .val (.long y3), .second, .val (.long y4), .second, .val (.ref b6), .val (.ref b8), .val (.int (((x5.toUInt32 >>> ((5 : Int32) &&& 31).toUInt32).toInt32) &&& (3 : Int32))), .unset, .unset, .unset]) rfl k) ?_
            generalize hv_kk : (((x5.toUInt32 >>> ((5 : Int32) &&& 31).toUInt32).toInt32) &&& (3 : Int32)) = kk
            refine Ends.pre (T' := T9.setTop (mkF m 124 #[.val (.long x0), .second, .val (.long x1), .second, .val (.long x2), .second, .val (.long x3), .second, .val (.long x4), .second, .val (.int x5), .val (.long y0), .second, .val (.long y1), .second, .val (.long y2), .second, .val (.long y3), .second, .val (.long y4), .second, .val (.ref b6), .val (.ref b8), .val (.int kk), .unset, .unset, .unset] [(.int kk)])) (fun t k => XS.iload X9.here hx rfl (hb hby at_122) rfl k) ?_
            by_cases hc124_10 : kk = 0
            · refine Ends.pre (T' := T9.setTop (mkF m 127 #[.val (.long x0), .second, .val (.long x1), .second, .val (.long x2), .second, .val (.long x3), .second, .val (.long x4), .second, .val (.int x5), .val (.long y0), .second, .val (.long y1), .second, .val (.long y2), .second, .val (.long y3), .second, .val (.long y4), .second, .val (.ref b6), .val (.ref b8), .val (.int kk), .unset, .unset, .unset] [])) (fun t k => XS.ifNo X9.here hx rfl (hb hby at_124) rfl (Jvm.Free.XT.i0_ne_f hc124_10) k) ?_
              refine Ends.pre (T' := T9.setTop (mkF m 129 #[.val (.long x0), .second, .val (.long x1), .second, .val (.long x2), .second, .val (.long x3), .second, .val (.long x4), .second, .val (.int x5), .val (.long y0), .second, .val (.long y1), .second, .val (.long y2), .second, .val (.long y3), .second, .val (.long y4), .second, .val (.ref b6), .val (.ref b8), .val (.int kk), .unset, .unset, .unset] [(.ref b8)])) (fun t k => XS.aload X9.here hx rfl (hb hby at_127) rfl rfl k) ?_
              refine Ends.pre (T' := T9.setTop (mkF m 131 #[.val (.long x0), .second, .val (.long x1), .second, .val (.long x2), .second, .val (.long x3), .second, .val (.long x4), .second, .val (.int x5), .val (.long y0), .second, .val (.long y1), .second, .val (.long y2), .second, .val (.long y3), .second, .val (.long y4), .second, .val (.ref b6), .val (.ref b8), .val (.int kk), .val (.ref b8), .unset, .unset] [])) (fun t k => XS.astore (g := (mkF m 129 #[.val (.long x0), .second, .val (.long x1), .second, .val (.long x2), .second, .val (.long x3), .second, .val (.long x4), .second, .val (.int x5), .val (.long y0), .second, .val (.long y1), .second, .val (.long y2), .second, .val (.long y3), .second, .val (.long y4), .second, .val (.ref b6), .val (.ref b8), .val (.int kk), .unset, .unset, .unset] [(.ref b8)])) X9.here hx rfl (hb hby at_129) rfl rfl (l' := #[.val (.long x0), .second, .val (.long x1), .second, .val (.long x2), .second, .val (.long x3), .second, .val (.long x4), .second, .val (.int x5), .val (.long y0), .second, .val (.long y1), .second, .val (.long y2), .second, .val (.long y3), .second, .val (.long y4), .second, .val (.ref b6), .val (.ref b8), .val (.int kk), .val (.ref b8), .unset, .unset]) rfl k) ?_
              refine Ends.pre (T' := T9.setTop (mkF m 133 #[.val (.long x0), .second, .val (.long x1), .second, .val (.long x2), .second, .val (.long x3), .second, .val (.long x4), .second, .val (.int x5), .val (.long y0), .second, .val (.long y1), .second, .val (.long y2), .second, .val (.long y3), .second, .val (.long y4), .second, .val (.ref b6), .val (.ref b8), .val (.int kk), .val (.ref b8), .unset, .unset] [(.long y0)])) (fun t k => XS.lload X9.here hx rfl (hb hby at_131) rfl k) ?_
              refine Ends.pre (T' := T9.setTop (mkF m 134 #[.val (.long x0), .second, .val (.long x1), .second, .val (.long x2), .second, .val (.long x3), .second, .val (.long x4), .second, .val (.int x5), .val (.long y0), .second, .val (.long y1), .second, .val (.long y2), .second, .val (.long y3), .second, .val (.long y4), .second, .val (.ref b6), .val (.ref b8), .val (.int kk), .val (.ref b8), .unset, .unset] [(.long x0), (.long y0)])) (fun t k => XS.lloadN X9.here hx rfl (hb hby at_133) rfl k) ?_
              refine Ends.pre (T' := T9.setTop (mkF m 135 #[.val (.long x0), .second, .val (.long x1), .second, .val (.long x2), .second, .val (.long x3), .second, .val (.long x4), .second, .val (.int x5), .val (.long y0), .second, .val (.long y1), .second, .val (.long y2), .second, .val (.long y3), .second, .val (.long y4), .second, .val (.ref b6), .val (.ref b8), .val (.int kk), .val (.ref b8), .unset, .unset] [(.int (lcmpW y0 x0))])) (fun t k => XS.lcmp X9.here hx rfl (hb hby at_134) rfl k) ?_
              by_cases hc135_11 : y0 = x0
              · refine Ends.pre (T' := T9.setTop (mkF m 138 #[.val (.long x0), .second, .val (.long x1), .second, .val (.long x2), .second, .val (.long x3), .second, .val (.long x4), .second, .val (.int x5), .val (.long y0), .second, .val (.long y1), .second, .val (.long y2), .second, .val (.long y3), .second, .val (.long y4), .second, .val (.ref b6), .val (.ref b8), .val (.int kk), .val (.ref b8), .unset, .unset] [])) (fun t k => XS.ifNo X9.here hx rfl (hb hby at_135) rfl (Jvm.Free.XT.i0_ne_f ((lw_eq _ _).mpr hc135_11)) k) ?_
                refine Ends.pre (T' := T9.setTop (mkF m 140 #[.val (.long x0), .second, .val (.long x1), .second, .val (.long x2), .second, .val (.long x3), .second, .val (.long x4), .second, .val (.int x5), .val (.long y0), .second, .val (.long y1), .second, .val (.long y2), .second, .val (.long y3), .second, .val (.long y4), .second, .val (.ref b6), .val (.ref b8), .val (.int kk), .val (.ref b8), .unset, .unset] [(.long y1)])) (fun t k => XS.lload X9.here hx rfl (hb hby at_138) rfl k) ?_
                refine Ends.pre (T' := T9.setTop (mkF m 141 #[.val (.long x0), .second, .val (.long x1), .second, .val (.long x2), .second, .val (.long x3), .second, .val (.long x4), .second, .val (.int x5), .val (.long y0), .second, .val (.long y1), .second, .val (.long y2), .second, .val (.long y3), .second, .val (.long y4), .second, .val (.ref b6), .val (.ref b8), .val (.int kk), .val (.ref b8), .unset, .unset] [(.long x1), (.long y1)])) (fun t k => XS.lloadN X9.here hx rfl (hb hby at_140) rfl k) ?_
                refine Ends.pre (T' := T9.setTop (mkF m 142 #[.val (.long x0), .second, .val (.long x1), .second, .val (.long x2), .second, .val (.long x3), .second, .val (.long x4), .second, .val (.int x5), .val (.long y0), .second, .val (.long y1), .second, .val (.long y2), .second, .val (.long y3), .second, .val (.long y4), .second, .val (.ref b6), .val (.ref b8), .val (.int kk), .val (.ref b8), .unset, .unset] [(.int (lcmpW y1 x1))])) (fun t k => XS.lcmp X9.here hx rfl (hb hby at_141) rfl k) ?_
                by_cases hc142_12 : y1 = x1
                · refine Ends.pre (T' := T9.setTop (mkF m 145 #[.val (.long x0), .second, .val (.long x1), .second, .val (.long x2), .second, .val (.long x3), .second, .val (.long x4), .second, .val (.int x5), .val (.long y0), .second, .val (.long y1), .second, .val (.long y2), .second, .val (.long y3), .second, .val (.long y4), .second, .val (.ref b6), .val (.ref b8), .val (.int kk), .val (.ref b8), .unset, .unset] [])) (fun t k => XS.ifNo X9.here hx rfl (hb hby at_142) rfl (Jvm.Free.XT.i0_ne_f ((lw_eq _ _).mpr hc142_12)) k) ?_
                  refine Ends.pre (T' := T9.setTop (mkF m 147 #[.val (.long x0), .second, .val (.long x1), .second, .val (.long x2), .second, .val (.long x3), .second, .val (.long x4), .second, .val (.int x5), .val (.long y0), .second, .val (.long y1), .second, .val (.long y2), .second, .val (.long y3), .second, .val (.long y4), .second, .val (.ref b6), .val (.ref b8), .val (.int kk), .val (.ref b8), .unset, .unset] [(.long y2)])) (fun t k => XS.lload X9.here hx rfl (hb hby at_145) rfl k) ?_
                  refine Ends.pre (T' := T9.setTop (mkF m 149 #[.val (.long x0), .second, .val (.long x1), .second, .val (.long x2), .second, .val (.long x3), .second, .val (.long x4), .second, .val (.int x5), .val (.long y0), .second, .val (.long y1), .second, .val (.long y2), .second, .val (.long y3), .second, .val (.long y4), .second, .val (.ref b6), .val (.ref b8), .val (.int kk), .val (.ref b8), .unset, .unset] [(.long x2), (.long y2)])) (fun t k => XS.lload X9.here hx rfl (hb hby at_147) rfl k) ?_
                  refine Ends.pre (T' := T9.setTop (mkF m 150 #[.val (.long x0), .second, .val (.long x1), .second, .val (.long x2), .second, .val (.long x3), .second, .val (.long x4), .second, .val (.int x5), .val (.long y0), .second, .val (.long y1), .second, .val (.long y2), .second, .val (.long y3), .second, .val (.long y4), .second, .val (.ref b6), .val (.ref b8), .val (.int kk), .val (.ref b8), .unset, .unset] [(.int (lcmpW y2 x2))])) (fun t k => XS.lcmp X9.here hx rfl (hb hby at_149) rfl k) ?_
                  by_cases hc150_13 : y2 = x2
                  · refine Ends.pre (T' := T9.setTop (mkF m 153 #[.val (.long x0), .second, .val (.long x1), .second, .val (.long x2), .second, .val (.long x3), .second, .val (.long x4), .second, .val (.int x5), .val (.long y0), .second, .val (.long y1), .second, .val (.long y2), .second, .val (.long y3), .second, .val (.long y4), .second, .val (.ref b6), .val (.ref b8), .val (.int kk), .val (.ref b8), .unset, .unset] [])) (fun t k => XS.ifNo X9.here hx rfl (hb hby at_150) rfl (Jvm.Free.XT.i0_ne_f ((lw_eq _ _).mpr hc150_13)) k) ?_
                    refine Ends.pre (T' := T9.setTop (mkF m 155 #[.val (.long x0), .second, .val (.long x1), .second, .val (.long x2), .second, .val (.long x3), .second, .val (.long x4), .second, .val (.int x5), .val (.long y0), .second, .val (.long y1), .second, .val (.long y2), .second, .val (.long y3), .second, .val (.long y4), .second, .val (.ref b6), .val (.ref b8), .val (.int kk), .val (.ref b8), .unset, .unset] [(.long y3)])) (fun t k => XS.lload X9.here hx rfl (hb hby at_153) rfl k) ?_
                    refine Ends.pre (T' := T9.setTop (mkF m 157 #[.val (.long x0), .second, .val (.long x1), .second, .val (.long x2), .second, .val (.long x3), .second, .val (.long x4), .second, .val (.int x5), .val (.long y0), .second, .val (.long y1), .second, .val (.long y2), .second, .val (.long y3), .second, .val (.long y4), .second, .val (.ref b6), .val (.ref b8), .val (.int kk), .val (.ref b8), .unset, .unset] [(.long x3), (.long y3)])) (fun t k => XS.lload X9.here hx rfl (hb hby at_155) rfl k) ?_
                    refine Ends.pre (T' := T9.setTop (mkF m 158 #[.val (.long x0), .second, .val (.long x1), .second, .val (.long x2), .second, .val (.long x3), .second, .val (.long x4), .second, .val (.int x5), .val (.long y0), .second, .val (.long y1), .second, .val (.long y2), .second, .val (.long y3), .second, .val (.long y4), .second, .val (.ref b6), .val (.ref b8), .val (.int kk), .val (.ref b8), .unset, .unset] [(.int (lcmpW y3 x3))])) (fun t k => XS.lcmp X9.here hx rfl (hb hby at_157) rfl k) ?_
                    by_cases hc158_14 : y3 = x3
                    · refine Ends.pre (T' := T9.setTop (mkF m 161 #[.val (.long x0), .second, .val (.long x1), .second, .val (.long x2), .second, .val (.long x3), .second, .val (.long x4), .second, .val (.int x5), .val (.long y0), .second, .val (.long y1), .second, .val (.long y2), .second, .val (.long y3), .second, .val (.long y4), .second, .val (.ref b6), .val (.ref b8), .val (.int kk), .val (.ref b8), .unset, .unset] [])) (fun t k => XS.ifNo X9.here hx rfl (hb hby at_158) rfl (Jvm.Free.XT.i0_ne_f ((lw_eq _ _).mpr hc158_14)) k) ?_
                      refine Ends.pre (T' := T9.setTop (mkF m 163 #[.val (.long x0), .second, .val (.long x1), .second, .val (.long x2), .second, .val (.long x3), .second, .val (.long x4), .second, .val (.int x5), .val (.long y0), .second, .val (.long y1), .second, .val (.long y2), .second, .val (.long y3), .second, .val (.long y4), .second, .val (.ref b6), .val (.ref b8), .val (.int kk), .val (.ref b8), .unset, .unset] [(.long y4)])) (fun t k => XS.lload X9.here hx rfl (hb hby at_161) rfl k) ?_
                      refine Ends.pre (T' := T9.setTop (mkF m 165 #[.val (.long x0), .second, .val (.long x1), .second, .val (.long x2), .second, .val (.long x3), .second, .val (.long x4), .second, .val (.int x5), .val (.long y0), .second, .val (.long y1), .second, .val (.long y2), .second, .val (.long y3), .second, .val (.long y4), .second, .val (.ref b6), .val (.ref b8), .val (.int kk), .val (.ref b8), .unset, .unset] [(.long x4), (.long y4)])) (fun t k => XS.lload X9.here hx rfl (hb hby at_163) rfl k) ?_
                      refine Ends.pre (T' := T9.setTop (mkF m 166 #[.val (.long x0), .second, .val (.long x1), .second, .val (.long x2), .second, .val (.long x3), .second, .val (.long x4), .second, .val (.int x5), .val (.long y0), .second, .val (.long y1), .second, .val (.long y2), .second, .val (.long y3), .second, .val (.long y4), .second, .val (.ref b6), .val (.ref b8), .val (.int kk), .val (.ref b8), .unset, .unset] [(.int (lcmpW y4 x4))])) (fun t k => XS.lcmp X9.here hx rfl (hb hby at_165) rfl k) ?_
                      by_cases hc166_15 : y4 = x4
                      · refine Ends.pre (T' := T9.setTop (mkF m 169 #[.val (.long x0), .second, .val (.long x1), .second, .val (.long x2), .second, .val (.long x3), .second, .val (.long x4), .second, .val (.int x5), .val (.long y0), .second, .val (.long y1), .second, .val (.long y2), .second, .val (.long y3), .second, .val (.long y4), .second, .val (.ref b6), .val (.ref b8), .val (.int kk), .val (.ref b8), .unset, .unset] [])) (fun t k => XS.ifNo X9.here hx rfl (hb hby at_166) rfl (Jvm.Free.XT.i0_ne_f ((lw_eq _ _).mpr hc166_15)) k) ?_
                        refine Ends.pre (T' := T9.setTop (mkF m 170 #[.val (.long x0), .second, .val (.long x1), .second, .val (.long x2), .second, .val (.long x3), .second, .val (.long x4), .second, .val (.int x5), .val (.long y0), .second, .val (.long y1), .second, .val (.long y2), .second, .val (.long y3), .second, .val (.long y4), .second, .val (.ref b6), .val (.ref b8), .val (.int kk), .val (.ref b8), .unset, .unset] [(.int (1 : Int32))])) (fun t k => XS.iconst X9.here hx rfl (hb hby at_169) k) ?_
                        refine Ends.pre (T' := T9.setTop (mkF m 174 #[.val (.long x0), .second, .val (.long x1), .second, .val (.long x2), .second, .val (.long x3), .second, .val (.long x4), .second, .val (.int x5), .val (.long y0), .second, .val (.long y1), .second, .val (.long y2), .second, .val (.long y3), .second, .val (.long y4), .second, .val (.ref b6), .val (.ref b8), .val (.int kk), .val (.ref b8), .unset, .unset] [(.int (1 : Int32))])) (fun t k => XS.goto X9.here hx rfl (pc0 := 170) (pc' := 174) rfl (hb hby at_170) (by decide) (by decide) k) ?_
                        refine Ends.pre (T' := T9.setTop (mkF m 176 #[.val (.long x0), .second, .val (.long x1), .second, .val (.long x2), .second, .val (.long x3), .second, .val (.long x4), .second, .val (.int x5), .val (.long y0), .second, .val (.long y1), .second, .val (.long y2), .second, .val (.long y3), .second, .val (.long y4), .second, .val (.ref b6), .val (.ref b8), .val (.int kk), .val (.ref b8), .val (.int (1 : Int32)), .unset] [])) (fun t k => XS.istore (g := (mkF m 174 #[.val (.long x0), .second, .val (.long x1), .second, .val (.long x2), .second, .val (.long x3), .second, .val (.long x4), .second, .val (.int x5), .val (.long y0), .second, .val (.long y1), .second, .val (.long y2), .second, .val (.long y3), .second, .val (.long y4), .second, .val (.ref b6), .val (.ref b8), .val (.int kk), .val (.ref b8), .unset, .unset] [(.int (1 : Int32))])) X9.here hx rfl (hb hby at_174) rfl (l' := #[.val (.long x0), .second, .val (.long x1), .second, .val (.long x2), .second, .val (.long x3), .second, .val (.long x4), .second, .val (.int x5), .val (.long y0), .second, .val (.long y1), .second, .val (.long y2), .second, .val (.long y3), .second, .val (.long y4), .second, .val (.ref b6), .val (.ref b8), .val (.int kk), .val (.ref b8), .val (.int (1 : Int32)), .unset]) rfl k) ?_
                        refine Ends.pre (T' := T9.setTop (mkF m 219 #[.val (.long x0), .second, .val (.long x1), .second, .val (.long x2), .second, .val (.long x3), .second, .val (.long x4), .second, .val (.int x5), .val (.long y0), .second, .val (.long y1), .second, .val (.long y2), .second, .val (.long y3), .second, .val (.long y4), .second, .val (.ref b6), .val (.ref b8), .val (.int kk), .val (.ref b8), .val (.int (1 : Int32)), .unset] [])) (fun t k => XS.goto X9.here hx rfl (pc0 := 176) (pc' := 219) rfl (hb hby at_176) (by decide) (by decide) k) ?_
                        refine Ends.pre (T' := T9.setTop (mkF m 221 #[.val (.long x0), .second, .val (.long x1), .second, .val (.long x2), .second, .val (.long x3), .second, .val (.long x4), .second, .val (.int x5), .val (.long y0), .second, .val (.long y1), .second, .val (.long y2), .second, .val (.long y3), .second, .val (.long y4), .second, .val (.ref b6), .val (.ref b8), .val (.int kk), .val (.ref b8), .val (.int (1 : Int32)), .unset] [(.ref b6)])) (fun t k => XS.aload X9.here hx rfl (hb hby at_219) rfl rfl k) ?_
                        refine Ends.pre (T' := T9.setTop (mkF m 223 #[.val (.long x0), .second, .val (.long x1), .second, .val (.long x2), .second, .val (.long x3), .second, .val (.long x4), .second, .val (.int x5), .val (.long y0), .second, .val (.long y1), .second, .val (.long y2), .second, .val (.long y3), .second, .val (.long y4), .second, .val (.ref b6), .val (.ref b8), .val (.int kk), .val (.ref b8), .val (.int (1 : Int32)), .unset] [(.ref b8), (.ref b6)])) (fun t k => XS.aload X9.here hx rfl (hb hby at_221) rfl rfl k) ?_
                        have F16 : Fld Z T9.heap b6 "com/example/kept_backlog/keptbacklog/QueueStats" "waiting" "J" (.long x0) := ((Fc7_0.ext E8).keep Kc9 (ninS (Nat.ne_of_lt (Nat.lt_of_lt_of_le (Nat.lt_of_lt_of_le A6.lt Kc7.1) (Nat.le_of_eq g8.symm))) nin0))
                        have F17 : Fld Z T9.heap b6 "com/example/kept_backlog/keptbacklog/QueueStats" "delayed" "J" (.long x1) := ((Fc7_1.ext E8).keep Kc9 (ninS (Nat.ne_of_lt (Nat.lt_of_lt_of_le (Nat.lt_of_lt_of_le A6.lt Kc7.1) (Nat.le_of_eq g8.symm))) nin0))
                        have F18 : Fld Z T9.heap b6 "com/example/kept_backlog/keptbacklog/QueueStats" "leased" "J" (.long x2) := ((Fc7_2.ext E8).keep Kc9 (ninS (Nat.ne_of_lt (Nat.lt_of_lt_of_le (Nat.lt_of_lt_of_le A6.lt Kc7.1) (Nat.le_of_eq g8.symm))) nin0))
                        have F19 : Fld Z T9.heap b6 "com/example/kept_backlog/keptbacklog/QueueStats" "dead" "J" (.long x3) := ((Fc7_3.ext E8).keep Kc9 (ninS (Nat.ne_of_lt (Nat.lt_of_lt_of_le (Nat.lt_of_lt_of_le A6.lt Kc7.1) (Nat.le_of_eq g8.symm))) nin0))
                        have F20 : Fld Z T9.heap b6 "com/example/kept_backlog/keptbacklog/QueueStats" "completed" "J" (.long x4) := ((Fc7_4.ext E8).keep Kc9 (ninS (Nat.ne_of_lt (Nat.lt_of_lt_of_le (Nat.lt_of_lt_of_le A6.lt Kc7.1) (Nat.le_of_eq g8.symm))) nin0))
                        have F22 : Exa Z T9.heap b6 "com/example/kept_backlog/keptbacklog/QueueStats" := ((Ec7.ext E8).keep Kc9)
                        obtain ⟨cq21, kq21, q21a, q21b, q21c⟩ := isOf hZ rfl F22
                        obtain ⟨_, _, ⟨T21, L21, k21, n21⟩, -, X21, ⟨Lc21, hQ21, l21, y21, z21⟩, st21⟩ := X9.virtualBack hx (y := (⟨"com/example/kept_backlog/keptbacklog/QueueStats", "equals", "(Ljava/lang/Object;)Z"⟩ : MethodName)) (z := (⟨"com/example/kept_backlog/keptbacklog/QueueStats", "equals", "(Ljava/lang/Object;)Z"⟩ : MethodName)) hown (mvT hZ (hw _ (List.mem_of_getElem? (i := 19) rfl))) (mvT hZ (hw _ (List.mem_of_getElem? (i := 20) rfl))) (notFace_of_selects (args := #[]) (mvT hZ (hw _ (List.mem_of_getElem? (i := 22) rfl)))) (mvT hZ (hw _ (List.mem_of_getElem? (i := 22) rfl))) (mvT hZ (hw _ (List.mem_of_getElem? (i := 21) rfl))) (by decide) (backOf (W := 0) (rm3q l Z a0 hw [] b6 b8 x0 x1 x2 x3 x4 y0 y1 y2 y3 y4 T9.heap n0 (Nat.le_trans (Nat.le_trans (Nat.le_trans (Nat.le_trans Z0 E6.1) Kc7.1) E8.1) Kc9.1) Ec9 F16 F17 F18 F19 F20 Fc9_0 Fc9_1 Fc9_2 Fc9_3 Fc9_4) hZ (hw _ (List.mem_of_getElem? (i := 23) rfl)) (hw _ (List.mem_of_getElem? (i := 2) rfl)) (by decide) (by decide)) q21a q21c (g := (mkF m 223 #[.val (.long x0), .second, .val (.long x1), .second, .val (.long x2), .second, .val (.long x3), .second, .val (.long x4), .second, .val (.int x5), .val (.long y0), .second, .val (.long y1), .second, .val (.long y2), .second, .val (.long y3), .second, .val (.long y4), .second, .val (.ref b6), .val (.ref b8), .val (.int kk), .val (.ref b8), .val (.int (1 : Int32)), .unset] [(.ref b8), (.ref b6)])) rfl (by rw [hml]; rfl) (Steps.refl _) (argsL := [(.ref b8)]) (rest := []) (lenOf pd_3 rfl) rfl (by show 2 * 0 + _ ≤ _; exact Nat.le_of_eq rfl) (hb hby at_223) (fun _ _ => ⟨rfl, rfl, (by decide : 2 + 0 ≤ _), (by decide : 10 + 0 ≤ _)⟩)
                        dsimp only [Pt.U, Pt.locs, Pt.cells, Pt.slots] at X21 l21 y21 z21 st21 hQ21
                        subst l21 y21 z21
                        obtain ⟨rfl, N21q, eh21⟩ := hQ21
                        have N21 := Fr.app N9 N21q
                        rw [if_pos hc135_11.symm, if_pos hc142_12.symm, if_pos hc150_13.symm, if_pos hc158_14.symm, if_pos hc166_15.symm] at st21
                        refine Ends.pre (T' := T21.setTop (mkF m 226 #[.val (.long x0), .second, .val (.long x1), .second, .val (.long x2), .second, .val (.long x3), .second, .val (.long x4), .second, .val (.int x5), .val (.long y0), .second, .val (.long y1), .second, .val (.long y2), .second, .val (.long y3), .second, .val (.long y4), .second, .val (.ref b6), .val (.ref b8), .val (.int kk), .val (.ref b8), .val (.int (1 : Int32)), .unset] [(.int (1 : Int32))])) (fun t k => st21.trans k) ?_
                        refine Ends.pre (T' := T21.setTop (mkF m 228 #[.val (.long x0), .second, .val (.long x1), .second, .val (.long x2), .second, .val (.long x3), .second, .val (.long x4), .second, .val (.int x5), .val (.long y0), .second, .val (.long y1), .second, .val (.long y2), .second, .val (.long y3), .second, .val (.long y4), .second, .val (.ref b6), .val (.ref b8), .val (.int kk), .val (.ref b8), .val (.int (1 : Int32)), .val (.int (1 : Int32))] [])) (fun t k => XS.istore (g := (mkF m 226 #[.val (.long x0), .second, .val (.long x1), .second, .val (.long x2), .second, .val (.long x3), .second, .val (.long x4), .second, .val (.int x5), .val (.long y0), .second, .val (.long y1), .second, .val (.long y2), .second, .val (.long y3), .second, .val (.long y4), .second, .val (.ref b6), .val (.ref b8), .val (.int kk), .val (.ref b8), .val (.int (1 : Int32)), .unset] [(.int (1 : Int32))])) X21.here hx rfl (hb hby at_226) rfl (l' := #[.val (.long x0), .second, .val (.long x1), .second, .val (.long x2), .second, .val (.long x3), .second, .val (.long x4), .second, .val (.int x5), .val (.long y0), .second, .val (.long y1), .second, .val (.long y2), .second, .val (.long y3), .second, .val (.long y4), .second, .val (.ref b6), .val (.ref b8), .val (.int kk), .val (.ref b8), .val (.int (1 : Int32)), .val (.int (1 : Int32))]) rfl k) ?_
                        refine Ends.pre (T' := T21.setTop (mkF m 230 #[.val (.long x0), .second, .val (.long x1), .second, .val (.long x2), .second, .val (.long x3), .second, .val (.long x4), .second, .val (.int x5), .val (.long y0), .second, .val (.long y1), .second, .val (.long y2), .second, .val (.long y3), .second, .val (.long y4), .second, .val (.ref b6), .val (.ref b8), .val (.int kk), .val (.ref b8), .val (.int (1 : Int32)), .val (.int (1 : Int32))] [(.int kk)])) (fun t k => XS.iload X21.here hx rfl (hb hby at_228) rfl k) ?_
                        refine Ends.pre (T' := T21.setTop (mkF m 233 #[.val (.long x0), .second, .val (.long x1), .second, .val (.long x2), .second, .val (.long x3), .second, .val (.long x4), .second, .val (.int x5), .val (.long y0), .second, .val (.long y1), .second, .val (.long y2), .second, .val (.long y3), .second, .val (.long y4), .second, .val (.ref b6), .val (.ref b8), .val (.int kk), .val (.ref b8), .val (.int (1 : Int32)), .val (.int (1 : Int32))] [])) (fun t k => XS.ifNo X21.here hx rfl (hb hby at_230) rfl (Jvm.Free.XT.i0_ne_f hc124_10) k) ?_
                        refine Ends.pre (T' := T21.setTop (mkF m 235 #[.val (.long x0), .second, .val (.long x1), .second, .val (.long x2), .second, .val (.long x3), .second, .val (.long x4), .second, .val (.int x5), .val (.long y0), .second, .val (.long y1), .second, .val (.long y2), .second, .val (.long y3), .second, .val (.long y4), .second, .val (.ref b6), .val (.ref b8), .val (.int kk), .val (.ref b8), .val (.int (1 : Int32)), .val (.int (1 : Int32))] [(.int (1 : Int32))])) (fun t k => XS.iload X21.here hx rfl (hb hby at_233) rfl k) ?_
                        refine Ends.pre (T' := T21.setTop (mkF m 237 #[.val (.long x0), .second, .val (.long x1), .second, .val (.long x2), .second, .val (.long x3), .second, .val (.long x4), .second, .val (.int x5), .val (.long y0), .second, .val (.long y1), .second, .val (.long y2), .second, .val (.long y3), .second, .val (.long y4), .second, .val (.ref b6), .val (.ref b8), .val (.int kk), .val (.ref b8), .val (.int (1 : Int32)), .val (.int (1 : Int32))] [(.int (1 : Int32)), (.int (1 : Int32))])) (fun t k => XS.iload X21.here hx rfl (hb hby at_235) rfl k) ?_
                        refine Ends.pre (T' := T21.setTop (mkF m 240 #[.val (.long x0), .second, .val (.long x1), .second, .val (.long x2), .second, .val (.long x3), .second, .val (.long x4), .second, .val (.int x5), .val (.long y0), .second, .val (.long y1), .second, .val (.long y2), .second, .val (.long y3), .second, .val (.long y4), .second, .val (.ref b6), .val (.ref b8), .val (.int kk), .val (.ref b8), .val (.int (1 : Int32)), .val (.int (1 : Int32))] [])) (fun t k => XS.icmpNo X21.here hx rfl (hb hby at_237) rfl (by decide) k) ?_
                        refine Ends.pre (T' := T21.setTop (mkF m 242 #[.val (.long x0), .second, .val (.long x1), .second, .val (.long x2), .second, .val (.long x3), .second, .val (.long x4), .second, .val (.int x5), .val (.long y0), .second, .val (.long y1), .second, .val (.long y2), .second, .val (.long y3), .second, .val (.long y4), .second, .val (.ref b6), .val (.ref b8), .val (.int kk), .val (.ref b8), .val (.int (1 : Int32)), .val (.int (1 : Int32))] [(.ref b8)])) (fun t k => XS.aload X21.here hx rfl (hb hby at_240) rfl rfl k) ?_
                        refine Ends.pre (T' := T21.setTop (mkF m 244 #[.val (.long x0), .second, .val (.long x1), .second, .val (.long x2), .second, .val (.long x3), .second, .val (.long x4), .second, .val (.int x5), .val (.long y0), .second, .val (.long y1), .second, .val (.long y2), .second, .val (.long y3), .second, .val (.long y4), .second, .val (.ref b6), .val (.ref b8), .val (.int kk), .val (.ref b8), .val (.int (1 : Int32)), .val (.int (1 : Int32))] [(.ref b6), (.ref b8)])) (fun t k => XS.aload X21.here hx rfl (hb hby at_242) rfl rfl k) ?_
                        obtain ⟨cq23, kq23, q23a, q23b, q23c⟩ := isOf hZ eh21 Ec9
                        obtain ⟨_, _, ⟨T23, L23, k23, n23⟩, -, X23, ⟨Lc23, hQ23, l23, y23, z23⟩, st23⟩ := X21.virtualBack hx (y := (⟨"com/example/kept_backlog/keptbacklog/QueueStats", "equals", "(Ljava/lang/Object;)Z"⟩ : MethodName)) (z := (⟨"com/example/kept_backlog/keptbacklog/QueueStats", "equals", "(Ljava/lang/Object;)Z"⟩ : MethodName)) hown (mvT hZ (hw _ (List.mem_of_getElem? (i := 19) rfl))) (mvT hZ (hw _ (List.mem_of_getElem? (i := 20) rfl))) (notFace_of_selects (args := #[]) (mvT hZ (hw _ (List.mem_of_getElem? (i := 22) rfl)))) (mvT hZ (hw _ (List.mem_of_getElem? (i := 22) rfl))) (mvT hZ (hw _ (List.mem_of_getElem? (i := 21) rfl))) (by decide) (backOf (W := 0) (rm3q l Z a0 hw [] b8 b6 y0 y1 y2 y3 y4 x0 x1 x2 x3 x4 T9.heap n0 (Nat.le_trans (Nat.le_trans (Nat.le_trans (Nat.le_trans Z0 E6.1) Kc7.1) E8.1) Kc9.1) F22 Fc9_0 Fc9_1 Fc9_2 Fc9_3 Fc9_4 F16 F17 F18 F19 F20) hZ (hw _ (List.mem_of_getElem? (i := 23) rfl)) (hw _ (List.mem_of_getElem? (i := 2) rfl)) (by decide) (by decide)) q23a q23c (g := (mkF m 244 #[.val (.long x0), .second, .val (.long x1), .second, .val (.long x2), .second, .val (.long x3), .second, .val (.long x4), .second, .val (.int x5), .val (.long y0), .second, .val (.long y1), .second, .val (.long y2), .second, .val (.long y3), .second, .val (.long y4), .second, .val (.ref b6), .val (.ref b8), .val (.int kk), .val (.ref b8), .val (.int (1 : Int32)), .val (.int (1 : Int32))] [(.ref b6), (.ref b8)])) rfl (by rw [hml]; rfl) (Steps.refl _) (argsL := [(.ref b6)]) (rest := []) (lenOf pd_3 rfl) rfl (by show 2 * 0 + _ ≤ _; exact Nat.le_of_eq rfl) (hb hby at_244) (fun _ _ => ⟨rfl, eh21, (by decide : 2 + 0 ≤ _), (by decide : 10 + 0 ≤ _)⟩)
                        dsimp only [Pt.U, Pt.locs, Pt.cells, Pt.slots] at X23 l23 y23 z23 st23 hQ23
                        subst l23 y23 z23
                        obtain ⟨rfl, N23q, eh23⟩ := hQ23
                        have N23 := Fr.app N21 N23q
                        rw [if_pos hc135_11, if_pos hc142_12, if_pos hc150_13, if_pos hc158_14, if_pos hc166_15] at st23
                        refine Ends.pre (T' := T23.setTop (mkF m 247 #[.val (.long x0), .second, .val (.long x1), .second, .val (.long x2), .second, .val (.long x3), .second, .val (.long x4), .second, .val (.int x5), .val (.long y0), .second, .val (.long y1), .second, .val (.long y2), .second, .val (.long y3), .second, .val (.long y4), .second, .val (.ref b6), .val (.ref b8), .val (.int kk), .val (.ref b8), .val (.int (1 : Int32)), .val (.int (1 : Int32))] [(.int (1 : Int32))])) (fun t k => st23.trans k) ?_
                        refine Ends.pre (T' := T23.setTop (mkF m 249 #[.val (.long x0), .second, .val (.long x1), .second, .val (.long x2), .second, .val (.long x3), .second, .val (.long x4), .second, .val (.int x5), .val (.long y0), .second, .val (.long y1), .second, .val (.long y2), .second, .val (.long y3), .second, .val (.long y4), .second, .val (.ref b6), .val (.ref b8), .val (.int kk), .val (.ref b8), .val (.int (1 : Int32)), .val (.int (1 : Int32))] [(.int (1 : Int32)), (.int (1 : Int32))])) (fun t k => XS.iload X23.here hx rfl (hb hby at_247) rfl k) ?_
                        refine Ends.pre (T' := T23.setTop (mkF m 252 #[.val (.long x0), .second, .val (.long x1), .second, .val (.long x2), .second, .val (.long x3), .second, .val (.long x4), .second, .val (.int x5), .val (.long y0), .second, .val (.long y1), .second, .val (.long y2), .second, .val (.long y3), .second, .val (.long y4), .second, .val (.ref b6), .val (.ref b8), .val (.int kk), .val (.ref b8), .val (.int (1 : Int32)), .val (.int (1 : Int32))] [])) (fun t k => XS.icmpNo X23.here hx rfl (hb hby at_249) rfl (by decide) k) ?_
                        refine Ends.pre (T' := T23.setTop (mkF m 253 #[.val (.long x0), .second, .val (.long x1), .second, .val (.long x2), .second, .val (.long x3), .second, .val (.long x4), .second, .val (.int x5), .val (.long y0), .second, .val (.long y1), .second, .val (.long y2), .second, .val (.long y3), .second, .val (.long y4), .second, .val (.ref b6), .val (.ref b8), .val (.int kk), .val (.ref b8), .val (.int (1 : Int32)), .val (.int (1 : Int32))] [(.int (1 : Int32))])) (fun t k => XS.iconst X23.here hx rfl (hb hby at_252) k) ?_
                        refine Ends.pre (T' := T23.setTop (mkF m 257 #[.val (.long x0), .second, .val (.long x1), .second, .val (.long x2), .second, .val (.long x3), .second, .val (.long x4), .second, .val (.int x5), .val (.long y0), .second, .val (.long y1), .second, .val (.long y2), .second, .val (.long y3), .second, .val (.long y4), .second, .val (.ref b6), .val (.ref b8), .val (.int kk), .val (.ref b8), .val (.int (1 : Int32)), .val (.int (1 : Int32))] [(.int (1 : Int32))])) (fun t k => XS.goto X23.here hx rfl (pc0 := 253) (pc' := 257) rfl (hb hby at_253) (by decide) (by decide) k) ?_
                        exact Ends.ret (w := (.int (1 : Int32))) X23 hx Bd.notSynchronized Bd.returns rfl (Or.inl ⟨rfl, Or.inr (Or.inl rfl), _, rfl⟩) (hb hby at_257) eh23 ⟨rfl, N23⟩ (by decide) (by decide)
                      · refine Ends.pre (T' := T9.setTop (mkF m 173 #[.val (.long x0), .second, .val (.long x1), .second, .val (.long x2), .second, .val (.long x3), .second, .val (.long x4), .second, .val (.int x5), .val (.long y0), .second, .val (.long y1), .second, .val (.long y2), .second, .val (.long y3), .second, .val (.long y4), .second, .val (.ref b6), .val (.ref b8), .val (.int kk), .val (.ref b8), .unset, .unset] [])) (fun t k => XS.ifYes X9.here hx rfl (pc0 := 166) (pc' := 173) rfl (hb hby at_166) rfl (Jvm.Free.XT.i0_ne_t (fun q => hc166_15 ((lw_eq _ _).mp q))) (by decide) (by decide) k) ?_
                        refine Ends.pre (T' := T9.setTop (mkF m 174 #[.val (.long x0), .second, .val (.long x1), .second, .val (.long x2), .second, .val (.long x3), .second, .val (.long x4), .second, .val (.int x5), .val (.long y0), .second, .val (.long y1), .second, .val (.long y2), .second, .val (.long y3), .second, .val (.long y4), .second, .val (.ref b6), .val (.ref b8), .val (.int kk), .val (.ref b8), .unset, .unset] [(.int (0 : Int32))])) (fun t k => XS.iconst X9.here hx rfl (hb hby at_173) k) ?_
                        refine Ends.pre (T' := T9.setTop (mkF m 176 #[.val (.long x0), .second, .val (.long x1), .second, .val (.long x2), .second, .val (.long x3), .second, .val (.long x4), .second, .val (.int x5), .val (.long y0), .second, .val (.long y1), .second, .val (.long y2), .second, .val (.long y3), .second, .val (.long y4), .second, .val (.ref b6), .val (.ref b8), .val (.int kk), .val (.ref b8), .val (.int (0 : Int32)), .unset] [])) (fun t k => XS.istore (g := (mkF m 174 #[.val (.long x0), .second, .val (.long x1), .second, .val (.long x2), .second, .val (.long x3), .second, .val (.long x4), .second, .val (.int x5), .val (.long y0), .second, .val (.long y1), .second, .val (.long y2), .second, .val (.long y3), .second, .val (.long y4), .second, .val (.ref b6), .val (.ref b8), .val (.int kk), .val (.ref b8), .unset, .unset] [(.int (0 : Int32))])) X9.here hx rfl (hb hby at_174) rfl (l' := #[.val (.long x0), .second, .val (.long x1), .second, .val (.long x2), .second, .val (.long x3), .second, .val (.long x4), .second, .val (.int x5), .val (.long y0), .second, .val (.long y1), .second, .val (.long y2), .second, .val (.long y3), .second, .val (.long y4), .second, .val (.ref b6), .val (.ref b8), .val (.int kk), .val (.ref b8), .val (.int (0 : Int32)), .unset]) rfl k) ?_
                        refine Ends.pre (T' := T9.setTop (mkF m 219 #[.val (.long x0), .second, .val (.long x1), .second, .val (.long x2), .second, .val (.long x3), .second, .val (.long x4), .second, .val (.int x5), .val (.long y0), .second, .val (.long y1), .second, .val (.long y2), .second, .val (.long y3), .second, .val (.long y4), .second, .val (.ref b6), .val (.ref b8), .val (.int kk), .val (.ref b8), .val (.int (0 : Int32)), .unset] [])) (fun t k => XS.goto X9.here hx rfl (pc0 := 176) (pc' := 219) rfl (hb hby at_176) (by decide) (by decide) k) ?_
                        refine Ends.pre (T' := T9.setTop (mkF m 221 #[.val (.long x0), .second, .val (.long x1), .second, .val (.long x2), .second, .val (.long x3), .second, .val (.long x4), .second, .val (.int x5), .val (.long y0), .second, .val (.long y1), .second, .val (.long y2), .second, .val (.long y3), .second, .val (.long y4), .second, .val (.ref b6), .val (.ref b8), .val (.int kk), .val (.ref b8), .val (.int (0 : Int32)), .unset] [(.ref b6)])) (fun t k => XS.aload X9.here hx rfl (hb hby at_219) rfl rfl k) ?_
                        refine Ends.pre (T' := T9.setTop (mkF m 223 #[.val (.long x0), .second, .val (.long x1), .second, .val (.long x2), .second, .val (.long x3), .second, .val (.long x4), .second, .val (.int x5), .val (.long y0), .second, .val (.long y1), .second, .val (.long y2), .second, .val (.long y3), .second, .val (.long y4), .second, .val (.ref b6), .val (.ref b8), .val (.int kk), .val (.ref b8), .val (.int (0 : Int32)), .unset] [(.ref b8), (.ref b6)])) (fun t k => XS.aload X9.here hx rfl (hb hby at_221) rfl rfl k) ?_
                        have F24 : Fld Z T9.heap b6 "com/example/kept_backlog/keptbacklog/QueueStats" "waiting" "J" (.long x0) := ((Fc7_0.ext E8).keep Kc9 (ninS (Nat.ne_of_lt (Nat.lt_of_lt_of_le (Nat.lt_of_lt_of_le A6.lt Kc7.1) (Nat.le_of_eq g8.symm))) nin0))
                        have F25 : Fld Z T9.heap b6 "com/example/kept_backlog/keptbacklog/QueueStats" "delayed" "J" (.long x1) := ((Fc7_1.ext E8).keep Kc9 (ninS (Nat.ne_of_lt (Nat.lt_of_lt_of_le (Nat.lt_of_lt_of_le A6.lt Kc7.1) (Nat.le_of_eq g8.symm))) nin0))
                        have F26 : Fld Z T9.heap b6 "com/example/kept_backlog/keptbacklog/QueueStats" "leased" "J" (.long x2) := ((Fc7_2.ext E8).keep Kc9 (ninS (Nat.ne_of_lt (Nat.lt_of_lt_of_le (Nat.lt_of_lt_of_le A6.lt Kc7.1) (Nat.le_of_eq g8.symm))) nin0))
                        have F27 : Fld Z T9.heap b6 "com/example/kept_backlog/keptbacklog/QueueStats" "dead" "J" (.long x3) := ((Fc7_3.ext E8).keep Kc9 (ninS (Nat.ne_of_lt (Nat.lt_of_lt_of_le (Nat.lt_of_lt_of_le A6.lt Kc7.1) (Nat.le_of_eq g8.symm))) nin0))
                        have F28 : Fld Z T9.heap b6 "com/example/kept_backlog/keptbacklog/QueueStats" "completed" "J" (.long x4) := ((Fc7_4.ext E8).keep Kc9 (ninS (Nat.ne_of_lt (Nat.lt_of_lt_of_le (Nat.lt_of_lt_of_le A6.lt Kc7.1) (Nat.le_of_eq g8.symm))) nin0))
                        have F30 : Exa Z T9.heap b6 "com/example/kept_backlog/keptbacklog/QueueStats" := ((Ec7.ext E8).keep Kc9)
                        obtain ⟨cq29, kq29, q29a, q29b, q29c⟩ := isOf hZ rfl F30
                        obtain ⟨_, _, ⟨T29, L29, k29, n29⟩, -, X29, ⟨Lc29, hQ29, l29, y29, z29⟩, st29⟩ := X9.virtualBack hx (y := (⟨"com/example/kept_backlog/keptbacklog/QueueStats", "equals", "(Ljava/lang/Object;)Z"⟩ : MethodName)) (z := (⟨"com/example/kept_backlog/keptbacklog/QueueStats", "equals", "(Ljava/lang/Object;)Z"⟩ : MethodName)) hown (mvT hZ (hw _ (List.mem_of_getElem? (i := 19) rfl))) (mvT hZ (hw _ (List.mem_of_getElem? (i := 20) rfl))) (notFace_of_selects (args := #[]) (mvT hZ (hw _ (List.mem_of_getElem? (i := 22) rfl)))) (mvT hZ (hw _ (List.mem_of_getElem? (i := 22) rfl))) (mvT hZ (hw _ (List.mem_of_getElem? (i := 21) rfl))) (by decide) (backOf (W := 0) (rm3q l Z a0 hw [] b6 b8 x0 x1 x2 x3 x4 y0 y1 y2 y3 y4 T9.heap n0 (Nat.le_trans (Nat.le_trans (Nat.le_trans (Nat.le_trans Z0 E6.1) Kc7.1) E8.1) Kc9.1) Ec9 F24 F25 F26 F27 F28 Fc9_0 Fc9_1 Fc9_2 Fc9_3 Fc9_4) hZ (hw _ (List.mem_of_getElem? (i := 23) rfl)) (hw _ (List.mem_of_getElem? (i := 2) rfl)) (by decide) (by decide)) q29a q29c (g := (mkF m 223 #[.val (.long x0), .second, .val (.long x1), .second, .val (.long x2), .second, .val (.long x3), .second, .val (.long x4), .second, .val (.int x5), .val (.long y0), .second, .val (.long y1), .second, .val (.long y2), .second, .val (.long y3), .second, .val (.long y4), .second, .val (.ref b6), .val (.ref b8), .val (.int kk), .val (.ref b8), .val (.int (0 : Int32)), .unset] [(.ref b8), (.ref b6)])) rfl (by rw [hml]; rfl) (Steps.refl _) (argsL := [(.ref b8)]) (rest := []) (lenOf pd_3 rfl) rfl (by show 2 * 0 + _ ≤ _; exact Nat.le_of_eq rfl) (hb hby at_223) (fun _ _ => ⟨rfl, rfl, (by decide : 2 + 0 ≤ _), (by decide : 10 + 0 ≤ _)⟩)
                        dsimp only [Pt.U, Pt.locs, Pt.cells, Pt.slots] at X29 l29 y29 z29 st29 hQ29
                        subst l29 y29 z29
                        obtain ⟨rfl, N29q, eh29⟩ := hQ29
                        have N29 := Fr.app N9 N29q
                        rw [if_pos hc135_11.symm, if_pos hc142_12.symm, if_pos hc150_13.symm, if_pos hc158_14.symm, if_neg (fun q => hc166_15 q.symm)] at st29
                        refine Ends.pre (T' := T29.setTop (mkF m 226 #[.val (.long x0), .second, .val (.long x1), .second, .val (.long x2), .second, .val (.long x3), .second, .val (.long x4), .second, .val (.int x5), .val (.long y0), .second, .val (.long y1), .second, .val (.long y2), .second, .val (.long y3), .second, .val (.long y4), .second, .val (.ref b6), .val (.ref b8), .val (.int kk), .val (.ref b8), .val (.int (0 : Int32)), .unset] [(.int (0 : Int32))])) (fun t k => st29.trans k) ?_
                        refine Ends.pre (T' := T29.setTop (mkF m 228 #[.val (.long x0), .second, .val (.long x1), .second, .val (.long x2), .second, .val (.long x3), .second, .val (.long x4), .second, .val (.int x5), .val (.long y0), .second, .val (.long y1), .second, .val (.long y2), .second, .val (.long y3), .second, .val (.long y4), .second, .val (.ref b6), .val (.ref b8), .val (.int kk), .val (.ref b8), .val (.int (0 : Int32)), .val (.int (0 : Int32))] [])) (fun t k => XS.istore (g := (mkF m 226 #[.val (.long x0), .second, .val (.long x1), .second, .val (.long x2), .second, .val (.long x3), .second, .val (.long x4), .second, .val (.int x5), .val (.long y0), .second, .val (.long y1), .second, .val (.long y2), .second, .val (.long y3), .second, .val (.long y4), .second, .val (.ref b6), .val (.ref b8), .val (.int kk), .val (.ref b8), .val (.int (0 : Int32)), .unset] [(.int (0 : Int32))])) X29.here hx rfl (hb hby at_226) rfl (l' := #[.val (.long x0), .second, .val (.long x1), .second, .val (.long x2), .second, .val (.long x3), .second, .val (.long x4), .second, .val (.int x5), .val (.long y0), .second, .val (.long y1), .second, .val (.long y2), .second, .val (.long y3), .second, .val (.long y4), .second, .val (.ref b6), .val (.ref b8), .val (.int kk), .val (.ref b8), .val (.int (0 : Int32)), .val (.int (0 : Int32))]) rfl k) ?_
                        refine Ends.pre (T' := T29.setTop (mkF m 230 #[.val (.long x0), .second, .val (.long x1), .second, .val (.long x2), .second, .val (.long x3), .second, .val (.long x4), .second, .val (.int x5), .val (.long y0), .second, .val (.long y1), .second, .val (.long y2), .second, .val (.long y3), .second, .val (.long y4), .second, .val (.ref b6), .val (.ref b8), .val (.int kk), .val (.ref b8), .val (.int (0 : Int32)), .val (.int (0 : Int32))] [(.int kk)])) (fun t k => XS.iload X29.here hx rfl (hb hby at_228) rfl k) ?_
                        refine Ends.pre (T' := T29.setTop (mkF m 233 #[.val (.long x0), .second, .val (.long x1), .second, .val (.long x2), .second, .val (.long x3), .second, .val (.long x4), .second, .val (.int x5), .val (.long y0), .second, .val (.long y1), .second, .val (.long y2), .second, .val (.long y3), .second, .val (.long y4), .second, .val (.ref b6), .val (.ref b8), .val (.int kk), .val (.ref b8), .val (.int (0 : Int32)), .val (.int (0 : Int32))] [])) (fun t k => XS.ifNo X29.here hx rfl (hb hby at_230) rfl (Jvm.Free.XT.i0_ne_f hc124_10) k) ?_
                        refine Ends.pre (T' := T29.setTop (mkF m 235 #[.val (.long x0), .second, .val (.long x1), .second, .val (.long x2), .second, .val (.long x3), .second, .val (.long x4), .second, .val (.int x5), .val (.long y0), .second, .val (.long y1), .second, .val (.long y2), .second, .val (.long y3), .second, .val (.long y4), .second, .val (.ref b6), .val (.ref b8), .val (.int kk), .val (.ref b8), .val (.int (0 : Int32)), .val (.int (0 : Int32))] [(.int (0 : Int32))])) (fun t k => XS.iload X29.here hx rfl (hb hby at_233) rfl k) ?_
                        refine Ends.pre (T' := T29.setTop (mkF m 237 #[.val (.long x0), .second, .val (.long x1), .second, .val (.long x2), .second, .val (.long x3), .second, .val (.long x4), .second, .val (.int x5), .val (.long y0), .second, .val (.long y1), .second, .val (.long y2), .second, .val (.long y3), .second, .val (.long y4), .second, .val (.ref b6), .val (.ref b8), .val (.int kk), .val (.ref b8), .val (.int (0 : Int32)), .val (.int (0 : Int32))] [(.int (0 : Int32)), (.int (0 : Int32))])) (fun t k => XS.iload X29.here hx rfl (hb hby at_235) rfl k) ?_
                        refine Ends.pre (T' := T29.setTop (mkF m 240 #[.val (.long x0), .second, .val (.long x1), .second, .val (.long x2), .second, .val (.long x3), .second, .val (.long x4), .second, .val (.int x5), .val (.long y0), .second, .val (.long y1), .second, .val (.long y2), .second, .val (.long y3), .second, .val (.long y4), .second, .val (.ref b6), .val (.ref b8), .val (.int kk), .val (.ref b8), .val (.int (0 : Int32)), .val (.int (0 : Int32))] [])) (fun t k => XS.icmpNo X29.here hx rfl (hb hby at_237) rfl (by decide) k) ?_
                        refine Ends.pre (T' := T29.setTop (mkF m 242 #[.val (.long x0), .second, .val (.long x1), .second, .val (.long x2), .second, .val (.long x3), .second, .val (.long x4), .second, .val (.int x5), .val (.long y0), .second, .val (.long y1), .second, .val (.long y2), .second, .val (.long y3), .second, .val (.long y4), .second, .val (.ref b6), .val (.ref b8), .val (.int kk), .val (.ref b8), .val (.int (0 : Int32)), .val (.int (0 : Int32))] [(.ref b8)])) (fun t k => XS.aload X29.here hx rfl (hb hby at_240) rfl rfl k) ?_
                        refine Ends.pre (T' := T29.setTop (mkF m 244 #[.val (.long x0), .second, .val (.long x1), .second, .val (.long x2), .second, .val (.long x3), .second, .val (.long x4), .second, .val (.int x5), .val (.long y0), .second, .val (.long y1), .second, .val (.long y2), .second, .val (.long y3), .second, .val (.long y4), .second, .val (.ref b6), .val (.ref b8), .val (.int kk), .val (.ref b8), .val (.int (0 : Int32)), .val (.int (0 : Int32))] [(.ref b6), (.ref b8)])) (fun t k => XS.aload X29.here hx rfl (hb hby at_242) rfl rfl k) ?_
                        obtain ⟨cq31, kq31, q31a, q31b, q31c⟩ := isOf hZ eh29 Ec9
                        obtain ⟨_, _, ⟨T31, L31, k31, n31⟩, -, X31, ⟨Lc31, hQ31, l31, y31, z31⟩, st31⟩ := X29.virtualBack hx (y := (⟨"com/example/kept_backlog/keptbacklog/QueueStats", "equals", "(Ljava/lang/Object;)Z"⟩ : MethodName)) (z := (⟨"com/example/kept_backlog/keptbacklog/QueueStats", "equals", "(Ljava/lang/Object;)Z"⟩ : MethodName)) hown (mvT hZ (hw _ (List.mem_of_getElem? (i := 19) rfl))) (mvT hZ (hw _ (List.mem_of_getElem? (i := 20) rfl))) (notFace_of_selects (args := #[]) (mvT hZ (hw _ (List.mem_of_getElem? (i := 22) rfl)))) (mvT hZ (hw _ (List.mem_of_getElem? (i := 22) rfl))) (mvT hZ (hw _ (List.mem_of_getElem? (i := 21) rfl))) (by decide) (backOf (W := 0) (rm3q l Z a0 hw [] b8 b6 y0 y1 y2 y3 y4 x0 x1 x2 x3 x4 T9.heap n0 (Nat.le_trans (Nat.le_trans (Nat.le_trans (Nat.le_trans Z0 E6.1) Kc7.1) E8.1) Kc9.1) F30 Fc9_0 Fc9_1 Fc9_2 Fc9_3 Fc9_4 F24 F25 F26 F27 F28) hZ (hw _ (List.mem_of_getElem? (i := 23) rfl)) (hw _ (List.mem_of_getElem? (i := 2) rfl)) (by decide) (by decide)) q31a q31c (g := (mkF m 244 #[.val (.long x0), .second, .val (.long x1), .second, .val (.long x2), .second, .val (.long x3), .second, .val (.long x4), .second, .val (.int x5), .val (.long y0), .second, .val (.long y1), .second, .val (.long y2), .second, .val (.long y3), .second, .val (.long y4), .second, .val (.ref b6), .val (.ref b8), .val (.int kk), .val (.ref b8), .val (.int (0 : Int32)), .val (.int (0 : Int32))] [(.ref b6), (.ref b8)])) rfl (by rw [hml]; rfl) (Steps.refl _) (argsL := [(.ref b6)]) (rest := []) (lenOf pd_3 rfl) rfl (by show 2 * 0 + _ ≤ _; exact Nat.le_of_eq rfl) (hb hby at_244) (fun _ _ => ⟨rfl, eh29, (by decide : 2 + 0 ≤ _), (by decide : 10 + 0 ≤ _)⟩)
                        dsimp only [Pt.U, Pt.locs, Pt.cells, Pt.slots] at X31 l31 y31 z31 st31 hQ31
                        subst l31 y31 z31
                        obtain ⟨rfl, N31q, eh31⟩ := hQ31
                        have N31 := Fr.app N29 N31q
                        rw [if_pos hc135_11, if_pos hc142_12, if_pos hc150_13, if_pos hc158_14, if_neg hc166_15] at st31
                        refine Ends.pre (T' := T31.setTop (mkF m 247 #[.val (.long x0), .second, .val (.long x1), .second, .val (.long x2), .second, .val (.long x3), .second, .val (.long x4), .second, .val (.int x5), .val (.long y0), .second, .val (.long y1), .second, .val (.long y2), .second, .val (.long y3), .second, .val (.long y4), .second, .val (.ref b6), .val (.ref b8), .val (.int kk), .val (.ref b8), .val (.int (0 : Int32)), .val (.int (0 : Int32))] [(.int (0 : Int32))])) (fun t k => st31.trans k) ?_
                        refine Ends.pre (T' := T31.setTop (mkF m 249 #[.val (.long x0), .second, .val (.long x1), .second, .val (.long x2), .second, .val (.long x3), .second, .val (.long x4), .second, .val (.int x5), .val (.long y0), .second, .val (.long y1), .second, .val (.long y2), .second, .val (.long y3), .second, .val (.long y4), .second, .val (.ref b6), .val (.ref b8), .val (.int kk), .val (.ref b8), .val (.int (0 : Int32)), .val (.int (0 : Int32))] [(.int (0 : Int32)), (.int (0 : Int32))])) (fun t k => XS.iload X31.here hx rfl (hb hby at_247) rfl k) ?_
                        refine Ends.pre (T' := T31.setTop (mkF m 252 #[.val (.long x0), .second, .val (.long x1), .second, .val (.long x2), .second, .val (.long x3), .second, .val (.long x4), .second, .val (.int x5), .val (.long y0), .second, .val (.long y1), .second, .val (.long y2), .second, .val (.long y3), .second, .val (.long y4), .second, .val (.ref b6), .val (.ref b8), .val (.int kk), .val (.ref b8), .val (.int (0 : Int32)), .val (.int (0 : Int32))] [])) (fun t k => XS.icmpNo X31.here hx rfl (hb hby at_249) rfl (by decide) k) ?_
                        refine Ends.pre (T' := T31.setTop (mkF m 253 #[.val (.long x0), .second, .val (.long x1), .second, .val (.long x2), .second, .val (.long x3), .second, .val (.long x4), .second, .val (.int x5), .val (.long y0), .second, .val (.long y1), .second, .val (.long y2), .second, .val (.long y3), .second, .val (.long y4), .second, .val (.ref b6), .val (.ref b8), .val (.int kk), .val (.ref b8), .val (.int (0 : Int32)), .val (.int (0 : Int32))] [(.int (1 : Int32))])) (fun t k => XS.iconst X31.here hx rfl (hb hby at_252) k) ?_
                        refine Ends.pre (T' := T31.setTop (mkF m 257 #[.val (.long x0), .second, .val (.long x1), .second, .val (.long x2), .second, .val (.long x3), .second, .val (.long x4), .second, .val (.int x5), .val (.long y0), .second, .val (.long y1), .second, .val (.long y2), .second, .val (.long y3), .second, .val (.long y4), .second, .val (.ref b6), .val (.ref b8), .val (.int kk), .val (.ref b8), .val (.int (0 : Int32)), .val (.int (0 : Int32))] [(.int (1 : Int32))])) (fun t k => XS.goto X31.here hx rfl (pc0 := 253) (pc' := 257) rfl (hb hby at_253) (by decide) (by decide) k) ?_
                        exact Ends.ret (w := (.int (1 : Int32))) X31 hx Bd.notSynchronized Bd.returns rfl (Or.inl ⟨rfl, Or.inr (Or.inl rfl), _, rfl⟩) (hb hby at_257) eh31 ⟨rfl, N31⟩ (by decide) (by decide)
                    · refine Ends.pre (T' := T9.setTop (mkF m 173 #[.val (.long x0), .second, .val (.long x1), .second, .val (.long x2), .second, .val (.long x3), .second, .val (.long x4), .second, .val (.int x5), .val (.long y0), .second, .val (.long y1), .second, .val (.long y2), .second, .val (.long y3), .second, .val (.long y4), .second, .val (.ref b6), .val (.ref b8), .val (.int kk), .val (.ref b8), .unset, .unset] [])) (fun t k => XS.ifYes X9.here hx rfl (pc0 := 158) (pc' := 173) rfl (hb hby at_158) rfl (Jvm.Free.XT.i0_ne_t (fun q => hc158_14 ((lw_eq _ _).mp q))) (by decide) (by decide) k) ?_
                      refine Ends.pre (T' := T9.setTop (mkF m 174 #[.val (.long x0), .second, .val (.long x1), .second, .val (.long x2), .second, .val (.long x3), .second, .val (.long x4), .second, .val (.int x5), .val (.long y0), .second, .val (.long y1), .second, .val (.long y2), .second, .val (.long y3), .second, .val (.long y4), .second, .val (.ref b6), .val (.ref b8), .val (.int kk), .val (.ref b8), .unset, .unset] [(.int (0 : Int32))])) (fun t k => XS.iconst X9.here hx rfl (hb hby at_173) k) ?_
                      refine Ends.pre (T' := T9.setTop (mkF m 176 #[.val (.long x0), .second, .val (.long x1), .second, .val (.long x2), .second, .val (.long x3), .second, .val (.long x4), .second, .val (.int x5), .val (.long y0), .second, .val (.long y1), .second, .val (.long y2), .second, .val (.long y3), .second, .val (.long y4), .second, .val (.ref b6), .val (.ref b8), .val (.int kk), .val (.ref b8), .val (.int (0 : Int32)), .unset] [])) (fun t k => XS.istore (g := (mkF m 174 #[.val (.long x0), .second, .val (.long x1), .second, .val (.long x2), .second, .val (.long x3), .second, .val (.long x4), .second, .val (.int x5), .val (.long y0), .second, .val (.long y1), .second, .val (.long y2), .second, .val (.long y3), .second, .val (.long y4), .second, .val (.ref b6), .val (.ref b8), .val (.int kk), .val (.ref b8), .unset, .unset] [(.int (0 : Int32))])) X9.here hx rfl (hb hby at_174) rfl (l' := #[.val (.long x0), .second, .val (.long x1), .second, .val (.long x2), .second, .val (.long x3), .second, .val (.long x4), .second, .val (.int x5), .val (.long y0), .second, .val (.long y1), .second, .val (.long y2), .second, .val (.long y3), .second, .val (.long y4), .second, .val (.ref b6), .val (.ref b8), .val (.int kk), .val (.ref b8), .val (.int (0 : Int32)), .unset]) rfl k) ?_
                      refine Ends.pre (T' := T9.setTop (mkF m 219 #[.val (.long x0), .second, .val (.long x1), .second, .val (.long x2), .second, .val (.long x3), .second, .val (.long x4), .second, .val (.int x5), .val (.long y0), .second, .val (.long y1), .second, .val (.long y2), .second, .val (.long y3), .second, .val (.long y4), .second, .val (.ref b6), .val (.ref b8), .val (.int kk), .val (.ref b8), .val (.int (0 : Int32)), .unset] [])) (fun t k => XS.goto X9.here hx rfl (pc0 := 176) (pc' := 219) rfl (hb hby at_176) (by decide) (by decide) k) ?_
                      refine Ends.pre (T' := T9.setTop (mkF m 221 #[.val (.long x0), .second, .val (.long x1), .second, .val (.long x2), .second, .val (.long x3), .second, .val (.long x4), .second, .val (.int x5), .val (.long y0), .second, .val (.long y1), .second, .val (.long y2), .second, .val (.long y3), .second, .val (.long y4), .second, .val (.ref b6), .val (.ref b8), .val (.int kk), .val (.ref b8), .val (.int (0 : Int32)), .unset] [(.ref b6)])) (fun t k => XS.aload X9.here hx rfl (hb hby at_219) rfl rfl k) ?_
                      refine Ends.pre (T' := T9.setTop (mkF m 223 #[.val (.long x0), .second, .val (.long x1), .second, .val (.long x2), .second, .val (.long x3), .second, .val (.long x4), .second, .val (.int x5), .val (.long y0), .second, .val (.long y1), .second, .val (.long y2), .second, .val (.long y3), .second, .val (.long y4), .second, .val (.ref b6), .val (.ref b8), .val (.int kk), .val (.ref b8), .val (.int (0 : Int32)), .unset] [(.ref b8), (.ref b6)])) (fun t k => XS.aload X9.here hx rfl (hb hby at_221) rfl rfl k) ?_
                      have F32 : Fld Z T9.heap b6 "com/example/kept_backlog/keptbacklog/QueueStats" "waiting" "J" (.long x0) := ((Fc7_0.ext E8).keep Kc9 (ninS (Nat.ne_of_lt (Nat.lt_of_lt_of_le (Nat.lt_of_lt_of_le A6.lt Kc7.1) (Nat.le_of_eq g8.symm))) nin0))
                      have F33 : Fld Z T9.heap b6 "com/example/kept_backlog/keptbacklog/QueueStats" "delayed" "J" (.long x1) := ((Fc7_1.ext E8).keep Kc9 (ninS (Nat.ne_of_lt (Nat.lt_of_lt_of_le (Nat.lt_of_lt_of_le A6.lt Kc7.1) (Nat.le_of_eq g8.symm))) nin0))
                      have F34 : Fld Z T9.heap b6 "com/example/kept_backlog/keptbacklog/QueueStats" "leased" "J" (.long x2) := ((Fc7_2.ext E8).keep Kc9 (ninS (Nat.ne_of_lt (Nat.lt_of_lt_of_le (Nat.lt_of_lt_of_le A6.lt Kc7.1) (Nat.le_of_eq g8.symm))) nin0))
                      have F35 : Fld Z T9.heap b6 "com/example/kept_backlog/keptbacklog/QueueStats" "dead" "J" (.long x3) := ((Fc7_3.ext E8).keep Kc9 (ninS (Nat.ne_of_lt (Nat.lt_of_lt_of_le (Nat.lt_of_lt_of_le A6.lt Kc7.1) (Nat.le_of_eq g8.symm))) nin0))
                      have F36 : Fld Z T9.heap b6 "com/example/kept_backlog/keptbacklog/QueueStats" "completed" "J" (.long x4) := ((Fc7_4.ext E8).keep Kc9 (ninS (Nat.ne_of_lt (Nat.lt_of_lt_of_le (Nat.lt_of_lt_of_le A6.lt Kc7.1) (Nat.le_of_eq g8.symm))) nin0))
                      have F38 : Exa Z T9.heap b6 "com/example/kept_backlog/keptbacklog/QueueStats" := ((Ec7.ext E8).keep Kc9)
                      obtain ⟨cq37, kq37, q37a, q37b, q37c⟩ := isOf hZ rfl F38
                      obtain ⟨_, _, ⟨T37, L37, k37, n37⟩, -, X37, ⟨Lc37, hQ37, l37, y37, z37⟩, st37⟩ := X9.virtualBack hx (y := (⟨"com/example/kept_backlog/keptbacklog/QueueStats", "equals", "(Ljava/lang/Object;)Z"⟩ : MethodName)) (z := (⟨"com/example/kept_backlog/keptbacklog/QueueStats", "equals", "(Ljava/lang/Object;)Z"⟩ : MethodName)) hown (mvT hZ (hw _ (List.mem_of_getElem? (i := 19) rfl))) (mvT hZ (hw _ (List.mem_of_getElem? (i := 20) rfl))) (notFace_of_selects (args := #[]) (mvT hZ (hw _ (List.mem_of_getElem? (i := 22) rfl)))) (mvT hZ (hw _ (List.mem_of_getElem? (i := 22) rfl))) (mvT hZ (hw _ (List.mem_of_getElem? (i := 21) rfl))) (by decide) (backOf (W := 0) (rm3q l Z a0 hw [] b6 b8 x0 x1 x2 x3 x4 y0 y1 y2 y3 y4 T9.heap n0 (Nat.le_trans (Nat.le_trans (Nat.le_trans (Nat.le_trans Z0 E6.1) Kc7.1) E8.1) Kc9.1) Ec9 F32 F33 F34 F35 F36 Fc9_0 Fc9_1 Fc9_2 Fc9_3 Fc9_4) hZ (hw _ (List.mem_of_getElem? (i := 23) rfl)) (hw _ (List.mem_of_getElem? (i := 2) rfl)) (by decide) (by decide)) q37a q37c (g := (mkF m 223 #[.val (.long x0), .second, .val (.long x1), .second, .val (.long x2), .second, .val (.long x3), .second, .val (.long x4), .second, .val (.int x5), .val (.long y0), .second, .val (.long y1), .second, .val (.long y2), .second, .val (.long y3), .second, .val (.long y4), .second, .val (.ref b6), .val (.ref b8), .val (.int kk), .val (.ref b8), .val (.int (0 : Int32)), .unset] [(.ref b8), (.ref b6)])) rfl (by rw [hml]; rfl) (Steps.refl _) (argsL := [(.ref b8)]) (rest := []) (lenOf pd_3 rfl) rfl (by show 2 * 0 + _ ≤ _; exact Nat.le_of_eq rfl) (hb hby at_223) (fun _ _ => ⟨rfl, rfl, (by decide : 2 + 0 ≤ _), (by decide : 10 + 0 ≤ _)⟩)
                      dsimp only [Pt.U, Pt.locs, Pt.cells, Pt.slots] at X37 l37 y37 z37 st37 hQ37
                      subst l37 y37 z37
                      obtain ⟨rfl, N37q, eh37⟩ := hQ37
                      have N37 := Fr.app N9 N37q
                      rw [if_pos hc135_11.symm, if_pos hc142_12.symm, if_pos hc150_13.symm, if_neg (fun q => hc158_14 q.symm)] at st37
                      refine Ends.pre (T' := T37.setTop (mkF m 226 #[.val (.long x0), .second, .val (.long x1), .second, .val (.long x2), .second, .val (.long x3), .second, .val (.long x4), .second, .val (.int x5), .val (.long y0), .second, .val (.long y1), .second, .val (.long y2), .second, .val (.long y3), .second, .val (.long y4), .second, .val (.ref b6), .val (.ref b8), .val (.int kk), .val (.ref b8), .val (.int (0 : Int32)), .unset] [(.int (0 : Int32))])) (fun t k => st37.trans k) ?_
                      refine Ends.pre (T' := T37.setTop (mkF m 228 #[.val (.long x0), .second, .val (.long x1), .second, .val (.long x2), .second, .val (.long x3), .second, .val (.long x4), .second, .val (.int x5), .val (.long y0), .second, .val (.long y1), .second, .val (.long y2), .second, .val (.long y3), .second, .val (.long y4), .second, .val (.ref b6), .val (.ref b8), .val (.int kk), .val (.ref b8), .val (.int (0 : Int32)), .val (.int (0 : Int32))] [])) (fun t k => XS.istore (g := (mkF m 226 #[.val (.long x0), .second, .val (.long x1), .second, .val (.long x2), .second, .val (.long x3), .second, .val (.long x4), .second, .val (.int x5), .val (.long y0), .second, .val (.long y1), .second, .val (.long y2), .second, .val (.long y3), .second, .val (.long y4), .second, .val (.ref b6), .val (.ref b8), .val (.int kk), .val (.ref b8), .val (.int (0 : Int32)), .unset] [(.int (0 : Int32))])) X37.here hx rfl (hb hby at_226) rfl (l' := #[.val (.long x0), .second, .val (.long x1), .second, .val (.long x2), .second, .val (.long x3), .second, .val (.long x4), .second, .val (.int x5), .val (.long y0), .second, .val (.long y1), .second, .val (.long y2), .second, .val (.long y3), .second, .val (.long y4), .second, .val (.ref b6), .val (.ref b8), .val (.int kk), .val (.ref b8), .val (.int (0 : Int32)), .val (.int (0 : Int32))]) rfl k) ?_
                      refine Ends.pre (T' := T37.setTop (mkF m 230 #[.val (.long x0), .second, .val (.long x1), .second, .val (.long x2), .second, .val (.long x3), .second, .val (.long x4), .second, .val (.int x5), .val (.long y0), .second, .val (.long y1), .second, .val (.long y2), .second, .val (.long y3), .second, .val (.long y4), .second, .val (.ref b6), .val (.ref b8), .val (.int kk), .val (.ref b8), .val (.int (0 : Int32)), .val (.int (0 : Int32))] [(.int kk)])) (fun t k => XS.iload X37.here hx rfl (hb hby at_228) rfl k) ?_
                      refine Ends.pre (T' := T37.setTop (mkF m 233 #[.val (.long x0), .second, .val (.long x1), .second, .val (.long x2), .second, .val (.long x3), .second, .val (.long x4), .second, .val (.int x5), .val (.long y0), .second, .val (.long y1), .second, .val (.long y2), .second, .val (.long y3), .second, .val (.long y4), .second, .val (.ref b6), .val (.ref b8), .val (.int kk), .val (.ref b8), .val (.int (0 : Int32)), .val (.int (0 : Int32))] [])) (fun t k => XS.ifNo X37.here hx rfl (hb hby at_230) rfl (Jvm.Free.XT.i0_ne_f hc124_10) k) ?_
                      refine Ends.pre (T' := T37.setTop (mkF m 235 #[.val (.long x0), .second, .val (.long x1), .second, .val (.long x2), .second, .val (.long x3), .second, .val (.long x4), .second, .val (.int x5), .val (.long y0), .second, .val (.long y1), .second, .val (.long y2), .second, .val (.long y3), .second, .val (.long y4), .second, .val (.ref b6), .val (.ref b8), .val (.int kk), .val (.ref b8), .val (.int (0 : Int32)), .val (.int (0 : Int32))] [(.int (0 : Int32))])) (fun t k => XS.iload X37.here hx rfl (hb hby at_233) rfl k) ?_
                      refine Ends.pre (T' := T37.setTop (mkF m 237 #[.val (.long x0), .second, .val (.long x1), .second, .val (.long x2), .second, .val (.long x3), .second, .val (.long x4), .second, .val (.int x5), .val (.long y0), .second, .val (.long y1), .second, .val (.long y2), .second, .val (.long y3), .second, .val (.long y4), .second, .val (.ref b6), .val (.ref b8), .val (.int kk), .val (.ref b8), .val (.int (0 : Int32)), .val (.int (0 : Int32))] [(.int (0 : Int32)), (.int (0 : Int32))])) (fun t k => XS.iload X37.here hx rfl (hb hby at_235) rfl k) ?_
                      refine Ends.pre (T' := T37.setTop (mkF m 240 #[.val (.long x0), .second, .val (.long x1), .second, .val (.long x2), .second, .val (.long x3), .second, .val (.long x4), .second, .val (.int x5), .val (.long y0), .second, .val (.long y1), .second, .val (.long y2), .second, .val (.long y3), .second, .val (.long y4), .second, .val (.ref b6), .val (.ref b8), .val (.int kk), .val (.ref b8), .val (.int (0 : Int32)), .val (.int (0 : Int32))] [])) (fun t k => XS.icmpNo X37.here hx rfl (hb hby at_237) rfl (by decide) k) ?_
                      refine Ends.pre (T' := T37.setTop (mkF m 242 #[.val (.long x0), .second, .val (.long x1), .second, .val (.long x2), .second, .val (.long x3), .second, .val (.long x4), .second, .val (.int x5), .val (.long y0), .second, .val (.long y1), .second, .val (.long y2), .second, .val (.long y3), .second, .val (.long y4), .second, .val (.ref b6), .val (.ref b8), .val (.int kk), .val (.ref b8), .val (.int (0 : Int32)), .val (.int (0 : Int32))] [(.ref b8)])) (fun t k => XS.aload X37.here hx rfl (hb hby at_240) rfl rfl k) ?_
                      refine Ends.pre (T' := T37.setTop (mkF m 244 #[.val (.long x0), .second, .val (.long x1), .second, .val (.long x2), .second, .val (.long x3), .second, .val (.long x4), .second, .val (.int x5), .val (.long y0), .second, .val (.long y1), .second, .val (.long y2), .second, .val (.long y3), .second, .val (.long y4), .second, .val (.ref b6), .val (.ref b8), .val (.int kk), .val (.ref b8), .val (.int (0 : Int32)), .val (.int (0 : Int32))] [(.ref b6), (.ref b8)])) (fun t k => XS.aload X37.here hx rfl (hb hby at_242) rfl rfl k) ?_
                      obtain ⟨cq39, kq39, q39a, q39b, q39c⟩ := isOf hZ eh37 Ec9
                      obtain ⟨_, _, ⟨T39, L39, k39, n39⟩, -, X39, ⟨Lc39, hQ39, l39, y39, z39⟩, st39⟩ := X37.virtualBack hx (y := (⟨"com/example/kept_backlog/keptbacklog/QueueStats", "equals", "(Ljava/lang/Object;)Z"⟩ : MethodName)) (z := (⟨"com/example/kept_backlog/keptbacklog/QueueStats", "equals", "(Ljava/lang/Object;)Z"⟩ : MethodName)) hown (mvT hZ (hw _ (List.mem_of_getElem? (i := 19) rfl))) (mvT hZ (hw _ (List.mem_of_getElem? (i := 20) rfl))) (notFace_of_selects (args := #[]) (mvT hZ (hw _ (List.mem_of_getElem? (i := 22) rfl)))) (mvT hZ (hw _ (List.mem_of_getElem? (i := 22) rfl))) (mvT hZ (hw _ (List.mem_of_getElem? (i := 21) rfl))) (by decide) (backOf (W := 0) (rm3q l Z a0 hw [] b8 b6 y0 y1 y2 y3 y4 x0 x1 x2 x3 x4 T9.heap n0 (Nat.le_trans (Nat.le_trans (Nat.le_trans (Nat.le_trans Z0 E6.1) Kc7.1) E8.1) Kc9.1) F38 Fc9_0 Fc9_1 Fc9_2 Fc9_3 Fc9_4 F32 F33 F34 F35 F36) hZ (hw _ (List.mem_of_getElem? (i := 23) rfl)) (hw _ (List.mem_of_getElem? (i := 2) rfl)) (by decide) (by decide)) q39a q39c (g := (mkF m 244 #[.val (.long x0), .second, .val (.long x1), .second, .val (.long x2), .second, .val (.long x3), .second, .val (.long x4), .second, .val (.int x5), .val (.long y0), .second, .val (.long y1), .second, .val (.long y2), .second, .val (.long y3), .second, .val (.long y4), .second, .val (.ref b6), .val (.ref b8), .val (.int kk), .val (.ref b8), .val (.int (0 : Int32)), .val (.int (0 : Int32))] [(.ref b6), (.ref b8)])) rfl (by rw [hml]; rfl) (Steps.refl _) (argsL := [(.ref b6)]) (rest := []) (lenOf pd_3 rfl) rfl (by show 2 * 0 + _ ≤ _; exact Nat.le_of_eq rfl) (hb hby at_244) (fun _ _ => ⟨rfl, eh37, (by decide : 2 + 0 ≤ _), (by decide : 10 + 0 ≤ _)⟩)
                      dsimp only [Pt.U, Pt.locs, Pt.cells, Pt.slots] at X39 l39 y39 z39 st39 hQ39
                      subst l39 y39 z39
                      obtain ⟨rfl, N39q, eh39⟩ := hQ39
                      have N39 := Fr.app N37 N39q
                      rw [if_pos hc135_11, if_pos hc142_12, if_pos hc150_13, if_neg hc158_14] at st39
                      refine Ends.pre (T' := T39.setTop (mkF m 247 #[.val (.long x0), .second, .val (.long x1), .second, .val (.long x2), .second, .val (.long x3), .second, .val (.long x4), .second, .val (.int x5), .val (.long y0), .second, .val (.long y1), .second, .val (.long y2), .second, .val (.long y3), .second, .val (.long y4), .second, .val (.ref b6), .val (.ref b8), .val (.int kk), .val (.ref b8), .val (.int (0 : Int32)), .val (.int (0 : Int32))] [(.int (0 : Int32))])) (fun t k => st39.trans k) ?_
                      refine Ends.pre (T' := T39.setTop (mkF m 249 #[.val (.long x0), .second, .val (.long x1), .second, .val (.long x2), .second, .val (.long x3), .second, .val (.long x4), .second, .val (.int x5), .val (.long y0), .second, .val (.long y1), .second, .val (.long y2), .second, .val (.long y3), .second, .val (.long y4), .second, .val (.ref b6), .val (.ref b8), .val (.int kk), .val (.ref b8), .val (.int (0 : Int32)), .val (.int (0 : Int32))] [(.int (0 : Int32)), (.int (0 : Int32))])) (fun t k => XS.iload X39.here hx rfl (hb hby at_247) rfl k) ?_
                      refine Ends.pre (T' := T39.setTop (mkF m 252 #[.val (.long x0), .second, .val (.long x1), .second, .val (.long x2), .second, .val (.long x3), .second, .val (.long x4), .second, .val (.int x5), .val (.long y0), .second, .val (.long y1), .second, .val (.long y2), .second, .val (.long y3), .second, .val (.long y4), .second, .val (.ref b6), .val (.ref b8), .val (.int kk), .val (.ref b8), .val (.int (0 : Int32)), .val (.int (0 : Int32))] [])) (fun t k => XS.icmpNo X39.here hx rfl (hb hby at_249) rfl (by decide) k) ?_
                      refine Ends.pre (T' := T39.setTop (mkF m 253 #[.val (.long x0), .second, .val (.long x1), .second, .val (.long x2), .second, .val (.long x3), .second, .val (.long x4), .second, .val (.int x5), .val (.long y0), .second, .val (.long y1), .second, .val (.long y2), .second, .val (.long y3), .second, .val (.long y4), .second, .val (.ref b6), .val (.ref b8), .val (.int kk), .val (.ref b8), .val (.int (0 : Int32)), .val (.int (0 : Int32))] [(.int (1 : Int32))])) (fun t k => XS.iconst X39.here hx rfl (hb hby at_252) k) ?_
                      refine Ends.pre (T' := T39.setTop (mkF m 257 #[.val (.long x0), .second, .val (.long x1), .second, .val (.long x2), .second, .val (.long x3), .second, .val (.long x4), .second, .val (.int x5), .val (.long y0), .second, .val (.long y1), .second, .val (.long y2), .second, .val (.long y3), .second, .val (.long y4), .second, .val (.ref b6), .val (.ref b8), .val (.int kk), .val (.ref b8), .val (.int (0 : Int32)), .val (.int (0 : Int32))] [(.int (1 : Int32))])) (fun t k => XS.goto X39.here hx rfl (pc0 := 253) (pc' := 257) rfl (hb hby at_253) (by decide) (by decide) k) ?_
                      exact Ends.ret (w := (.int (1 : Int32))) X39 hx Bd.notSynchronized Bd.returns rfl (Or.inl ⟨rfl, Or.inr (Or.inl rfl), _, rfl⟩) (hb hby at_257) eh39 ⟨rfl, N39⟩ (by decide) (by decide)
                  · refine Ends.pre (T' := T9.setTop (mkF m 173 #[.val (.long x0), .second, .val (.long x1), .second, .val (.long x2), .second, .val (.long x3), .second, .val (.long x4), .second, .val (.int x5), .val (.long y0), .second, .val (.long y1), .second, .val (.long y2), .second, .val (.long y3), .second, .val (.long y4), .second, .val (.ref b6), .val (.ref b8), .val (.int kk), .val (.ref b8), .unset, .unset] [])) (fun t k => XS.ifYes X9.here hx rfl (pc0 := 150) (pc' := 173) rfl (hb hby at_150) rfl (Jvm.Free.XT.i0_ne_t (fun q => hc150_13 ((lw_eq _ _).mp q))) (by decide) (by decide) k) ?_
                    refine Ends.pre (T' := T9.setTop (mkF m 174 #[.val (.long x0), .second, .val (.long x1), .second, .val (.long x2), .second, .val (.long x3), .second, .val (.long x4), .second, .val (.int x5), .val (.long y0), .second, .val (.long y1), .second, .val (.long y2), .second, .val (.long y3), .second, .val (.long y4), .second, .val (.ref b6), .val (.ref b8), .val (.int kk), .val (.ref b8), .unset, .unset] [(.int (0 : Int32))])) (fun t k => XS.iconst X9.here hx rfl (hb hby at_173) k) ?_
                    refine Ends.pre (T' := T9.setTop (mkF m 176 #[.val (.long x0), .second, .val (.long x1), .second, .val (.long x2), .second, .val (.long x3), .second, .val (.long x4), .second, .val (.int x5), .val (.long y0), .second, .val (.long y1), .second, .val (.long y2), .second, .val (.long y3), .second, .val (.long y4), .second, .val (.ref b6), .val (.ref b8), .val (.int kk), .val (.ref b8), .val (.int (0 : Int32)), .unset] [])) (fun t k => XS.istore (g := (mkF m 174 #[.val (.long x0), .second, .val (.long x1), .second, .val (.long x2), .second, .val (.long x3), .second, .val (.long x4), .second, .val (.int x5), .val (.long y0), .second, .val (.long y1), .second, .val (.long y2), .second, .val (.long y3), .second, .val (.long y4), .second, .val (.ref b6), .val (.ref b8), .val (.int kk), .val (.ref b8), .unset, .unset] [(.int (0 : Int32))])) X9.here hx rfl (hb hby at_174) rfl (l' := #[.val (.long x0), .second, .val (.long x1), .second, .val (.long x2), .second, .val (.long x3), .second, .val (.long x4), .second, .val (.int x5), .val (.long y0), .second, .val (.long y1), .second, .val (.long y2), .second, .val (.long y3), .second, .val (.long y4), .second, .val (.ref b6), .val (.ref b8), .val (.int kk), .val (.ref b8), .val (.int (0 : Int32)), .unset]) rfl k) ?_
                    refine Ends.pre (T' := T9.setTop (mkF m 219 #[.val (.long x0), .second, .val (.long x1), .second, .val (.long x2), .second, .val (.long x3), .second, .val (.long x4), .second, .val (.int x5), .val (.long y0), .second, .val (.long y1), .second, .val (.long y2), .second, .val (.long y3), .second, .val (.long y4), .second, .val (.ref b6), .val (.ref b8), .val (.int kk), .val (.ref b8), .val (.int (0 : Int32)), .unset] [])) (fun t k => XS.goto X9.here hx rfl (pc0 := 176) (pc' := 219) rfl (hb hby at_176) (by decide) (by decide) k) ?_
                    refine Ends.pre (T' := T9.setTop (mkF m 221 #[.val (.long x0), .second, .val (.long x1), .second, .val (.long x2), .second, .val (.long x3), .second, .val (.long x4), .second, .val (.int x5), .val (.long y0), .second, .val (.long y1), .second, .val (.long y2), .second, .val (.long y3), .second, .val (.long y4), .second, .val (.ref b6), .val (.ref b8), .val (.int kk), .val (.ref b8), .val (.int (0 : Int32)), .unset] [(.ref b6)])) (fun t k => XS.aload X9.here hx rfl (hb hby at_219) rfl rfl k) ?_
                    refine Ends.pre (T' := T9.setTop (mkF m 223 #[.val (.long x0), .second, .val (.long x1), .second, .val (.long x2), .second, .val (.long x3), .second, .val (.long x4), .second, .val (.int x5), .val (.long y0), .second, .val (.long y1), .second, .val (.long y2), .second, .val (.long y3), .second, .val (.long y4), .second, .val (.ref b6), .val (.ref b8), .val (.int kk), .val (.ref b8), .val (.int (0 : Int32)), .unset] [(.ref b8), (.ref b6)])) (fun t k => XS.aload X9.here hx rfl (hb hby at_221) rfl rfl k) ?_
                    have F40 : Fld Z T9.heap b6 "com/example/kept_backlog/keptbacklog/QueueStats" "waiting" "J" (.long x0) := ((Fc7_0.ext E8).keep Kc9 (ninS (Nat.ne_of_lt (Nat.lt_of_lt_of_le (Nat.lt_of_lt_of_le A6.lt Kc7.1) (Nat.le_of_eq g8.symm))) nin0))
                    have F41 : Fld Z T9.heap b6 "com/example/kept_backlog/keptbacklog/QueueStats" "delayed" "J" (.long x1) := ((Fc7_1.ext E8).keep Kc9 (ninS (Nat.ne_of_lt (Nat.lt_of_lt_of_le (Nat.lt_of_lt_of_le A6.lt Kc7.1) (Nat.le_of_eq g8.symm))) nin0))
                    have F42 : Fld Z T9.heap b6 "com/example/kept_backlog/keptbacklog/QueueStats" "leased" "J" (.long x2) := ((Fc7_2.ext E8).keep Kc9 (ninS (Nat.ne_of_lt (Nat.lt_of_lt_of_le (Nat.lt_of_lt_of_le A6.lt Kc7.1) (Nat.le_of_eq g8.symm))) nin0))
                    have F43 : Fld Z T9.heap b6 "com/example/kept_backlog/keptbacklog/QueueStats" "dead" "J" (.long x3) := ((Fc7_3.ext E8).keep Kc9 (ninS (Nat.ne_of_lt (Nat.lt_of_lt_of_le (Nat.lt_of_lt_of_le A6.lt Kc7.1) (Nat.le_of_eq g8.symm))) nin0))
                    have F44 : Fld Z T9.heap b6 "com/example/kept_backlog/keptbacklog/QueueStats" "completed" "J" (.long x4) := ((Fc7_4.ext E8).keep Kc9 (ninS (Nat.ne_of_lt (Nat.lt_of_lt_of_le (Nat.lt_of_lt_of_le A6.lt Kc7.1) (Nat.le_of_eq g8.symm))) nin0))
                    have F46 : Exa Z T9.heap b6 "com/example/kept_backlog/keptbacklog/QueueStats" := ((Ec7.ext E8).keep Kc9)
                    obtain ⟨cq45, kq45, q45a, q45b, q45c⟩ := isOf hZ rfl F46
                    obtain ⟨_, _, ⟨T45, L45, k45, n45⟩, -, X45, ⟨Lc45, hQ45, l45, y45, z45⟩, st45⟩ := X9.virtualBack hx (y := (⟨"com/example/kept_backlog/keptbacklog/QueueStats", "equals", "(Ljava/lang/Object;)Z"⟩ : MethodName)) (z := (⟨"com/example/kept_backlog/keptbacklog/QueueStats", "equals", "(Ljava/lang/Object;)Z"⟩ : MethodName)) hown (mvT hZ (hw _ (List.mem_of_getElem? (i := 19) rfl))) (mvT hZ (hw _ (List.mem_of_getElem? (i := 20) rfl))) (notFace_of_selects (args := #[]) (mvT hZ (hw _ (List.mem_of_getElem? (i := 22) rfl)))) (mvT hZ (hw _ (List.mem_of_getElem? (i := 22) rfl))) (mvT hZ (hw _ (List.mem_of_getElem? (i := 21) rfl))) (by decide) (backOf (W := 0) (rm3q l Z a0 hw [] b6 b8 x0 x1 x2 x3 x4 y0 y1 y2 y3 y4 T9.heap n0 (Nat.le_trans (Nat.le_trans (Nat.le_trans (Nat.le_trans Z0 E6.1) Kc7.1) E8.1) Kc9.1) Ec9 F40 F41 F42 F43 F44 Fc9_0 Fc9_1 Fc9_2 Fc9_3 Fc9_4) hZ (hw _ (List.mem_of_getElem? (i := 23) rfl)) (hw _ (List.mem_of_getElem? (i := 2) rfl)) (by decide) (by decide)) q45a q45c (g := (mkF m 223 #[.val (.long x0), .second, .val (.long x1), .second, .val (.long x2), .second, .val (.long x3), .second, .val (.long x4), .second, .val (.int x5), .val (.long y0), .second, .val (.long y1), .second, .val (.long y2), .second, .val (.long y3), .second, .val (.long y4), .second, .val (.ref b6), .val (.ref b8), .val (.int kk), .val (.ref b8), .val (.int (0 : Int32)), .unset] [(.ref b8), (.ref b6)])) rfl (by rw [hml]; rfl) (Steps.refl _) (argsL := [(.ref b8)]) (rest := []) (lenOf pd_3 rfl) rfl (by show 2 * 0 + _ ≤ _; exact Nat.le_of_eq rfl) (hb hby at_223) (fun _ _ => ⟨rfl, rfl, (by decide : 2 + 0 ≤ _), (by decide : 10 + 0 ≤ _)⟩)
                    dsimp only [Pt.U, Pt.locs, Pt.cells, Pt.slots] at X45 l45 y45 z45 st45 hQ45
                    subst l45 y45 z45
                    obtain ⟨rfl, N45q, eh45⟩ := hQ45
                    have N45 := Fr.app N9 N45q
                    rw [if_pos hc135_11.symm, if_pos hc142_12.symm, if_neg (fun q => hc150_13 q.symm)] at st45
                    refine Ends.pre (T' := T45.setTop (mkF m 226 #[.val (.long x0), .second, .val (.long x1), .second, .val (.long x2), .second, .val (.long x3), .second, .val (.long x4), .second, .val (.int x5), .val (.long y0), .second, .val (.long y1), .second, .val (.long y2), .second, .val (.long y3), .second, .val (.long y4), .second, .val (.ref b6), .val (.ref b8), .val (.int kk), .val (.ref b8), .val (.int (0 : Int32)), .unset] [(.int (0 : Int32))])) (fun t k => st45.trans k) ?_
                    refine Ends.pre (T' := T45.setTop (mkF m 228 #[.val (.long x0), .second, .val (.long x1), .second, .val (.long x2), .second, .val (.long x3), .second, .val (.long x4), .second, .val (.int x5), .val (.long y0), .second, .val (.long y1), .second, .val (.long y2), .second, .val (.long y3), .second, .val (.long y4), .second, .val (.ref b6), .val (.ref b8), .val (.int kk), .val (.ref b8), .val (.int (0 : Int32)), .val (.int (0 : Int32))] [])) (fun t k => XS.istore (g := (mkF m 226 #[.val (.long x0), .second, .val (.long x1), .second, .val (.long x2), .second, .val (.long x3), .second, .val (.long x4), .second, .val (.int x5), .val (.long y0), .second, .val (.long y1), .second, .val (.long y2), .second, .val (.long y3), .second, .val (.long y4), .second, .val (.ref b6), .val (.ref b8), .val (.int kk), .val (.ref b8), .val (.int (0 : Int32)), .unset] [(.int (0 : Int32))])) X45.here hx rfl (hb hby at_226) rfl (l' := #[.val (.long x0), .second, .val (.long x1), .second, .val (.long x2), .second, .val (.long x3), .second, .val (.long x4), .second, .val (.int x5), .val (.long y0), .second, .val (.long y1), .second, .val (.long y2), .second, .val (.long y3), .second, .val (.long y4), .second, .val (.ref b6), .val (.ref b8), .val (.int kk), .val (.ref b8), .val (.int (0 : Int32)), .val (.int (0 : Int32))]) rfl k) ?_
                    refine Ends.pre (T' := T45.setTop (mkF m 230 #[.val (.long x0), .second, .val (.long x1), .second, .val (.long x2), .second, .val (.long x3), .second, .val (.long x4), .second, .val (.int x5), .val (.long y0), .second, .val (.long y1), .second, .val (.long y2), .second, .val (.long y3), .second, .val (.long y4), .second, .val (.ref b6), .val (.ref b8), .val (.int kk), .val (.ref b8), .val (.int (0 : Int32)), .val (.int (0 : Int32))] [(.int kk)])) (fun t k => XS.iload X45.here hx rfl (hb hby at_228) rfl k) ?_
                    refine Ends.pre (T' := T45.setTop (mkF m 233 #[.val (.long x0), .second, .val (.long x1), .second, .val (.long x2), .second, .val (.long x3), .second, .val (.long x4), .second, .val (.int x5), .val (.long y0), .second, .val (.long y1), .second, .val (.long y2), .second, .val (.long y3), .second, .val (.long y4), .second, .val (.ref b6), .val (.ref b8), .val (.int kk), .val (.ref b8), .val (.int (0 : Int32)), .val (.int (0 : Int32))] [])) (fun t k => XS.ifNo X45.here hx rfl (hb hby at_230) rfl (Jvm.Free.XT.i0_ne_f hc124_10) k) ?_
                    refine Ends.pre (T' := T45.setTop (mkF m 235 #[.val (.long x0), .second, .val (.long x1), .second, .val (.long x2), .second, .val (.long x3), .second, .val (.long x4), .second, .val (.int x5), .val (.long y0), .second, .val (.long y1), .second, .val (.long y2), .second, .val (.long y3), .second, .val (.long y4), .second, .val (.ref b6), .val (.ref b8), .val (.int kk), .val (.ref b8), .val (.int (0 : Int32)), .val (.int (0 : Int32))] [(.int (0 : Int32))])) (fun t k => XS.iload X45.here hx rfl (hb hby at_233) rfl k) ?_
                    refine Ends.pre (T' := T45.setTop (mkF m 237 #[.val (.long x0), .second, .val (.long x1), .second, .val (.long x2), .second, .val (.long x3), .second, .val (.long x4), .second, .val (.int x5), .val (.long y0), .second, .val (.long y1), .second, .val (.long y2), .second, .val (.long y3), .second, .val (.long y4), .second, .val (.ref b6), .val (.ref b8), .val (.int kk), .val (.ref b8), .val (.int (0 : Int32)), .val (.int (0 : Int32))] [(.int (0 : Int32)), (.int (0 : Int32))])) (fun t k => XS.iload X45.here hx rfl (hb hby at_235) rfl k) ?_
                    refine Ends.pre (T' := T45.setTop (mkF m 240 #[.val (.long x0), .second, .val (.long x1), .second, .val (.long x2), .second, .val (.long x3), .second, .val (.long x4), .second, .val (.int x5), .val (.long y0), .second, .val (.long y1), .second, .val (.long y2), .second, .val (.long y3), .second, .val (.long y4), .second, .val (.ref b6), .val (.ref b8), .val (.int kk), .val (.ref b8), .val (.int (0 : Int32)), .val (.int (0 : Int32))] [])) (fun t k => XS.icmpNo X45.here hx rfl (hb hby at_237) rfl (by decide) k) ?_
                    refine Ends.pre (T' := T45.setTop (mkF m 242 #[.val (.long x0), .second, .val (.long x1), .second, .val (.long x2), .second, .val (.long x3), .second, .val (.long x4), .second, .val (.int x5), .val (.long y0), .second, .val (.long y1), .second, .val (.long y2), .second, .val (.long y3), .second, .val (.long y4), .second, .val (.ref b6), .val (.ref b8), .val (.int kk), .val (.ref b8), .val (.int (0 : Int32)), .val (.int (0 : Int32))] [(.ref b8)])) (fun t k => XS.aload X45.here hx rfl (hb hby at_240) rfl rfl k) ?_
                    refine Ends.pre (T' := T45.setTop (mkF m 244 #[.val (.long x0), .second, .val (.long x1), .second, .val (.long x2), .second, .val (.long x3), .second, .val (.long x4), .second, .val (.int x5), .val (.long y0), .second, .val (.long y1), .second, .val (.long y2), .second, .val (.long y3), .second, .val (.long y4), .second, .val (.ref b6), .val (.ref b8), .val (.int kk), .val (.ref b8), .val (.int (0 : Int32)), .val (.int (0 : Int32))] [(.ref b6), (.ref b8)])) (fun t k => XS.aload X45.here hx rfl (hb hby at_242) rfl rfl k) ?_
                    obtain ⟨cq47, kq47, q47a, q47b, q47c⟩ := isOf hZ eh45 Ec9
                    obtain ⟨_, _, ⟨T47, L47, k47, n47⟩, -, X47, ⟨Lc47, hQ47, l47, y47, z47⟩, st47⟩ := X45.virtualBack hx (y := (⟨"com/example/kept_backlog/keptbacklog/QueueStats", "equals", "(Ljava/lang/Object;)Z"⟩ : MethodName)) (z := (⟨"com/example/kept_backlog/keptbacklog/QueueStats", "equals", "(Ljava/lang/Object;)Z"⟩ : MethodName)) hown (mvT hZ (hw _ (List.mem_of_getElem? (i := 19) rfl))) (mvT hZ (hw _ (List.mem_of_getElem? (i := 20) rfl))) (notFace_of_selects (args := #[]) (mvT hZ (hw _ (List.mem_of_getElem? (i := 22) rfl)))) (mvT hZ (hw _ (List.mem_of_getElem? (i := 22) rfl))) (mvT hZ (hw _ (List.mem_of_getElem? (i := 21) rfl))) (by decide) (backOf (W := 0) (rm3q l Z a0 hw [] b8 b6 y0 y1 y2 y3 y4 x0 x1 x2 x3 x4 T9.heap n0 (Nat.le_trans (Nat.le_trans (Nat.le_trans (Nat.le_trans Z0 E6.1) Kc7.1) E8.1) Kc9.1) F46 Fc9_0 Fc9_1 Fc9_2 Fc9_3 Fc9_4 F40 F41 F42 F43 F44) hZ (hw _ (List.mem_of_getElem? (i := 23) rfl)) (hw _ (List.mem_of_getElem? (i := 2) rfl)) (by decide) (by decide)) q47a q47c (g := (mkF m 244 #[.val (.long x0), .second, .val (.long x1), .second, .val (.long x2), .second, .val (.long x3), .second, .val (.long x4), .second, .val (.int x5), .val (.long y0), .second, .val (.long y1), .second, .val (.long y2), .second, .val (.long y3), .second, .val (.long y4), .second, .val (.ref b6), .val (.ref b8), .val (.int kk), .val (.ref b8), .val (.int (0 : Int32)), .val (.int (0 : Int32))] [(.ref b6), (.ref b8)])) rfl (by rw [hml]; rfl) (Steps.refl _) (argsL := [(.ref b6)]) (rest := []) (lenOf pd_3 rfl) rfl (by show 2 * 0 + _ ≤ _; exact Nat.le_of_eq rfl) (hb hby at_244) (fun _ _ => ⟨rfl, eh45, (by decide : 2 + 0 ≤ _), (by decide : 10 + 0 ≤ _)⟩)
                    dsimp only [Pt.U, Pt.locs, Pt.cells, Pt.slots] at X47 l47 y47 z47 st47 hQ47
                    subst l47 y47 z47
                    obtain ⟨rfl, N47q, eh47⟩ := hQ47
                    have N47 := Fr.app N45 N47q
                    rw [if_pos hc135_11, if_pos hc142_12, if_neg hc150_13] at st47
                    refine Ends.pre (T' := T47.setTop (mkF m 247 #[.val (.long x0), .second, .val (.long x1), .second, .val (.long x2), .second, .val (.long x3), .second, .val (.long x4), .second, .val (.int x5), .val (.long y0), .second, .val (.long y1), .second, .val (.long y2), .second, .val (.long y3), .second, .val (.long y4), .second, .val (.ref b6), .val (.ref b8), .val (.int kk), .val (.ref b8), .val (.int (0 : Int32)), .val (.int (0 : Int32))] [(.int (0 : Int32))])) (fun t k => st47.trans k) ?_
                    refine Ends.pre (T' := T47.setTop (mkF m 249 #[.val (.long x0), .second, .val (.long x1), .second, .val (.long x2), .second, .val (.long x3), .second, .val (.long x4), .second, .val (.int x5), .val (.long y0), .second, .val (.long y1), .second, .val (.long y2), .second, .val (.long y3), .second, .val (.long y4), .second, .val (.ref b6), .val (.ref b8), .val (.int kk), .val (.ref b8), .val (.int (0 : Int32)), .val (.int (0 : Int32))] [(.int (0 : Int32)), (.int (0 : Int32))])) (fun t k => XS.iload X47.here hx rfl (hb hby at_247) rfl k) ?_
                    refine Ends.pre (T' := T47.setTop (mkF m 252 #[.val (.long x0), .second, .val (.long x1), .second, .val (.long x2), .second, .val (.long x3), .second, .val (.long x4), .second, .val (.int x5), .val (.long y0), .second, .val (.long y1), .second, .val (.long y2), .second, .val (.long y3), .second, .val (.long y4), .second, .val (.ref b6), .val (.ref b8), .val (.int kk), .val (.ref b8), .val (.int (0 : Int32)), .val (.int (0 : Int32))] [])) (fun t k => XS.icmpNo X47.here hx rfl (hb hby at_249) rfl (by decide) k) ?_
                    refine Ends.pre (T' := T47.setTop (mkF m 253 #[.val (.long x0), .second, .val (.long x1), .second, .val (.long x2), .second, .val (.long x3), .second, .val (.long x4), .second, .val (.int x5), .val (.long y0), .second, .val (.long y1), .second, .val (.long y2), .second, .val (.long y3), .second, .val (.long y4), .second, .val (.ref b6), .val (.ref b8), .val (.int kk), .val (.ref b8), .val (.int (0 : Int32)), .val (.int (0 : Int32))] [(.int (1 : Int32))])) (fun t k => XS.iconst X47.here hx rfl (hb hby at_252) k) ?_
                    refine Ends.pre (T' := T47.setTop (mkF m 257 #[.val (.long x0), .second, .val (.long x1), .second, .val (.long x2), .second, .val (.long x3), .second, .val (.long x4), .second, .val (.int x5), .val (.long y0), .second, .val (.long y1), .second, .val (.long y2), .second, .val (.long y3), .second, .val (.long y4), .second, .val (.ref b6), .val (.ref b8), .val (.int kk), .val (.ref b8), .val (.int (0 : Int32)), .val (.int (0 : Int32))] [(.int (1 : Int32))])) (fun t k => XS.goto X47.here hx rfl (pc0 := 253) (pc' := 257) rfl (hb hby at_253) (by decide) (by decide) k) ?_
                    exact Ends.ret (w := (.int (1 : Int32))) X47 hx Bd.notSynchronized Bd.returns rfl (Or.inl ⟨rfl, Or.inr (Or.inl rfl), _, rfl⟩) (hb hby at_257) eh47 ⟨rfl, N47⟩ (by decide) (by decide)
                · refine Ends.pre (T' := T9.setTop (mkF m 173 #[.val (.long x0), .second, .val (.long x1), .second, .val (.long x2), .second, .val (.long x3), .second, .val (.long x4), .second, .val (.int x5), .val (.long y0), .second, .val (.long y1), .second, .val (.long y2), .second, .val (.long y3), .second, .val (.long y4), .second, .val (.ref b6), .val (.ref b8), .val (.int kk), .val (.ref b8), .unset, .unset] [])) (fun t k => XS.ifYes X9.here hx rfl (pc0 := 142) (pc' := 173) rfl (hb hby at_142) rfl (Jvm.Free.XT.i0_ne_t (fun q => hc142_12 ((lw_eq _ _).mp q))) (by decide) (by decide) k) ?_
                  refine Ends.pre (T' := T9.setTop (mkF m 174 #[.val (.long x0), .second, .val (.long x1), .second, .val (.long x2), .second, .val (.long x3), .second, .val (.long x4), .second, .val (.int x5), .val (.long y0), .second, .val (.long y1), .second, .val (.long y2), .second, .val (.long y3), .second, .val (.long y4), .second, .val (.ref b6), .val (.ref b8), .val (.int kk), .val (.ref b8), .unset, .unset] [(.int (0 : Int32))])) (fun t k => XS.iconst X9.here hx rfl (hb hby at_173) k) ?_
                  refine Ends.pre (T' := T9.setTop (mkF m 176 #[.val (.long x0), .second, .val (.long x1), .second, .val (.long x2), .second, .val (.long x3), .second, .val (.long x4), .second, .val (.int x5), .val (.long y0), .second, .val (.long y1), .second, .val (.long y2), .second, .val (.long y3), .second, .val (.long y4), .second, .val (.ref b6), .val (.ref b8), .val (.int kk), .val (.ref b8), .val (.int (0 : Int32)), .unset] [])) (fun t k => XS.istore (g := (mkF m 174 #[.val (.long x0), .second, .val (.long x1), .second, .val (.long x2), .second, .val (.long x3), .second, .val (.long x4), .second, .val (.int x5), .val (.long y0), .second, .val (.long y1), .second, .val (.long y2), .second, .val (.long y3), .second, .val (.long y4), .second, .val (.ref b6), .val (.ref b8), .val (.int kk), .val (.ref b8), .unset, .unset] [(.int (0 : Int32))])) X9.here hx rfl (hb hby at_174) rfl (l' := #[.val (.long x0), .second, .val (.long x1), .second, .val (.long x2), .second, .val (.long x3), .second, .val (.long x4), .second, .val (.int x5), .val (.long y0), .second, .val (.long y1), .second, .val (.long y2), .second, .val (.long y3), .second, .val (.long y4), .second, .val (.ref b6), .val (.ref b8), .val (.int kk), .val (.ref b8), .val (.int (0 : Int32)), .unset]) rfl k) ?_
                  refine Ends.pre (T' := T9.setTop (mkF m 219 #[.val (.long x0), .second, .val (.long x1), .second, .val (.long x2), .second, .val (.long x3), .second, .val (.long x4), .second, .val (.int x5), .val (.long y0), .second, .val (.long y1), .second, .val (.long y2), .second, .val (.long y3), .second, .val (.long y4), .second, .val (.ref b6), .val (.ref b8), .val (.int kk), .val (.ref b8), .val (.int (0 : Int32)), .unset] [])) (fun t k => XS.goto X9.here hx rfl (pc0 := 176) (pc' := 219) rfl (hb hby at_176) (by decide) (by decide) k) ?_
                  refine Ends.pre (T' := T9.setTop (mkF m 221 #[.val (.long x0), .second, .val (.long x1), .second, .val (.long x2), .second, .val (.long x3), .second, .val (.long x4), .second, .val (.int x5), .val (.long y0), .second, .val (.long y1), .second, .val (.long y2), .second, .val (.long y3), .second, .val (.long y4), .second, .val (.ref b6), .val (.ref b8), .val (.int kk), .val (.ref b8), .val (.int (0 : Int32)), .unset] [(.ref b6)])) (fun t k => XS.aload X9.here hx rfl (hb hby at_219) rfl rfl k) ?_
                  refine Ends.pre (T' := T9.setTop (mkF m 223 #[.val (.long x0), .second, .val (.long x1), .second, .val (.long x2), .second, .val (.long x3), .second, .val (.long x4), .second, .val (.int x5), .val (.long y0), .second, .val (.long y1), .second, .val (.long y2), .second, .val (.long y3), .second, .val (.long y4), .second, .val (.ref b6), .val (.ref b8), .val (.int kk), .val (.ref b8), .val (.int (0 : Int32)), .unset] [(.ref b8), (.ref b6)])) (fun t k => XS.aload X9.here hx rfl (hb hby at_221) rfl rfl k) ?_
                  have F48 : Fld Z T9.heap b6 "com/example/kept_backlog/keptbacklog/QueueStats" "waiting" "J" (.long x0) := ((Fc7_0.ext E8).keep Kc9 (ninS (Nat.ne_of_lt (Nat.lt_of_lt_of_le (Nat.lt_of_lt_of_le A6.lt Kc7.1) (Nat.le_of_eq g8.symm))) nin0))
                  have F49 : Fld Z T9.heap b6 "com/example/kept_backlog/keptbacklog/QueueStats" "delayed" "J" (.long x1) := ((Fc7_1.ext E8).keep Kc9 (ninS (Nat.ne_of_lt (Nat.lt_of_lt_of_le (Nat.lt_of_lt_of_le A6.lt Kc7.1) (Nat.le_of_eq g8.symm))) nin0))
                  have F50 : Fld Z T9.heap b6 "com/example/kept_backlog/keptbacklog/QueueStats" "leased" "J" (.long x2) := ((Fc7_2.ext E8).keep Kc9 (ninS (Nat.ne_of_lt (Nat.lt_of_lt_of_le (Nat.lt_of_lt_of_le A6.lt Kc7.1) (Nat.le_of_eq g8.symm))) nin0))
                  have F51 : Fld Z T9.heap b6 "com/example/kept_backlog/keptbacklog/QueueStats" "dead" "J" (.long x3) := ((Fc7_3.ext E8).keep Kc9 (ninS (Nat.ne_of_lt (Nat.lt_of_lt_of_le (Nat.lt_of_lt_of_le A6.lt Kc7.1) (Nat.le_of_eq g8.symm))) nin0))
                  have F52 : Fld Z T9.heap b6 "com/example/kept_backlog/keptbacklog/QueueStats" "completed" "J" (.long x4) := ((Fc7_4.ext E8).keep Kc9 (ninS (Nat.ne_of_lt (Nat.lt_of_lt_of_le (Nat.lt_of_lt_of_le A6.lt Kc7.1) (Nat.le_of_eq g8.symm))) nin0))
                  have F54 : Exa Z T9.heap b6 "com/example/kept_backlog/keptbacklog/QueueStats" := ((Ec7.ext E8).keep Kc9)
                  obtain ⟨cq53, kq53, q53a, q53b, q53c⟩ := isOf hZ rfl F54
                  obtain ⟨_, _, ⟨T53, L53, k53, n53⟩, -, X53, ⟨Lc53, hQ53, l53, y53, z53⟩, st53⟩ := X9.virtualBack hx (y := (⟨"com/example/kept_backlog/keptbacklog/QueueStats", "equals", "(Ljava/lang/Object;)Z"⟩ : MethodName)) (z := (⟨"com/example/kept_backlog/keptbacklog/QueueStats", "equals", "(Ljava/lang/Object;)Z"⟩ : MethodName)) hown (mvT hZ (hw _ (List.mem_of_getElem? (i := 19) rfl))) (mvT hZ (hw _ (List.mem_of_getElem? (i := 20) rfl))) (notFace_of_selects (args := #[]) (mvT hZ (hw _ (List.mem_of_getElem? (i := 22) rfl)))) (mvT hZ (hw _ (List.mem_of_getElem? (i := 22) rfl))) (mvT hZ (hw _ (List.mem_of_getElem? (i := 21) rfl))) (by decide) (backOf (W := 0) (rm3q l Z a0 hw [] b6 b8 x0 x1 x2 x3 x4 y0 y1 y2 y3 y4 T9.heap n0 (Nat.le_trans (Nat.le_trans (Nat.le_trans (Nat.le_trans Z0 E6.1) Kc7.1) E8.1) Kc9.1) Ec9 F48 F49 F50 F51 F52 Fc9_0 Fc9_1 Fc9_2 Fc9_3 Fc9_4) hZ (hw _ (List.mem_of_getElem? (i := 23) rfl)) (hw _ (List.mem_of_getElem? (i := 2) rfl)) (by decide) (by decide)) q53a q53c (g := (mkF m 223 #[.val (.long x0), .second, .val (.long x1), .second, .val (.long x2), .second, .val (.long x3), .second, .val (.long x4), .second, .val (.int x5), .val (.long y0), .second, .val (.long y1), .second, .val (.long y2), .second, .val (.long y3), .second, .val (.long y4), .second, .val (.ref b6), .val (.ref b8), .val (.int kk), .val (.ref b8), .val (.int (0 : Int32)), .unset] [(.ref b8), (.ref b6)])) rfl (by rw [hml]; rfl) (Steps.refl _) (argsL := [(.ref b8)]) (rest := []) (lenOf pd_3 rfl) rfl (by show 2 * 0 + _ ≤ _; exact Nat.le_of_eq rfl) (hb hby at_223) (fun _ _ => ⟨rfl, rfl, (by decide : 2 + 0 ≤ _), (by decide : 10 + 0 ≤ _)⟩)
                  dsimp only [Pt.U, Pt.locs, Pt.cells, Pt.slots] at X53 l53 y53 z53 st53 hQ53
                  subst l53 y53 z53
                  obtain ⟨rfl, N53q, eh53⟩ := hQ53
                  have N53 := Fr.app N9 N53q
                  rw [if_pos hc135_11.symm, if_neg (fun q => hc142_12 q.symm)] at st53
                  refine Ends.pre (T' := T53.setTop (mkF m 226 #[.val (.long x0), .second, .val (.long x1), .second, .val (.long x2), .second, .val (.long x3), .second, .val (.long x4), .second, .val (.int x5), .val (.long y0), .second, .val (.long y1), .second, .val (.long y2), .second, .val (.long y3), .second, .val (.long y4), .second, .val (.ref b6), .val (.ref b8), .val (.int kk), .val (.ref b8), .val (.int (0 : Int32)), .unset] [(.int (0 : Int32))])) (fun t k => st53.trans k) ?_
                  refine Ends.pre (T' := T53.setTop (mkF m 228 #[.val (.long x0), .second, .val (.long x1), .second, .val (.long x2), .second, .val (.long x3), .second, .val (.long x4), .second, .val (.int x5), .val (.long y0), .second, .val (.long y1), .second, .val (.long y2), .second, .val (.long y3), .second, .val (.long y4), .second, .val (.ref b6), .val (.ref b8), .val (.int kk), .val (.ref b8), .val (.int (0 : Int32)), .val (.int (0 : Int32))] [])) (fun t k => XS.istore (g := (mkF m 226 #[.val (.long x0), .second, .val (.long x1), .second, .val (.long x2), .second, .val (.long x3), .second, .val (.long x4), .second, .val (.int x5), .val (.long y0), .second, .val (.long y1), .second, .val (.long y2), .second, .val (.long y3), .second, .val (.long y4), .second, .val (.ref b6), .val (.ref b8), .val (.int kk), .val (.ref b8), .val (.int (0 : Int32)), .unset] [(.int (0 : Int32))])) X53.here hx rfl (hb hby at_226) rfl (l' := #[.val (.long x0), .second, .val (.long x1), .second, .val (.long x2), .second, .val (.long x3), .second, .val (.long x4), .second, .val (.int x5), .val (.long y0), .second, .val (.long y1), .second, .val (.long y2), .second, .val (.long y3), .second, .val (.long y4), .second, .val (.ref b6), .val (.ref b8), .val (.int kk), .val (.ref b8), .val (.int (0 : Int32)), .val (.int (0 : Int32))]) rfl k) ?_
                  refine Ends.pre (T' := T53.setTop (mkF m 230 #[.val (.long x0), .second, .val (.long x1), .second, .val (.long x2), .second, .val (.long x3), .second, .val (.long x4), .second, .val (.int x5), .val (.long y0), .second, .val (.long y1), .second, .val (.long y2), .second, .val (.long y3), .second, .val (.long y4), .second, .val (.ref b6), .val (.ref b8), .val (.int kk), .val (.ref b8), .val (.int (0 : Int32)), .val (.int (0 : Int32))] [(.int kk)])) (fun t k => XS.iload X53.here hx rfl (hb hby at_228) rfl k) ?_
                  refine Ends.pre (T' := T53.setTop (mkF m 233 #[.val (.long x0), .second, .val (.long x1), .second, .val (.long x2), .second, .val (.long x3), .second, .val (.long x4), .second, .val (.int x5), .val (.long y0), .second, .val (.long y1), .second, .val (.long y2), .second, .val (.long y3), .second, .val (.long y4), .second, .val (.ref b6), .val (.ref b8), .val (.int kk), .val (.ref b8), .val (.int (0 : Int32)), .val (.int (0 : Int32))] [])) (fun t k => XS.ifNo X53.here hx rfl (hb hby at_230) rfl (Jvm.Free.XT.i0_ne_f hc124_10) k) ?_
                  refine Ends.pre (T' := T53.setTop (mkF m 235 #[.val (.long x0), .second, .val (.long x1), .second, .val (.long x2), .second, .val (.long x3), .second, .val (.long x4), .second, .val (.int x5), .val (.long y0), .second, .val (.long y1), .second, .val (.long y2), .second, .val (.long y3), .second, .val (.long y4), .second, .val (.ref b6), .val (.ref b8), .val (.int kk), .val (.ref b8), .val (.int (0 : Int32)), .val (.int (0 : Int32))] [(.int (0 : Int32))])) (fun t k => XS.iload X53.here hx rfl (hb hby at_233) rfl k) ?_
                  refine Ends.pre (T' := T53.setTop (mkF m 237 #[.val (.long x0), .second, .val (.long x1), .second, .val (.long x2), .second, .val (.long x3), .second, .val (.long x4), .second, .val (.int x5), .val (.long y0), .second, .val (.long y1), .second, .val (.long y2), .second, .val (.long y3), .second, .val (.long y4), .second, .val (.ref b6), .val (.ref b8), .val (.int kk), .val (.ref b8), .val (.int (0 : Int32)), .val (.int (0 : Int32))] [(.int (0 : Int32)), (.int (0 : Int32))])) (fun t k => XS.iload X53.here hx rfl (hb hby at_235) rfl k) ?_
                  refine Ends.pre (T' := T53.setTop (mkF m 240 #[.val (.long x0), .second, .val (.long x1), .second, .val (.long x2), .second, .val (.long x3), .second, .val (.long x4), .second, .val (.int x5), .val (.long y0), .second, .val (.long y1), .second, .val (.long y2), .second, .val (.long y3), .second, .val (.long y4), .second, .val (.ref b6), .val (.ref b8), .val (.int kk), .val (.ref b8), .val (.int (0 : Int32)), .val (.int (0 : Int32))] [])) (fun t k => XS.icmpNo X53.here hx rfl (hb hby at_237) rfl (by decide) k) ?_
                  refine Ends.pre (T' := T53.setTop (mkF m 242 #[.val (.long x0), .second, .val (.long x1), .second, .val (.long x2), .second, .val (.long x3), .second, .val (.long x4), .second, .val (.int x5), .val (.long y0), .second, .val (.long y1), .second, .val (.long y2), .second, .val (.long y3), .second, .val (.long y4), .second, .val (.ref b6), .val (.ref b8), .val (.int kk), .val (.ref b8), .val (.int (0 : Int32)), .val (.int (0 : Int32))] [(.ref b8)])) (fun t k => XS.aload X53.here hx rfl (hb hby at_240) rfl rfl k) ?_
                  refine Ends.pre (T' := T53.setTop (mkF m 244 #[.val (.long x0), .second, .val (.long x1), .second, .val (.long x2), .second, .val (.long x3), .second, .val (.long x4), .second, .val (.int x5), .val (.long y0), .second, .val (.long y1), .second, .val (.long y2), .second, .val (.long y3), .second, .val (.long y4), .second, .val (.ref b6), .val (.ref b8), .val (.int kk), .val (.ref b8), .val (.int (0 : Int32)), .val (.int (0 : Int32))] [(.ref b6), (.ref b8)])) (fun t k => XS.aload X53.here hx rfl (hb hby at_242) rfl rfl k) ?_
                  obtain ⟨cq55, kq55, q55a, q55b, q55c⟩ := isOf hZ eh53 Ec9
                  obtain ⟨_, _, ⟨T55, L55, k55, n55⟩, -, X55, ⟨Lc55, hQ55, l55, y55, z55⟩, st55⟩ := X53.virtualBack hx (y := (⟨"com/example/kept_backlog/keptbacklog/QueueStats", "equals", "(Ljava/lang/Object;)Z"⟩ : MethodName)) (z := (⟨"com/example/kept_backlog/keptbacklog/QueueStats", "equals", "(Ljava/lang/Object;)Z"⟩ : MethodName)) hown (mvT hZ (hw _ (List.mem_of_getElem? (i := 19) rfl))) (mvT hZ (hw _ (List.mem_of_getElem? (i := 20) rfl))) (notFace_of_selects (args := #[]) (mvT hZ (hw _ (List.mem_of_getElem? (i := 22) rfl)))) (mvT hZ (hw _ (List.mem_of_getElem? (i := 22) rfl))) (mvT hZ (hw _ (List.mem_of_getElem? (i := 21) rfl))) (by decide) (backOf (W := 0) (rm3q l Z a0 hw [] b8 b6 y0 y1 y2 y3 y4 x0 x1 x2 x3 x4 T9.heap n0 (Nat.le_trans (Nat.le_trans (Nat.le_trans (Nat.le_trans Z0 E6.1) Kc7.1) E8.1) Kc9.1) F54 Fc9_0 Fc9_1 Fc9_2 Fc9_3 Fc9_4 F48 F49 F50 F51 F52) hZ (hw _ (List.mem_of_getElem? (i := 23) rfl)) (hw _ (List.mem_of_getElem? (i := 2) rfl)) (by decide) (by decide)) q55a q55c (g := (mkF m 244 #[.val (.long x0), .second, .val (.long x1), .second, .val (.long x2), .second, .val (.long x3), .second, .val (.long x4), .second, .val (.int x5), .val (.long y0), .second, .val (.long y1), .second, .val (.long y2), .second, .val (.long y3), .second, .val (.long y4), .second, .val (.ref b6), .val (.ref b8), .val (.int kk), .val (.ref b8), .val (.int (0 : Int32)), .val (.int (0 : Int32))] [(.ref b6), (.ref b8)])) rfl (by rw [hml]; rfl) (Steps.refl _) (argsL := [(.ref b6)]) (rest := []) (lenOf pd_3 rfl) rfl (by show 2 * 0 + _ ≤ _; exact Nat.le_of_eq rfl) (hb hby at_244) (fun _ _ => ⟨rfl, eh53, (by decide : 2 + 0 ≤ _), (by decide : 10 + 0 ≤ _)⟩)
                  dsimp only [Pt.U, Pt.locs, Pt.cells, Pt.slots] at X55 l55 y55 z55 st55 hQ55
                  subst l55 y55 z55
                  obtain ⟨rfl, N55q, eh55⟩ := hQ55
                  have N55 := Fr.app N53 N55q
                  rw [if_pos hc135_11, if_neg hc142_12] at st55
                  refine Ends.pre (T' := T55.setTop (mkF m 247 #[.val (.long x0), .second, .val (.long x1), .second, .val (.long x2), .second, .val (.long x3), .second, .val (.long x4), .second, .val (.int x5), .val (.long y0), .second, .val (.long y1), .second, .val (.long y2), .second, .val (.long y3), .second, .val (.long y4), .second, .val (.ref b6), .val (.ref b8), .val (.int kk), .val (.ref b8), .val (.int (0 : Int32)), .val (.int (0 : Int32))] [(.int (0 : Int32))])) (fun t k => st55.trans k) ?_
                  refine Ends.pre (T' := T55.setTop (mkF m 249 #[.val (.long x0), .second, .val (.long x1), .second, .val (.long x2), .second, .val (.long x3), .second, .val (.long x4), .second, .val (.int x5), .val (.long y0), .second, .val (.long y1), .second, .val (.long y2), .second, .val (.long y3), .second, .val (.long y4), .second, .val (.ref b6), .val (.ref b8), .val (.int kk), .val (.ref b8), .val (.int (0 : Int32)), .val (.int (0 : Int32))] [(.int (0 : Int32)), (.int (0 : Int32))])) (fun t k => XS.iload X55.here hx rfl (hb hby at_247) rfl k) ?_
                  refine Ends.pre (T' := T55.setTop (mkF m 252 #[.val (.long x0), .second, .val (.long x1), .second, .val (.long x2), .second, .val (.long x3), .second, .val (.long x4), .second, .val (.int x5), .val (.long y0), .second, .val (.long y1), .second, .val (.long y2), .second, .val (.long y3), .second, .val (.long y4), .second, .val (.ref b6), .val (.ref b8), .val (.int kk), .val (.ref b8), .val (.int (0 : Int32)), .val (.int (0 : Int32))] [])) (fun t k => XS.icmpNo X55.here hx rfl (hb hby at_249) rfl (by decide) k) ?_
                  refine Ends.pre (T' := T55.setTop (mkF m 253 #[.val (.long x0), .second, .val (.long x1), .second, .val (.long x2), .second, .val (.long x3), .second, .val (.long x4), .second, .val (.int x5), .val (.long y0), .second, .val (.long y1), .second, .val (.long y2), .second, .val (.long y3), .second, .val (.long y4), .second, .val (.ref b6), .val (.ref b8), .val (.int kk), .val (.ref b8), .val (.int (0 : Int32)), .val (.int (0 : Int32))] [(.int (1 : Int32))])) (fun t k => XS.iconst X55.here hx rfl (hb hby at_252) k) ?_
                  refine Ends.pre (T' := T55.setTop (mkF m 257 #[.val (.long x0), .second, .val (.long x1), .second, .val (.long x2), .second, .val (.long x3), .second, .val (.long x4), .second, .val (.int x5), .val (.long y0), .second, .val (.long y1), .second, .val (.long y2), .second, .val (.long y3), .second, .val (.long y4), .second, .val (.ref b6), .val (.ref b8), .val (.int kk), .val (.ref b8), .val (.int (0 : Int32)), .val (.int (0 : Int32))] [(.int (1 : Int32))])) (fun t k => XS.goto X55.here hx rfl (pc0 := 253) (pc' := 257) rfl (hb hby at_253) (by decide) (by decide) k) ?_
                  exact Ends.ret (w := (.int (1 : Int32))) X55 hx Bd.notSynchronized Bd.returns rfl (Or.inl ⟨rfl, Or.inr (Or.inl rfl), _, rfl⟩) (hb hby at_257) eh55 ⟨rfl, N55⟩ (by decide) (by decide)
              · refine Ends.pre (T' := T9.setTop (mkF m 173 #[.val (.long x0), .second, .val (.long x1), .second, .val (.long x2), .second, .val (.long x3), .second, .val (.long x4), .second, .val (.int x5), .val (.long y0), .second, .val (.long y1), .second, .val (.long y2), .second, .val (.long y3), .second, .val (.long y4), .second, .val (.ref b6), .val (.ref b8), .val (.int kk), .val (.ref b8), .unset, .unset] [])) (fun t k => XS.ifYes X9.here hx rfl (pc0 := 135) (pc' := 173) rfl (hb hby at_135) rfl (Jvm.Free.XT.i0_ne_t (fun q => hc135_11 ((lw_eq _ _).mp q))) (by decide) (by decide) k) ?_
                refine Ends.pre (T' := T9.setTop (mkF m 174 #[.val (.long x0), .second, .val (.long x1), .second, .val (.long x2), .second, .val (.long x3), .second, .val (.long x4), .second, .val (.int x5), .val (.long y0), .second, .val (.long y1), .second, .val (.long y2), .second, .val (.long y3), .second, .val (.long y4), .second, .val (.ref b6), .val (.ref b8), .val (.int kk), .val (.ref b8), .unset, .unset] [(.int (0 : Int32))])) (fun t k => XS.iconst X9.here hx rfl (hb hby at_173) k) ?_
                refine Ends.pre (T' := T9.setTop (mkF m 176 #[.val (.long x0), .second, .val (.long x1), .second, .val (.long x2), .second, .val (.long x3), .second, .val (.long x4), .second, .val (.int x5), .val (.long y0), .second, .val (.long y1), .second, .val (.long y2), .second, .val (.long y3), .second, .val (.long y4), .second, .val (.ref b6), .val (.ref b8), .val (.int kk), .val (.ref b8), .val (.int (0 : Int32)), .unset] [])) (fun t k => XS.istore (g := (mkF m 174 #[.val (.long x0), .second, .val (.long x1), .second, .val (.long x2), .second, .val (.long x3), .second, .val (.long x4), .second, .val (.int x5), .val (.long y0), .second, .val (.long y1), .second, .val (.long y2), .second, .val (.long y3), .second, .val (.long y4), .second, .val (.ref b6), .val (.ref b8), .val (.int kk), .val (.ref b8), .unset, .unset] [(.int (0 : Int32))])) X9.here hx rfl (hb hby at_174) rfl (l' := #[.val (.long x0), .second, .val (.long x1), .second, .val (.long x2), .second, .val (.long x3), .second, .val (.long x4), .second, .val (.int x5), .val (.long y0), .second, .val (.long y1), .second, .val (.long y2), .second, .val (.long y3), .second, .val (.long y4), .second, .val (.ref b6), .val (.ref b8), .val (.int kk), .val (.ref b8), .val (.int (0 : Int32)), .unset]) rfl k) ?_
                refine Ends.pre (T' := T9.setTop (mkF m 219 #[.val (.long x0), .second, .val (.long x1), .second, .val (.long x2), .second, .val (.long x3), .second, .val (.long x4), .second, .val (.int x5), .val (.long y0), .second, .val (.long y1), .second, .val (.long y2), .second, .val (.long y3), .second, .val (.long y4), .second, .val (.ref b6), .val (.ref b8), .val (.int kk), .val (.ref b8), .val (.int (0 : Int32)), .unset] [])) (fun t k => XS.goto X9.here hx rfl (pc0 := 176) (pc' := 219) rfl (hb hby at_176) (by decide) (by decide) k) ?_
                refine Ends.pre (T' := T9.setTop (mkF m 221 #[.val (.long x0), .second, .val (.long x1), .second, .val (.long x2), .second, .val (.long x3), .second, .val (.long x4), .second, .val (.int x5), .val (.long y0), .second, .val (.long y1), .second, .val (.long y2), .second, .val (.long y3), .second, .val (.long y4), .second, .val (.ref b6), .val (.ref b8), .val (.int kk), .val (.ref b8), .val (.int (0 : Int32)), .unset] [(.ref b6)])) (fun t k => XS.aload X9.here hx rfl (hb hby at_219) rfl rfl k) ?_
                refine Ends.pre (T' := T9.setTop (mkF m 223 #[.val (.long x0), .second, .val (.long x1), .second, .val (.long x2), .second, .val (.long x3), .second, .val (.long x4), .second, .val (.int x5), .val (.long y0), .second, .val (.long y1), .second, .val (.long y2), .second, .val (.long y3), .second, .val (.long y4), .second, .val (.ref b6), .val (.ref b8), .val (.int kk), .val (.ref b8), .val (.int (0 : Int32)), .unset] [(.ref b8), (.ref b6)])) (fun t k => XS.aload X9.here hx rfl (hb hby at_221) rfl rfl k) ?_
                have F56 : Fld Z T9.heap b6 "com/example/kept_backlog/keptbacklog/QueueStats" "waiting" "J" (.long x0) := ((Fc7_0.ext E8).keep Kc9 (ninS (Nat.ne_of_lt (Nat.lt_of_lt_of_le (Nat.lt_of_lt_of_le A6.lt Kc7.1) (Nat.le_of_eq g8.symm))) nin0))
                have F57 : Fld Z T9.heap b6 "com/example/kept_backlog/keptbacklog/QueueStats" "delayed" "J" (.long x1) := ((Fc7_1.ext E8).keep Kc9 (ninS (Nat.ne_of_lt (Nat.lt_of_lt_of_le (Nat.lt_of_lt_of_le A6.lt Kc7.1) (Nat.le_of_eq g8.symm))) nin0))
                have F58 : Fld Z T9.heap b6 "com/example/kept_backlog/keptbacklog/QueueStats" "leased" "J" (.long x2) := ((Fc7_2.ext E8).keep Kc9 (ninS (Nat.ne_of_lt (Nat.lt_of_lt_of_le (Nat.lt_of_lt_of_le A6.lt Kc7.1) (Nat.le_of_eq g8.symm))) nin0))
                have F59 : Fld Z T9.heap b6 "com/example/kept_backlog/keptbacklog/QueueStats" "dead" "J" (.long x3) := ((Fc7_3.ext E8).keep Kc9 (ninS (Nat.ne_of_lt (Nat.lt_of_lt_of_le (Nat.lt_of_lt_of_le A6.lt Kc7.1) (Nat.le_of_eq g8.symm))) nin0))
                have F60 : Fld Z T9.heap b6 "com/example/kept_backlog/keptbacklog/QueueStats" "completed" "J" (.long x4) := ((Fc7_4.ext E8).keep Kc9 (ninS (Nat.ne_of_lt (Nat.lt_of_lt_of_le (Nat.lt_of_lt_of_le A6.lt Kc7.1) (Nat.le_of_eq g8.symm))) nin0))
                have F62 : Exa Z T9.heap b6 "com/example/kept_backlog/keptbacklog/QueueStats" := ((Ec7.ext E8).keep Kc9)
                obtain ⟨cq61, kq61, q61a, q61b, q61c⟩ := isOf hZ rfl F62
                obtain ⟨_, _, ⟨T61, L61, k61, n61⟩, -, X61, ⟨Lc61, hQ61, l61, y61, z61⟩, st61⟩ := X9.virtualBack hx (y := (⟨"com/example/kept_backlog/keptbacklog/QueueStats", "equals", "(Ljava/lang/Object;)Z"⟩ : MethodName)) (z := (⟨"com/example/kept_backlog/keptbacklog/QueueStats", "equals", "(Ljava/lang/Object;)Z"⟩ : MethodName)) hown (mvT hZ (hw _ (List.mem_of_getElem? (i := 19) rfl))) (mvT hZ (hw _ (List.mem_of_getElem? (i := 20) rfl))) (notFace_of_selects (args := #[]) (mvT hZ (hw _ (List.mem_of_getElem? (i := 22) rfl)))) (mvT hZ (hw _ (List.mem_of_getElem? (i := 22) rfl))) (mvT hZ (hw _ (List.mem_of_getElem? (i := 21) rfl))) (by decide) (backOf (W := 0) (rm3q l Z a0 hw [] b6 b8 x0 x1 x2 x3 x4 y0 y1 y2 y3 y4 T9.heap n0 (Nat.le_trans (Nat.le_trans (Nat.le_trans (Nat.le_trans Z0 E6.1) Kc7.1) E8.1) Kc9.1) Ec9 F56 F57 F58 F59 F60 Fc9_0 Fc9_1 Fc9_2 Fc9_3 Fc9_4) hZ (hw _ (List.mem_of_getElem? (i := 23) rfl)) (hw _ (List.mem_of_getElem? (i := 2) rfl)) (by decide) (by decide)) q61a q61c (g := (mkF m 223 #[.val (.long x0), .second, .val (.long x1), .second, .val (.long x2), .second, .val (.long x3), .second, .val (.long x4), .second, .val (.int x5), .val (.long y0), .second, .val (.long y1), .second, .val (.long y2), .second, .val (.long y3), .second, .val (.long y4), .second, .val (.ref b6), .val (.ref b8), .val (.int kk), .val (.ref b8), .val (.int (0 : Int32)), .unset] [(.ref b8), (.ref b6)])) rfl (by rw [hml]; rfl) (Steps.refl _) (argsL := [(.ref b8)]) (rest := []) (lenOf pd_3 rfl) rfl (by show 2 * 0 + _ ≤ _; exact Nat.le_of_eq rfl) (hb hby at_223) (fun _ _ => ⟨rfl, rfl, (by decide : 2 + 0 ≤ _), (by decide : 10 + 0 ≤ _)⟩)
                dsimp only [Pt.U, Pt.locs, Pt.cells, Pt.slots] at X61 l61 y61 z61 st61 hQ61
                subst l61 y61 z61
                obtain ⟨rfl, N61q, eh61⟩ := hQ61
                have N61 := Fr.app N9 N61q
                rw [if_neg (fun q => hc135_11 q.symm)] at st61
                refine Ends.pre (T' := T61.setTop (mkF m 226 #[.val (.long x0), .second, .val (.long x1), .second, .val (.long x2), .second, .val (.long x3), .second, .val (.long x4), .second, .val (.int x5), .val (.long y0), .second, .val (.long y1), .second, .val (.long y2), .second, .val (.long y3), .second, .val (.long y4), .second, .val (.ref b6), .val (.ref b8), .val (.int kk), .val (.ref b8), .val (.int (0 : Int32)), .unset] [(.int (0 : Int32))])) (fun t k => st61.trans k) ?_
                refine Ends.pre (T' := T61.setTop (mkF m 228 #[.val (.long x0), .second, .val (.long x1), .second, .val (.long x2), .second, .val (.long x3), .second, .val (.long x4), .second, .val (.int x5), .val (.long y0), .second, .val (.long y1), .second, .val (.long y2), .second, .val (.long y3), .second, .val (.long y4), .second, .val (.ref b6), .val (.ref b8), .val (.int kk), .val (.ref b8), .val (.int (0 : Int32)), .val (.int (0 : Int32))] [])) (fun t k => XS.istore (g := (mkF m 226 #[.val (.long x0), .second, .val (.long x1), .second, .val (.long x2), .second, .val (.long x3), .second, .val (.long x4), .second, .val (.int x5), .val (.long y0), .second, .val (.long y1), .second, .val (.long y2), .second, .val (.long y3), .second, .val (.long y4), .second, .val (.ref b6), .val (.ref b8), .val (.int kk), .val (.ref b8), .val (.int (0 : Int32)), .unset] [(.int (0 : Int32))])) X61.here hx rfl (hb hby at_226) rfl (l' := #[.val (.long x0), .second, .val (.long x1), .second, .val (.long x2), .second, .val (.long x3), .second, .val (.long x4), .second, .val (.int x5), .val (.long y0), .second, .val (.long y1), .second, .val (.long y2), .second, .val (.long y3), .second, .val (.long y4), .second, .val (.ref b6), .val (.ref b8), .val (.int kk), .val (.ref b8), .val (.int (0 : Int32)), .val (.int (0 : Int32))]) rfl k) ?_
                refine Ends.pre (T' := T61.setTop (mkF m 230 #[.val (.long x0), .second, .val (.long x1), .second, .val (.long x2), .second, .val (.long x3), .second, .val (.long x4), .second, .val (.int x5), .val (.long y0), .second, .val (.long y1), .second, .val (.long y2), .second, .val (.long y3), .second, .val (.long y4), .second, .val (.ref b6), .val (.ref b8), .val (.int kk), .val (.ref b8), .val (.int (0 : Int32)), .val (.int (0 : Int32))] [(.int kk)])) (fun t k => XS.iload X61.here hx rfl (hb hby at_228) rfl k) ?_
                refine Ends.pre (T' := T61.setTop (mkF m 233 #[.val (.long x0), .second, .val (.long x1), .second, .val (.long x2), .second, .val (.long x3), .second, .val (.long x4), .second, .val (.int x5), .val (.long y0), .second, .val (.long y1), .second, .val (.long y2), .second, .val (.long y3), .second, .val (.long y4), .second, .val (.ref b6), .val (.ref b8), .val (.int kk), .val (.ref b8), .val (.int (0 : Int32)), .val (.int (0 : Int32))] [])) (fun t k => XS.ifNo X61.here hx rfl (hb hby at_230) rfl (Jvm.Free.XT.i0_ne_f hc124_10) k) ?_
                refine Ends.pre (T' := T61.setTop (mkF m 235 #[.val (.long x0), .second, .val (.long x1), .second, .val (.long x2), .second, .val (.long x3), .second, .val (.long x4), .second, .val (.int x5), .val (.long y0), .second, .val (.long y1), .second, .val (.long y2), .second, .val (.long y3), .second, .val (.long y4), .second, .val (.ref b6), .val (.ref b8), .val (.int kk), .val (.ref b8), .val (.int (0 : Int32)), .val (.int (0 : Int32))] [(.int (0 : Int32))])) (fun t k => XS.iload X61.here hx rfl (hb hby at_233) rfl k) ?_
                refine Ends.pre (T' := T61.setTop (mkF m 237 #[.val (.long x0), .second, .val (.long x1), .second, .val (.long x2), .second, .val (.long x3), .second, .val (.long x4), .second, .val (.int x5), .val (.long y0), .second, .val (.long y1), .second, .val (.long y2), .second, .val (.long y3), .second, .val (.long y4), .second, .val (.ref b6), .val (.ref b8), .val (.int kk), .val (.ref b8), .val (.int (0 : Int32)), .val (.int (0 : Int32))] [(.int (0 : Int32)), (.int (0 : Int32))])) (fun t k => XS.iload X61.here hx rfl (hb hby at_235) rfl k) ?_
                refine Ends.pre (T' := T61.setTop (mkF m 240 #[.val (.long x0), .second, .val (.long x1), .second, .val (.long x2), .second, .val (.long x3), .second, .val (.long x4), .second, .val (.int x5), .val (.long y0), .second, .val (.long y1), .second, .val (.long y2), .second, .val (.long y3), .second, .val (.long y4), .second, .val (.ref b6), .val (.ref b8), .val (.int kk), .val (.ref b8), .val (.int (0 : Int32)), .val (.int (0 : Int32))] [])) (fun t k => XS.icmpNo X61.here hx rfl (hb hby at_237) rfl (by decide) k) ?_
                refine Ends.pre (T' := T61.setTop (mkF m 242 #[.val (.long x0), .second, .val (.long x1), .second, .val (.long x2), .second, .val (.long x3), .second, .val (.long x4), .second, .val (.int x5), .val (.long y0), .second, .val (.long y1), .second, .val (.long y2), .second, .val (.long y3), .second, .val (.long y4), .second, .val (.ref b6), .val (.ref b8), .val (.int kk), .val (.ref b8), .val (.int (0 : Int32)), .val (.int (0 : Int32))] [(.ref b8)])) (fun t k => XS.aload X61.here hx rfl (hb hby at_240) rfl rfl k) ?_
                refine Ends.pre (T' := T61.setTop (mkF m 244 #[.val (.long x0), .second, .val (.long x1), .second, .val (.long x2), .second, .val (.long x3), .second, .val (.long x4), .second, .val (.int x5), .val (.long y0), .second, .val (.long y1), .second, .val (.long y2), .second, .val (.long y3), .second, .val (.long y4), .second, .val (.ref b6), .val (.ref b8), .val (.int kk), .val (.ref b8), .val (.int (0 : Int32)), .val (.int (0 : Int32))] [(.ref b6), (.ref b8)])) (fun t k => XS.aload X61.here hx rfl (hb hby at_242) rfl rfl k) ?_
                obtain ⟨cq63, kq63, q63a, q63b, q63c⟩ := isOf hZ eh61 Ec9
                obtain ⟨_, _, ⟨T63, L63, k63, n63⟩, -, X63, ⟨Lc63, hQ63, l63, y63, z63⟩, st63⟩ := X61.virtualBack hx (y := (⟨"com/example/kept_backlog/keptbacklog/QueueStats", "equals", "(Ljava/lang/Object;)Z"⟩ : MethodName)) (z := (⟨"com/example/kept_backlog/keptbacklog/QueueStats", "equals", "(Ljava/lang/Object;)Z"⟩ : MethodName)) hown (mvT hZ (hw _ (List.mem_of_getElem? (i := 19) rfl))) (mvT hZ (hw _ (List.mem_of_getElem? (i := 20) rfl))) (notFace_of_selects (args := #[]) (mvT hZ (hw _ (List.mem_of_getElem? (i := 22) rfl)))) (mvT hZ (hw _ (List.mem_of_getElem? (i := 22) rfl))) (mvT hZ (hw _ (List.mem_of_getElem? (i := 21) rfl))) (by decide) (backOf (W := 0) (rm3q l Z a0 hw [] b8 b6 y0 y1 y2 y3 y4 x0 x1 x2 x3 x4 T9.heap n0 (Nat.le_trans (Nat.le_trans (Nat.le_trans (Nat.le_trans Z0 E6.1) Kc7.1) E8.1) Kc9.1) F62 Fc9_0 Fc9_1 Fc9_2 Fc9_3 Fc9_4 F56 F57 F58 F59 F60) hZ (hw _ (List.mem_of_getElem? (i := 23) rfl)) (hw _ (List.mem_of_getElem? (i := 2) rfl)) (by decide) (by decide)) q63a q63c (g := (mkF m 244 #[.val (.long x0), .second, .val (.long x1), .second, .val (.long x2), .second, .val (.long x3), .second, .val (.long x4), .second, .val (.int x5), .val (.long y0), .second, .val (.long y1), .second, .val (.long y2), .second, .val (.long y3), .second, .val (.long y4), .second, .val (.ref b6), .val (.ref b8), .val (.int kk), .val (.ref b8), .val (.int (0 : Int32)), .val (.int (0 : Int32))] [(.ref b6), (.ref b8)])) rfl (by rw [hml]; rfl) (Steps.refl _) (argsL := [(.ref b6)]) (rest := []) (lenOf pd_3 rfl) rfl (by show 2 * 0 + _ ≤ _; exact Nat.le_of_eq rfl) (hb hby at_244) (fun _ _ => ⟨rfl, eh61, (by decide : 2 + 0 ≤ _), (by decide : 10 + 0 ≤ _)⟩)
                dsimp only [Pt.U, Pt.locs, Pt.cells, Pt.slots] at X63 l63 y63 z63 st63 hQ63
                subst l63 y63 z63
                obtain ⟨rfl, N63q, eh63⟩ := hQ63
                have N63 := Fr.app N61 N63q
                rw [if_neg hc135_11] at st63
                refine Ends.pre (T' := T63.setTop (mkF m 247 #[.val (.long x0), .second, .val (.long x1), .second, .val (.long x2), .second, .val (.long x3), .second, .val (.long x4), .second, .val (.int x5), .val (.long y0), .second, .val (.long y1), .second, .val (.long y2), .second, .val (.long y3), .second, .val (.long y4), .second, .val (.ref b6), .val (.ref b8), .val (.int kk), .val (.ref b8), .val (.int (0 : Int32)), .val (.int (0 : Int32))] [(.int (0 : Int32))])) (fun t k => st63.trans k) ?_
                refine Ends.pre (T' := T63.setTop (mkF m 249 #[.val (.long x0), .second, .val (.long x1), .second, .val (.long x2), .second, .val (.long x3), .second, .val (.long x4), .second, .val (.int x5), .val (.long y0), .second, .val (.long y1), .second, .val (.long y2), .second, .val (.long y3), .second, .val (.long y4), .second, .val (.ref b6), .val (.ref b8), .val (.int kk), .val (.ref b8), .val (.int (0 : Int32)), .val (.int (0 : Int32))] [(.int (0 : Int32)), (.int (0 : Int32))])) (fun t k => XS.iload X63.here hx rfl (hb hby at_247) rfl k) ?_
                refine Ends.pre (T' := T63.setTop (mkF m 252 #[.val (.long x0), .second, .val (.long x1), .second, .val (.long x2), .second, .val (.long x3), .second, .val (.long x4), .second, .val (.int x5), .val (.long y0), .second, .val (.long y1), .second, .val (.long y2), .second, .val (.long y3), .second, .val (.long y4), .second, .val (.ref b6), .val (.ref b8), .val (.int kk), .val (.ref b8), .val (.int (0 : Int32)), .val (.int (0 : Int32))] [])) (fun t k => XS.icmpNo X63.here hx rfl (hb hby at_249) rfl (by decide) k) ?_
                refine Ends.pre (T' := T63.setTop (mkF m 253 #[.val (.long x0), .second, .val (.long x1), .second, .val (.long x2), .second, .val (.long x3), .second, .val (.long x4), .second, .val (.int x5), .val (.long y0), .second, .val (.long y1), .second, .val (.long y2), .second, .val (.long y3), .second, .val (.long y4), .second, .val (.ref b6), .val (.ref b8), .val (.int kk), .val (.ref b8), .val (.int (0 : Int32)), .val (.int (0 : Int32))] [(.int (1 : Int32))])) (fun t k => XS.iconst X63.here hx rfl (hb hby at_252) k) ?_
                refine Ends.pre (T' := T63.setTop (mkF m 257 #[.val (.long x0), .second, .val (.long x1), .second, .val (.long x2), .second, .val (.long x3), .second, .val (.long x4), .second, .val (.int x5), .val (.long y0), .second, .val (.long y1), .second, .val (.long y2), .second, .val (.long y3), .second, .val (.long y4), .second, .val (.ref b6), .val (.ref b8), .val (.int kk), .val (.ref b8), .val (.int (0 : Int32)), .val (.int (0 : Int32))] [(.int (1 : Int32))])) (fun t k => XS.goto X63.here hx rfl (pc0 := 253) (pc' := 257) rfl (hb hby at_253) (by decide) (by decide) k) ?_
                exact Ends.ret (w := (.int (1 : Int32))) X63 hx Bd.notSynchronized Bd.returns rfl (Or.inl ⟨rfl, Or.inr (Or.inl rfl), _, rfl⟩) (hb hby at_257) eh63 ⟨rfl, N63⟩ (by decide) (by decide)
            · refine Ends.pre (T' := T9.setTop (mkF m 179 #[.val (.long x0), .second, .val (.long x1), .second, .val (.long x2), .second, .val (.long x3), .second, .val (.long x4), .second, .val (.int x5), .val (.long y0), .second, .val (.long y1), .second, .val (.long y2), .second, .val (.long y3), .second, .val (.long y4), .second, .val (.ref b6), .val (.ref b8), .val (.int kk), .unset, .unset, .unset] [])) (fun t k => XS.ifYes X9.here hx rfl (pc0 := 124) (pc' := 179) rfl (hb hby at_124) rfl (Jvm.Free.XT.i0_ne_t hc124_10) (by decide) (by decide) k) ?_
              refine Ends.pre (T' := T9.setTop (mkF m 181 #[.val (.long x0), .second, .val (.long x1), .second, .val (.long x2), .second, .val (.long x3), .second, .val (.long x4), .second, .val (.int x5), .val (.long y0), .second, .val (.long y1), .second, .val (.long y2), .second, .val (.long y3), .second, .val (.long y4), .second, .val (.ref b6), .val (.ref b8), .val (.int kk), .unset, .unset, .unset] [(.int kk)])) (fun t k => XS.iload X9.here hx rfl (hb hby at_179) rfl k) ?_
              refine Ends.pre (T' := T9.setTop (mkF m 182 #[.val (.long x0), .second, .val (.long x1), .second, .val (.long x2), .second, .val (.long x3), .second, .val (.long x4), .second, .val (.int x5), .val (.long y0), .second, .val (.long y1), .second, .val (.long y2), .second, .val (.long y3), .second, .val (.long y4), .second, .val (.ref b6), .val (.ref b8), .val (.int kk), .unset, .unset, .unset] [(.int (1 : Int32)), (.int kk)])) (fun t k => XS.iconst X9.here hx rfl (hb hby at_181) k) ?_
              by_cases hc182_64 : kk = (1 : Int32)
              · refine Ends.pre (T' := T9.setTop (mkF m 185 #[.val (.long x0), .second, .val (.long x1), .second, .val (.long x2), .second, .val (.long x3), .second, .val (.long x4), .second, .val (.int x5), .val (.long y0), .second, .val (.long y1), .second, .val (.long y2), .second, .val (.long y3), .second, .val (.long y4), .second, .val (.ref b6), .val (.ref b8), .val (.int kk), .unset, .unset, .unset] [])) (fun t k => XS.icmpNo X9.here hx rfl (hb hby at_182) rfl (Jvm.Free.XT.ii_ne_f hc182_64) k) ?_
                refine Ends.pre (T' := T9.setTop (mkF m 186 #[.val (.long x0), .second, .val (.long x1), .second, .val (.long x2), .second, .val (.long x3), .second, .val (.long x4), .second, .val (.int x5), .val (.long y0), .second, .val (.long y1), .second, .val (.long y2), .second, .val (.long y3), .second, .val (.long y4), .second, .val (.ref b6), .val (.ref b8), .val (.int kk), .unset, .unset, .unset] [.null])) (fun t k => XS.aconstNull X9.here hx rfl (hb hby at_185) k) ?_
                refine Ends.pre (T' := T9.setTop (mkF m 188 #[.val (.long x0), .second, .val (.long x1), .second, .val (.long x2), .second, .val (.long x3), .second, .val (.long x4), .second, .val (.int x5), .val (.long y0), .second, .val (.long y1), .second, .val (.long y2), .second, .val (.long y3), .second, .val (.long y4), .second, .val (.ref b6), .val (.ref b8), .val (.int kk), .val .null, .unset, .unset] [])) (fun t k => XS.astore (g := (mkF m 186 #[.val (.long x0), .second, .val (.long x1), .second, .val (.long x2), .second, .val (.long x3), .second, .val (.long x4), .second, .val (.int x5), .val (.long y0), .second, .val (.long y1), .second, .val (.long y2), .second, .val (.long y3), .second, .val (.long y4), .second, .val (.ref b6), .val (.ref b8), .val (.int kk), .unset, .unset, .unset] [.null])) X9.here hx rfl (hb hby at_186) rfl rfl (l' := #[.val (.long x0), .second, .val (.long x1), .second, .val (.long x2), .second, .val (.long x3), .second, .val (.long x4), .second, .val (.int x5), .val (.long y0), .second, .val (.long y1), .second, .val (.long y2), .second, .val (.long y3), .second, .val (.long y4), .second, .val (.ref b6), .val (.ref b8), .val (.int kk), .val .null, .unset, .unset]) rfl k) ?_
                refine Ends.pre (T' := T9.setTop (mkF m 189 #[.val (.long x0), .second, .val (.long x1), .second, .val (.long x2), .second, .val (.long x3), .second, .val (.long x4), .second, .val (.int x5), .val (.long y0), .second, .val (.long y1), .second, .val (.long y2), .second, .val (.long y3), .second, .val (.long y4), .second, .val (.ref b6), .val (.ref b8), .val (.int kk), .val .null, .unset, .unset] [(.int (0 : Int32))])) (fun t k => XS.iconst X9.here hx rfl (hb hby at_188) k) ?_
                refine Ends.pre (T' := T9.setTop (mkF m 191 #[.val (.long x0), .second, .val (.long x1), .second, .val (.long x2), .second, .val (.long x3), .second, .val (.long x4), .second, .val (.int x5), .val (.long y0), .second, .val (.long y1), .second, .val (.long y2), .second, .val (.long y3), .second, .val (.long y4), .second, .val (.ref b6), .val (.ref b8), .val (.int kk), .val .null, .val (.int (0 : Int32)), .unset] [])) (fun t k => XS.istore (g := (mkF m 189 #[.val (.long x0), .second, .val (.long x1), .second, .val (.long x2), .second, .val (.long x3), .second, .val (.long x4), .second, .val (.int x5), .val (.long y0), .second, .val (.long y1), .second, .val (.long y2), .second, .val (.long y3), .second, .val (.long y4), .second, .val (.ref b6), .val (.ref b8), .val (.int kk), .val .null, .unset, .unset] [(.int (0 : Int32))])) X9.here hx rfl (hb hby at_189) rfl (l' := #[.val (.long x0), .second, .val (.long x1), .second, .val (.long x2), .second, .val (.long x3), .second, .val (.long x4), .second, .val (.int x5), .val (.long y0), .second, .val (.long y1), .second, .val (.long y2), .second, .val (.long y3), .second, .val (.long y4), .second, .val (.ref b6), .val (.ref b8), .val (.int kk), .val .null, .val (.int (0 : Int32)), .unset]) rfl k) ?_
                refine Ends.pre (T' := T9.setTop (mkF m 219 #[.val (.long x0), .second, .val (.long x1), .second, .val (.long x2), .second, .val (.long x3), .second, .val (.long x4), .second, .val (.int x5), .val (.long y0), .second, .val (.long y1), .second, .val (.long y2), .second, .val (.long y3), .second, .val (.long y4), .second, .val (.ref b6), .val (.ref b8), .val (.int kk), .val .null, .val (.int (0 : Int32)), .unset] [])) (fun t k => XS.goto X9.here hx rfl (pc0 := 191) (pc' := 219) rfl (hb hby at_191) (by decide) (by decide) k) ?_
                refine Ends.pre (T' := T9.setTop (mkF m 221 #[.val (.long x0), .second, .val (.long x1), .second, .val (.long x2), .second, .val (.long x3), .second, .val (.long x4), .second, .val (.int x5), .val (.long y0), .second, .val (.long y1), .second, .val (.long y2), .second, .val (.long y3), .second, .val (.long y4), .second, .val (.ref b6), .val (.ref b8), .val (.int kk), .val .null, .val (.int (0 : Int32)), .unset] [(.ref b6)])) (fun t k => XS.aload X9.here hx rfl (hb hby at_219) rfl rfl k) ?_
                refine Ends.pre (T' := T9.setTop (mkF m 223 #[.val (.long x0), .second, .val (.long x1), .second, .val (.long x2), .second, .val (.long x3), .second, .val (.long x4), .second, .val (.int x5), .val (.long y0), .second, .val (.long y1), .second, .val (.long y2), .second, .val (.long y3), .second, .val (.long y4), .second, .val (.ref b6), .val (.ref b8), .val (.int kk), .val .null, .val (.int (0 : Int32)), .unset] [.null, (.ref b6)])) (fun t k => XS.aload X9.here hx rfl (hb hby at_221) rfl rfl k) ?_
                have F66 : Exa Z T9.heap b6 "com/example/kept_backlog/keptbacklog/QueueStats" := ((Ec7.ext E8).keep Kc9)
                obtain ⟨cq65, kq65, q65a, q65b, q65c⟩ := isOf hZ rfl F66
                obtain ⟨_, _, ⟨T65, L65, k65, n65⟩, -, X65, ⟨Lc65, hQ65, l65, y65, z65⟩, st65⟩ := X9.virtualBack hx (y := (⟨"com/example/kept_backlog/keptbacklog/QueueStats", "equals", "(Ljava/lang/Object;)Z"⟩ : MethodName)) (z := (⟨"com/example/kept_backlog/keptbacklog/QueueStats", "equals", "(Ljava/lang/Object;)Z"⟩ : MethodName)) hown (mvT hZ (hw _ (List.mem_of_getElem? (i := 19) rfl))) (mvT hZ (hw _ (List.mem_of_getElem? (i := 20) rfl))) (notFace_of_selects (args := #[]) (mvT hZ (hw _ (List.mem_of_getElem? (i := 22) rfl)))) (mvT hZ (hw _ (List.mem_of_getElem? (i := 22) rfl))) (mvT hZ (hw _ (List.mem_of_getElem? (i := 21) rfl))) (by decide) (backOf (W := 0) (rm3n l Z a0 hw [] b6 T9.heap n0 (Nat.le_trans (Nat.le_trans (Nat.le_trans (Nat.le_trans Z0 E6.1) Kc7.1) E8.1) Kc9.1)) hZ (hw _ (List.mem_of_getElem? (i := 23) rfl)) (hw _ (List.mem_of_getElem? (i := 2) rfl)) (by decide) (by decide)) q65a q65c (g := (mkF m 223 #[.val (.long x0), .second, .val (.long x1), .second, .val (.long x2), .second, .val (.long x3), .second, .val (.long x4), .second, .val (.int x5), .val (.long y0), .second, .val (.long y1), .second, .val (.long y2), .second, .val (.long y3), .second, .val (.long y4), .second, .val (.ref b6), .val (.ref b8), .val (.int kk), .val .null, .val (.int (0 : Int32)), .unset] [.null, (.ref b6)])) rfl (by rw [hml]; rfl) (Steps.refl _) (argsL := [.null]) (rest := []) (lenOf pd_3 rfl) rfl (by show 2 * 0 + _ ≤ _; exact Nat.le_of_eq rfl) (hb hby at_223) (fun _ _ => ⟨rfl, rfl, (by decide : 2 + 0 ≤ _), (by decide : 10 + 0 ≤ _)⟩)
                dsimp only [Pt.U, Pt.locs, Pt.cells, Pt.slots] at X65 l65 y65 z65 st65 hQ65
                subst l65 y65 z65
                obtain ⟨rfl, N65q, eh65⟩ := hQ65
                have N65 := Fr.app N9 N65q
                refine Ends.pre (T' := T65.setTop (mkF m 226 #[.val (.long x0), .second, .val (.long x1), .second, .val (.long x2), .second, .val (.long x3), .second, .val (.long x4), .second, .val (.int x5), .val (.long y0), .second, .val (.long y1), .second, .val (.long y2), .second, .val (.long y3), .second, .val (.long y4), .second, .val (.ref b6), .val (.ref b8), .val (.int kk), .val .null, .val (.int (0 : Int32)), .unset] [(.int (0 : Int32))])) (fun t k => st65.trans k) ?_
                refine Ends.pre (T' := T65.setTop (mkF m 228 #[.val (.long x0), .second, .val (.long x1), .second, .val (.long x2), .second, .val (.long x3), .second, .val (.long x4), .second, .val (.int x5), .val (.long y0), .second, .val (.long y1), .second, .val (.long y2), .second, .val (.long y3), .second, .val (.long y4), .second, .val (.ref b6), .val (.ref b8), .val (.int kk), .val .null, .val (.int (0 : Int32)), .val (.int (0 : Int32))] [])) (fun t k => XS.istore (g := (mkF m 226 #[.val (.long x0), .second, .val (.long x1), .second, .val (.long x2), .second, .val (.long x3), .second, .val (.long x4), .second, .val (.int x5), .val (.long y0), .second, .val (.long y1), .second, .val (.long y2), .second, .val (.long y3), .second, .val (.long y4), .second, .val (.ref b6), .val (.ref b8), .val (.int kk), .val .null, .val (.int (0 : Int32)), .unset] [(.int (0 : Int32))])) X65.here hx rfl (hb hby at_226) rfl (l' := #[.val (.long x0), .second, .val (.long x1), .second, .val (.long x2), .second, .val (.long x3), .second, .val (.long x4), .second, .val (.int x5), .val (.long y0), .second, .val (.long y1), .second, .val (.long y2), .second, .val (.long y3), .second, .val (.long y4), .second, .val (.ref b6), .val (.ref b8), .val (.int kk), .val .null, .val (.int (0 : Int32)), .val (.int (0 : Int32))]) rfl k) ?_
                refine Ends.pre (T' := T65.setTop (mkF m 230 #[.val (.long x0), .second, .val (.long x1), .second, .val (.long x2), .second, .val (.long x3), .second, .val (.long x4), .second, .val (.int x5), .val (.long y0), .second, .val (.long y1), .second, .val (.long y2), .second, .val (.long y3), .second, .val (.long y4), .second, .val (.ref b6), .val (.ref b8), .val (.int kk), .val .null, .val (.int (0 : Int32)), .val (.int (0 : Int32))] [(.int kk)])) (fun t k => XS.iload X65.here hx rfl (hb hby at_228) rfl k) ?_
                refine Ends.pre (T' := T65.setTop (mkF m 258 #[.val (.long x0), .second, .val (.long x1), .second, .val (.long x2), .second, .val (.long x3), .second, .val (.long x4), .second, .val (.int x5), .val (.long y0), .second, .val (.long y1), .second, .val (.long y2), .second, .val (.long y3), .second, .val (.long y4), .second, .val (.ref b6), .val (.ref b8), .val (.int kk), .val .null, .val (.int (0 : Int32)), .val (.int (0 : Int32))] [])) (fun t k => XS.ifYes X65.here hx rfl (pc0 := 230) (pc' := 258) rfl (hb hby at_230) rfl (Jvm.Free.XT.i0_ne_t hc124_10) (by decide) (by decide) k) ?_
                refine Ends.pre (T' := T65.setTop (mkF m 260 #[.val (.long x0), .second, .val (.long x1), .second, .val (.long x2), .second, .val (.long x3), .second, .val (.long x4), .second, .val (.int x5), .val (.long y0), .second, .val (.long y1), .second, .val (.long y2), .second, .val (.long y3), .second, .val (.long y4), .second, .val (.ref b6), .val (.ref b8), .val (.int kk), .val .null, .val (.int (0 : Int32)), .val (.int (0 : Int32))] [(.int (0 : Int32))])) (fun t k => XS.iload X65.here hx rfl (hb hby at_258) rfl k) ?_
                refine Ends.pre (T' := T65.setTop (mkF m 262 #[.val (.long x0), .second, .val (.long x1), .second, .val (.long x2), .second, .val (.long x3), .second, .val (.long x4), .second, .val (.int x5), .val (.long y0), .second, .val (.long y1), .second, .val (.long y2), .second, .val (.long y3), .second, .val (.long y4), .second, .val (.ref b6), .val (.ref b8), .val (.int kk), .val .null, .val (.int (0 : Int32)), .val (.int (0 : Int32))] [(.int (0 : Int32)), (.int (0 : Int32))])) (fun t k => XS.iload X65.here hx rfl (hb hby at_260) rfl k) ?_
                refine Ends.pre (T' := T65.setTop (mkF m 265 #[.val (.long x0), .second, .val (.long x1), .second, .val (.long x2), .second, .val (.long x3), .second, .val (.long x4), .second, .val (.int x5), .val (.long y0), .second, .val (.long y1), .second, .val (.long y2), .second, .val (.long y3), .second, .val (.long y4), .second, .val (.ref b6), .val (.ref b8), .val (.int kk), .val .null, .val (.int (0 : Int32)), .val (.int (0 : Int32))] [])) (fun t k => XS.icmpNo X65.here hx rfl (hb hby at_262) rfl (by decide) k) ?_
                refine Ends.pre (T' := T65.setTop (mkF m 266 #[.val (.long x0), .second, .val (.long x1), .second, .val (.long x2), .second, .val (.long x3), .second, .val (.long x4), .second, .val (.int x5), .val (.long y0), .second, .val (.long y1), .second, .val (.long y2), .second, .val (.long y3), .second, .val (.long y4), .second, .val (.ref b6), .val (.ref b8), .val (.int kk), .val .null, .val (.int (0 : Int32)), .val (.int (0 : Int32))] [(.int (1 : Int32))])) (fun t k => XS.iconst X65.here hx rfl (hb hby at_265) k) ?_
                refine Ends.pre (T' := T65.setTop (mkF m 270 #[.val (.long x0), .second, .val (.long x1), .second, .val (.long x2), .second, .val (.long x3), .second, .val (.long x4), .second, .val (.int x5), .val (.long y0), .second, .val (.long y1), .second, .val (.long y2), .second, .val (.long y3), .second, .val (.long y4), .second, .val (.ref b6), .val (.ref b8), .val (.int kk), .val .null, .val (.int (0 : Int32)), .val (.int (0 : Int32))] [(.int (1 : Int32))])) (fun t k => XS.goto X65.here hx rfl (pc0 := 266) (pc' := 270) rfl (hb hby at_266) (by decide) (by decide) k) ?_
                exact Ends.ret (w := (.int (1 : Int32))) X65 hx Bd.notSynchronized Bd.returns rfl (Or.inl ⟨rfl, Or.inr (Or.inl rfl), _, rfl⟩) (hb hby at_270) eh65 ⟨rfl, N65⟩ (by decide) (by decide)
              · refine Ends.pre (T' := T9.setTop (mkF m 194 #[.val (.long x0), .second, .val (.long x1), .second, .val (.long x2), .second, .val (.long x3), .second, .val (.long x4), .second, .val (.int x5), .val (.long y0), .second, .val (.long y1), .second, .val (.long y2), .second, .val (.long y3), .second, .val (.long y4), .second, .val (.ref b6), .val (.ref b8), .val (.int kk), .unset, .unset, .unset] [])) (fun t k => XS.icmpYes X9.here hx rfl (pc0 := 182) (pc' := 194) rfl (hb hby at_182) rfl (Jvm.Free.XT.ii_ne_t hc182_64) (by decide) (by decide) k) ?_
                refine Ends.pre (T' := T9.setTop (mkF m 196 #[.val (.long x0), .second, .val (.long x1), .second, .val (.long x2), .second, .val (.long x3), .second, .val (.long x4), .second, .val (.int x5), .val (.long y0), .second, .val (.long y1), .second, .val (.long y2), .second, .val (.long y3), .second, .val (.long y4), .second, .val (.ref b6), .val (.ref b8), .val (.int kk), .unset, .unset, .unset] [(.int kk)])) (fun t k => XS.iload X9.here hx rfl (hb hby at_194) rfl k) ?_
                refine Ends.pre (T' := T9.setTop (mkF m 197 #[.val (.long x0), .second, .val (.long x1), .second, .val (.long x2), .second, .val (.long x3), .second, .val (.long x4), .second, .val (.int x5), .val (.long y0), .second, .val (.long y1), .second, .val (.long y2), .second, .val (.long y3), .second, .val (.long y4), .second, .val (.ref b6), .val (.ref b8), .val (.int kk), .unset, .unset, .unset] [(.int (2 : Int32)), (.int kk)])) (fun t k => XS.iconst X9.here hx rfl (hb hby at_196) k) ?_
                by_cases hc197_67 : kk = (2 : Int32)
                · refine Ends.pre (T' := T9.setTop (mkF m 200 #[.val (.long x0), .second, .val (.long x1), .second, .val (.long x2), .second, .val (.long x3), .second, .val (.long x4), .second, .val (.int x5), .val (.long y0), .second, .val (.long y1), .second, .val (.long y2), .second, .val (.long y3), .second, .val (.long y4), .second, .val (.ref b6), .val (.ref b8), .val (.int kk), .unset, .unset, .unset] [])) (fun t k => XS.icmpNo X9.here hx rfl (hb hby at_197) rfl (Jvm.Free.XT.ii_ne_f hc197_67) k) ?_
                  refine Ends.pre (T' := T9.setTop (mkF m 201 #[.val (.long x0), .second, .val (.long x1), .second, .val (.long x2), .second, .val (.long x3), .second, .val (.long x4), .second, .val (.int x5), .val (.long y0), .second, .val (.long y1), .second, .val (.long y2), .second, .val (.long y3), .second, .val (.long y4), .second, .val (.ref b6), .val (.ref b8), .val (.int kk), .unset, .unset, .unset] [(.long x0)])) (fun t k => XS.lloadN X9.here hx rfl (hb hby at_200) rfl k) ?_
                  have F68 : Sta Z T9.heap "java/lang/Long$LongCache" "cache" "[Ljava/lang/Long;" (.ref ca) := (Sta_keep0 SC K9)
                  obtain ⟨_, _, ⟨T69, L69, k69, n69⟩, -, X69, ⟨Lc69, hQ69, l69, y69, z69⟩, st69⟩ := Jvm.LawKit.callS X9 hx (y := (⟨"java/lang/Long", "valueOf", "(J)Ljava/lang/Long;"⟩ : MethodName)) hown (mvT hZ (hw _ (List.mem_of_getElem? (i := 26) rfl))) (mvT hZ (hw _ (List.mem_of_getElem? (i := 27) rfl))) (mvT hZ (hw _ (List.mem_of_getElem? (i := 28) rfl))) (mvT hZ (hw _ (List.mem_of_getElem? (i := 29) rfl))) (by decide) (backOf (W := 0) (rm4 l Z a0 hw [] x0 ca cl T9.heap n0 (Nat.le_trans (Nat.le_trans (Nat.le_trans (Nat.le_trans Z0 E6.1) Kc7.1) E8.1) Kc9.1) F68 (Arr_keep0 Ar K9) hsz (fun j hj => by obtain ⟨r, q1, q2⟩ := hel j hj; exact ⟨r, q1, q2.keep K9⟩)) hZ (hw _ (List.mem_of_getElem? (i := 29) rfl)) (hw _ (List.mem_of_getElem? (i := 28) rfl)) (by decide) (by decide)) (g := (mkF m 201 #[.val (.long x0), .second, .val (.long x1), .second, .val (.long x2), .second, .val (.long x3), .second, .val (.long x4), .second, .val (.int x5), .val (.long y0), .second, .val (.long y1), .second, .val (.long y2), .second, .val (.long y3), .second, .val (.long y4), .second, .val (.ref b6), .val (.ref b8), .val (.int kk), .unset, .unset, .unset] [(.long x0)])) rfl (by rw [hml]; rfl) (argsL := [(.long x0)]) (rest := []) (lenOf pd_4 rfl) rfl (by show 2 * 0 + _ ≤ _; exact Nat.le_of_eq rfl) (hb hby at_201) (fun _ _ => ⟨rfl, rfl, (by decide : 2 + 1 ≤ _), (by decide : 10 + 1 ≤ _)⟩)
                  dsimp only [Pt.U, Pt.locs, Pt.cells, Pt.slots] at X69 l69 y69 z69 st69 hQ69
                  subst l69 y69 z69
                  obtain ⟨r69, hQ69⟩ := hQ69
                  obtain ⟨rfl, N69q, Kc69, Er69⟩ := hQ69
                  have N69 := Fr.app N9 N69q
                  have K69 : Keep h0 T69.heap [] := K9.trans Kc69 all0
                  refine Ends.pre (T' := T69.setTop (mkF m 204 #[.val (.long x0), .second, .val (.long x1), .second, .val (.long x2), .second, .val (.long x3), .second, .val (.long x4), .second, .val (.int x5), .val (.long y0), .second, .val (.long y1), .second, .val (.long y2), .second, .val (.long y3), .second, .val (.long y4), .second, .val (.ref b6), .val (.ref b8), .val (.int kk), .unset, .unset, .unset] [(.ref r69)])) (fun t k => st69 _ k) ?_
                  refine Ends.pre (T' := T69.setTop (mkF m 206 #[.val (.long x0), .second, .val (.long x1), .second, .val (.long x2), .second, .val (.long x3), .second, .val (.long x4), .second, .val (.int x5), .val (.long y0), .second, .val (.long y1), .second, .val (.long y2), .second, .val (.long y3), .second, .val (.long y4), .second, .val (.ref b6), .val (.ref b8), .val (.int kk), .val (.ref r69), .unset, .unset] [])) (fun t k => XS.astore (g := (mkF m 204 #[.val (.long x0), .second, .val (.long x1), .second, .val (.long x2), .second, .val (.long x3), .second, .val (.long x4), .second, .val (.int x5), .val (.long y0), .second, .val (.long y1), .second, .val (.long y2), .second, .val (.long y3), .second, .val (.long y4), .second, .val (.ref b6), .val (.ref b8), .val (.int kk), .unset, .unset, .unset] [(.ref r69)])) X69.here hx rfl (hb hby at_204) rfl rfl (l' := #[.val (.long x0), .second, .val (.long x1), .second, .val (.long x2), .second, .val (.long x3), .second, .val (.long x4), .second, .val (.int x5), .val (.long y0), .second, .val (.long y1), .second, .val (.long y2), .second, .val (.long y3), .second, .val (.long y4), .second, .val (.ref b6), .val (.ref b8), .val (.int kk), .val (.ref r69), .unset, .unset]) rfl k) ?_
                  refine Ends.pre (T' := T69.setTop (mkF m 207 #[.val (.long x0), .second, .val (.long x1), .second, .val (.long x2), .second, .val (.long x3), .second, .val (.long x4), .second, .val (.int x5), .val (.long y0), .second, .val (.long y1), .second, .val (.long y2), .second, .val (.long y3), .second, .val (.long y4), .second, .val (.ref b6), .val (.ref b8), .val (.int kk), .val (.ref r69), .unset, .unset] [(.int (0 : Int32))])) (fun t k => XS.iconst X69.here hx rfl (hb hby at_206) k) ?_
                  refine Ends.pre (T' := T69.setTop (mkF m 209 #[.val (.long x0), .second, .val (.long x1), .second, .val (.long x2), .second, .val (.long x3), .second, .val (.long x4), .second, .val (.int x5), .val (.long y0), .second, .val (.long y1), .second, .val (.long y2), .second, .val (.long y3), .second, .val (.long y4), .second, .val (.ref b6), .val (.ref b8), .val (.int kk), .val (.ref r69), .val (.int (0 : Int32)), .unset] [])) (fun t k => XS.istore (g := (mkF m 207 #[.val (.long x0), .second, .val (.long x1), .second, .val (.long x2), .second, .val (.long x3), .second, .val (.long x4), .second, .val (.int x5), .val (.long y0), .second, .val (.long y1), .second, .val (.long y2), .second, .val (.long y3), .second, .val (.long y4), .second, .val (.ref b6), .val (.ref b8), .val (.int kk), .val (.ref r69), .unset, .unset] [(.int (0 : Int32))])) X69.here hx rfl (hb hby at_207) rfl (l' := #[.val (.long x0), .second, .val (.long x1), .second, .val (.long x2), .second, .val (.long x3), .second, .val (.long x4), .second, .val (.int x5), .val (.long y0), .second, .val (.long y1), .second, .val (.long y2), .second, .val (.long y3), .second, .val (.long y4), .second, .val (.ref b6), .val (.ref b8), .val (.int kk), .val (.ref r69), .val (.int (0 : Int32)), .unset]) rfl k) ?_
                  refine Ends.pre (T' := T69.setTop (mkF m 219 #[.val (.long x0), .second, .val (.long x1), .second, .val (.long x2), .second, .val (.long x3), .second, .val (.long x4), .second, .val (.int x5), .val (.long y0), .second, .val (.long y1), .second, .val (.long y2), .second, .val (.long y3), .second, .val (.long y4), .second, .val (.ref b6), .val (.ref b8), .val (.int kk), .val (.ref r69), .val (.int (0 : Int32)), .unset] [])) (fun t k => XS.goto X69.here hx rfl (pc0 := 209) (pc' := 219) rfl (hb hby at_209) (by decide) (by decide) k) ?_
                  refine Ends.pre (T' := T69.setTop (mkF m 221 #[.val (.long x0), .second, .val (.long x1), .second, .val (.long x2), .second, .val (.long x3), .second, .val (.long x4), .second, .val (.int x5), .val (.long y0), .second, .val (.long y1), .second, .val (.long y2), .second, .val (.long y3), .second, .val (.long y4), .second, .val (.ref b6), .val (.ref b8), .val (.int kk), .val (.ref r69), .val (.int (0 : Int32)), .unset] [(.ref b6)])) (fun t k => XS.aload X69.here hx rfl (hb hby at_219) rfl rfl k) ?_
                  refine Ends.pre (T' := T69.setTop (mkF m 223 #[.val (.long x0), .second, .val (.long x1), .second, .val (.long x2), .second, .val (.long x3), .second, .val (.long x4), .second, .val (.int x5), .val (.long y0), .second, .val (.long y1), .second, .val (.long y2), .second, .val (.long y3), .second, .val (.long y4), .second, .val (.ref b6), .val (.ref b8), .val (.int kk), .val (.ref r69), .val (.int (0 : Int32)), .unset] [(.ref r69), (.ref b6)])) (fun t k => XS.aload X69.here hx rfl (hb hby at_221) rfl rfl k) ?_
                  have F71 : Exa Z T69.heap b6 "com/example/kept_backlog/keptbacklog/QueueStats" := (((Ec7.ext E8).keep Kc9).keep Kc69)
                  obtain ⟨cq70, kq70, q70a, q70b, q70c⟩ := isOf hZ rfl F71
                  obtain ⟨_, _, ⟨T70, L70, k70, n70⟩, -, X70, ⟨Lc70, hQ70, l70, y70, z70⟩, st70⟩ := X69.virtualBack hx (y := (⟨"com/example/kept_backlog/keptbacklog/QueueStats", "equals", "(Ljava/lang/Object;)Z"⟩ : MethodName)) (z := (⟨"com/example/kept_backlog/keptbacklog/QueueStats", "equals", "(Ljava/lang/Object;)Z"⟩ : MethodName)) hown (mvT hZ (hw _ (List.mem_of_getElem? (i := 19) rfl))) (mvT hZ (hw _ (List.mem_of_getElem? (i := 20) rfl))) (notFace_of_selects (args := #[]) (mvT hZ (hw _ (List.mem_of_getElem? (i := 22) rfl)))) (mvT hZ (hw _ (List.mem_of_getElem? (i := 22) rfl))) (mvT hZ (hw _ (List.mem_of_getElem? (i := 21) rfl))) (by decide) (backOf (W := 0) (rm3l l Z a0 hw [] b6 r69 T69.heap n0 (Nat.le_trans (Nat.le_trans (Nat.le_trans (Nat.le_trans (Nat.le_trans Z0 E6.1) Kc7.1) E8.1) Kc9.1) Kc69.1) Er69) hZ (hw _ (List.mem_of_getElem? (i := 23) rfl)) (hw _ (List.mem_of_getElem? (i := 2) rfl)) (by decide) (by decide)) q70a q70c (g := (mkF m 223 #[.val (.long x0), .second, .val (.long x1), .second, .val (.long x2), .second, .val (.long x3), .second, .val (.long x4), .second, .val (.int x5), .val (.long y0), .second, .val (.long y1), .second, .val (.long y2), .second, .val (.long y3), .second, .val (.long y4), .second, .val (.ref b6), .val (.ref b8), .val (.int kk), .val (.ref r69), .val (.int (0 : Int32)), .unset] [(.ref r69), (.ref b6)])) rfl (by rw [hml]; rfl) (Steps.refl _) (argsL := [(.ref r69)]) (rest := []) (lenOf pd_3 rfl) rfl (by show 2 * 0 + _ ≤ _; exact Nat.le_of_eq rfl) (hb hby at_223) (fun _ _ => ⟨rfl, rfl, (by decide : 3 + 0 ≤ _), (by decide : 11 + 0 ≤ _)⟩)
                  dsimp only [Pt.U, Pt.locs, Pt.cells, Pt.slots] at X70 l70 y70 z70 st70 hQ70
                  subst l70 y70 z70
                  obtain ⟨rfl, N70q, eh70⟩ := hQ70
                  have N70 := Fr.app N69 N70q
                  refine Ends.pre (T' := T70.setTop (mkF m 226 #[.val (.long x0), .second, .val (.long x1), .second, .val (.long x2), .second, .val (.long x3), .second, .val (.long x4), .second, .val (.int x5), .val (.long y0), .second, .val (.long y1), .second, .val (.long y2), .second, .val (.long y3), .second, .val (.long y4), .second, .val (.ref b6), .val (.ref b8), .val (.int kk), .val (.ref r69), .val (.int (0 : Int32)), .unset] [(.int (0 : Int32))])) (fun t k => st70.trans k) ?_
                  refine Ends.pre (T' := T70.setTop (mkF m 228 #[.val (.long x0), .second, .val (.long x1), .second, .val (.long x2), .second, .val (.long x3), .second, .val (.long x4), .second, .val (.int x5), .val (.long y0), .second, .val (.long y1), .second, .val (.long y2), .second, .val (.long y3), .second, .val (.long y4), .second, .val (.ref b6), .val (.ref b8), .val (.int kk), .val (.ref r69), .val (.int (0 : Int32)), .val (.int (0 : Int32))] [])) (fun t k => XS.istore (g := (mkF m 226 #[.val (.long x0), .second, .val (.long x1), .second, .val (.long x2), .second, .val (.long x3), .second, .val (.long x4), .second, .val (.int x5), .val (.long y0), .second, .val (.long y1), .second, .val (.long y2), .second, .val (.long y3), .second, .val (.long y4), .second, .val (.ref b6), .val (.ref b8), .val (.int kk), .val (.ref r69), .val (.int (0 : Int32)), .unset] [(.int (0 : Int32))])) X70.here hx rfl (hb hby at_226) rfl (l' := #[.val (.long x0), .second, .val (.long x1), .second, .val (.long x2), .second, .val (.long x3), .second, .val (.long x4), .second, .val (.int x5), .val (.long y0), .second, .val (.long y1), .second, .val (.long y2), .second, .val (.long y3), .second, .val (.long y4), .second, .val (.ref b6), .val (.ref b8), .val (.int kk), .val (.ref r69), .val (.int (0 : Int32)), .val (.int (0 : Int32))]) rfl k) ?_
                  refine Ends.pre (T' := T70.setTop (mkF m 230 #[.val (.long x0), .second, .val (.long x1), .second, .val (.long x2), .second, .val (.long x3), .second, .val (.long x4), .second, .val (.int x5), .val (.long y0), .second, .val (.long y1), .second, .val (.long y2), .second, .val (.long y3), .second, .val (.long y4), .second, .val (.ref b6), .val (.ref b8), .val (.int kk), .val (.ref r69), .val (.int (0 : Int32)), .val (.int (0 : Int32))] [(.int kk)])) (fun t k => XS.iload X70.here hx rfl (hb hby at_228) rfl k) ?_
                  refine Ends.pre (T' := T70.setTop (mkF m 258 #[.val (.long x0), .second, .val (.long x1), .second, .val (.long x2), .second, .val (.long x3), .second, .val (.long x4), .second, .val (.int x5), .val (.long y0), .second, .val (.long y1), .second, .val (.long y2), .second, .val (.long y3), .second, .val (.long y4), .second, .val (.ref b6), .val (.ref b8), .val (.int kk), .val (.ref r69), .val (.int (0 : Int32)), .val (.int (0 : Int32))] [])) (fun t k => XS.ifYes X70.here hx rfl (pc0 := 230) (pc' := 258) rfl (hb hby at_230) rfl (Jvm.Free.XT.i0_ne_t hc124_10) (by decide) (by decide) k) ?_
                  refine Ends.pre (T' := T70.setTop (mkF m 260 #[.val (.long x0), .second, .val (.long x1), .second, .val (.long x2), .second, .val (.long x3), .second, .val (.long x4), .second, .val (.int x5), .val (.long y0), .second, .val (.long y1), .second, .val (.long y2), .second, .val (.long y3), .second, .val (.long y4), .second, .val (.ref b6), .val (.ref b8), .val (.int kk), .val (.ref r69), .val (.int (0 : Int32)), .val (.int (0 : Int32))] [(.int (0 : Int32))])) (fun t k => XS.iload X70.here hx rfl (hb hby at_258) rfl k) ?_
                  refine Ends.pre (T' := T70.setTop (mkF m 262 #[.val (.long x0), .second, .val (.long x1), .second, .val (.long x2), .second, .val (.long x3), .second, .val (.long x4), .second, .val (.int x5), .val (.long y0), .second, .val (.long y1), .second, .val (.long y2), .second, .val (.long y3), .second, .val (.long y4), .second, .val (.ref b6), .val (.ref b8), .val (.int kk), .val (.ref r69), .val (.int (0 : Int32)), .val (.int (0 : Int32))] [(.int (0 : Int32)), (.int (0 : Int32))])) (fun t k => XS.iload X70.here hx rfl (hb hby at_260) rfl k) ?_
                  refine Ends.pre (T' := T70.setTop (mkF m 265 #[.val (.long x0), .second, .val (.long x1), .second, .val (.long x2), .second, .val (.long x3), .second, .val (.long x4), .second, .val (.int x5), .val (.long y0), .second, .val (.long y1), .second, .val (.long y2), .second, .val (.long y3), .second, .val (.long y4), .second, .val (.ref b6), .val (.ref b8), .val (.int kk), .val (.ref r69), .val (.int (0 : Int32)), .val (.int (0 : Int32))] [])) (fun t k => XS.icmpNo X70.here hx rfl (hb hby at_262) rfl (by decide) k) ?_
                  refine Ends.pre (T' := T70.setTop (mkF m 266 #[.val (.long x0), .second, .val (.long x1), .second, .val (.long x2), .second, .val (.long x3), .second, .val (.long x4), .second, .val (.int x5), .val (.long y0), .second, .val (.long y1), .second, .val (.long y2), .second, .val (.long y3), .second, .val (.long y4), .second, .val (.ref b6), .val (.ref b8), .val (.int kk), .val (.ref r69), .val (.int (0 : Int32)), .val (.int (0 : Int32))] [(.int (1 : Int32))])) (fun t k => XS.iconst X70.here hx rfl (hb hby at_265) k) ?_
                  refine Ends.pre (T' := T70.setTop (mkF m 270 #[.val (.long x0), .second, .val (.long x1), .second, .val (.long x2), .second, .val (.long x3), .second, .val (.long x4), .second, .val (.int x5), .val (.long y0), .second, .val (.long y1), .second, .val (.long y2), .second, .val (.long y3), .second, .val (.long y4), .second, .val (.ref b6), .val (.ref b8), .val (.int kk), .val (.ref r69), .val (.int (0 : Int32)), .val (.int (0 : Int32))] [(.int (1 : Int32))])) (fun t k => XS.goto X70.here hx rfl (pc0 := 266) (pc' := 270) rfl (hb hby at_266) (by decide) (by decide) k) ?_
                  exact Ends.ret (w := (.int (1 : Int32))) X70 hx Bd.notSynchronized Bd.returns rfl (Or.inl ⟨rfl, Or.inr (Or.inl rfl), _, rfl⟩) (hb hby at_270) eh70 ⟨rfl, N70⟩ (by decide) (by decide)
                · refine Ends.pre (T' := T9.setTop (mkF m 212 #[.val (.long x0), .second, .val (.long x1), .second, .val (.long x2), .second, .val (.long x3), .second, .val (.long x4), .second, .val (.int x5), .val (.long y0), .second, .val (.long y1), .second, .val (.long y2), .second, .val (.long y3), .second, .val (.long y4), .second, .val (.ref b6), .val (.ref b8), .val (.int kk), .unset, .unset, .unset] [])) (fun t k => XS.icmpYes X9.here hx rfl (pc0 := 197) (pc' := 212) rfl (hb hby at_197) rfl (Jvm.Free.XT.ii_ne_t hc197_67) (by decide) (by decide) k) ?_
                  refine Ends.pre (T' := T9.setTop (mkF m 214 #[.val (.long x0), .second, .val (.long x1), .second, .val (.long x2), .second, .val (.long x3), .second, .val (.long x4), .second, .val (.int x5), .val (.long y0), .second, .val (.long y1), .second, .val (.long y2), .second, .val (.long y3), .second, .val (.long y4), .second, .val (.ref b6), .val (.ref b8), .val (.int kk), .unset, .unset, .unset] [(.ref b6)])) (fun t k => XS.aload X9.here hx rfl (hb hby at_212) rfl rfl k) ?_
                  refine Ends.pre (T' := T9.setTop (mkF m 216 #[.val (.long x0), .second, .val (.long x1), .second, .val (.long x2), .second, .val (.long x3), .second, .val (.long x4), .second, .val (.int x5), .val (.long y0), .second, .val (.long y1), .second, .val (.long y2), .second, .val (.long y3), .second, .val (.long y4), .second, .val (.ref b6), .val (.ref b8), .val (.int kk), .val (.ref b6), .unset, .unset] [])) (fun t k => XS.astore (g := (mkF m 214 #[.val (.long x0), .second, .val (.long x1), .second, .val (.long x2), .second, .val (.long x3), .second, .val (.long x4), .second, .val (.int x5), .val (.long y0), .second, .val (.long y1), .second, .val (.long y2), .second, .val (.long y3), .second, .val (.long y4), .second, .val (.ref b6), .val (.ref b8), .val (.int kk), .unset, .unset, .unset] [(.ref b6)])) X9.here hx rfl (hb hby at_214) rfl rfl (l' := #[.val (.long x0), .second, .val (.long x1), .second, .val (.long x2), .second, .val (.long x3), .second, .val (.long x4), .second, .val (.int x5), .val (.long y0), .second, .val (.long y1), .second, .val (.long y2), .second, .val (.long y3), .second, .val (.long y4), .second, .val (.ref b6), .val (.ref b8), .val (.int kk), .val (.ref b6), .unset, .unset]) rfl k) ?_
                  refine Ends.pre (T' := T9.setTop (mkF m 217 #[.val (.long x0), .second, .val (.long x1), .second, .val (.long x2), .second, .val (.long x3), .second, .val (.long x4), .second, .val (.int x5), .val (.long y0), .second, .val (.long y1), .second, .val (.long y2), .second, .val (.long y3), .second, .val (.long y4), .second, .val (.ref b6), .val (.ref b8), .val (.int kk), .val (.ref b6), .unset, .unset] [(.int (1 : Int32))])) (fun t k => XS.iconst X9.here hx rfl (hb hby at_216) k) ?_
                  refine Ends.pre (T' := T9.setTop (mkF m 219 #[.val (.long x0), .second, .val (.long x1), .second, .val (.long x2), .second, .val (.long x3), .second, .val (.long x4), .second, .val (.int x5), .val (.long y0), .second, .val (.long y1), .second, .val (.long y2), .second, .val (.long y3), .second, .val (.long y4), .second, .val (.ref b6), .val (.ref b8), .val (.int kk), .val (.ref b6), .val (.int (1 : Int32)), .unset] [])) (fun t k => XS.istore (g := (mkF m 217 #[.val (.long x0), .second, .val (.long x1), .second, .val (.long x2), .second, .val (.long x3), .second, .val (.long x4), .second, .val (.int x5), .val (.long y0), .second, .val (.long y1), .second, .val (.long y2), .second, .val (.long y3), .second, .val (.long y4), .second, .val (.ref b6), .val (.ref b8), .val (.int kk), .val (.ref b6), .unset, .unset] [(.int (1 : Int32))])) X9.here hx rfl (hb hby at_217) rfl (l' := #[.val (.long x0), .second, .val (.long x1), .second, .val (.long x2), .second, .val (.long x3), .second, .val (.long x4), .second, .val (.int x5), .val (.long y0), .second, .val (.long y1), .second, .val (.long y2), .second, .val (.long y3), .second, .val (.long y4), .second, .val (.ref b6), .val (.ref b8), .val (.int kk), .val (.ref b6), .val (.int (1 : Int32)), .unset]) rfl k) ?_
                  refine Ends.pre (T' := T9.setTop (mkF m 221 #[.val (.long x0), .second, .val (.long x1), .second, .val (.long x2), .second, .val (.long x3), .second, .val (.long x4), .second, .val (.int x5), .val (.long y0), .second, .val (.long y1), .second, .val (.long y2), .second, .val (.long y3), .second, .val (.long y4), .second, .val (.ref b6), .val (.ref b8), .val (.int kk), .val (.ref b6), .val (.int (1 : Int32)), .unset] [(.ref b6)])) (fun t k => XS.aload X9.here hx rfl (hb hby at_219) rfl rfl k) ?_
                  refine Ends.pre (T' := T9.setTop (mkF m 223 #[.val (.long x0), .second, .val (.long x1), .second, .val (.long x2), .second, .val (.long x3), .second, .val (.long x4), .second, .val (.int x5), .val (.long y0), .second, .val (.long y1), .second, .val (.long y2), .second, .val (.long y3), .second, .val (.long y4), .second, .val (.ref b6), .val (.ref b8), .val (.int kk), .val (.ref b6), .val (.int (1 : Int32)), .unset] [(.ref b6), (.ref b6)])) (fun t k => XS.aload X9.here hx rfl (hb hby at_221) rfl rfl k) ?_
                  have F72 : Fld Z T9.heap b6 "com/example/kept_backlog/keptbacklog/QueueStats" "waiting" "J" (.long x0) := ((Fc7_0.ext E8).keep Kc9 (ninS (Nat.ne_of_lt (Nat.lt_of_lt_of_le (Nat.lt_of_lt_of_le A6.lt Kc7.1) (Nat.le_of_eq g8.symm))) nin0))
                  have F73 : Fld Z T9.heap b6 "com/example/kept_backlog/keptbacklog/QueueStats" "delayed" "J" (.long x1) := ((Fc7_1.ext E8).keep Kc9 (ninS (Nat.ne_of_lt (Nat.lt_of_lt_of_le (Nat.lt_of_lt_of_le A6.lt Kc7.1) (Nat.le_of_eq g8.symm))) nin0))
                  have F74 : Fld Z T9.heap b6 "com/example/kept_backlog/keptbacklog/QueueStats" "leased" "J" (.long x2) := ((Fc7_2.ext E8).keep Kc9 (ninS (Nat.ne_of_lt (Nat.lt_of_lt_of_le (Nat.lt_of_lt_of_le A6.lt Kc7.1) (Nat.le_of_eq g8.symm))) nin0))
                  have F75 : Fld Z T9.heap b6 "com/example/kept_backlog/keptbacklog/QueueStats" "dead" "J" (.long x3) := ((Fc7_3.ext E8).keep Kc9 (ninS (Nat.ne_of_lt (Nat.lt_of_lt_of_le (Nat.lt_of_lt_of_le A6.lt Kc7.1) (Nat.le_of_eq g8.symm))) nin0))
                  have F76 : Fld Z T9.heap b6 "com/example/kept_backlog/keptbacklog/QueueStats" "completed" "J" (.long x4) := ((Fc7_4.ext E8).keep Kc9 (ninS (Nat.ne_of_lt (Nat.lt_of_lt_of_le (Nat.lt_of_lt_of_le A6.lt Kc7.1) (Nat.le_of_eq g8.symm))) nin0))
                  have F77 : Exa Z T9.heap b6 "com/example/kept_backlog/keptbacklog/QueueStats" := ((Ec7.ext E8).keep Kc9)
                  obtain ⟨cq78, kq78, q78a, q78b, q78c⟩ := isOf hZ rfl F77
                  obtain ⟨_, _, ⟨T78, L78, k78, n78⟩, -, X78, ⟨Lc78, hQ78, l78, y78, z78⟩, st78⟩ := X9.virtualBack hx (y := (⟨"com/example/kept_backlog/keptbacklog/QueueStats", "equals", "(Ljava/lang/Object;)Z"⟩ : MethodName)) (z := (⟨"com/example/kept_backlog/keptbacklog/QueueStats", "equals", "(Ljava/lang/Object;)Z"⟩ : MethodName)) hown (mvT hZ (hw _ (List.mem_of_getElem? (i := 19) rfl))) (mvT hZ (hw _ (List.mem_of_getElem? (i := 20) rfl))) (notFace_of_selects (args := #[]) (mvT hZ (hw _ (List.mem_of_getElem? (i := 22) rfl)))) (mvT hZ (hw _ (List.mem_of_getElem? (i := 22) rfl))) (mvT hZ (hw _ (List.mem_of_getElem? (i := 21) rfl))) (by decide) (backOf (W := 0) (rm3q l Z a0 hw [] b6 b6 x0 x1 x2 x3 x4 x0 x1 x2 x3 x4 T9.heap n0 (Nat.le_trans (Nat.le_trans (Nat.le_trans (Nat.le_trans Z0 E6.1) Kc7.1) E8.1) Kc9.1) F77 F72 F73 F74 F75 F76 F72 F73 F74 F75 F76) hZ (hw _ (List.mem_of_getElem? (i := 23) rfl)) (hw _ (List.mem_of_getElem? (i := 2) rfl)) (by decide) (by decide)) q78a q78c (g := (mkF m 223 #[.val (.long x0), .second, .val (.long x1), .second, .val (.long x2), .second, .val (.long x3), .second, .val (.long x4), .second, .val (.int x5), .val (.long y0), .second, .val (.long y1), .second, .val (.long y2), .second, .val (.long y3), .second, .val (.long y4), .second, .val (.ref b6), .val (.ref b8), .val (.int kk), .val (.ref b6), .val (.int (1 : Int32)), .unset] [(.ref b6), (.ref b6)])) rfl (by rw [hml]; rfl) (Steps.refl _) (argsL := [(.ref b6)]) (rest := []) (lenOf pd_3 rfl) rfl (by show 2 * 0 + _ ≤ _; exact Nat.le_of_eq rfl) (hb hby at_223) (fun _ _ => ⟨rfl, rfl, (by decide : 2 + 0 ≤ _), (by decide : 10 + 0 ≤ _)⟩)
                  dsimp only [Pt.U, Pt.locs, Pt.cells, Pt.slots] at X78 l78 y78 z78 st78 hQ78
                  subst l78 y78 z78
                  obtain ⟨rfl, N78q, eh78⟩ := hQ78
                  have N78 := Fr.app N9 N78q
                  rw [if_pos rfl, if_pos rfl, if_pos rfl, if_pos rfl, if_pos rfl] at st78
                  refine Ends.pre (T' := T78.setTop (mkF m 226 #[.val (.long x0), .second, .val (.long x1), .second, .val (.long x2), .second, .val (.long x3), .second, .val (.long x4), .second, .val (.int x5), .val (.long y0), .second, .val (.long y1), .second, .val (.long y2), .second, .val (.long y3), .second, .val (.long y4), .second, .val (.ref b6), .val (.ref b8), .val (.int kk), .val (.ref b6), .val (.int (1 : Int32)), .unset] [(.int (1 : Int32))])) (fun t k => st78.trans k) ?_
                  refine Ends.pre (T' := T78.setTop (mkF m 228 #[.val (.long x0), .second, .val (.long x1), .second, .val (.long x2), .second, .val (.long x3), .second, .val (.long x4), .second, .val (.int x5), .val (.long y0), .second, .val (.long y1), .second, .val (.long y2), .second, .val (.long y3), .second, .val (.long y4), .second, .val (.ref b6), .val (.ref b8), .val (.int kk), .val (.ref b6), .val (.int (1 : Int32)), .val (.int (1 : Int32))] [])) (fun t k => XS.istore (g := (mkF m 226 #[.val (.long x0), .second, .val (.long x1), .second, .val (.long x2), .second, .val (.long x3), .second, .val (.long x4), .second, .val (.int x5), .val (.long y0), .second, .val (.long y1), .second, .val (.long y2), .second, .val (.long y3), .second, .val (.long y4), .second, .val (.ref b6), .val (.ref b8), .val (.int kk), .val (.ref b6), .val (.int (1 : Int32)), .unset] [(.int (1 : Int32))])) X78.here hx rfl (hb hby at_226) rfl (l' := #[.val (.long x0), .second, .val (.long x1), .second, .val (.long x2), .second, .val (.long x3), .second, .val (.long x4), .second, .val (.int x5), .val (.long y0), .second, .val (.long y1), .second, .val (.long y2), .second, .val (.long y3), .second, .val (.long y4), .second, .val (.ref b6), .val (.ref b8), .val (.int kk), .val (.ref b6), .val (.int (1 : Int32)), .val (.int (1 : Int32))]) rfl k) ?_
                  refine Ends.pre (T' := T78.setTop (mkF m 230 #[.val (.long x0), .second, .val (.long x1), .second, .val (.long x2), .second, .val (.long x3), .second, .val (.long x4), .second, .val (.int x5), .val (.long y0), .second, .val (.long y1), .second, .val (.long y2), .second, .val (.long y3), .second, .val (.long y4), .second, .val (.ref b6), .val (.ref b8), .val (.int kk), .val (.ref b6), .val (.int (1 : Int32)), .val (.int (1 : Int32))] [(.int kk)])) (fun t k => XS.iload X78.here hx rfl (hb hby at_228) rfl k) ?_
                  refine Ends.pre (T' := T78.setTop (mkF m 258 #[.val (.long x0), .second, .val (.long x1), .second, .val (.long x2), .second, .val (.long x3), .second, .val (.long x4), .second, .val (.int x5), .val (.long y0), .second, .val (.long y1), .second, .val (.long y2), .second, .val (.long y3), .second, .val (.long y4), .second, .val (.ref b6), .val (.ref b8), .val (.int kk), .val (.ref b6), .val (.int (1 : Int32)), .val (.int (1 : Int32))] [])) (fun t k => XS.ifYes X78.here hx rfl (pc0 := 230) (pc' := 258) rfl (hb hby at_230) rfl (Jvm.Free.XT.i0_ne_t hc124_10) (by decide) (by decide) k) ?_
                  refine Ends.pre (T' := T78.setTop (mkF m 260 #[.val (.long x0), .second, .val (.long x1), .second, .val (.long x2), .second, .val (.long x3), .second, .val (.long x4), .second, .val (.int x5), .val (.long y0), .second, .val (.long y1), .second, .val (.long y2), .second, .val (.long y3), .second, .val (.long y4), .second, .val (.ref b6), .val (.ref b8), .val (.int kk), .val (.ref b6), .val (.int (1 : Int32)), .val (.int (1 : Int32))] [(.int (1 : Int32))])) (fun t k => XS.iload X78.here hx rfl (hb hby at_258) rfl k) ?_
                  refine Ends.pre (T' := T78.setTop (mkF m 262 #[.val (.long x0), .second, .val (.long x1), .second, .val (.long x2), .second, .val (.long x3), .second, .val (.long x4), .second, .val (.int x5), .val (.long y0), .second, .val (.long y1), .second, .val (.long y2), .second, .val (.long y3), .second, .val (.long y4), .second, .val (.ref b6), .val (.ref b8), .val (.int kk), .val (.ref b6), .val (.int (1 : Int32)), .val (.int (1 : Int32))] [(.int (1 : Int32)), (.int (1 : Int32))])) (fun t k => XS.iload X78.here hx rfl (hb hby at_260) rfl k) ?_
                  refine Ends.pre (T' := T78.setTop (mkF m 265 #[.val (.long x0), .second, .val (.long x1), .second, .val (.long x2), .second, .val (.long x3), .second, .val (.long x4), .second, .val (.int x5), .val (.long y0), .second, .val (.long y1), .second, .val (.long y2), .second, .val (.long y3), .second, .val (.long y4), .second, .val (.ref b6), .val (.ref b8), .val (.int kk), .val (.ref b6), .val (.int (1 : Int32)), .val (.int (1 : Int32))] [])) (fun t k => XS.icmpNo X78.here hx rfl (hb hby at_262) rfl (by decide) k) ?_
                  refine Ends.pre (T' := T78.setTop (mkF m 266 #[.val (.long x0), .second, .val (.long x1), .second, .val (.long x2), .second, .val (.long x3), .second, .val (.long x4), .second, .val (.int x5), .val (.long y0), .second, .val (.long y1), .second, .val (.long y2), .second, .val (.long y3), .second, .val (.long y4), .second, .val (.ref b6), .val (.ref b8), .val (.int kk), .val (.ref b6), .val (.int (1 : Int32)), .val (.int (1 : Int32))] [(.int (1 : Int32))])) (fun t k => XS.iconst X78.here hx rfl (hb hby at_265) k) ?_
                  refine Ends.pre (T' := T78.setTop (mkF m 270 #[.val (.long x0), .second, .val (.long x1), .second, .val (.long x2), .second, .val (.long x3), .second, .val (.long x4), .second, .val (.int x5), .val (.long y0), .second, .val (.long y1), .second, .val (.long y2), .second, .val (.long y3), .second, .val (.long y4), .second, .val (.ref b6), .val (.ref b8), .val (.int kk), .val (.ref b6), .val (.int (1 : Int32)), .val (.int (1 : Int32))] [(.int (1 : Int32))])) (fun t k => XS.goto X78.here hx rfl (pc0 := 266) (pc' := 270) rfl (hb hby at_266) (by decide) (by decide) k) ?_
                  exact Ends.ret (w := (.int (1 : Int32))) X78 hx Bd.notSynchronized Bd.returns rfl (Or.inl ⟨rfl, Or.inr (Or.inl rfl), _, rfl⟩) (hb hby at_270) eh78 ⟨rfl, N78⟩ (by decide) (by decide)
          refine Ends.pre (T' := s₁.setTop (mkF m 64 #[.val (.long x0), .second, .val (.long x1), .second, .val (.long x2), .second, .val (.long x3), .second, .val (.long x4), .second, .val (.int x5), .val (.long y0), .second, .val (.long y1), .second, .val (.long y2), .second, .val (.long y3), .second, .unset, .unset, .unset, .unset, .unset, .unset, .unset, .unset] [(.int x5)])) (fun t k => XS.iload X0.here hx rfl (hb hby at_62) rfl k) ?_
          refine Ends.pre (T' := s₁.setTop (mkF m 66 #[.val (.long x0), .second, .val (.long x1), .second, .val (.long x2), .second, .val (.long x3), .second, .val (.long x4), .second, .val (.int x5), .val (.long y0), .second, .val (.long y1), .second, .val (.long y2), .second, .val (.long y3), .second, .unset, .unset, .unset, .unset, .unset, .unset, .unset, .unset] [(.int (16 : Int32)), (.int x5)])) (fun t k => XS.bipush X0.here hx rfl (hb hby at_64) k) ?_
          refine Ends.pre (T' := s₁.setTop (mkF m 67 #[.val (.long x0), .second, .val (.long x1), .second, .val (.long x2), .second, .val (.long x3), .second, .val (.long x4), .second, .val (.int x5), .val (.long y0), .second, .val (.long y1), .second, .val (.long y2), .second, .val (.long y3), .second, .unset, .unset, .unset, .unset, .unset, .unset, .unset, .unset] [(.int (x5 &&& (16 : Int32)))])) (fun t k => XS.iand X0.here hx rfl (hb hby at_66) rfl k) ?_
          by_cases hc67_79 : (x5 &&& (16 : Int32)) = 0
          · refine Ends.pre (T' := s₁.setTop (mkF m 74 #[.val (.long x0), .second, .val (.long x1), .second, .val (.long x2), .second, .val (.long x3), .second, .val (.long x4), .second, .val (.int x5), .val (.long y0), .second, .val (.long y1), .second, .val (.long y2), .second, .val (.long y3), .second, .unset, .unset, .unset, .unset, .unset, .unset, .unset, .unset] [])) (fun t k => XS.ifYes X0.here hx rfl (pc0 := 67) (pc' := 74) rfl (hb hby at_67) rfl (Jvm.Free.XT.i0_eq_t hc67_79) (by decide) (by decide) k) ?_
            refine Ends.pre (T' := s₁.setTop (mkF m 76 #[.val (.long x0), .second, .val (.long x1), .second, .val (.long x2), .second, .val (.long x3), .second, .val (.long x4), .second, .val (.int x5), .val (.long y0), .second, .val (.long y1), .second, .val (.long y2), .second, .val (.long y3), .second, .unset, .unset, .unset, .unset, .unset, .unset, .unset, .unset] [(.long x4)])) (fun t k => XS.lload X0.here hx rfl (hb hby at_74) rfl k) ?_
            exact J76_5 x4
          · refine Ends.pre (T' := s₁.setTop (mkF m 70 #[.val (.long x0), .second, .val (.long x1), .second, .val (.long x2), .second, .val (.long x3), .second, .val (.long x4), .second, .val (.int x5), .val (.long y0), .second, .val (.long y1), .second, .val (.long y2), .second, .val (.long y3), .second, .unset, .unset, .unset, .unset, .unset, .unset, .unset, .unset] [])) (fun t k => XS.ifNo X0.here hx rfl (hb hby at_67) rfl (Jvm.Free.XT.i0_eq_f hc67_79) k) ?_
            refine Ends.pre (T' := s₁.setTop (mkF m 71 #[.val (.long x0), .second, .val (.long x1), .second, .val (.long x2), .second, .val (.long x3), .second, .val (.long x4), .second, .val (.int x5), .val (.long y0), .second, .val (.long y1), .second, .val (.long y2), .second, .val (.long y3), .second, .unset, .unset, .unset, .unset, .unset, .unset, .unset, .unset] [(.long x0)])) (fun t k => XS.lloadN X0.here hx rfl (hb hby at_70) rfl k) ?_
            refine Ends.pre (T' := s₁.setTop (mkF m 76 #[.val (.long x0), .second, .val (.long x1), .second, .val (.long x2), .second, .val (.long x3), .second, .val (.long x4), .second, .val (.int x5), .val (.long y0), .second, .val (.long y1), .second, .val (.long y2), .second, .val (.long y3), .second, .unset, .unset, .unset, .unset, .unset, .unset, .unset, .unset] [(.long x0)])) (fun t k => XS.goto X0.here hx rfl (pc0 := 71) (pc' := 76) rfl (hb hby at_71) (by decide) (by decide) k) ?_
            exact J76_5 x0
        refine Ends.pre (T' := s₁.setTop (mkF m 47 #[.val (.long x0), .second, .val (.long x1), .second, .val (.long x2), .second, .val (.long x3), .second, .val (.long x4), .second, .val (.int x5), .val (.long y0), .second, .val (.long y1), .second, .val (.long y2), .second, .unset, .unset, .unset, .unset, .unset, .unset, .unset, .unset, .unset, .unset] [(.int x5)])) (fun t k => XS.iload X0.here hx rfl (hb hby at_45) rfl k) ?_
        refine Ends.pre (T' := s₁.setTop (mkF m 49 #[.val (.long x0), .second, .val (.long x1), .second, .val (.long x2), .second, .val (.long x3), .second, .val (.long x4), .second, .val (.int x5), .val (.long y0), .second, .val (.long y1), .second, .val (.long y2), .second, .unset, .unset, .unset, .unset, .unset, .unset, .unset, .unset, .unset, .unset] [(.int (8 : Int32)), (.int x5)])) (fun t k => XS.bipush X0.here hx rfl (hb hby at_47) k) ?_
        refine Ends.pre (T' := s₁.setTop (mkF m 50 #[.val (.long x0), .second, .val (.long x1), .second, .val (.long x2), .second, .val (.long x3), .second, .val (.long x4), .second, .val (.int x5), .val (.long y0), .second, .val (.long y1), .second, .val (.long y2), .second, .unset, .unset, .unset, .unset, .unset, .unset, .unset, .unset, .unset, .unset] [(.int (x5 &&& (8 : Int32)))])) (fun t k => XS.iand X0.here hx rfl (hb hby at_49) rfl k) ?_
        by_cases hc50_80 : (x5 &&& (8 : Int32)) = 0
        · refine Ends.pre (T' := s₁.setTop (mkF m 58 #[.val (.long x0), .second, .val (.long x1), .second, .val (.long x2), .second, .val (.long x3), .second, .val (.long x4), .second, .val (.int x5), .val (.long y0), .second, .val (.long y1), .second, .val (.long y2), .second, .unset, .unset, .unset, .unset, .unset, .unset, .unset, .unset, .unset, .unset] [])) (fun t k => XS.ifYes X0.here hx rfl (pc0 := 50) (pc' := 58) rfl (hb hby at_50) rfl (Jvm.Free.XT.i0_eq_t hc50_80) (by decide) (by decide) k) ?_
          refine Ends.pre (T' := s₁.setTop (mkF m 60 #[.val (.long x0), .second, .val (.long x1), .second, .val (.long x2), .second, .val (.long x3), .second, .val (.long x4), .second, .val (.int x5), .val (.long y0), .second, .val (.long y1), .second, .val (.long y2), .second, .unset, .unset, .unset, .unset, .unset, .unset, .unset, .unset, .unset, .unset] [(.long x3)])) (fun t k => XS.lload X0.here hx rfl (hb hby at_58) rfl k) ?_
          exact J60_4 x3
        · refine Ends.pre (T' := s₁.setTop (mkF m 53 #[.val (.long x0), .second, .val (.long x1), .second, .val (.long x2), .second, .val (.long x3), .second, .val (.long x4), .second, .val (.int x5), .val (.long y0), .second, .val (.long y1), .second, .val (.long y2), .second, .unset, .unset, .unset, .unset, .unset, .unset, .unset, .unset, .unset, .unset] [])) (fun t k => XS.ifNo X0.here hx rfl (hb hby at_50) rfl (Jvm.Free.XT.i0_eq_f hc50_80) k) ?_
          refine Ends.pre (T' := s₁.setTop (mkF m 55 #[.val (.long x0), .second, .val (.long x1), .second, .val (.long x2), .second, .val (.long x3), .second, .val (.long x4), .second, .val (.int x5), .val (.long y0), .second, .val (.long y1), .second, .val (.long y2), .second, .unset, .unset, .unset, .unset, .unset, .unset, .unset, .unset, .unset, .unset] [(.long x4)])) (fun t k => XS.lload X0.here hx rfl (hb hby at_53) rfl k) ?_
          refine Ends.pre (T' := s₁.setTop (mkF m 60 #[.val (.long x0), .second, .val (.long x1), .second, .val (.long x2), .second, .val (.long x3), .second, .val (.long x4), .second, .val (.int x5), .val (.long y0), .second, .val (.long y1), .second, .val (.long y2), .second, .unset, .unset, .unset, .unset, .unset, .unset, .unset, .unset, .unset, .unset] [(.long x4)])) (fun t k => XS.goto X0.here hx rfl (pc0 := 55) (pc' := 60) rfl (hb hby at_55) (by decide) (by decide) k) ?_
          exact J60_4 x4
      refine Ends.pre (T' := s₁.setTop (mkF m 31 #[.val (.long x0), .second, .val (.long x1), .second, .val (.long x2), .second, .val (.long x3), .second, .val (.long x4), .second, .val (.int x5), .val (.long y0), .second, .val (.long y1), .second, .unset, .unset, .unset, .unset, .unset, .unset, .unset, .unset, .unset, .unset, .unset, .unset] [(.int x5)])) (fun t k => XS.iload X0.here hx rfl (hb hby at_29) rfl k) ?_
      refine Ends.pre (T' := s₁.setTop (mkF m 32 #[.val (.long x0), .second, .val (.long x1), .second, .val (.long x2), .second, .val (.long x3), .second, .val (.long x4), .second, .val (.int x5), .val (.long y0), .second, .val (.long y1), .second, .unset, .unset, .unset, .unset, .unset, .unset, .unset, .unset, .unset, .unset, .unset, .unset] [(.int (4 : Int32)), (.int x5)])) (fun t k => XS.iconst X0.here hx rfl (hb hby at_31) k) ?_
      refine Ends.pre (T' := s₁.setTop (mkF m 33 #[.val (.long x0), .second, .val (.long x1), .second, .val (.long x2), .second, .val (.long x3), .second, .val (.long x4), .second, .val (.int x5), .val (.long y0), .second, .val (.long y1), .second, .unset, .unset, .unset, .unset, .unset, .unset, .unset, .unset, .unset, .unset, .unset, .unset] [(.int (x5 &&& (4 : Int32)))])) (fun t k => XS.iand X0.here hx rfl (hb hby at_32) rfl k) ?_
      by_cases hc33_81 : (x5 &&& (4 : Int32)) = 0
      · refine Ends.pre (T' := s₁.setTop (mkF m 41 #[.val (.long x0), .second, .val (.long x1), .second, .val (.long x2), .second, .val (.long x3), .second, .val (.long x4), .second, .val (.int x5), .val (.long y0), .second, .val (.long y1), .second, .unset, .unset, .unset, .unset, .unset, .unset, .unset, .unset, .unset, .unset, .unset, .unset] [])) (fun t k => XS.ifYes X0.here hx rfl (pc0 := 33) (pc' := 41) rfl (hb hby at_33) rfl (Jvm.Free.XT.i0_eq_t hc33_81) (by decide) (by decide) k) ?_
        refine Ends.pre (T' := s₁.setTop (mkF m 43 #[.val (.long x0), .second, .val (.long x1), .second, .val (.long x2), .second, .val (.long x3), .second, .val (.long x4), .second, .val (.int x5), .val (.long y0), .second, .val (.long y1), .second, .unset, .unset, .unset, .unset, .unset, .unset, .unset, .unset, .unset, .unset, .unset, .unset] [(.long x2)])) (fun t k => XS.lload X0.here hx rfl (hb hby at_41) rfl k) ?_
        exact J43_3 x2
      · refine Ends.pre (T' := s₁.setTop (mkF m 36 #[.val (.long x0), .second, .val (.long x1), .second, .val (.long x2), .second, .val (.long x3), .second, .val (.long x4), .second, .val (.int x5), .val (.long y0), .second, .val (.long y1), .second, .unset, .unset, .unset, .unset, .unset, .unset, .unset, .unset, .unset, .unset, .unset, .unset] [])) (fun t k => XS.ifNo X0.here hx rfl (hb hby at_33) rfl (Jvm.Free.XT.i0_eq_f hc33_81) k) ?_
        refine Ends.pre (T' := s₁.setTop (mkF m 38 #[.val (.long x0), .second, .val (.long x1), .second, .val (.long x2), .second, .val (.long x3), .second, .val (.long x4), .second, .val (.int x5), .val (.long y0), .second, .val (.long y1), .second, .unset, .unset, .unset, .unset, .unset, .unset, .unset, .unset, .unset, .unset, .unset, .unset] [(.long x3)])) (fun t k => XS.lload X0.here hx rfl (hb hby at_36) rfl k) ?_
        refine Ends.pre (T' := s₁.setTop (mkF m 43 #[.val (.long x0), .second, .val (.long x1), .second, .val (.long x2), .second, .val (.long x3), .second, .val (.long x4), .second, .val (.int x5), .val (.long y0), .second, .val (.long y1), .second, .unset, .unset, .unset, .unset, .unset, .unset, .unset, .unset, .unset, .unset, .unset, .unset] [(.long x3)])) (fun t k => XS.goto X0.here hx rfl (pc0 := 38) (pc' := 43) rfl (hb hby at_38) (by decide) (by decide) k) ?_
        exact J43_3 x3
    refine Ends.pre (T' := s₁.setTop (mkF m 16 #[.val (.long x0), .second, .val (.long x1), .second, .val (.long x2), .second, .val (.long x3), .second, .val (.long x4), .second, .val (.int x5), .val (.long y0), .second, .unset, .unset, .unset, .unset, .unset, .unset, .unset, .unset, .unset, .unset, .unset, .unset, .unset, .unset] [(.int x5)])) (fun t k => XS.iload X0.here hx rfl (hb hby at_14) rfl k) ?_
    refine Ends.pre (T' := s₁.setTop (mkF m 17 #[.val (.long x0), .second, .val (.long x1), .second, .val (.long x2), .second, .val (.long x3), .second, .val (.long x4), .second, .val (.int x5), .val (.long y0), .second, .unset, .unset, .unset, .unset, .unset, .unset, .unset, .unset, .unset, .unset, .unset, .unset, .unset, .unset] [(.int (2 : Int32)), (.int x5)])) (fun t k => XS.iconst X0.here hx rfl (hb hby at_16) k) ?_
    refine Ends.pre (T' := s₁.setTop (mkF m 18 #[.val (.long x0), .second, .val (.long x1), .second, .val (.long x2), .second, .val (.long x3), .second, .val (.long x4), .second, .val (.int x5), .val (.long y0), .second, .unset, .unset, .unset, .unset, .unset, .unset, .unset, .unset, .unset, .unset, .unset, .unset, .unset, .unset] [(.int (x5 &&& (2 : Int32)))])) (fun t k => XS.iand X0.here hx rfl (hb hby at_17) rfl k) ?_
    by_cases hc18_82 : (x5 &&& (2 : Int32)) = 0
    · refine Ends.pre (T' := s₁.setTop (mkF m 26 #[.val (.long x0), .second, .val (.long x1), .second, .val (.long x2), .second, .val (.long x3), .second, .val (.long x4), .second, .val (.int x5), .val (.long y0), .second, .unset, .unset, .unset, .unset, .unset, .unset, .unset, .unset, .unset, .unset, .unset, .unset, .unset, .unset] [])) (fun t k => XS.ifYes X0.here hx rfl (pc0 := 18) (pc' := 26) rfl (hb hby at_18) rfl (Jvm.Free.XT.i0_eq_t hc18_82) (by decide) (by decide) k) ?_
      refine Ends.pre (T' := s₁.setTop (mkF m 27 #[.val (.long x0), .second, .val (.long x1), .second, .val (.long x2), .second, .val (.long x3), .second, .val (.long x4), .second, .val (.int x5), .val (.long y0), .second, .unset, .unset, .unset, .unset, .unset, .unset, .unset, .unset, .unset, .unset, .unset, .unset, .unset, .unset] [(.long x1)])) (fun t k => XS.lloadN X0.here hx rfl (hb hby at_26) rfl k) ?_
      exact J27_2 x1
    · refine Ends.pre (T' := s₁.setTop (mkF m 21 #[.val (.long x0), .second, .val (.long x1), .second, .val (.long x2), .second, .val (.long x3), .second, .val (.long x4), .second, .val (.int x5), .val (.long y0), .second, .unset, .unset, .unset, .unset, .unset, .unset, .unset, .unset, .unset, .unset, .unset, .unset, .unset, .unset] [])) (fun t k => XS.ifNo X0.here hx rfl (hb hby at_18) rfl (Jvm.Free.XT.i0_eq_f hc18_82) k) ?_
      refine Ends.pre (T' := s₁.setTop (mkF m 23 #[.val (.long x0), .second, .val (.long x1), .second, .val (.long x2), .second, .val (.long x3), .second, .val (.long x4), .second, .val (.int x5), .val (.long y0), .second, .unset, .unset, .unset, .unset, .unset, .unset, .unset, .unset, .unset, .unset, .unset, .unset, .unset, .unset] [(.long x2)])) (fun t k => XS.lload X0.here hx rfl (hb hby at_21) rfl k) ?_
      refine Ends.pre (T' := s₁.setTop (mkF m 27 #[.val (.long x0), .second, .val (.long x1), .second, .val (.long x2), .second, .val (.long x3), .second, .val (.long x4), .second, .val (.int x5), .val (.long y0), .second, .unset, .unset, .unset, .unset, .unset, .unset, .unset, .unset, .unset, .unset, .unset, .unset, .unset, .unset] [(.long x2)])) (fun t k => XS.goto X0.here hx rfl (pc0 := 23) (pc' := 27) rfl (hb hby at_23) (by decide) (by decide) k) ?_
      exact J27_2 x2
  refine Ends.pre (T' := s₁.setTop (mkF m 2 #[.val (.long x0), .second, .val (.long x1), .second, .val (.long x2), .second, .val (.long x3), .second, .val (.long x4), .second, .val (.int x5), .unset, .unset, .unset, .unset, .unset, .unset, .unset, .unset, .unset, .unset, .unset, .unset, .unset, .unset, .unset, .unset] [(.int x5)])) (fun t k => XS.iload X0.here hx rfl (hb hby at_0) rfl k) ?_
  refine Ends.pre (T' := s₁.setTop (mkF m 3 #[.val (.long x0), .second, .val (.long x1), .second, .val (.long x2), .second, .val (.long x3), .second, .val (.long x4), .second, .val (.int x5), .unset, .unset, .unset, .unset, .unset, .unset, .unset, .unset, .unset, .unset, .unset, .unset, .unset, .unset, .unset, .unset] [(.int (1 : Int32)), (.int x5)])) (fun t k => XS.iconst X0.here hx rfl (hb hby at_2) k) ?_
  refine Ends.pre (T' := s₁.setTop (mkF m 4 #[.val (.long x0), .second, .val (.long x1), .second, .val (.long x2), .second, .val (.long x3), .second, .val (.long x4), .second, .val (.int x5), .unset, .unset, .unset, .unset, .unset, .unset, .unset, .unset, .unset, .unset, .unset, .unset, .unset, .unset, .unset, .unset] [(.int (x5 &&& (1 : Int32)))])) (fun t k => XS.iand X0.here hx rfl (hb hby at_3) rfl k) ?_
  by_cases hc4_83 : (x5 &&& (1 : Int32)) = 0
  · refine Ends.pre (T' := s₁.setTop (mkF m 11 #[.val (.long x0), .second, .val (.long x1), .second, .val (.long x2), .second, .val (.long x3), .second, .val (.long x4), .second, .val (.int x5), .unset, .unset, .unset, .unset, .unset, .unset, .unset, .unset, .unset, .unset, .unset, .unset, .unset, .unset, .unset, .unset] [])) (fun t k => XS.ifYes X0.here hx rfl (pc0 := 4) (pc' := 11) rfl (hb hby at_4) rfl (Jvm.Free.XT.i0_eq_t hc4_83) (by decide) (by decide) k) ?_
    refine Ends.pre (T' := s₁.setTop (mkF m 12 #[.val (.long x0), .second, .val (.long x1), .second, .val (.long x2), .second, .val (.long x3), .second, .val (.long x4), .second, .val (.int x5), .unset, .unset, .unset, .unset, .unset, .unset, .unset, .unset, .unset, .unset, .unset, .unset, .unset, .unset, .unset, .unset] [(.long x0)])) (fun t k => XS.lloadN X0.here hx rfl (hb hby at_11) rfl k) ?_
    exact J12_1 x0
  · refine Ends.pre (T' := s₁.setTop (mkF m 7 #[.val (.long x0), .second, .val (.long x1), .second, .val (.long x2), .second, .val (.long x3), .second, .val (.long x4), .second, .val (.int x5), .unset, .unset, .unset, .unset, .unset, .unset, .unset, .unset, .unset, .unset, .unset, .unset, .unset, .unset, .unset, .unset] [])) (fun t k => XS.ifNo X0.here hx rfl (hb hby at_4) rfl (Jvm.Free.XT.i0_eq_f hc4_83) k) ?_
    refine Ends.pre (T' := s₁.setTop (mkF m 8 #[.val (.long x0), .second, .val (.long x1), .second, .val (.long x2), .second, .val (.long x3), .second, .val (.long x4), .second, .val (.int x5), .unset, .unset, .unset, .unset, .unset, .unset, .unset, .unset, .unset, .unset, .unset, .unset, .unset, .unset, .unset, .unset] [(.long x1)])) (fun t k => XS.lloadN X0.here hx rfl (hb hby at_7) rfl k) ?_
    refine Ends.pre (T' := s₁.setTop (mkF m 12 #[.val (.long x0), .second, .val (.long x1), .second, .val (.long x2), .second, .val (.long x3), .second, .val (.long x4), .second, .val (.int x5), .unset, .unset, .unset, .unset, .unset, .unset, .unset, .unset, .unset, .unset, .unset, .unset, .unset, .unset, .unset, .unset] [(.long x1)])) (fun t k => XS.goto X0.here hx rfl (pc0 := 8) (pc' := 12) rfl (hb hby at_8) (by decide) (by decide) k) ?_
    exact J12_1 x1
theorem own_cache {args : Array Value} {s : State} {ca : Addr} {cl : Cell} {t : Term} (ht : t.eval args s none [] s = some (.ref ca)) (hat : s.arrayAt? ca = some cl) (Ar : Arr s s.heap ca cl (.object "java/lang/Long")) (hlen : (Term.length t).eval args s none [] s = some (.int 256))
    {D : Jvm.Cond} (hall : (Jvm.Cond.all t (Jvm.Cond.and (Jvm.Cond.exactly (Term.elem t (Term.index 0)) "java/lang/Long") D)).value args s none s [] = some true) (hti : ∀ idx, t.eval args s none idx s = some (.ref ca)) :
    cl.slots.size = 256 ∧ ∀ j : Int32, ¬ (j < 0 ∨ cl.slots.size ≤ j.toNatClampNeg) → ∃ r, cl.slots[j.toNatClampNeg]? = some (.ref r) ∧ Exa s s.heap r "java/lang/Long" := by
  have hs : cl.slots.size = 256 := by
    by_cases q : cl.slots.size < 2 ^ 31
    · rw [len_f ht hat q] at hlen
      have e1 : cl.slots.size.toInt32 = 256 := by injection hlen with h1; injection h1
      have e2 := len_toInt q
      rw [e1] at e2
      have : (256 : Int32).toInt = 256 := by decide
      omega
    · simp [Term.eval, ht, hat, q] at hlen
  refine ⟨hs, fun j hj => ?_⟩
  have hj0 : ¬ j < 0 := fun q => hj (Or.inl q)
  have hjl : j.toNatClampNeg < cl.slots.size := Nat.lt_of_not_le fun q => hj (Or.inr q)
  have h1 := (and_e (Cond.all_elim ht hat hall j.toNatClampNeg hjl)).1
  obtain ⟨r, er⟩ := exa_v h1
  have er' := er
  rw [elem_f (hti _) (idx_at hj0) hat hj0] at er'
  exact ⟨r, er', exa_at er h1⟩
set_option maxRecDepth 65536 in
set_option maxHeartbeats 40000000 in
theorem comes_1 {Post : Tables → Env → Array Value → State → Outcome → State → Prop} (hpost : ∀ tb e args s v u, (limb_1_1.after args s (.returned v) u = true ∧ limb_1_2.after args s (.returned v) u = true ∧ True) → FrameEnd s (.returned v) u (Jvm.fieldLocs frame_1_writes args s ++ Jvm.arrayLocs frame_1_arrays args s ++ Jvm.staticLocs frame_1_statics s) 16 128 → Post tb e args s (.returned v) u) :
    ArmFor flags0 classFile x code maxLocals ret World_1 tables_1 room_1 Calls_1 rest_1 Pre_1 Post := by
  intro l hfl _ _ p e ha hc hk s m args below hf hA hF happ hP
  obtain ⟨hcalls, hrest, hpre⟩ := hP
  obtain ⟨-, -, -, hnamed, -, -, -, hat⟩ := (Spec.applies_iff hf).mp happ
  obtain ⟨hg, hn⟩ := and_e (Cond.before_iff.mp (show (Jvm.Cond.and given_1 narrow_1).before args s = true from hpre))
  obtain ⟨gg1, gg2⟩ := and_e hg
  obtain ⟨gg3, gg4⟩ := and_e gg2
  obtain ⟨gg5, gg6⟩ := and_e gg4
  obtain ⟨gg7, gg8⟩ := and_e gg6
  obtain ⟨gg9, gg10⟩ := and_e gg8
  obtain ⟨gg11, gg12⟩ := and_e gg10
  obtain ⟨w0, w1, w2, w3, w4, w5, rfl⟩ : ∃ w0 w1 w2 w3 w4 w5 : Value, args = #[w0, w1, w2, w3, w4, w5] := by
    have hs : args.size = 6 := by simpa [Cond.value, given_1] using gg1
    obtain ⟨L⟩ := args
    match L, hs with
    | [w0, w1, w2, w3, w4, w5], _ => exact ⟨w0, w1, w2, w3, w4, w5, rfl⟩
  have hw := fun d (hd : d ∈ tables_1) => atoms_spec (ws := Jvm.Cond.code x code maxLocals ret :: tables_1) hat d (List.mem_cons_of_mem _ hd)
  have hfit : Fit s := fun {y c} hc i hi => by
    obtain ⟨ha, rfl⟩ := Array.getElem?_eq_some_iff.mp hc
    have q := List.all_eq_true.mp ((Array.all_eq_true_iff_forall_mem.mp hF) _ (Array.getElem_mem ha)) i (List.mem_range.mpr hi)
    simpa [Array.getElem?_eq_getElem hi] using q
  obtain ⟨hsets, hown0⟩ := atoms_of _ (rest_1_c_eq ▸ (show rest_1_c.before _ s = true from hrest))
  have hr0 := Cond.before_iff.mp hown0
  obtain ⟨i0, ei0⟩ := isL_v gg3
  obtain rfl : w0 = (.long i0) := Option.some.inj ei0
  obtain ⟨i1, ei1⟩ := isL_v gg5
  obtain rfl : w1 = (.long i1) := Option.some.inj ei1
  obtain ⟨i2, ei2⟩ := isL_v gg7
  obtain rfl : w2 = (.long i2) := Option.some.inj ei2
  obtain ⟨i3, ei3⟩ := isL_v gg9
  obtain rfl : w3 = (.long i3) := Option.some.inj ei3
  obtain ⟨i4, ei4⟩ := isL_v gg11
  obtain rfl : w4 = (.long i4) := Option.some.inj ei4
  obtain ⟨i5, ei5⟩ := is_v gg12
  obtain rfl : w5 = (.int i5) := Option.some.inj ei5
  obtain ⟨ca, eca⟩ := arr_v (Cond.before_iff.mp (hsets _ (List.mem_of_getElem? (i := 2) rfl)))
  obtain ⟨cl, Ar⟩ := Arr.start eca (Cond.before_iff.mp (hsets _ (List.mem_of_getElem? (i := 2) rfl)))
  have SC : Sta s s.heap "java/lang/Long$LongCache" "cache" "[Ljava/lang/Long;" (.ref ca) := Sta.start eca (Or.inl (hsets _ (List.mem_of_getElem? (i := 1) rfl)))
  have hat0 : s.arrayAt? ca = some cl := Arr.fin (Vm.Alike.refl _) Ar
  have hlen := eqI_v (Cond.before_iff.mp (hsets _ (List.mem_of_getElem? (i := 4) rfl)))
  obtain ⟨hsz, hall⟩ := own_cache eca hat0 Ar hlen (Cond.before_iff.mp (hsets _ (List.mem_of_getElem? (i := 5) rfl))) (fun _ => eca)
  obtain ⟨n, o, h1, h2, h3, _, L, rfl, ⟨rfl, N⟩, hq⟩ := rm0 l s _ hw tables_1 i0 i1 i2 i3 i4 i5 ca cl s.heap s.heap.size (Nat.le_refl _) SC Ar hsz hall p e ha hc hk s m _ below hf ((Spec.applies_iff_loose hf).mp happ).1 ⟨rfl, State.Warmed39.refl s, rfl⟩ trivial
  refine ⟨n, _, h1, h2, h3, hpost _ _ _ _ _ _ ⟨Cond.after_iff.mpr rfl, Cond.after_iff.mpr (eq_i res_at (Term.int_eval (1)) rfl), trivial⟩ ⟨hq.1, hq.2.1, (hq.2.2.sift fun y hy => Or.inr (N y hy)).mono (by decide) (by decide)⟩⟩
theorem main_1_1 : Claimed_1_1 := comes_1 fun _ _ _ _ _ _ h hF => ⟨h.1, hF⟩
theorem main_1_2 : Claimed_1_2 := comes_1 fun _ _ _ _ _ _ h hF => ⟨h.2.1, hF⟩
end Jvm.Pilot.@@N@@
namespace Jvm.Pilot.@@N@@
open Jvm Jvm.ClassFile Sem Op Lib Jvm.Free Jvm.Stand Jvm.Pilot.@@N@@.Jvm.D
/-! MADE BY PROGRAM (witnessworld.py) out of the Statement's table words and the real class files: 16 classes; the members and pool entries that the words name. The judged class is class 1, her method 1. -/
namespace start1
open Jvm.ClassFile
def u (s : String) : CpInfo := .utf8 (stringToUtf16 s)
/-- a pool by its gaps: so many unusable entries, then the entry; so many at the end -/
def gap : Nat → List CpInfo → List CpInfo
  | 0, r => r
  | n + 1, r => .unusable :: gap n r
def poolList (es : List (Nat × CpInfo)) (last : Nat) : List CpInfo := es.foldr (fun e r => gap e.1 (e.2 :: r)) (gap last [])
def pool (es : List (Nat × CpInfo)) (last : Nat) : Array CpInfo := ⟨poolList es last⟩
def fileOf (pool : Array CpInfo) (this : Nat) (attrs : Array Attribute := #[]) (ms : Array MethodInfo := #[]) (fl : Nat := 33) (sup : Nat := 0) (ifs : Array Nat := #[]) (fds : Array FieldInfo := #[]) : ClassFile where
  minorVersion := 0
  majorVersion := 65
  constantPool := pool
  accessFlags := fl
  thisClass := this
  superClass := sup
  interfaces := ifs
  fields := fds
  methods := ms
  attributes := attrs
def plain (name : String) (sup : Option ClassId) : Class where
  name := name
  kind := .ordinary
  loader := none
  accessFlags := 33
  super := sup
  interfaces := #[]
  cf := none
  fields := #[]
  methods := #[]
  instanceTypes := #[]
  staticTypes := #[]
  resolved := #[]
  callSites := []
  init := .initialized
  statics := none
  mirror := none

def pool0 : Array CpInfo := pool [(5, u "<init>"), (0, u "()V"), (1, .class_ 10), (1, u "java/lang/Object")] 113

def k0c0 : Code := { maxStack := 0, maxLocals := 1, code := object_method_1_code, exceptionTable := #[], attributes := #[] }
def k0m0 : Method := { name := "<init>", desc := "()V", sig := { parameters := [], returnType := none }, accessFlags := 1, code := some k0c0 }
/-- java/lang/Object -/
def k0 : Class := { plain "java/lang/Object" none with
  accessFlags := 33
  interfaces := #[]
  cf := some (fileOf pool0 8 #[] #[{ accessFlags := 1, nameIndex := 5, descriptorIndex := 6, attributes := #[] }] 33 0 #[] #[])
  fields := #[]
  methods := #[k0m0]
  instanceTypes := #[]
  staticTypes := #[]
  resolved := Array.replicate 124 none
  statics := none }

def pool1 : Array CpInfo := pool [(2, .class_ 4), (1, u "java/lang/Object"), (0, u "<init>"), (0, u "()V"), (0, .class_ 8), (0, u "com/example/kept_backlog/keptbacklog/QueueStats"), (0, .methodref 7 10), (0, .nameAndType 5 11), (0, u "(JJJJJ)V"), (0, .methodref 13 14), (0, .class_ 15), (0, .nameAndType 16 17), (0, u "java/lang/Long"), (0, u "valueOf"), (0, u "(J)Ljava/lang/Long;"), (0, .methodref 7 19), (0, .nameAndType 20 21), (0, u "equals"), (0, u "(Ljava/lang/Object;)Z"), (0, .class_ 23), (0, u "com/example/kept_backlog/keptbacklog/QueueStatsEqualsPinLaw"), (2, u "law"), (0, u "(JJJJJI)Z")] 3

def k1m0 : Method := { name := "<init>", desc := "()V", sig := { parameters := [], returnType := none }, accessFlags := 1, code := none }
def k1c1 : Code := { maxStack := 12, maxLocals := 27, code := code, exceptionTable := #[], attributes := #[] }
def k1m1 : Method := { name := "law", desc := "(JJJJJI)Z", sig := { parameters := [.long, .long, .long, .long, .long, .int], returnType := some .boolean }, accessFlags := 9, code := some k1c1 }
/-- com/example/kept_backlog/keptbacklog/QueueStatsEqualsPinLaw -/
def k1 : Class := { plain "com/example/kept_backlog/keptbacklog/QueueStatsEqualsPinLaw" (some 0) with
  accessFlags := 49
  interfaces := #[]
  cf := some (fileOf pool1 22 #[] #[{ accessFlags := 1, nameIndex := 5, descriptorIndex := 6, attributes := #[] }, { accessFlags := 9, nameIndex := 26, descriptorIndex := 27, attributes := #[] }] 49 2 #[] #[])
  fields := #[]
  methods := #[k1m0, k1m1]
  instanceTypes := #[]
  staticTypes := #[]
  resolved := Array.replicate 31 none
  statics := none }

def pool2 : Array CpInfo := pool [(1, .methodref 2 3), (0, .class_ 4), (0, .nameAndType 5 6), (0, u "java/lang/Object"), (0, u "<init>"), (0, u "()V"), (0, .fieldref 8 9), (0, .class_ 10), (0, .nameAndType 11 12), (0, u "com/example/kept_backlog/keptbacklog/QueueStats"), (0, u "waiting"), (0, u "J"), (0, .fieldref 8 14), (0, .nameAndType 15 12), (0, u "delayed"), (0, .fieldref 8 17), (0, .nameAndType 18 12), (0, u "leased"), (0, .fieldref 8 20), (0, .nameAndType 21 12), (0, u "dead"), (0, .fieldref 8 23), (0, .nameAndType 24 12), (0, u "completed"), (20, u "(JJJJJ)V"), (3, u "equals"), (0, u "(Ljava/lang/Object;)Z")] 7

def k2c0 : Code := { maxStack := 3, maxLocals := 11, code := prog_5_method_1_code, exceptionTable := #[], attributes := #[] }
def k2m0 : Method := { name := "<init>", desc := "(JJJJJ)V", sig := { parameters := [.long, .long, .long, .long, .long], returnType := none }, accessFlags := 0, code := some k2c0 }
def k2c1 : Code := { maxStack := 4, maxLocals := 3, code := prog_5_method_7_code, exceptionTable := #[], attributes := #[] }
def k2m1 : Method := { name := "equals", desc := "(Ljava/lang/Object;)Z", sig := { parameters := [(.object "java/lang/Object")], returnType := some .boolean }, accessFlags := 1, code := some k2c1 }
/-- com/example/kept_backlog/keptbacklog/QueueStats -/
def k2 : Class := { plain "com/example/kept_backlog/keptbacklog/QueueStats" (some 0) with
  accessFlags := 33
  interfaces := #[]
  cf := some (fileOf pool2 8 #[] #[{ accessFlags := 0, nameIndex := 5, descriptorIndex := 45, attributes := #[] }, { accessFlags := 1, nameIndex := 49, descriptorIndex := 50, attributes := #[] }] 33 2 #[] #[{ accessFlags := 18, nameIndex := 11, descriptorIndex := 12, attributes := #[] }, { accessFlags := 18, nameIndex := 15, descriptorIndex := 12, attributes := #[] }, { accessFlags := 18, nameIndex := 18, descriptorIndex := 12, attributes := #[] }, { accessFlags := 18, nameIndex := 21, descriptorIndex := 12, attributes := #[] }, { accessFlags := 18, nameIndex := 24, descriptorIndex := 12, attributes := #[] }])
  fields := #[{ name := "waiting", type := .long, accessFlags := 18, slot := 0, constantValue := 0 }, { name := "delayed", type := .long, accessFlags := 18, slot := 1, constantValue := 0 }, { name := "leased", type := .long, accessFlags := 18, slot := 2, constantValue := 0 }, { name := "dead", type := .long, accessFlags := 18, slot := 3, constantValue := 0 }, { name := "completed", type := .long, accessFlags := 18, slot := 4, constantValue := 0 }]
  methods := #[k2m0, k2m1]
  instanceTypes := #[.long, .long, .long, .long, .long]
  staticTypes := #[]
  resolved := Array.replicate 58 none
  statics := none }

def pool3 : Array CpInfo := pool [(1, .class_ 2), (0, u "java/io/Serializable"), (0, .class_ 4), (0, u "java/lang/Object")] 2

/-- java/io/Serializable -/
def k3 : Class := { plain "java/io/Serializable" (some 0) with
  accessFlags := 1537
  interfaces := #[]
  cf := some (fileOf pool3 1 #[] #[] 1537 3 #[] #[])
  fields := #[]
  methods := #[]
  instanceTypes := #[]
  staticTypes := #[]
  resolved := Array.replicate 7 none
  statics := none }

def pool4 : Array CpInfo := pool [(1, .methodref 2 3), (0, .class_ 4), (0, .nameAndType 5 6), (0, u "java/lang/Object"), (0, u "<init>"), (0, u "()V"), (1, .class_ 10), (1, u "java/lang/Number"), (2, .class_ 14), (0, u "java/io/Serializable"), (0, u "serialVersionUID"), (0, u "J")] 20

def k4c0 : Code := { maxStack := 1, maxLocals := 1, code := jdk_18_method_1_code, exceptionTable := #[], attributes := #[] }
def k4m0 : Method := { name := "<init>", desc := "()V", sig := { parameters := [], returnType := none }, accessFlags := 1, code := some k4c0 }
/-- java/lang/Number -/
def k4 : Class := { plain "java/lang/Number" (some 0) with
  accessFlags := 1057
  interfaces := #[3]
  cf := some (fileOf pool4 8 #[] #[{ accessFlags := 1, nameIndex := 5, descriptorIndex := 6, attributes := #[] }] 1057 2 #[13] #[{ accessFlags := 26, nameIndex := 15, descriptorIndex := 16, attributes := #[] }])
  fields := #[{ name := "serialVersionUID", type := .long, accessFlags := 26, slot := 0, constantValue := 0 }]
  methods := #[k4m0]
  instanceTypes := #[]
  staticTypes := #[.long]
  resolved := Array.replicate 37 none
  statics := none }

def pool5 : Array CpInfo := pool [(1, .class_ 2), (0, u "java/lang/Comparable"), (0, .class_ 4), (0, u "java/lang/Object")] 7

/-- java/lang/Comparable -/
def k5 : Class := { plain "java/lang/Comparable" (some 0) with
  accessFlags := 1537
  interfaces := #[]
  cf := some (fileOf pool5 1 #[] #[] 1537 3 #[] #[])
  fields := #[]
  methods := #[]
  instanceTypes := #[]
  staticTypes := #[]
  resolved := Array.replicate 12 none
  statics := none }

def pool6 : Array CpInfo := pool [(1, .class_ 2), (0, u "java/lang/constant/Constable"), (0, .class_ 4), (0, u "java/lang/Object")] 6

/-- java/lang/constant/Constable -/
def k6 : Class := { plain "java/lang/constant/Constable" (some 0) with
  accessFlags := 1537
  interfaces := #[]
  cf := some (fileOf pool6 1 #[] #[] 1537 3 #[] #[])
  fields := #[]
  methods := #[]
  instanceTypes := #[]
  staticTypes := #[]
  resolved := Array.replicate 11 none
  statics := none }

def pool7 : Array CpInfo := pool [(1, .class_ 2), (0, u "java/lang/constant/ConstantDesc"), (0, .class_ 4), (0, u "java/lang/Object")] 32

/-- java/lang/constant/ConstantDesc -/
def k7 : Class := { plain "java/lang/constant/ConstantDesc" (some 0) with
  accessFlags := 1537
  interfaces := #[]
  cf := some (fileOf pool7 1 #[] #[] 1537 3 #[] #[])
  fields := #[]
  methods := #[]
  instanceTypes := #[]
  staticTypes := #[]
  resolved := Array.replicate 37 none
  statics := none }

def pool8 : Array CpInfo := pool [(1, .class_ 2), (0, u "java/lang/Long"), (55, .nameAndType 59 60), (0, u "<init>"), (0, u "()V"), (24, u "valueOf"), (143, u "(J)Ljava/lang/Long;"), (0, .long 18446744073709551488), (1, .long 127), (1, .fieldref 235 236), (0, .class_ 237), (0, .nameAndType 238 239), (0, u "java/lang/Long$LongCache"), (0, u "cache"), (0, u "[Ljava/lang/Long;"), (0, .methodref 1 241), (0, .nameAndType 59 242), (0, u "(J)V"), (27, .methodref 271 58), (0, .class_ 272), (0, u "java/lang/Number"), (0, .fieldref 1 274), (0, .nameAndType 275 276), (0, u "value"), (0, u "J"), (84, u "TYPE"), (0, u "Ljava/lang/Class;"), (0, .class_ 364), (0, u "java/lang/Comparable"), (0, .class_ 366), (0, u "java/lang/constant/Constable"), (0, .class_ 368), (0, u "java/lang/constant/ConstantDesc"), (0, u "MIN_VALUE"), (1, u "MAX_VALUE"), (4, u "SIZE"), (0, u "I"), (1, u "BYTES"), (1, u "serialVersionUID")] 142

def k8c0 : Code := { maxStack := 4, maxLocals := 3, code := jdk_35_method_24_code, exceptionTable := #[], attributes := #[] }
def k8m0 : Method := { name := "valueOf", desc := "(J)Ljava/lang/Long;", sig := { parameters := [.long], returnType := some (.object "java/lang/Long") }, accessFlags := 9, code := some k8c0 }
def k8c1 : Code := { maxStack := 3, maxLocals := 3, code := jdk_35_method_26_code, exceptionTable := #[], attributes := #[] }
def k8m1 : Method := { name := "<init>", desc := "(J)V", sig := { parameters := [.long], returnType := none }, accessFlags := 1, code := some k8c1 }
/-- java/lang/Long -/
def k8 : Class := { plain "java/lang/Long" (some 4) with
  accessFlags := 49
  interfaces := #[5, 6, 7]
  cf := some (fileOf pool8 1 #[.nestMembers #[235]] #[{ accessFlags := 9, nameIndex := 85, descriptorIndex := 229, attributes := #[] }, { accessFlags := 1, nameIndex := 59, descriptorIndex := 242, attributes := #[] }] 49 271 #[363, 365, 367] #[{ accessFlags := 25, nameIndex := 369, descriptorIndex := 276, attributes := #[] }, { accessFlags := 25, nameIndex := 371, descriptorIndex := 276, attributes := #[] }, { accessFlags := 25, nameIndex := 361, descriptorIndex := 362, attributes := #[] }, { accessFlags := 18, nameIndex := 275, descriptorIndex := 276, attributes := #[] }, { accessFlags := 25, nameIndex := 376, descriptorIndex := 377, attributes := #[] }, { accessFlags := 25, nameIndex := 379, descriptorIndex := 377, attributes := #[] }, { accessFlags := 26, nameIndex := 381, descriptorIndex := 276, attributes := #[] }])
  fields := #[{ name := "MIN_VALUE", type := .long, accessFlags := 25, slot := 0, constantValue := 0 }, { name := "MAX_VALUE", type := .long, accessFlags := 25, slot := 1, constantValue := 0 }, { name := "TYPE", type := (.object "java/lang/Class"), accessFlags := 25, slot := 2, constantValue := 0 }, { name := "value", type := .long, accessFlags := 18, slot := 0, constantValue := 0 }, { name := "SIZE", type := .int, accessFlags := 25, slot := 3, constantValue := 0 }, { name := "BYTES", type := .int, accessFlags := 25, slot := 4, constantValue := 0 }, { name := "serialVersionUID", type := .long, accessFlags := 26, slot := 5, constantValue := 0 }]
  methods := #[k8m0, k8m1]
  instanceTypes := #[.long]
  staticTypes := #[.long, .long, (.object "java/lang/Class"), .int, .int, .long]
  resolved := Array.replicate 524 none
  statics := none }

def pool9 : Array CpInfo := pool [(2, .class_ 4), (1, u "java/lang/Object"), (0, u "<init>"), (0, u "()V"), (0, .class_ 8), (0, u "java/lang/Long"), (7, .class_ 18), (1, u "java/lang/Long$LongCache"), (0, u "$assertionsDisabled"), (0, u "Z"), (8, u "archivedCache"), (0, u "[Ljava/lang/Long;"), (7, u "cache")] 24

def k9m0 : Method := { name := "<init>", desc := "()V", sig := { parameters := [], returnType := none }, accessFlags := 2, code := none }
/-- java/lang/Long$LongCache -/
def k9 : Class := { plain "java/lang/Long$LongCache" (some 0) with
  accessFlags := 48
  interfaces := #[]
  cf := some (fileOf pool9 16 #[.nestHost 7] #[{ accessFlags := 2, nameIndex := 5, descriptorIndex := 6, attributes := #[] }] 48 2 #[] #[{ accessFlags := 24, nameIndex := 38, descriptorIndex := 30, attributes := #[] }, { accessFlags := 8, nameIndex := 29, descriptorIndex := 30, attributes := #[] }, { accessFlags := 4120, nameIndex := 19, descriptorIndex := 20, attributes := #[] }])
  fields := #[{ name := "cache", type := (.array (.object "java/lang/Long")), accessFlags := 24, slot := 0, constantValue := 0 }, { name := "archivedCache", type := (.array (.object "java/lang/Long")), accessFlags := 8, slot := 1, constantValue := 0 }, { name := "$assertionsDisabled", type := .boolean, accessFlags := 4120, slot := 2, constantValue := 0 }]
  methods := #[k9m0]
  instanceTypes := #[]
  staticTypes := #[(.array (.object "java/lang/Long")), (.array (.object "java/lang/Long")), .boolean]
  resolved := Array.replicate 63 none
  statics := some 0 }

def pool10 : Array CpInfo := pool [(1, u "java/lang/Cloneable"), (0, .class_ 1), (0, u "java/lang/Object"), (0, .class_ 3)] 3

/-- java/lang/Cloneable -/
def k10 : Class := { plain "java/lang/Cloneable" (some 0) with
  accessFlags := 1537
  interfaces := #[]
  cf := some (fileOf pool10 2 #[] #[] 1537 4 #[] #[])
  fields := #[]
  methods := #[]
  instanceTypes := #[]
  staticTypes := #[]
  resolved := Array.replicate 8 none
  statics := none }

/-- the primitive byte -/
def k11 : Class := { plain "byte" none with kind := .primitive 'B', accessFlags := 0x411 }
/-- [B -/
def k12 : Class := { plain "[B" (some 0) with kind := .array 11 .byte, interfaces := #[10, 3], accessFlags := 1041 }

/-- the primitive int -/
def k13 : Class := { plain "int" none with kind := .primitive 'I', accessFlags := 0x411 }
/-- [I -/
def k14 : Class := { plain "[I" (some 0) with kind := .array 13 .int, interfaces := #[10, 3], accessFlags := 1041 }

/-- [Ljava/lang/Long; -/
def k15 : Class := { plain "[Ljava/lang/Long;" (some 0) with kind := .array 8 (.object "java/lang/Long"), interfaces := #[10, 3], accessFlags := 1041 }

def heap : Heap := #[{ cls := 9, slots := #[.ref 1, .null, .int 0], vm := .statics 9 },
  { cls := 15, slots := #[.ref 2, .ref 3, .ref 4, .ref 5, .ref 6, .ref 7, .ref 8, .ref 9, .ref 10, .ref 11, .ref 12, .ref 13, .ref 14, .ref 15, .ref 16, .ref 17, .ref 18, .ref 19, .ref 20, .ref 21, .ref 22, .ref 23, .ref 24, .ref 25, .ref 26, .ref 27, .ref 28, .ref 29, .ref 30, .ref 31, .ref 32, .ref 33, .ref 34, .ref 35, .ref 36, .ref 37, .ref 38, .ref 39, .ref 40, .ref 41, .ref 42, .ref 43, .ref 44, .ref 45, .ref 46, .ref 47, .ref 48, .ref 49, .ref 50, .ref 51, .ref 52, .ref 53, .ref 54, .ref 55, .ref 56, .ref 57, .ref 58, .ref 59, .ref 60, .ref 61, .ref 62, .ref 63, .ref 64, .ref 65, .ref 66, .ref 67, .ref 68, .ref 69, .ref 70, .ref 71, .ref 72, .ref 73, .ref 74, .ref 75, .ref 76, .ref 77, .ref 78, .ref 79, .ref 80, .ref 81, .ref 82, .ref 83, .ref 84, .ref 85, .ref 86, .ref 87, .ref 88, .ref 89, .ref 90, .ref 91, .ref 92, .ref 93, .ref 94, .ref 95, .ref 96, .ref 97, .ref 98, .ref 99, .ref 100, .ref 101, .ref 102, .ref 103, .ref 104, .ref 105, .ref 106, .ref 107, .ref 108, .ref 109, .ref 110, .ref 111, .ref 112, .ref 113, .ref 114, .ref 115, .ref 116, .ref 117, .ref 118, .ref 119, .ref 120, .ref 121, .ref 122, .ref 123, .ref 124, .ref 125, .ref 126, .ref 127, .ref 128, .ref 129, .ref 130, .ref 131, .ref 132, .ref 133, .ref 134, .ref 135, .ref 136, .ref 137, .ref 138, .ref 139, .ref 140, .ref 141, .ref 142, .ref 143, .ref 144, .ref 145, .ref 146, .ref 147, .ref 148, .ref 149, .ref 150, .ref 151, .ref 152, .ref 153, .ref 154, .ref 155, .ref 156, .ref 157, .ref 158, .ref 159, .ref 160, .ref 161, .ref 162, .ref 163, .ref 164, .ref 165, .ref 166, .ref 167, .ref 168, .ref 169, .ref 170, .ref 171, .ref 172, .ref 173, .ref 174, .ref 175, .ref 176, .ref 177, .ref 178, .ref 179, .ref 180, .ref 181, .ref 182, .ref 183, .ref 184, .ref 185, .ref 186, .ref 187, .ref 188, .ref 189, .ref 190, .ref 191, .ref 192, .ref 193, .ref 194, .ref 195, .ref 196, .ref 197, .ref 198, .ref 199, .ref 200, .ref 201, .ref 202, .ref 203, .ref 204, .ref 205, .ref 206, .ref 207, .ref 208, .ref 209, .ref 210, .ref 211, .ref 212, .ref 213, .ref 214, .ref 215, .ref 216, .ref 217, .ref 218, .ref 219, .ref 220, .ref 221, .ref 222, .ref 223, .ref 224, .ref 225, .ref 226, .ref 227, .ref 228, .ref 229, .ref 230, .ref 231, .ref 232, .ref 233, .ref 234, .ref 235, .ref 236, .ref 237, .ref 238, .ref 239, .ref 240, .ref 241, .ref 242, .ref 243, .ref 244, .ref 245, .ref 246, .ref 247, .ref 248, .ref 249, .ref 250, .ref 251, .ref 252, .ref 253, .ref 254, .ref 255, .ref 256, .ref 257], vm := .none },
  { cls := 8, slots := #[.long (-128)], vm := .none },
  { cls := 8, slots := #[.long (-127)], vm := .none },
  { cls := 8, slots := #[.long (-126)], vm := .none },
  { cls := 8, slots := #[.long (-125)], vm := .none },
  { cls := 8, slots := #[.long (-124)], vm := .none },
  { cls := 8, slots := #[.long (-123)], vm := .none },
  { cls := 8, slots := #[.long (-122)], vm := .none },
  { cls := 8, slots := #[.long (-121)], vm := .none },
  { cls := 8, slots := #[.long (-120)], vm := .none },
  { cls := 8, slots := #[.long (-119)], vm := .none },
  { cls := 8, slots := #[.long (-118)], vm := .none },
  { cls := 8, slots := #[.long (-117)], vm := .none },
  { cls := 8, slots := #[.long (-116)], vm := .none },
  { cls := 8, slots := #[.long (-115)], vm := .none },
  { cls := 8, slots := #[.long (-114)], vm := .none },
  { cls := 8, slots := #[.long (-113)], vm := .none },
  { cls := 8, slots := #[.long (-112)], vm := .none },
  { cls := 8, slots := #[.long (-111)], vm := .none },
  { cls := 8, slots := #[.long (-110)], vm := .none },
  { cls := 8, slots := #[.long (-109)], vm := .none },
  { cls := 8, slots := #[.long (-108)], vm := .none },
  { cls := 8, slots := #[.long (-107)], vm := .none },
  { cls := 8, slots := #[.long (-106)], vm := .none },
  { cls := 8, slots := #[.long (-105)], vm := .none },
  { cls := 8, slots := #[.long (-104)], vm := .none },
  { cls := 8, slots := #[.long (-103)], vm := .none },
  { cls := 8, slots := #[.long (-102)], vm := .none },
  { cls := 8, slots := #[.long (-101)], vm := .none },
  { cls := 8, slots := #[.long (-100)], vm := .none },
  { cls := 8, slots := #[.long (-99)], vm := .none },
  { cls := 8, slots := #[.long (-98)], vm := .none },
  { cls := 8, slots := #[.long (-97)], vm := .none },
  { cls := 8, slots := #[.long (-96)], vm := .none },
  { cls := 8, slots := #[.long (-95)], vm := .none },
  { cls := 8, slots := #[.long (-94)], vm := .none },
  { cls := 8, slots := #[.long (-93)], vm := .none },
  { cls := 8, slots := #[.long (-92)], vm := .none },
  { cls := 8, slots := #[.long (-91)], vm := .none },
  { cls := 8, slots := #[.long (-90)], vm := .none },
  { cls := 8, slots := #[.long (-89)], vm := .none },
  { cls := 8, slots := #[.long (-88)], vm := .none },
  { cls := 8, slots := #[.long (-87)], vm := .none },
  { cls := 8, slots := #[.long (-86)], vm := .none },
  { cls := 8, slots := #[.long (-85)], vm := .none },
  { cls := 8, slots := #[.long (-84)], vm := .none },
  { cls := 8, slots := #[.long (-83)], vm := .none },
  { cls := 8, slots := #[.long (-82)], vm := .none },
  { cls := 8, slots := #[.long (-81)], vm := .none },
  { cls := 8, slots := #[.long (-80)], vm := .none },
  { cls := 8, slots := #[.long (-79)], vm := .none },
  { cls := 8, slots := #[.long (-78)], vm := .none },
  { cls := 8, slots := #[.long (-77)], vm := .none },
  { cls := 8, slots := #[.long (-76)], vm := .none },
  { cls := 8, slots := #[.long (-75)], vm := .none },
  { cls := 8, slots := #[.long (-74)], vm := .none },
  { cls := 8, slots := #[.long (-73)], vm := .none },
  { cls := 8, slots := #[.long (-72)], vm := .none },
  { cls := 8, slots := #[.long (-71)], vm := .none },
  { cls := 8, slots := #[.long (-70)], vm := .none },
  { cls := 8, slots := #[.long (-69)], vm := .none },
  { cls := 8, slots := #[.long (-68)], vm := .none },
  { cls := 8, slots := #[.long (-67)], vm := .none },
  { cls := 8, slots := #[.long (-66)], vm := .none },
  { cls := 8, slots := #[.long (-65)], vm := .none },
  { cls := 8, slots := #[.long (-64)], vm := .none },
  { cls := 8, slots := #[.long (-63)], vm := .none },
  { cls := 8, slots := #[.long (-62)], vm := .none },
  { cls := 8, slots := #[.long (-61)], vm := .none },
  { cls := 8, slots := #[.long (-60)], vm := .none },
  { cls := 8, slots := #[.long (-59)], vm := .none },
  { cls := 8, slots := #[.long (-58)], vm := .none },
  { cls := 8, slots := #[.long (-57)], vm := .none },
  { cls := 8, slots := #[.long (-56)], vm := .none },
  { cls := 8, slots := #[.long (-55)], vm := .none },
  { cls := 8, slots := #[.long (-54)], vm := .none },
  { cls := 8, slots := #[.long (-53)], vm := .none },
  { cls := 8, slots := #[.long (-52)], vm := .none },
  { cls := 8, slots := #[.long (-51)], vm := .none },
  { cls := 8, slots := #[.long (-50)], vm := .none },
  { cls := 8, slots := #[.long (-49)], vm := .none },
  { cls := 8, slots := #[.long (-48)], vm := .none },
  { cls := 8, slots := #[.long (-47)], vm := .none },
  { cls := 8, slots := #[.long (-46)], vm := .none },
  { cls := 8, slots := #[.long (-45)], vm := .none },
  { cls := 8, slots := #[.long (-44)], vm := .none },
  { cls := 8, slots := #[.long (-43)], vm := .none },
  { cls := 8, slots := #[.long (-42)], vm := .none },
  { cls := 8, slots := #[.long (-41)], vm := .none },
  { cls := 8, slots := #[.long (-40)], vm := .none },
  { cls := 8, slots := #[.long (-39)], vm := .none },
  { cls := 8, slots := #[.long (-38)], vm := .none },
  { cls := 8, slots := #[.long (-37)], vm := .none },
  { cls := 8, slots := #[.long (-36)], vm := .none },
  { cls := 8, slots := #[.long (-35)], vm := .none },
  { cls := 8, slots := #[.long (-34)], vm := .none },
  { cls := 8, slots := #[.long (-33)], vm := .none },
  { cls := 8, slots := #[.long (-32)], vm := .none },
  { cls := 8, slots := #[.long (-31)], vm := .none },
  { cls := 8, slots := #[.long (-30)], vm := .none },
  { cls := 8, slots := #[.long (-29)], vm := .none },
  { cls := 8, slots := #[.long (-28)], vm := .none },
  { cls := 8, slots := #[.long (-27)], vm := .none },
  { cls := 8, slots := #[.long (-26)], vm := .none },
  { cls := 8, slots := #[.long (-25)], vm := .none },
  { cls := 8, slots := #[.long (-24)], vm := .none },
  { cls := 8, slots := #[.long (-23)], vm := .none },
  { cls := 8, slots := #[.long (-22)], vm := .none },
  { cls := 8, slots := #[.long (-21)], vm := .none },
  { cls := 8, slots := #[.long (-20)], vm := .none },
  { cls := 8, slots := #[.long (-19)], vm := .none },
  { cls := 8, slots := #[.long (-18)], vm := .none },
  { cls := 8, slots := #[.long (-17)], vm := .none },
  { cls := 8, slots := #[.long (-16)], vm := .none },
  { cls := 8, slots := #[.long (-15)], vm := .none },
  { cls := 8, slots := #[.long (-14)], vm := .none },
  { cls := 8, slots := #[.long (-13)], vm := .none },
  { cls := 8, slots := #[.long (-12)], vm := .none },
  { cls := 8, slots := #[.long (-11)], vm := .none },
  { cls := 8, slots := #[.long (-10)], vm := .none },
  { cls := 8, slots := #[.long (-9)], vm := .none },
  { cls := 8, slots := #[.long (-8)], vm := .none },
  { cls := 8, slots := #[.long (-7)], vm := .none },
  { cls := 8, slots := #[.long (-6)], vm := .none },
  { cls := 8, slots := #[.long (-5)], vm := .none },
  { cls := 8, slots := #[.long (-4)], vm := .none },
  { cls := 8, slots := #[.long (-3)], vm := .none },
  { cls := 8, slots := #[.long (-2)], vm := .none },
  { cls := 8, slots := #[.long (-1)], vm := .none },
  { cls := 8, slots := #[.long (0)], vm := .none },
  { cls := 8, slots := #[.long (1)], vm := .none },
  { cls := 8, slots := #[.long (2)], vm := .none },
  { cls := 8, slots := #[.long (3)], vm := .none },
  { cls := 8, slots := #[.long (4)], vm := .none },
  { cls := 8, slots := #[.long (5)], vm := .none },
  { cls := 8, slots := #[.long (6)], vm := .none },
  { cls := 8, slots := #[.long (7)], vm := .none },
  { cls := 8, slots := #[.long (8)], vm := .none },
  { cls := 8, slots := #[.long (9)], vm := .none },
  { cls := 8, slots := #[.long (10)], vm := .none },
  { cls := 8, slots := #[.long (11)], vm := .none },
  { cls := 8, slots := #[.long (12)], vm := .none },
  { cls := 8, slots := #[.long (13)], vm := .none },
  { cls := 8, slots := #[.long (14)], vm := .none },
  { cls := 8, slots := #[.long (15)], vm := .none },
  { cls := 8, slots := #[.long (16)], vm := .none },
  { cls := 8, slots := #[.long (17)], vm := .none },
  { cls := 8, slots := #[.long (18)], vm := .none },
  { cls := 8, slots := #[.long (19)], vm := .none },
  { cls := 8, slots := #[.long (20)], vm := .none },
  { cls := 8, slots := #[.long (21)], vm := .none },
  { cls := 8, slots := #[.long (22)], vm := .none },
  { cls := 8, slots := #[.long (23)], vm := .none },
  { cls := 8, slots := #[.long (24)], vm := .none },
  { cls := 8, slots := #[.long (25)], vm := .none },
  { cls := 8, slots := #[.long (26)], vm := .none },
  { cls := 8, slots := #[.long (27)], vm := .none },
  { cls := 8, slots := #[.long (28)], vm := .none },
  { cls := 8, slots := #[.long (29)], vm := .none },
  { cls := 8, slots := #[.long (30)], vm := .none },
  { cls := 8, slots := #[.long (31)], vm := .none },
  { cls := 8, slots := #[.long (32)], vm := .none },
  { cls := 8, slots := #[.long (33)], vm := .none },
  { cls := 8, slots := #[.long (34)], vm := .none },
  { cls := 8, slots := #[.long (35)], vm := .none },
  { cls := 8, slots := #[.long (36)], vm := .none },
  { cls := 8, slots := #[.long (37)], vm := .none },
  { cls := 8, slots := #[.long (38)], vm := .none },
  { cls := 8, slots := #[.long (39)], vm := .none },
  { cls := 8, slots := #[.long (40)], vm := .none },
  { cls := 8, slots := #[.long (41)], vm := .none },
  { cls := 8, slots := #[.long (42)], vm := .none },
  { cls := 8, slots := #[.long (43)], vm := .none },
  { cls := 8, slots := #[.long (44)], vm := .none },
  { cls := 8, slots := #[.long (45)], vm := .none },
  { cls := 8, slots := #[.long (46)], vm := .none },
  { cls := 8, slots := #[.long (47)], vm := .none },
  { cls := 8, slots := #[.long (48)], vm := .none },
  { cls := 8, slots := #[.long (49)], vm := .none },
  { cls := 8, slots := #[.long (50)], vm := .none },
  { cls := 8, slots := #[.long (51)], vm := .none },
  { cls := 8, slots := #[.long (52)], vm := .none },
  { cls := 8, slots := #[.long (53)], vm := .none },
  { cls := 8, slots := #[.long (54)], vm := .none },
  { cls := 8, slots := #[.long (55)], vm := .none },
  { cls := 8, slots := #[.long (56)], vm := .none },
  { cls := 8, slots := #[.long (57)], vm := .none },
  { cls := 8, slots := #[.long (58)], vm := .none },
  { cls := 8, slots := #[.long (59)], vm := .none },
  { cls := 8, slots := #[.long (60)], vm := .none },
  { cls := 8, slots := #[.long (61)], vm := .none },
  { cls := 8, slots := #[.long (62)], vm := .none },
  { cls := 8, slots := #[.long (63)], vm := .none },
  { cls := 8, slots := #[.long (64)], vm := .none },
  { cls := 8, slots := #[.long (65)], vm := .none },
  { cls := 8, slots := #[.long (66)], vm := .none },
  { cls := 8, slots := #[.long (67)], vm := .none },
  { cls := 8, slots := #[.long (68)], vm := .none },
  { cls := 8, slots := #[.long (69)], vm := .none },
  { cls := 8, slots := #[.long (70)], vm := .none },
  { cls := 8, slots := #[.long (71)], vm := .none },
  { cls := 8, slots := #[.long (72)], vm := .none },
  { cls := 8, slots := #[.long (73)], vm := .none },
  { cls := 8, slots := #[.long (74)], vm := .none },
  { cls := 8, slots := #[.long (75)], vm := .none },
  { cls := 8, slots := #[.long (76)], vm := .none },
  { cls := 8, slots := #[.long (77)], vm := .none },
  { cls := 8, slots := #[.long (78)], vm := .none },
  { cls := 8, slots := #[.long (79)], vm := .none },
  { cls := 8, slots := #[.long (80)], vm := .none },
  { cls := 8, slots := #[.long (81)], vm := .none },
  { cls := 8, slots := #[.long (82)], vm := .none },
  { cls := 8, slots := #[.long (83)], vm := .none },
  { cls := 8, slots := #[.long (84)], vm := .none },
  { cls := 8, slots := #[.long (85)], vm := .none },
  { cls := 8, slots := #[.long (86)], vm := .none },
  { cls := 8, slots := #[.long (87)], vm := .none },
  { cls := 8, slots := #[.long (88)], vm := .none },
  { cls := 8, slots := #[.long (89)], vm := .none },
  { cls := 8, slots := #[.long (90)], vm := .none },
  { cls := 8, slots := #[.long (91)], vm := .none },
  { cls := 8, slots := #[.long (92)], vm := .none },
  { cls := 8, slots := #[.long (93)], vm := .none },
  { cls := 8, slots := #[.long (94)], vm := .none },
  { cls := 8, slots := #[.long (95)], vm := .none },
  { cls := 8, slots := #[.long (96)], vm := .none },
  { cls := 8, slots := #[.long (97)], vm := .none },
  { cls := 8, slots := #[.long (98)], vm := .none },
  { cls := 8, slots := #[.long (99)], vm := .none },
  { cls := 8, slots := #[.long (100)], vm := .none },
  { cls := 8, slots := #[.long (101)], vm := .none },
  { cls := 8, slots := #[.long (102)], vm := .none },
  { cls := 8, slots := #[.long (103)], vm := .none },
  { cls := 8, slots := #[.long (104)], vm := .none },
  { cls := 8, slots := #[.long (105)], vm := .none },
  { cls := 8, slots := #[.long (106)], vm := .none },
  { cls := 8, slots := #[.long (107)], vm := .none },
  { cls := 8, slots := #[.long (108)], vm := .none },
  { cls := 8, slots := #[.long (109)], vm := .none },
  { cls := 8, slots := #[.long (110)], vm := .none },
  { cls := 8, slots := #[.long (111)], vm := .none },
  { cls := 8, slots := #[.long (112)], vm := .none },
  { cls := 8, slots := #[.long (113)], vm := .none },
  { cls := 8, slots := #[.long (114)], vm := .none },
  { cls := 8, slots := #[.long (115)], vm := .none },
  { cls := 8, slots := #[.long (116)], vm := .none },
  { cls := 8, slots := #[.long (117)], vm := .none },
  { cls := 8, slots := #[.long (118)], vm := .none },
  { cls := 8, slots := #[.long (119)], vm := .none },
  { cls := 8, slots := #[.long (120)], vm := .none },
  { cls := 8, slots := #[.long (121)], vm := .none },
  { cls := 8, slots := #[.long (122)], vm := .none },
  { cls := 8, slots := #[.long (123)], vm := .none },
  { cls := 8, slots := #[.long (124)], vm := .none },
  { cls := 8, slots := #[.long (125)], vm := .none },
  { cls := 8, slots := #[.long (126)], vm := .none },
  { cls := 8, slots := #[.long (127)], vm := .none }]
def classes : Array Class := #[k0, k1, k2, k3, k4, k5, k6, k7, k8, k9, k10, k11, k12, k13, k14, k15]
def interned : List (Array UInt16 × Addr) := []
def slotsUsed : Nat := 515
def theMethod : MethodId := ⟨1, 1⟩
def args0 : Array Value := #[.long 1, .long 1, .long 1, .long 1, .long 1, .int 1]
def aboutOver (below : List Frame) : State where
  vm := { classes := classes, interned := interned.toArray }
  heap := heap
  slotsUsed := slotsUsed
  threads := #[{ frames := .invoking theMethod args0 :: below }]
def below0 : List Frame := [.native { method := ⟨0, 0⟩, args := #[] }]
def about1 : State := aboutOver below0
def p0 : Program := .bare "" "" ""
def e0 : Env := launch0.env 0 0 0
theorem w_frames : about1.frames = Frame.invoking theMethod args0 :: below0 := rfl
set_option maxRecDepth 65536 in
theorem w_args : argsFit about1.vm theMethod args0 = true := by decide +kernel
set_option maxRecDepth 65536 in
theorem w_heap : heapFits about1 = true := by decide +kernel
set_option maxRecDepth 65536 in
theorem w_runnable : about1.curStatus? = some .runnable := by decide +kernel
set_option maxRecDepth 65536 in
theorem w_alone : about1.alone = true := by decide +kernel
set_option maxRecDepth 65536 in
theorem w_named : about1.methodNamed? x = some theMethod := by decide +kernel
set_option maxRecDepth 65536 in
theorem w_hears : about1.hears theMethod below0 = true := by decide +kernel
set_option maxRecDepth 65536 in
theorem w_ripe : about1.ripe theMethod args0 below0 = true := by decide +kernel
theorem w_running : about1.status = .running := rfl
set_option maxRecDepth 65536 in
theorem w_room : about1.hasRoom e0.platform room_1 = true :=
  launch0.hasRoom_least _ room_1 (by decide +kernel) (by decide +kernel) (by decide +kernel) (by decide +kernel) (by decide +kernel) (by decide +kernel)
theorem allAtoms_all (ts : List Jvm.Cond) (a : Array Jvm.Value) (st : Jvm.State) : (allAtoms ts).before a st = ts.all (fun c => c.before a st) := by
  induction ts with
  | nil => rfl
  | cons c t ih =>
    show (Jvm.Cond.and c (allAtoms t)).before a st = _
    rw [Jvm.Cond.before_and, ih, List.all_cons]
def words1 : List Jvm.Cond := Jvm.Cond.code x code maxLocals ret :: tables_1
/-- a 'code' word, met by the world's own term for the bytes: nothing is compared byte by byte -/
theorem code_word {y : MethodName} {bytes : ByteArray} {mx : Nat} {rt : Option FieldType} {a : Array Value} {s : State} {m : MethodId} {meth : Method} {c : Code} (h1 : s.methodNamed? y = some m) (h2 : s.vm.method? m = some meth) (h3 : meth.code = some c) (h4 : c.code = bytes)
    (h5 : (c.maxLocals == mx && c.exceptionTable.isEmpty && decide (c.maxStack ≤ mostOperands) && decide (meth.sig.returnType = rt) && !meth.locks && decide (parseMethodDescriptor y.desc = some meth.sig)) = true) : (Jvm.Cond.code y bytes mx rt).before a s = true := by
  simp only [Bool.and_eq_true, beq_iff_eq, Bool.not_eq_true', decide_eq_true_eq] at h5
  obtain ⟨⟨⟨⟨⟨g1, g2⟩, g3⟩, g4⟩, g5⟩, g6⟩ := h5
  simp [Cond.before, Cond.holds, Cond.value, h1, h2, h3, h4, g1, g2, g3, g4, g5, g6]
def isCode : Jvm.Cond → Bool
  | .code _ _ _ _ => true
  | _ => false
theorem all_split {L : List Jvm.Cond} {P : Jvm.Cond → Bool} (h1 : L.all (fun c => isCode c || P c) = true) (h2 : ∀ c ∈ L.filter isCode, P c = true) : L.all P = true := by
  refine List.all_eq_true.mpr fun c hc => ?_
  have h := List.all_eq_true.mp h1 c hc
  rcases Bool.eq_false_or_eq_true (isCode c) with hi | hi
  · exact h2 c (List.mem_filter.mpr ⟨hc, hi⟩)
  · simpa [hi] using h
set_option maxRecDepth 65536 in
theorem w_c0 : (Jvm.Cond.code x code maxLocals ret).before args0 about1 = true := code_word (m := ⟨1, 1⟩) (meth := k1m1) (c := k1c1) (by decide +kernel) rfl rfl rfl (by decide +kernel)
set_option maxRecDepth 65536 in
theorem w_c1 : (Jvm.Cond.code ({ cls := "com/example/kept_backlog/keptbacklog/QueueStats", name := "<init>", desc := "(JJJJJ)V" } : Jvm.MethodName) prog_5_method_1_code (11 : Nat) (Option.none : Option Jvm.ClassFile.FieldType)).before args0 about1 = true := code_word (m := ⟨2, 0⟩) (meth := k2m0) (c := k2c0) (by decide +kernel) rfl rfl rfl (by decide +kernel)
set_option maxRecDepth 65536 in
theorem w_c2 : (Jvm.Cond.code ({ cls := "java/lang/Object", name := "<init>", desc := "()V" } : Jvm.MethodName) object_method_1_code (1 : Nat) (Option.none : Option Jvm.ClassFile.FieldType)).before args0 about1 = true := code_word (m := ⟨0, 0⟩) (meth := k0m0) (c := k0c0) (by decide +kernel) rfl rfl rfl (by decide +kernel)
set_option maxRecDepth 65536 in
theorem w_c3 : (Jvm.Cond.code ({ cls := "com/example/kept_backlog/keptbacklog/QueueStats", name := "equals", desc := "(Ljava/lang/Object;)Z" } : Jvm.MethodName) prog_5_method_7_code (3 : Nat) (Option.some Jvm.ClassFile.FieldType.boolean)).before args0 about1 = true := code_word (m := ⟨2, 1⟩) (meth := k2m1) (c := k2c1) (by decide +kernel) rfl rfl rfl (by decide +kernel)
set_option maxRecDepth 65536 in
theorem w_c4 : (Jvm.Cond.code ({ cls := "java/lang/Long", name := "valueOf", desc := "(J)Ljava/lang/Long;" } : Jvm.MethodName) jdk_35_method_24_code (3 : Nat) (Option.some (Jvm.ClassFile.FieldType.object "java/lang/Long"))).before args0 about1 = true := code_word (m := ⟨8, 0⟩) (meth := k8m0) (c := k8c0) (by decide +kernel) rfl rfl rfl (by decide +kernel)
set_option maxRecDepth 65536 in
theorem w_c5 : (Jvm.Cond.code ({ cls := "java/lang/Long", name := "<init>", desc := "(J)V" } : Jvm.MethodName) jdk_35_method_26_code (3 : Nat) (Option.none : Option Jvm.ClassFile.FieldType)).before args0 about1 = true := code_word (m := ⟨8, 1⟩) (meth := k8m1) (c := k8c1) (by decide +kernel) rfl rfl rfl (by decide +kernel)
set_option maxRecDepth 65536 in
theorem w_c6 : (Jvm.Cond.code ({ cls := "java/lang/Number", name := "<init>", desc := "()V" } : Jvm.MethodName) jdk_18_method_1_code (1 : Nat) (Option.none : Option Jvm.ClassFile.FieldType)).before args0 about1 = true := code_word (m := ⟨4, 0⟩) (meth := k4m0) (c := k4c0) (by decide +kernel) rfl rfl rfl (by decide +kernel)
def codes1 : List Jvm.Cond := [Jvm.Cond.code x code maxLocals ret, Jvm.Cond.code ({ cls := "com/example/kept_backlog/keptbacklog/QueueStats", name := "<init>", desc := "(JJJJJ)V" } : Jvm.MethodName) prog_5_method_1_code (11 : Nat) (Option.none : Option Jvm.ClassFile.FieldType), Jvm.Cond.code ({ cls := "java/lang/Object", name := "<init>", desc := "()V" } : Jvm.MethodName) object_method_1_code (1 : Nat) (Option.none : Option Jvm.ClassFile.FieldType), Jvm.Cond.code ({ cls := "com/example/kept_backlog/keptbacklog/QueueStats", name := "equals", desc := "(Ljava/lang/Object;)Z" } : Jvm.MethodName) prog_5_method_7_code (3 : Nat) (Option.some Jvm.ClassFile.FieldType.boolean), Jvm.Cond.code ({ cls := "java/lang/Long", name := "valueOf", desc := "(J)Ljava/lang/Long;" } : Jvm.MethodName) jdk_35_method_24_code (3 : Nat) (Option.some (Jvm.ClassFile.FieldType.object "java/lang/Long")), Jvm.Cond.code ({ cls := "java/lang/Long", name := "<init>", desc := "(J)V" } : Jvm.MethodName) jdk_35_method_26_code (3 : Nat) (Option.none : Option Jvm.ClassFile.FieldType), Jvm.Cond.code ({ cls := "java/lang/Number", name := "<init>", desc := "()V" } : Jvm.MethodName) jdk_18_method_1_code (1 : Nat) (Option.none : Option Jvm.ClassFile.FieldType)]
set_option maxRecDepth 65536 in
theorem codes_eq : words1.filter isCode = codes1 := rfl
theorem w_codes : ∀ c ∈ words1.filter isCode, c.before args0 about1 = true := by
  rw [codes_eq]
  intro c hc
  simp only [codes1, List.mem_cons, List.not_mem_nil, or_false] at hc
  rcases hc with rfl | rfl | rfl | rfl | rfl | rfl | rfl
  · exact w_c0
  · exact w_c1
  · exact w_c2
  · exact w_c3
  · exact w_c4
  · exact w_c5
  · exact w_c6
set_option maxRecDepth 65536 in
theorem w_t1 : (words1.take 24).all (fun c => isCode c || c.before args0 about1) = true := by decide +kernel
set_option maxRecDepth 65536 in
theorem w_t2 : ((words1.drop 24).take 24).all (fun c => isCode c || c.before args0 about1) = true := by decide +kernel
set_option maxRecDepth 65536 in
theorem w_t3 : ((words1.drop 24).drop 24).all (fun c => isCode c || c.before args0 about1) = true := by decide +kernel
theorem w_tables : (allAtoms (Jvm.Cond.code x code maxLocals ret :: tables_1)).before args0 about1 = true := by
  rw [allAtoms_all]
  show words1.all (fun c => c.before args0 about1) = true
  refine all_split ?_ w_codes
  rw [← List.take_append_drop 24 words1, List.all_append, w_t1, ← List.take_append_drop 24 (words1.drop 24), List.all_append, w_t2, w_t3]
  rfl
set_option maxRecDepth 65536 in
theorem w_rest : rest_1_c.before args0 about1 = true := by decide +kernel
set_option maxRecDepth 65536 in
theorem w_case : (Jvm.Cond.and given_1 narrow_1).before args0 about1 = true := by decide +kernel
theorem w_applies : (headSpec (Jvm.Cond.code x code maxLocals ret :: tables_1) room_1).applies x e0.platform about1 = true :=
  (Spec.applies_iff w_frames).mpr ⟨w_running, w_runnable, w_alone, w_named, w_hears, w_ripe, w_room, w_tables⟩
theorem atStart : AtStart classFile x code maxLocals ret World_1 tables_1 room_1 Calls_1 rest_1 Pre_1 launch0 p0 e0 about1 theMethod args0 below0 :=
  ⟨lists_1, trivial, launch0.admits_env _ _ _, launch0.least_env, fairChoices_fair.cas, fairChoices_fair.clock, w_frames, w_args, w_heap, w_applies, trivial, w_rest, w_case⟩
end start1
theorem witness_1 : WitnessClaimed_1 := ⟨start1.p0, start1.e0, start1.about1, start1.theMethod, start1.args0, start1.below0, start1.atStart⟩
end Jvm.Pilot.@@N@@
