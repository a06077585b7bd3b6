import JvmDerived
import JvmDerived.Pilot.@@N@@Statement
import JvmDerived.Pilot.@@N@@Code
set_option linter.unusedVariables false
set_option linter.unusedSimpArgs false
namespace Jvm.RoadKit
open Sem ClassFile Op Lib Jvm.Stand Jvm.Free Jvm.LawKit
section Own
variable {p : Program} {l : Launch} {e : Env} {R : Room} {s : State} {m : MethodId} {args : Array Value} {below : List Frame} {meth : Method} {c : Code} {T T' : State} {locs : List Loc} {cells slots : Nat} {Q : Option Value → Heap → List Loc → Prop} {h : Heap}
/-- from T the invocation comes to an end of which P holds -/
def Ends (p : Program) (e : Env) (below : List Frame) (P : Outcome → State → Prop) (T : State) : Prop := ∃ s₂ o, Steps p.tables e below T s₂ ∧ s₂.status = .running ∧ Ended s₂ below o ∧ P o s₂
/-- the end of a body that interns nothing -/
def EndN (s : State) (R : Room) (Q : Option Value → Heap → List Loc → Prop) (o : Outcome) (s₂ : State) : Prop := ∃ v L, o = .returned v ∧ Q v s₂.heap L ∧ FrameEnd s o s₂ L R.cells R.slots
/-- the end of a body that may intern String constants -/
def EndW (s : State) (R : Room) (Z : State) (EL : List (String × Nat)) (Q : Option Value → Heap → List Loc → Prop) (o : Outcome) (s₂ : State) : Prop := ∃ v L, o = .returned v ∧ Q v s₂.heap L ∧ CHr Z EL s.vm s.heap s₂.vm s₂.heap ∧ ReturnedEndW s o s₂ L R.cells R.slots
theorem Ends.pre {P : Outcome → State → Prop} (k : ∀ t, Steps p.tables e below T' t → Steps p.tables e below T t) (h : Ends p e below P T') : Ends p e below P T := by
  obtain ⟨a, b, d, r⟩ := h
  exact ⟨a, b, k _ d, r⟩
theorem Ends.cast {P : Outcome → State → Prop} {g g' : JFrame} (q : g = g') (h : Ends p e below P (T.setTop g')) : Ends p e below P (T.setTop g) := q ▸ h
theorem Ends.ret (X : Stand p l e R s m args below meth c T locs cells slots) (hx : p.tables.exec = Jvm.exec) (hlk : meth.locks = false) {pc : Nat} {Ls : Array Slot} {w : Value} {t : FieldType} {i : Instr} {rest : List Value} (hret : meth.sig.returnType = some t) (hn : narrow t w = w)
    (hi : (i = .ireturn ∧ (t = .int ∨ t = .boolean ∨ t = .byte ∨ t = .char ∨ t = .short) ∧ ∃ z, w = .int z) ∨ (i = .lreturn ∧ t = .long ∧ ∃ z, w = .long z) ∨ (i = .dreturn ∧ t = .double ∧ ∃ z, w = .double z) ∨ (i = .freturn ∧ t = .float ∧ ∃ z, w = .float z) ∨ (i = .areturn ∧ t.isReference = true ∧ w.isRef = true))
    (hd : decode c.code pc = .ok (i, 1)) (eT : T.heap = h) (hq : Q (some w) h locs) (h1 : cells ≤ R.cells) (h2 : slots ≤ R.slots) : Ends p e below (EndN s R Q) (T.setTop (mkF m pc Ls (w :: rest))) := by
  obtain ⟨fs, hr, hrun, hended, hW, hsame⟩ := X.leave (v := some w) (fun q => by rw [hret] at q; cases q) hlk
  refine ⟨_, _, retOut X hx hret hn hi hd hr, hrun, hended, _, _, rfl, ?_, ⟨_, rfl⟩, hW, hsame.mono h1 h2⟩
  show Q (some w) T.heap locs
  rw [eT]; exact hq
theorem Ends.ret0 (X : Stand p l e R s m args below meth c T locs cells slots) (hx : p.tables.exec = Jvm.exec) (hlk : meth.locks = false) {pc : Nat} {Ls : Array Slot} (hret : meth.sig.returnType = none)
    (hd : decode c.code pc = .ok (.return_, 1)) (eT : T.heap = h) (hq : Q none h locs) (h1 : cells ≤ R.cells) (h2 : slots ≤ R.slots) : Ends p e below (EndN s R Q) (T.setTop (mkF m pc Ls [])) := by
  obtain ⟨fs, hr, hrun, hended, hW, hsame⟩ := X.leave (v := none) (fun _ => rfl) hlk
  refine ⟨_, _, X.returnOut hx hret hd hr, hrun, hended, _, _, rfl, ?_, ⟨_, rfl⟩, hW, hsame.mono h1 h2⟩
  show Q none T.heap locs
  rw [eT]; exact hq
theorem Ends.retW {Z : State} {a0 : Array Value} {EL : List (String × Nat)} {vm0 : Vm} {k0 : Nat} {h0 : Heap} (X : Stand p l e R (s.setVm vm0) m args below meth c T locs cells slots) (hx : p.tables.exec = Jvm.exec) (hlk : meth.locks = false) {pc : Nat} {Ls : Array Slot} {w : Value} {t : FieldType} {i : Instr} {rest : List Value} (hret : meth.sig.returnType = some t) (hn : narrow t w = w)
    (hi : (i = .ireturn ∧ (t = .int ∨ t = .boolean ∨ t = .byte ∨ t = .char ∨ t = .short) ∧ ∃ z, w = .int z) ∨ (i = .lreturn ∧ t = .long ∧ ∃ z, w = .long z) ∨ (i = .dreturn ∧ t = .double ∧ ∃ z, w = .double z) ∨ (i = .freturn ∧ t = .float ∧ ∃ z, w = .float z) ∨ (i = .areturn ∧ t.isReference = true ∧ w.isRef = true))
    (hd : decode c.code pc = .ok (i, 1)) (eT : T.heap = h) (hZ : Z.Warmed39 vm0) (hEL : EW Z a0 EL) (hS : s.Since vm0 k0) (hk : k0 ≤ h.size) (hh : s.heap = h0) (CR : CHr Z EL s.vm h0 vm0 h) (hq : Q (some w) h locs) (h1 : cells ≤ R.cells) (h2 : slots ≤ R.slots) : Ends p e below (EndW s R Z EL Q) (T.setTop (mkF m pc Ls (w :: rest))) := by
  subst eT hh
  obtain ⟨fs, hr, hrun, hended, r1, r2, r3, r4⟩ := X.leaveW hS hk (v := some w) (fun q => by rw [hret] at q; cases q) hlk
  have q := CR.trans (CHv.at X hZ hEL CR.1)
  exact ⟨_, _, retOut X hx hret hn hi hd hr, hrun, hended, _, _, rfl, hq, q, r1, r2, r3, r4.mono h1 h2⟩
theorem Ends.ret0W {Z : State} {a0 : Array Value} {EL : List (String × Nat)} {vm0 : Vm} {k0 : Nat} {h0 : Heap} (X : Stand p l e R (s.setVm vm0) m args below meth c T locs cells slots) (hx : p.tables.exec = Jvm.exec) (hlk : meth.locks = false) {pc : Nat} {Ls : Array Slot} (hret : meth.sig.returnType = none)
    (hd : decode c.code pc = .ok (.return_, 1)) (eT : T.heap = h) (hZ : Z.Warmed39 vm0) (hEL : EW Z a0 EL) (hS : s.Since vm0 k0) (hk : k0 ≤ h.size) (hh : s.heap = h0) (CR : CHr Z EL s.vm h0 vm0 h) (hq : Q none h locs) (h1 : cells ≤ R.cells) (h2 : slots ≤ R.slots) : Ends p e below (EndW s R Z EL Q) (T.setTop (mkF m pc Ls [])) := by
  subst eT hh
  obtain ⟨fs, hr, hrun, hended, r1, r2, r3, r4⟩ := X.leaveW hS hk (v := none) (fun _ => rfl) hlk
  have q := CR.trans (CHv.at X hZ hEL CR.1)
  exact ⟨_, _, X.returnOut hx hret hd hr, hrun, hended, _, _, rfl, hq, q, r1, r2, r3, r4.mono h1 h2⟩
/-- T' stands as T does -/
def SS (X : Stand p l e R s m args below meth c T locs cells slots) (T' : State) : Prop := Stand p l e R s m args below meth c T' locs cells slots
theorem Stand_mono {cells' slots' : Nat} (X : Stand p l e R s m args below meth c T locs cells slots) (h1 : cells ≤ cells') (h2 : slots ≤ slots') : Stand p l e R s m args below meth c T locs cells' slots' := { X with same := X.same.mono h1 h2 }
theorem lremM {g : JFrame} {target : State} (X : Stand p l e R s m args below meth c T locs cells slots) (hx : p.tables.exec = Jvm.exec) (hg : g.method = m) {x y : Int64} {rest : List Value} (hd : decode c.code g.pc = .ok (.lrem, 1)) (hs : g.stack = .long y :: .long x :: rest) (hy : y ≠ 0)
    (hr : Steps p.tables e below (T.setTop { g with pc := g.pc + 1, stack := .long (x % y) :: rest }) target) : Steps p.tables e below (T.setTop g) target :=
  XS.lrem X.here hx hg hd hs hy (by rw [lrem_mod]; exact hr)
theorem nf_via {y y' : MethodName} {m' : MethodId} (hn : s.methodNamed? y' = some m') (hc : y'.cls = y.cls) (nf : NotFace s y') : NotFace s y := fun r0 h0 => by
  obtain ⟨kr, h1, h2⟩ := nf _ hn
  have e1 := findClass_of_methodNamed hn
  have e2 := findClass_of_methodNamed h0
  rw [hc] at e1
  have e3 : m'.cls = r0.cls := Option.some.inj (e1.symm.trans e2)
  exact ⟨kr, e3 ▸ h1, h2⟩
theorem Sta_keep0 {Z : State} {h h' : Heap} {C n d : String} {v : Value} (F : Sta Z h C n d v) (K : Keep h h' []) : Sta Z h' C n d v := by
  obtain ⟨cf, i, k, f, st, cell, h1, h2, h3, h4, h5, r⟩ := F
  exact ⟨cf, i, k, f, st, cell, h1, h2, h3, h4, K.2.1 _ _ h5 nin0, r⟩
theorem Sta_keepW {Z : State} {h h' : Heap} {ws : List Addr} {C n d : String} {v : Value} (F : Sta Z h C n d v) (K : Keep h h' ws) (q : ∀ x ∈ ws, ∀ cell : Cell, h[x]? = some cell → cell.vm.isStatics = false) : Sta Z h' C n d v := by
  obtain ⟨cf, i, k, f, st, cell, h1, h2, h3, h4, h5, h6, r⟩ := F
  exact ⟨cf, i, k, f, st, cell, h1, h2, h3, h4, K.2.1 _ _ h5 (fun z => by have := q _ z _ h5; rw [h6] at this; cases this), h6, r⟩
theorem Ins_keep {Z : State} {h h' : Heap} {ws : List Addr} {a : Addr} {C : String} {b : Bool} (F : Ins Z h a C b) (K : Keep h h' ws) : Ins Z h' a C b := by
  obtain ⟨cell, cT, h1, h2, h3⟩ := F
  obtain ⟨c', q1, q2, q3, -⟩ := K.2.2 _ _ h1
  exact ⟨c', cT, q1, h2, by rw [q2, q3]; exact h3⟩
theorem Arr_keep0 {Z : State} {h h' : Heap} {a : Addr} {c : Cell} {ty : FieldType} (F : Arr Z h a c ty) (K : Keep h h' []) : Arr Z h' a c ty := ⟨K.2.1 _ _ F.1 nin0, F.2⟩
theorem NS_root' {Z : State} {a0 : Array Value} {O K : String} {n : Nat} (w : (Cond.noSuperclass O).before a0 Z = true) (wk : (Cond.instantiable K n).before a0 Z = true) (hn : O ≠ K) : NS Z O K := by
  obtain ⟨c, k, h1, h2, h3, -, -⟩ := Cond.noSuperclass_spec w
  obtain ⟨t, kt, g1, -⟩ := Cond.instantiable_spec wk
  have ne := ids_ne h1 g1 hn
  refine ⟨c, t, h1, g1, fun fuel => ?_⟩
  cases fuel with
  | zero => rfl
  | succ f => simp [Vm.isSubclassAux, ne, h2, h3]
theorem NS_no' {Z : State} {a0 : Array Value} {C S K : String} {n : Nat} (w : (Cond.superclass C S).before a0 Z = true) (wk : (Cond.instantiable K n).before a0 Z = true) (q : NS Z C K) (hn : C ≠ K) : ∃ c t, Z.vm.findClass C = some c ∧ Z.vm.findClass K = some t ∧ Z.vm.assignable c t = false := by
  obtain ⟨c, t, h0, g0, n3⟩ := q
  obtain ⟨p, k, kp, h1, h2, h3, h4, h5, -, h7⟩ := Cond.superclass_spec h0 w
  obtain ⟨t', k', g1, g2, g5, g7, -⟩ := Cond.instantiable_spec wk
  cases g0.symm.trans g1
  have ne := ids_ne h0 g0 hn
  have g8 : k'.isInterface = false := by
    cases hq : k'.isInterface with
    | false => rfl
    | true => simp [hq] at g7
  refine ⟨c, t, h0, g0, ?_⟩
  show Z.vm.assignableAux (255 + 1) c t = false
  simp [Vm.assignableAux, ne, h2, g2, h5, g5, g8, Vm.isSubclass, n3]
theorem Safe_null {Z : State} {EL : List (String × Nat)} {vm : Vm} {h : Heap} {x : Addr} (hal : Z.vm.Alike vm) (E : Exa Z h x "java/lang/String") (F : Fld Z h x "java/lang/String" "value" "[B" .null) : Safe Z EL vm h x := fun B => by
  obtain ⟨p, -, u, a, -, q, -, G, rfl | rfl⟩ := B
  · have ha : h[q.sa]? = some q.sC := G.ha
    obtain ⟨cS, ⟨⟨-, -, -, ⟨c1, k1, i1, f1, -⟩, -, -, -, v1, -⟩, -⟩, -⟩ := G
    obtain ⟨cell, cf, k, i, f, g1, g2, -, -, -, -, g7⟩ := F
    cases ha.symm.trans g1
    obtain ⟨k3, e3, -⟩ := State.fieldFound?_setVm (s := Z) hal g2
    have e4 := (show (Wst Z vm h).fieldFound? _ _ _ = _ from e3).symm.trans f1
    simp only [Option.some.injEq, Prod.mk.injEq] at e4
    rw [← e4.2.2.2, g7] at v1
    cases v1
  · have hd : h[q.sd]? = some q.SA := G.hd
    obtain ⟨cS, -, -, f, -⟩ := G
    obtain ⟨cell, k, e1, e2, -⟩ := E
    cases hd.symm.trans e1
    exact ids_ne e2 ((hal.findClass _ _).symm.trans f) (by decide) rfl
theorem sel_priv {args : Array Value} {n : Nat} {y : MethodName} (hy : y.cls ≠ "java/lang/invoke/MethodHandle" ∧ y.cls ≠ "java/lang/invoke/VarHandle") (hins : (Cond.instantiable y.cls n).before args s = true) (hpriv : (Cond.privateMethod y).before args s = true) (hinst : (Cond.instanceMethod y).before args s = true) : (Cond.selects y.cls y y).before args s = true := by
  obtain ⟨c, k, hc, hk, -, hniab, -, -⟩ := Cond.instantiable_spec hins
  have hni : k.isInterface = false := (Bool.or_eq_false_iff.mp hniab).1
  obtain ⟨mk, methM, hnamed, hmethM, -, -⟩ := Cond.instanceMethod_spec hinst
  have hfound : s.methodFound? y.cls y.name y.desc = some mk := State.methodFound?_of_named hnamed hy
  have hcls : mk.cls = c := Option.some.inj ((findClass_of_methodNamed hnamed).symm.trans hc)
  have hsel : selectMethod {} s.vm c mk = .method mk := selectMethod_private hmethM (Cond.privateMethod_at hpriv mk methM hnamed hmethM)
  simp only [Cond.before, Cond.holds, Cond.value, hc, hfound, hnamed, hsel, hcls, hk]
  simp; exact hni
theorem arv_ty {Z : State} {h : Heap} {a b : Addr} {k1 k2 : ClassId} {t1 t2 : FieldType} {z1 z2 : Int32} {v1 v2 : List Value} {d1 d2 : Value} (A : Arv Z h a k1 t1 z1 v1 d1) (B : Arv Z h b k2 t2 z2 v2 d2) (q : t1 ≠ t2) : a ≠ b := fun e => by
  subst e
  obtain ⟨c1, A1, -⟩ := A
  obtain ⟨c2, B1, -⟩ := B
  cases A1.1.symm.trans B1.1
  obtain ⟨-, k, h1, comp, h2⟩ := A1.2.1
  obtain ⟨-, k', h1', comp', h2'⟩ := B1.2.1
  cases h1.symm.trans h1'
  rw [h2] at h2'
  cases h2'
  exact q rfl
theorem eqI_v {first : State} {o : Option Outcome} {idx : List Nat} {a : Term} {k : Int32} (q : (Cond.eq a (.int k)).value args first o s idx = some true) : a.eval args first o idx s = some (.int k) := by
  cases ha : a.eval args first o idx s with
  | none => simp [Cond.value, ha] at q
  | some x => cases x <;> simp [Cond.value, ha, Term.eval] at q ⊢; exact q
theorem eqL_v {first : State} {o : Option Outcome} {idx : List Nat} {a : Term} {k : Int64} (q : (Cond.eq a (.long k)).value args first o s idx = some true) : a.eval args first o idx s = some (.long k) := by
  cases ha : a.eval args first o idx s with
  | none => simp [Cond.value, ha] at q
  | some x => cases x <;> simp [Cond.value, ha, Term.eval] at q ⊢; exact q
end Own
end Jvm.RoadKit
namespace Jvm.Pilot.@@N@@
open Jvm Jvm.ClassFile Sem Op Lib Jvm.Free Jvm.Stand Jvm.LawKit Jvm.RoadKit Bundle Jvm.Pilot.@@N@@.Jvm.D

theorem d1_0 : decode prog_10_method_5_code 0 = .ok (.aload_n 0, 1) := by decide +kernel
theorem d1_1 : decode prog_10_method_5_code 1 = .ok (.getstatic 3, 3) := by decide +kernel
theorem d1_4 : decode prog_10_method_5_code 4 = .ok (.if_acmp .eq 7, 3) := by decide +kernel
theorem d1_11 : decode prog_10_method_5_code 11 = .ok (.iconst 0, 1) := by decide +kernel
theorem d1_12 : decode prog_10_method_5_code 12 = .ok (.ireturn, 1) := by decide +kernel
theorem d1_7 : decode prog_10_method_5_code 7 = .ok (.iconst 1, 1) := by decide +kernel
theorem d1_8 : decode prog_10_method_5_code 8 = .ok (.goto 4, 3) := by decide +kernel
theorem pn_0 : plainName "com/example/mail_admission/mailadmission/table/TlsMode" = true := by first | (simp [plainName, overriddenIn]; done) | decide +kernel
theorem ef_rm1 (m : MethodId) (x0 : Addr) : entryFrame m #[(.ref x0)] 1 = mkF m 0 #[.val (.ref x0)] [] := by first | (simp [entryFrame, mkF, argsToLocals, Value.category]; done) | rfl
def Q_rm1 (Z : State) (a : Addr) (wo : Addr) (h0 : Heap) (n0 : Nat) (v : Option Value) (h : Heap) (L : List Loc) : Prop := v = some (.int (if a = wo then (0 : Int32) else 1)) ∧ Fr n0 L ∧ h = h0
set_option maxRecDepth 65536 in
set_option maxHeartbeats 40000000 in
theorem rm1 (l : Launch) (Z : State) (a0 : Array Value) (hw : ∀ d ∈ tables_1, d.before a0 Z = true) (ws : List Jvm.Cond) (a : Addr) (wo : Addr) (h0 : Heap) (n0 : Nat) (Z0 : n0 ≤ h0.size) (SO : Sta Z h0 "com/example/mail_admission/mailadmission/table/TlsMode" "OFF" "Lcom/example/mail_admission/mailadmission/table/TlsMode;" (.ref wo)) :
    MetFree l (⟨"com/example/mail_admission/mailadmission/table/TlsMode", "offered", "()Z"⟩ : MethodName) (head1 (Jvm.Cond.code (⟨"com/example/mail_admission/mailadmission/table/TlsMode", "offered", "()Z"⟩ : MethodName) prog_10_method_5_code 1 (some .boolean) :: ws) ({ frames := 0, cells := 0, slots := 0, locals := 0 } : Room)) (fun aa_ U => aa_ = #[(.ref a)] ∧ Z.Warmed39 U.vm ∧ U.heap = h0) (fun _ _ _ _ _ => True) (fun _ U o U' => ∃ v L, o = .returned v ∧ Q_rm1 Z a wo h0 n0 v U'.heap L ∧ FrameEnd U o U' L ({ frames := 0, cells := 0, slots := 0, locals := 0 } : Room).cells ({ frames := 0, cells := 0, slots := 0, locals := 0 } : Room).slots) := by
  refine MetFree.of_bodySF (plainFor_of_name pn_0) hisR ?_
  intro p e s m args below meth c s₁ Bd hml0 hP hK
  obtain ⟨rfl, hZ, hh⟩ := hP
  have hx := Bd.exec
  have hby := Bd.bytes
  have hml : c.maxLocals = 1 := hml0
  have hown : s.vm.findClass "com/example/mail_admission/mailadmission/table/TlsMode" = some m.cls := findClass_of_methodNamed Bd.named
  have hnm := (name_of_methodNamed Bd.named Bd.method).1
  have X0 : Stand p l e ({ frames := 0, cells := 0, slots := 0, locals := 0 } : Room) s m #[(.ref a)] below meth c s₁ [] 0 0 := Stand.of_body Bd
  have e0 : s₁.heap = h0 := by rw [← hh, Bd.state]; rfl
  have N0 := Fr.nil n0
  refine Ends.cast (P := EndN s ({ frames := 0, cells := 0, slots := 0, locals := 0 } : Room) (Q_rm1 Z a wo h0 n0)) (ef_rm1 m a) ?_
  refine Ends.pre (T' := s₁.setTop (mkF m 1 #[.val (.ref a)] [(.ref a)])) (fun t k => XS.aloadN X0.here hx rfl (hb hby d1_0) rfl rfl k) ?_
  obtain ⟨T1, X1, e1, st1⟩ := getS2 X0 hx hZ hown (host := "") (Or.inl (hw _ (List.mem_of_getElem? (i := 9) rfl))) Via.refl e0 SO (g := (mkF m 1 #[.val (.ref a)] [(.ref a)])) rfl (hb hby d1_1)
  refine Ends.pre (T' := T1.setTop (mkF m 4 #[.val (.ref a)] [(.ref wo), (.ref a)])) (fun t k => st1 _ k) ?_
  by_cases hc4_2 : a = wo
  · refine Ends.pre (T' := T1.setTop (mkF m 11 #[.val (.ref a)] [])) (fun t k => Jvm.RoadKit.acmp (g := (mkF m 4 #[.val (.ref a)] [(.ref wo), (.ref a)])) X1 hx rfl rfl rfl (pc0 := 4) (pc' := 11) (same := true) rfl (hb hby d1_4) rfl (decide_eq_true (congrArg Value.ref hc4_2)) (by decide) (by decide) k) ?_
    refine Ends.pre (T' := T1.setTop (mkF m 12 #[.val (.ref a)] [(.int (0 : Int32))])) (fun t k => XS.iconst X1.here hx rfl (hb hby d1_11) k) ?_
    exact Ends.ret (w := (.int (0 : Int32))) X1 hx Bd.notSynchronized Bd.returns rfl (Or.inl ⟨rfl, Or.inr (Or.inl rfl), _, rfl⟩) (hb hby d1_12) e1 ⟨by rw [if_pos hc4_2], N0, rfl⟩ (by decide) (by decide)
  · refine Ends.pre (T' := T1.setTop (mkF m 7 #[.val (.ref a)] [])) (fun t k => Jvm.RoadKit.acmp (g := (mkF m 4 #[.val (.ref a)] [(.ref wo), (.ref a)])) X1 hx rfl rfl rfl (pc0 := 4) (pc' := 7) (same := false) rfl (hb hby d1_4) rfl (decide_eq_false (fun q => hc4_2 (Value.ref.inj q))) (by decide) (by decide) k) ?_
    refine Ends.pre (T' := T1.setTop (mkF m 8 #[.val (.ref a)] [(.int (1 : Int32))])) (fun t k => XS.iconst X1.here hx rfl (hb hby d1_7) k) ?_
    refine Ends.pre (T' := T1.setTop (mkF m 12 #[.val (.ref a)] [(.int (1 : Int32))])) (fun t k => XS.goto X1.here hx rfl (pc0 := 8) (pc' := 12) rfl (hb hby d1_8) (by decide) (by decide) k) ?_
    exact Ends.ret (w := (.int (1 : Int32))) X1 hx Bd.notSynchronized Bd.returns rfl (Or.inl ⟨rfl, Or.inr (Or.inl rfl), _, rfl⟩) (hb hby d1_12) e1 ⟨by rw [if_neg hc4_2], N0, rfl⟩ (by decide) (by decide)
theorem pd_0 : parseMethodDescriptor "()Z" = some ⟨[], some .boolean⟩ := by decide +kernel
theorem pn_1 : plainName "com/example/mail_admission/mailadmission/table/TlsModeOfferedPinLaw" = true := by first | (simp [plainName, overriddenIn]; done) | decide +kernel
theorem ef_rm0 (m : MethodId) (x0 : Int32) : entryFrame m #[(.int x0)] maxLocals = mkF m 0 #[.val (.int x0), .unset, .unset, .unset] [] := by first | (simp [entryFrame, mkF, argsToLocals, Value.category, maxLocals]; done) | rfl
def Q_rm0 (Z : State) (x0 : Int32) (wOFF : Addr) (wPREFERRED : Addr) (wREQUIRED : Addr) (h0 : Heap) (n0 : Nat) (v : Option Value) (h : Heap) (L : List Loc) : Prop := v = some (.int 1) ∧ Fr n0 L
set_option maxRecDepth 65536 in
set_option maxHeartbeats 40000000 in
theorem rm0 (l : Launch) (Z : State) (a0 : Array Value) (hw : ∀ d ∈ tables_1, d.before a0 Z = true) (ws : List Jvm.Cond) (x0 : Int32) (wOFF : Addr) (wPREFERRED : Addr) (wREQUIRED : Addr) (h0 : Heap) (n0 : Nat) (Z0 : n0 ≤ h0.size) (S_OFF : Sta Z h0 "com/example/mail_admission/mailadmission/table/TlsMode" "OFF" "Lcom/example/mail_admission/mailadmission/table/TlsMode;" (.ref wOFF)) (S_PREFERRED : Sta Z h0 "com/example/mail_admission/mailadmission/table/TlsMode" "PREFERRED" "Lcom/example/mail_admission/mailadmission/table/TlsMode;" (.ref wPREFERRED)) (S_REQUIRED : Sta Z h0 "com/example/mail_admission/mailadmission/table/TlsMode" "REQUIRED" "Lcom/example/mail_admission/mailadmission/table/TlsMode;" (.ref wREQUIRED)) (E_OFF : Exa Z h0 wOFF "com/example/mail_admission/mailadmission/table/TlsMode") (E_PREFERRED : Exa Z h0 wPREFERRED "com/example/mail_admission/mailadmission/table/TlsMode") (E_REQUIRED : Exa Z h0 wREQUIRED "com/example/mail_admission/mailadmission/table/TlsMode") (ne_PREFERRED : ¬ wPREFERRED = wOFF) (ne_REQUIRED : ¬ wREQUIRED = wOFF) :
    MetFree l x (head1 (Jvm.Cond.code x code maxLocals ret :: ws) room_1) (fun aa_ U => aa_ = #[(.int x0)] ∧ Z.Warmed39 U.vm ∧ U.heap = h0) (fun _ _ _ _ _ => True) (fun _ U o U' => ∃ v L, o = .returned v ∧ Q_rm0 Z x0 wOFF wPREFERRED wREQUIRED h0 n0 v U'.heap L ∧ FrameEnd U o U' L room_1.cells room_1.slots) := by
  refine MetFree.of_bodySF (plainFor_of_name pn_1) hisR ?_
  intro p e s m args below meth c s₁ Bd hml0 hP hK
  obtain ⟨rfl, hZ, hh⟩ := hP
  have hx := Bd.exec
  have hby := Bd.bytes
  have hml : c.maxLocals = 4 := hml0
  have hown : s.vm.findClass "com/example/mail_admission/mailadmission/table/TlsModeOfferedPinLaw" = some m.cls := findClass_of_methodNamed Bd.named
  have hnm := (name_of_methodNamed Bd.named Bd.method).1
  have X0 : Stand p l e room_1 s m #[(.int x0)] below meth c s₁ [] 0 0 := Stand.of_body Bd
  have e0 : s₁.heap = h0 := by rw [← hh, Bd.state]; rfl
  have N0 := Fr.nil n0
  refine Ends.cast (P := EndN s room_1 (Q_rm0 Z x0 wOFF wPREFERRED wREQUIRED h0 n0)) (ef_rm0 m x0) ?_
  refine Ends.pre (T' := s₁.setTop (mkF m 1 #[.val (.int x0), .unset, .unset, .unset] [(.int x0)])) (fun t k => XS.iloadN X0.here hx rfl (hb hby at_0) rfl k) ?_
  refine Ends.pre (T' := s₁.setTop (mkF m 3 #[.val (.int x0), .unset, .unset, .unset] [(.int (2147483647 : Int32)), (.int x0)])) (fun t k => X0.ldcInt (index := 7) (v := (2147483647 : Int32)) hx hown (mvT hZ (hw _ (List.mem_of_getElem? (i := 0) rfl))) (g := (mkF m 1 #[.val (.int x0), .unset, .unset, .unset] [(.int x0)])) rfl (hb hby at_1) t k) ?_
  refine Ends.pre (T' := s₁.setTop (mkF m 4 #[.val (.int x0), .unset, .unset, .unset] [(.int (x0 &&& (2147483647 : Int32)))])) (fun t k => XS.iand X0.here hx rfl (hb hby at_3) rfl k) ?_
  refine Ends.pre (T' := s₁.setTop (mkF m 5 #[.val (.int x0), .unset, .unset, .unset] [(.int (3 : Int32)), (.int (x0 &&& (2147483647 : Int32)))])) (fun t k => XS.iconst X0.here hx rfl (hb hby at_4) k) ?_
  refine Ends.pre (T' := s₁.setTop (mkF m 6 #[.val (.int x0), .unset, .unset, .unset] [(.int ((x0 &&& (2147483647 : Int32)) % (3 : Int32)))])) (fun t k => iremM X0 hx rfl (hb hby at_5) rfl (by decide) k) ?_
  refine Ends.pre (T' := s₁.setTop (mkF m 7 #[.val (.int x0), .val (.int ((x0 &&& (2147483647 : Int32)) % (3 : Int32))), .unset, .unset] [])) (fun t k => XS.istoreN X0.here hx rfl (hb hby at_6) rfl (l' := #[.val (.int x0), .val (.int ((x0 &&& (2147483647 : Int32)) % (3 : Int32))), .unset, .unset]) rfl k) ?_
  refine Ends.pre (T' := s₁.setTop (mkF m 8 #[.val (.int x0), .val (.int ((x0 &&& (2147483647 : Int32)) % (3 : Int32))), .unset, .unset] [(.int ((x0 &&& (2147483647 : Int32)) % (3 : Int32)))])) (fun t k => XS.iloadN X0.here hx rfl (hb hby at_7) rfl k) ?_
  by_cases hc8_1 : ((x0 &&& (2147483647 : Int32)) % (3 : Int32)) = 0
  · refine Ends.pre (T' := s₁.setTop (mkF m 11 #[.val (.int x0), .val (.int ((x0 &&& (2147483647 : Int32)) % (3 : Int32))), .unset, .unset] [])) (fun t k => XS.ifNo X0.here hx rfl (hb hby at_8) rfl (Jvm.Free.XT.i0_ne_f hc8_1) k) ?_
    obtain ⟨T2, X2, e2, st2⟩ := getS2 X0 hx hZ hown (host := "") (Or.inl (hw _ (List.mem_of_getElem? (i := 1) rfl))) Via.refl e0 S_OFF (g := (mkF m 11 #[.val (.int x0), .val (.int ((x0 &&& (2147483647 : Int32)) % (3 : Int32))), .unset, .unset] [])) rfl (hb hby at_11)
    refine Ends.pre (T' := T2.setTop (mkF m 14 #[.val (.int x0), .val (.int ((x0 &&& (2147483647 : Int32)) % (3 : Int32))), .unset, .unset] [(.ref wOFF)])) (fun t k => st2 _ k) ?_
    refine Ends.pre (T' := T2.setTop (mkF m 15 #[.val (.int x0), .val (.int ((x0 &&& (2147483647 : Int32)) % (3 : Int32))), .val (.ref wOFF), .unset] [])) (fun t k => XS.astoreN X2.here hx rfl (hb hby at_14) rfl rfl (l' := #[.val (.int x0), .val (.int ((x0 &&& (2147483647 : Int32)) % (3 : Int32))), .val (.ref wOFF), .unset]) rfl k) ?_
    refine Ends.pre (T' := T2.setTop (mkF m 16 #[.val (.int x0), .val (.int ((x0 &&& (2147483647 : Int32)) % (3 : Int32))), .val (.ref wOFF), .unset] [(.int (0 : Int32))])) (fun t k => XS.iconst X2.here hx rfl (hb hby at_15) k) ?_
    refine Ends.pre (T' := T2.setTop (mkF m 17 #[.val (.int x0), .val (.int ((x0 &&& (2147483647 : Int32)) % (3 : Int32))), .val (.ref wOFF), .val (.int (0 : Int32))] [])) (fun t k => XS.istoreN X2.here hx rfl (hb hby at_16) rfl (l' := #[.val (.int x0), .val (.int ((x0 &&& (2147483647 : Int32)) % (3 : Int32))), .val (.ref wOFF), .val (.int (0 : Int32))]) rfl k) ?_
    refine Ends.pre (T' := T2.setTop (mkF m 40 #[.val (.int x0), .val (.int ((x0 &&& (2147483647 : Int32)) % (3 : Int32))), .val (.ref wOFF), .val (.int (0 : Int32))] [])) (fun t k => XS.goto X2.here hx rfl (pc0 := 17) (pc' := 40) rfl (hb hby at_17) (by decide) (by decide) k) ?_
    refine Ends.pre (T' := T2.setTop (mkF m 41 #[.val (.int x0), .val (.int ((x0 &&& (2147483647 : Int32)) % (3 : Int32))), .val (.ref wOFF), .val (.int (0 : Int32))] [(.ref wOFF)])) (fun t k => XS.aloadN X2.here hx rfl (hb hby at_40) rfl rfl k) ?_
    obtain ⟨cq3, kq3, q3a, q3b, q3c⟩ := isOf hZ e2 E_OFF
    obtain ⟨_, _, ⟨T3, L3, k3, n3⟩, -, X3, ⟨Lc3, hQ3, l3, y3, z3⟩, st3⟩ := X2.virtualBack hx (y := (⟨"com/example/mail_admission/mailadmission/table/TlsMode", "offered", "()Z"⟩ : MethodName)) (z := (⟨"com/example/mail_admission/mailadmission/table/TlsMode", "offered", "()Z"⟩ : MethodName)) hown (mvT hZ (hw _ (List.mem_of_getElem? (i := 4) rfl))) (mvT hZ (hw _ (List.mem_of_getElem? (i := 5) rfl))) (notFace_of_selects (args := #[]) (mvT hZ (hw _ (List.mem_of_getElem? (i := 7) rfl)))) (mvT hZ (hw _ (List.mem_of_getElem? (i := 7) rfl))) (mvT hZ (hw _ (List.mem_of_getElem? (i := 6) rfl))) (by decide) (backOf (W := 0) (rm1 l Z a0 hw [] wOFF wOFF h0 n0 Z0 S_OFF) hZ (hw _ (List.mem_of_getElem? (i := 8) rfl)) (hw _ (List.mem_of_getElem? (i := 2) rfl)) (by decide) (by decide)) q3a q3c (g := (mkF m 41 #[.val (.int x0), .val (.int ((x0 &&& (2147483647 : Int32)) % (3 : Int32))), .val (.ref wOFF), .val (.int (0 : Int32))] [(.ref wOFF)])) rfl (by rw [hml]; rfl) (Steps.refl _) (argsL := []) (rest := []) (lenOf pd_0 rfl) rfl (by show 2 * 0 + _ ≤ _; exact Nat.le_of_eq rfl) (hb hby at_41) (fun _ _ => ⟨rfl, e2, (by decide : 0 + 0 ≤ _), (by decide : 0 + 0 ≤ _)⟩)
    dsimp only [Pt.U, Pt.locs, Pt.cells, Pt.slots] at X3 l3 y3 z3 st3 hQ3
    subst l3 y3 z3
    obtain ⟨rfl, N3q, eh3⟩ := hQ3
    have N3 := Fr.app N0 N3q
    rw [if_pos rfl] at st3
    refine Ends.pre (T' := T3.setTop (mkF m 44 #[.val (.int x0), .val (.int ((x0 &&& (2147483647 : Int32)) % (3 : Int32))), .val (.ref wOFF), .val (.int (0 : Int32))] [(.int (0 : Int32))])) (fun t k => st3.trans k) ?_
    refine Ends.pre (T' := T3.setTop (mkF m 45 #[.val (.int x0), .val (.int ((x0 &&& (2147483647 : Int32)) % (3 : Int32))), .val (.ref wOFF), .val (.int (0 : Int32))] [(.int (0 : Int32)), (.int (0 : Int32))])) (fun t k => XS.iloadN X3.here hx rfl (hb hby at_44) rfl k) ?_
    refine Ends.pre (T' := T3.setTop (mkF m 48 #[.val (.int x0), .val (.int ((x0 &&& (2147483647 : Int32)) % (3 : Int32))), .val (.ref wOFF), .val (.int (0 : Int32))] [])) (fun t k => XS.icmpNo X3.here hx rfl (hb hby at_45) rfl (by decide) k) ?_
    refine Ends.pre (T' := T3.setTop (mkF m 49 #[.val (.int x0), .val (.int ((x0 &&& (2147483647 : Int32)) % (3 : Int32))), .val (.ref wOFF), .val (.int (0 : Int32))] [(.int (1 : Int32))])) (fun t k => XS.iconst X3.here hx rfl (hb hby at_48) k) ?_
    refine Ends.pre (T' := T3.setTop (mkF m 53 #[.val (.int x0), .val (.int ((x0 &&& (2147483647 : Int32)) % (3 : Int32))), .val (.ref wOFF), .val (.int (0 : Int32))] [(.int (1 : Int32))])) (fun t k => XS.goto X3.here hx rfl (pc0 := 49) (pc' := 53) rfl (hb hby at_49) (by decide) (by decide) k) ?_
    exact Ends.ret (w := (.int (1 : Int32))) X3 hx Bd.notSynchronized Bd.returns rfl (Or.inl ⟨rfl, Or.inr (Or.inl rfl), _, rfl⟩) (hb hby at_53) eh3 ⟨rfl, N3⟩ (by decide) (by decide)
  · refine Ends.pre (T' := s₁.setTop (mkF m 20 #[.val (.int x0), .val (.int ((x0 &&& (2147483647 : Int32)) % (3 : Int32))), .unset, .unset] [])) (fun t k => XS.ifYes X0.here hx rfl (pc0 := 8) (pc' := 20) rfl (hb hby at_8) rfl (Jvm.Free.XT.i0_ne_t hc8_1) (by decide) (by decide) k) ?_
    refine Ends.pre (T' := s₁.setTop (mkF m 21 #[.val (.int x0), .val (.int ((x0 &&& (2147483647 : Int32)) % (3 : Int32))), .unset, .unset] [(.int ((x0 &&& (2147483647 : Int32)) % (3 : Int32)))])) (fun t k => XS.iloadN X0.here hx rfl (hb hby at_20) rfl k) ?_
    refine Ends.pre (T' := s₁.setTop (mkF m 22 #[.val (.int x0), .val (.int ((x0 &&& (2147483647 : Int32)) % (3 : Int32))), .unset, .unset] [(.int (1 : Int32)), (.int ((x0 &&& (2147483647 : Int32)) % (3 : Int32)))])) (fun t k => XS.iconst X0.here hx rfl (hb hby at_21) k) ?_
    by_cases hc22_4 : ((x0 &&& (2147483647 : Int32)) % (3 : Int32)) = (1 : Int32)
    · refine Ends.pre (T' := s₁.setTop (mkF m 25 #[.val (.int x0), .val (.int ((x0 &&& (2147483647 : Int32)) % (3 : Int32))), .unset, .unset] [])) (fun t k => XS.icmpNo X0.here hx rfl (hb hby at_22) rfl (Jvm.Free.XT.ii_ne_f hc22_4) k) ?_
      obtain ⟨T5, X5, e5, st5⟩ := getS2 X0 hx hZ hown (host := "") (Or.inl (hw _ (List.mem_of_getElem? (i := 12) rfl))) Via.refl e0 S_PREFERRED (g := (mkF m 25 #[.val (.int x0), .val (.int ((x0 &&& (2147483647 : Int32)) % (3 : Int32))), .unset, .unset] [])) rfl (hb hby at_25)
      refine Ends.pre (T' := T5.setTop (mkF m 28 #[.val (.int x0), .val (.int ((x0 &&& (2147483647 : Int32)) % (3 : Int32))), .unset, .unset] [(.ref wPREFERRED)])) (fun t k => st5 _ k) ?_
      refine Ends.pre (T' := T5.setTop (mkF m 29 #[.val (.int x0), .val (.int ((x0 &&& (2147483647 : Int32)) % (3 : Int32))), .val (.ref wPREFERRED), .unset] [])) (fun t k => XS.astoreN X5.here hx rfl (hb hby at_28) rfl rfl (l' := #[.val (.int x0), .val (.int ((x0 &&& (2147483647 : Int32)) % (3 : Int32))), .val (.ref wPREFERRED), .unset]) rfl k) ?_
      refine Ends.pre (T' := T5.setTop (mkF m 30 #[.val (.int x0), .val (.int ((x0 &&& (2147483647 : Int32)) % (3 : Int32))), .val (.ref wPREFERRED), .unset] [(.int (1 : Int32))])) (fun t k => XS.iconst X5.here hx rfl (hb hby at_29) k) ?_
      refine Ends.pre (T' := T5.setTop (mkF m 31 #[.val (.int x0), .val (.int ((x0 &&& (2147483647 : Int32)) % (3 : Int32))), .val (.ref wPREFERRED), .val (.int (1 : Int32))] [])) (fun t k => XS.istoreN X5.here hx rfl (hb hby at_30) rfl (l' := #[.val (.int x0), .val (.int ((x0 &&& (2147483647 : Int32)) % (3 : Int32))), .val (.ref wPREFERRED), .val (.int (1 : Int32))]) rfl k) ?_
      refine Ends.pre (T' := T5.setTop (mkF m 40 #[.val (.int x0), .val (.int ((x0 &&& (2147483647 : Int32)) % (3 : Int32))), .val (.ref wPREFERRED), .val (.int (1 : Int32))] [])) (fun t k => XS.goto X5.here hx rfl (pc0 := 31) (pc' := 40) rfl (hb hby at_31) (by decide) (by decide) k) ?_
      refine Ends.pre (T' := T5.setTop (mkF m 41 #[.val (.int x0), .val (.int ((x0 &&& (2147483647 : Int32)) % (3 : Int32))), .val (.ref wPREFERRED), .val (.int (1 : Int32))] [(.ref wPREFERRED)])) (fun t k => XS.aloadN X5.here hx rfl (hb hby at_40) rfl rfl k) ?_
      obtain ⟨cq6, kq6, q6a, q6b, q6c⟩ := isOf hZ e5 E_PREFERRED
      obtain ⟨_, _, ⟨T6, L6, k6, n6⟩, -, X6, ⟨Lc6, hQ6, l6, y6, z6⟩, st6⟩ := X5.virtualBack hx (y := (⟨"com/example/mail_admission/mailadmission/table/TlsMode", "offered", "()Z"⟩ : MethodName)) (z := (⟨"com/example/mail_admission/mailadmission/table/TlsMode", "offered", "()Z"⟩ : MethodName)) hown (mvT hZ (hw _ (List.mem_of_getElem? (i := 4) rfl))) (mvT hZ (hw _ (List.mem_of_getElem? (i := 5) rfl))) (notFace_of_selects (args := #[]) (mvT hZ (hw _ (List.mem_of_getElem? (i := 7) rfl)))) (mvT hZ (hw _ (List.mem_of_getElem? (i := 7) rfl))) (mvT hZ (hw _ (List.mem_of_getElem? (i := 6) rfl))) (by decide) (backOf (W := 0) (rm1 l Z a0 hw [] wPREFERRED wOFF h0 n0 Z0 S_OFF) hZ (hw _ (List.mem_of_getElem? (i := 8) rfl)) (hw _ (List.mem_of_getElem? (i := 2) rfl)) (by decide) (by decide)) q6a q6c (g := (mkF m 41 #[.val (.int x0), .val (.int ((x0 &&& (2147483647 : Int32)) % (3 : Int32))), .val (.ref wPREFERRED), .val (.int (1 : Int32))] [(.ref wPREFERRED)])) rfl (by rw [hml]; rfl) (Steps.refl _) (argsL := []) (rest := []) (lenOf pd_0 rfl) rfl (by show 2 * 0 + _ ≤ _; exact Nat.le_of_eq rfl) (hb hby at_41) (fun _ _ => ⟨rfl, e5, (by decide : 0 + 0 ≤ _), (by decide : 0 + 0 ≤ _)⟩)
      dsimp only [Pt.U, Pt.locs, Pt.cells, Pt.slots] at X6 l6 y6 z6 st6 hQ6
      subst l6 y6 z6
      obtain ⟨rfl, N6q, eh6⟩ := hQ6
      have N6 := Fr.app N0 N6q
      rw [if_neg ne_PREFERRED] at st6
      refine Ends.pre (T' := T6.setTop (mkF m 44 #[.val (.int x0), .val (.int ((x0 &&& (2147483647 : Int32)) % (3 : Int32))), .val (.ref wPREFERRED), .val (.int (1 : Int32))] [(.int (1 : Int32))])) (fun t k => st6.trans k) ?_
      refine Ends.pre (T' := T6.setTop (mkF m 45 #[.val (.int x0), .val (.int ((x0 &&& (2147483647 : Int32)) % (3 : Int32))), .val (.ref wPREFERRED), .val (.int (1 : Int32))] [(.int (1 : Int32)), (.int (1 : Int32))])) (fun t k => XS.iloadN X6.here hx rfl (hb hby at_44) rfl k) ?_
      refine Ends.pre (T' := T6.setTop (mkF m 48 #[.val (.int x0), .val (.int ((x0 &&& (2147483647 : Int32)) % (3 : Int32))), .val (.ref wPREFERRED), .val (.int (1 : Int32))] [])) (fun t k => XS.icmpNo X6.here hx rfl (hb hby at_45) rfl (by decide) k) ?_
      refine Ends.pre (T' := T6.setTop (mkF m 49 #[.val (.int x0), .val (.int ((x0 &&& (2147483647 : Int32)) % (3 : Int32))), .val (.ref wPREFERRED), .val (.int (1 : Int32))] [(.int (1 : Int32))])) (fun t k => XS.iconst X6.here hx rfl (hb hby at_48) k) ?_
      refine Ends.pre (T' := T6.setTop (mkF m 53 #[.val (.int x0), .val (.int ((x0 &&& (2147483647 : Int32)) % (3 : Int32))), .val (.ref wPREFERRED), .val (.int (1 : Int32))] [(.int (1 : Int32))])) (fun t k => XS.goto X6.here hx rfl (pc0 := 49) (pc' := 53) rfl (hb hby at_49) (by decide) (by decide) k) ?_
      exact Ends.ret (w := (.int (1 : Int32))) X6 hx Bd.notSynchronized Bd.returns rfl (Or.inl ⟨rfl, Or.inr (Or.inl rfl), _, rfl⟩) (hb hby at_53) eh6 ⟨rfl, N6⟩ (by decide) (by decide)
    · refine Ends.pre (T' := s₁.setTop (mkF m 34 #[.val (.int x0), .val (.int ((x0 &&& (2147483647 : Int32)) % (3 : Int32))), .unset, .unset] [])) (fun t k => XS.icmpYes X0.here hx rfl (pc0 := 22) (pc' := 34) rfl (hb hby at_22) rfl (Jvm.Free.XT.ii_ne_t hc22_4) (by decide) (by decide) k) ?_
      obtain ⟨T7, X7, e7, st7⟩ := getS2 X0 hx hZ hown (host := "") (Or.inl (hw _ (List.mem_of_getElem? (i := 10) rfl))) Via.refl e0 S_REQUIRED (g := (mkF m 34 #[.val (.int x0), .val (.int ((x0 &&& (2147483647 : Int32)) % (3 : Int32))), .unset, .unset] [])) rfl (hb hby at_34)
      refine Ends.pre (T' := T7.setTop (mkF m 37 #[.val (.int x0), .val (.int ((x0 &&& (2147483647 : Int32)) % (3 : Int32))), .unset, .unset] [(.ref wREQUIRED)])) (fun t k => st7 _ k) ?_
      refine Ends.pre (T' := T7.setTop (mkF m 38 #[.val (.int x0), .val (.int ((x0 &&& (2147483647 : Int32)) % (3 : Int32))), .val (.ref wREQUIRED), .unset] [])) (fun t k => XS.astoreN X7.here hx rfl (hb hby at_37) rfl rfl (l' := #[.val (.int x0), .val (.int ((x0 &&& (2147483647 : Int32)) % (3 : Int32))), .val (.ref wREQUIRED), .unset]) rfl k) ?_
      refine Ends.pre (T' := T7.setTop (mkF m 39 #[.val (.int x0), .val (.int ((x0 &&& (2147483647 : Int32)) % (3 : Int32))), .val (.ref wREQUIRED), .unset] [(.int (1 : Int32))])) (fun t k => XS.iconst X7.here hx rfl (hb hby at_38) k) ?_
      refine Ends.pre (T' := T7.setTop (mkF m 40 #[.val (.int x0), .val (.int ((x0 &&& (2147483647 : Int32)) % (3 : Int32))), .val (.ref wREQUIRED), .val (.int (1 : Int32))] [])) (fun t k => XS.istoreN X7.here hx rfl (hb hby at_39) rfl (l' := #[.val (.int x0), .val (.int ((x0 &&& (2147483647 : Int32)) % (3 : Int32))), .val (.ref wREQUIRED), .val (.int (1 : Int32))]) rfl k) ?_
      refine Ends.pre (T' := T7.setTop (mkF m 41 #[.val (.int x0), .val (.int ((x0 &&& (2147483647 : Int32)) % (3 : Int32))), .val (.ref wREQUIRED), .val (.int (1 : Int32))] [(.ref wREQUIRED)])) (fun t k => XS.aloadN X7.here hx rfl (hb hby at_40) rfl rfl k) ?_
      obtain ⟨cq8, kq8, q8a, q8b, q8c⟩ := isOf hZ e7 E_REQUIRED
      obtain ⟨_, _, ⟨T8, L8, k8, n8⟩, -, X8, ⟨Lc8, hQ8, l8, y8, z8⟩, st8⟩ := X7.virtualBack hx (y := (⟨"com/example/mail_admission/mailadmission/table/TlsMode", "offered", "()Z"⟩ : MethodName)) (z := (⟨"com/example/mail_admission/mailadmission/table/TlsMode", "offered", "()Z"⟩ : MethodName)) hown (mvT hZ (hw _ (List.mem_of_getElem? (i := 4) rfl))) (mvT hZ (hw _ (List.mem_of_getElem? (i := 5) rfl))) (notFace_of_selects (args := #[]) (mvT hZ (hw _ (List.mem_of_getElem? (i := 7) rfl)))) (mvT hZ (hw _ (List.mem_of_getElem? (i := 7) rfl))) (mvT hZ (hw _ (List.mem_of_getElem? (i := 6) rfl))) (by decide) (backOf (W := 0) (rm1 l Z a0 hw [] wREQUIRED wOFF h0 n0 Z0 S_OFF) hZ (hw _ (List.mem_of_getElem? (i := 8) rfl)) (hw _ (List.mem_of_getElem? (i := 2) rfl)) (by decide) (by decide)) q8a q8c (g := (mkF m 41 #[.val (.int x0), .val (.int ((x0 &&& (2147483647 : Int32)) % (3 : Int32))), .val (.ref wREQUIRED), .val (.int (1 : Int32))] [(.ref wREQUIRED)])) rfl (by rw [hml]; rfl) (Steps.refl _) (argsL := []) (rest := []) (lenOf pd_0 rfl) rfl (by show 2 * 0 + _ ≤ _; exact Nat.le_of_eq rfl) (hb hby at_41) (fun _ _ => ⟨rfl, e7, (by decide : 0 + 0 ≤ _), (by decide : 0 + 0 ≤ _)⟩)
      dsimp only [Pt.U, Pt.locs, Pt.cells, Pt.slots] at X8 l8 y8 z8 st8 hQ8
      subst l8 y8 z8
      obtain ⟨rfl, N8q, eh8⟩ := hQ8
      have N8 := Fr.app N0 N8q
      rw [if_neg ne_REQUIRED] at st8
      refine Ends.pre (T' := T8.setTop (mkF m 44 #[.val (.int x0), .val (.int ((x0 &&& (2147483647 : Int32)) % (3 : Int32))), .val (.ref wREQUIRED), .val (.int (1 : Int32))] [(.int (1 : Int32))])) (fun t k => st8.trans k) ?_
      refine Ends.pre (T' := T8.setTop (mkF m 45 #[.val (.int x0), .val (.int ((x0 &&& (2147483647 : Int32)) % (3 : Int32))), .val (.ref wREQUIRED), .val (.int (1 : Int32))] [(.int (1 : Int32)), (.int (1 : Int32))])) (fun t k => XS.iloadN X8.here hx rfl (hb hby at_44) rfl k) ?_
      refine Ends.pre (T' := T8.setTop (mkF m 48 #[.val (.int x0), .val (.int ((x0 &&& (2147483647 : Int32)) % (3 : Int32))), .val (.ref wREQUIRED), .val (.int (1 : Int32))] [])) (fun t k => XS.icmpNo X8.here hx rfl (hb hby at_45) rfl (by decide) k) ?_
      refine Ends.pre (T' := T8.setTop (mkF m 49 #[.val (.int x0), .val (.int ((x0 &&& (2147483647 : Int32)) % (3 : Int32))), .val (.ref wREQUIRED), .val (.int (1 : Int32))] [(.int (1 : Int32))])) (fun t k => XS.iconst X8.here hx rfl (hb hby at_48) k) ?_
      refine Ends.pre (T' := T8.setTop (mkF m 53 #[.val (.int x0), .val (.int ((x0 &&& (2147483647 : Int32)) % (3 : Int32))), .val (.ref wREQUIRED), .val (.int (1 : Int32))] [(.int (1 : Int32))])) (fun t k => XS.goto X8.here hx rfl (pc0 := 49) (pc' := 53) rfl (hb hby at_49) (by decide) (by decide) k) ?_
      exact Ends.ret (w := (.int (1 : Int32))) X8 hx Bd.notSynchronized Bd.returns rfl (Or.inl ⟨rfl, Or.inr (Or.inl rfl), _, rfl⟩) (hb hby at_53) eh8 ⟨rfl, N8⟩ (by decide) (by decide)
set_option maxRecDepth 65536 in
set_option maxHeartbeats 40000000 in
theorem comes_1 {Post : Tables → Env → Array Value → State → Outcome → State → Prop} (hpost : ∀ tb e args s v u, (limb_1_1.after args s (.returned v) u = true ∧ limb_1_2.after args s (.returned v) u = true ∧ True) → FrameEnd s (.returned v) u (Jvm.fieldLocs frame_1_writes args s ++ Jvm.arrayLocs frame_1_arrays args s ++ Jvm.staticLocs frame_1_statics s) 0 0 → Post tb e args s (.returned v) u) :
    ArmFor flags0 classFile x code maxLocals ret World_1 tables_1 room_1 Calls_1 rest_1 Pre_1 Post := by
  intro l hfl _ _ p e ha hc hk s m args below hf hA hF happ hP
  obtain ⟨hcalls, hrest, hpre⟩ := hP
  obtain ⟨-, -, -, hnamed, -, -, -, hat⟩ := (Spec.applies_iff hf).mp happ
  obtain ⟨hg, hn⟩ := and_e (Cond.before_iff.mp (show (Jvm.Cond.and given_1 narrow_1).before args s = true from hpre))
  obtain ⟨gg1, gg2⟩ := and_e hg
  obtain ⟨gg3, gg4⟩ := and_e hn
  obtain ⟨gg5, gg6⟩ := and_e gg4
  obtain ⟨gg7, gg8⟩ := and_e gg6
  obtain ⟨gg9, gg10⟩ := and_e gg8
  obtain ⟨gg11, gg12⟩ := and_e gg10
  obtain ⟨w0, rfl⟩ : ∃ w0 : Value, args = #[w0] := by
    have hs : args.size = 1 := by simpa [Cond.value, given_1] using gg1
    obtain ⟨L⟩ := args
    match L, hs with
    | [w0], _ => exact ⟨w0, rfl⟩
  have hw := fun d (hd : d ∈ tables_1) => atoms_spec (ws := Jvm.Cond.code x code maxLocals ret :: tables_1) hat d (List.mem_cons_of_mem _ hd)
  have hfit : Fit s := fun {y c} hc i hi => by
    obtain ⟨ha, rfl⟩ := Array.getElem?_eq_some_iff.mp hc
    have q := List.all_eq_true.mp ((Array.all_eq_true_iff_forall_mem.mp hF) _ (Array.getElem_mem ha)) i (List.mem_range.mpr hi)
    simpa [Array.getElem?_eq_getElem hi] using q
  obtain ⟨i0, ei0⟩ := is_v gg2
  obtain rfl : w0 = (.int i0) := Option.some.inj ei0
  obtain ⟨st_OFF, ev_OFF⟩ := exa_v gg3
  have S_OFF : Sta s s.heap "com/example/mail_admission/mailadmission/table/TlsMode" "OFF" "Lcom/example/mail_admission/mailadmission/table/TlsMode;" (.ref st_OFF) := Sta.start ev_OFF (Or.inr ⟨(hw _ (List.mem_of_getElem? (i := 2) rfl)), (hw _ (List.mem_of_getElem? (i := 3) rfl))⟩)
  have E_OFF : Exa s s.heap st_OFF "com/example/mail_admission/mailadmission/table/TlsMode" := Exa.start ev_OFF gg3
  obtain ⟨st_REQUIRED, ev_REQUIRED⟩ := exa_v gg5
  have S_REQUIRED : Sta s s.heap "com/example/mail_admission/mailadmission/table/TlsMode" "REQUIRED" "Lcom/example/mail_admission/mailadmission/table/TlsMode;" (.ref st_REQUIRED) := Sta.start ev_REQUIRED (Or.inr ⟨(hw _ (List.mem_of_getElem? (i := 2) rfl)), (hw _ (List.mem_of_getElem? (i := 11) rfl))⟩)
  have E_REQUIRED : Exa s s.heap st_REQUIRED "com/example/mail_admission/mailadmission/table/TlsMode" := Exa.start ev_REQUIRED gg5
  obtain ⟨st_PREFERRED, ev_PREFERRED⟩ := exa_v gg11
  have S_PREFERRED : Sta s s.heap "com/example/mail_admission/mailadmission/table/TlsMode" "PREFERRED" "Lcom/example/mail_admission/mailadmission/table/TlsMode;" (.ref st_PREFERRED) := Sta.start ev_PREFERRED (Or.inr ⟨(hw _ (List.mem_of_getElem? (i := 2) rfl)), (hw _ (List.mem_of_getElem? (i := 13) rfl))⟩)
  have E_PREFERRED : Exa s s.heap st_PREFERRED "com/example/mail_admission/mailadmission/table/TlsMode" := Exa.start ev_PREFERRED gg11
  have O_REQUIRED_ordinal : Fld s s.heap st_REQUIRED "java/lang/Enum" "ordinal" "I" (.int (2 : Int32)) := Fld.start ((fld_at ev_REQUIRED).symm.trans (eqI_v gg7))
  have O_OFF_ordinal : Fld s s.heap st_OFF "java/lang/Enum" "ordinal" "I" (.int (0 : Int32)) := Fld.start ((fld_at ev_OFF).symm.trans (eqI_v gg9))
  have O_PREFERRED_ordinal : Fld s s.heap st_PREFERRED "java/lang/Enum" "ordinal" "I" (.int (1 : Int32)) := Fld.start ((fld_at ev_PREFERRED).symm.trans (eqI_v gg12))
  obtain ⟨n, o, h1, h2, h3, _, L, rfl, ⟨rfl, N⟩, hq⟩ := rm0 l s _ hw tables_1 i0 st_OFF st_PREFERRED st_REQUIRED s.heap s.heap.size (Nat.le_refl _) S_OFF S_PREFERRED S_REQUIRED E_OFF E_PREFERRED E_REQUIRED (Fld.ne O_PREFERRED_ordinal O_OFF_ordinal (by decide)) (Fld.ne O_REQUIRED_ordinal O_OFF_ordinal (by decide)) p e ha hc hk s m _ below hf ((Spec.applies_iff_loose hf).mp happ).1 ⟨rfl, State.Warmed39.refl s, rfl⟩ trivial
  refine ⟨n, _, h1, h2, h3, hpost _ _ _ _ _ _ ⟨Cond.after_iff.mpr rfl, Cond.after_iff.mpr (eq_i res_at (Term.int_eval (1)) rfl), trivial⟩ ⟨hq.1, hq.2.1, (hq.2.2.sift fun y hy => Or.inr (N y hy)).mono (by decide) (by decide)⟩⟩
theorem main_1_1 : Claimed_1_1 := comes_1 fun _ _ _ _ _ _ h hF => ⟨h.1, hF⟩
theorem main_1_2 : Claimed_1_2 := comes_1 fun _ _ _ _ _ _ h hF => ⟨h.2.1, hF⟩
end Jvm.Pilot.@@N@@
namespace Jvm.Pilot.@@N@@
open Jvm Jvm.ClassFile Sem Op Lib Jvm.Free Jvm.Stand Jvm.Pilot.@@N@@.Jvm.D
/-! MADE BY PROGRAM (witnessworld.py) out of the Statement's table words and the real class files: 12 classes; the members and pool entries that the words name. The judged class is class 1, her method 1. -/
namespace start1
open Jvm.ClassFile
def u (s : String) : CpInfo := .utf8 (stringToUtf16 s)
/-- a pool by its gaps: so many unusable entries, then the entry; so many at the end -/
def gap : Nat → List CpInfo → List CpInfo
  | 0, r => r
  | n + 1, r => .unusable :: gap n r
def poolList (es : List (Nat × CpInfo)) (last : Nat) : List CpInfo := es.foldr (fun e r => gap e.1 (e.2 :: r)) (gap last [])
def pool (es : List (Nat × CpInfo)) (last : Nat) : Array CpInfo := ⟨poolList es last⟩
def fileOf (pool : Array CpInfo) (this : Nat) (attrs : Array Attribute := #[]) (ms : Array MethodInfo := #[]) (fl : Nat := 33) (sup : Nat := 0) (ifs : Array Nat := #[]) (fds : Array FieldInfo := #[]) : ClassFile where
  minorVersion := 0
  majorVersion := 65
  constantPool := pool
  accessFlags := fl
  thisClass := this
  superClass := sup
  interfaces := ifs
  fields := fds
  methods := ms
  attributes := attrs
def plain (name : String) (sup : Option ClassId) : Class where
  name := name
  kind := .ordinary
  loader := none
  accessFlags := 33
  super := sup
  interfaces := #[]
  cf := none
  fields := #[]
  methods := #[]
  instanceTypes := #[]
  staticTypes := #[]
  resolved := #[]
  callSites := []
  init := .initialized
  statics := none
  mirror := none

def pool0 : Array CpInfo := pool [(5, u "<init>"), (0, u "()V"), (1, .class_ 10), (1, u "java/lang/Object")] 113

def k0m0 : Method := { name := "<init>", desc := "()V", sig := { parameters := [], returnType := none }, accessFlags := 1, code := none }
/-- java/lang/Object -/
def k0 : Class := { plain "java/lang/Object" none with
  accessFlags := 33
  interfaces := #[]
  cf := some (fileOf pool0 8 #[] #[{ accessFlags := 1, nameIndex := 5, descriptorIndex := 6, attributes := #[] }] 33 0 #[] #[])
  fields := #[]
  methods := #[k0m0]
  instanceTypes := #[]
  staticTypes := #[]
  resolved := Array.replicate 124 none
  statics := none }

def pool1 : Array CpInfo := pool [(2, .class_ 4), (1, u "java/lang/Object"), (0, u "<init>"), (0, u "()V"), (0, .integer 2147483647), (0, .fieldref 9 10), (0, .class_ 11), (0, .nameAndType 12 13), (0, u "com/example/mail_admission/mailadmission/table/TlsMode"), (0, u "OFF"), (0, u "Lcom/example/mail_admission/mailadmission/table/TlsMode;"), (0, .fieldref 9 15), (0, .nameAndType 16 13), (0, u "PREFERRED"), (0, .fieldref 9 18), (0, .nameAndType 19 13), (0, u "REQUIRED"), (0, .methodref 9 21), (0, .nameAndType 22 23), (0, u "offered"), (0, u "()Z"), (0, .class_ 25), (0, u "com/example/mail_admission/mailadmission/table/TlsModeOfferedPinLaw"), (2, u "law"), (0, u "(I)Z")] 3

def k1m0 : Method := { name := "<init>", desc := "()V", sig := { parameters := [], returnType := none }, accessFlags := 1, code := none }
def k1c1 : Code := { maxStack := 2, maxLocals := 4, code := code, exceptionTable := #[], attributes := #[] }
def k1m1 : Method := { name := "law", desc := "(I)Z", sig := { parameters := [.int], returnType := some .boolean }, accessFlags := 9, code := some k1c1 }
/-- com/example/mail_admission/mailadmission/table/TlsModeOfferedPinLaw -/
def k1 : Class := { plain "com/example/mail_admission/mailadmission/table/TlsModeOfferedPinLaw" (some 0) with
  accessFlags := 49
  interfaces := #[]
  cf := some (fileOf pool1 24 #[] #[{ accessFlags := 1, nameIndex := 5, descriptorIndex := 6, attributes := #[] }, { accessFlags := 9, nameIndex := 28, descriptorIndex := 29, attributes := #[] }] 49 2 #[] #[])
  fields := #[]
  methods := #[k1m0, k1m1]
  instanceTypes := #[]
  staticTypes := #[]
  resolved := Array.replicate 33 none
  statics := none }

def pool2 : Array CpInfo := pool [(1, .class_ 2), (0, u "java/lang/constant/Constable"), (0, .class_ 4), (0, u "java/lang/Object")] 6

/-- java/lang/constant/Constable -/
def k2 : Class := { plain "java/lang/constant/Constable" (some 0) with
  accessFlags := 1537
  interfaces := #[]
  cf := some (fileOf pool2 1 #[] #[] 1537 3 #[] #[])
  fields := #[]
  methods := #[]
  instanceTypes := #[]
  staticTypes := #[]
  resolved := Array.replicate 11 none
  statics := none }

def pool3 : Array CpInfo := pool [(1, .class_ 2), (0, u "java/lang/Comparable"), (0, .class_ 4), (0, u "java/lang/Object")] 7

/-- java/lang/Comparable -/
def k3 : Class := { plain "java/lang/Comparable" (some 0) with
  accessFlags := 1537
  interfaces := #[]
  cf := some (fileOf pool3 1 #[] #[] 1537 3 #[] #[])
  fields := #[]
  methods := #[]
  instanceTypes := #[]
  staticTypes := #[]
  resolved := Array.replicate 12 none
  statics := none }

def pool4 : Array CpInfo := pool [(1, .class_ 2), (0, u "java/io/Serializable"), (0, .class_ 4), (0, u "java/lang/Object")] 2

/-- java/io/Serializable -/
def k4 : Class := { plain "java/io/Serializable" (some 0) with
  accessFlags := 1537
  interfaces := #[]
  cf := some (fileOf pool4 1 #[] #[] 1537 3 #[] #[])
  fields := #[]
  methods := #[]
  instanceTypes := #[]
  staticTypes := #[]
  resolved := Array.replicate 7 none
  statics := none }

def pool5 : Array CpInfo := pool [(2, .class_ 4), (1, u "java/lang/Enum"), (0, u "name"), (0, u "Ljava/lang/String;"), (2, u "ordinal"), (0, u "I"), (1, .class_ 14), (1, u "java/lang/Object"), (4, u "hash"), (86, .class_ 108), (1, u "java/lang/Enum$EnumDesc"), (2, .class_ 112), (0, u "java/lang/constant/Constable"), (0, .class_ 114), (0, u "java/lang/Comparable"), (0, .class_ 116), (0, u "java/io/Serializable")] 87

/-- java/lang/Enum -/
def k5 : Class := { plain "java/lang/Enum" (some 0) with
  accessFlags := 1057
  interfaces := #[2, 3, 4]
  cf := some (fileOf pool5 2 #[.nestMembers #[106]] #[] 1057 12 #[111, 113, 115] #[{ accessFlags := 18, nameIndex := 5, descriptorIndex := 6, attributes := #[] }, { accessFlags := 18, nameIndex := 9, descriptorIndex := 10, attributes := #[] }, { accessFlags := 2, nameIndex := 19, descriptorIndex := 10, attributes := #[] }])
  fields := #[{ name := "name", type := (.object "java/lang/String"), accessFlags := 18, slot := 0, constantValue := 0 }, { name := "ordinal", type := .int, accessFlags := 18, slot := 1, constantValue := 0 }, { name := "hash", type := .int, accessFlags := 2, slot := 2, constantValue := 0 }]
  methods := #[]
  instanceTypes := #[(.object "java/lang/String"), .int, .int]
  staticTypes := #[]
  resolved := Array.replicate 204 none
  statics := none }

def pool6 : Array CpInfo := pool [(1, .class_ 2), (0, u "com/example/mail_admission/mailadmission/table/TlsMode"), (0, .fieldref 1 4), (0, .nameAndType 5 6), (0, u "OFF"), (0, u "Lcom/example/mail_admission/mailadmission/table/TlsMode;"), (2, u "PREFERRED"), (2, u "REQUIRED"), (2, u "$VALUES"), (0, u "[Lcom/example/mail_admission/mailadmission/table/TlsMode;"), (6, .class_ 25), (1, u "java/lang/Enum"), (48, u "offered"), (0, u "()Z")] 19

def k6c0 : Code := { maxStack := 2, maxLocals := 1, code := prog_10_method_5_code, exceptionTable := #[], attributes := #[] }
def k6m0 : Method := { name := "offered", desc := "()Z", sig := { parameters := [], returnType := some .boolean }, accessFlags := 1, code := some k6c0 }
/-- com/example/mail_admission/mailadmission/table/TlsMode -/
def k6 : Class := { plain "com/example/mail_admission/mailadmission/table/TlsMode" (some 5) with
  accessFlags := 16433
  interfaces := #[]
  cf := some (fileOf pool6 1 #[] #[{ accessFlags := 1, nameIndex := 74, descriptorIndex := 75, attributes := #[] }] 16433 23 #[] #[{ accessFlags := 16409, nameIndex := 5, descriptorIndex := 6, attributes := #[] }, { accessFlags := 16409, nameIndex := 9, descriptorIndex := 6, attributes := #[] }, { accessFlags := 16409, nameIndex := 12, descriptorIndex := 6, attributes := #[] }, { accessFlags := 4122, nameIndex := 15, descriptorIndex := 16, attributes := #[] }])
  fields := #[{ name := "OFF", type := (.object "com/example/mail_admission/mailadmission/table/TlsMode"), accessFlags := 16409, slot := 0, constantValue := 0 }, { name := "PREFERRED", type := (.object "com/example/mail_admission/mailadmission/table/TlsMode"), accessFlags := 16409, slot := 1, constantValue := 0 }, { name := "REQUIRED", type := (.object "com/example/mail_admission/mailadmission/table/TlsMode"), accessFlags := 16409, slot := 2, constantValue := 0 }, { name := "$VALUES", type := (.array (.object "com/example/mail_admission/mailadmission/table/TlsMode")), accessFlags := 4122, slot := 3, constantValue := 0 }]
  methods := #[k6m0]
  instanceTypes := #[(.object "java/lang/String"), .int, .int]
  staticTypes := #[(.object "com/example/mail_admission/mailadmission/table/TlsMode"), (.object "com/example/mail_admission/mailadmission/table/TlsMode"), (.object "com/example/mail_admission/mailadmission/table/TlsMode"), (.array (.object "com/example/mail_admission/mailadmission/table/TlsMode"))]
  resolved := Array.replicate 95 none
  statics := some 0 }

def pool7 : Array CpInfo := pool [(1, u "java/lang/Cloneable"), (0, .class_ 1), (0, u "java/lang/Object"), (0, .class_ 3)] 3

/-- java/lang/Cloneable -/
def k7 : Class := { plain "java/lang/Cloneable" (some 0) with
  accessFlags := 1537
  interfaces := #[]
  cf := some (fileOf pool7 2 #[] #[] 1537 4 #[] #[])
  fields := #[]
  methods := #[]
  instanceTypes := #[]
  staticTypes := #[]
  resolved := Array.replicate 8 none
  statics := none }

/-- the primitive byte -/
def k8 : Class := { plain "byte" none with kind := .primitive 'B', accessFlags := 0x411 }
/-- [B -/
def k9 : Class := { plain "[B" (some 0) with kind := .array 8 .byte, interfaces := #[7, 4], accessFlags := 1041 }

/-- the primitive int -/
def k10 : Class := { plain "int" none with kind := .primitive 'I', accessFlags := 0x411 }
/-- [I -/
def k11 : Class := { plain "[I" (some 0) with kind := .array 10 .int, interfaces := #[7, 4], accessFlags := 1041 }

def heap : Heap := #[{ cls := 6, slots := #[.ref 1, .ref 3, .ref 2, .null], vm := .statics 6 },
  { cls := 6, slots := #[.null, .int (0), .int 0], vm := .none },
  { cls := 6, slots := #[.null, .int (2), .int 0], vm := .none },
  { cls := 6, slots := #[.null, .int (1), .int 0], vm := .none }]
def classes : Array Class := #[k0, k1, k2, k3, k4, k5, k6, k7, k8, k9, k10, k11]
def interned : List (Array UInt16 × Addr) := []
def slotsUsed : Nat := 13
def theMethod : MethodId := ⟨1, 1⟩
def args0 : Array Value := #[.int 1]
def aboutOver (below : List Frame) : State where
  vm := { classes := classes, interned := interned.toArray }
  heap := heap
  slotsUsed := slotsUsed
  threads := #[{ frames := .invoking theMethod args0 :: below }]
def below0 : List Frame := [.native { method := ⟨0, 0⟩, args := #[] }]
def about1 : State := aboutOver below0
def p0 : Program := .bare "" "" ""
def e0 : Env := launch0.env 0 0 0
theorem w_frames : about1.frames = Frame.invoking theMethod args0 :: below0 := rfl
set_option maxRecDepth 65536 in
theorem w_args : argsFit about1.vm theMethod args0 = true := by decide +kernel
set_option maxRecDepth 65536 in
theorem w_heap : heapFits about1 = true := by decide +kernel
set_option maxRecDepth 65536 in
theorem w_runnable : about1.curStatus? = some .runnable := by decide +kernel
set_option maxRecDepth 65536 in
theorem w_alone : about1.alone = true := by decide +kernel
set_option maxRecDepth 65536 in
theorem w_named : about1.methodNamed? x = some theMethod := by decide +kernel
set_option maxRecDepth 65536 in
theorem w_hears : about1.hears theMethod below0 = true := by decide +kernel
set_option maxRecDepth 65536 in
theorem w_ripe : about1.ripe theMethod args0 below0 = true := by decide +kernel
theorem w_running : about1.status = .running := rfl
set_option maxRecDepth 65536 in
theorem w_room : about1.hasRoom e0.platform room_1 = true :=
  launch0.hasRoom_least _ room_1 (by decide +kernel) (by decide +kernel) (by decide +kernel) (by decide +kernel) (by decide +kernel) (by decide +kernel)
theorem allAtoms_all (ts : List Jvm.Cond) (a : Array Jvm.Value) (st : Jvm.State) : (allAtoms ts).before a st = ts.all (fun c => c.before a st) := by
  induction ts with
  | nil => rfl
  | cons c t ih =>
    show (Jvm.Cond.and c (allAtoms t)).before a st = _
    rw [Jvm.Cond.before_and, ih, List.all_cons]
def words1 : List Jvm.Cond := Jvm.Cond.code x code maxLocals ret :: tables_1
/-- a 'code' word, met by the world's own term for the bytes: nothing is compared byte by byte -/
theorem code_word {y : MethodName} {bytes : ByteArray} {mx : Nat} {rt : Option FieldType} {a : Array Value} {s : State} {m : MethodId} {meth : Method} {c : Code} (h1 : s.methodNamed? y = some m) (h2 : s.vm.method? m = some meth) (h3 : meth.code = some c) (h4 : c.code = bytes)
    (h5 : (c.maxLocals == mx && c.exceptionTable.isEmpty && decide (c.maxStack ≤ mostOperands) && decide (meth.sig.returnType = rt) && !meth.locks && decide (parseMethodDescriptor y.desc = some meth.sig)) = true) : (Jvm.Cond.code y bytes mx rt).before a s = true := by
  simp only [Bool.and_eq_true, beq_iff_eq, Bool.not_eq_true', decide_eq_true_eq] at h5
  obtain ⟨⟨⟨⟨⟨g1, g2⟩, g3⟩, g4⟩, g5⟩, g6⟩ := h5
  simp [Cond.before, Cond.holds, Cond.value, h1, h2, h3, h4, g1, g2, g3, g4, g5, g6]
def isCode : Jvm.Cond → Bool
  | .code _ _ _ _ => true
  | _ => false
theorem all_split {L : List Jvm.Cond} {P : Jvm.Cond → Bool} (h1 : L.all (fun c => isCode c || P c) = true) (h2 : ∀ c ∈ L.filter isCode, P c = true) : L.all P = true := by
  refine List.all_eq_true.mpr fun c hc => ?_
  have h := List.all_eq_true.mp h1 c hc
  rcases Bool.eq_false_or_eq_true (isCode c) with hi | hi
  · exact h2 c (List.mem_filter.mpr ⟨hc, hi⟩)
  · simpa [hi] using h
set_option maxRecDepth 65536 in
theorem w_c0 : (Jvm.Cond.code x code maxLocals ret).before args0 about1 = true := code_word (m := ⟨1, 1⟩) (meth := k1m1) (c := k1c1) (by decide +kernel) rfl rfl rfl (by decide +kernel)
set_option maxRecDepth 65536 in
theorem w_c1 : (Jvm.Cond.code ({ cls := "com/example/mail_admission/mailadmission/table/TlsMode", name := "offered", desc := "()Z" } : Jvm.MethodName) prog_10_method_5_code (1 : Nat) (Option.some Jvm.ClassFile.FieldType.boolean)).before args0 about1 = true := code_word (m := ⟨6, 0⟩) (meth := k6m0) (c := k6c0) (by decide +kernel) rfl rfl rfl (by decide +kernel)
def codes1 : List Jvm.Cond := [Jvm.Cond.code x code maxLocals ret, Jvm.Cond.code ({ cls := "com/example/mail_admission/mailadmission/table/TlsMode", name := "offered", desc := "()Z" } : Jvm.MethodName) prog_10_method_5_code (1 : Nat) (Option.some Jvm.ClassFile.FieldType.boolean)]
set_option maxRecDepth 65536 in
theorem codes_eq : words1.filter isCode = codes1 := rfl
theorem w_codes : ∀ c ∈ words1.filter isCode, c.before args0 about1 = true := by
  rw [codes_eq]
  intro c hc
  simp only [codes1, List.mem_cons, List.not_mem_nil, or_false] at hc
  rcases hc with rfl | rfl
  · exact w_c0
  · exact w_c1
set_option maxRecDepth 65536 in
theorem w_t1 : words1.all (fun c => isCode c || c.before args0 about1) = true := by decide +kernel
theorem w_tables : (allAtoms (Jvm.Cond.code x code maxLocals ret :: tables_1)).before args0 about1 = true := by
  rw [allAtoms_all]
  show words1.all (fun c => c.before args0 about1) = true
  refine all_split ?_ w_codes
  rw [w_t1]
set_option maxRecDepth 65536 in
theorem w_case : (Jvm.Cond.and given_1 narrow_1).before args0 about1 = true := by decide +kernel
theorem w_applies : (headSpec (Jvm.Cond.code x code maxLocals ret :: tables_1) room_1).applies x e0.platform about1 = true :=
  (Spec.applies_iff w_frames).mpr ⟨w_running, w_runnable, w_alone, w_named, w_hears, w_ripe, w_room, w_tables⟩
theorem atStart : AtStart classFile x code maxLocals ret World_1 tables_1 room_1 Calls_1 rest_1 Pre_1 launch0 p0 e0 about1 theMethod args0 below0 :=
  ⟨lists_1, trivial, launch0.admits_env _ _ _, launch0.least_env, fairChoices_fair.cas, fairChoices_fair.clock, w_frames, w_args, w_heap, w_applies, trivial, trivial, w_case⟩
end start1
theorem witness_1 : WitnessClaimed_1 := ⟨start1.p0, start1.e0, start1.about1, start1.theMethod, start1.args0, start1.below0, start1.atStart⟩
end Jvm.Pilot.@@N@@
