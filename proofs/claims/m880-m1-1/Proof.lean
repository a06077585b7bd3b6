import JvmDerived
import JvmDerived.Pilot.@@N@@Statement
import JvmDerived.Pilot.@@N@@Code
set_option linter.unusedVariables false
set_option linter.unusedSimpArgs false
namespace Jvm.RoadKit
open Sem ClassFile Op Lib Jvm.Stand Jvm.Free Jvm.LawKit
section Own
variable {p : Program} {l : Launch} {e : Env} {R : Room} {s : State} {m : MethodId} {args : Array Value} {below : List Frame} {meth : Method} {c : Code} {T T' : State} {locs : List Loc} {cells slots : Nat} {Q : Option Value → Heap → List Loc → Prop} {h : Heap}
/-- from T the invocation comes to an end of which P holds -/
def Ends (p : Program) (e : Env) (below : List Frame) (P : Outcome → State → Prop) (T : State) : Prop := ∃ s₂ o, Steps p.tables e below T s₂ ∧ s₂.status = .running ∧ Ended s₂ below o ∧ P o s₂
/-- the end of a body that interns nothing -/
def EndN (s : State) (R : Room) (Q : Option Value → Heap → List Loc → Prop) (o : Outcome) (s₂ : State) : Prop := ∃ v L, o = .returned v ∧ Q v s₂.heap L ∧ FrameEnd s o s₂ L R.cells R.slots
/-- the end of a body that may intern String constants -/
def EndW (s : State) (R : Room) (Z : State) (EL : List (String × Nat)) (Q : Option Value → Heap → List Loc → Prop) (o : Outcome) (s₂ : State) : Prop := ∃ v L, o = .returned v ∧ Q v s₂.heap L ∧ CHr Z EL s.vm s.heap s₂.vm s₂.heap ∧ ReturnedEndW s o s₂ L R.cells R.slots
theorem Ends.pre {P : Outcome → State → Prop} (k : ∀ t, Steps p.tables e below T' t → Steps p.tables e below T t) (h : Ends p e below P T') : Ends p e below P T := by
  obtain ⟨a, b, d, r⟩ := h
  exact ⟨a, b, k _ d, r⟩
theorem Ends.cast {P : Outcome → State → Prop} {g g' : JFrame} (q : g = g') (h : Ends p e below P (T.setTop g')) : Ends p e below P (T.setTop g) := q ▸ h
theorem Ends.ret (X : Stand p l e R s m args below meth c T locs cells slots) (hx : p.tables.exec = Jvm.exec) (hlk : meth.locks = false) {pc : Nat} {Ls : Array Slot} {w : Value} {t : FieldType} {i : Instr} {rest : List Value} (hret : meth.sig.returnType = some t) (hn : narrow t w = w)
    (hi : (i = .ireturn ∧ (t = .int ∨ t = .boolean ∨ t = .byte ∨ t = .char ∨ t = .short) ∧ ∃ z, w = .int z) ∨ (i = .lreturn ∧ t = .long ∧ ∃ z, w = .long z) ∨ (i = .dreturn ∧ t = .double ∧ ∃ z, w = .double z) ∨ (i = .freturn ∧ t = .float ∧ ∃ z, w = .float z) ∨ (i = .areturn ∧ t.isReference = true ∧ w.isRef = true))
    (hd : decode c.code pc = .ok (i, 1)) (eT : T.heap = h) (hq : Q (some w) h locs) (h1 : cells ≤ R.cells) (h2 : slots ≤ R.slots) : Ends p e below (EndN s R Q) (T.setTop (mkF m pc Ls (w :: rest))) := by
  obtain ⟨fs, hr, hrun, hended, hW, hsame⟩ := X.leave (v := some w) (fun q => by rw [hret] at q; cases q) hlk
  refine ⟨_, _, retOut X hx hret hn hi hd hr, hrun, hended, _, _, rfl, ?_, ⟨_, rfl⟩, hW, hsame.mono h1 h2⟩
  show Q (some w) T.heap locs
  rw [eT]; exact hq
theorem Ends.ret0 (X : Stand p l e R s m args below meth c T locs cells slots) (hx : p.tables.exec = Jvm.exec) (hlk : meth.locks = false) {pc : Nat} {Ls : Array Slot} (hret : meth.sig.returnType = none)
    (hd : decode c.code pc = .ok (.return_, 1)) (eT : T.heap = h) (hq : Q none h locs) (h1 : cells ≤ R.cells) (h2 : slots ≤ R.slots) : Ends p e below (EndN s R Q) (T.setTop (mkF m pc Ls [])) := by
  obtain ⟨fs, hr, hrun, hended, hW, hsame⟩ := X.leave (v := none) (fun _ => rfl) hlk
  refine ⟨_, _, X.returnOut hx hret hd hr, hrun, hended, _, _, rfl, ?_, ⟨_, rfl⟩, hW, hsame.mono h1 h2⟩
  show Q none T.heap locs
  rw [eT]; exact hq
theorem Ends.retW {Z : State} {a0 : Array Value} {EL : List (String × Nat)} {vm0 : Vm} {k0 : Nat} {h0 : Heap} (X : Stand p l e R (s.setVm vm0) m args below meth c T locs cells slots) (hx : p.tables.exec = Jvm.exec) (hlk : meth.locks = false) {pc : Nat} {Ls : Array Slot} {w : Value} {t : FieldType} {i : Instr} {rest : List Value} (hret : meth.sig.returnType = some t) (hn : narrow t w = w)
    (hi : (i = .ireturn ∧ (t = .int ∨ t = .boolean ∨ t = .byte ∨ t = .char ∨ t = .short) ∧ ∃ z, w = .int z) ∨ (i = .lreturn ∧ t = .long ∧ ∃ z, w = .long z) ∨ (i = .dreturn ∧ t = .double ∧ ∃ z, w = .double z) ∨ (i = .freturn ∧ t = .float ∧ ∃ z, w = .float z) ∨ (i = .areturn ∧ t.isReference = true ∧ w.isRef = true))
    (hd : decode c.code pc = .ok (i, 1)) (eT : T.heap = h) (hZ : Z.Warmed39 vm0) (hEL : EW Z a0 EL) (hS : s.Since vm0 k0) (hk : k0 ≤ h.size) (hh : s.heap = h0) (CR : CHr Z EL s.vm h0 vm0 h) (hq : Q (some w) h locs) (h1 : cells ≤ R.cells) (h2 : slots ≤ R.slots) : Ends p e below (EndW s R Z EL Q) (T.setTop (mkF m pc Ls (w :: rest))) := by
  subst eT hh
  obtain ⟨fs, hr, hrun, hended, r1, r2, r3, r4⟩ := X.leaveW hS hk (v := some w) (fun q => by rw [hret] at q; cases q) hlk
  have q := CR.trans (CHv.at X hZ hEL CR.1)
  exact ⟨_, _, retOut X hx hret hn hi hd hr, hrun, hended, _, _, rfl, hq, q, r1, r2, r3, r4.mono h1 h2⟩
theorem Ends.ret0W {Z : State} {a0 : Array Value} {EL : List (String × Nat)} {vm0 : Vm} {k0 : Nat} {h0 : Heap} (X : Stand p l e R (s.setVm vm0) m args below meth c T locs cells slots) (hx : p.tables.exec = Jvm.exec) (hlk : meth.locks = false) {pc : Nat} {Ls : Array Slot} (hret : meth.sig.returnType = none)
    (hd : decode c.code pc = .ok (.return_, 1)) (eT : T.heap = h) (hZ : Z.Warmed39 vm0) (hEL : EW Z a0 EL) (hS : s.Since vm0 k0) (hk : k0 ≤ h.size) (hh : s.heap = h0) (CR : CHr Z EL s.vm h0 vm0 h) (hq : Q none h locs) (h1 : cells ≤ R.cells) (h2 : slots ≤ R.slots) : Ends p e below (EndW s R Z EL Q) (T.setTop (mkF m pc Ls [])) := by
  subst eT hh
  obtain ⟨fs, hr, hrun, hended, r1, r2, r3, r4⟩ := X.leaveW hS hk (v := none) (fun _ => rfl) hlk
  have q := CR.trans (CHv.at X hZ hEL CR.1)
  exact ⟨_, _, X.returnOut hx hret hd hr, hrun, hended, _, _, rfl, hq, q, r1, r2, r3, r4.mono h1 h2⟩
/-- T' stands as T does -/
def SS (X : Stand p l e R s m args below meth c T locs cells slots) (T' : State) : Prop := Stand p l e R s m args below meth c T' locs cells slots
theorem Stand_mono {cells' slots' : Nat} (X : Stand p l e R s m args below meth c T locs cells slots) (h1 : cells ≤ cells') (h2 : slots ≤ slots') : Stand p l e R s m args below meth c T locs cells' slots' := { X with same := X.same.mono h1 h2 }
theorem lremM {g : JFrame} {target : State} (X : Stand p l e R s m args below meth c T locs cells slots) (hx : p.tables.exec = Jvm.exec) (hg : g.method = m) {x y : Int64} {rest : List Value} (hd : decode c.code g.pc = .ok (.lrem, 1)) (hs : g.stack = .long y :: .long x :: rest) (hy : y ≠ 0)
    (hr : Steps p.tables e below (T.setTop { g with pc := g.pc + 1, stack := .long (x % y) :: rest }) target) : Steps p.tables e below (T.setTop g) target :=
  XS.lrem X.here hx hg hd hs hy (by rw [lrem_mod]; exact hr)
theorem nf_via {y y' : MethodName} {m' : MethodId} (hn : s.methodNamed? y' = some m') (hc : y'.cls = y.cls) (nf : NotFace s y') : NotFace s y := fun r0 h0 => by
  obtain ⟨kr, h1, h2⟩ := nf _ hn
  have e1 := findClass_of_methodNamed hn
  have e2 := findClass_of_methodNamed h0
  rw [hc] at e1
  have e3 : m'.cls = r0.cls := Option.some.inj (e1.symm.trans e2)
  exact ⟨kr, e3 ▸ h1, h2⟩
theorem Sta_keep0 {Z : State} {h h' : Heap} {C n d : String} {v : Value} (F : Sta Z h C n d v) (K : Keep h h' []) : Sta Z h' C n d v := by
  obtain ⟨cf, i, k, f, st, cell, h1, h2, h3, h4, h5, r⟩ := F
  exact ⟨cf, i, k, f, st, cell, h1, h2, h3, h4, K.2.1 _ _ h5 nin0, r⟩
theorem Sta_keepW {Z : State} {h h' : Heap} {ws : List Addr} {C n d : String} {v : Value} (F : Sta Z h C n d v) (K : Keep h h' ws) (q : ∀ x ∈ ws, ∀ cell : Cell, h[x]? = some cell → cell.vm.isStatics = false) : Sta Z h' C n d v := by
  obtain ⟨cf, i, k, f, st, cell, h1, h2, h3, h4, h5, h6, r⟩ := F
  exact ⟨cf, i, k, f, st, cell, h1, h2, h3, h4, K.2.1 _ _ h5 (fun z => by have := q _ z _ h5; rw [h6] at this; cases this), h6, r⟩
theorem Ins_keep {Z : State} {h h' : Heap} {ws : List Addr} {a : Addr} {C : String} {b : Bool} (F : Ins Z h a C b) (K : Keep h h' ws) : Ins Z h' a C b := by
  obtain ⟨cell, cT, h1, h2, h3⟩ := F
  obtain ⟨c', q1, q2, q3, -⟩ := K.2.2 _ _ h1
  exact ⟨c', cT, q1, h2, by rw [q2, q3]; exact h3⟩
theorem Arr_keep0 {Z : State} {h h' : Heap} {a : Addr} {c : Cell} {ty : FieldType} (F : Arr Z h a c ty) (K : Keep h h' []) : Arr Z h' a c ty := ⟨K.2.1 _ _ F.1 nin0, F.2⟩
theorem NS_root' {Z : State} {a0 : Array Value} {O K : String} {n : Nat} (w : (Cond.noSuperclass O).before a0 Z = true) (wk : (Cond.instantiable K n).before a0 Z = true) (hn : O ≠ K) : NS Z O K := by
  obtain ⟨c, k, h1, h2, h3, -, -⟩ := Cond.noSuperclass_spec w
  obtain ⟨t, kt, g1, -⟩ := Cond.instantiable_spec wk
  have ne := ids_ne h1 g1 hn
  refine ⟨c, t, h1, g1, fun fuel => ?_⟩
  cases fuel with
  | zero => rfl
  | succ f => simp [Vm.isSubclassAux, ne, h2, h3]
theorem NS_no' {Z : State} {a0 : Array Value} {C S K : String} {n : Nat} (w : (Cond.superclass C S).before a0 Z = true) (wk : (Cond.instantiable K n).before a0 Z = true) (q : NS Z C K) (hn : C ≠ K) : ∃ c t, Z.vm.findClass C = some c ∧ Z.vm.findClass K = some t ∧ Z.vm.assignable c t = false := by
  obtain ⟨c, t, h0, g0, n3⟩ := q
  obtain ⟨p, k, kp, h1, h2, h3, h4, h5, -, h7⟩ := Cond.superclass_spec h0 w
  obtain ⟨t', k', g1, g2, g5, g7, -⟩ := Cond.instantiable_spec wk
  cases g0.symm.trans g1
  have ne := ids_ne h0 g0 hn
  have g8 : k'.isInterface = false := by
    cases hq : k'.isInterface with
    | false => rfl
    | true => simp [hq] at g7
  refine ⟨c, t, h0, g0, ?_⟩
  show Z.vm.assignableAux (255 + 1) c t = false
  simp [Vm.assignableAux, ne, h2, g2, h5, g5, g8, Vm.isSubclass, n3]
theorem Safe_null {Z : State} {EL : List (String × Nat)} {vm : Vm} {h : Heap} {x : Addr} (hal : Z.vm.Alike vm) (E : Exa Z h x "java/lang/String") (F : Fld Z h x "java/lang/String" "value" "[B" .null) : Safe Z EL vm h x := fun B => by
  obtain ⟨p, -, u, a, -, q, -, G, rfl | rfl⟩ := B
  · have ha : h[q.sa]? = some q.sC := G.ha
    obtain ⟨cS, ⟨⟨-, -, -, ⟨c1, k1, i1, f1, -⟩, -, -, -, v1, -⟩, -⟩, -⟩ := G
    obtain ⟨cell, cf, k, i, f, g1, g2, -, -, -, -, g7⟩ := F
    cases ha.symm.trans g1
    obtain ⟨k3, e3, -⟩ := State.fieldFound?_setVm (s := Z) hal g2
    have e4 := (show (Wst Z vm h).fieldFound? _ _ _ = _ from e3).symm.trans f1
    simp only [Option.some.injEq, Prod.mk.injEq] at e4
    rw [← e4.2.2.2, g7] at v1
    cases v1
  · have hd : h[q.sd]? = some q.SA := G.hd
    obtain ⟨cS, -, -, f, -⟩ := G
    obtain ⟨cell, k, e1, e2, -⟩ := E
    cases hd.symm.trans e1
    exact ids_ne e2 ((hal.findClass _ _).symm.trans f) (by decide) rfl
theorem sel_priv {args : Array Value} {n : Nat} {y : MethodName} (hy : y.cls ≠ "java/lang/invoke/MethodHandle" ∧ y.cls ≠ "java/lang/invoke/VarHandle") (hins : (Cond.instantiable y.cls n).before args s = true) (hpriv : (Cond.privateMethod y).before args s = true) (hinst : (Cond.instanceMethod y).before args s = true) : (Cond.selects y.cls y y).before args s = true := by
  obtain ⟨c, k, hc, hk, -, hniab, -, -⟩ := Cond.instantiable_spec hins
  have hni : k.isInterface = false := (Bool.or_eq_false_iff.mp hniab).1
  obtain ⟨mk, methM, hnamed, hmethM, -, -⟩ := Cond.instanceMethod_spec hinst
  have hfound : s.methodFound? y.cls y.name y.desc = some mk := State.methodFound?_of_named hnamed hy
  have hcls : mk.cls = c := Option.some.inj ((findClass_of_methodNamed hnamed).symm.trans hc)
  have hsel : selectMethod {} s.vm c mk = .method mk := selectMethod_private hmethM (Cond.privateMethod_at hpriv mk methM hnamed hmethM)
  simp only [Cond.before, Cond.holds, Cond.value, hc, hfound, hnamed, hsel, hcls, hk]
  simp; exact hni
theorem arv_ty {Z : State} {h : Heap} {a b : Addr} {k1 k2 : ClassId} {t1 t2 : FieldType} {z1 z2 : Int32} {v1 v2 : List Value} {d1 d2 : Value} (A : Arv Z h a k1 t1 z1 v1 d1) (B : Arv Z h b k2 t2 z2 v2 d2) (q : t1 ≠ t2) : a ≠ b := fun e => by
  subst e
  obtain ⟨c1, A1, -⟩ := A
  obtain ⟨c2, B1, -⟩ := B
  cases A1.1.symm.trans B1.1
  obtain ⟨-, k, h1, comp, h2⟩ := A1.2.1
  obtain ⟨-, k', h1', comp', h2'⟩ := B1.2.1
  cases h1.symm.trans h1'
  rw [h2] at h2'
  cases h2'
  exact q rfl
theorem eqI_v {first : State} {o : Option Outcome} {idx : List Nat} {a : Term} {k : Int32} (q : (Cond.eq a (.int k)).value args first o s idx = some true) : a.eval args first o idx s = some (.int k) := by
  cases ha : a.eval args first o idx s with
  | none => simp [Cond.value, ha] at q
  | some x => cases x <;> simp [Cond.value, ha, Term.eval] at q ⊢; exact q
theorem eqL_v {first : State} {o : Option Outcome} {idx : List Nat} {a : Term} {k : Int64} (q : (Cond.eq a (.long k)).value args first o s idx = some true) : a.eval args first o idx s = some (.long k) := by
  cases ha : a.eval args first o idx s with
  | none => simp [Cond.value, ha] at q
  | some x => cases x <;> simp [Cond.value, ha, Term.eval] at q ⊢; exact q
end Own
end Jvm.RoadKit
namespace Jvm.Pilot.@@N@@
open Jvm Jvm.ClassFile Sem Op Lib Jvm.Free Jvm.Stand Jvm.LawKit Jvm.RoadKit Bundle Jvm.Pilot.@@N@@.Jvm.D

theorem d1_0 : decode prog_19_method_4_code 0 = .ok (.aload_n 0, 1) := by decide +kernel
theorem d1_1 : decode prog_19_method_4_code 1 = .ok (.getstatic 7, 3) := by decide +kernel
theorem d1_4 : decode prog_19_method_4_code 4 = .ok (.if_acmp .eq 10, 3) := by decide +kernel
theorem d1_14 : decode prog_19_method_4_code 14 = .ok (.iconst 1, 1) := by decide +kernel
theorem d1_15 : decode prog_19_method_4_code 15 = .ok (.goto 4, 3) := by decide +kernel
theorem d1_19 : decode prog_19_method_4_code 19 = .ok (.ireturn, 1) := by decide +kernel
theorem d1_7 : decode prog_19_method_4_code 7 = .ok (.aload_n 0, 1) := by decide +kernel
theorem d1_8 : decode prog_19_method_4_code 8 = .ok (.getstatic 13, 3) := by decide +kernel
theorem d1_11 : decode prog_19_method_4_code 11 = .ok (.if_acmp .ne 7, 3) := by decide +kernel
theorem d1_18 : decode prog_19_method_4_code 18 = .ok (.iconst 0, 1) := by decide +kernel
theorem pn_0 : plainName "com/example/long_lease/longlease/lease/LeaseState" = true := by first | (simp [plainName, overriddenIn]; done) | decide +kernel
theorem ef_rm1 (m : MethodId) (x0 : Addr) : entryFrame m #[(.ref x0)] 1 = mkF m 0 #[.val (.ref x0)] [] := by first | (simp [entryFrame, mkF, argsToLocals, Value.category]; done) | rfl
def Q_rm1 (Z : State) (a : Addr) (y0 : Addr) (y1 : Addr) (h0 : Heap) (n0 : Nat) (v : Option Value) (h : Heap) (L : List Loc) : Prop := v = some (.int (if a = y0 then (1 : Int32) else if a = y1 then 1 else 0)) ∧ Fr n0 L ∧ h = h0
set_option maxRecDepth 65536 in
set_option maxHeartbeats 40000000 in
theorem rm1 (l : Launch) (Z : State) (a0 : Array Value) (hw : ∀ d ∈ tables_1, d.before a0 Z = true) (ws : List Jvm.Cond) (a : Addr) (y0 : Addr) (y1 : Addr) (h0 : Heap) (n0 : Nat) (Z0 : n0 ≤ h0.size) (SY0 : Sta Z h0 "com/example/long_lease/longlease/lease/LeaseState" "LEASED" "Lcom/example/long_lease/longlease/lease/LeaseState;" (.ref y0)) (SY1 : Sta Z h0 "com/example/long_lease/longlease/lease/LeaseState" "BREAKING" "Lcom/example/long_lease/longlease/lease/LeaseState;" (.ref y1)) :
    MetFree l (⟨"com/example/long_lease/longlease/lease/LeaseState", "isLocked", "()Z"⟩ : MethodName) (head1 (Jvm.Cond.code (⟨"com/example/long_lease/longlease/lease/LeaseState", "isLocked", "()Z"⟩ : MethodName) prog_19_method_4_code 1 (some .boolean) :: ws) ({ frames := 0, cells := 0, slots := 0, locals := 0 } : Room)) (fun aa_ U => aa_ = #[(.ref a)] ∧ Z.Warmed39 U.vm ∧ U.heap = h0) (fun _ _ _ _ _ => True) (fun _ U o U' => ∃ v L, o = .returned v ∧ Q_rm1 Z a y0 y1 h0 n0 v U'.heap L ∧ FrameEnd U o U' L ({ frames := 0, cells := 0, slots := 0, locals := 0 } : Room).cells ({ frames := 0, cells := 0, slots := 0, locals := 0 } : Room).slots) := by
  refine MetFree.of_bodySF (plainFor_of_name pn_0) hisR ?_
  intro p e s m args below meth c s₁ Bd hml0 hP hK
  obtain ⟨rfl, hZ, hh⟩ := hP
  have hx := Bd.exec
  have hby := Bd.bytes
  have hml : c.maxLocals = 1 := hml0
  have hown : s.vm.findClass "com/example/long_lease/longlease/lease/LeaseState" = some m.cls := findClass_of_methodNamed Bd.named
  have hnm := (name_of_methodNamed Bd.named Bd.method).1
  have X0 : Stand p l e ({ frames := 0, cells := 0, slots := 0, locals := 0 } : Room) s m #[(.ref a)] below meth c s₁ [] 0 0 := Stand.of_body Bd
  have e0 : s₁.heap = h0 := by rw [← hh, Bd.state]; rfl
  have N0 := Fr.nil n0
  refine Ends.cast (P := EndN s ({ frames := 0, cells := 0, slots := 0, locals := 0 } : Room) (Q_rm1 Z a y0 y1 h0 n0)) (ef_rm1 m a) ?_
  refine Ends.pre (T' := s₁.setTop (mkF m 1 #[.val (.ref a)] [(.ref a)])) (fun t k => XS.aloadN X0.here hx rfl (hb hby d1_0) rfl rfl k) ?_
  obtain ⟨T1, X1, e1, st1⟩ := getS2 X0 hx hZ hown (host := "") (Or.inl (hw _ (List.mem_of_getElem? (i := 9) rfl))) Via.refl e0 SY0 (g := (mkF m 1 #[.val (.ref a)] [(.ref a)])) rfl (hb hby d1_1)
  refine Ends.pre (T' := T1.setTop (mkF m 4 #[.val (.ref a)] [(.ref y0), (.ref a)])) (fun t k => st1 _ k) ?_
  by_cases hc4_2 : a = y0
  · refine Ends.pre (T' := T1.setTop (mkF m 14 #[.val (.ref a)] [])) (fun t k => Jvm.RoadKit.acmp (g := (mkF m 4 #[.val (.ref a)] [(.ref y0), (.ref a)])) X1 hx rfl rfl rfl (pc0 := 4) (pc' := 14) (same := true) rfl (hb hby d1_4) rfl (decide_eq_true (congrArg Value.ref hc4_2)) (by decide) (by decide) k) ?_
    refine Ends.pre (T' := T1.setTop (mkF m 15 #[.val (.ref a)] [(.int (1 : Int32))])) (fun t k => XS.iconst X1.here hx rfl (hb hby d1_14) k) ?_
    refine Ends.pre (T' := T1.setTop (mkF m 19 #[.val (.ref a)] [(.int (1 : Int32))])) (fun t k => XS.goto X1.here hx rfl (pc0 := 15) (pc' := 19) rfl (hb hby d1_15) (by decide) (by decide) k) ?_
    exact Ends.ret (w := (.int (1 : Int32))) X1 hx Bd.notSynchronized Bd.returns rfl (Or.inl ⟨rfl, Or.inr (Or.inl rfl), _, rfl⟩) (hb hby d1_19) e1 ⟨by rw [if_pos hc4_2], N0, rfl⟩ (by decide) (by decide)
  · refine Ends.pre (T' := T1.setTop (mkF m 7 #[.val (.ref a)] [])) (fun t k => Jvm.RoadKit.acmp (g := (mkF m 4 #[.val (.ref a)] [(.ref y0), (.ref a)])) X1 hx rfl rfl rfl (pc0 := 4) (pc' := 7) (same := false) rfl (hb hby d1_4) rfl (decide_eq_false (fun q => hc4_2 (Value.ref.inj q))) (by decide) (by decide) k) ?_
    refine Ends.pre (T' := T1.setTop (mkF m 8 #[.val (.ref a)] [(.ref a)])) (fun t k => XS.aloadN X1.here hx rfl (hb hby d1_7) rfl rfl k) ?_
    obtain ⟨T3, X3, e3, st3⟩ := getS2 X1 hx hZ hown (host := "") (Or.inl (hw _ (List.mem_of_getElem? (i := 11) rfl))) Via.refl e1 SY1 (g := (mkF m 8 #[.val (.ref a)] [(.ref a)])) rfl (hb hby d1_8)
    refine Ends.pre (T' := T3.setTop (mkF m 11 #[.val (.ref a)] [(.ref y1), (.ref a)])) (fun t k => st3 _ k) ?_
    by_cases hc11_4 : a = y1
    · refine Ends.pre (T' := T3.setTop (mkF m 14 #[.val (.ref a)] [])) (fun t k => Jvm.RoadKit.acmp (g := (mkF m 11 #[.val (.ref a)] [(.ref y1), (.ref a)])) X3 hx rfl rfl rfl (pc0 := 11) (pc' := 14) (same := true) rfl (hb hby d1_11) rfl (decide_eq_true (congrArg Value.ref hc11_4)) (by decide) (by decide) k) ?_
      refine Ends.pre (T' := T3.setTop (mkF m 15 #[.val (.ref a)] [(.int (1 : Int32))])) (fun t k => XS.iconst X3.here hx rfl (hb hby d1_14) k) ?_
      refine Ends.pre (T' := T3.setTop (mkF m 19 #[.val (.ref a)] [(.int (1 : Int32))])) (fun t k => XS.goto X3.here hx rfl (pc0 := 15) (pc' := 19) rfl (hb hby d1_15) (by decide) (by decide) k) ?_
      exact Ends.ret (w := (.int (1 : Int32))) X3 hx Bd.notSynchronized Bd.returns rfl (Or.inl ⟨rfl, Or.inr (Or.inl rfl), _, rfl⟩) (hb hby d1_19) e3 ⟨by rw [if_neg hc4_2, if_pos hc11_4], N0, rfl⟩ (by decide) (by decide)
    · refine Ends.pre (T' := T3.setTop (mkF m 18 #[.val (.ref a)] [])) (fun t k => Jvm.RoadKit.acmp (g := (mkF m 11 #[.val (.ref a)] [(.ref y1), (.ref a)])) X3 hx rfl rfl rfl (pc0 := 11) (pc' := 18) (same := false) rfl (hb hby d1_11) rfl (decide_eq_false (fun q => hc11_4 (Value.ref.inj q))) (by decide) (by decide) k) ?_
      refine Ends.pre (T' := T3.setTop (mkF m 19 #[.val (.ref a)] [(.int (0 : Int32))])) (fun t k => XS.iconst X3.here hx rfl (hb hby d1_18) k) ?_
      exact Ends.ret (w := (.int (0 : Int32))) X3 hx Bd.notSynchronized Bd.returns rfl (Or.inl ⟨rfl, Or.inr (Or.inl rfl), _, rfl⟩) (hb hby d1_19) e3 ⟨by rw [if_neg hc4_2, if_neg hc11_4], N0, rfl⟩ (by decide) (by decide)
theorem pd_0 : parseMethodDescriptor "()Z" = some ⟨[], some .boolean⟩ := by decide +kernel
theorem pn_1 : plainName "com/example/long_lease/longlease/lease/LeaseStateIsLockedPinLaw" = true := by first | (simp [plainName, overriddenIn]; done) | decide +kernel
theorem ef_rm0 (m : MethodId) (x0 : Int32) : entryFrame m #[(.int x0)] maxLocals = mkF m 0 #[.val (.int x0), .unset, .unset, .unset] [] := by first | (simp [entryFrame, mkF, argsToLocals, Value.category, maxLocals]; done) | rfl
def Q_rm0 (Z : State) (x0 : Int32) (wAVAILABLE : Addr) (wLEASED : Addr) (wEXPIRED : Addr) (wBREAKING : Addr) (wBROKEN : Addr) (h0 : Heap) (n0 : Nat) (v : Option Value) (h : Heap) (L : List Loc) : Prop := v = some (.int 1) ∧ Fr n0 L
set_option maxRecDepth 65536 in
set_option maxHeartbeats 40000000 in
theorem rm0 (l : Launch) (Z : State) (a0 : Array Value) (hw : ∀ d ∈ tables_1, d.before a0 Z = true) (ws : List Jvm.Cond) (x0 : Int32) (wAVAILABLE : Addr) (wLEASED : Addr) (wEXPIRED : Addr) (wBREAKING : Addr) (wBROKEN : Addr) (h0 : Heap) (n0 : Nat) (Z0 : n0 ≤ h0.size) (S_AVAILABLE : Sta Z h0 "com/example/long_lease/longlease/lease/LeaseState" "AVAILABLE" "Lcom/example/long_lease/longlease/lease/LeaseState;" (.ref wAVAILABLE)) (S_LEASED : Sta Z h0 "com/example/long_lease/longlease/lease/LeaseState" "LEASED" "Lcom/example/long_lease/longlease/lease/LeaseState;" (.ref wLEASED)) (S_EXPIRED : Sta Z h0 "com/example/long_lease/longlease/lease/LeaseState" "EXPIRED" "Lcom/example/long_lease/longlease/lease/LeaseState;" (.ref wEXPIRED)) (S_BREAKING : Sta Z h0 "com/example/long_lease/longlease/lease/LeaseState" "BREAKING" "Lcom/example/long_lease/longlease/lease/LeaseState;" (.ref wBREAKING)) (S_BROKEN : Sta Z h0 "com/example/long_lease/longlease/lease/LeaseState" "BROKEN" "Lcom/example/long_lease/longlease/lease/LeaseState;" (.ref wBROKEN)) (E_AVAILABLE : Exa Z h0 wAVAILABLE "com/example/long_lease/longlease/lease/LeaseState") (E_LEASED : Exa Z h0 wLEASED "com/example/long_lease/longlease/lease/LeaseState") (E_EXPIRED : Exa Z h0 wEXPIRED "com/example/long_lease/longlease/lease/LeaseState") (E_BREAKING : Exa Z h0 wBREAKING "com/example/long_lease/longlease/lease/LeaseState") (E_BROKEN : Exa Z h0 wBROKEN "com/example/long_lease/longlease/lease/LeaseState") (ne_AVAILABLE_LEASED : ¬ wAVAILABLE = wLEASED) (ne_AVAILABLE_BREAKING : ¬ wAVAILABLE = wBREAKING) (ne_EXPIRED_LEASED : ¬ wEXPIRED = wLEASED) (ne_EXPIRED_BREAKING : ¬ wEXPIRED = wBREAKING) (ne_BREAKING_LEASED : ¬ wBREAKING = wLEASED) (ne_BROKEN_LEASED : ¬ wBROKEN = wLEASED) (ne_BROKEN_BREAKING : ¬ wBROKEN = wBREAKING) :
    MetFree l x (head1 (Jvm.Cond.code x code maxLocals ret :: ws) room_1) (fun aa_ U => aa_ = #[(.int x0)] ∧ Z.Warmed39 U.vm ∧ U.heap = h0) (fun _ _ _ _ _ => True) (fun _ U o U' => ∃ v L, o = .returned v ∧ Q_rm0 Z x0 wAVAILABLE wLEASED wEXPIRED wBREAKING wBROKEN h0 n0 v U'.heap L ∧ FrameEnd U o U' L room_1.cells room_1.slots) := by
  refine MetFree.of_bodySF (plainFor_of_name pn_1) hisR ?_
  intro p e s m args below meth c s₁ Bd hml0 hP hK
  obtain ⟨rfl, hZ, hh⟩ := hP
  have hx := Bd.exec
  have hby := Bd.bytes
  have hml : c.maxLocals = 4 := hml0
  have hown : s.vm.findClass "com/example/long_lease/longlease/lease/LeaseStateIsLockedPinLaw" = some m.cls := findClass_of_methodNamed Bd.named
  have hnm := (name_of_methodNamed Bd.named Bd.method).1
  have X0 : Stand p l e room_1 s m #[(.int x0)] below meth c s₁ [] 0 0 := Stand.of_body Bd
  have e0 : s₁.heap = h0 := by rw [← hh, Bd.state]; rfl
  have N0 := Fr.nil n0
  refine Ends.cast (P := EndN s room_1 (Q_rm0 Z x0 wAVAILABLE wLEASED wEXPIRED wBREAKING wBROKEN h0 n0)) (ef_rm0 m x0) ?_
  refine Ends.pre (T' := s₁.setTop (mkF m 1 #[.val (.int x0), .unset, .unset, .unset] [(.int x0)])) (fun t k => XS.iloadN X0.here hx rfl (hb hby at_0) rfl k) ?_
  refine Ends.pre (T' := s₁.setTop (mkF m 3 #[.val (.int x0), .unset, .unset, .unset] [(.int (2147483647 : Int32)), (.int x0)])) (fun t k => X0.ldcInt (index := 7) (v := (2147483647 : Int32)) hx hown (mvT hZ (hw _ (List.mem_of_getElem? (i := 0) rfl))) (g := (mkF m 1 #[.val (.int x0), .unset, .unset, .unset] [(.int x0)])) rfl (hb hby at_1) t k) ?_
  refine Ends.pre (T' := s₁.setTop (mkF m 4 #[.val (.int x0), .unset, .unset, .unset] [(.int (x0 &&& (2147483647 : Int32)))])) (fun t k => XS.iand X0.here hx rfl (hb hby at_3) rfl k) ?_
  refine Ends.pre (T' := s₁.setTop (mkF m 5 #[.val (.int x0), .unset, .unset, .unset] [(.int (5 : Int32)), (.int (x0 &&& (2147483647 : Int32)))])) (fun t k => XS.iconst X0.here hx rfl (hb hby at_4) k) ?_
  refine Ends.pre (T' := s₁.setTop (mkF m 6 #[.val (.int x0), .unset, .unset, .unset] [(.int ((x0 &&& (2147483647 : Int32)) % (5 : Int32)))])) (fun t k => iremM X0 hx rfl (hb hby at_5) rfl (by decide) k) ?_
  refine Ends.pre (T' := s₁.setTop (mkF m 7 #[.val (.int x0), .val (.int ((x0 &&& (2147483647 : Int32)) % (5 : Int32))), .unset, .unset] [])) (fun t k => XS.istoreN X0.here hx rfl (hb hby at_6) rfl (l' := #[.val (.int x0), .val (.int ((x0 &&& (2147483647 : Int32)) % (5 : Int32))), .unset, .unset]) rfl k) ?_
  refine Ends.pre (T' := s₁.setTop (mkF m 8 #[.val (.int x0), .val (.int ((x0 &&& (2147483647 : Int32)) % (5 : Int32))), .unset, .unset] [(.int ((x0 &&& (2147483647 : Int32)) % (5 : Int32)))])) (fun t k => XS.iloadN X0.here hx rfl (hb hby at_7) rfl k) ?_
  by_cases hc8_1 : ((x0 &&& (2147483647 : Int32)) % (5 : Int32)) = 0
  · refine Ends.pre (T' := s₁.setTop (mkF m 11 #[.val (.int x0), .val (.int ((x0 &&& (2147483647 : Int32)) % (5 : Int32))), .unset, .unset] [])) (fun t k => XS.ifNo X0.here hx rfl (hb hby at_8) rfl (Jvm.Free.XT.i0_ne_f hc8_1) k) ?_
    obtain ⟨T2, X2, e2, st2⟩ := getS2 X0 hx hZ hown (host := "") (Or.inl (hw _ (List.mem_of_getElem? (i := 1) rfl))) Via.refl e0 S_AVAILABLE (g := (mkF m 11 #[.val (.int x0), .val (.int ((x0 &&& (2147483647 : Int32)) % (5 : Int32))), .unset, .unset] [])) rfl (hb hby at_11)
    refine Ends.pre (T' := T2.setTop (mkF m 14 #[.val (.int x0), .val (.int ((x0 &&& (2147483647 : Int32)) % (5 : Int32))), .unset, .unset] [(.ref wAVAILABLE)])) (fun t k => st2 _ k) ?_
    refine Ends.pre (T' := T2.setTop (mkF m 15 #[.val (.int x0), .val (.int ((x0 &&& (2147483647 : Int32)) % (5 : Int32))), .val (.ref wAVAILABLE), .unset] [])) (fun t k => XS.astoreN X2.here hx rfl (hb hby at_14) rfl rfl (l' := #[.val (.int x0), .val (.int ((x0 &&& (2147483647 : Int32)) % (5 : Int32))), .val (.ref wAVAILABLE), .unset]) rfl k) ?_
    refine Ends.pre (T' := T2.setTop (mkF m 16 #[.val (.int x0), .val (.int ((x0 &&& (2147483647 : Int32)) % (5 : Int32))), .val (.ref wAVAILABLE), .unset] [(.int (0 : Int32))])) (fun t k => XS.iconst X2.here hx rfl (hb hby at_15) k) ?_
    refine Ends.pre (T' := T2.setTop (mkF m 17 #[.val (.int x0), .val (.int ((x0 &&& (2147483647 : Int32)) % (5 : Int32))), .val (.ref wAVAILABLE), .val (.int (0 : Int32))] [])) (fun t k => XS.istoreN X2.here hx rfl (hb hby at_16) rfl (l' := #[.val (.int x0), .val (.int ((x0 &&& (2147483647 : Int32)) % (5 : Int32))), .val (.ref wAVAILABLE), .val (.int (0 : Int32))]) rfl k) ?_
    refine Ends.pre (T' := T2.setTop (mkF m 68 #[.val (.int x0), .val (.int ((x0 &&& (2147483647 : Int32)) % (5 : Int32))), .val (.ref wAVAILABLE), .val (.int (0 : Int32))] [])) (fun t k => XS.goto X2.here hx rfl (pc0 := 17) (pc' := 68) rfl (hb hby at_17) (by decide) (by decide) k) ?_
    refine Ends.pre (T' := T2.setTop (mkF m 69 #[.val (.int x0), .val (.int ((x0 &&& (2147483647 : Int32)) % (5 : Int32))), .val (.ref wAVAILABLE), .val (.int (0 : Int32))] [(.ref wAVAILABLE)])) (fun t k => XS.aloadN X2.here hx rfl (hb hby at_68) rfl rfl k) ?_
    obtain ⟨cq3, kq3, q3a, q3b, q3c⟩ := isOf hZ e2 E_AVAILABLE
    obtain ⟨_, _, ⟨T3, L3, k3, n3⟩, -, X3, ⟨Lc3, hQ3, l3, y3, z3⟩, st3⟩ := X2.virtualBack hx (y := (⟨"com/example/long_lease/longlease/lease/LeaseState", "isLocked", "()Z"⟩ : MethodName)) (z := (⟨"com/example/long_lease/longlease/lease/LeaseState", "isLocked", "()Z"⟩ : MethodName)) hown (mvT hZ (hw _ (List.mem_of_getElem? (i := 4) rfl))) (mvT hZ (hw _ (List.mem_of_getElem? (i := 5) rfl))) (notFace_of_selects (args := #[]) (mvT hZ (hw _ (List.mem_of_getElem? (i := 7) rfl)))) (mvT hZ (hw _ (List.mem_of_getElem? (i := 7) rfl))) (mvT hZ (hw _ (List.mem_of_getElem? (i := 6) rfl))) (by decide) (backOf (W := 0) (rm1 l Z a0 hw [] wAVAILABLE wLEASED wBREAKING h0 n0 Z0 S_LEASED S_BREAKING) hZ (hw _ (List.mem_of_getElem? (i := 8) rfl)) (hw _ (List.mem_of_getElem? (i := 2) rfl)) (by decide) (by decide)) q3a q3c (g := (mkF m 69 #[.val (.int x0), .val (.int ((x0 &&& (2147483647 : Int32)) % (5 : Int32))), .val (.ref wAVAILABLE), .val (.int (0 : Int32))] [(.ref wAVAILABLE)])) rfl (by rw [hml]; rfl) (Steps.refl _) (argsL := []) (rest := []) (lenOf pd_0 rfl) rfl (by show 2 * 0 + _ ≤ _; exact Nat.le_of_eq rfl) (hb hby at_69) (fun _ _ => ⟨rfl, e2, (by decide : 0 + 0 ≤ _), (by decide : 0 + 0 ≤ _)⟩)
    dsimp only [Pt.U, Pt.locs, Pt.cells, Pt.slots] at X3 l3 y3 z3 st3 hQ3
    subst l3 y3 z3
    obtain ⟨rfl, N3q, eh3⟩ := hQ3
    have N3 := Fr.app N0 N3q
    rw [if_neg ne_AVAILABLE_LEASED, if_neg ne_AVAILABLE_BREAKING] at st3
    refine Ends.pre (T' := T3.setTop (mkF m 72 #[.val (.int x0), .val (.int ((x0 &&& (2147483647 : Int32)) % (5 : Int32))), .val (.ref wAVAILABLE), .val (.int (0 : Int32))] [(.int (0 : Int32))])) (fun t k => st3.trans k) ?_
    refine Ends.pre (T' := T3.setTop (mkF m 73 #[.val (.int x0), .val (.int ((x0 &&& (2147483647 : Int32)) % (5 : Int32))), .val (.ref wAVAILABLE), .val (.int (0 : Int32))] [(.int (0 : Int32)), (.int (0 : Int32))])) (fun t k => XS.iloadN X3.here hx rfl (hb hby at_72) rfl k) ?_
    refine Ends.pre (T' := T3.setTop (mkF m 76 #[.val (.int x0), .val (.int ((x0 &&& (2147483647 : Int32)) % (5 : Int32))), .val (.ref wAVAILABLE), .val (.int (0 : Int32))] [])) (fun t k => XS.icmpNo X3.here hx rfl (hb hby at_73) rfl (by decide) k) ?_
    refine Ends.pre (T' := T3.setTop (mkF m 77 #[.val (.int x0), .val (.int ((x0 &&& (2147483647 : Int32)) % (5 : Int32))), .val (.ref wAVAILABLE), .val (.int (0 : Int32))] [(.int (1 : Int32))])) (fun t k => XS.iconst X3.here hx rfl (hb hby at_76) k) ?_
    refine Ends.pre (T' := T3.setTop (mkF m 81 #[.val (.int x0), .val (.int ((x0 &&& (2147483647 : Int32)) % (5 : Int32))), .val (.ref wAVAILABLE), .val (.int (0 : Int32))] [(.int (1 : Int32))])) (fun t k => XS.goto X3.here hx rfl (pc0 := 77) (pc' := 81) rfl (hb hby at_77) (by decide) (by decide) k) ?_
    exact Ends.ret (w := (.int (1 : Int32))) X3 hx Bd.notSynchronized Bd.returns rfl (Or.inl ⟨rfl, Or.inr (Or.inl rfl), _, rfl⟩) (hb hby at_81) eh3 ⟨rfl, N3⟩ (by decide) (by decide)
  · refine Ends.pre (T' := s₁.setTop (mkF m 20 #[.val (.int x0), .val (.int ((x0 &&& (2147483647 : Int32)) % (5 : Int32))), .unset, .unset] [])) (fun t k => XS.ifYes X0.here hx rfl (pc0 := 8) (pc' := 20) rfl (hb hby at_8) rfl (Jvm.Free.XT.i0_ne_t hc8_1) (by decide) (by decide) k) ?_
    refine Ends.pre (T' := s₁.setTop (mkF m 21 #[.val (.int x0), .val (.int ((x0 &&& (2147483647 : Int32)) % (5 : Int32))), .unset, .unset] [(.int ((x0 &&& (2147483647 : Int32)) % (5 : Int32)))])) (fun t k => XS.iloadN X0.here hx rfl (hb hby at_20) rfl k) ?_
    refine Ends.pre (T' := s₁.setTop (mkF m 22 #[.val (.int x0), .val (.int ((x0 &&& (2147483647 : Int32)) % (5 : Int32))), .unset, .unset] [(.int (1 : Int32)), (.int ((x0 &&& (2147483647 : Int32)) % (5 : Int32)))])) (fun t k => XS.iconst X0.here hx rfl (hb hby at_21) k) ?_
    by_cases hc22_4 : ((x0 &&& (2147483647 : Int32)) % (5 : Int32)) = (1 : Int32)
    · refine Ends.pre (T' := s₁.setTop (mkF m 25 #[.val (.int x0), .val (.int ((x0 &&& (2147483647 : Int32)) % (5 : Int32))), .unset, .unset] [])) (fun t k => XS.icmpNo X0.here hx rfl (hb hby at_22) rfl (Jvm.Free.XT.ii_ne_f hc22_4) k) ?_
      obtain ⟨T5, X5, e5, st5⟩ := getS2 X0 hx hZ hown (host := "") (Or.inl (hw _ (List.mem_of_getElem? (i := 14) rfl))) Via.refl e0 S_LEASED (g := (mkF m 25 #[.val (.int x0), .val (.int ((x0 &&& (2147483647 : Int32)) % (5 : Int32))), .unset, .unset] [])) rfl (hb hby at_25)
      refine Ends.pre (T' := T5.setTop (mkF m 28 #[.val (.int x0), .val (.int ((x0 &&& (2147483647 : Int32)) % (5 : Int32))), .unset, .unset] [(.ref wLEASED)])) (fun t k => st5 _ k) ?_
      refine Ends.pre (T' := T5.setTop (mkF m 29 #[.val (.int x0), .val (.int ((x0 &&& (2147483647 : Int32)) % (5 : Int32))), .val (.ref wLEASED), .unset] [])) (fun t k => XS.astoreN X5.here hx rfl (hb hby at_28) rfl rfl (l' := #[.val (.int x0), .val (.int ((x0 &&& (2147483647 : Int32)) % (5 : Int32))), .val (.ref wLEASED), .unset]) rfl k) ?_
      refine Ends.pre (T' := T5.setTop (mkF m 30 #[.val (.int x0), .val (.int ((x0 &&& (2147483647 : Int32)) % (5 : Int32))), .val (.ref wLEASED), .unset] [(.int (1 : Int32))])) (fun t k => XS.iconst X5.here hx rfl (hb hby at_29) k) ?_
      refine Ends.pre (T' := T5.setTop (mkF m 31 #[.val (.int x0), .val (.int ((x0 &&& (2147483647 : Int32)) % (5 : Int32))), .val (.ref wLEASED), .val (.int (1 : Int32))] [])) (fun t k => XS.istoreN X5.here hx rfl (hb hby at_30) rfl (l' := #[.val (.int x0), .val (.int ((x0 &&& (2147483647 : Int32)) % (5 : Int32))), .val (.ref wLEASED), .val (.int (1 : Int32))]) rfl k) ?_
      refine Ends.pre (T' := T5.setTop (mkF m 68 #[.val (.int x0), .val (.int ((x0 &&& (2147483647 : Int32)) % (5 : Int32))), .val (.ref wLEASED), .val (.int (1 : Int32))] [])) (fun t k => XS.goto X5.here hx rfl (pc0 := 31) (pc' := 68) rfl (hb hby at_31) (by decide) (by decide) k) ?_
      refine Ends.pre (T' := T5.setTop (mkF m 69 #[.val (.int x0), .val (.int ((x0 &&& (2147483647 : Int32)) % (5 : Int32))), .val (.ref wLEASED), .val (.int (1 : Int32))] [(.ref wLEASED)])) (fun t k => XS.aloadN X5.here hx rfl (hb hby at_68) rfl rfl k) ?_
      obtain ⟨cq6, kq6, q6a, q6b, q6c⟩ := isOf hZ e5 E_LEASED
      obtain ⟨_, _, ⟨T6, L6, k6, n6⟩, -, X6, ⟨Lc6, hQ6, l6, y6, z6⟩, st6⟩ := X5.virtualBack hx (y := (⟨"com/example/long_lease/longlease/lease/LeaseState", "isLocked", "()Z"⟩ : MethodName)) (z := (⟨"com/example/long_lease/longlease/lease/LeaseState", "isLocked", "()Z"⟩ : MethodName)) hown (mvT hZ (hw _ (List.mem_of_getElem? (i := 4) rfl))) (mvT hZ (hw _ (List.mem_of_getElem? (i := 5) rfl))) (notFace_of_selects (args := #[]) (mvT hZ (hw _ (List.mem_of_getElem? (i := 7) rfl)))) (mvT hZ (hw _ (List.mem_of_getElem? (i := 7) rfl))) (mvT hZ (hw _ (List.mem_of_getElem? (i := 6) rfl))) (by decide) (backOf (W := 0) (rm1 l Z a0 hw [] wLEASED wLEASED wBREAKING h0 n0 Z0 S_LEASED S_BREAKING) hZ (hw _ (List.mem_of_getElem? (i := 8) rfl)) (hw _ (List.mem_of_getElem? (i := 2) rfl)) (by decide) (by decide)) q6a q6c (g := (mkF m 69 #[.val (.int x0), .val (.int ((x0 &&& (2147483647 : Int32)) % (5 : Int32))), .val (.ref wLEASED), .val (.int (1 : Int32))] [(.ref wLEASED)])) rfl (by rw [hml]; rfl) (Steps.refl _) (argsL := []) (rest := []) (lenOf pd_0 rfl) rfl (by show 2 * 0 + _ ≤ _; exact Nat.le_of_eq rfl) (hb hby at_69) (fun _ _ => ⟨rfl, e5, (by decide : 0 + 0 ≤ _), (by decide : 0 + 0 ≤ _)⟩)
      dsimp only [Pt.U, Pt.locs, Pt.cells, Pt.slots] at X6 l6 y6 z6 st6 hQ6
      subst l6 y6 z6
      obtain ⟨rfl, N6q, eh6⟩ := hQ6
      have N6 := Fr.app N0 N6q
      rw [if_pos rfl] at st6
      refine Ends.pre (T' := T6.setTop (mkF m 72 #[.val (.int x0), .val (.int ((x0 &&& (2147483647 : Int32)) % (5 : Int32))), .val (.ref wLEASED), .val (.int (1 : Int32))] [(.int (1 : Int32))])) (fun t k => st6.trans k) ?_
      refine Ends.pre (T' := T6.setTop (mkF m 73 #[.val (.int x0), .val (.int ((x0 &&& (2147483647 : Int32)) % (5 : Int32))), .val (.ref wLEASED), .val (.int (1 : Int32))] [(.int (1 : Int32)), (.int (1 : Int32))])) (fun t k => XS.iloadN X6.here hx rfl (hb hby at_72) rfl k) ?_
      refine Ends.pre (T' := T6.setTop (mkF m 76 #[.val (.int x0), .val (.int ((x0 &&& (2147483647 : Int32)) % (5 : Int32))), .val (.ref wLEASED), .val (.int (1 : Int32))] [])) (fun t k => XS.icmpNo X6.here hx rfl (hb hby at_73) rfl (by decide) k) ?_
      refine Ends.pre (T' := T6.setTop (mkF m 77 #[.val (.int x0), .val (.int ((x0 &&& (2147483647 : Int32)) % (5 : Int32))), .val (.ref wLEASED), .val (.int (1 : Int32))] [(.int (1 : Int32))])) (fun t k => XS.iconst X6.here hx rfl (hb hby at_76) k) ?_
      refine Ends.pre (T' := T6.setTop (mkF m 81 #[.val (.int x0), .val (.int ((x0 &&& (2147483647 : Int32)) % (5 : Int32))), .val (.ref wLEASED), .val (.int (1 : Int32))] [(.int (1 : Int32))])) (fun t k => XS.goto X6.here hx rfl (pc0 := 77) (pc' := 81) rfl (hb hby at_77) (by decide) (by decide) k) ?_
      exact Ends.ret (w := (.int (1 : Int32))) X6 hx Bd.notSynchronized Bd.returns rfl (Or.inl ⟨rfl, Or.inr (Or.inl rfl), _, rfl⟩) (hb hby at_81) eh6 ⟨rfl, N6⟩ (by decide) (by decide)
    · refine Ends.pre (T' := s₁.setTop (mkF m 34 #[.val (.int x0), .val (.int ((x0 &&& (2147483647 : Int32)) % (5 : Int32))), .unset, .unset] [])) (fun t k => XS.icmpYes X0.here hx rfl (pc0 := 22) (pc' := 34) rfl (hb hby at_22) rfl (Jvm.Free.XT.ii_ne_t hc22_4) (by decide) (by decide) k) ?_
      refine Ends.pre (T' := s₁.setTop (mkF m 35 #[.val (.int x0), .val (.int ((x0 &&& (2147483647 : Int32)) % (5 : Int32))), .unset, .unset] [(.int ((x0 &&& (2147483647 : Int32)) % (5 : Int32)))])) (fun t k => XS.iloadN X0.here hx rfl (hb hby at_34) rfl k) ?_
      refine Ends.pre (T' := s₁.setTop (mkF m 36 #[.val (.int x0), .val (.int ((x0 &&& (2147483647 : Int32)) % (5 : Int32))), .unset, .unset] [(.int (2 : Int32)), (.int ((x0 &&& (2147483647 : Int32)) % (5 : Int32)))])) (fun t k => XS.iconst X0.here hx rfl (hb hby at_35) k) ?_
      by_cases hc36_7 : ((x0 &&& (2147483647 : Int32)) % (5 : Int32)) = (2 : Int32)
      · refine Ends.pre (T' := s₁.setTop (mkF m 39 #[.val (.int x0), .val (.int ((x0 &&& (2147483647 : Int32)) % (5 : Int32))), .unset, .unset] [])) (fun t k => XS.icmpNo X0.here hx rfl (hb hby at_36) rfl (Jvm.Free.XT.ii_ne_f hc36_7) k) ?_
        obtain ⟨T8, X8, e8, st8⟩ := getS2 X0 hx hZ hown (host := "") (Or.inl (hw _ (List.mem_of_getElem? (i := 17) rfl))) Via.refl e0 S_EXPIRED (g := (mkF m 39 #[.val (.int x0), .val (.int ((x0 &&& (2147483647 : Int32)) % (5 : Int32))), .unset, .unset] [])) rfl (hb hby at_39)
        refine Ends.pre (T' := T8.setTop (mkF m 42 #[.val (.int x0), .val (.int ((x0 &&& (2147483647 : Int32)) % (5 : Int32))), .unset, .unset] [(.ref wEXPIRED)])) (fun t k => st8 _ k) ?_
        refine Ends.pre (T' := T8.setTop (mkF m 43 #[.val (.int x0), .val (.int ((x0 &&& (2147483647 : Int32)) % (5 : Int32))), .val (.ref wEXPIRED), .unset] [])) (fun t k => XS.astoreN X8.here hx rfl (hb hby at_42) rfl rfl (l' := #[.val (.int x0), .val (.int ((x0 &&& (2147483647 : Int32)) % (5 : Int32))), .val (.ref wEXPIRED), .unset]) rfl k) ?_
        refine Ends.pre (T' := T8.setTop (mkF m 44 #[.val (.int x0), .val (.int ((x0 &&& (2147483647 : Int32)) % (5 : Int32))), .val (.ref wEXPIRED), .unset] [(.int (0 : Int32))])) (fun t k => XS.iconst X8.here hx rfl (hb hby at_43) k) ?_
        refine Ends.pre (T' := T8.setTop (mkF m 45 #[.val (.int x0), .val (.int ((x0 &&& (2147483647 : Int32)) % (5 : Int32))), .val (.ref wEXPIRED), .val (.int (0 : Int32))] [])) (fun t k => XS.istoreN X8.here hx rfl (hb hby at_44) rfl (l' := #[.val (.int x0), .val (.int ((x0 &&& (2147483647 : Int32)) % (5 : Int32))), .val (.ref wEXPIRED), .val (.int (0 : Int32))]) rfl k) ?_
        refine Ends.pre (T' := T8.setTop (mkF m 68 #[.val (.int x0), .val (.int ((x0 &&& (2147483647 : Int32)) % (5 : Int32))), .val (.ref wEXPIRED), .val (.int (0 : Int32))] [])) (fun t k => XS.goto X8.here hx rfl (pc0 := 45) (pc' := 68) rfl (hb hby at_45) (by decide) (by decide) k) ?_
        refine Ends.pre (T' := T8.setTop (mkF m 69 #[.val (.int x0), .val (.int ((x0 &&& (2147483647 : Int32)) % (5 : Int32))), .val (.ref wEXPIRED), .val (.int (0 : Int32))] [(.ref wEXPIRED)])) (fun t k => XS.aloadN X8.here hx rfl (hb hby at_68) rfl rfl k) ?_
        obtain ⟨cq9, kq9, q9a, q9b, q9c⟩ := isOf hZ e8 E_EXPIRED
        obtain ⟨_, _, ⟨T9, L9, k9, n9⟩, -, X9, ⟨Lc9, hQ9, l9, y9, z9⟩, st9⟩ := X8.virtualBack hx (y := (⟨"com/example/long_lease/longlease/lease/LeaseState", "isLocked", "()Z"⟩ : MethodName)) (z := (⟨"com/example/long_lease/longlease/lease/LeaseState", "isLocked", "()Z"⟩ : MethodName)) hown (mvT hZ (hw _ (List.mem_of_getElem? (i := 4) rfl))) (mvT hZ (hw _ (List.mem_of_getElem? (i := 5) rfl))) (notFace_of_selects (args := #[]) (mvT hZ (hw _ (List.mem_of_getElem? (i := 7) rfl)))) (mvT hZ (hw _ (List.mem_of_getElem? (i := 7) rfl))) (mvT hZ (hw _ (List.mem_of_getElem? (i := 6) rfl))) (by decide) (backOf (W := 0) (rm1 l Z a0 hw [] wEXPIRED wLEASED wBREAKING h0 n0 Z0 S_LEASED S_BREAKING) hZ (hw _ (List.mem_of_getElem? (i := 8) rfl)) (hw _ (List.mem_of_getElem? (i := 2) rfl)) (by decide) (by decide)) q9a q9c (g := (mkF m 69 #[.val (.int x0), .val (.int ((x0 &&& (2147483647 : Int32)) % (5 : Int32))), .val (.ref wEXPIRED), .val (.int (0 : Int32))] [(.ref wEXPIRED)])) rfl (by rw [hml]; rfl) (Steps.refl _) (argsL := []) (rest := []) (lenOf pd_0 rfl) rfl (by show 2 * 0 + _ ≤ _; exact Nat.le_of_eq rfl) (hb hby at_69) (fun _ _ => ⟨rfl, e8, (by decide : 0 + 0 ≤ _), (by decide : 0 + 0 ≤ _)⟩)
        dsimp only [Pt.U, Pt.locs, Pt.cells, Pt.slots] at X9 l9 y9 z9 st9 hQ9
        subst l9 y9 z9
        obtain ⟨rfl, N9q, eh9⟩ := hQ9
        have N9 := Fr.app N0 N9q
        rw [if_neg ne_EXPIRED_LEASED, if_neg ne_EXPIRED_BREAKING] at st9
        refine Ends.pre (T' := T9.setTop (mkF m 72 #[.val (.int x0), .val (.int ((x0 &&& (2147483647 : Int32)) % (5 : Int32))), .val (.ref wEXPIRED), .val (.int (0 : Int32))] [(.int (0 : Int32))])) (fun t k => st9.trans k) ?_
        refine Ends.pre (T' := T9.setTop (mkF m 73 #[.val (.int x0), .val (.int ((x0 &&& (2147483647 : Int32)) % (5 : Int32))), .val (.ref wEXPIRED), .val (.int (0 : Int32))] [(.int (0 : Int32)), (.int (0 : Int32))])) (fun t k => XS.iloadN X9.here hx rfl (hb hby at_72) rfl k) ?_
        refine Ends.pre (T' := T9.setTop (mkF m 76 #[.val (.int x0), .val (.int ((x0 &&& (2147483647 : Int32)) % (5 : Int32))), .val (.ref wEXPIRED), .val (.int (0 : Int32))] [])) (fun t k => XS.icmpNo X9.here hx rfl (hb hby at_73) rfl (by decide) k) ?_
        refine Ends.pre (T' := T9.setTop (mkF m 77 #[.val (.int x0), .val (.int ((x0 &&& (2147483647 : Int32)) % (5 : Int32))), .val (.ref wEXPIRED), .val (.int (0 : Int32))] [(.int (1 : Int32))])) (fun t k => XS.iconst X9.here hx rfl (hb hby at_76) k) ?_
        refine Ends.pre (T' := T9.setTop (mkF m 81 #[.val (.int x0), .val (.int ((x0 &&& (2147483647 : Int32)) % (5 : Int32))), .val (.ref wEXPIRED), .val (.int (0 : Int32))] [(.int (1 : Int32))])) (fun t k => XS.goto X9.here hx rfl (pc0 := 77) (pc' := 81) rfl (hb hby at_77) (by decide) (by decide) k) ?_
        exact Ends.ret (w := (.int (1 : Int32))) X9 hx Bd.notSynchronized Bd.returns rfl (Or.inl ⟨rfl, Or.inr (Or.inl rfl), _, rfl⟩) (hb hby at_81) eh9 ⟨rfl, N9⟩ (by decide) (by decide)
      · refine Ends.pre (T' := s₁.setTop (mkF m 48 #[.val (.int x0), .val (.int ((x0 &&& (2147483647 : Int32)) % (5 : Int32))), .unset, .unset] [])) (fun t k => XS.icmpYes X0.here hx rfl (pc0 := 36) (pc' := 48) rfl (hb hby at_36) rfl (Jvm.Free.XT.ii_ne_t hc36_7) (by decide) (by decide) k) ?_
        refine Ends.pre (T' := s₁.setTop (mkF m 49 #[.val (.int x0), .val (.int ((x0 &&& (2147483647 : Int32)) % (5 : Int32))), .unset, .unset] [(.int ((x0 &&& (2147483647 : Int32)) % (5 : Int32)))])) (fun t k => XS.iloadN X0.here hx rfl (hb hby at_48) rfl k) ?_
        refine Ends.pre (T' := s₁.setTop (mkF m 50 #[.val (.int x0), .val (.int ((x0 &&& (2147483647 : Int32)) % (5 : Int32))), .unset, .unset] [(.int (3 : Int32)), (.int ((x0 &&& (2147483647 : Int32)) % (5 : Int32)))])) (fun t k => XS.iconst X0.here hx rfl (hb hby at_49) k) ?_
        by_cases hc50_10 : ((x0 &&& (2147483647 : Int32)) % (5 : Int32)) = (3 : Int32)
        · refine Ends.pre (T' := s₁.setTop (mkF m 53 #[.val (.int x0), .val (.int ((x0 &&& (2147483647 : Int32)) % (5 : Int32))), .unset, .unset] [])) (fun t k => XS.icmpNo X0.here hx rfl (hb hby at_50) rfl (Jvm.Free.XT.ii_ne_f hc50_10) k) ?_
          obtain ⟨T11, X11, e11, st11⟩ := getS2 X0 hx hZ hown (host := "") (Or.inl (hw _ (List.mem_of_getElem? (i := 13) rfl))) Via.refl e0 S_BREAKING (g := (mkF m 53 #[.val (.int x0), .val (.int ((x0 &&& (2147483647 : Int32)) % (5 : Int32))), .unset, .unset] [])) rfl (hb hby at_53)
          refine Ends.pre (T' := T11.setTop (mkF m 56 #[.val (.int x0), .val (.int ((x0 &&& (2147483647 : Int32)) % (5 : Int32))), .unset, .unset] [(.ref wBREAKING)])) (fun t k => st11 _ k) ?_
          refine Ends.pre (T' := T11.setTop (mkF m 57 #[.val (.int x0), .val (.int ((x0 &&& (2147483647 : Int32)) % (5 : Int32))), .val (.ref wBREAKING), .unset] [])) (fun t k => XS.astoreN X11.here hx rfl (hb hby at_56) rfl rfl (l' := #[.val (.int x0), .val (.int ((x0 &&& (2147483647 : Int32)) % (5 : Int32))), .val (.ref wBREAKING), .unset]) rfl k) ?_
          refine Ends.pre (T' := T11.setTop (mkF m 58 #[.val (.int x0), .val (.int ((x0 &&& (2147483647 : Int32)) % (5 : Int32))), .val (.ref wBREAKING), .unset] [(.int (1 : Int32))])) (fun t k => XS.iconst X11.here hx rfl (hb hby at_57) k) ?_
          refine Ends.pre (T' := T11.setTop (mkF m 59 #[.val (.int x0), .val (.int ((x0 &&& (2147483647 : Int32)) % (5 : Int32))), .val (.ref wBREAKING), .val (.int (1 : Int32))] [])) (fun t k => XS.istoreN X11.here hx rfl (hb hby at_58) rfl (l' := #[.val (.int x0), .val (.int ((x0 &&& (2147483647 : Int32)) % (5 : Int32))), .val (.ref wBREAKING), .val (.int (1 : Int32))]) rfl k) ?_
          refine Ends.pre (T' := T11.setTop (mkF m 68 #[.val (.int x0), .val (.int ((x0 &&& (2147483647 : Int32)) % (5 : Int32))), .val (.ref wBREAKING), .val (.int (1 : Int32))] [])) (fun t k => XS.goto X11.here hx rfl (pc0 := 59) (pc' := 68) rfl (hb hby at_59) (by decide) (by decide) k) ?_
          refine Ends.pre (T' := T11.setTop (mkF m 69 #[.val (.int x0), .val (.int ((x0 &&& (2147483647 : Int32)) % (5 : Int32))), .val (.ref wBREAKING), .val (.int (1 : Int32))] [(.ref wBREAKING)])) (fun t k => XS.aloadN X11.here hx rfl (hb hby at_68) rfl rfl k) ?_
          obtain ⟨cq12, kq12, q12a, q12b, q12c⟩ := isOf hZ e11 E_BREAKING
          obtain ⟨_, _, ⟨T12, L12, k12, n12⟩, -, X12, ⟨Lc12, hQ12, l12, y12, z12⟩, st12⟩ := X11.virtualBack hx (y := (⟨"com/example/long_lease/longlease/lease/LeaseState", "isLocked", "()Z"⟩ : MethodName)) (z := (⟨"com/example/long_lease/longlease/lease/LeaseState", "isLocked", "()Z"⟩ : MethodName)) hown (mvT hZ (hw _ (List.mem_of_getElem? (i := 4) rfl))) (mvT hZ (hw _ (List.mem_of_getElem? (i := 5) rfl))) (notFace_of_selects (args := #[]) (mvT hZ (hw _ (List.mem_of_getElem? (i := 7) rfl)))) (mvT hZ (hw _ (List.mem_of_getElem? (i := 7) rfl))) (mvT hZ (hw _ (List.mem_of_getElem? (i := 6) rfl))) (by decide) (backOf (W := 0) (rm1 l Z a0 hw [] wBREAKING wLEASED wBREAKING h0 n0 Z0 S_LEASED S_BREAKING) hZ (hw _ (List.mem_of_getElem? (i := 8) rfl)) (hw _ (List.mem_of_getElem? (i := 2) rfl)) (by decide) (by decide)) q12a q12c (g := (mkF m 69 #[.val (.int x0), .val (.int ((x0 &&& (2147483647 : Int32)) % (5 : Int32))), .val (.ref wBREAKING), .val (.int (1 : Int32))] [(.ref wBREAKING)])) rfl (by rw [hml]; rfl) (Steps.refl _) (argsL := []) (rest := []) (lenOf pd_0 rfl) rfl (by show 2 * 0 + _ ≤ _; exact Nat.le_of_eq rfl) (hb hby at_69) (fun _ _ => ⟨rfl, e11, (by decide : 0 + 0 ≤ _), (by decide : 0 + 0 ≤ _)⟩)
          dsimp only [Pt.U, Pt.locs, Pt.cells, Pt.slots] at X12 l12 y12 z12 st12 hQ12
          subst l12 y12 z12
          obtain ⟨rfl, N12q, eh12⟩ := hQ12
          have N12 := Fr.app N0 N12q
          rw [if_neg ne_BREAKING_LEASED, if_pos rfl] at st12
          refine Ends.pre (T' := T12.setTop (mkF m 72 #[.val (.int x0), .val (.int ((x0 &&& (2147483647 : Int32)) % (5 : Int32))), .val (.ref wBREAKING), .val (.int (1 : Int32))] [(.int (1 : Int32))])) (fun t k => st12.trans k) ?_
          refine Ends.pre (T' := T12.setTop (mkF m 73 #[.val (.int x0), .val (.int ((x0 &&& (2147483647 : Int32)) % (5 : Int32))), .val (.ref wBREAKING), .val (.int (1 : Int32))] [(.int (1 : Int32)), (.int (1 : Int32))])) (fun t k => XS.iloadN X12.here hx rfl (hb hby at_72) rfl k) ?_
          refine Ends.pre (T' := T12.setTop (mkF m 76 #[.val (.int x0), .val (.int ((x0 &&& (2147483647 : Int32)) % (5 : Int32))), .val (.ref wBREAKING), .val (.int (1 : Int32))] [])) (fun t k => XS.icmpNo X12.here hx rfl (hb hby at_73) rfl (by decide) k) ?_
          refine Ends.pre (T' := T12.setTop (mkF m 77 #[.val (.int x0), .val (.int ((x0 &&& (2147483647 : Int32)) % (5 : Int32))), .val (.ref wBREAKING), .val (.int (1 : Int32))] [(.int (1 : Int32))])) (fun t k => XS.iconst X12.here hx rfl (hb hby at_76) k) ?_
          refine Ends.pre (T' := T12.setTop (mkF m 81 #[.val (.int x0), .val (.int ((x0 &&& (2147483647 : Int32)) % (5 : Int32))), .val (.ref wBREAKING), .val (.int (1 : Int32))] [(.int (1 : Int32))])) (fun t k => XS.goto X12.here hx rfl (pc0 := 77) (pc' := 81) rfl (hb hby at_77) (by decide) (by decide) k) ?_
          exact Ends.ret (w := (.int (1 : Int32))) X12 hx Bd.notSynchronized Bd.returns rfl (Or.inl ⟨rfl, Or.inr (Or.inl rfl), _, rfl⟩) (hb hby at_81) eh12 ⟨rfl, N12⟩ (by decide) (by decide)
        · refine Ends.pre (T' := s₁.setTop (mkF m 62 #[.val (.int x0), .val (.int ((x0 &&& (2147483647 : Int32)) % (5 : Int32))), .unset, .unset] [])) (fun t k => XS.icmpYes X0.here hx rfl (pc0 := 50) (pc' := 62) rfl (hb hby at_50) rfl (Jvm.Free.XT.ii_ne_t hc50_10) (by decide) (by decide) k) ?_
          obtain ⟨T13, X13, e13, st13⟩ := getS2 X0 hx hZ hown (host := "") (Or.inl (hw _ (List.mem_of_getElem? (i := 15) rfl))) Via.refl e0 S_BROKEN (g := (mkF m 62 #[.val (.int x0), .val (.int ((x0 &&& (2147483647 : Int32)) % (5 : Int32))), .unset, .unset] [])) rfl (hb hby at_62)
          refine Ends.pre (T' := T13.setTop (mkF m 65 #[.val (.int x0), .val (.int ((x0 &&& (2147483647 : Int32)) % (5 : Int32))), .unset, .unset] [(.ref wBROKEN)])) (fun t k => st13 _ k) ?_
          refine Ends.pre (T' := T13.setTop (mkF m 66 #[.val (.int x0), .val (.int ((x0 &&& (2147483647 : Int32)) % (5 : Int32))), .val (.ref wBROKEN), .unset] [])) (fun t k => XS.astoreN X13.here hx rfl (hb hby at_65) rfl rfl (l' := #[.val (.int x0), .val (.int ((x0 &&& (2147483647 : Int32)) % (5 : Int32))), .val (.ref wBROKEN), .unset]) rfl k) ?_
          refine Ends.pre (T' := T13.setTop (mkF m 67 #[.val (.int x0), .val (.int ((x0 &&& (2147483647 : Int32)) % (5 : Int32))), .val (.ref wBROKEN), .unset] [(.int (0 : Int32))])) (fun t k => XS.iconst X13.here hx rfl (hb hby at_66) k) ?_
          refine Ends.pre (T' := T13.setTop (mkF m 68 #[.val (.int x0), .val (.int ((x0 &&& (2147483647 : Int32)) % (5 : Int32))), .val (.ref wBROKEN), .val (.int (0 : Int32))] [])) (fun t k => XS.istoreN X13.here hx rfl (hb hby at_67) rfl (l' := #[.val (.int x0), .val (.int ((x0 &&& (2147483647 : Int32)) % (5 : Int32))), .val (.ref wBROKEN), .val (.int (0 : Int32))]) rfl k) ?_
          refine Ends.pre (T' := T13.setTop (mkF m 69 #[.val (.int x0), .val (.int ((x0 &&& (2147483647 : Int32)) % (5 : Int32))), .val (.ref wBROKEN), .val (.int (0 : Int32))] [(.ref wBROKEN)])) (fun t k => XS.aloadN X13.here hx rfl (hb hby at_68) rfl rfl k) ?_
          obtain ⟨cq14, kq14, q14a, q14b, q14c⟩ := isOf hZ e13 E_BROKEN
          obtain ⟨_, _, ⟨T14, L14, k14, n14⟩, -, X14, ⟨Lc14, hQ14, l14, y14, z14⟩, st14⟩ := X13.virtualBack hx (y := (⟨"com/example/long_lease/longlease/lease/LeaseState", "isLocked", "()Z"⟩ : MethodName)) (z := (⟨"com/example/long_lease/longlease/lease/LeaseState", "isLocked", "()Z"⟩ : MethodName)) hown (mvT hZ (hw _ (List.mem_of_getElem? (i := 4) rfl))) (mvT hZ (hw _ (List.mem_of_getElem? (i := 5) rfl))) (notFace_of_selects (args := #[]) (mvT hZ (hw _ (List.mem_of_getElem? (i := 7) rfl)))) (mvT hZ (hw _ (List.mem_of_getElem? (i := 7) rfl))) (mvT hZ (hw _ (List.mem_of_getElem? (i := 6) rfl))) (by decide) (backOf (W := 0) (rm1 l Z a0 hw [] wBROKEN wLEASED wBREAKING h0 n0 Z0 S_LEASED S_BREAKING) hZ (hw _ (List.mem_of_getElem? (i := 8) rfl)) (hw _ (List.mem_of_getElem? (i := 2) rfl)) (by decide) (by decide)) q14a q14c (g := (mkF m 69 #[.val (.int x0), .val (.int ((x0 &&& (2147483647 : Int32)) % (5 : Int32))), .val (.ref wBROKEN), .val (.int (0 : Int32))] [(.ref wBROKEN)])) rfl (by rw [hml]; rfl) (Steps.refl _) (argsL := []) (rest := []) (lenOf pd_0 rfl) rfl (by show 2 * 0 + _ ≤ _; exact Nat.le_of_eq rfl) (hb hby at_69) (fun _ _ => ⟨rfl, e13, (by decide : 0 + 0 ≤ _), (by decide : 0 + 0 ≤ _)⟩)
          dsimp only [Pt.U, Pt.locs, Pt.cells, Pt.slots] at X14 l14 y14 z14 st14 hQ14
          subst l14 y14 z14
          obtain ⟨rfl, N14q, eh14⟩ := hQ14
          have N14 := Fr.app N0 N14q
          rw [if_neg ne_BROKEN_LEASED, if_neg ne_BROKEN_BREAKING] at st14
          refine Ends.pre (T' := T14.setTop (mkF m 72 #[.val (.int x0), .val (.int ((x0 &&& (2147483647 : Int32)) % (5 : Int32))), .val (.ref wBROKEN), .val (.int (0 : Int32))] [(.int (0 : Int32))])) (fun t k => st14.trans k) ?_
          refine Ends.pre (T' := T14.setTop (mkF m 73 #[.val (.int x0), .val (.int ((x0 &&& (2147483647 : Int32)) % (5 : Int32))), .val (.ref wBROKEN), .val (.int (0 : Int32))] [(.int (0 : Int32)), (.int (0 : Int32))])) (fun t k => XS.iloadN X14.here hx rfl (hb hby at_72) rfl k) ?_
          refine Ends.pre (T' := T14.setTop (mkF m 76 #[.val (.int x0), .val (.int ((x0 &&& (2147483647 : Int32)) % (5 : Int32))), .val (.ref wBROKEN), .val (.int (0 : Int32))] [])) (fun t k => XS.icmpNo X14.here hx rfl (hb hby at_73) rfl (by decide) k) ?_
          refine Ends.pre (T' := T14.setTop (mkF m 77 #[.val (.int x0), .val (.int ((x0 &&& (2147483647 : Int32)) % (5 : Int32))), .val (.ref wBROKEN), .val (.int (0 : Int32))] [(.int (1 : Int32))])) (fun t k => XS.iconst X14.here hx rfl (hb hby at_76) k) ?_
          refine Ends.pre (T' := T14.setTop (mkF m 81 #[.val (.int x0), .val (.int ((x0 &&& (2147483647 : Int32)) % (5 : Int32))), .val (.ref wBROKEN), .val (.int (0 : Int32))] [(.int (1 : Int32))])) (fun t k => XS.goto X14.here hx rfl (pc0 := 77) (pc' := 81) rfl (hb hby at_77) (by decide) (by decide) k) ?_
          exact Ends.ret (w := (.int (1 : Int32))) X14 hx Bd.notSynchronized Bd.returns rfl (Or.inl ⟨rfl, Or.inr (Or.inl rfl), _, rfl⟩) (hb hby at_81) eh14 ⟨rfl, N14⟩ (by decide) (by decide)
set_option maxRecDepth 65536 in
set_option maxHeartbeats 40000000 in
theorem comes_1 {Post : Tables → Env → Array Value → State → Outcome → State → Prop} (hpost : ∀ tb e args s v u, (limb_1_1.after args s (.returned v) u = true ∧ limb_1_2.after args s (.returned v) u = true ∧ True) → FrameEnd s (.returned v) u (Jvm.fieldLocs frame_1_writes args s ++ Jvm.arrayLocs frame_1_arrays args s ++ Jvm.staticLocs frame_1_statics s) 0 0 → Post tb e args s (.returned v) u) :
    ArmFor flags0 classFile x code maxLocals ret World_1 tables_1 room_1 Calls_1 rest_1 Pre_1 Post := by
  intro l hfl _ _ p e ha hc hk s m args below hf hA hF happ hP
  obtain ⟨hcalls, hrest, hpre⟩ := hP
  obtain ⟨-, -, -, hnamed, -, -, -, hat⟩ := (Spec.applies_iff hf).mp happ
  obtain ⟨hg, hn⟩ := and_e (Cond.before_iff.mp (show (Jvm.Cond.and given_1 narrow_1).before args s = true from hpre))
  obtain ⟨gg1, gg2⟩ := and_e hg
  obtain ⟨gg3, gg4⟩ := and_e hn
  obtain ⟨gg5, gg6⟩ := and_e gg4
  obtain ⟨gg7, gg8⟩ := and_e gg6
  obtain ⟨gg9, gg10⟩ := and_e gg8
  obtain ⟨gg11, gg12⟩ := and_e gg10
  obtain ⟨gg13, gg14⟩ := and_e gg12
  obtain ⟨gg15, gg16⟩ := and_e gg14
  obtain ⟨gg17, gg18⟩ := and_e gg16
  obtain ⟨gg19, gg20⟩ := and_e gg18
  obtain ⟨w0, rfl⟩ : ∃ w0 : Value, args = #[w0] := by
    have hs : args.size = 1 := by simpa [Cond.value, given_1] using gg1
    obtain ⟨L⟩ := args
    match L, hs with
    | [w0], _ => exact ⟨w0, rfl⟩
  have hw := fun d (hd : d ∈ tables_1) => atoms_spec (ws := Jvm.Cond.code x code maxLocals ret :: tables_1) hat d (List.mem_cons_of_mem _ hd)
  have hfit : Fit s := fun {y c} hc i hi => by
    obtain ⟨ha, rfl⟩ := Array.getElem?_eq_some_iff.mp hc
    have q := List.all_eq_true.mp ((Array.all_eq_true_iff_forall_mem.mp hF) _ (Array.getElem_mem ha)) i (List.mem_range.mpr hi)
    simpa [Array.getElem?_eq_getElem hi] using q
  obtain ⟨i0, ei0⟩ := is_v gg2
  obtain rfl : w0 = (.int i0) := Option.some.inj ei0
  obtain ⟨st_AVAILABLE, ev_AVAILABLE⟩ := exa_v gg3
  have S_AVAILABLE : Sta s s.heap "com/example/long_lease/longlease/lease/LeaseState" "AVAILABLE" "Lcom/example/long_lease/longlease/lease/LeaseState;" (.ref st_AVAILABLE) := Sta.start ev_AVAILABLE (Or.inr ⟨(hw _ (List.mem_of_getElem? (i := 2) rfl)), (hw _ (List.mem_of_getElem? (i := 3) rfl))⟩)
  have E_AVAILABLE : Exa s s.heap st_AVAILABLE "com/example/long_lease/longlease/lease/LeaseState" := Exa.start ev_AVAILABLE gg3
  obtain ⟨st_LEASED, ev_LEASED⟩ := exa_v gg5
  have S_LEASED : Sta s s.heap "com/example/long_lease/longlease/lease/LeaseState" "LEASED" "Lcom/example/long_lease/longlease/lease/LeaseState;" (.ref st_LEASED) := Sta.start ev_LEASED (Or.inr ⟨(hw _ (List.mem_of_getElem? (i := 2) rfl)), (hw _ (List.mem_of_getElem? (i := 10) rfl))⟩)
  have E_LEASED : Exa s s.heap st_LEASED "com/example/long_lease/longlease/lease/LeaseState" := Exa.start ev_LEASED gg5
  obtain ⟨st_BREAKING, ev_BREAKING⟩ := exa_v gg11
  have S_BREAKING : Sta s s.heap "com/example/long_lease/longlease/lease/LeaseState" "BREAKING" "Lcom/example/long_lease/longlease/lease/LeaseState;" (.ref st_BREAKING) := Sta.start ev_BREAKING (Or.inr ⟨(hw _ (List.mem_of_getElem? (i := 2) rfl)), (hw _ (List.mem_of_getElem? (i := 12) rfl))⟩)
  have E_BREAKING : Exa s s.heap st_BREAKING "com/example/long_lease/longlease/lease/LeaseState" := Exa.start ev_BREAKING gg11
  obtain ⟨st_BROKEN, ev_BROKEN⟩ := exa_v gg15
  have S_BROKEN : Sta s s.heap "com/example/long_lease/longlease/lease/LeaseState" "BROKEN" "Lcom/example/long_lease/longlease/lease/LeaseState;" (.ref st_BROKEN) := Sta.start ev_BROKEN (Or.inr ⟨(hw _ (List.mem_of_getElem? (i := 2) rfl)), (hw _ (List.mem_of_getElem? (i := 16) rfl))⟩)
  have E_BROKEN : Exa s s.heap st_BROKEN "com/example/long_lease/longlease/lease/LeaseState" := Exa.start ev_BROKEN gg15
  obtain ⟨st_EXPIRED, ev_EXPIRED⟩ := exa_v gg19
  have S_EXPIRED : Sta s s.heap "com/example/long_lease/longlease/lease/LeaseState" "EXPIRED" "Lcom/example/long_lease/longlease/lease/LeaseState;" (.ref st_EXPIRED) := Sta.start ev_EXPIRED (Or.inr ⟨(hw _ (List.mem_of_getElem? (i := 2) rfl)), (hw _ (List.mem_of_getElem? (i := 18) rfl))⟩)
  have E_EXPIRED : Exa s s.heap st_EXPIRED "com/example/long_lease/longlease/lease/LeaseState" := Exa.start ev_EXPIRED gg19
  have O_AVAILABLE_ordinal : Fld s s.heap st_AVAILABLE "java/lang/Enum" "ordinal" "I" (.int (0 : Int32)) := Fld.start ((fld_at ev_AVAILABLE).symm.trans (eqI_v gg7))
  have O_LEASED_ordinal : Fld s s.heap st_LEASED "java/lang/Enum" "ordinal" "I" (.int (1 : Int32)) := Fld.start ((fld_at ev_LEASED).symm.trans (eqI_v gg9))
  have O_BREAKING_ordinal : Fld s s.heap st_BREAKING "java/lang/Enum" "ordinal" "I" (.int (3 : Int32)) := Fld.start ((fld_at ev_BREAKING).symm.trans (eqI_v gg13))
  have O_BROKEN_ordinal : Fld s s.heap st_BROKEN "java/lang/Enum" "ordinal" "I" (.int (4 : Int32)) := Fld.start ((fld_at ev_BROKEN).symm.trans (eqI_v gg17))
  have O_EXPIRED_ordinal : Fld s s.heap st_EXPIRED "java/lang/Enum" "ordinal" "I" (.int (2 : Int32)) := Fld.start ((fld_at ev_EXPIRED).symm.trans (eqI_v gg20))
  obtain ⟨n, o, h1, h2, h3, _, L, rfl, ⟨rfl, N⟩, hq⟩ := rm0 l s _ hw tables_1 i0 st_AVAILABLE st_LEASED st_EXPIRED st_BREAKING st_BROKEN s.heap s.heap.size (Nat.le_refl _) S_AVAILABLE S_LEASED S_EXPIRED S_BREAKING S_BROKEN E_AVAILABLE E_LEASED E_EXPIRED E_BREAKING E_BROKEN (Fld.ne O_AVAILABLE_ordinal O_LEASED_ordinal (by decide)) (Fld.ne O_AVAILABLE_ordinal O_BREAKING_ordinal (by decide)) (Fld.ne O_EXPIRED_ordinal O_LEASED_ordinal (by decide)) (Fld.ne O_EXPIRED_ordinal O_BREAKING_ordinal (by decide)) (Fld.ne O_BREAKING_ordinal O_LEASED_ordinal (by decide)) (Fld.ne O_BROKEN_ordinal O_LEASED_ordinal (by decide)) (Fld.ne O_BROKEN_ordinal O_BREAKING_ordinal (by decide)) p e ha hc hk s m _ below hf ((Spec.applies_iff_loose hf).mp happ).1 ⟨rfl, State.Warmed39.refl s, rfl⟩ trivial
  refine ⟨n, _, h1, h2, h3, hpost _ _ _ _ _ _ ⟨Cond.after_iff.mpr rfl, Cond.after_iff.mpr (eq_i res_at (Term.int_eval (1)) rfl), trivial⟩ ⟨hq.1, hq.2.1, (hq.2.2.sift fun y hy => Or.inr (N y hy)).mono (by decide) (by decide)⟩⟩
theorem main_1_1 : Claimed_1_1 := comes_1 fun _ _ _ _ _ _ h hF => ⟨h.1, hF⟩
theorem main_1_2 : Claimed_1_2 := comes_1 fun _ _ _ _ _ _ h hF => ⟨h.2.1, hF⟩
end Jvm.Pilot.@@N@@
namespace Jvm.Pilot.@@N@@
open Jvm Jvm.ClassFile Sem Op Lib Jvm.Free Jvm.Stand Jvm.Pilot.@@N@@.Jvm.D
/-! MADE BY PROGRAM (witnessworld.py) out of the Statement's table words and the real class files: 12 classes; the members and pool entries that the words name. The judged class is class 1, her method 1. -/
namespace start1
open Jvm.ClassFile
def u (s : String) : CpInfo := .utf8 (stringToUtf16 s)
/-- a pool by its gaps: so many unusable entries, then the entry; so many at the end -/
def gap : Nat → List CpInfo → List CpInfo
  | 0, r => r
  | n + 1, r => .unusable :: gap n r
def poolList (es : List (Nat × CpInfo)) (last : Nat) : List CpInfo := es.foldr (fun e r => gap e.1 (e.2 :: r)) (gap last [])
def pool (es : List (Nat × CpInfo)) (last : Nat) : Array CpInfo := ⟨poolList es last⟩
def fileOf (pool : Array CpInfo) (this : Nat) (attrs : Array Attribute := #[]) (ms : Array MethodInfo := #[]) (fl : Nat := 33) (sup : Nat := 0) (ifs : Array Nat := #[]) (fds : Array FieldInfo := #[]) : ClassFile where
  minorVersion := 0
  majorVersion := 65
  constantPool := pool
  accessFlags := fl
  thisClass := this
  superClass := sup
  interfaces := ifs
  fields := fds
  methods := ms
  attributes := attrs
def plain (name : String) (sup : Option ClassId) : Class where
  name := name
  kind := .ordinary
  loader := none
  accessFlags := 33
  super := sup
  interfaces := #[]
  cf := none
  fields := #[]
  methods := #[]
  instanceTypes := #[]
  staticTypes := #[]
  resolved := #[]
  callSites := []
  init := .initialized
  statics := none
  mirror := none

def pool0 : Array CpInfo := pool [(5, u "<init>"), (0, u "()V"), (1, .class_ 10), (1, u "java/lang/Object")] 113

def k0m0 : Method := { name := "<init>", desc := "()V", sig := { parameters := [], returnType := none }, accessFlags := 1, code := none }
/-- java/lang/Object -/
def k0 : Class := { plain "java/lang/Object" none with
  accessFlags := 33
  interfaces := #[]
  cf := some (fileOf pool0 8 #[] #[{ accessFlags := 1, nameIndex := 5, descriptorIndex := 6, attributes := #[] }] 33 0 #[] #[])
  fields := #[]
  methods := #[k0m0]
  instanceTypes := #[]
  staticTypes := #[]
  resolved := Array.replicate 124 none
  statics := none }

def pool1 : Array CpInfo := pool [(2, .class_ 4), (1, u "java/lang/Object"), (0, u "<init>"), (0, u "()V"), (0, .integer 2147483647), (0, .fieldref 9 10), (0, .class_ 11), (0, .nameAndType 12 13), (0, u "com/example/long_lease/longlease/lease/LeaseState"), (0, u "AVAILABLE"), (0, u "Lcom/example/long_lease/longlease/lease/LeaseState;"), (0, .fieldref 9 15), (0, .nameAndType 16 13), (0, u "LEASED"), (0, .fieldref 9 18), (0, .nameAndType 19 13), (0, u "EXPIRED"), (0, .fieldref 9 21), (0, .nameAndType 22 13), (0, u "BREAKING"), (0, .fieldref 9 24), (0, .nameAndType 25 13), (0, u "BROKEN"), (0, .methodref 9 27), (0, .nameAndType 28 29), (0, u "isLocked"), (0, u "()Z"), (0, .class_ 31), (0, u "com/example/long_lease/longlease/lease/LeaseStateIsLockedPinLaw"), (2, u "law"), (0, u "(I)Z")] 3

def k1m0 : Method := { name := "<init>", desc := "()V", sig := { parameters := [], returnType := none }, accessFlags := 1, code := none }
def k1c1 : Code := { maxStack := 2, maxLocals := 4, code := code, exceptionTable := #[], attributes := #[] }
def k1m1 : Method := { name := "law", desc := "(I)Z", sig := { parameters := [.int], returnType := some .boolean }, accessFlags := 9, code := some k1c1 }
/-- com/example/long_lease/longlease/lease/LeaseStateIsLockedPinLaw -/
def k1 : Class := { plain "com/example/long_lease/longlease/lease/LeaseStateIsLockedPinLaw" (some 0) with
  accessFlags := 49
  interfaces := #[]
  cf := some (fileOf pool1 30 #[] #[{ accessFlags := 1, nameIndex := 5, descriptorIndex := 6, attributes := #[] }, { accessFlags := 9, nameIndex := 34, descriptorIndex := 35, attributes := #[] }] 49 2 #[] #[])
  fields := #[]
  methods := #[k1m0, k1m1]
  instanceTypes := #[]
  staticTypes := #[]
  resolved := Array.replicate 39 none
  statics := none }

def pool2 : Array CpInfo := pool [(1, .class_ 2), (0, u "java/lang/constant/Constable"), (0, .class_ 4), (0, u "java/lang/Object")] 6

/-- java/lang/constant/Constable -/
def k2 : Class := { plain "java/lang/constant/Constable" (some 0) with
  accessFlags := 1537
  interfaces := #[]
  cf := some (fileOf pool2 1 #[] #[] 1537 3 #[] #[])
  fields := #[]
  methods := #[]
  instanceTypes := #[]
  staticTypes := #[]
  resolved := Array.replicate 11 none
  statics := none }

def pool3 : Array CpInfo := pool [(1, .class_ 2), (0, u "java/lang/Comparable"), (0, .class_ 4), (0, u "java/lang/Object")] 7

/-- java/lang/Comparable -/
def k3 : Class := { plain "java/lang/Comparable" (some 0) with
  accessFlags := 1537
  interfaces := #[]
  cf := some (fileOf pool3 1 #[] #[] 1537 3 #[] #[])
  fields := #[]
  methods := #[]
  instanceTypes := #[]
  staticTypes := #[]
  resolved := Array.replicate 12 none
  statics := none }

def pool4 : Array CpInfo := pool [(1, .class_ 2), (0, u "java/io/Serializable"), (0, .class_ 4), (0, u "java/lang/Object")] 2

/-- java/io/Serializable -/
def k4 : Class := { plain "java/io/Serializable" (some 0) with
  accessFlags := 1537
  interfaces := #[]
  cf := some (fileOf pool4 1 #[] #[] 1537 3 #[] #[])
  fields := #[]
  methods := #[]
  instanceTypes := #[]
  staticTypes := #[]
  resolved := Array.replicate 7 none
  statics := none }

def pool5 : Array CpInfo := pool [(2, .class_ 4), (1, u "java/lang/Enum"), (0, u "name"), (0, u "Ljava/lang/String;"), (2, u "ordinal"), (0, u "I"), (1, .class_ 14), (1, u "java/lang/Object"), (4, u "hash"), (86, .class_ 108), (1, u "java/lang/Enum$EnumDesc"), (2, .class_ 112), (0, u "java/lang/constant/Constable"), (0, .class_ 114), (0, u "java/lang/Comparable"), (0, .class_ 116), (0, u "java/io/Serializable")] 87

/-- java/lang/Enum -/
def k5 : Class := { plain "java/lang/Enum" (some 0) with
  accessFlags := 1057
  interfaces := #[2, 3, 4]
  cf := some (fileOf pool5 2 #[.nestMembers #[106]] #[] 1057 12 #[111, 113, 115] #[{ accessFlags := 18, nameIndex := 5, descriptorIndex := 6, attributes := #[] }, { accessFlags := 18, nameIndex := 9, descriptorIndex := 10, attributes := #[] }, { accessFlags := 2, nameIndex := 19, descriptorIndex := 10, attributes := #[] }])
  fields := #[{ name := "name", type := (.object "java/lang/String"), accessFlags := 18, slot := 0, constantValue := 0 }, { name := "ordinal", type := .int, accessFlags := 18, slot := 1, constantValue := 0 }, { name := "hash", type := .int, accessFlags := 2, slot := 2, constantValue := 0 }]
  methods := #[]
  instanceTypes := #[(.object "java/lang/String"), .int, .int]
  staticTypes := #[]
  resolved := Array.replicate 204 none
  statics := none }

def pool6 : Array CpInfo := pool [(1, .class_ 2), (0, u "com/example/long_lease/longlease/lease/LeaseState"), (2, u "AVAILABLE"), (0, u "Lcom/example/long_lease/longlease/lease/LeaseState;"), (0, .fieldref 1 8), (0, .nameAndType 9 6), (0, u "LEASED"), (2, u "EXPIRED"), (0, .fieldref 1 14), (0, .nameAndType 15 6), (0, u "BREAKING"), (2, u "BROKEN"), (2, u "$VALUES"), (0, u "[Lcom/example/long_lease/longlease/lease/LeaseState;"), (6, .class_ 31), (1, u "java/lang/Enum"), (23, u "isLocked"), (0, u "()Z")] 5

def k6c0 : Code := { maxStack := 2, maxLocals := 1, code := prog_19_method_4_code, exceptionTable := #[], attributes := #[] }
def k6m0 : Method := { name := "isLocked", desc := "()Z", sig := { parameters := [], returnType := some .boolean }, accessFlags := 1, code := some k6c0 }
/-- com/example/long_lease/longlease/lease/LeaseState -/
def k6 : Class := { plain "com/example/long_lease/longlease/lease/LeaseState" (some 5) with
  accessFlags := 16433
  interfaces := #[]
  cf := some (fileOf pool6 1 #[] #[{ accessFlags := 1, nameIndex := 55, descriptorIndex := 56, attributes := #[] }] 16433 29 #[] #[{ accessFlags := 16409, nameIndex := 5, descriptorIndex := 6, attributes := #[] }, { accessFlags := 16409, nameIndex := 9, descriptorIndex := 6, attributes := #[] }, { accessFlags := 16409, nameIndex := 12, descriptorIndex := 6, attributes := #[] }, { accessFlags := 16409, nameIndex := 15, descriptorIndex := 6, attributes := #[] }, { accessFlags := 16409, nameIndex := 18, descriptorIndex := 6, attributes := #[] }, { accessFlags := 4122, nameIndex := 21, descriptorIndex := 22, attributes := #[] }])
  fields := #[{ name := "AVAILABLE", type := (.object "com/example/long_lease/longlease/lease/LeaseState"), accessFlags := 16409, slot := 0, constantValue := 0 }, { name := "LEASED", type := (.object "com/example/long_lease/longlease/lease/LeaseState"), accessFlags := 16409, slot := 1, constantValue := 0 }, { name := "EXPIRED", type := (.object "com/example/long_lease/longlease/lease/LeaseState"), accessFlags := 16409, slot := 2, constantValue := 0 }, { name := "BREAKING", type := (.object "com/example/long_lease/longlease/lease/LeaseState"), accessFlags := 16409, slot := 3, constantValue := 0 }, { name := "BROKEN", type := (.object "com/example/long_lease/longlease/lease/LeaseState"), accessFlags := 16409, slot := 4, constantValue := 0 }, { name := "$VALUES", type := (.array (.object "com/example/long_lease/longlease/lease/LeaseState")), accessFlags := 4122, slot := 5, constantValue := 0 }]
  methods := #[k6m0]
  instanceTypes := #[(.object "java/lang/String"), .int, .int]
  staticTypes := #[(.object "com/example/long_lease/longlease/lease/LeaseState"), (.object "com/example/long_lease/longlease/lease/LeaseState"), (.object "com/example/long_lease/longlease/lease/LeaseState"), (.object "com/example/long_lease/longlease/lease/LeaseState"), (.object "com/example/long_lease/longlease/lease/LeaseState"), (.array (.object "com/example/long_lease/longlease/lease/LeaseState"))]
  resolved := Array.replicate 62 none
  statics := some 0 }

def pool7 : Array CpInfo := pool [(1, u "java/lang/Cloneable"), (0, .class_ 1), (0, u "java/lang/Object"), (0, .class_ 3)] 3

/-- java/lang/Cloneable -/
def k7 : Class := { plain "java/lang/Cloneable" (some 0) with
  accessFlags := 1537
  interfaces := #[]
  cf := some (fileOf pool7 2 #[] #[] 1537 4 #[] #[])
  fields := #[]
  methods := #[]
  instanceTypes := #[]
  staticTypes := #[]
  resolved := Array.replicate 8 none
  statics := none }

/-- the primitive byte -/
def k8 : Class := { plain "byte" none with kind := .primitive 'B', accessFlags := 0x411 }
/-- [B -/
def k9 : Class := { plain "[B" (some 0) with kind := .array 8 .byte, interfaces := #[7, 4], accessFlags := 1041 }

/-- the primitive int -/
def k10 : Class := { plain "int" none with kind := .primitive 'I', accessFlags := 0x411 }
/-- [I -/
def k11 : Class := { plain "[I" (some 0) with kind := .array 10 .int, interfaces := #[7, 4], accessFlags := 1041 }

def heap : Heap := #[{ cls := 6, slots := #[.ref 1, .ref 2, .ref 5, .ref 3, .ref 4, .null], vm := .statics 6 },
  { cls := 6, slots := #[.null, .int (0), .int 0], vm := .none },
  { cls := 6, slots := #[.null, .int (1), .int 0], vm := .none },
  { cls := 6, slots := #[.null, .int (3), .int 0], vm := .none },
  { cls := 6, slots := #[.null, .int (4), .int 0], vm := .none },
  { cls := 6, slots := #[.null, .int (2), .int 0], vm := .none }]
def classes : Array Class := #[k0, k1, k2, k3, k4, k5, k6, k7, k8, k9, k10, k11]
def interned : List (Array UInt16 × Addr) := []
def slotsUsed : Nat := 21
def theMethod : MethodId := ⟨1, 1⟩
def args0 : Array Value := #[.int 1]
def aboutOver (below : List Frame) : State where
  vm := { classes := classes, interned := interned.toArray }
  heap := heap
  slotsUsed := slotsUsed
  threads := #[{ frames := .invoking theMethod args0 :: below }]
def below0 : List Frame := [.native { method := ⟨0, 0⟩, args := #[] }]
def about1 : State := aboutOver below0
def p0 : Program := .bare "" "" ""
def e0 : Env := launch0.env 0 0 0
theorem w_frames : about1.frames = Frame.invoking theMethod args0 :: below0 := rfl
set_option maxRecDepth 65536 in
theorem w_args : argsFit about1.vm theMethod args0 = true := by decide +kernel
set_option maxRecDepth 65536 in
theorem w_heap : heapFits about1 = true := by decide +kernel
set_option maxRecDepth 65536 in
theorem w_runnable : about1.curStatus? = some .runnable := by decide +kernel
set_option maxRecDepth 65536 in
theorem w_alone : about1.alone = true := by decide +kernel
set_option maxRecDepth 65536 in
theorem w_named : about1.methodNamed? x = some theMethod := by decide +kernel
set_option maxRecDepth 65536 in
theorem w_hears : about1.hears theMethod below0 = true := by decide +kernel
set_option maxRecDepth 65536 in
theorem w_ripe : about1.ripe theMethod args0 below0 = true := by decide +kernel
theorem w_running : about1.status = .running := rfl
set_option maxRecDepth 65536 in
theorem w_room : about1.hasRoom e0.platform room_1 = true :=
  launch0.hasRoom_least _ room_1 (by decide +kernel) (by decide +kernel) (by decide +kernel) (by decide +kernel) (by decide +kernel) (by decide +kernel)
theorem allAtoms_all (ts : List Jvm.Cond) (a : Array Jvm.Value) (st : Jvm.State) : (allAtoms ts).before a st = ts.all (fun c => c.before a st) := by
  induction ts with
  | nil => rfl
  | cons c t ih =>
    show (Jvm.Cond.and c (allAtoms t)).before a st = _
    rw [Jvm.Cond.before_and, ih, List.all_cons]
def words1 : List Jvm.Cond := Jvm.Cond.code x code maxLocals ret :: tables_1
/-- a 'code' word, met by the world's own term for the bytes: nothing is compared byte by byte -/
theorem code_word {y : MethodName} {bytes : ByteArray} {mx : Nat} {rt : Option FieldType} {a : Array Value} {s : State} {m : MethodId} {meth : Method} {c : Code} (h1 : s.methodNamed? y = some m) (h2 : s.vm.method? m = some meth) (h3 : meth.code = some c) (h4 : c.code = bytes)
    (h5 : (c.maxLocals == mx && c.exceptionTable.isEmpty && decide (c.maxStack ≤ mostOperands) && decide (meth.sig.returnType = rt) && !meth.locks && decide (parseMethodDescriptor y.desc = some meth.sig)) = true) : (Jvm.Cond.code y bytes mx rt).before a s = true := by
  simp only [Bool.and_eq_true, beq_iff_eq, Bool.not_eq_true', decide_eq_true_eq] at h5
  obtain ⟨⟨⟨⟨⟨g1, g2⟩, g3⟩, g4⟩, g5⟩, g6⟩ := h5
  simp [Cond.before, Cond.holds, Cond.value, h1, h2, h3, h4, g1, g2, g3, g4, g5, g6]
def isCode : Jvm.Cond → Bool
  | .code _ _ _ _ => true
  | _ => false
theorem all_split {L : List Jvm.Cond} {P : Jvm.Cond → Bool} (h1 : L.all (fun c => isCode c || P c) = true) (h2 : ∀ c ∈ L.filter isCode, P c = true) : L.all P = true := by
  refine List.all_eq_true.mpr fun c hc => ?_
  have h := List.all_eq_true.mp h1 c hc
  rcases Bool.eq_false_or_eq_true (isCode c) with hi | hi
  · exact h2 c (List.mem_filter.mpr ⟨hc, hi⟩)
  · simpa [hi] using h
set_option maxRecDepth 65536 in
theorem w_c0 : (Jvm.Cond.code x code maxLocals ret).before args0 about1 = true := code_word (m := ⟨1, 1⟩) (meth := k1m1) (c := k1c1) (by decide +kernel) rfl rfl rfl (by decide +kernel)
set_option maxRecDepth 65536 in
theorem w_c1 : (Jvm.Cond.code ({ cls := "com/example/long_lease/longlease/lease/LeaseState", name := "isLocked", desc := "()Z" } : Jvm.MethodName) prog_19_method_4_code (1 : Nat) (Option.some Jvm.ClassFile.FieldType.boolean)).before args0 about1 = true := code_word (m := ⟨6, 0⟩) (meth := k6m0) (c := k6c0) (by decide +kernel) rfl rfl rfl (by decide +kernel)
def codes1 : List Jvm.Cond := [Jvm.Cond.code x code maxLocals ret, Jvm.Cond.code ({ cls := "com/example/long_lease/longlease/lease/LeaseState", name := "isLocked", desc := "()Z" } : Jvm.MethodName) prog_19_method_4_code (1 : Nat) (Option.some Jvm.ClassFile.FieldType.boolean)]
set_option maxRecDepth 65536 in
theorem codes_eq : words1.filter isCode = codes1 := rfl
theorem w_codes : ∀ c ∈ words1.filter isCode, c.before args0 about1 = true := by
  rw [codes_eq]
  intro c hc
  simp only [codes1, List.mem_cons, List.not_mem_nil, or_false] at hc
  rcases hc with rfl | rfl
  · exact w_c0
  · exact w_c1
set_option maxRecDepth 65536 in
theorem w_t1 : words1.all (fun c => isCode c || c.before args0 about1) = true := by decide +kernel
theorem w_tables : (allAtoms (Jvm.Cond.code x code maxLocals ret :: tables_1)).before args0 about1 = true := by
  rw [allAtoms_all]
  show words1.all (fun c => c.before args0 about1) = true
  refine all_split ?_ w_codes
  rw [w_t1]
set_option maxRecDepth 65536 in
theorem w_case : (Jvm.Cond.and given_1 narrow_1).before args0 about1 = true := by decide +kernel
theorem w_applies : (headSpec (Jvm.Cond.code x code maxLocals ret :: tables_1) room_1).applies x e0.platform about1 = true :=
  (Spec.applies_iff w_frames).mpr ⟨w_running, w_runnable, w_alone, w_named, w_hears, w_ripe, w_room, w_tables⟩
theorem atStart : AtStart classFile x code maxLocals ret World_1 tables_1 room_1 Calls_1 rest_1 Pre_1 launch0 p0 e0 about1 theMethod args0 below0 :=
  ⟨lists_1, trivial, launch0.admits_env _ _ _, launch0.least_env, fairChoices_fair.cas, fairChoices_fair.clock, w_frames, w_args, w_heap, w_applies, trivial, trivial, w_case⟩
end start1
theorem witness_1 : WitnessClaimed_1 := ⟨start1.p0, start1.e0, start1.about1, start1.theMethod, start1.args0, start1.below0, start1.atStart⟩
end Jvm.Pilot.@@N@@
