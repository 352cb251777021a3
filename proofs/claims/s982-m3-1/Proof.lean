import JvmDerived
import JvmDerived.Pilot.@@N@@Statement
import JvmDerived.Pilot.@@N@@Code
set_option linter.unusedVariables false
set_option linter.unusedSimpArgs false
namespace Jvm.Pilot.@@N@@
open Jvm Jvm.ClassFile Sem Op Lib Jvm.Free Jvm.Stand Jvm.LawKit Jvm.RoadKit Bundle Jvm.Pilot.@@N@@.Jvm.D
def own_Go (tb : Tables) (e : Env) (below : List Frame) (P : State → Prop) (A : State) : Prop := ∃ t, Steps tb e below A t ∧ P t
theorem own_go {tb : Tables} {e : Env} {below : List Frame} {P : State → Prop} {A B : State} (h : ∀ t, Steps tb e below B t → Steps tb e below A t) (g : own_Go tb e below P B) : own_Go tb e below P A := by
  obtain ⟨t, h1, h2⟩ := g
  exact ⟨t, h t h1, h2⟩
theorem own_fin {tb : Tables} {e : Env} {below : List Frame} {A : State} {Qq : Outcome → State → Prop} (g : own_Go tb e below (fun t => ∃ o, t.status = .running ∧ Ended t below o ∧ Qq o t) A) : ∃ t o, Steps tb e below A t ∧ t.status = .running ∧ Ended t below o ∧ Qq o t := by
  obtain ⟨t, h1, o, h2, h3, h4⟩ := g
  exact ⟨t, o, h1, h2, h3, h4⟩
theorem own_ret {tb : Tables} {e : Env} {below : List Frame} {P : State → Prop} {A t : State} (h : Steps tb e below A t) (q : P t) : own_Go tb e below P A := ⟨t, h, q⟩
def own_M (l : Launch) (y : MethodName) (bytes : ByteArray) (maxL : Nat) (ret : Option FieldType) (ws : List Jvm.Cond) (rm : Room) (Z : State) (as : Array Value) (h0 : Heap) (Q : Option Value → Heap → List Loc → Prop) : Prop := MetFree l y (head1 (Jvm.Cond.code y bytes maxL ret :: ws) rm) (fun aR UR => aR = as ∧ Z.Warmed39 UR.vm ∧ UR.heap = h0) (fun _ _ _ _ _ => True) (fun _ UR oR UR' => ∃ vR LR, oR = .returned vR ∧ Q vR UR'.heap LR ∧ FrameEnd UR oR UR' LR rm.cells rm.slots)
theorem own_body {l : Launch} {y : MethodName} {bytes : ByteArray} {maxL : Nat} {ret : Option FieldType} {ws : List Jvm.Cond} {rm : Room} {Z : State} {as : Array Value} {h0 : Heap} {Q : Option Value → Heap → List Loc → Prop} {own : String} {f : MethodId → JFrame} (ho : y.cls = own) (hx : plainFor y = true) (ef : ∀ m, entryFrame m as maxL = f m) (k : ∀ (p : Program) (e : Env) (s : State) (m : MethodId) (below : List Frame) (meth : Method) (c : Code) (s₁ : State), BodyLoose p l y (head1 (Jvm.Cond.code y bytes maxL ret :: ws) rm) bytes maxL ret e s m as below meth c s₁ → c.maxLocals = maxL → Z.Warmed39 s.vm → s.heap = h0 → p.tables.exec = Jvm.exec → c.code = bytes → s.vm.findClass own = some m.cls → Stand p l e rm s m as below meth c s₁ [] 0 0 → s₁.heap = h0 → own_Go p.tables e below (fun t => ∃ o, t.status = .running ∧ Ended t below o ∧ ∃ vR LR, o = .returned vR ∧ Q vR t.heap LR ∧ FrameEnd s o t LR rm.cells rm.slots) (s₁.setTop (f m))) : own_M l y bytes maxL ret ws rm Z as h0 Q := by
  subst ho
  refine MetFree.of_bodySF hx hisR ?_
  intro p e s m args below meth c s₁ Bd hml hP hK
  obtain ⟨rfl, hZ, hh⟩ := hP
  exact own_fin (own_go (fun tT kK => castTop (ef m) kK) (k p e s m below meth c s₁ Bd hml hZ hh Bd.exec Bd.bytes (findClass_of_methodNamed Bd.named) (Stand.of_body Bd) (by rw [← hh, Bd.state]; rfl)))
def own_MH (l : Launch) (y : MethodName) (bytes : ByteArray) (maxL : Nat) (ret : Option FieldType) (ws : List Jvm.Cond) (rm : Room) (Z : State) (as : Array Value) (h0 : Heap) (Q : Option Value → Heap → List Loc → Prop) (EL : List (String × Nat)) : Prop := MetFree l y (head1 (Jvm.Cond.code y bytes maxL ret :: ws) rm) (fun aR UR => aR = as ∧ Z.Warmed39 UR.vm ∧ UR.heap = h0 ∧ CHv Z EL UR.vm h0) (fun _ _ _ _ _ => True) (fun _ UR oR UR' => ∃ vR LR, oR = .returned vR ∧ Q vR UR'.heap LR ∧ CHr Z EL UR.vm UR.heap UR'.vm UR'.heap ∧ ReturnedEndW UR oR UR' LR rm.cells rm.slots)
theorem own_bodyH {l : Launch} {y : MethodName} {bytes : ByteArray} {maxL : Nat} {ret : Option FieldType} {ws : List Jvm.Cond} {rm : Room} {Z : State} {as : Array Value} {h0 : Heap} {Q : Option Value → Heap → List Loc → Prop} {EL : List (String × Nat)} {own : String} {f : MethodId → JFrame} (ho : y.cls = own) (hx : plainFor y = true) (ef : ∀ m, entryFrame m as maxL = f m) (k : ∀ (p : Program) (e : Env) (s : State) (m : MethodId) (below : List Frame) (meth : Method) (c : Code) (s₁ : State), BodyLoose p l y (head1 (Jvm.Cond.code y bytes maxL ret :: ws) rm) bytes maxL ret e s m as below meth c s₁ → c.maxLocals = maxL → Z.Warmed39 s.vm → s.heap = h0 → p.tables.exec = Jvm.exec → c.code = bytes → s.vm.findClass own = some m.cls → Stand p l e rm s m as below meth c s₁ [] 0 0 → s₁.heap = h0 → s.Since s.vm h0.size → CHv Z EL s.vm h0 → own_Go p.tables e below (fun t => ∃ o, t.status = .running ∧ Ended t below o ∧ ∃ vR LR, o = .returned vR ∧ Q vR t.heap LR ∧ CHr Z EL s.vm s.heap t.vm t.heap ∧ ReturnedEndW s o t LR rm.cells rm.slots) (s₁.setTop (f m))) : own_MH l y bytes maxL ret ws rm Z as h0 Q EL := by
  subst ho
  refine MetFree.of_bodySF hx hisR ?_
  intro p e s m args below meth c s₁ Bd hml hP hK
  obtain ⟨rfl, hZ, hh, CH0⟩ := hP
  exact own_fin (own_go (fun tT kK => castTop (ef m) kK) (k p e s m below meth c s₁ Bd hml hZ hh Bd.exec Bd.bytes (findClass_of_methodNamed Bd.named) (Stand.of_body Bd) (by rw [← hh, Bd.state]; rfl) ((State.WarmedH.refl s).since _) CH0))
theorem own_sh {tb : Tables} {e : Env} {below : List Frame} {P : State → Prop} {T : State} {m : MethodId} (pc : Nat) (Ls : Array Slot) (st : List Value) (g : own_Go tb e below P (T.setTop (mkF m pc Ls st))) : own_Go tb e below P (T.setTop (mkF m pc Ls st)) := g
theorem own_nn {a b : Nat} (h : ¬ a = b) : a ≠ b := h
theorem own_sv {a b : Int32} (h : a = b) : some (Value.int a) = some (Value.int b) := by rw [h]
theorem own_parts {s : State} {args : Array Value} {cls : String} {index : Nat} {x : MethodName} (h : (Cond.methodLink cls index x).before args s = true) : ∃ (ci : Nat) (via : Bool) (d c : ClassId) (m : MethodId) (dk ck mk : Class) (meth : Method), s.memberEntry? cls index = some (ci, via) ∧ s.vm.findClass cls = some d ∧ s.vm.findClass x.cls = some c ∧ s.methodFound? x.cls x.name x.desc = some m ∧ s.classLinks cls ci x.cls = some true ∧ s.vm.classes[d]? = some dk ∧ s.vm.classes[c]? = some ck ∧ s.vm.classes[m.cls]? = some mk ∧ s.vm.method? m = some meth ∧ s.names cls index (.method x.cls x.name x.desc) = true ∧ s.openOr cls index (.method m) = true ∧ ck.isInterface = via ∧ x.cls ≠ "java/lang/invoke/MethodHandle" ∧ x.cls ≠ "java/lang/invoke/VarHandle" ∧ mk.loader = none ∧ (plainAccess s.vm meth.accessFlags m.cls mk c d dk = true ∨ x.name = "clone") := by
  have q := Cond.before_iff.mp h
  simp only [Cond.value] at q
  split at q
  · rename_i ci via d c m e1 e2 e3 e4
    simp only [Option.bind_eq_bind, Option.bind_eq_some_iff, Option.pure_def, Option.some.injEq] at q
    obtain ⟨linked, l1, dk, l2, ck, l3, mk, l4, meth, l5, r⟩ := q
    simp only [Bool.and_eq_true, Bool.or_eq_true, beq_iff_eq, bne_iff_ne, ne_eq, Option.isNone_iff_eq_none] at r
    obtain ⟨⟨⟨⟨⟨⟨⟨r1, r2⟩, r3⟩, r4⟩, r5⟩, r6⟩, r7⟩, r8⟩ := r
    subst r1
    exact ⟨ci, via, d, c, m, dk, ck, mk, meth, e1, e2, e3, e4, l1, l2, l3, l4, l5, r2, r3, r4, r5, r6, r7, r8.imp id fun z => z.1.2⟩
  · cases q
theorem own_linkFF {s : State} {args : Array Value} {cls : String} {index : Nat} {x : MethodName} {d c : ClassId} {ck : Class} {m : MethodId} (hd : s.vm.findClass cls = some d) (hc : s.vm.findClass x.cls = some c) (hck : s.vm.classes[c]? = some ck) (hi : ck.isInterface = true) (hnone : ck.findMethod x.name x.desc = none) (hf : s.methodFound? x.cls x.name x.desc = some m) (hn : x.name ≠ "clone") (h : (Cond.methodLink cls index x).before args s = true) (pl : Platform) (hpl : pl.magicAccessors = ({} : Platform).magicAccessors) : ∃ ci, s.vm.MethodLinksFF pl d index ci c m ∧ s.rightAt d index (.method m) = true := by
  obtain ⟨ci, via, d', c', m', dk, ck', mk, meth, e1, e2, e3, e4, l1, l2, l3, l4, l5, r2, r3, r4, r5, r6, r7, r8⟩ := own_parts h
  cases hd.symm.trans e2
  cases hc.symm.trans e3
  cases hf.symm.trans e4
  cases hck.symm.trans l3
  obtain ⟨c2, g1, links⟩ := State.classLinks_spec hd l1 pl hpl
  cases hc.symm.trans g1
  obtain ⟨cp, p1, p2⟩ := State.names_spec r2
  obtain ⟨k', cf, k1, k2, k3⟩ := State.poolOf?_spec hd p1
  cases l2.symm.trans k1
  obtain ⟨ci', nt, ent, hnt, -⟩ := namesOf?_method p2
  have hpoly : ∀ y, signaturePolymorphic ck y = false := fun y => by
    obtain ⟨k0, n1, n2⟩ := Vm.findClass_spec hc
    cases hck.symm.trans n1
    simp [signaturePolymorphic, n2, r5, r6]
  have key : cf.constantPool[index]? = some (.interfaceMethodref ci nt) := by
    rw [k3]
    unfold State.memberEntry? at e1
    rw [p1] at e1
    rcases ent with ent | ent
    · simp only [Option.bind_eq_bind, Option.bind_some, ent, Option.some.injEq, Prod.mk.injEq] at e1
      rw [← e1.2, hi] at r4
      cases r4
    · simp only [Option.bind_eq_bind, Option.bind_some, ent, Option.some.injEq, Prod.mk.injEq] at e1
      rw [← e1.1]
      exact ent
  obtain ⟨dk2, cf2, name2, ck2, q1, q2, q3, q4, q5⟩ := links.here
  cases l2.symm.trans q1
  cases k2.symm.trans q2
  have hne : ci ≠ index := by
    intro z
    subst z
    simp [ConstantPool.className?, key] at q4
  refine ⟨ci, ⟨dk, cf, nt, x.name, x.desc, ck, mk, meth, l2, k2, key, by rw [k3]; exact hnt, links, hne, hck, hi, hpoly, hnone, State.faceFind_of_found hc hck hi hpoly hnone hf, l4, by simpa [Vm.method?, l4] using l5, q3.trans r7.symm, ?_, State.openOr_spec hd l2 r3⟩, ?_⟩
  · have r := r8.resolve_right hn
    simpa [Vm.Plain, plainAccess, or_assoc, and_assoc] using r
  · subst k3
    simp [State.rightAt, l2, k2, p2, hf]
theorem own_ifStep {p : Program} {l : Launch} {e : Env} {R : Room} {s : State} {m : MethodId} {args : Array Value} {below : List Frame} {meth : Method} {c : Code} {T : State} {locs : List Loc} {cells slots : Nat} (X : Stand p l e R s m args below meth c T locs cells slots) (hx : p.tables.exec = Jvm.exec) {own C J : String} {index count : Nat} {y z : MethodName} (hown : s.vm.findClass own = some m.cls) (w1 : (Cond.methodLink own index y).before args s = true) (wd : (Cond.declares ⟨J, y.name, y.desc⟩).before args s = true) (w7 : (Cond.interfaceMethod y.cls J y.name y.desc).before args s = true) (hyo : y.cls ≠ J) (hnc : y.name ≠ "clone") (w5 : (Cond.selects C y z).before args s = true) (w6 : (Cond.instanceMethod z).before args s = true) (w8 : (Cond.publicMethod z).before args s = true) (w9 : (Cond.unhidden C y.name y.desc).before args s = true) (w10 : (Cond.castable C y.cls).before args s = true)
    {a : Addr} {cB : ClassId} {kB : Class} (hcB : s.vm.findClass C = some cB) (hkB : s.vm.classes[cB]? = some kB) (hrecv : IsOf cB T a) {g : JFrame} (hg : g.method = m) {argsL rest : List Value} (hlen : ∀ sig, parseMethodDescriptor y.desc = some sig → argsL.length = sig.parameters.length) (hstack : g.stack = argsL.reverse ++ .ref a :: rest) (hdg : decode c.code g.pc = .ok (.invokeinterface index count, 5)) :
    ∃ vm' mk, s.methodNamed? z = some mk ∧ Stand p l e R s m args below meth c (T.setVm vm') locs cells slots ∧ ∀ target, (∀ acts, Steps p.tables e below (doInvoke e ((T.setVm vm').setTop { g with stack := rest }) acts mk (.ref a :: argsL).toArray).1 target) → Steps p.tables e below (T.setTop g) target := by
  obtain ⟨cell, b1, b2, b3⟩ := hrecv
  obtain ⟨r0, r, d1, d2, d3, d4⟩ := Cond.declares_spec wd
  obtain ⟨cL, kL, r1, f1, f2, f3, f4, f5⟩ := Cond.interfaceMethod_spec w7
  cases d1.symm.trans f5
  obtain ⟨n1, n2⟩ := name_of_methodNamed d1 d2
  obtain ⟨mk, methM, i1, i2, -, i3⟩ := Cond.instanceMethod_spec w6
  obtain ⟨c2, r2, m2, q1, q2, q3, q4, -⟩ := Cond.selects_spec w5
  cases hcB.symm.trans q1
  cases f4.symm.trans q2
  cases i1.symm.trans q3
  obtain ⟨c3, t3, v1, v2, v3⟩ := Cond.castable_spec w10
  cases hcB.symm.trans v1
  cases f1.symm.trans v2
  obtain ⟨-, -, -, -, -, -, -, -, -, -, -, -, -, -, -, -, -, -, -, -, -, hy1, hy2, -⟩ := own_parts w1
  obtain ⟨kL', k1, k2⟩ := Vm.findClass_spec f1
  cases f2.symm.trans k1
  obtain ⟨ok, o1, o2⟩ := className_of_methodNamed d1
  have hpoly : ∀ u, signaturePolymorphic kL u = false := fun u => by simp [signaturePolymorphic, k2, hy1, hy2]
  have hnone : kL.findMethod y.name y.desc = none := by
    cases hj : kL.findMethod y.name y.desc with
    | none => rfl
    | some j =>
      refine absurd ?_ hyo
      have hs : (kL.methods[j]?).isSome := by
        obtain ⟨hlt, -, -⟩ := Array.findIdx?_eq_some_iff_getElem.mp hj
        simp [hlt]
      have e1 : r0 = ⟨cL, j⟩ := Option.some.inj (f4.symm.trans (State.methodFound?_declared f1 f2 hpoly hj hs))
      have e2 : r0.cls = cL := by rw [e1]
      rw [e2] at o1
      cases f2.symm.trans o1
      exact k2.symm.trans o2
  obtain ⟨ci, hl, hright⟩ := own_linkFF hown f1 f2 f3 hnone f4 hnc w1 e.platform (by rw [X.admits.platform])
  have hE := State.methodEntryFF X.warmed hl hright
  obtain ⟨dk, cf, nt, -, -, ck, -, -, u1, u2, u3, -, -, -, u4, u5, -⟩ := hl.here
  cases f2.symm.trans u4
  have al := hE.warmed.alike
  obtain ⟨dk2, t1, t2⟩ := hE.classReady
  obtain ⟨dk3, t4, t5⟩ := al.2.2 _ _ u1
  cases t1.symm.trans t4
  obtain ⟨ck2, t6, t7⟩ := al.2.2 _ _ u4
  rw [← b2] at hkB
  obtain ⟨kB2, t8, -⟩ := al.2.2 _ _ hkB
  refine ⟨T.vm.calledUp m.cls ci index cL r0, mk, i1, X.noted hE.warmed, fun target hrest => ?_⟩
  subst hg
  have hsel : selectMethod e.platform s.vm cell.cls r0 = .method mk := by rw [Launch.admits_selectMethod X.admits, b2]; exact q4
  have hway : ((cell.cls :: s.vm.superclasses cell.cls).any fun k => (declaredIn s.vm r.name r.desc k).any fun (_, u) => u.isPrivate || u.isStatic) = false := by
    rw [n1, n2, b2]
    exact Cond.unhidden_spec hcB w9
  jvm_step X.here [hx, hdg, invokeinterface.wp_coldFace (e := e) (s := T) (s₀ := s) (f := g) (count := count) X.here.top X.warmed hE u1 u2 (Or.inr u3) u4 u5,
    invokeinterface.wp_ready (e := e) (s := T.setVm (T.vm.calledUp g.method.cls ci index cL r0)) (f := g) (count := count) (r := r) (meth := methM) (m := mk) (args := argsL) (rest := rest) (cell := cell) (kcell := kB2) (ck := dk2) (nk := ck2) (cf := cf) (ci := ci) (nt := nt) (named := cL)
      X.here.top hE.ready (by show (T.vm.calledUp g.method.cls ci index cL r0).method? r0 = some r; rw [al.method?]; exact d2) d3 (hlen _ d4) hstack b1 (fun q w => by rw [w] at b3; cases b3) t8 t1 (by rw [t5]; exact u2) u3 t2 t6 (by rw [t7]; exact u5)
      (by show (T.vm.calledUp g.method.cls ci index cL r0).assignable cell.cls cL = true; rw [al.assignable, b2]; exact v3)
      (by show selectMethod e.platform (T.vm.calledUp g.method.cls ci index cL r0) cell.cls r0 = .method mk; rw [al.selectMethod]; exact hsel)
      (by show (T.vm.calledUp g.method.cls ci index cL r0).method? mk = some methM; rw [al.method?]; exact i2)
      (Or.inr (Or.inr (by show ((cell.cls :: (T.vm.calledUp g.method.cls ci index cL r0).superclasses cell.cls).any fun k => (declaredIn (T.vm.calledUp g.method.cls ci index cL r0) r.name r.desc k).any fun (_, u) => u.isPrivate || u.isStatic) = false; simp only [al.superclasses, al.declaredIn]; exact hway)))
      (Or.inl (Cond.publicMethod_spec i1 i2 w8)) i3]
  exact hrest
theorem own_mvI {Z s : State} {a0 args : Array Value} {r J n d : String} (hZ : Z.Warmed39 s.vm) (w : (Cond.interfaceMethod r J n d).before a0 Z = true) : (Cond.interfaceMethod r J n d).before args s = true := by
  obtain ⟨cL, kL, m, f1, f2, f3, f4, f5⟩ := Cond.interfaceMethod_spec w
  obtain ⟨kL', g1, g2⟩ := hZ.alike.2.2 _ _ f2
  have h1 : s.vm.findClass r = some cL := by rw [hZ.alike.findClass]; exact f1
  have h2 : s.methodFound? r n d = some m := (show s.methodFound? r n d = Z.methodFound? r n d from State.methodFound?_setVm (s := Z) hZ.alike r n d).trans f4
  have h3 : s.methodNamed? ⟨J, n, d⟩ = some m := (show s.methodNamed? ⟨J, n, d⟩ = Z.methodNamed? ⟨J, n, d⟩ from State.methodNamed?_setVm (s := Z) hZ.alike ⟨J, n, d⟩).trans f5
  have h4 : kL'.isInterface = true := by rw [g2]; exact f3
  simp only [Cond.before, Cond.holds, Cond.value, h1, h2, h3, g1]
  simp [h4]
theorem own_w {Z : State} {a0 : Array Value} {tab : List Jvm.Cond} (hw : ∀ d ∈ tab, d.before a0 Z = true) (i : Nat) {d : Jvm.Cond} (h : tab[i]? = some d) : d.before a0 Z = true := hw d (List.mem_of_getElem? h)
theorem own_iloadN {tb : Tables} [Ours tb] {e : Env} {below : List Frame} {T : State} {m : MethodId} {c : Code} {P : State → Prop} {pc : Nat} {Ls : Array Slot} {st : List Value} {bc : ByteArray} (h : At T m c below) (hx : tb.exec = Jvm.exec) (hby : c.code = bc) {k : Fin 4} {v : Int32} (hd : decode bc pc = .ok (.iload_n k, 1)) (hl : Ls[k.val]? = some (.val (.int v))) (g : own_Go tb e below P (T.setTop (mkF m (pc + 1) Ls ((.int v) :: st)))) : own_Go tb e below P (T.setTop (mkF m pc Ls (st))) := own_go (fun t k => XS.iloadN h hx rfl (hb hby hd) hl k) g
theorem own_iload {tb : Tables} [Ours tb] {e : Env} {below : List Frame} {T : State} {m : MethodId} {c : Code} {P : State → Prop} {pc : Nat} {Ls : Array Slot} {st : List Value} {bc : ByteArray} (h : At T m c below) (hx : tb.exec = Jvm.exec) (hby : c.code = bc) {k : Nat} {v : Int32} (hd : decode bc pc = .ok (.iload k, 2)) (hl : Ls[k]? = some (.val (.int v))) (g : own_Go tb e below P (T.setTop (mkF m (pc + 2) Ls ((.int v) :: st)))) : own_Go tb e below P (T.setTop (mkF m pc Ls (st))) := own_go (fun t k => XS.iload h hx rfl (hb hby hd) hl k) g
theorem own_aloadN {tb : Tables} [Ours tb] {e : Env} {below : List Frame} {T : State} {m : MethodId} {c : Code} {P : State → Prop} {pc : Nat} {Ls : Array Slot} {st : List Value} {bc : ByteArray} (h : At T m c below) (hx : tb.exec = Jvm.exec) (hby : c.code = bc) {k : Fin 4} {v : Value} (hd : decode bc pc = .ok (.aload_n k, 1)) (hl : Ls[k.val]? = some (.val v)) (hv : v.isRef = true) (g : own_Go tb e below P (T.setTop (mkF m (pc + 1) Ls (v :: st)))) : own_Go tb e below P (T.setTop (mkF m pc Ls (st))) := own_go (fun t k => XS.aloadN h hx rfl (hb hby hd) hl hv k) g
theorem own_aload {tb : Tables} [Ours tb] {e : Env} {below : List Frame} {T : State} {m : MethodId} {c : Code} {P : State → Prop} {pc : Nat} {Ls : Array Slot} {st : List Value} {bc : ByteArray} (h : At T m c below) (hx : tb.exec = Jvm.exec) (hby : c.code = bc) {k : Nat} {v : Value} (hd : decode bc pc = .ok (.aload k, 2)) (hl : Ls[k]? = some (.val v)) (hv : v.isRef = true) (g : own_Go tb e below P (T.setTop (mkF m (pc + 2) Ls (v :: st)))) : own_Go tb e below P (T.setTop (mkF m pc Ls (st))) := own_go (fun t k => XS.aload h hx rfl (hb hby hd) hl hv k) g
theorem own_istoreN {tb : Tables} [Ours tb] {e : Env} {below : List Frame} {T : State} {m : MethodId} {c : Code} {P : State → Prop} {pc : Nat} {Ls : Array Slot} {st : List Value} {bc : ByteArray} (h : At T m c below) (hx : tb.exec = Jvm.exec) (hby : c.code = bc) {k : Fin 4} {x : Int32} {l' : Array Slot} (hd : decode bc pc = .ok (.istore_n k, 1)) (hl : storeLocals Ls k.val (.int x) = some l') (g : own_Go tb e below P (T.setTop (mkF m (pc + 1) l' (st)))) : own_Go tb e below P (T.setTop (mkF m pc Ls ((.int x) :: st))) := own_go (fun t k => XS.istoreN h hx rfl (hb hby hd) rfl hl k) g
theorem own_istore {tb : Tables} [Ours tb] {e : Env} {below : List Frame} {T : State} {m : MethodId} {c : Code} {P : State → Prop} {pc : Nat} {Ls : Array Slot} {st : List Value} {bc : ByteArray} (h : At T m c below) (hx : tb.exec = Jvm.exec) (hby : c.code = bc) {k : Nat} {x : Int32} {l' : Array Slot} (hd : decode bc pc = .ok (.istore k, 2)) (hl : storeLocals Ls k (.int x) = some l') (g : own_Go tb e below P (T.setTop (mkF m (pc + 2) l' (st)))) : own_Go tb e below P (T.setTop (mkF m pc Ls ((.int x) :: st))) := own_go (fun t k => XS.istore h hx rfl (hb hby hd) rfl hl k) g
theorem own_astoreN {tb : Tables} [Ours tb] {e : Env} {below : List Frame} {T : State} {m : MethodId} {c : Code} {P : State → Prop} {pc : Nat} {Ls : Array Slot} {st : List Value} {bc : ByteArray} (h : At T m c below) (hx : tb.exec = Jvm.exec) (hby : c.code = bc) {k : Fin 4} {x : Value} {l' : Array Slot} (hd : decode bc pc = .ok (.astore_n k, 1)) (hv : x.isRef = true) (hl : storeLocals Ls k.val x = some l') (g : own_Go tb e below P (T.setTop (mkF m (pc + 1) l' (st)))) : own_Go tb e below P (T.setTop (mkF m pc Ls (x :: st))) := own_go (fun t k => XS.astoreN h hx rfl (hb hby hd) rfl hv hl k) g
theorem own_astore {tb : Tables} [Ours tb] {e : Env} {below : List Frame} {T : State} {m : MethodId} {c : Code} {P : State → Prop} {pc : Nat} {Ls : Array Slot} {st : List Value} {bc : ByteArray} (h : At T m c below) (hx : tb.exec = Jvm.exec) (hby : c.code = bc) {k : Nat} {x : Value} {l' : Array Slot} (hd : decode bc pc = .ok (.astore k, 2)) (hv : x.isRef = true) (hl : storeLocals Ls k x = some l') (g : own_Go tb e below P (T.setTop (mkF m (pc + 2) l' (st)))) : own_Go tb e below P (T.setTop (mkF m pc Ls (x :: st))) := own_go (fun t k => XS.astore h hx rfl (hb hby hd) rfl hv hl k) g
theorem own_iconst {tb : Tables} [Ours tb] {e : Env} {below : List Frame} {T : State} {m : MethodId} {c : Code} {P : State → Prop} {pc : Nat} {Ls : Array Slot} {st : List Value} {bc : ByteArray} (h : At T m c below) (hx : tb.exec = Jvm.exec) (hby : c.code = bc) {i : Int} {v : Int32} (hd : decode bc pc = .ok (.iconst i, 1)) (hv : Int32.ofInt i = v) (g : own_Go tb e below P (T.setTop (mkF m (pc + 1) Ls ((.int v) :: st)))) : own_Go tb e below P (T.setTop (mkF m pc Ls st)) := by
  subst hv
  exact own_go (fun t k => XS.iconst h hx rfl (hb hby hd) k) g
theorem own_bipush {tb : Tables} [Ours tb] {e : Env} {below : List Frame} {T : State} {m : MethodId} {c : Code} {P : State → Prop} {pc : Nat} {Ls : Array Slot} {st : List Value} {bc : ByteArray} (h : At T m c below) (hx : tb.exec = Jvm.exec) (hby : c.code = bc) {i : Int} {v : Int32} (hd : decode bc pc = .ok (.bipush i, 2)) (hv : (Int8.ofInt i).toInt32 = v) (g : own_Go tb e below P (T.setTop (mkF m (pc + 2) Ls ((.int v) :: st)))) : own_Go tb e below P (T.setTop (mkF m pc Ls st)) := by
  subst hv
  exact own_go (fun t k => XS.bipush h hx rfl (hb hby hd) k) g
theorem own_sipush {tb : Tables} [Ours tb] {e : Env} {below : List Frame} {T : State} {m : MethodId} {c : Code} {P : State → Prop} {pc : Nat} {Ls : Array Slot} {st : List Value} {bc : ByteArray} (h : At T m c below) (hx : tb.exec = Jvm.exec) (hby : c.code = bc) {i : Int} {v : Int32} (hd : decode bc pc = .ok (.sipush i, 3)) (hv : (Int16.ofInt i).toInt32 = v) (g : own_Go tb e below P (T.setTop (mkF m (pc + 3) Ls ((.int v) :: st)))) : own_Go tb e below P (T.setTop (mkF m pc Ls st)) := by
  subst hv
  exact own_go (fun t k => XS.sipush h hx rfl (hb hby hd) k) g
theorem own_aconstNull {tb : Tables} [Ours tb] {e : Env} {below : List Frame} {T : State} {m : MethodId} {c : Code} {P : State → Prop} {pc : Nat} {Ls : Array Slot} {st : List Value} {bc : ByteArray} (h : At T m c below) (hx : tb.exec = Jvm.exec) (hby : c.code = bc)  (hd : decode bc pc = .ok (.aconst_null, 1)) (g : own_Go tb e below P (T.setTop (mkF m (pc + 1) Ls (.null :: st)))) : own_Go tb e below P (T.setTop (mkF m pc Ls (st))) := own_go (fun t k => XS.aconstNull h hx rfl (hb hby hd)  k) g
theorem own_iadd {tb : Tables} [Ours tb] {e : Env} {below : List Frame} {T : State} {m : MethodId} {c : Code} {P : State → Prop} {pc : Nat} {Ls : Array Slot} {st : List Value} {bc : ByteArray} (h : At T m c below) (hx : tb.exec = Jvm.exec) (hby : c.code = bc) {x y v : Int32} (hd : decode bc pc = .ok (.iadd, 1)) (hv : (x + y) = v) (g : own_Go tb e below P (T.setTop (mkF m (pc + 1) Ls ((.int v) :: st)))) : own_Go tb e below P (T.setTop (mkF m pc Ls ((.int y) :: (.int x) :: st))) := by
  subst hv
  exact own_go (fun t k => XS.iadd h hx rfl (hb hby hd) rfl k) g
theorem own_isub {tb : Tables} [Ours tb] {e : Env} {below : List Frame} {T : State} {m : MethodId} {c : Code} {P : State → Prop} {pc : Nat} {Ls : Array Slot} {st : List Value} {bc : ByteArray} (h : At T m c below) (hx : tb.exec = Jvm.exec) (hby : c.code = bc) {x y v : Int32} (hd : decode bc pc = .ok (.isub, 1)) (hv : (x - y) = v) (g : own_Go tb e below P (T.setTop (mkF m (pc + 1) Ls ((.int v) :: st)))) : own_Go tb e below P (T.setTop (mkF m pc Ls ((.int y) :: (.int x) :: st))) := by
  subst hv
  exact own_go (fun t k => XS.isub h hx rfl (hb hby hd) rfl k) g
theorem own_iand {tb : Tables} [Ours tb] {e : Env} {below : List Frame} {T : State} {m : MethodId} {c : Code} {P : State → Prop} {pc : Nat} {Ls : Array Slot} {st : List Value} {bc : ByteArray} (h : At T m c below) (hx : tb.exec = Jvm.exec) (hby : c.code = bc) {x y v : Int32} (hd : decode bc pc = .ok (.iand, 1)) (hv : (x &&& y) = v) (g : own_Go tb e below P (T.setTop (mkF m (pc + 1) Ls ((.int v) :: st)))) : own_Go tb e below P (T.setTop (mkF m pc Ls ((.int y) :: (.int x) :: st))) := by
  subst hv
  exact own_go (fun t k => XS.iand h hx rfl (hb hby hd) rfl k) g
theorem own_ishl {tb : Tables} [Ours tb] {e : Env} {below : List Frame} {T : State} {m : MethodId} {c : Code} {P : State → Prop} {pc : Nat} {Ls : Array Slot} {st : List Value} {bc : ByteArray} (h : At T m c below) (hx : tb.exec = Jvm.exec) (hby : c.code = bc) {x y v : Int32} (hd : decode bc pc = .ok (.ishl, 1)) (hv : (x <<< (y &&& 31)) = v) (g : own_Go tb e below P (T.setTop (mkF m (pc + 1) Ls ((.int v) :: st)))) : own_Go tb e below P (T.setTop (mkF m pc Ls ((.int y) :: (.int x) :: st))) := by
  subst hv
  exact own_go (fun t k => XS.ishl h hx rfl (hb hby hd) rfl k) g
theorem own_ishr {tb : Tables} [Ours tb] {e : Env} {below : List Frame} {T : State} {m : MethodId} {c : Code} {P : State → Prop} {pc : Nat} {Ls : Array Slot} {st : List Value} {bc : ByteArray} (h : At T m c below) (hx : tb.exec = Jvm.exec) (hby : c.code = bc) {x y v : Int32} (hd : decode bc pc = .ok (.ishr, 1)) (hv : (x >>> (y &&& 31)) = v) (g : own_Go tb e below P (T.setTop (mkF m (pc + 1) Ls ((.int v) :: st)))) : own_Go tb e below P (T.setTop (mkF m pc Ls ((.int y) :: (.int x) :: st))) := by
  subst hv
  exact own_go (fun t k => XS.ishr h hx rfl (hb hby hd) rfl k) g
theorem own_i2b {tb : Tables} [Ours tb] {e : Env} {below : List Frame} {T : State} {m : MethodId} {c : Code} {P : State → Prop} {pc : Nat} {Ls : Array Slot} {st : List Value} {bc : ByteArray} (h : At T m c below) (hx : tb.exec = Jvm.exec) (hby : c.code = bc) {x : Int32} {v : Int32} (hd : decode bc pc = .ok (.i2b, 1)) (hv : (x.toInt8.toInt32) = v) (g : own_Go tb e below P (T.setTop (mkF m (pc + 1) Ls ((.int v) :: st)))) : own_Go tb e below P (T.setTop (mkF m pc Ls ((.int x) :: st))) := by
  subst hv
  exact own_go (fun t k => XS.i2b h hx rfl (hb hby hd) rfl k) g
theorem own_i2c {tb : Tables} [Ours tb] {e : Env} {below : List Frame} {T : State} {m : MethodId} {c : Code} {P : State → Prop} {pc : Nat} {Ls : Array Slot} {st : List Value} {bc : ByteArray} (h : At T m c below) (hx : tb.exec = Jvm.exec) (hby : c.code = bc) {x : Int32} {v : Int32} (hd : decode bc pc = .ok (.i2c, 1)) (hv : (x.toUInt32.toUInt16.toUInt32.toInt32) = v) (g : own_Go tb e below P (T.setTop (mkF m (pc + 1) Ls ((.int v) :: st)))) : own_Go tb e below P (T.setTop (mkF m pc Ls ((.int x) :: st))) := by
  subst hv
  exact own_go (fun t k => XS.i2c h hx rfl (hb hby hd) rfl k) g
theorem own_dup {tb : Tables} [Ours tb] {e : Env} {below : List Frame} {T : State} {m : MethodId} {c : Code} {P : State → Prop} {pc : Nat} {Ls : Array Slot} {st : List Value} {bc : ByteArray} (h : At T m c below) (hx : tb.exec = Jvm.exec) (hby : c.code = bc) {x : Value} (hd : decode bc pc = .ok (.dup, 1)) (hc : x.category = 1) (g : own_Go tb e below P (T.setTop (mkF m (pc + 1) Ls (x :: x :: st)))) : own_Go tb e below P (T.setTop (mkF m pc Ls (x :: st))) := own_go (fun t k => XS.dup h hx rfl (hb hby hd) rfl hc k) g
theorem own_pop {tb : Tables} [Ours tb] {e : Env} {below : List Frame} {T : State} {m : MethodId} {c : Code} {P : State → Prop} {pc : Nat} {Ls : Array Slot} {st : List Value} {bc : ByteArray} (h : At T m c below) (hx : tb.exec = Jvm.exec) (hby : c.code = bc) {x : Value} (hd : decode bc pc = .ok (.pop, 1)) (hc : x.category = 1) (g : own_Go tb e below P (T.setTop (mkF m (pc + 1) Ls (st)))) : own_Go tb e below P (T.setTop (mkF m pc Ls (x :: st))) := own_go (fun t k => XS.pop h hx rfl (hb hby hd) rfl hc k) g
theorem own_dupX1 {tb : Tables} [Ours tb] {e : Env} {below : List Frame} {T : State} {m : MethodId} {c : Code} {P : State → Prop} {pc : Nat} {Ls : Array Slot} {st : List Value} {bc : ByteArray} (h : At T m c below) (hx : tb.exec = Jvm.exec) (hby : c.code = bc) {x y : Value} (hd : decode bc pc = .ok (.dup_x1, 1)) (hc : x.category = 1) (hc' : y.category = 1) (g : own_Go tb e below P (T.setTop (mkF m (pc + 1) Ls (x :: y :: x :: st)))) : own_Go tb e below P (T.setTop (mkF m pc Ls (x :: y :: st))) := own_go (fun t k => XS.dupX1 h hx rfl (hb hby hd) rfl hc hc' k) g
theorem own_goto {tb : Tables} [Ours tb] {e : Env} {below : List Frame} {T : State} {m : MethodId} {c : Code} {P : State → Prop} {pc : Nat} {Ls : Array Slot} {st : List Value} {bc : ByteArray} (h : At T m c below) (hx : tb.exec = Jvm.exec) (hby : c.code = bc) {o : Int} {pc' : Nat} (hd : decode bc pc = .ok (.goto o, 3)) (ho : 0 ≤ (pc : Int) + o) (hp : ((pc : Int) + o).toNat = pc') (g : own_Go tb e below P (T.setTop (mkF m pc' Ls st))) : own_Go tb e below P (T.setTop (mkF m pc Ls st)) := own_go (fun t k => XS.goto h hx rfl (pc0 := pc) rfl (hb hby hd) ho hp k) g
theorem own_ifYes {tb : Tables} [Ours tb] {e : Env} {below : List Frame} {T : State} {m : MethodId} {c : Code} {P : State → Prop} {pc : Nat} {Ls : Array Slot} {st : List Value} {bc : ByteArray} (h : At T m c below) (hx : tb.exec = Jvm.exec) (hby : c.code = bc) {cd : ClassFile.Cond} {o : Int} {pc' : Nat} {x : Int32} (hd : decode bc pc = .ok (.ifCond cd o, 3)) (hc : ifCond.holds cd x = true) (ho : 0 ≤ (pc : Int) + o) (hp : ((pc : Int) + o).toNat = pc') (g : own_Go tb e below P (T.setTop (mkF m pc' Ls st))) : own_Go tb e below P (T.setTop (mkF m pc Ls ((.int x) :: st))) := own_go (fun t k => XS.ifYes h hx rfl (pc0 := pc) rfl (hb hby hd) rfl hc ho hp k) g
theorem own_ifNo {tb : Tables} [Ours tb] {e : Env} {below : List Frame} {T : State} {m : MethodId} {c : Code} {P : State → Prop} {pc : Nat} {Ls : Array Slot} {st : List Value} {bc : ByteArray} (h : At T m c below) (hx : tb.exec = Jvm.exec) (hby : c.code = bc) {cd : ClassFile.Cond} {o : Int} {x : Int32} (hd : decode bc pc = .ok (.ifCond cd o, 3)) (hc : ifCond.holds cd x = false) (g : own_Go tb e below P (T.setTop (mkF m (pc + 3) Ls st))) : own_Go tb e below P (T.setTop (mkF m pc Ls ((.int x) :: st))) := own_go (fun t k => XS.ifNo h hx rfl (hb hby hd) rfl hc k) g
theorem own_icmpYes {tb : Tables} [Ours tb] {e : Env} {below : List Frame} {T : State} {m : MethodId} {c : Code} {P : State → Prop} {pc : Nat} {Ls : Array Slot} {st : List Value} {bc : ByteArray} (h : At T m c below) (hx : tb.exec = Jvm.exec) (hby : c.code = bc) {cd : ClassFile.Cond} {o : Int} {pc' : Nat} {x y : Int32} (hd : decode bc pc = .ok (.if_icmp cd o, 3)) (hc : if_icmp.holds cd x y = true) (ho : 0 ≤ (pc : Int) + o) (hp : ((pc : Int) + o).toNat = pc') (g : own_Go tb e below P (T.setTop (mkF m pc' Ls st))) : own_Go tb e below P (T.setTop (mkF m pc Ls ((.int y) :: (.int x) :: st))) := own_go (fun t k => XS.icmpYes h hx rfl (pc0 := pc) rfl (hb hby hd) rfl hc ho hp k) g
theorem own_icmpNo {tb : Tables} [Ours tb] {e : Env} {below : List Frame} {T : State} {m : MethodId} {c : Code} {P : State → Prop} {pc : Nat} {Ls : Array Slot} {st : List Value} {bc : ByteArray} (h : At T m c below) (hx : tb.exec = Jvm.exec) (hby : c.code = bc) {cd : ClassFile.Cond} {o : Int} {x y : Int32} (hd : decode bc pc = .ok (.if_icmp cd o, 3)) (hc : if_icmp.holds cd x y = false) (g : own_Go tb e below P (T.setTop (mkF m (pc + 3) Ls st))) : own_Go tb e below P (T.setTop (mkF m pc Ls ((.int y) :: (.int x) :: st))) := own_go (fun t k => XS.icmpNo h hx rfl (hb hby hd) rfl hc k) g
theorem own_ifnullNo {tb : Tables} [Ours tb] {e : Env} {below : List Frame} {T : State} {m : MethodId} {c : Code} {P : State → Prop} {pc : Nat} {Ls : Array Slot} {st : List Value} {bc : ByteArray} (h : At T m c below) (hx : tb.exec = Jvm.exec) (hby : c.code = bc) {o : Int} {b : Addr} (hd : decode bc pc = .ok (.ifnull o, 3)) (g : own_Go tb e below P (T.setTop (mkF m (pc + 3) Ls st))) : own_Go tb e below P (T.setTop (mkF m pc Ls ((.ref b) :: st))) := own_go (fun t k => XS.ifnullNo h hx rfl (hb hby hd) rfl k) g
theorem own_ifnonnullYes {tb : Tables} [Ours tb] {e : Env} {below : List Frame} {T : State} {m : MethodId} {c : Code} {P : State → Prop} {pc : Nat} {Ls : Array Slot} {st : List Value} {bc : ByteArray} (h : At T m c below) (hx : tb.exec = Jvm.exec) (hby : c.code = bc) {o : Int} {pc' : Nat} {b : Addr} (hd : decode bc pc = .ok (.ifnonnull o, 3)) (ho : 0 ≤ (pc : Int) + o) (hp : ((pc : Int) + o).toNat = pc') (g : own_Go tb e below P (T.setTop (mkF m pc' Ls st))) : own_Go tb e below P (T.setTop (mkF m pc Ls ((.ref b) :: st))) := own_go (fun t k => XS.ifnonnullYes h hx rfl (pc0 := pc) rfl (hb hby hd) rfl ho hp k) g
theorem own_iinc {tb : Tables} [Ours tb] {e : Env} {below : List Frame} {T : State} {m : MethodId} {c : Code} {P : State → Prop} {pc : Nat} {Ls : Array Slot} {st : List Value} {bc : ByteArray} (h : At T m c below) (hx : tb.exec = Jvm.exec) (hby : c.code = bc) {k : Nat} {cst : Int} {x v : Int32} {l' : Array Slot} (hd : decode bc pc = .ok (.iinc k cst, 3)) (hl : Ls[k]? = some (.val (.int x))) (hv : (x + Int32.ofInt cst) = v) (hl' : storeLocals Ls k (.int v) = some l') (g : own_Go tb e below P (T.setTop (mkF m (pc + 3) l' st))) : own_Go tb e below P (T.setTop (mkF m pc Ls st)) := by
  subst hv
  exact own_go (fun t k => XS.iinc h hx rfl (hb hby hd) hl hl' k) g
section OwnGo
variable {p : Program} {l : Launch} {e : Env} {R : Room} {s : State} {m : MethodId} {args : Array Value} {below : List Frame} {meth : Method} {c : Code} {T : State} {locs : List Loc} {cells slots : Nat} {Z : State} {a0 : Array Value} {h : Heap} {P : State → Prop} {pc : Nat} {Ls : Array Slot} {st : List Value} {bc : ByteArray} {n0 : Nat}
theorem own_acmp (X : Stand p l e R s m args below meth c T locs cells slots) (hx : p.tables.exec = Jvm.exec) {cd : ACond} {x y : Value} {o : Int} {pc' : Nat} {same : Bool} (hby : c.code = bc) (hd : decode bc pc = .ok (.if_acmp cd o, 3)) (h1 : x.isRef = true) (h2 : y.isRef = true) (hq : decide (x = y) = same) (ho : 0 ≤ (pc : Int) + o) (hp : pc' = if acV cd same = true then ((pc : Int) + o).toNat else pc + 3) (k : own_Go p.tables e below P (T.setTop (mkF m pc' Ls st))) : own_Go p.tables e below P (T.setTop (mkF m pc Ls (y :: x :: st))) := by
  exact own_go (fun t k => Jvm.RoadKit.acmp (g := mkF m pc Ls (y :: x :: st)) X hx rfl h1 h2 rfl (hb hby hd) rfl hq ho hp k) k
theorem own_getF (X : Stand p l e R s m args below meth c T locs cells slots) (hx : p.tables.exec = Jvm.exec) (hZ : Z.Warmed39 s.vm) {own R0 O n d host : String} {index : Nat} (hown : s.vm.findClass own = some m.cls) (w : (Cond.fieldLink own index R0 n d).before a0 Z = true ∨ (Cond.fieldLinkNest own index R0 n d host).before a0 Z = true) (via : Via Z R0 O n d) (eT : T.heap = h) {a : Addr} {v : Value} (F : Fld Z h a O n d v) (hby : c.code = bc) (hd : decode bc pc = .ok (.getfield index, 3)) (k : ∀ T', Stand p l e R s m args below meth c T' locs cells slots → T'.heap = h → own_Go p.tables e below P (T'.setTop (mkF m (pc + 3) Ls (v :: st)))) : own_Go p.tables e below P (T.setTop (mkF m pc Ls ((.ref a) :: st))) := by
  obtain ⟨T', X', e', sp⟩ := getF X hx hZ hown w via eT F (g := mkF m pc Ls ((.ref a) :: st)) rfl rfl (hb hby hd)
  exact own_go sp (k T' X' e')
theorem own_getS (X : Stand p l e R s m args below meth c T locs cells slots) (hx : p.tables.exec = Jvm.exec) (hZ : Z.Warmed39 s.vm) {own R0 O n d host : String} {index : Nat} (hown : s.vm.findClass own = some m.cls) (w : (Cond.fieldLink own index R0 n d).before a0 Z = true ∨ (Cond.fieldLinkNest own index R0 n d host).before a0 Z = true) (via : Via Z R0 O n d) (eT : T.heap = h) {v : Value} (F : Sta Z h O n d v) (hby : c.code = bc) (hd : decode bc pc = .ok (.getstatic index, 3)) (k : ∀ T', Stand p l e R s m args below meth c T' locs cells slots → T'.heap = h → own_Go p.tables e below P (T'.setTop (mkF m (pc + 3) Ls (v :: st)))) : own_Go p.tables e below P (T.setTop (mkF m pc Ls st)) := by
  obtain ⟨T', X', e', sp⟩ := getS2 X hx hZ hown w via eT F (g := mkF m pc Ls st) rfl (hb hby hd)
  exact own_go sp (k T' X' e')
theorem own_putF (X : Stand p l e R s m args below meth c T locs cells slots) (hx : p.tables.exec = Jvm.exec) (hZ : Z.Warmed39 s.vm) {C : String} {kk : Nat} {ty : FieldType} {own R0 O n d host : String} {index : Nat} (hown : s.vm.findClass own = some m.cls) (w : (Cond.fieldLink own index R0 n d).before a0 Z = true ∨ (Cond.fieldLinkNest own index R0 n d host).before a0 Z = true) (via : Via Z R0 O n d) (eT : T.heap = h) {a : Addr} {v old : Value} (F : Fld Z h a O n d old) (E : Exa Z h a C) (L : (Cond.lays C O n d).before a0 Z = true ∨ ((Cond.laysFinal C O n d).before a0 Z = true ∧ own = O ∧ meth.name = "<init>")) (wi : (Cond.instantiable C kk).before a0 Z = true) (hty : parseFieldDescriptor d = some ty) (hn : narrow ty v = v) (hf : fits ty v = true) (hby : c.code = bc) (hd : decode bc pc = .ok (.putfield index, 3)) (N : Fr n0 locs) (ge : n0 ≤ a) (k : ∀ T' h' locs', Stand p l e R s m args below meth c T' locs' cells slots → T'.heap = h' → Fr n0 locs' → Wr h h' a (Jvm.RoadKit.slotOf Z O n d) v → Fld Z h' a O n d v → h.size ≤ h'.size → own_Go p.tables e below P (T'.setTop (mkF m (pc + 3) Ls st))) : own_Go p.tables e below P (T.setTop (mkF m pc Ls (v :: (.ref a) :: st))) := by
  obtain ⟨T', h', X', e', W, sp⟩ := putF X hx hZ hown w via eT F E L wi hty hn hf (g := mkF m pc Ls (v :: (.ref a) :: st)) rfl rfl (hb hby hd)
  exact own_go sp (k T' h' _ X' e' (Fr.snoc X' N ge) W (F.same W) (Keep.of_wr W).1)
theorem own_putFN (X : Stand p l e R s m args below meth c T locs cells slots) (hx : p.tables.exec = Jvm.exec) (hZ : Z.Warmed39 s.vm) {own R0 O n d C : String} {index kk : Nat} {ty : FieldType} (hown : s.vm.findClass own = some m.cls) (w : (Cond.fieldLink own index R0 n d).before a0 Z = true) (via : Via Z R0 O n d) (eT : T.heap = h) {a : Addr} {v v' old : Value} (F : Fld Z h a O n d old) (E : Exa Z h a C) (L : (Cond.lays C O n d).before a0 Z = true ∨ ((Cond.laysFinal C O n d).before a0 Z = true ∧ own = O ∧ meth.name = "<init>")) (wi : (Cond.instantiable C kk).before a0 Z = true) (hty : parseFieldDescriptor d = some ty) (hn : narrow ty v = v') (hf : fits ty v' = true) (hby : c.code = bc) (hd : decode bc pc = .ok (.putfield index, 3)) (N : Fr n0 locs) (ge : n0 ≤ a) (k : ∀ T' h' locs', Stand p l e R s m args below meth c T' locs' cells slots → T'.heap = h' → Fr n0 locs' → Wr h h' a (Jvm.RoadKit.slotOf Z O n d) v' → Fld Z h' a O n d v' → h.size ≤ h'.size → own_Go p.tables e below P (T'.setTop (mkF m (pc + 3) Ls st))) : own_Go p.tables e below P (T.setTop (mkF m pc Ls (v :: (.ref a) :: st))) := by
  obtain ⟨T', h', X', e', W, sp⟩ := putFN X hx hZ hown w via eT F E L wi hty hn hf (g := mkF m pc Ls (v :: (.ref a) :: st)) rfl rfl (hb hby hd)
  exact own_go sp (k T' h' _ X' e' (Fr.snoc X' N ge) W (F.same W) (Keep.of_wr W).1)
theorem own_newO (X : Stand p l e R s m args below meth c T locs cells slots) (hx : p.tables.exec = Jvm.exec) (hZ : Z.Warmed39 s.vm) {own C : String} {index n : Nat} (hown : s.vm.findClass own = some m.cls) (w : (Cond.classLink own index C).before a0 Z = true) (wi : (Cond.instantiable C n).before a0 Z = true) (wz : (Cond.initialized C).before a0 Z = true) (eT : T.heap = h) (hby : c.code = bc) (hd : decode bc pc = .ok (.new index, 3)) (hc : cells + 1 ≤ R.cells) (hl : slots + n ≤ R.slots) (k : ∀ T' h' b, Stand p l e R s m args below meth c T' locs (cells + 1) (slots + n) → T'.heap = h' → Ext h h' → b = h.size → Exa Z h' b C → (∀ {O nm d : String} {ty : FieldType}, Laid Z a0 C O nm d → parseFieldDescriptor d = some ty → Fld Z h' b O nm d (defaultValue ty)) → b < h'.size → own_Go p.tables e below P (T'.setTop (mkF m (pc + 3) Ls ((.ref b) :: st)))) : own_Go p.tables e below P (T.setTop (mkF m pc Ls st)) := by
  obtain ⟨T', h', X', e', E, A, D, -, sp⟩ := newO X hx hZ hown w wi wz eT (g := mkF m pc Ls st) rfl (hb hby hd) hc hl
  exact own_go sp (k T' h' _ X' e' E rfl A D A.lt)
theorem own_newP (X : Stand p l e R s m args below meth c T locs cells slots) (hx : p.tables.exec = Jvm.exec) (hZ : Z.Warmed39 s.vm) {aty : ArrayType} (w : (Cond.arrayClass (newarray.typeOf aty)).before a0 Z = true) (eT : T.heap = h) (hby : c.code = bc) (hd : decode bc pc = .ok (.newarray aty, 2)) {n : Int32} (hn : ¬ n < 0) (cap : Nat) (hcap : n.toNatClampNeg ≤ cap) (hb8 : cap * 8 ≤ 536870912) (hc : cells + 1 ≤ R.cells) (hl : slots + cap ≤ R.slots) {ad : String} (had : "[" ++ (newarray.typeOf aty).toString = ad) (k : ∀ T' h' cA b, Stand p l e R s m args below meth c T' locs (cells + 1) (slots + cap) → T'.heap = h' → Ext h h' → b = h.size → Arv Z h' b cA (newarray.typeOf aty) n [] (defaultValue (newarray.typeOf aty)) → Exa Z h' b ad → b < h'.size → own_Go p.tables e below P (T'.setTop (mkF m (pc + 2) Ls ((.ref b) :: st)))) : own_Go p.tables e below P (T.setTop (mkF m pc Ls ((.int n) :: st))) := by
  obtain ⟨T', h', cA, X', e', E, A, C, sp⟩ := newPE X hx hZ w eT (g := mkF m pc Ls ((.int n) :: st)) rfl (hb hby hd) rfl hn (cap := cap) hcap hb8 hc hl had
  exact own_go sp (k T' h' cA _ X' e' E rfl (Arv.new A hn) C C.lt)
theorem own_newR (X : Stand p l e R s m args below meth c T locs cells slots) (hx : p.tables.exec = Jvm.exec) (hZ : Z.Warmed39 s.vm) {own C : String} {index : Nat} (hown : s.vm.findClass own = some m.cls) (w1 : (Cond.classLink own index C).before a0 Z = true) (w2 : (Cond.arrayOver (.object C)).before a0 Z = true) (eT : T.heap = h) (hby : c.code = bc) (hd : decode bc pc = .ok (.anewarray index, 3)) {n : Int32} (hn : ¬ n < 0) (cap : Nat) (hcap : n.toNatClampNeg ≤ cap) (hb8 : cap * 8 ≤ 536870912) (hc : cells + 1 ≤ R.cells) (hl : slots + cap ≤ R.slots) {ad : String} (had : "[" ++ (FieldType.object C).toString = ad) (k : ∀ T' h' cA b, Stand p l e R s m args below meth c T' locs (cells + 1) (slots + cap) → T'.heap = h' → Ext h h' → b = h.size → Arv Z h' b cA (.object C) n [] .null → Exa Z h' b ad → Ovr Z cA C → b < h'.size → own_Go p.tables e below P (T'.setTop (mkF m (pc + 3) Ls ((.ref b) :: st)))) : own_Go p.tables e below P (T.setTop (mkF m pc Ls ((.int n) :: st))) := by
  obtain ⟨T', h', cA, X', e', E, A, C, O, sp⟩ := newRE X hx hZ hown w1 w2 eT (g := mkF m pc Ls ((.int n) :: st)) rfl (hb hby hd) rfl hn (cap := cap) hcap hb8 hc hl had
  exact own_go sp (k T' h' cA _ X' e' E rfl (Arv.new A hn) C O C.lt)
theorem own_bastore (X : Stand p l e R s m args below meth c T locs cells slots) (hx : p.tables.exec = Jvm.exec) (hZ : Z.Warmed39 s.vm) (eT : T.heap = h) {a : Addr} {kc : ClassId} {z j : Int32} {x : Int32} {w : Value} {vs : List Value} {dv : Value} (V : Arv Z h a kc .byte z vs dv) (hj : ¬ j < 0 ∧ j < z) (i : Nat) (hi : j.toNatClampNeg = i) (hl : i < vs.length) (hv : (.int (nar .byte x)) = w) (hby : c.code = bc) (hd : decode bc pc = .ok (.bastore, 1)) (N : Fr n0 locs) (ge : n0 ≤ a) (k : ∀ T' h' locs', Stand p l e R s m args below meth c T' locs' cells slots → T'.heap = h' → Fr n0 locs' → Wr h h' a i w → Arv Z h' a kc .byte z (vs.set i w) dv → h.size ≤ h'.size → own_Go p.tables e below P (T'.setTop (mkF m (pc + 1) Ls st))) : own_Go p.tables e below P (T.setTop (mkF m pc Ls ((.int x) :: (.int j) :: (.ref a) :: st))) := by
  subst hv hi
  obtain ⟨cl, A, q, S, M, H, G⟩ := V
  obtain ⟨T', h', X', e', W, sp⟩ := stB X hx hZ eT A (j := j) (inb_of S hj) (g := mkF m pc Ls ((.int x) :: (.int j) :: (.ref a) :: st)) rfl rfl (hb hby hd)
  exact own_go sp (k T' h' _ X' e' (Fr.snoc X' N ge) W (Arv.set A q S M H G (fits_nar_byte _) W _ rfl hl) (Keep.of_wr W).1)
theorem own_aastore (X : Stand p l e R s m args below meth c T locs cells slots) (hx : p.tables.exec = Jvm.exec) (hZ : Z.Warmed39 s.vm) (eT : T.heap = h) {a : Addr} {kc : ClassId} {ty : FieldType} {z j : Int32} {v : Value} {vs : List Value} {dv : Value} (V : Arv Z h a kc ty z vs dv) (hty : ty.isReference = true) (hfit : fits ty v = true) (F : Sto Z h a v) (hj : ¬ j < 0 ∧ j < z) (i : Nat) (hi : j.toNatClampNeg = i) (hl : i < vs.length) (hby : c.code = bc) (hd : decode bc pc = .ok (.aastore, 1)) (N : Fr n0 locs) (ge : n0 ≤ a) (k : ∀ T' h' locs', Stand p l e R s m args below meth c T' locs' cells slots → T'.heap = h' → Fr n0 locs' → Wr h h' a i v → Arv Z h' a kc ty z (vs.set i v) dv → h.size ≤ h'.size → own_Go p.tables e below P (T'.setTop (mkF m (pc + 1) Ls st))) : own_Go p.tables e below P (T.setTop (mkF m pc Ls (v :: (.int j) :: (.ref a) :: st))) := by
  subst hi
  obtain ⟨cl, A, q, S, M, H, G⟩ := V
  obtain ⟨T', h', X', e', W, sp⟩ := stR X hx hZ eT A (j := j) (inb_of S hj) hty F (g := mkF m pc Ls (v :: (.int j) :: (.ref a) :: st)) rfl rfl (hb hby hd)
  exact own_go sp (k T' h' _ X' e' (Fr.snoc X' N ge) W (Arv.set A q S M H G hfit W _ rfl hl) (Keep.of_wr W).1)
theorem own_stoV {a y : Addr} {kc : ClassId} {ty : FieldType} {z : Int32} {vs : List Value} {dv : Value} {C : String} (V : Arv Z h a kc ty z vs dv) (O : Ovr Z kc C) (I : Ins Z h y C true) : Sto Z h a (.ref y) := by
  obtain ⟨cl, A, q, -⟩ := V
  exact Sto.ofV A q O I
theorem own_baload (X : Stand p l e R s m args below meth c T locs cells slots) (hx : p.tables.exec = Jvm.exec) (hZ : Z.Warmed39 s.vm) (eT : T.heap = h) {a : Addr} {kc : ClassId} {z j : Int32} {v : Value} {vs : List Value} {dv : Value} (V : Arv Z h a kc .byte z vs dv) (hj : ¬ j < 0 ∧ j < z) (hv : vs.getD j.toNatClampNeg dv = v) (hby : c.code = bc) (hd : decode bc pc = .ok (.baload, 1)) (k : own_Go p.tables e below P (T.setTop (mkF m (pc + 1) Ls (v :: st)))) : own_Go p.tables e below P (T.setTop (mkF m pc Ls ((.int j) :: (.ref a) :: st))) := by
  obtain ⟨cl, A, q, S, M, H, G⟩ := V
  exact own_go (fun t q => X.baloadBytes hx (by rw [eT]; exact A.1) (State.isArrayOf_alike hZ.alike A.2.1) A.2.2 (inb_of S hj) (Has.at H (inb_of S hj) hv) (g := mkF m pc Ls ((.int j) :: (.ref a) :: st)) rfl rfl (hb hby hd) t q) k
theorem own_aaload (X : Stand p l e R s m args below meth c T locs cells slots) (hx : p.tables.exec = Jvm.exec) (hZ : Z.Warmed39 s.vm) (eT : T.heap = h) {a : Addr} {kc : ClassId} {ty : FieldType} {z j : Int32} {v : Value} {vs : List Value} {dv : Value} (V : Arv Z h a kc ty z vs dv) (hty : ty.isReference = true) (hj : ¬ j < 0 ∧ j < z) (hv : vs.getD j.toNatClampNeg dv = v) (hby : c.code = bc) (hd : decode bc pc = .ok (.aaload, 1)) (k : own_Go p.tables e below P (T.setTop (mkF m (pc + 1) Ls (v :: st)))) : own_Go p.tables e below P (T.setTop (mkF m pc Ls ((.int j) :: (.ref a) :: st))) := by
  obtain ⟨cl, A, q, S, M, H, G⟩ := V
  exact own_go (fun t q => X.aaload hx (by rw [eT]; exact A.1) (State.isArrayOf_alike hZ.alike A.2.1) hty A.2.2 (inb_of S hj) (Has.at H (inb_of S hj) hv) (g := mkF m pc Ls ((.int j) :: (.ref a) :: st)) rfl rfl (hb hby hd) t q) k
theorem own_alen (X : Stand p l e R s m args below meth c T locs cells slots) (hx : p.tables.exec = Jvm.exec) (hZ : Z.Warmed39 s.vm) (eT : T.heap = h) {a : Addr} {kc : ClassId} {ty : FieldType} {z : Int32} {vs : List Value} {dv : Value} (V : Arv Z h a kc ty z vs dv) (hby : c.code = bc) (hd : decode bc pc = .ok (.arraylength, 1)) (k : own_Go p.tables e below P (T.setTop (mkF m (pc + 1) Ls ((.int z) :: st)))) : own_Go p.tables e below P (T.setTop (mkF m pc Ls ((.ref a) :: st))) := by
  obtain ⟨cl, A, q, S, M, H, G⟩ := V
  refine own_go (fun t q => X.arraylength hx (by rw [eT]; exact A.1) (State.isArrayOf_alike hZ.alike A.2.1) (g := mkF m pc Ls ((.ref a) :: st)) rfl rfl (hb hby hd) t q) ?_
  rw [len_of S M]; exact k
theorem own_castY (X : Stand p l e R s m args below meth c T locs cells slots) (hx : p.tables.exec = Jvm.exec) (hZ : Z.Warmed39 s.vm) {own K : String} {index : Nat} (hown : s.vm.findClass own = some m.cls) (w : (Cond.classLink own index K).before a0 Z = true) (eT : T.heap = h) {a : Addr} (F : Ins Z h a K true) (hby : c.code = bc) (hd : decode bc pc = .ok (.checkcast index, 3)) (k : ∀ T', Stand p l e R s m args below meth c T' locs cells slots → T'.heap = h → own_Go p.tables e below P (T'.setTop (mkF m (pc + 3) Ls ((.ref a) :: st)))) : own_Go p.tables e below P (T.setTop (mkF m pc Ls ((.ref a) :: st))) := by
  obtain ⟨T', X', e', sp⟩ := castY X hx hZ hown w eT F (g := mkF m pc Ls ((.ref a) :: st)) rfl rfl (hb hby hd)
  exact own_go sp (k T' X' e')
theorem own_ldcInt (X : Stand p l e R s m args below meth c T locs cells slots) (hx : p.tables.exec = Jvm.exec) (hZ : Z.Warmed39 s.vm) {own : String} {index : Nat} {v : Int32} (hown : s.vm.findClass own = some m.cls) (w : (Cond.constant own index v).before a0 Z = true) (hby : c.code = bc) (hd : decode bc pc = .ok (.ldc index, 2)) (k : own_Go p.tables e below P (T.setTop (mkF m (pc + 2) Ls ((.int v) :: st)))) : own_Go p.tables e below P (T.setTop (mkF m pc Ls st)) := by
  exact own_go (X.ldcInt hx hown (mvT hZ w) (g := mkF m pc Ls st) rfl (hb hby hd)) k
theorem own_initO (X : Stand p l e R s m args below meth c T locs cells slots) (hx : p.tables.exec = Jvm.exec) (hZ : Z.Warmed39 s.vm) {own : String} {idx : Nat} (hown : s.vm.findClass own = some m.cls) (w1 : (Cond.methodLink own idx Lib.objectInit).before a0 Z = true) (w2 : (Cond.instanceMethod Lib.objectInit).before a0 Z = true) (w3 : (Cond.code Lib.objectInit ⟨#[0xb1]⟩ 1 none).before a0 Z = true) (eT : T.heap = h) (hsize : Ls.size = c.maxLocals) {a : Addr} (hby : c.code = bc) (hd : decode bc pc = .ok (.invokespecial idx, 3)) (hf : 1 ≤ R.frames) (W : Nat) (hW : 2 * 0 + (st.map fun v => v.category).sum ≤ W) (hl : W + 12 ≤ R.locals) (k : ∀ T', Stand p l e R s m args below meth c T' locs cells slots → T'.heap = h → own_Go p.tables e below P (T'.setTop (mkF m (pc + 3) Ls st))) : own_Go p.tables e below P (T.setTop (mkF m pc Ls ((.ref a) :: st))) := by
  obtain ⟨T', X', e', sp⟩ := initO X hx hZ hown w1 w2 w3 eT (g := mkF m pc Ls ((.ref a) :: st)) rfl hsize rfl (hb hby hd) hf (W := W) hW hl
  exact own_go sp (k T' X' e')
theorem own_callS (X : Stand p l e R s m args below meth c T locs cells slots) (hx : p.tables.exec = Jvm.exec) (hZ : Z.Warmed39 s.vm) {own : String} {index : Nat} {y : MethodName} {bytes : ByteArray} {maxL : Nat} {ret : Option FieldType} {rm : Room} {Qc : Option Value → Heap → List Loc → Prop} {as' : Array Value} (hown : s.vm.findClass own = some m.cls) (w1 : (Cond.methodLink own index y).before a0 Z = true) (w2 : (Cond.static y).before a0 Z = true) (w3 : (Cond.initialized y.cls).before a0 Z = true) (w4 : (Cond.code y bytes maxL ret).before a0 Z = true) (hy : y.cls ≠ "java/lang/invoke/MethodHandle" ∧ y.cls ≠ "java/lang/invoke/VarHandle") (hM : MetFree l y (head1 [Cond.code y bytes maxL ret] rm) (fun a U => a = as' ∧ Z.Warmed39 U.vm ∧ U.heap = h) (fun _ _ _ _ _ => True) (fun _ U o U' => ∃ v L, o = .returned v ∧ Qc v U'.heap L ∧ FrameEnd U o U' L rm.cells rm.slots)) (W : Nat) (hW : 2 * 0 + (st.map fun v => v.category).sum ≤ W) (hf : rm.frames + 1 ≤ R.frames) (hl : W + (maxL + 11) + rm.locals ≤ R.locals) (hsize : Ls.size = c.maxLocals) {argsL stk : List Value} (hlen : ∀ sig, parseMethodDescriptor y.desc = some sig → argsL.length = sig.parameters.length) (hstk : stk = argsL.reverse ++ st) (has : argsL.toArray = as') (hc : cells + rm.cells ≤ R.cells) (hs : slots + rm.slots ≤ R.slots) (eT : T.heap = h) (hby : c.code = bc) (hd : decode bc pc = .ok (.invokestatic index, 3)) (k : ∀ T' v L, Stand p l e R s m args below meth c T' (locs ++ L) (cells + rm.cells) (slots + rm.slots) → Qc v T'.heap L → own_Go p.tables e below P (T'.setTop (mkF m (pc + 3) Ls (v.toList ++ st)))) : own_Go p.tables e below P (T.setTop (mkF m pc Ls stk)) := by
  subst hstk
  obtain ⟨v, _, ⟨T', L', k', n'⟩, -, X', ⟨L, hQ, hl', hy', hz'⟩, sp⟩ := Jvm.LawKit.callS X hx hown (mvT hZ w1) (mvT hZ w2) (mvT hZ w3) (mvT hZ w4) hy (backOf (W := W) hM hZ w4 w3 hf hl) (g := mkF m pc Ls (argsL.reverse ++ st)) rfl hsize (argsL := argsL) (rest := st) hlen rfl hW (hb hby hd) (fun _ _ => ⟨has, eT, hc, hs⟩)
  dsimp only [Pt.U, Pt.locs, Pt.cells, Pt.slots] at X' hl' hy' hz' sp hQ
  subst hl' hy' hz'
  exact own_go sp (k T' v L X' hQ)
theorem own_special (X : Stand p l e R s m args below meth c T locs cells slots) (hx : p.tables.exec = Jvm.exec) (hZ : Z.Warmed39 s.vm) {own : String} {index : Nat} {y : MethodName} {bytes : ByteArray} {maxL : Nat} {rm : Room} {Qc : Option Value → Heap → List Loc → Prop} {as' : Array Value} (hy1 : y.name = "<init>") (hown : s.vm.findClass own = some m.cls) (w1 : (Cond.methodLink own index y).before a0 Z = true) (w2 : (Cond.instanceMethod y).before a0 Z = true) (w3 : (Cond.initialized y.cls).before a0 Z = true) (w4 : (Cond.code y bytes maxL none).before a0 Z = true) (hy : y.cls ≠ "java/lang/invoke/MethodHandle" ∧ y.cls ≠ "java/lang/invoke/VarHandle") (hM : MetFree l y (head1 [Cond.code y bytes maxL none] rm) (fun a U => a = as' ∧ Z.Warmed39 U.vm ∧ U.heap = h) (fun _ _ _ _ _ => True) (fun _ U o U' => ∃ v L, o = .returned v ∧ Qc v U'.heap L ∧ FrameEnd U o U' L rm.cells rm.slots)) (W : Nat) (hW : 2 * 0 + (st.map fun v => v.category).sum ≤ W) (hf : rm.frames + 1 ≤ R.frames) (hl : W + (maxL + 11) + rm.locals ≤ R.locals) (hsize : Ls.size = c.maxLocals) {argsL stk : List Value} {a : Addr} (hlen : ∀ sig, parseMethodDescriptor y.desc = some sig → argsL.length = sig.parameters.length) (hstk : stk = argsL.reverse ++ (.ref a) :: st) (has : ((.ref a) :: argsL).toArray = as') (hc : cells + rm.cells ≤ R.cells) (hs : slots + rm.slots ≤ R.slots) (eT : T.heap = h) (hby : c.code = bc) (hd : decode bc pc = .ok (.invokespecial index, 3)) (k : ∀ T' v L, Stand p l e R s m args below meth c T' (locs ++ L) (cells + rm.cells) (slots + rm.slots) → Qc v T'.heap L → own_Go p.tables e below P (T'.setTop (mkF m (pc + 3) Ls (v.toList ++ st)))) : own_Go p.tables e below P (T.setTop (mkF m pc Ls stk)) := by
  subst hstk
  obtain ⟨v, _, ⟨T', L', k', n'⟩, -, X', ⟨L, hQ, hl', hy', hz'⟩, sp⟩ := X.specialBack hx hy1 hown (mvT hZ w1) (mvT hZ w2) (mvT hZ w4) hy (backOf (W := W) hM hZ w4 w3 hf hl) (g := mkF m pc Ls (argsL.reverse ++ (.ref a) :: st)) rfl hsize (Steps.refl _) (a := a) (argsL := argsL) (rest := st) hlen rfl hW (hb hby hd) (fun _ _ => ⟨has, eT, hc, hs⟩)
  dsimp only [Pt.U, Pt.locs, Pt.cells, Pt.slots] at X' hl' hy' hz' sp hQ
  subst hl' hy' hz'
  exact own_go (fun t q => sp.trans q) (k T' v L X' hQ)
theorem own_virtual (X : Stand p l e R s m args below meth c T locs cells slots) (hx : p.tables.exec = Jvm.exec) (hZ : Z.Warmed39 s.vm) {own C : String} {index : Nat} {y z : MethodName} {bytes : ByteArray} {maxL : Nat} {ret : Option FieldType} {rm : Room} {Qc : Option Value → Heap → List Loc → Prop} {as' : Array Value} (hown : s.vm.findClass own = some m.cls) (w1 : (Cond.methodLink own index y).before a0 Z = true) (w2 : (Cond.declares y).before a0 Z = true) (nf : NotFace s y) (w5 : (Cond.selects C y z).before a0 Z = true) (w6 : (Cond.instanceMethod z).before a0 Z = true) (w3 : (Cond.initialized z.cls).before a0 Z = true) (w4 : (Cond.code z bytes maxL ret).before a0 Z = true) (hy : y.cls ≠ "java/lang/invoke/MethodHandle" ∧ y.cls ≠ "java/lang/invoke/VarHandle") (hM : MetFree l z (head1 [Cond.code z bytes maxL ret] rm) (fun a U => a = as' ∧ Z.Warmed39 U.vm ∧ U.heap = h) (fun _ _ _ _ _ => True) (fun _ U o U' => ∃ v L, o = .returned v ∧ Qc v U'.heap L ∧ FrameEnd U o U' L rm.cells rm.slots)) (W : Nat) (hW : 2 * 0 + (st.map fun v => v.category).sum ≤ W) (hf : rm.frames + 1 ≤ R.frames) (hl : W + (maxL + 11) + rm.locals ≤ R.locals) (hsize : Ls.size = c.maxLocals) {argsL stk : List Value} {a : Addr} (E : Exa Z h a C) (hlen : ∀ sig, parseMethodDescriptor y.desc = some sig → argsL.length = sig.parameters.length) (hstk : stk = argsL.reverse ++ (.ref a) :: st) (has : ((.ref a) :: argsL).toArray = as') (hc : cells + rm.cells ≤ R.cells) (hs : slots + rm.slots ≤ R.slots) (eT : T.heap = h) (hby : c.code = bc) (hd : decode bc pc = .ok (.invokevirtual index, 3)) (k : ∀ T' v L, Stand p l e R s m args below meth c T' (locs ++ L) (cells + rm.cells) (slots + rm.slots) → Qc v T'.heap L → own_Go p.tables e below P (T'.setTop (mkF m (pc + 3) Ls (v.toList ++ st)))) : own_Go p.tables e below P (T.setTop (mkF m pc Ls stk)) := by
  subst hstk
  obtain ⟨cq, kq, qa, qb, qc⟩ := isOf hZ eT E
  obtain ⟨v, _, ⟨T', L', k', n'⟩, -, X', ⟨L, hQ, hl', hy', hz'⟩, sp⟩ := X.virtualBack hx hown (mvT hZ w1) (mvT hZ w2) nf (mvT hZ w5) (mvT hZ w6) hy (backOf (W := W) hM hZ w4 w3 hf hl) qa qc (g := mkF m pc Ls (argsL.reverse ++ (.ref a) :: st)) rfl hsize (Steps.refl _) (argsL := argsL) (rest := st) hlen rfl hW (hb hby hd) (fun _ _ => ⟨has, eT, hc, hs⟩)
  dsimp only [Pt.U, Pt.locs, Pt.cells, Pt.slots] at X' hl' hy' hz' sp hQ
  subst hl' hy' hz'
  exact own_go (fun t q => sp.trans q) (k T' v L X' hQ)
theorem own_super (X : Stand p l e R s m args below meth c T locs cells slots) (hx : p.tables.exec = Jvm.exec) (hZ : Z.Warmed39 s.vm) {own C : String} {index : Nat} {y : MethodName} {bytes : ByteArray} {maxL : Nat} {ret : Option FieldType} {rm : Room} {Qc : Option Value → Heap → List Loc → Prop} {as' : Array Value} (hn : y.name ≠ "<init>") (hown : s.vm.findClass own = some m.cls) (w1 : (Cond.methodLink own index y).before a0 Z = true) (w2 : (Cond.sameMethod y.cls y.cls y.name y.desc).before a0 Z = true) (w6 : (Cond.instanceMethod y).before a0 Z = true) (w7 : (Cond.superclass own y.cls).before a0 Z = true) (w3 : (Cond.initialized y.cls).before a0 Z = true) (w4 : (Cond.code y bytes maxL ret).before a0 Z = true) (hM : MetFree l y (head1 [Cond.code y bytes maxL ret] rm) (fun a U => a = as' ∧ Z.Warmed39 U.vm ∧ U.heap = h) (fun _ _ _ _ _ => True) (fun _ U o U' => ∃ v L, o = .returned v ∧ Qc v U'.heap L ∧ FrameEnd U o U' L rm.cells rm.slots)) (W : Nat) (hW : 2 * 0 + (st.map fun v => v.category).sum ≤ W) (hf : rm.frames + 1 ≤ R.frames) (hl : W + (maxL + 11) + rm.locals ≤ R.locals) (hsize : Ls.size = c.maxLocals) {argsL stk : List Value} {a : Addr} (E : Exa Z h a C) (hlen : ∀ sig, parseMethodDescriptor y.desc = some sig → argsL.length = sig.parameters.length) (hstk : stk = argsL.reverse ++ (.ref a) :: st) (has : ((.ref a) :: argsL).toArray = as') (hc : cells + rm.cells ≤ R.cells) (hs : slots + rm.slots ≤ R.slots) (eT : T.heap = h) (hby : c.code = bc) (hd : decode bc pc = .ok (.invokespecial index, 3)) (k : ∀ T' v L, Stand p l e R s m args below meth c T' (locs ++ L) (cells + rm.cells) (slots + rm.slots) → Qc v T'.heap L → own_Go p.tables e below P (T'.setTop (mkF m (pc + 3) Ls (v.toList ++ st)))) : own_Go p.tables e below P (T.setTop (mkF m pc Ls stk)) := by
  subst hstk
  obtain ⟨v, _, ⟨T', L', k', n'⟩, -, X', ⟨L, hQ, hl', hy', hz'⟩, sp⟩ := superBack X hx hZ hown w1 w2 w6 w7 hn (backOf (W := W) hM hZ w4 w3 hf hl) eT (Ins.self E) (g := mkF m pc Ls (argsL.reverse ++ (.ref a) :: st)) rfl hsize w4 (argsL := argsL) (rest := st) hlen rfl hW (hb hby hd) (fun _ _ => ⟨has, eT, hc, hs⟩)
  dsimp only [Pt.U, Pt.locs, Pt.cells, Pt.slots] at X' hl' hy' hz' sp hQ
  subst hl' hy' hz'
  exact own_go (fun t q => sp.trans q) (k T' v L X' hQ)
theorem own_privateS (X : Stand p l e R s m args below meth c T locs cells slots) (hx : p.tables.exec = Jvm.exec) (hZ : Z.Warmed39 s.vm) {own C : String} {index : Nat} {y : MethodName} {bytes : ByteArray} {maxL : Nat} {ret : Option FieldType} {rm : Room} {Qc : Option Value → Heap → List Loc → Prop} {as' : Array Value} (hown : s.vm.findClass own = some m.cls) (w1 : (Cond.methodLink own index y).before a0 Z = true) (w6 : (Cond.instanceMethod y).before a0 Z = true) (w5 : (Cond.selects C y y).before a0 Z = true) (w7 : (Cond.privateMethod y).before a0 Z = true) (w3 : (Cond.initialized y.cls).before a0 Z = true) (w4 : (Cond.code y bytes maxL ret).before a0 Z = true) (hy : y.cls ≠ "java/lang/invoke/MethodHandle" ∧ y.cls ≠ "java/lang/invoke/VarHandle") (hM : MetFree l y (head1 [Cond.code y bytes maxL ret] rm) (fun a U => a = as' ∧ Z.Warmed39 U.vm ∧ U.heap = h) (fun _ _ _ _ _ => True) (fun _ U o U' => ∃ v L, o = .returned v ∧ Qc v U'.heap L ∧ FrameEnd U o U' L rm.cells rm.slots)) (W : Nat) (hW : 2 * 0 + (st.map fun v => v.category).sum ≤ W) (hf : rm.frames + 1 ≤ R.frames) (hl : W + (maxL + 11) + rm.locals ≤ R.locals) (hsize : Ls.size = c.maxLocals) {argsL stk : List Value} {a : Addr} (E : Exa Z h a C) (hlen : ∀ sig, parseMethodDescriptor y.desc = some sig → argsL.length = sig.parameters.length) (hstk : stk = argsL.reverse ++ (.ref a) :: st) (has : ((.ref a) :: argsL).toArray = as') (hc : cells + rm.cells ≤ R.cells) (hs : slots + rm.slots ≤ R.slots) (eT : T.heap = h) (hby : c.code = bc) (hd : decode bc pc = .ok (.invokevirtual index, 3)) (k : ∀ T' v L, Stand p l e R s m args below meth c T' (locs ++ L) (cells + rm.cells) (slots + rm.slots) → Qc v T'.heap L → own_Go p.tables e below P (T'.setTop (mkF m (pc + 3) Ls (v.toList ++ st)))) : own_Go p.tables e below P (T.setTop (mkF m pc Ls stk)) := by
  subst hstk
  obtain ⟨cq, q1, q2⟩ := E.cell
  have hp : s.PrivateAt y := Cond.privateMethod_at (mvP hZ w7 (args := #[]))
  obtain ⟨mk, methM, hnamed, hmethM, -, -⟩ := Cond.instanceMethod_spec (mvT (args := args) hZ w6)
  obtain ⟨kr, hkr, hni⟩ := notFace_of_selects (args := args) (mvT hZ w5) mk hnamed
  obtain ⟨v, _, ⟨T', L', k', n'⟩, -, X', ⟨L, hQ, hl', hy', hz'⟩, sp⟩ := X.privateBack hx hown (mvT hZ w1) (mvT hZ w6) (selects_self_of_private (findClass_of_methodNamed hnamed) hkr hni hp (mvT hZ w6) hy) hp (mvT hZ w4) hy (backOf (W := W) hM hZ w4 w3 hf hl) (g := mkF m pc Ls (argsL.reverse ++ (.ref a) :: st)) rfl hsize (Steps.refl _) (a := a) (by rw [eT]; exact q1) q2 (argsL := argsL) (rest := st) hlen rfl hW (hb hby hd) (fun _ _ => ⟨has, eT, hc, hs⟩)
  dsimp only [Pt.U, Pt.locs, Pt.cells, Pt.slots] at X' hl' hy' hz' sp hQ
  subst hl' hy' hz'
  exact own_go (fun t q => sp.trans q) (k T' v L X' hQ)
theorem own_interface (X : Stand p l e R s m args below meth c T locs cells slots) (hx : p.tables.exec = Jvm.exec) (hZ : Z.Warmed39 s.vm) {own C : String} {index count : Nat} {y z : MethodName} {bytes : ByteArray} {maxL : Nat} {ret : Option FieldType} {rm : Room} {Qc : Option Value → Heap → List Loc → Prop} {as' : Array Value} (hown : s.vm.findClass own = some m.cls) (w1 : (Cond.methodLink own index y).before a0 Z = true) (w2 : (Cond.declares y).before a0 Z = true) (w7 : (Cond.interfaceMethod y.cls y.cls y.name y.desc).before a0 Z = true) (w5 : (Cond.selects C y z).before a0 Z = true) (w6 : (Cond.instanceMethod z).before a0 Z = true) (w8 : (Cond.publicMethod z).before a0 Z = true) (w9 : (Cond.unhidden C y.name y.desc).before a0 Z = true) (w10 : (Cond.castable C y.cls).before a0 Z = true) (w3 : (Cond.initialized z.cls).before a0 Z = true) (w4 : (Cond.code z bytes maxL ret).before a0 Z = true) (hy : y.cls ≠ "java/lang/invoke/MethodHandle" ∧ y.cls ≠ "java/lang/invoke/VarHandle") (hM : MetFree l z (head1 [Cond.code z bytes maxL ret] rm) (fun a U => a = as' ∧ Z.Warmed39 U.vm ∧ U.heap = h) (fun _ _ _ _ _ => True) (fun _ U o U' => ∃ v L, o = .returned v ∧ Qc v U'.heap L ∧ FrameEnd U o U' L rm.cells rm.slots)) (W : Nat) (hW : 2 * 0 + (st.map fun v => v.category).sum ≤ W) (hf : rm.frames + 1 ≤ R.frames) (hl : W + (maxL + 11) + rm.locals ≤ R.locals) (hsize : Ls.size = c.maxLocals) {argsL stk : List Value} {a : Addr} (E : Exa Z h a C) (hlen : ∀ sig, parseMethodDescriptor y.desc = some sig → argsL.length = sig.parameters.length) (hstk : stk = argsL.reverse ++ (.ref a) :: st) (has : ((.ref a) :: argsL).toArray = as') (hc : cells + rm.cells ≤ R.cells) (hs : slots + rm.slots ≤ R.slots) (eT : T.heap = h) (hby : c.code = bc) (hd : decode bc pc = .ok (.invokeinterface index count, 5)) (k : ∀ T' v L, Stand p l e R s m args below meth c T' (locs ++ L) (cells + rm.cells) (slots + rm.slots) → Qc v T'.heap L → own_Go p.tables e below P (T'.setTop (mkF m (pc + 5) Ls (v.toList ++ st)))) : own_Go p.tables e below P (T.setTop (mkF m pc Ls stk)) := by
  subst hstk
  obtain ⟨cq, kq, qa, qb, qc⟩ := isOf hZ eT E
  obtain ⟨v, _, ⟨T', L', k', n'⟩, -, X', ⟨L, hQ, hl', hy', hz'⟩, sp⟩ := X.interfaceBack hx hown (mvT hZ w1) (mvT hZ w2) (own_mvI hZ w7) (mvT hZ w5) (mvT hZ w6) (mvT hZ w8) (mvT hZ w9) (mvT hZ w10) hy (backOf (W := W) hM hZ w4 w3 hf hl) qa qb qc (g := mkF m pc Ls (argsL.reverse ++ (.ref a) :: st)) rfl hsize (Steps.refl _) (argsL := argsL) (rest := st) hlen rfl hW (hb hby hd) (fun _ _ => ⟨has, eT, hc, hs⟩)
  dsimp only [Pt.U, Pt.locs, Pt.cells, Pt.slots] at X' hl' hy' hz' sp hQ
  subst hl' hy' hz'
  exact own_go (fun t q => sp.trans q) (k T' v L X' hQ)
theorem own_interfaceUp (X : Stand p l e R s m args below meth c T locs cells slots) (hx : p.tables.exec = Jvm.exec) (hZ : Z.Warmed39 s.vm) {own C J : String} {index count : Nat} {y z : MethodName} {bytes : ByteArray} {maxL : Nat} {ret : Option FieldType} {rm : Room} {Qc : Option Value → Heap → List Loc → Prop} {as' : Array Value} (hown : s.vm.findClass own = some m.cls) (w1 : (Cond.methodLink own index y).before a0 Z = true) (wd : (Cond.declares ⟨J, y.name, y.desc⟩).before a0 Z = true) (w7 : (Cond.interfaceMethod y.cls J y.name y.desc).before a0 Z = true) (hyo : y.cls ≠ J) (hnc : y.name ≠ "clone") (w5 : (Cond.selects C y z).before a0 Z = true) (w6 : (Cond.instanceMethod z).before a0 Z = true) (w8 : (Cond.publicMethod z).before a0 Z = true) (w9 : (Cond.unhidden C y.name y.desc).before a0 Z = true) (w10 : (Cond.castable C y.cls).before a0 Z = true) (w3 : (Cond.initialized z.cls).before a0 Z = true) (w4 : (Cond.code z bytes maxL ret).before a0 Z = true) (hM : MetFree l z (head1 [Cond.code z bytes maxL ret] rm) (fun a U => a = as' ∧ Z.Warmed39 U.vm ∧ U.heap = h) (fun _ _ _ _ _ => True) (fun _ U o U' => ∃ v L, o = .returned v ∧ Qc v U'.heap L ∧ FrameEnd U o U' L rm.cells rm.slots)) (W : Nat) (hW : 2 * 0 + (st.map fun v => v.category).sum ≤ W) (hf : rm.frames + 1 ≤ R.frames) (hl : W + (maxL + 11) + rm.locals ≤ R.locals) (hsize : Ls.size = c.maxLocals) {argsL stk : List Value} {a : Addr} (E : Exa Z h a C) (hlen : ∀ sig, parseMethodDescriptor y.desc = some sig → argsL.length = sig.parameters.length) (hstk : stk = argsL.reverse ++ (.ref a) :: st) (has : ((.ref a) :: argsL).toArray = as') (hc : cells + rm.cells ≤ R.cells) (hs : slots + rm.slots ≤ R.slots) (eT : T.heap = h) (hby : c.code = bc) (hd : decode bc pc = .ok (.invokeinterface index count, 5)) (k : ∀ T' v L, Stand p l e R s m args below meth c T' (locs ++ L) (cells + rm.cells) (slots + rm.slots) → Qc v T'.heap L → own_Go p.tables e below P (T'.setTop (mkF m (pc + 5) Ls (v.toList ++ st)))) : own_Go p.tables e below P (T.setTop (mkF m pc Ls stk)) := by
  subst hstk
  obtain ⟨cq, kq, qa, qb, qc⟩ := isOf hZ eT E
  obtain ⟨vm1, mk, hnm, X1, sp1⟩ := own_ifStep X hx hown (mvT hZ w1) (mvT hZ wd) (own_mvI hZ w7) hyo hnc (mvT hZ w5) (mvT hZ w6) (mvT hZ w8) (mvT hZ w9) (mvT hZ w10) qa qb qc (g := mkF m pc Ls (argsL.reverse ++ (.ref a) :: st)) rfl hlen rfl (hb hby hd)
  obtain ⟨v, ⟨T', L', k', n'⟩, X', ⟨L, hQ, hl', hy', hz'⟩, sp⟩ := (backOf (W := W) (len := 5) hM hZ w4 w3 hf hl) m meth c ⟨T.setVm vm1, locs, cells, slots⟩ { mkF m pc Ls (argsL.reverse ++ (.ref a) :: st) with stack := st } (.invokeinterface index count) mk (.ref a :: argsL).toArray X1 rfl hsize (hb hby hd) hW (X1.named hnm) ⟨has, eT, hc, hs⟩
  dsimp only [Pt.U, Pt.locs, Pt.cells, Pt.slots] at X' hl' hy' hz' sp hQ
  subst hl' hy' hz'
  exact own_go (fun t q => (sp1 _ fun acts => by rw [doInvoke_state]; exact Steps.refl _).trans (sp.trans q)) (k T' v L X' hQ)
theorem own_cloneH (X : Stand p l e R s m args below meth c T locs cells slots) (hx : p.tables.exec = Jvm.exec) (hZ : Z.Warmed39 s.vm) {own ad : String} {index : Nat} (hown : s.vm.findClass own = some m.cls) (w1 : (Cond.methodLink own index ⟨ad, "clone", "()Ljava/lang/Object;"⟩).before a0 Z = true) (w2 : (Cond.sameMethod ad "java/lang/Object" "clone" "()Ljava/lang/Object;").before a0 Z = true) (w3 : (Cond.native ⟨"java/lang/Object", "clone", "()Ljava/lang/Object;"⟩).before a0 Z = true) (w4 : (Cond.instanceMethod ⟨"java/lang/Object", "clone", "()Ljava/lang/Object;"⟩).before a0 Z = true) (w5 : (Cond.selects ad ⟨ad, "clone", "()Ljava/lang/Object;"⟩ ⟨"java/lang/Object", "clone", "()Ljava/lang/Object;"⟩).before a0 Z = true) (w6 : (Cond.castable ad "java/lang/Cloneable").before a0 Z = true) (eT : T.heap = h) {a : Addr} {kc : ClassId} {ty : FieldType} {z : Int32} {hs : List (Int32 × Value)} {vs : List Value} {dv : Value} (F : Arh Z h a kc ty z hs vs dv) (E : Exa Z h a ad) (hsize : Ls.size = c.maxLocals) (hby : c.code = bc) (hd : decode bc pc = .ok (.invokevirtual index, 3)) (hf : 1 ≤ R.frames) (W cap : Nat) (hW : 2 * 0 + (st.map fun v => v.category).sum ≤ W) (hl : W + 14 ≤ R.locals) (hcap : z.toNatClampNeg ≤ cap) (hc : cells + 1 ≤ R.cells) (hsl : slots + cap ≤ R.slots) (k : ∀ T' h' b, Stand p l e R s m args below meth c T' locs (cells + 1) (slots + cap) → T'.heap = h' → Ext h h' → b = h.size → Arh Z h' b kc ty z hs vs dv → Exa Z h' b ad → b < h'.size → own_Go p.tables e below P (T'.setTop (mkF m (pc + 3) Ls ((.ref b) :: st)))) : own_Go p.tables e below P (T.setTop (mkF m pc Ls ((.ref a) :: st))) := by
  obtain ⟨T', h', X', e', E', A', C', sp⟩ := cloneH X hx hZ hown w1 w2 w3 w4 w5 w6 eT F E (g := mkF m pc Ls ((.ref a) :: st)) rfl hsize rfl (hb hby hd) hf (W := W) (cap := cap) hW hl hcap hc hsl
  exact own_go sp (k T' h' _ X' e' E' rfl A' C' C'.lt)
theorem own_copyL (X : Stand p l e R s m args below meth c T locs cells slots) (hx : p.tables.exec = Jvm.exec) (hZ : Z.Warmed39 s.vm) {own : String} {index : Nat} (hown : s.vm.findClass own = some m.cls) (w1 : (Cond.methodLink own index Jvm.Stand.acN).before a0 Z = true) (w2 : (Cond.native Jvm.Stand.acN).before a0 Z = true) (w3 : (Cond.static Jvm.Stand.acN).before a0 Z = true) (w4 : (Cond.initialized "java/lang/System").before a0 Z = true) (eT : T.heap = h) {a b : Addr} {ka kb : ClassId} {ty : FieldType} {z z' sp dp nn : Int32} {vs vd res : List Value} {dv dd : Value} (A : Arv Z h a ka ty z vs dv) (B : Arv Z h b kb ty z' vd dd) (hty : refKind ty = false) (i j n : Nat) (hi : sp.toNatClampNeg = i) (hj : dp.toNatClampNeg = j) (hn : nn.toNatClampNeg = n) (h1 : ¬ sp < 0) (h2 : ¬ dp < 0) (h3 : ¬ nn < 0) (h4 : i + n ≤ z.toNatClampNeg) (h5 : j + n ≤ z'.toNatClampNeg) (hl : j + n ≤ vd.length) (hres : vd.take j ++ ((List.range n).map fun q => vs.getD (i + q) dv) ++ vd.drop (j + n) = res) (N : Fr n0 locs) (ge : n0 ≤ b) (hsize : Ls.size = c.maxLocals) (hby : c.code = bc) (hd : decode bc pc = .ok (.invokestatic index, 3)) (hf : 1 ≤ R.frames) (W : Nat) (hW : 2 * 0 + (st.map fun v => v.category).sum ≤ W) (hlo : W + (nativeFrameWords "java/lang/System" "arraycopy" 5 + 11) ≤ R.locals) (k : ∀ T' h' locs', Stand p l e R s m args below meth c T' locs' cells slots → T'.heap = h' → Fr n0 locs' → Keep h h' [b] → Arv Z h' b kb ty z' res dd → h.size ≤ h'.size → own_Go p.tables e below P (T'.setTop (mkF m (pc + 3) Ls st))) : own_Go p.tables e below P (T.setTop (mkF m pc Ls ((.int nn) :: (.int dp) :: (.ref b) :: (.int sp) :: (.ref a) :: st))) := by
  subst hi hj hn hres
  obtain ⟨T', h', L', X', e', N', K', V', st'⟩ := cpA X hx hZ hown w1 w2 w3 w4 eT A B (sp := sp) (dp := dp) (nn := nn) (us := (List.range nn.toNatClampNeg).map fun q => vs.getD (sp.toNatClampNeg + q) dv) (Or.inl ⟨rfl, hty⟩) h1 h2 h3 h4 h5 rfl hl N ge (g := mkF m pc Ls ((.int nn) :: (.int dp) :: (.ref b) :: (.int sp) :: (.ref a) :: st)) rfl hsize rfl (hb hby hd) hf (W := W) hW hlo
  exact own_go st' (k T' h' L' X' e' N' K' V' K'.1)
theorem own_ldcCH {vm0 : Vm} (X : Stand p l e R (s.setVm vm0) m args below meth c T locs cells slots) (hx : p.tables.exec = Jvm.exec) (hZ : Z.Warmed39 vm0) {own text : String} {index : Nat} {EL : List (String × Nat)} (hEL : EW Z a0 EL) (hown : vm0.findClass own = some m.cls) (w : (Cond.stringLink own index text).before a0 Z = true) (wS : ∀ a ∈ Bundle.stringAtoms, a.before a0 Z = true) (eT : T.heap = h) {k0 : Nat} (hS : s.Since vm0 k0) (hk : k0 ≤ h.size) (H : CHv Z EL vm0 h) (hmem : (own, index) ∈ EL) {vs : List Value} {z : Int32} (ht : (∀ c ∈ text.toList, c.toNat < 256) ∧ text.toList.map (fun c => Value.int (Jvm.Lit.byteI c.toNat.toUInt16)) = vs) (hz : ¬ z < 0) (hl : z.toNatClampNeg = vs.length) (hby : c.code = bc) (hd : decode bc pc = .ok (.ldc index, 2)) (n : Nat) (hn : 4 * text.toList.length ≤ n) (hbig : n ≤ 536870912) (hc : cells + 2 ≤ R.cells) (hl' : slots + (n + 4) ≤ R.slots) (k : ∀ a T' h' k1 vm1 b kb, Stand p l e R (s.setVm vm1) m args below meth c T' locs (cells + 2) (slots + (n + 4)) → T'.heap = h' → Ext h h' → s.Since vm1 k1 → k1 ≤ h'.size → Z.Warmed39 vm1 → vm1.findClass own = some m.cls → Exa Z h' a "java/lang/String" → Fld Z h' a "java/lang/String" "coder" "B" (.int 0) → Fld Z h' a "java/lang/String" "value" "[B" (.ref b) → Arv Z h' b kb .byte z vs (.int 0) → a < h'.size → b < h'.size → CHr Z EL vm0 h vm1 h' → (∀ x, Safe Z EL vm1 h' x → x ≠ a ∧ x ≠ b) → own_Go p.tables e below P (T'.setTop (mkF m (pc + 2) Ls ((.ref a) :: st)))) : own_Go p.tables e below P (T.setTop (mkF m pc Ls st)) := by
  obtain ⟨a, T', h', k1, b, kb, X', e', E, hS', hk', hZ', hown', q1, q2, q3, q4, q5, q6, q7, -, q8, sp⟩ := ldcCH X hx hZ hown w wS eT hS hk hEL hmem H ht hz hl (g := mkF m pc Ls st) rfl (hb hby hd) hn hbig hc hl'
  exact own_go sp (k a T' h' k1 T'.vm b kb X' e' E hS' hk' hZ' hown' q1 q2 q3 q4 q5 q6 q7 q8)
theorem own_specialH {vm0 : Vm} (X : Stand p l e R (s.setVm vm0) m args below meth c T locs cells slots) (hx : p.tables.exec = Jvm.exec) (hZ : Z.Warmed39 vm0) {EL : List (String × Nat)} (hEL : EW Z a0 EL) {own : String} {index : Nat} {y : MethodName} {bytes : ByteArray} {maxL : Nat} {rm : Room} {Qc : Option Value → Heap → List Loc → Prop} {as' : Array Value} (hy1 : y.name = "<init>") (hown : vm0.findClass own = some m.cls) (w1 : (Cond.methodLink own index y).before a0 Z = true) (w2 : (Cond.instanceMethod y).before a0 Z = true) (w3 : (Cond.initialized y.cls).before a0 Z = true) (w4 : (Cond.code y bytes maxL none).before a0 Z = true) (hy : y.cls ≠ "java/lang/invoke/MethodHandle" ∧ y.cls ≠ "java/lang/invoke/VarHandle") (hM : MetFree l y (head1 [Cond.code y bytes maxL none] rm) (fun a U => a = as' ∧ Z.Warmed39 U.vm ∧ U.heap = h ∧ CHv Z EL U.vm h) (fun _ _ _ _ _ => True) (fun _ U o U' => ∃ v L, o = .returned v ∧ Qc v U'.heap L ∧ CHr Z EL U.vm U.heap U'.vm U'.heap ∧ ReturnedEndW U o U' L rm.cells rm.slots)) (W : Nat) (hW : 2 * 0 + (st.map fun v => v.category).sum ≤ W) (hf : rm.frames + 1 ≤ R.frames) (hl : W + (maxL + 11) + rm.locals ≤ R.locals) (hsize : Ls.size = c.maxLocals) {argsL stk : List Value} {a : Addr} (hlen : ∀ sig, parseMethodDescriptor y.desc = some sig → argsL.length = sig.parameters.length) (hstk : stk = argsL.reverse ++ (.ref a) :: st) (has : ((.ref a) :: argsL).toArray = as') (hc : cells + rm.cells ≤ R.cells) (hs : slots + rm.slots ≤ R.slots) (eT : T.heap = h) (hby : c.code = bc) (H : CHv Z EL vm0 h) {k0 : Nat} (hS : s.Since vm0 k0) (hk : k0 ≤ h.size) (hd : decode bc pc = .ok (.invokespecial index, 3)) (k : ∀ T' v L vm1, Stand p l e R (s.setVm vm1) m args below meth c T' (locs ++ L) (cells + rm.cells) (slots + rm.slots) → s.Since vm1 T'.heap.size → Z.Warmed39 vm1 → vm1.findClass own = some m.cls → h.size ≤ T'.heap.size → CHr Z EL vm0 h vm1 T'.heap → Qc v T'.heap L → own_Go p.tables e below P (T'.setTop (mkF m (pc + 3) Ls (v.toList ++ st)))) : own_Go p.tables e below P (T.setTop (mkF m pc Ls stk)) := by
  subst hstk
  obtain ⟨v, _, ⟨T', L', k', n'⟩, -, X', h2', hg', ⟨L, hQ, hl', hy', hz', hC'⟩, sp⟩ := X.specialBackS hx hy1 hown (mvT (s := s.setVm vm0) hZ w1) (mvT (s := s.setVm vm0) hZ w2) (mvT (s := s.setVm vm0) hZ w4) hy (backOfSH (s := s) (W := W) hM hZ w4 w3 hf hl hEL H) (g := mkF m pc Ls (argsL.reverse ++ (.ref a) :: st)) rfl hsize (Steps.refl _) (a := a) (argsL := argsL) (rest := st) hlen rfl hW (hb hby hd) (fun _ _ => ⟨has, eT, hc, hs⟩)
  dsimp only [Pt.U, Pt.locs, Pt.cells, Pt.slots] at X' h2' hg' hl' hy' hz' hC' sp hQ
  subst hl' hy' hz'
  obtain ⟨r1, r2, r3, r4⟩ := rebS (Z := Z) (own := own) hS hk X' h2' (by rw [← eT]; exact hg') hZ hown
  exact own_go (fun t q => sp.trans q) (k T' v L _ r1 r2 r3 r4 (by rw [← eT]; exact hg') hC' hQ)
theorem own_virtualH {vm0 : Vm} (X : Stand p l e R (s.setVm vm0) m args below meth c T locs cells slots) (hx : p.tables.exec = Jvm.exec) (hZ : Z.Warmed39 vm0) {EL : List (String × Nat)} (hEL : EW Z a0 EL) {own C : String} {index : Nat} {y z : MethodName} {bytes : ByteArray} {maxL : Nat} {ret : Option FieldType} {rm : Room} {Qc : Option Value → Heap → List Loc → Prop} {as' : Array Value} (hown : vm0.findClass own = some m.cls) (w1 : (Cond.methodLink own index y).before a0 Z = true) (w2 : (Cond.declares y).before a0 Z = true) (nf : NotFace (s.setVm vm0) y) (w5 : (Cond.selects C y z).before a0 Z = true) (w6 : (Cond.instanceMethod z).before a0 Z = true) (w3 : (Cond.initialized z.cls).before a0 Z = true) (w4 : (Cond.code z bytes maxL ret).before a0 Z = true) (hy : y.cls ≠ "java/lang/invoke/MethodHandle" ∧ y.cls ≠ "java/lang/invoke/VarHandle") (hM : MetFree l z (head1 [Cond.code z bytes maxL ret] rm) (fun a U => a = as' ∧ Z.Warmed39 U.vm ∧ U.heap = h ∧ CHv Z EL U.vm h) (fun _ _ _ _ _ => True) (fun _ U o U' => ∃ v L, o = .returned v ∧ Qc v U'.heap L ∧ CHr Z EL U.vm U.heap U'.vm U'.heap ∧ ReturnedEndW U o U' L rm.cells rm.slots)) (W : Nat) (hW : 2 * 0 + (st.map fun v => v.category).sum ≤ W) (hf : rm.frames + 1 ≤ R.frames) (hl : W + (maxL + 11) + rm.locals ≤ R.locals) (hsize : Ls.size = c.maxLocals) {argsL stk : List Value} {a : Addr} (E : Exa Z h a C) (hlen : ∀ sig, parseMethodDescriptor y.desc = some sig → argsL.length = sig.parameters.length) (hstk : stk = argsL.reverse ++ (.ref a) :: st) (has : ((.ref a) :: argsL).toArray = as') (hc : cells + rm.cells ≤ R.cells) (hs : slots + rm.slots ≤ R.slots) (eT : T.heap = h) (hby : c.code = bc) (H : CHv Z EL vm0 h) {k0 : Nat} (hS : s.Since vm0 k0) (hk : k0 ≤ h.size) (hd : decode bc pc = .ok (.invokevirtual index, 3)) (k : ∀ T' v L vm1, Stand p l e R (s.setVm vm1) m args below meth c T' (locs ++ L) (cells + rm.cells) (slots + rm.slots) → s.Since vm1 T'.heap.size → Z.Warmed39 vm1 → vm1.findClass own = some m.cls → h.size ≤ T'.heap.size → CHr Z EL vm0 h vm1 T'.heap → Qc v T'.heap L → own_Go p.tables e below P (T'.setTop (mkF m (pc + 3) Ls (v.toList ++ st)))) : own_Go p.tables e below P (T.setTop (mkF m pc Ls stk)) := by
  subst hstk
  obtain ⟨cq, kq, qa, qb, qc⟩ := isOf (s := s.setVm vm0) hZ eT E
  obtain ⟨v, _, ⟨T', L', k', n'⟩, -, X', h2', hg', ⟨L, hQ, hl', hy', hz', hC'⟩, sp⟩ := X.virtualBackS hx hown (mvT (s := s.setVm vm0) hZ w1) (mvT (s := s.setVm vm0) hZ w2) nf (mvT (s := s.setVm vm0) hZ w5) (mvT (s := s.setVm vm0) hZ w6) hy (backOfSH (s := s) (W := W) hM hZ w4 w3 hf hl hEL H) qa qc (g := mkF m pc Ls (argsL.reverse ++ (.ref a) :: st)) rfl hsize (Steps.refl _) (argsL := argsL) (rest := st) hlen rfl hW (hb hby hd) (fun _ _ => ⟨has, eT, hc, hs⟩)
  dsimp only [Pt.U, Pt.locs, Pt.cells, Pt.slots] at X' h2' hg' hl' hy' hz' hC' sp hQ
  subst hl' hy' hz'
  obtain ⟨r1, r2, r3, r4⟩ := rebS (Z := Z) (own := own) hS hk X' h2' (by rw [← eT]; exact hg') hZ hown
  exact own_go (fun t q => sp.trans q) (k T' v L _ r1 r2 r3 r4 (by rw [← eT]; exact hg') hC' hQ)
end OwnGo
theorem own_sta_keep {Z : State} {h h' : Heap} {C n d : String} {v : Value} {ws : List Addr} (F : Sta Z h C n d v) (K : Keep h h' ws) (q : ∀ x ∈ ws, ∀ cell : Cell, h[x]? = some cell → cell.vm.isStatics = false) : Sta Z h' C n d v := by
  obtain ⟨cf, i, k, f, st, cell, h1, h2, h3, h4, h5, h6, h7⟩ := F
  refine ⟨cf, i, k, f, st, cell, h1, h2, h3, h4, K.2.1 st cell h5 fun hm => ?_, h6, h7⟩
  rw [q st hm cell h5] at h6; cases h6
theorem own_exa_plain {Z : State} {h : Heap} {a : Addr} {C : String} (F : Exa Z h a C) : ∀ cell : Cell, h[a]? = some cell → cell.vm.isStatics = false := fun cell hc => by
  obtain ⟨c', k, h1, h2, h3, h4, h5⟩ := F
  cases h1.symm.trans hc; exact h4
theorem own_arv_plain {Z : State} {h : Heap} {a : Addr} {k : ClassId} {ty : FieldType} {n : Int32} {vs : List Value} {d : Value} (F : Arv Z h a k ty n vs d) : ∀ cell : Cell, h[a]? = some cell → cell.vm.isStatics = false := fun cell hc => by
  obtain ⟨c', A, -⟩ := F
  cases A.1.symm.trans hc; exact A.plain
theorem own_sameM {Z : State} {a0 : Array Value} {C : String} {y y' : MethodName} (hc : y'.cls = y.cls) (wi : (Cond.instanceMethod y).before a0 Z = true) (ws : (Cond.selects C y' y').before a0 Z = true) (hy : y.cls ≠ "java/lang/invoke/MethodHandle" ∧ y.cls ≠ "java/lang/invoke/VarHandle") : (Cond.sameMethod y.cls y.cls y.name y.desc).before a0 Z = true := by
  obtain ⟨mk, methM, hnamed, hmethM, -, -⟩ := Cond.instanceMethod_spec wi
  obtain ⟨c2, r2, m2, q1, q2, q3, q4, kP, hkP, hkPi⟩ := Cond.selects_spec ws
  have hc1 := findClass_of_methodNamed hnamed
  have hc2 := findClass_of_methodNamed q3
  rw [hc, hc1] at hc2
  have e := Option.some.inj hc2
  have hf := State.methodFound?_of_named hnamed hy
  have hn' : Z.methodNamed? ⟨y.cls, y.name, y.desc⟩ = some mk := hnamed
  have hk : Z.vm.classes[mk.cls]? = some kP := by rw [e]; exact hkP
  simp only [Cond.before, Cond.holds, Cond.value, hc1, hf, hn', hk]
  simp [hkPi]
theorem own_notFace {s : State} {args : Array Value} {C : String} {y y' : MethodName} (hc : y'.cls = y.cls) (ws : (Cond.selects C y' y').before args s = true) : NotFace s y := fun r0 h0 => by
  obtain ⟨c2, r2, m2, q1, q2, q3, q4, kP, hkP, hkPi⟩ := Cond.selects_spec ws
  have hc1 := findClass_of_methodNamed h0
  have hc2 := findClass_of_methodNamed q3
  rw [hc, hc1] at hc2
  have e := Option.some.inj hc2
  exact ⟨kP, by rw [e]; exact hkP, hkPi⟩
theorem own_safe_len {Z : State} {EL : List (String × Nat)} {vm : Vm} {h : Heap} {a0 : Array Value} {b : Addr} {k : ClassId} {n : Int32} {vs : List Value} {d : Value} (hZ : Z.Warmed39 vm) (hT : ∀ p ∈ EL, ∃ text : String, (Cond.stringLink p.1 p.2 text).before a0 Z = true ∧ (∀ c ∈ text.toList, c.toNat < 256) ∧ text.toList.length ≠ n.toNatClampNeg) (A : Arv Z h b k .byte n vs d) : Safe Z EL vm h b := fun B => by
  obtain ⟨cl, A1, -, A3, -⟩ := A
  obtain ⟨g0, ⟨-, kA, hkA, compA, hkindA⟩, -⟩ := A1
  obtain ⟨kA', hkA', ekA⟩ := hZ.alike.2.2 _ _ hkA
  obtain ⟨p, hp, u, a, hb, q, hq, F, rfl | rfl⟩ := B
  · cases (show h[q.sa]? = some q.sC from F.ha).symm.trans g0
    obtain ⟨cS, ⟨-, -, e⟩, ⟨kS, g1, g2, -⟩, -⟩ := F
    subst e
    cases (show vm.classes[q.sC.cls]? = some kS from g1).symm.trans hkA'
    rw [ekA] at g2
    cases hkindA.symm.trans g2
  · cases (show h[q.sd]? = some q.SA from F.hd).symm.trans g0
    obtain ⟨cS, -, -, -, hbyt⟩ := F
    obtain ⟨text, w, ht, hne⟩ := hT p hp
    obtain ⟨c, k', cf, i, hc, hk', hcf', hpool, hu, -⟩ := hb
    have wl := Jvm.RoadKit.mvS (args := a0) (s := { Z with heap := h }) hZ w
    obtain ⟨k1, cf0, i0, units0, hk, hcf, hp0, hu0, -, htext, -⟩ := Cond.stringLink_spec (s := Wst Z vm h) hc wl
    cases (show vm.classes[c]? = some k' from hk').symm.trans hk
    cases hcf'.symm.trans hcf
    cases hpool.symm.trans hp0
    cases hu.symm.trans hu0
    have hlat := Jvm.ClassFile.lat_of_text htext ht
    have e1 := congrArg List.length (Jvm.ClassFile.units_of_text htext ht)
    have e2 : q.SA.slots.size = u.size := by rw [hbyt, Jvm.Free.SBG.stringBytes_lat hlat]; simp
    apply hne
    rw [← A3, e2]
    simpa using e1.symm
theorem own_ne_oa {Z : State} {h : Heap} {a b : Addr} {C : String} {a0 : Array Value} {kk : Nat} {k : ClassId} {ty : FieldType} {n : Int32} {vs : List Value} {d : Value} (F : Exa Z h a C) (wi : (Cond.instantiable C kk).before a0 Z = true) (G : Arv Z h b k ty n vs d) : a ≠ b := by
  obtain ⟨c, A, -⟩ := G
  exact ne_arr F wi A
theorem own_ne_aa {Z : State} {h : Heap} {a b : Addr} {k k' : ClassId} {ty ty' : FieldType} {n n' : Int32} {vs vs' : List Value} {d d' : Value} (F : Arv Z h a k ty n vs d) (G : Arv Z h b k' ty' n' vs' d') (q : ty ≠ ty') : a ≠ b := by
  intro e
  subst e
  obtain ⟨c, A, -⟩ := F
  obtain ⟨c', B, -⟩ := G
  cases A.1.symm.trans B.1
  obtain ⟨-, k1, e1, comp, e2⟩ := A.2.1
  obtain ⟨-, k2, f1, comp', f2⟩ := B.2.1
  cases e1.symm.trans f1
  rw [e2] at f2
  cases f2
  exact q rfl
theorem own_narc (y : Int32) : nar .char ((y &&& (255 : Int32)).toUInt32.toUInt16.toUInt32.toInt32) = (y &&& (255 : Int32)) := by
  rw [i2c_mask]
  exact i2c_mask y
theorem own_c255 (y : Int32) : ¬ (y &&& (255 : Int32)) < 0 ∧ ¬ (255 : Int32) < (y &&& (255 : Int32)) := by
  have h := c_and y (255 : Int32) (by decide)
  have a : (255 : Int32).toInt = 255 := by decide
  have b : (0 : Int32).toInt = 0 := by decide
  rw [Int32.lt_iff_toInt_lt, Int32.lt_iff_toInt_lt, b]
  omega
theorem own_l0 {P : Int32 → Prop} : ∀ c ∈ ([] : List Int32), P c := fun _ h => nomatch h
theorem own_lS {P : Int32 → Prop} {y : Int32} {L : List Int32} (q : P y) (r : ∀ c ∈ L, P c) : ∀ c ∈ y :: L, P c := fun c h => (List.mem_cons.mp h).elim (fun e => e ▸ q) (r c)
theorem own_i2bb (c : Int32) : nar .byte (c.toInt8.toInt32) = (c.toInt8.toInt32) := by
  show c.toInt8.toInt32.toInt8.toInt32 = c.toInt8.toInt32
  rw [Int8.toInt8_toInt32]
theorem own_low8 (c : Int32) (h0 : ¬ (c < (0 : Int32))) (h1 : ¬ ((255 : Int32) < c)) : ((c.toInt8.toInt32) &&& (255 : Int32)) = c := by
  have a : (255 : Int32).toInt = 255 := by decide
  have b : (0 : Int32).toInt = 0 := by decide
  rw [Int32.lt_iff_toInt_lt, b] at h0
  rw [Int32.lt_iff_toInt_lt, a] at h1
  have h2 := c_mask (c.toInt8.toInt32) 255 8 (by decide) (by decide)
  have h3 := c_i2b c
  have h4 : ((2 ^ 8 : Nat) : Int) = 256 := by decide
  rw [h4] at h2
  apply Int32.toInt_inj.mp
  omega
theorem own_nar8 (c : Int32) (h0 : ¬ (c < (0 : Int32))) (h1 : ¬ ((255 : Int32) < c)) : nar .char c = c := by
  have e := own_low8 c h0 h1
  have q := i2c_mask (c.toInt8.toInt32)
  rw [e] at q
  exact q
theorem own_chr8 (c : Int32) (h0 : ¬ (c < (0 : Int32))) (h1 : ¬ ((255 : Int32) < c)) : nar .char ((((c.toInt8.toInt32)) &&& (255 : Int32)).toUInt32.toUInt16.toUInt32.toInt32) = c := by
  rw [i2c_mask, own_low8 c h0 h1]
  exact own_nar8 c h0 h1
def own_b (cs : List Int32) : List Value := cs.map Value.int
def own_bz (ws : List Int32) : List Value := own_b ws ++ List.replicate (54 - ws.length) (.int 0)
theorem own_bL (cs : List Int32) : (own_b cs).length = cs.length := by simp [own_b]
theorem own_bzL {ws : List Int32} (h : ws.length ≤ 54) : (own_bz ws).length = 54 := by
  simp only [own_bz, List.length_append, own_bL, List.length_replicate]
  omega
theorem own_bA (a b : List Int32) : own_b (a ++ b) = own_b a ++ own_b b := by simp [own_b]
theorem own_nI {k : Nat} (h : k ≤ 4000) : (Int32.ofNat k).toInt = k := Int32.toInt_ofNat_of_lt (by omega)
theorem own_nC {k : Nat} (h : k ≤ 4000) : (Int32.ofNat k).toNatClampNeg = k := by
  simp only [Int32.toNatClampNeg, own_nI h]
  rfl
theorem own_n0 {k : Nat} (h : k ≤ 4000) : ¬ (Int32.ofNat k < (0 : Int32)) := by
  have b : (0 : Int32).toInt = 0 := by decide
  rw [Int32.lt_iff_toInt_lt, own_nI h, b]
  omega
theorem own_nadd {a b : Nat} (h : a + b ≤ 4000) : Int32.ofNat a + Int32.ofNat b = Int32.ofNat (a + b) := by
  apply Int32.toInt_inj.mp
  rw [Int32.toInt_add, own_nI (by omega), own_nI (by omega), own_nI h]
  exact (Int.bmod_eq_of_le_mul_two (by omega) (by omega)).trans (by omega)
theorem own_nlt {a b : Nat} (ha : a ≤ 4000) (hb : b ≤ 4000) : Int32.ofNat a < Int32.ofNat b ↔ a < b := by
  rw [Int32.lt_iff_toInt_lt, own_nI ha, own_nI hb]
  omega
theorem own_shr0 (c : Int32) : (c >>> ((0 : Int32) &&& 31)) = c := by
  have h := c_ishr c (0 : Int32) 0 (by decide)
  have p : ((2 ^ 0 : Nat) : Int) = 1 := by decide
  rw [p] at h
  apply Int32.toInt_inj.mp
  omega
theorem own_rangeD {L : List Value} {k m : Nat} {d : Value} (h : k + m ≤ L.length) : ((List.range m).map fun q => L.getD (k + q) d) = (L.drop k).take m := by
  apply List.ext_getElem
  · simp only [List.length_map, List.length_range, List.length_take, List.length_drop]
    omega
  · intro i h1 h2
    simp only [List.length_map, List.length_range] at h1
    simp only [List.getElem_map, List.getElem_range, List.getElem_take, List.getElem_drop]
    rw [List.getD_eq_getElem?_getD, List.getElem?_eq_getElem (by omega)]
    rfl
theorem own_takeB {ws : List Int32} {d : Value} (h : ws.length ≤ 54) : (List.replicate ws.length d).take 0 ++ ((List.range ws.length).map fun q => (own_bz ws).getD (0 + q) d) ++ (List.replicate ws.length d).drop (0 + ws.length) = own_b ws := by
  rw [own_rangeD (by rw [own_bzL h]; omega)]
  simp only [List.take_zero, List.nil_append, List.drop_zero, Nat.zero_add, List.drop_replicate, Nat.sub_self, List.replicate_zero, List.append_nil, own_bz]
  rw [List.take_append_of_le_length (by rw [own_bL]; omega), List.take_of_length_le (by rw [own_bL]; omega)]
theorem own_catB {ws cs : List Int32} {d : Value} (h : ws.length + cs.length ≤ 54) : (own_bz ws).take ws.length ++ ((List.range cs.length).map fun q => (own_b cs).getD (0 + q) d) ++ (own_bz ws).drop (ws.length + cs.length) = own_bz (ws ++ cs) := by
  rw [own_rangeD (by rw [own_bL]; omega), List.drop_zero, List.take_of_length_le (l := own_b cs) (by rw [own_bL]; omega)]
  have e1 : (own_bz ws).take ws.length = own_b ws := by
    unfold own_bz
    rw [List.take_append_of_le_length (by rw [own_bL]; omega), List.take_of_length_le (by rw [own_bL]; omega)]
  have e2 : (own_bz ws).drop (ws.length + cs.length) = List.replicate (54 - (ws ++ cs).length) (.int 0) := by
    unfold own_bz
    rw [List.drop_append, List.drop_of_length_le (by rw [own_bL]; omega), own_bL, List.nil_append, List.drop_replicate, List.length_append]
    congr 1
    omega
  rw [e1, e2]
  unfold own_bz
  rw [own_bA]
theorem own_pad0 {m : Nat} {d : Value} : ∀ i, (List.replicate m d).getD i d = ([] : List Value).getD i d := fun i => by
  rw [List.getD_eq_getElem?_getD, List.getElem?_replicate]
  split <;> rfl
theorem own_naddL {a b : List Int32} (h : a.length + b.length ≤ 4000) : Int32.ofNat a.length + Int32.ofNat b.length = Int32.ofNat (a ++ b).length := by
  rw [own_nadd h, List.length_append]
theorem own_sub0 (x : Int32) : x - (0 : Int32) = x := by
  apply Int32.toInt_inj.mp
  rw [Int32.toInt_sub, show (0 : Int32).toInt = 0 from by decide]
  have h1 := Int32.le_toInt x
  have h2 := Int32.toInt_lt x
  exact (Int.bmod_eq_of_le_mul_two (by omega) (by omega)).trans (by omega)
theorem own_shl0 (c : Int32) : (c <<< ((0 : Int32) &&& 31)) = c := by
  have h := c_ishl c (0 : Int32) 0 (by decide)
  have p : ((2 ^ 0 : Nat) : Int) = 1 := by decide
  rw [p] at h
  have h1 := Int32.le_toInt c
  have h2 := Int32.toInt_lt c
  have h3 := Int32.le_toInt (c <<< ((0 : Int32) &&& 31))
  have h4 := Int32.toInt_lt (c <<< ((0 : Int32) &&& 31))
  apply Int32.toInt_inj.mp
  omega
theorem own_cap {a : List Int32} (h : a.length ≤ 54) : ¬ ((0 : Int32) < (Int32.ofNat a.length - (54 : Int32))) := by
  have b : (0 : Int32).toInt = 0 := by decide
  have d : (54 : Int32).toInt = 54 := by decide
  rw [Int32.lt_iff_toInt_lt, Int32.toInt_sub, own_nI (by omega), b, d, Int.bmod_eq_of_le_mul_two (by omega) (by omega)]
  omega
theorem own_ne16 {a : List Int32} (h : a.length < 54) : ¬ (Int32.ofNat a.length = (54 : Int32)) := by
  intro e
  have q := own_nI (k := a.length) (by omega)
  rw [e] at q
  have b : (54 : Int32).toInt = 54 := by decide
  omega
theorem own_lt16 {a : List Int32} (h : a.length < 54) : Int32.ofNat a.length < (54 : Int32) := by
  have b : (54 : Int32).toInt = 54 := by decide
  rw [Int32.lt_iff_toInt_lt, own_nI (by omega), b]
  omega
def own_decl : List Int32 := [60, 63, 120, 109, 108, 32, 118, 101, 114, 115, 105, 111, 110, 61, 34, 49, 46, 48, 34, 32, 101, 110, 99, 111, 100, 105, 110, 103, 61, 34, 85, 84, 70, 45, 56, 34, 63, 62]
theorem own_setB {wl : List Int32} {x : Int32} (h : wl.length < 54) : (own_bz wl).set wl.length (.int x) = own_bz (wl ++ [x]) := by
  unfold own_bz
  rw [List.set_append_right _ _ (by rw [own_bL]; omega), own_bL, Nat.sub_self, own_bA, List.length_append, show 54 - wl.length = (54 - (wl.length + [x].length)) + 1 by simp only [List.length_cons, List.length_nil]; omega, List.replicate_succ, List.append_assoc]
  rfl
theorem own_low7 (y : Int32) : ((y &&& (127 : Int32)).toInt8.toInt32) = (y &&& (127 : Int32)) := by
  obtain ⟨h1, h2⟩ := c_and y (127 : Int32) (by decide)
  have a : (127 : Int32).toInt = 127 := by decide
  rw [a] at h2
  have h3 := c_i2b (y &&& (127 : Int32))
  apply Int32.toInt_inj.mp
  omega
theorem own_c127 (y : Int32) : ¬ ((y &&& (127 : Int32)) < (0 : Int32)) ∧ ¬ ((255 : Int32) < (y &&& (127 : Int32))) := by
  obtain ⟨h1, h2⟩ := c_and y (127 : Int32) (by decide)
  have a : (127 : Int32).toInt = 127 := by decide
  have b : (0 : Int32).toInt = 0 := by decide
  have d : (255 : Int32).toInt = 255 := by decide
  rw [Int32.lt_iff_toInt_lt, Int32.lt_iff_toInt_lt, b, d]
  omega
theorem own_i2c127 (y : Int32) : ((y &&& (127 : Int32)).toUInt32.toUInt16.toUInt32.toInt32) = (y &&& (127 : Int32)) := by
  obtain ⟨h1, h2⟩ := c_and y (127 : Int32) (by decide)
  have a : (127 : Int32).toInt = 127 := by decide
  rw [a] at h2
  have h3 := c_i2c (y &&& (127 : Int32))
  apply Int32.toInt_inj.mp
  omega
theorem own_n1 {wl : List Int32} {x : Int32} (h : wl.length ≤ 100) : Int32.ofNat wl.length + (1 : Int32) = Int32.ofNat (wl ++ [x]).length := own_naddL (b := [x]) (by simp only [List.length_cons, List.length_nil]; omega)
theorem ef_canEnc (m : MethodId) (x0 : Int32) : entryFrame m #[(.int x0)] 1 = mkF m 0 #[.val (.int x0)] [] := by first | (simp [entryFrame, mkF, argsToLocals, Value.category]; done) | rfl
theorem pn_18 : plainName "java/lang/StringLatin1" = true := by first | (simp [plainName, overriddenIn]; done) | decide +kernel
theorem d18_0 : decode jdk_43_method_3_code 0 = .ok (.iload_n 0, 1) := by decide +kernel
theorem d18_1 : decode jdk_43_method_3_code 1 = .ok (.sipush 255, 3) := by decide +kernel
theorem d18_4 : decode jdk_43_method_3_code 4 = .ok (.if_icmp .gt 7, 3) := by decide +kernel
theorem d18_7 : decode jdk_43_method_3_code 7 = .ok (.iconst 1, 1) := by decide +kernel
theorem d18_8 : decode jdk_43_method_3_code 8 = .ok (.goto 4, 3) := by decide +kernel
theorem d18_12 : decode jdk_43_method_3_code 12 = .ok (.ireturn, 1) := by decide +kernel
def Q_canEnc (Z : State) (ch : Int32) (h0 : Heap) (n0 : Nat) (vR : Option Value) (hR : Heap) (LR : List Loc) : Prop := vR = some (.int 1) ∧ Fr n0 LR ∧ hR = h0
set_option maxRecDepth 65536 in
set_option maxHeartbeats 40000000 in
theorem canEnc (l : Launch) (Z : State) (a0 : Array Value) (hw : ∀ d ∈ tables_1, d.before a0 Z = true) (ws : List Jvm.Cond) (ch : Int32) (h0 : Heap) (n0 : Nat) (Z0 : n0 ≤ h0.size) (hc : ¬ ((255 : Int32) < ch)) :
    own_M l (⟨"java/lang/StringLatin1", "canEncode", "(C)Z"⟩ : MethodName) jdk_43_method_3_code 1 (some .boolean) ws ({ frames := 0, cells := 0, slots := 0, locals := 0 } : Room) Z #[(.int ch)] h0 (Q_canEnc Z ch h0 n0) := by
  refine own_body (own := "java/lang/StringLatin1") rfl (plainFor_of_name pn_18) (fun m => ef_canEnc m ch) ?_
  intro p e s m below meth c s₁ Bd hml hZ hh hx hby hown X0 e0
  have N0 := Fr.nil n0
  refine own_iloadN X0.here hx hby d18_0 rfl ?_
  refine own_sipush X0.here hx hby d18_1 (v := (255 : Int32)) (by decide) ?_
  refine own_icmpNo X0.here hx hby d18_4 (flt hc).2.2.1 ?_
  refine own_iconst X0.here hx hby d18_7 (v := (1 : Int32)) (by decide) ?_
  refine own_goto X0.here hx hby (pc' := 12) d18_8 (by decide) (by decide) ?_
  obtain ⟨fs, hr, hrun, hended, hW, hsame⟩ := X0.leave (v := some (.int 1)) (fun h => by rw [Bd.returns] at h; cases h) Bd.notSynchronized
  refine own_ret (t := s₁.setFrames fs) ?_ ⟨_, hrun, hended, _, _, rfl, ?_, ⟨_, rfl⟩, hW, hsame.mono (by decide) (by decide)⟩
  · exact retN X0 hx (t := .boolean) Bd.returns (by simp) (hb hby d18_12) hr
  · show Q_canEnc Z _ h0 n0 _ s₁.heap _
    rw [e0]
    exact ⟨rfl, N0, rfl⟩
theorem ef_toBy1 (m : MethodId) (x0 : Int32) : entryFrame m #[(.int x0)] 1 = mkF m 0 #[.val (.int x0)] [] := by first | (simp [entryFrame, mkF, argsToLocals, Value.category]; done) | rfl
theorem pn_19 : plainName "java/lang/StringLatin1" = true := by first | (simp [plainName, overriddenIn]; done) | decide +kernel
theorem d19_0 : decode jdk_43_method_46_code 0 = .ok (.iconst 1, 1) := by decide +kernel
theorem d19_1 : decode jdk_43_method_46_code 1 = .ok (.newarray .byte, 2) := by decide +kernel
theorem d19_3 : decode jdk_43_method_46_code 3 = .ok (.dup, 1) := by decide +kernel
theorem d19_4 : decode jdk_43_method_46_code 4 = .ok (.iconst 0, 1) := by decide +kernel
theorem d19_5 : decode jdk_43_method_46_code 5 = .ok (.iload_n 0, 1) := by decide +kernel
theorem d19_6 : decode jdk_43_method_46_code 6 = .ok (.i2b, 1) := by decide +kernel
theorem d19_7 : decode jdk_43_method_46_code 7 = .ok (.bastore, 1) := by decide +kernel
theorem d19_8 : decode jdk_43_method_46_code 8 = .ok (.areturn, 1) := by decide +kernel
def Q_toBy1 (Z : State) (ch : Int32) (h0 : Heap) (n0 : Nat) (vR : Option Value) (hR : Heap) (LR : List Loc) : Prop := ∃ (t : Nat) (kb : ClassId), vR = some (.ref t) ∧ Fr n0 LR ∧ Keep h0 hR [] ∧ h0.size ≤ t ∧ (Arv Z hR t kb .byte (1 : Int32) [(.int (ch.toInt8.toInt32))] (.int 0))
set_option maxRecDepth 65536 in
set_option maxHeartbeats 40000000 in
theorem toBy1 (l : Launch) (Z : State) (a0 : Array Value) (hw : ∀ d ∈ tables_1, d.before a0 Z = true) (ws : List Jvm.Cond) (ch : Int32) (h0 : Heap) (n0 : Nat) (Z0 : n0 ≤ h0.size)  :
    own_M l (⟨"java/lang/StringLatin1", "toBytes", "(C)[B"⟩ : MethodName) jdk_43_method_46_code 1 (some (.array .byte)) ws ({ frames := 0, cells := 1, slots := 1, locals := 0 } : Room) Z #[(.int ch)] h0 (Q_toBy1 Z ch h0 n0) := by
  refine own_body (own := "java/lang/StringLatin1") rfl (plainFor_of_name pn_19) (fun m => ef_toBy1 m ch) ?_
  intro p e s m below meth c s₁ Bd hml hZ hh hx hby hown X0 e0
  have N0 := Fr.nil n0
  refine own_iconst X0.here hx hby d19_0 (v := (1 : Int32)) (by decide) ?_
  refine own_newP X0 hx hZ (aty := .byte) (own_w hw 9 rfl) e0 hby d19_1 (by decide) 1 (by decide) (by decide) (by decide) (by decide) (ad := "[B") (by decide) ?_
  intro T1 h1 k1 b1 X1 e1 E1 g1 V1 C1 lt1
  have z2 : h0.size ≤ h1.size := E1.1
  have V3 : Arv Z h1 b1 k1 .byte (1 : Int32) [(.int 0)] (.int 0) := V1.pad (pad_rep [] (.int 0) 1)
  refine own_dup X1.here hx hby d19_3 rfl ?_
  refine own_iconst X1.here hx hby d19_4 (v := (0 : Int32)) (by decide) ?_
  refine own_iloadN X1.here hx hby d19_5 rfl ?_
  refine own_i2b X1.here hx hby d19_6 rfl ?_
  refine own_bastore X1 hx hZ e1 V3 ⟨by decide, by decide⟩ 0 (by decide) (Nat.le_of_ble_eq_true rfl) (w := (.int (ch.toInt8.toInt32))) (congrArg Value.int (own_i2bb ch)) hby d19_7 N0 (by omega) ?_
  intro T4 h4 lo4 X4 e4 N4 W4 V4 z4
  have V5 : Arv Z h4 b1 k1 .byte (1 : Int32) [(.int (ch.toInt8.toInt32))] (.int 0) := V4
  have K6 : Keep h0 h4 [] := (((Keep.refl h0 []).ext E1).wr W4 (Or.inr (by omega)))
  obtain ⟨fs, hr, hrun, hended, hW, hsame⟩ := X4.leave (v := some (.ref b1)) (fun h => by rw [Bd.returns] at h; cases h) Bd.notSynchronized
  refine own_ret (t := T4.setFrames fs) ?_ ⟨_, hrun, hended, _, _, rfl, ?_, ⟨_, rfl⟩, hW, hsame.mono (by decide) (by decide)⟩
  · exact retOut X4 hx Bd.returns rfl (Or.inr (Or.inr (Or.inr (Or.inr ⟨rfl, rfl, rfl⟩)))) (hb hby d19_8) hr
  · show Q_toBy1 Z _ h0 n0 _ T4.heap _
    rw [e4]
    exact ⟨b1, k1, rfl, N4, K6, (by omega), V5⟩
theorem ef_bbInit (m : MethodId) (x0 : Nat) (x1 : Nat) (x2 : Int32) : entryFrame m #[(.ref x0), (.ref x1), (.int x2)] 3 = mkF m 0 #[.val (.ref x0), .val (.ref x1), .val (.int x2)] [] := by first | (simp [entryFrame, mkF, argsToLocals, Value.category]; done) | rfl
theorem pn_20 : plainName "java/lang/String" = true := by first | (simp [plainName, overriddenIn]; done) | decide +kernel
theorem d20_0 : decode jdk_42_method_151_code 0 = .ok (.aload_n 0, 1) := by decide +kernel
theorem d20_1 : decode jdk_42_method_151_code 1 = .ok (.invokespecial 1, 3) := by decide +kernel
theorem d20_4 : decode jdk_42_method_151_code 4 = .ok (.aload_n 0, 1) := by decide +kernel
theorem d20_5 : decode jdk_42_method_151_code 5 = .ok (.aload_n 1, 1) := by decide +kernel
theorem d20_6 : decode jdk_42_method_151_code 6 = .ok (.putfield 9, 3) := by decide +kernel
theorem d20_9 : decode jdk_42_method_151_code 9 = .ok (.aload_n 0, 1) := by decide +kernel
theorem d20_10 : decode jdk_42_method_151_code 10 = .ok (.iload_n 2, 1) := by decide +kernel
theorem d20_11 : decode jdk_42_method_151_code 11 = .ok (.putfield 15, 3) := by decide +kernel
theorem d20_14 : decode jdk_42_method_151_code 14 = .ok (.return_, 1) := by decide +kernel
def Q_bbInit (Z : State) (x : Nat) (t : Nat) (h0 : Heap) (n0 : Nat) (vR : Option Value) (hR : Heap) (LR : List Loc) : Prop := vR = none ∧ Fr n0 LR ∧ Keep h0 hR [x] ∧ (Exa Z hR x "java/lang/String") ∧ (Fld Z hR x "java/lang/String" "value" "[B" (.ref t)) ∧ (Fld Z hR x "java/lang/String" "coder" "B" (.int 0))
set_option maxRecDepth 65536 in
set_option maxHeartbeats 40000000 in
theorem bbInit (l : Launch) (Z : State) (a0 : Array Value) (hw : ∀ d ∈ tables_1, d.before a0 Z = true) (ws : List Jvm.Cond) (x : Nat) (t : Nat) (h0 : Heap) (n0 : Nat) (Z0 : n0 ≤ h0.size) (E_x : Exa Z h0 x "java/lang/String") (Fv_x : Fld Z h0 x "java/lang/String" "value" "[B" .null) (Fc_x : Fld Z h0 x "java/lang/String" "coder" "B" (.int 0)) (g_x : n0 ≤ x) :
    own_M l (⟨"java/lang/String", "<init>", "([BB)V"⟩ : MethodName) jdk_42_method_151_code 3 none ws ({ frames := 1, cells := 0, slots := 0, locals := 12 } : Room) Z #[(.ref x), (.ref t), (.int 0)] h0 (Q_bbInit Z x t h0 n0) := by
  refine own_body (own := "java/lang/String") rfl (plainFor_of_name pn_20) (fun m => ef_bbInit m x t (0 : Int32)) ?_
  intro p e s m below meth c s₁ Bd hml hZ hh hx hby hown X0 e0
  have N0 := Fr.nil n0
  have lt1 : h0.size > x := E_x.lt
  refine own_aloadN X0.here hx hby d20_0 rfl rfl ?_
  refine own_initO X0 hx hZ hown (own_w hw 129 rfl) (own_w hw 18 rfl) (own_w hw 19 rfl) e0 (by rw [hml]; rfl) hby d20_1 (by decide) 0 (Nat.le_of_eq rfl) (by decide) ?_
  intro T2 X2 e2
  refine own_aloadN X2.here hx hby d20_4 rfl rfl ?_
  refine own_aloadN X2.here hx hby d20_5 rfl rfl ?_
  refine own_putF X2 hx hZ (ty := (.array .byte)) hown (host := "") (Or.inl (own_w hw 57 rfl)) Via.refl e2 Fv_x E_x (Or.inr ⟨(own_w hw 10 rfl), rfl, (name_of_methodNamed Bd.named Bd.method).1⟩) (own_w hw 8 rfl) (by decide) rfl rfl hby d20_6 N0 g_x ?_
  intro T3 h3 lo3 X3 e3 N3 W3 F3 z3
  refine own_aloadN X3.here hx hby d20_9 rfl rfl ?_
  refine own_iloadN X3.here hx hby d20_10 rfl ?_
  have f4 := (E_x.wr W3)
  have f5 := (Fc_x.other W3 (Or.inr (slot_ne (Or.inr (own_w hw 11 rfl)) (Or.inr (own_w hw 10 rfl)) (by decide) (t := .byte) (t' := (.array .byte)) (by decide) (by decide))))
  refine own_putFN X3 hx hZ (ty := .byte) (v' := (.int 0)) hown (own_w hw 64 rfl) Via.refl e3 f5 f4 (Or.inr ⟨(own_w hw 11 rfl), rfl, (name_of_methodNamed Bd.named Bd.method).1⟩) (own_w hw 8 rfl) (by decide) rfl rfl hby d20_11 N3 g_x ?_
  intro T6 h6 lo6 X6 e6 N6 W6 F6 z6
  have K7 : Keep h0 h6 [x] := (((Keep.refl h0 [x]).wr W3 (Or.inl (List.mem_of_getElem? (i := 0) rfl))).wr W6 (Or.inl (List.mem_of_getElem? (i := 0) rfl)))
  have f8 := (f4.wr W6)
  have f9 := (F3.other W6 (Or.inr (slot_ne (Or.inr (own_w hw 10 rfl)) (Or.inr (own_w hw 11 rfl)) (by decide) (t := (.array .byte)) (t' := .byte) (by decide) (by decide))))
  obtain ⟨fs, hr, hrun, hended, hW, hsame⟩ := X6.leave (v := none) (fun _ => rfl) Bd.notSynchronized
  refine own_ret (t := T6.setFrames fs) ?_ ⟨_, hrun, hended, _, _, rfl, ?_, ⟨_, rfl⟩, hW, hsame.mono (by decide) (by decide)⟩
  · exact X6.returnOut hx Bd.returns (hb hby d20_14) hr
  · show Q_bbInit Z _ _ h0 n0 _ T6.heap _
    rw [e6]
    exact ⟨rfl, N6, K7, f8, f9, F6⟩
theorem ef_valOf (m : MethodId) (x0 : Int32) : entryFrame m #[(.int x0)] 1 = mkF m 0 #[.val (.int x0)] [] := by first | (simp [entryFrame, mkF, argsToLocals, Value.category]; done) | rfl
theorem pn_17 : plainName "java/lang/String" = true := by first | (simp [plainName, overriddenIn]; done) | decide +kernel
theorem d17_0 : decode jdk_42_method_139_code 0 = .ok (.getstatic 38, 3) := by decide +kernel
theorem d17_3 : decode jdk_42_method_139_code 3 = .ok (.ifCond .eq 23, 3) := by decide +kernel
theorem d17_6 : decode jdk_42_method_139_code 6 = .ok (.iload_n 0, 1) := by decide +kernel
theorem d17_7 : decode jdk_42_method_139_code 7 = .ok (.invokestatic 1015, 3) := by decide +kernel
theorem pd_0 : parseMethodDescriptor "(C)Z" = some ⟨[.char], some .boolean⟩ := by decide +kernel
theorem d17_10 : decode jdk_42_method_139_code 10 = .ok (.ifCond .eq 16, 3) := by decide +kernel
theorem d17_13 : decode jdk_42_method_139_code 13 = .ok (.new 10, 3) := by decide +kernel
theorem d17_16 : decode jdk_42_method_139_code 16 = .ok (.dup, 1) := by decide +kernel
theorem d17_17 : decode jdk_42_method_139_code 17 = .ok (.iload_n 0, 1) := by decide +kernel
theorem d17_18 : decode jdk_42_method_139_code 18 = .ok (.invokestatic 1018, 3) := by decide +kernel
theorem pd_1 : parseMethodDescriptor "(C)[B" = some ⟨[.char], some (.array .byte)⟩ := by decide +kernel
theorem d17_21 : decode jdk_42_method_139_code 21 = .ok (.iconst 0, 1) := by decide +kernel
theorem d17_22 : decode jdk_42_method_139_code 22 = .ok (.invokespecial 209, 3) := by decide +kernel
theorem pd_2 : parseMethodDescriptor "([BB)V" = some ⟨[(.array .byte), .byte], none⟩ := by decide +kernel
theorem d17_25 : decode jdk_42_method_139_code 25 = .ok (.areturn, 1) := by decide +kernel
def Q_valOf (Z : State) (ch : Int32) (zc : Int32) (h0 : Heap) (n0 : Nat) (vR : Option Value) (hR : Heap) (LR : List Loc) : Prop := ∃ (x : Nat) (t : Nat) (kb : ClassId), vR = some (.ref x) ∧ Fr n0 LR ∧ Keep h0 hR [] ∧ h0.size ≤ x ∧ h0.size ≤ t ∧ (x < t) ∧ (Exa Z hR x "java/lang/String") ∧ (Fld Z hR x "java/lang/String" "coder" "B" (.int 0)) ∧ (Fld Z hR x "java/lang/String" "value" "[B" (.ref t)) ∧ (Arv Z hR t kb .byte (1 : Int32) [(.int (ch.toInt8.toInt32))] (.int 0))
set_option maxRecDepth 65536 in
set_option maxHeartbeats 40000000 in
theorem valOf (l : Launch) (Z : State) (a0 : Array Value) (hw : ∀ d ∈ tables_1, d.before a0 Z = true) (ws : List Jvm.Cond) (ch : Int32) (zc : Int32) (h0 : Heap) (n0 : Nat) (Z0 : n0 ≤ h0.size) (S_C : Sta Z h0 "java/lang/String" "COMPACT_STRINGS" "Z" (.int zc)) (hz : ¬ (zc = (0 : Int32))) (hc : ¬ ((255 : Int32) < ch)) :
    own_M l (⟨"java/lang/String", "valueOf", "(C)Ljava/lang/String;"⟩ : MethodName) jdk_42_method_139_code 1 (some (.object "java/lang/String")) ws ({ frames := 2, cells := 2, slots := 5, locals := 27 } : Room) Z #[(.int ch)] h0 (Q_valOf Z ch zc h0 n0) := by
  refine own_body (own := "java/lang/String") rfl (plainFor_of_name pn_17) (fun m => ef_valOf m ch) ?_
  intro p e s m below meth c s₁ Bd hml hZ hh hx hby hown X0 e0
  have N0 := Fr.nil n0
  refine own_getS X0 hx hZ hown (host := "") (Or.inl (own_w hw 63 rfl)) Via.refl e0 S_C hby d17_0 ?_
  intro T1 X1 e1
  refine own_ifNo X1.here hx hby d17_3 ((if0 _ _).trans (feq hz).1) ?_
  refine own_iloadN X1.here hx hby d17_6 rfl ?_
  refine own_callS X1 hx hZ hown (own_w hw 117 rfl) (own_w hw 118 rfl) (own_w hw 119 rfl) (own_w hw 120 rfl) (by decide) (canEnc l Z a0 hw [] ch h0 n0 Z0 hc) 0 (Nat.le_of_eq rfl) (by decide) (by decide) (by rw [hml]; rfl) (argsL := [(.int ch)]) (st := []) (lenOf pd_0 rfl) rfl rfl (by decide) (by decide) e1 hby d17_7 ?_
  intro T2 v2 L2 X2 hQ2
  obtain ⟨rfl, Nq2, eh2⟩ := hQ2
  have N2 := Fr.app N0 Nq2
  refine own_sh (T := T2) 10 #[.val (.int ch)] [(.int 1)] ?_
  refine own_ifNo X2.here hx hby d17_10 ((if0 _ _).trans (feq (show ¬ ((1 : Int32) = (0 : Int32)) from (by decide))).1) ?_
  refine own_newO X2 hx hZ hown (own_w hw 121 rfl) (own_w hw 8 rfl) (own_w hw 7 rfl) eh2 hby d17_13 (by decide) (by decide) ?_
  intro T3 h3 b3 X3 e3 E3 g3 A3 D3 lt3
  have z4 : h0.size ≤ h3.size := E3.1
  have F5 : Fld Z h3 b3 "java/lang/String" "value" "[B" .null := D3 (Or.inr (own_w hw 10 rfl)) (ty := (.array .byte)) (by decide)
  have F6 : Fld Z h3 b3 "java/lang/String" "coder" "B" (.int 0) := D3 (Or.inr (own_w hw 11 rfl)) (ty := .byte) (by decide)
  refine own_dup X3.here hx hby d17_16 rfl ?_
  refine own_iloadN X3.here hx hby d17_17 rfl ?_
  have z8 : n0 ≤ h3.size := by omega
  refine own_callS X3 hx hZ hown (own_w hw 122 rfl) (own_w hw 123 rfl) (own_w hw 119 rfl) (own_w hw 124 rfl) (by decide) (toBy1 l Z a0 hw [] ch h3 n0 z8 ) 2 (Nat.le_of_eq rfl) (by decide) (by decide) (by rw [hml]; rfl) (argsL := [(.int ch)]) (st := [(.ref b3), (.ref b3)]) (lenOf pd_1 rfl) rfl rfl (by decide) (by decide) e3 hby d17_18 ?_
  intro T7 v7 L7 X7 hQ7
  obtain ⟨t_7, kb_7, rfl, Nq7, K7, P7_0, P7_1⟩ := hQ7
  have N7 := Fr.app N2 Nq7
  have z9 : h3.size ≤ T7.heap.size := K7.1
  have lt10 : T7.heap.size > t_7 := P7_1.lt
  refine own_sh (T := T7) 21 #[.val (.int ch)] [(.ref t_7), (.ref b3), (.ref b3)] ?_
  refine own_iconst X7.here hx hby d17_21 (v := (0 : Int32)) (by decide) ?_
  have f11 := (A3.keep K7)
  have f12 := (F5.keep K7 nin0)
  have f13 := (F6.keep K7 nin0)
  have z15 : n0 ≤ T7.heap.size := by omega
  refine own_special X7 hx hZ rfl hown (own_w hw 125 rfl) (own_w hw 126 rfl) (own_w hw 7 rfl) (own_w hw 128 rfl) (by decide) (bbInit l Z a0 hw [] b3 t_7 T7.heap n0 z15 f11 f12 f13 (by omega)) 1 (Nat.le_of_eq rfl) (by decide) (by decide) (by rw [hml]; rfl) (argsL := [(.ref t_7), (.int 0)]) (st := [(.ref b3)]) (a := b3) (lenOf pd_2 rfl) rfl rfl (by decide) (by decide) rfl hby d17_22 ?_
  intro T14 v14 L14 X14 hQ14
  obtain ⟨rfl, Nq14, K14, P14_0, P14_1, P14_2⟩ := hQ14
  have N14 := Fr.app N7 Nq14
  have z16 : T7.heap.size ≤ T14.heap.size := K14.1
  have lt17 : T14.heap.size > b3 := P14_0.lt
  refine own_sh (T := T14) 25 #[.val (.int ch)] [(.ref b3)] ?_
  have K18 : Keep h0 T14.heap [] := ((((Keep.refl h0 []).ext E3).trans K7 all0).trans K14 (allS (P := fun xq_ => xq_ ∈ [] ∨ h0.size ≤ xq_) (Or.inr (by omega)) all0))
  have f19 := (P7_1.keep K14 (ninS (own_nn (by omega)) nin0))
  obtain ⟨fs, hr, hrun, hended, hW, hsame⟩ := X14.leave (v := some (.ref b3)) (fun h => by rw [Bd.returns] at h; cases h) Bd.notSynchronized
  refine own_ret (t := T14.setFrames fs) ?_ ⟨_, hrun, hended, _, _, rfl, ?_, ⟨_, rfl⟩, hW, hsame.mono (by decide) (by decide)⟩
  · exact retOut X14 hx Bd.returns rfl (Or.inr (Or.inr (Or.inr (Or.inr ⟨rfl, rfl, rfl⟩)))) (hb hby d17_25) hr
  · show Q_valOf Z _ _ h0 n0 _ T14.heap _
    exact ⟨b3, t_7, kb_7, rfl, N14, K18, (by omega), (by omega), (by first | decide | omega | assumption), P14_0, P14_2, P14_1, f19⟩
theorem ef_strCoder (m : MethodId) (x0 : Nat) : entryFrame m #[(.ref x0)] 1 = mkF m 0 #[.val (.ref x0)] [] := by first | (simp [entryFrame, mkF, argsToLocals, Value.category]; done) | rfl
theorem pn_9 : plainName "java/lang/String" = true := by first | (simp [plainName, overriddenIn]; done) | decide +kernel
theorem d9_0 : decode jdk_42_method_152_code 0 = .ok (.getstatic 38, 3) := by decide +kernel
theorem d9_3 : decode jdk_42_method_152_code 3 = .ok (.ifCond .eq 10, 3) := by decide +kernel
theorem d9_6 : decode jdk_42_method_152_code 6 = .ok (.aload_n 0, 1) := by decide +kernel
theorem d9_7 : decode jdk_42_method_152_code 7 = .ok (.getfield 15, 3) := by decide +kernel
theorem d9_10 : decode jdk_42_method_152_code 10 = .ok (.goto 4, 3) := by decide +kernel
theorem d9_14 : decode jdk_42_method_152_code 14 = .ok (.ireturn, 1) := by decide +kernel
def Q_strCoder (Z : State) (x : Nat) (zc : Int32) (h0 : Heap) (n0 : Nat) (vR : Option Value) (hR : Heap) (LR : List Loc) : Prop := vR = some (.int 0) ∧ Fr n0 LR ∧ hR = h0
set_option maxRecDepth 65536 in
set_option maxHeartbeats 40000000 in
theorem strCoder (l : Launch) (Z : State) (a0 : Array Value) (hw : ∀ d ∈ tables_1, d.before a0 Z = true) (ws : List Jvm.Cond) (x : Nat) (zc : Int32) (h0 : Heap) (n0 : Nat) (Z0 : n0 ≤ h0.size) (Fc_x : Fld Z h0 x "java/lang/String" "coder" "B" (.int 0)) (S_C : Sta Z h0 "java/lang/String" "COMPACT_STRINGS" "Z" (.int zc)) (hz : ¬ (zc = (0 : Int32))) :
    own_M l (⟨"java/lang/String", "coder", "()B"⟩ : MethodName) jdk_42_method_152_code 1 (some .byte) ws ({ frames := 0, cells := 0, slots := 0, locals := 0 } : Room) Z #[(.ref x)] h0 (Q_strCoder Z x zc h0 n0) := by
  refine own_body (own := "java/lang/String") rfl (plainFor_of_name pn_9) (fun m => ef_strCoder m x) ?_
  intro p e s m below meth c s₁ Bd hml hZ hh hx hby hown X0 e0
  have N0 := Fr.nil n0
  have lt1 : h0.size > x := Fc_x.lt
  refine own_getS X0 hx hZ hown (host := "") (Or.inl (own_w hw 63 rfl)) Via.refl e0 S_C hby d9_0 ?_
  intro T2 X2 e2
  refine own_ifNo X2.here hx hby d9_3 ((if0 _ _).trans (feq hz).1) ?_
  refine own_aloadN X2.here hx hby d9_6 rfl rfl ?_
  refine own_getF X2 hx hZ hown (host := "") (Or.inl (own_w hw 64 rfl)) Via.refl e2 Fc_x hby d9_7 ?_
  intro T3 X3 e3
  refine own_goto X3.here hx hby (pc' := 14) d9_10 (by decide) (by decide) ?_
  obtain ⟨fs, hr, hrun, hended, hW, hsame⟩ := X3.leave (v := some (.int 0)) (fun h => by rw [Bd.returns] at h; cases h) Bd.notSynchronized
  refine own_ret (t := T3.setFrames fs) ?_ ⟨_, hrun, hended, _, _, rfl, ?_, ⟨_, rfl⟩, hW, hsame.mono (by decide) (by decide)⟩
  · exact retN X3 hx (t := .byte) Bd.returns (by simp) (hb hby d9_14) hr
  · show Q_strCoder Z _ _ h0 n0 _ T3.heap _
    rw [e3]
    exact ⟨rfl, N0, rfl⟩
theorem ef_lenG (m : MethodId) (x0 : Nat) : entryFrame m #[(.ref x0)] 1 = mkF m 0 #[.val (.ref x0)] [] := by first | (simp [entryFrame, mkF, argsToLocals, Value.category]; done) | rfl
theorem pn_8 : plainName "java/lang/String" = true := by first | (simp [plainName, overriddenIn]; done) | decide +kernel
theorem d8_0 : decode jdk_42_method_54_code 0 = .ok (.aload_n 0, 1) := by decide +kernel
theorem d8_1 : decode jdk_42_method_54_code 1 = .ok (.getfield 9, 3) := by decide +kernel
theorem d8_4 : decode jdk_42_method_54_code 4 = .ok (.arraylength, 1) := by decide +kernel
theorem d8_5 : decode jdk_42_method_54_code 5 = .ok (.aload_n 0, 1) := by decide +kernel
theorem d8_6 : decode jdk_42_method_54_code 6 = .ok (.invokevirtual 335, 3) := by decide +kernel
theorem pd_3 : parseMethodDescriptor "()B" = some ⟨[], some .byte⟩ := by decide +kernel
theorem d8_9 : decode jdk_42_method_54_code 9 = .ok (.ishr, 1) := by decide +kernel
theorem d8_10 : decode jdk_42_method_54_code 10 = .ok (.ireturn, 1) := by decide +kernel
def Q_lenG (Z : State) (x : Nat) (t : Nat) (kt : ClassId) (cs : List Int32) (zc : Int32) (h0 : Heap) (n0 : Nat) (vR : Option Value) (hR : Heap) (LR : List Loc) : Prop := vR = some (.int (Int32.ofNat cs.length)) ∧ Fr n0 LR ∧ hR = h0
set_option maxRecDepth 65536 in
set_option maxHeartbeats 40000000 in
theorem lenG (l : Launch) (Z : State) (a0 : Array Value) (hw : ∀ d ∈ tables_1, d.before a0 Z = true) (ws : List Jvm.Cond) (x : Nat) (t : Nat) (kt : ClassId) (cs : List Int32) (zc : Int32) (h0 : Heap) (n0 : Nat) (Z0 : n0 ≤ h0.size) (E_x : Exa Z h0 x "java/lang/String") (Fc_x : Fld Z h0 x "java/lang/String" "coder" "B" (.int 0)) (Fv_x : Fld Z h0 x "java/lang/String" "value" "[B" (.ref t)) (V_t : Arv Z h0 t kt .byte (Int32.ofNat cs.length) (own_b cs) (.int 0)) (S_C : Sta Z h0 "java/lang/String" "COMPACT_STRINGS" "Z" (.int zc)) (hz : ¬ (zc = (0 : Int32))) :
    own_M l (⟨"java/lang/String", "length", "()I"⟩ : MethodName) jdk_42_method_54_code 1 (some .int) ws ({ frames := 1, cells := 0, slots := 0, locals := 13 } : Room) Z #[(.ref x)] h0 (Q_lenG Z x t kt cs zc h0 n0) := by
  refine own_body (own := "java/lang/String") rfl (plainFor_of_name pn_8) (fun m => ef_lenG m x) ?_
  intro p e s m below meth c s₁ Bd hml hZ hh hx hby hown X0 e0
  have N0 := Fr.nil n0
  have lt1 : h0.size > x := E_x.lt
  have lt2 : h0.size > t := V_t.lt
  refine own_aloadN X0.here hx hby d8_0 rfl rfl ?_
  refine own_getF X0 hx hZ hown (host := "") (Or.inl (own_w hw 57 rfl)) Via.refl e0 Fv_x hby d8_1 ?_
  intro T3 X3 e3
  refine own_alen X3 hx hZ e3 V_t hby d8_4 ?_
  refine own_aloadN X3.here hx hby d8_5 rfl rfl ?_
  refine own_virtual X3 hx hZ hown (own_w hw 58 rfl) (own_w hw 59 rfl) (notFace_of_selects (args := #[]) (mvT hZ (own_w hw 61 rfl))) (own_w hw 61 rfl) (own_w hw 60 rfl) (own_w hw 7 rfl) (own_w hw 62 rfl) (by decide) (strCoder l Z a0 hw [] x zc h0 n0 Z0 Fc_x S_C hz) 1 (Nat.le_of_eq rfl) (by decide) (by decide) (by rw [hml]; rfl) (argsL := []) (st := [(.int (Int32.ofNat cs.length))]) E_x (lenOf pd_3 rfl) rfl rfl (by decide) (by decide) e3 hby d8_6 ?_
  intro T4 v4 L4 X4 hQ4
  obtain ⟨rfl, Nq4, eh4⟩ := hQ4
  have N4 := Fr.app N0 Nq4
  refine own_sh (T := T4) 9 #[.val (.ref x)] [(.int 0), (.int (Int32.ofNat cs.length))] ?_
  refine own_ishr X4.here hx hby d8_9 rfl ?_
  obtain ⟨fs, hr, hrun, hended, hW, hsame⟩ := X4.leave (v := some (.int ((Int32.ofNat cs.length) >>> ((0 : Int32) &&& 31)))) (fun h => by rw [Bd.returns] at h; cases h) Bd.notSynchronized
  refine own_ret (t := T4.setFrames fs) ?_ ⟨_, hrun, hended, _, _, rfl, ?_, ⟨_, rfl⟩, hW, hsame.mono (by decide) (by decide)⟩
  · exact retOut X4 hx Bd.returns rfl (Or.inl ⟨rfl, Or.inl rfl, _, rfl⟩) (hb hby d8_10) hr
  · show Q_lenG Z _ _ _ _ _ h0 n0 _ T4.heap _
    rw [eh4]
    exact ⟨(own_sv (own_shr0 _)), N4, rfl⟩
theorem ef_asbInfl (m : MethodId) (x0 : Nat) (x1 : Nat) : entryFrame m #[(.ref x0), (.ref x1)] 2 = mkF m 0 #[.val (.ref x0), .val (.ref x1)] [] := by first | (simp [entryFrame, mkF, argsToLocals, Value.category]; done) | rfl
theorem pn_15 : plainName "java/lang/AbstractStringBuilder" = true := by first | (simp [plainName, overriddenIn]; done) | decide +kernel
theorem d15_0 : decode jdk_68_method_71_code 0 = .ok (.getstatic 18, 3) := by decide +kernel
theorem d15_3 : decode jdk_68_method_71_code 3 = .ok (.ifCond .eq 18, 3) := by decide +kernel
theorem d15_6 : decode jdk_68_method_71_code 6 = .ok (.aload_n 0, 1) := by decide +kernel
theorem d15_7 : decode jdk_68_method_71_code 7 = .ok (.getfield 22, 3) := by decide +kernel
theorem d15_10 : decode jdk_68_method_71_code 10 = .ok (.aload_n 1, 1) := by decide +kernel
theorem d15_11 : decode jdk_68_method_71_code 11 = .ok (.invokevirtual 40, 3) := by decide +kernel
theorem d15_14 : decode jdk_68_method_71_code 14 = .ok (.if_icmp .eq 7, 3) := by decide +kernel
theorem d15_21 : decode jdk_68_method_71_code 21 = .ok (.return_, 1) := by decide +kernel
def Q_asbInfl (Z : State) (sb : Nat) (x : Nat) (zc : Int32) (h0 : Heap) (n0 : Nat) (vR : Option Value) (hR : Heap) (LR : List Loc) : Prop := vR = none ∧ Fr n0 LR ∧ hR = h0
set_option maxRecDepth 65536 in
set_option maxHeartbeats 40000000 in
theorem asbInfl (l : Launch) (Z : State) (a0 : Array Value) (hw : ∀ d ∈ tables_1, d.before a0 Z = true) (ws : List Jvm.Cond) (sb : Nat) (x : Nat) (zc : Int32) (h0 : Heap) (n0 : Nat) (Z0 : n0 ≤ h0.size) (F_coder_sb : Fld Z h0 sb "java/lang/AbstractStringBuilder" "coder" "B" (.int 0)) (E_x : Exa Z h0 x "java/lang/String") (Fc_x : Fld Z h0 x "java/lang/String" "coder" "B" (.int 0)) (S_C : Sta Z h0 "java/lang/String" "COMPACT_STRINGS" "Z" (.int zc)) (hz : ¬ (zc = (0 : Int32))) :
    own_M l (⟨"java/lang/AbstractStringBuilder", "inflateIfNeededFor", "(Ljava/lang/String;)V"⟩ : MethodName) jdk_68_method_71_code 2 none ws ({ frames := 1, cells := 0, slots := 0, locals := 13 } : Room) Z #[(.ref sb), (.ref x)] h0 (Q_asbInfl Z sb x zc h0 n0) := by
  refine own_body (own := "java/lang/AbstractStringBuilder") rfl (plainFor_of_name pn_15) (fun m => ef_asbInfl m sb x) ?_
  intro p e s m below meth c s₁ Bd hml hZ hh hx hby hown X0 e0
  have N0 := Fr.nil n0
  have lt1 : h0.size > sb := F_coder_sb.lt
  have lt2 : h0.size > x := E_x.lt
  refine own_getS X0 hx hZ hown (host := "") (Or.inl (own_w hw 102 rfl)) Via.refl e0 S_C hby d15_0 ?_
  intro T3 X3 e3
  refine own_ifNo X3.here hx hby d15_3 ((if0 _ _).trans (feq hz).1) ?_
  refine own_aloadN X3.here hx hby d15_6 rfl rfl ?_
  refine own_getF X3 hx hZ hown (host := "") (Or.inl (own_w hw 67 rfl)) Via.refl e3 F_coder_sb hby d15_7 ?_
  intro T4 X4 e4
  refine own_aloadN X4.here hx hby d15_10 rfl rfl ?_
  refine own_virtual X4 hx hZ hown (own_w hw 66 rfl) (own_w hw 59 rfl) (notFace_of_selects (args := #[]) (mvT hZ (own_w hw 61 rfl))) (own_w hw 61 rfl) (own_w hw 60 rfl) (own_w hw 7 rfl) (own_w hw 62 rfl) (by decide) (strCoder l Z a0 hw [] x zc h0 n0 Z0 Fc_x S_C hz) 1 (Nat.le_of_eq rfl) (by decide) (by decide) (by rw [hml]; rfl) (argsL := []) (st := [(.int 0)]) E_x (lenOf pd_3 rfl) rfl rfl (by decide) (by decide) e4 hby d15_11 ?_
  intro T5 v5 L5 X5 hQ5
  obtain ⟨rfl, Nq5, eh5⟩ := hQ5
  have N5 := Fr.app N0 Nq5
  refine own_sh (T := T5) 14 #[.val (.ref sb), .val (.ref x)] [(.int 0), (.int 0)] ?_
  refine own_icmpYes X5.here hx hby (pc' := 21) d15_14 (teq (show (0 : Int32) = (0 : Int32) from (by decide))).1 (by decide) (by decide) ?_
  obtain ⟨fs, hr, hrun, hended, hW, hsame⟩ := X5.leave (v := none) (fun _ => rfl) Bd.notSynchronized
  refine own_ret (t := T5.setFrames fs) ?_ ⟨_, hrun, hended, _, _, rfl, ?_, ⟨_, rfl⟩, hW, hsame.mono (by decide) (by decide)⟩
  · exact X5.returnOut hx Bd.returns (hb hby d15_21) hr
  · show Q_asbInfl Z _ _ _ h0 n0 _ T5.heap _
    rw [eh5]
    exact ⟨rfl, N5, rfl⟩
theorem ef_ensG (m : MethodId) (x0 : Nat) (x1 : Int32) : entryFrame m #[(.ref x0), (.int x1)] 3 = mkF m 0 #[.val (.ref x0), .val (.int x1), .unset] [] := by first | (simp [entryFrame, mkF, argsToLocals, Value.category]; done) | rfl
theorem pn_13 : plainName "java/lang/AbstractStringBuilder" = true := by first | (simp [plainName, overriddenIn]; done) | decide +kernel
theorem d13_0 : decode jdk_68_method_9_code 0 = .ok (.aload_n 0, 1) := by decide +kernel
theorem d13_1 : decode jdk_68_method_9_code 1 = .ok (.getfield 15, 3) := by decide +kernel
theorem d13_4 : decode jdk_68_method_9_code 4 = .ok (.arraylength, 1) := by decide +kernel
theorem d13_5 : decode jdk_68_method_9_code 5 = .ok (.aload_n 0, 1) := by decide +kernel
theorem d13_6 : decode jdk_68_method_9_code 6 = .ok (.getfield 22, 3) := by decide +kernel
theorem d13_9 : decode jdk_68_method_9_code 9 = .ok (.ishr, 1) := by decide +kernel
theorem d13_10 : decode jdk_68_method_9_code 10 = .ok (.istore_n 2, 1) := by decide +kernel
theorem d13_11 : decode jdk_68_method_9_code 11 = .ok (.iload_n 1, 1) := by decide +kernel
theorem d13_12 : decode jdk_68_method_9_code 12 = .ok (.iload_n 2, 1) := by decide +kernel
theorem d13_13 : decode jdk_68_method_9_code 13 = .ok (.isub, 1) := by decide +kernel
theorem d13_14 : decode jdk_68_method_9_code 14 = .ok (.ifCond .le 24, 3) := by decide +kernel
theorem d13_38 : decode jdk_68_method_9_code 38 = .ok (.return_, 1) := by decide +kernel
def Q_ensG (Z : State) (sb : Nat) (b : Nat) (kb : ClassId) (vs_ : List Value) (mc : Int32) (h0 : Heap) (n0 : Nat) (vR : Option Value) (hR : Heap) (LR : List Loc) : Prop := vR = none ∧ Fr n0 LR ∧ hR = h0
set_option maxRecDepth 65536 in
set_option maxHeartbeats 40000000 in
theorem ensG (l : Launch) (Z : State) (a0 : Array Value) (hw : ∀ d ∈ tables_1, d.before a0 Z = true) (ws : List Jvm.Cond) (sb : Nat) (b : Nat) (kb : ClassId) (vs_ : List Value) (mc : Int32) (h0 : Heap) (n0 : Nat) (Z0 : n0 ≤ h0.size) (F_value_sb : Fld Z h0 sb "java/lang/AbstractStringBuilder" "value" "[B" (.ref b)) (F_coder_sb : Fld Z h0 sb "java/lang/AbstractStringBuilder" "coder" "B" (.int 0)) (V_b : Arv Z h0 b kb .byte (54 : Int32) vs_ (.int 0)) (hcap : ¬ ((0 : Int32) < (mc - (54 : Int32)))) :
    own_M l (⟨"java/lang/AbstractStringBuilder", "ensureCapacityInternal", "(I)V"⟩ : MethodName) jdk_68_method_9_code 3 none ws ({ frames := 0, cells := 0, slots := 0, locals := 0 } : Room) Z #[(.ref sb), (.int mc)] h0 (Q_ensG Z sb b kb vs_ mc h0 n0) := by
  refine own_body (own := "java/lang/AbstractStringBuilder") rfl (plainFor_of_name pn_13) (fun m => ef_ensG m sb mc) ?_
  intro p e s m below meth c s₁ Bd hml hZ hh hx hby hown X0 e0
  have N0 := Fr.nil n0
  have lt1 : h0.size > sb := F_value_sb.lt
  have lt2 : h0.size > b := V_b.lt
  refine own_aloadN X0.here hx hby d13_0 rfl rfl ?_
  refine own_getF X0 hx hZ hown (host := "") (Or.inl (own_w hw 69 rfl)) Via.refl e0 F_value_sb hby d13_1 ?_
  intro T3 X3 e3
  refine own_alen X3 hx hZ e3 V_b hby d13_4 ?_
  refine own_aloadN X3.here hx hby d13_5 rfl rfl ?_
  refine own_getF X3 hx hZ hown (host := "") (Or.inl (own_w hw 67 rfl)) Via.refl e3 F_coder_sb hby d13_6 ?_
  intro T4 X4 e4
  refine own_ishr X4.here hx hby d13_9 (v := (54 : Int32)) (by decide) ?_
  refine own_istoreN X4.here hx hby d13_10 (l' := #[.val (.ref sb), .val (.int mc), .val (.int 54)]) rfl ?_
  refine own_iloadN X4.here hx hby d13_11 rfl ?_
  refine own_iloadN X4.here hx hby d13_12 rfl ?_
  refine own_isub X4.here hx hby d13_13 rfl ?_
  refine own_ifYes X4.here hx hby (pc' := 38) d13_14 ((if0 _ _).trans (flt hcap).2.2.2) (by decide) (by decide) ?_
  obtain ⟨fs, hr, hrun, hended, hW, hsame⟩ := X4.leave (v := none) (fun _ => rfl) Bd.notSynchronized
  refine own_ret (t := T4.setFrames fs) ?_ ⟨_, hrun, hended, _, _, rfl, ?_, ⟨_, rfl⟩, hW, hsame.mono (by decide) (by decide)⟩
  · exact X4.returnOut hx Bd.returns (hb hby d13_38) hr
  · show Q_ensG Z _ _ _ _ _ h0 n0 _ T4.heap _
    rw [e4]
    exact ⟨rfl, N0, rfl⟩
theorem ef_getBG (m : MethodId) (x0 : Nat) (x1 : Nat) (x2 : Int32) (x3 : Int32) : entryFrame m #[(.ref x0), (.ref x1), (.int x2), (.int x3)] 4 = mkF m 0 #[.val (.ref x0), .val (.ref x1), .val (.int x2), .val (.int x3)] [] := by first | (simp [entryFrame, mkF, argsToLocals, Value.category]; done) | rfl
theorem pn_16 : plainName "java/lang/String" = true := by first | (simp [plainName, overriddenIn]; done) | decide +kernel
theorem d16_0 : decode jdk_42_method_147_code 0 = .ok (.aload_n 0, 1) := by decide +kernel
theorem d16_1 : decode jdk_42_method_147_code 1 = .ok (.invokevirtual 335, 3) := by decide +kernel
theorem d16_4 : decode jdk_42_method_147_code 4 = .ok (.iload_n 3, 1) := by decide +kernel
theorem d16_5 : decode jdk_42_method_147_code 5 = .ok (.if_icmp .ne 23, 3) := by decide +kernel
theorem d16_8 : decode jdk_42_method_147_code 8 = .ok (.aload_n 0, 1) := by decide +kernel
theorem d16_9 : decode jdk_42_method_147_code 9 = .ok (.getfield 9, 3) := by decide +kernel
theorem d16_12 : decode jdk_42_method_147_code 12 = .ok (.iconst 0, 1) := by decide +kernel
theorem d16_13 : decode jdk_42_method_147_code 13 = .ok (.aload_n 1, 1) := by decide +kernel
theorem d16_14 : decode jdk_42_method_147_code 14 = .ok (.iload_n 2, 1) := by decide +kernel
theorem d16_15 : decode jdk_42_method_147_code 15 = .ok (.iload_n 3, 1) := by decide +kernel
theorem d16_16 : decode jdk_42_method_147_code 16 = .ok (.ishl, 1) := by decide +kernel
theorem d16_17 : decode jdk_42_method_147_code 17 = .ok (.aload_n 0, 1) := by decide +kernel
theorem d16_18 : decode jdk_42_method_147_code 18 = .ok (.getfield 9, 3) := by decide +kernel
theorem d16_21 : decode jdk_42_method_147_code 21 = .ok (.arraylength, 1) := by decide +kernel
theorem d16_22 : decode jdk_42_method_147_code 22 = .ok (.invokestatic 212, 3) := by decide +kernel
theorem d16_25 : decode jdk_42_method_147_code 25 = .ok (.goto 18, 3) := by decide +kernel
theorem d16_43 : decode jdk_42_method_147_code 43 = .ok (.return_, 1) := by decide +kernel
def Q_getBG (Z : State) (x : Nat) (t : Nat) (b : Nat) (kt : ClassId) (kb : ClassId) (wl : List Int32) (cs : List Int32) (zc : Int32) (h0 : Heap) (n0 : Nat) (vR : Option Value) (hR : Heap) (LR : List Loc) : Prop := vR = none ∧ Fr n0 LR ∧ Keep h0 hR [b] ∧ (Arv Z hR b kb .byte (54 : Int32) (own_bz (wl ++ cs)) (.int 0))
set_option maxRecDepth 65536 in
set_option maxHeartbeats 40000000 in
theorem getBG (l : Launch) (Z : State) (a0 : Array Value) (hw : ∀ d ∈ tables_1, d.before a0 Z = true) (ws : List Jvm.Cond) (x : Nat) (t : Nat) (b : Nat) (kt : ClassId) (kb : ClassId) (wl : List Int32) (cs : List Int32) (zc : Int32) (h0 : Heap) (n0 : Nat) (Z0 : n0 ≤ h0.size) (E_x : Exa Z h0 x "java/lang/String") (Fc_x : Fld Z h0 x "java/lang/String" "coder" "B" (.int 0)) (Fv_x : Fld Z h0 x "java/lang/String" "value" "[B" (.ref t)) (V_t : Arv Z h0 t kt .byte (Int32.ofNat cs.length) (own_b cs) (.int 0)) (g_b : n0 ≤ b) (V_b : Arv Z h0 b kb .byte (54 : Int32) (own_bz wl) (.int 0)) (S_C : Sta Z h0 "java/lang/String" "COMPACT_STRINGS" "Z" (.int zc)) (hz : ¬ (zc = (0 : Int32))) (hl : wl.length + cs.length ≤ 54) :
    own_M l (⟨"java/lang/String", "getBytes", "([BIB)V"⟩ : MethodName) jdk_42_method_147_code 4 none ws ({ frames := 1, cells := 0, slots := 0, locals := 18 } : Room) Z #[(.ref x), (.ref b), (.int (Int32.ofNat wl.length)), (.int 0)] h0 (Q_getBG Z x t b kt kb wl cs zc h0 n0) := by
  refine own_body (own := "java/lang/String") rfl (plainFor_of_name pn_16) (fun m => ef_getBG m x b (Int32.ofNat wl.length) (0 : Int32)) ?_
  intro p e s m below meth c s₁ Bd hml hZ hh hx hby hown X0 e0
  have N0 := Fr.nil n0
  have lt1 : h0.size > x := E_x.lt
  have lt2 : h0.size > t := V_t.lt
  have lt3 : h0.size > b := V_b.lt
  refine own_aloadN X0.here hx hby d16_0 rfl rfl ?_
  refine own_virtual X0 hx hZ hown (own_w hw 58 rfl) (own_w hw 59 rfl) (notFace_of_selects (args := #[]) (mvT hZ (own_w hw 61 rfl))) (own_w hw 61 rfl) (own_w hw 60 rfl) (own_w hw 7 rfl) (own_w hw 62 rfl) (by decide) (strCoder l Z a0 hw [] x zc h0 n0 Z0 Fc_x S_C hz) 0 (Nat.le_of_eq rfl) (by decide) (by decide) (by rw [hml]; rfl) (argsL := []) (st := []) E_x (lenOf pd_3 rfl) rfl rfl (by decide) (by decide) e0 hby d16_1 ?_
  intro T4 v4 L4 X4 hQ4
  obtain ⟨rfl, Nq4, eh4⟩ := hQ4
  have N4 := Fr.app N0 Nq4
  refine own_sh (T := T4) 4 #[.val (.ref x), .val (.ref b), .val (.int (Int32.ofNat wl.length)), .val (.int 0)] [(.int 0)] ?_
  refine own_iloadN X4.here hx hby d16_4 rfl ?_
  refine own_icmpNo X4.here hx hby d16_5 (teq (show (0 : Int32) = (0 : Int32) from (by decide))).2 ?_
  refine own_aloadN X4.here hx hby d16_8 rfl rfl ?_
  refine own_getF X4 hx hZ hown (host := "") (Or.inl (own_w hw 57 rfl)) Via.refl eh4 Fv_x hby d16_9 ?_
  intro T5 X5 e5
  refine own_iconst X5.here hx hby d16_12 (v := (0 : Int32)) (by decide) ?_
  refine own_aloadN X5.here hx hby d16_13 rfl rfl ?_
  refine own_iloadN X5.here hx hby d16_14 rfl ?_
  refine own_iloadN X5.here hx hby d16_15 rfl ?_
  refine own_ishl X5.here hx hby d16_16 rfl ?_
  refine own_sh (T := T5) 17 #[.val (.ref x), .val (.ref b), .val (.int (Int32.ofNat wl.length)), .val (.int 0)] [(.int ((Int32.ofNat wl.length) <<< ((0 : Int32) &&& 31))), (.ref b), (.int 0), (.ref t)] ?_
  rw [show ((Int32.ofNat wl.length) <<< ((0 : Int32) &&& 31)) = (Int32.ofNat wl.length) from (own_shl0 _)]
  refine own_aloadN X5.here hx hby d16_17 rfl rfl ?_
  refine own_getF X5 hx hZ hown (host := "") (Or.inl (own_w hw 57 rfl)) Via.refl e5 Fv_x hby d16_18 ?_
  intro T6 X6 e6
  refine own_alen X6 hx hZ e6 V_t hby d16_21 ?_
  refine own_copyL X6 hx hZ hown (own_w hw 108 rfl) (own_w hw 111 rfl) (own_w hw 109 rfl) (own_w hw 110 rfl) e6 V_t V_b (res := (own_bz (wl ++ cs))) rfl 0 wl.length cs.length (by decide) (own_nC (by omega)) (own_nC (by omega)) (by decide) (own_n0 (by omega)) (own_n0 (by omega)) (by rw [own_nC (by omega)]; omega) (by show wl.length + cs.length ≤ 54; omega) (by rw [own_bzL (by omega)]; omega) (own_catB hl) N4 g_b (by rw [hml]; rfl) hby d16_22 (by decide) 0 (Nat.le_of_eq rfl) (by decide) ?_
  intro T7 h7 lo7 X7 e7 N7 K7 V7 z7
  refine own_goto X7.here hx hby (pc' := 43) d16_25 (by decide) (by decide) ?_
  have K8 : Keep h0 h7 [b] := ((Keep.refl h0 [b]).trans K7 (allS (P := fun xq_ => xq_ ∈ [b] ∨ h0.size ≤ xq_) (Or.inl (List.mem_of_getElem? (i := 0) rfl)) all0))
  obtain ⟨fs, hr, hrun, hended, hW, hsame⟩ := X7.leave (v := none) (fun _ => rfl) Bd.notSynchronized
  refine own_ret (t := T7.setFrames fs) ?_ ⟨_, hrun, hended, _, _, rfl, ?_, ⟨_, rfl⟩, hW, hsame.mono (by decide) (by decide)⟩
  · exact X7.returnOut hx Bd.returns (hb hby d16_43) hr
  · show Q_getBG Z _ _ _ _ _ _ _ _ h0 n0 _ T7.heap _
    rw [e7]
    exact ⟨rfl, N7, K8, V7⟩
theorem ef_putG (m : MethodId) (x0 : Nat) (x1 : Int32) (x2 : Nat) : entryFrame m #[(.ref x0), (.int x1), (.ref x2)] 3 = mkF m 0 #[.val (.ref x0), .val (.int x1), .val (.ref x2)] [] := by first | (simp [entryFrame, mkF, argsToLocals, Value.category]; done) | rfl
theorem pn_14 : plainName "java/lang/AbstractStringBuilder" = true := by first | (simp [plainName, overriddenIn]; done) | decide +kernel
theorem d14_0 : decode jdk_68_method_73_code 0 = .ok (.aload_n 0, 1) := by decide +kernel
theorem d14_1 : decode jdk_68_method_73_code 1 = .ok (.aload_n 2, 1) := by decide +kernel
theorem d14_2 : decode jdk_68_method_73_code 2 = .ok (.invokevirtual 397, 3) := by decide +kernel
theorem pd_4 : parseMethodDescriptor "(Ljava/lang/String;)V" = some ⟨[(.object "java/lang/String")], none⟩ := by decide +kernel
theorem d14_5 : decode jdk_68_method_73_code 5 = .ok (.aload_n 2, 1) := by decide +kernel
theorem d14_6 : decode jdk_68_method_73_code 6 = .ok (.aload_n 0, 1) := by decide +kernel
theorem d14_7 : decode jdk_68_method_73_code 7 = .ok (.getfield 15, 3) := by decide +kernel
theorem d14_10 : decode jdk_68_method_73_code 10 = .ok (.iload_n 1, 1) := by decide +kernel
theorem d14_11 : decode jdk_68_method_73_code 11 = .ok (.aload_n 0, 1) := by decide +kernel
theorem d14_12 : decode jdk_68_method_73_code 12 = .ok (.getfield 22, 3) := by decide +kernel
theorem d14_15 : decode jdk_68_method_73_code 15 = .ok (.invokevirtual 399, 3) := by decide +kernel
theorem pd_5 : parseMethodDescriptor "([BIB)V" = some ⟨[(.array .byte), .int, .byte], none⟩ := by decide +kernel
theorem d14_18 : decode jdk_68_method_73_code 18 = .ok (.return_, 1) := by decide +kernel
def Q_putG (Z : State) (sb : Nat) (b : Nat) (x : Nat) (t : Nat) (kb : ClassId) (kt : ClassId) (wl : List Int32) (cs : List Int32) (zc : Int32) (h0 : Heap) (n0 : Nat) (vR : Option Value) (hR : Heap) (LR : List Loc) : Prop := vR = none ∧ Fr n0 LR ∧ Keep h0 hR [b] ∧ (Arv Z hR b kb .byte (54 : Int32) (own_bz (wl ++ cs)) (.int 0))
set_option maxRecDepth 65536 in
set_option maxHeartbeats 40000000 in
theorem putG (l : Launch) (Z : State) (a0 : Array Value) (hw : ∀ d ∈ tables_1, d.before a0 Z = true) (ws : List Jvm.Cond) (sb : Nat) (b : Nat) (x : Nat) (t : Nat) (kb : ClassId) (kt : ClassId) (wl : List Int32) (cs : List Int32) (zc : Int32) (h0 : Heap) (n0 : Nat) (Z0 : n0 ≤ h0.size) (E_sb : Exa Z h0 sb "java/lang/StringBuilder") (F_value_sb : Fld Z h0 sb "java/lang/AbstractStringBuilder" "value" "[B" (.ref b)) (F_coder_sb : Fld Z h0 sb "java/lang/AbstractStringBuilder" "coder" "B" (.int 0)) (V_b : Arv Z h0 b kb .byte (54 : Int32) (own_bz wl) (.int 0)) (E_x : Exa Z h0 x "java/lang/String") (Fc_x : Fld Z h0 x "java/lang/String" "coder" "B" (.int 0)) (Fv_x : Fld Z h0 x "java/lang/String" "value" "[B" (.ref t)) (V_t : Arv Z h0 t kt .byte (Int32.ofNat cs.length) (own_b cs) (.int 0)) (g_b : n0 ≤ b) (S_C : Sta Z h0 "java/lang/String" "COMPACT_STRINGS" "Z" (.int zc)) (hz : ¬ (zc = (0 : Int32))) (hl : wl.length + cs.length ≤ 54) :
    own_M l (⟨"java/lang/AbstractStringBuilder", "putStringAt", "(ILjava/lang/String;)V"⟩ : MethodName) jdk_68_method_73_code 3 none ws ({ frames := 2, cells := 0, slots := 0, locals := 33 } : Room) Z #[(.ref sb), (.int (Int32.ofNat wl.length)), (.ref x)] h0 (Q_putG Z sb b x t kb kt wl cs zc h0 n0) := by
  refine own_body (own := "java/lang/AbstractStringBuilder") rfl (plainFor_of_name pn_14) (fun m => ef_putG m sb (Int32.ofNat wl.length) x) ?_
  intro p e s m below meth c s₁ Bd hml hZ hh hx hby hown X0 e0
  have N0 := Fr.nil n0
  have lt1 : h0.size > sb := E_sb.lt
  have lt2 : h0.size > b := V_b.lt
  have lt3 : h0.size > x := E_x.lt
  have lt4 : h0.size > t := V_t.lt
  refine own_aloadN X0.here hx hby d14_0 rfl rfl ?_
  refine own_aloadN X0.here hx hby d14_1 rfl rfl ?_
  refine own_privateS X0 hx hZ hown (own_w hw 97 rfl) (own_w hw 98 rfl) (own_w hw 100 rfl) (own_w hw 99 rfl) (own_w hw 49 rfl) (own_w hw 101 rfl) (by decide) (asbInfl l Z a0 hw [] sb x zc h0 n0 Z0 F_coder_sb E_x Fc_x S_C hz) 0 (Nat.le_of_eq rfl) (by decide) (by decide) (by rw [hml]; rfl) (argsL := [(.ref x)]) (st := []) E_sb (lenOf pd_4 rfl) rfl rfl (by decide) (by decide) e0 hby d14_2 ?_
  intro T5 v5 L5 X5 hQ5
  obtain ⟨rfl, Nq5, eh5⟩ := hQ5
  have N5 := Fr.app N0 Nq5
  refine own_sh (T := T5) 5 #[.val (.ref sb), .val (.int (Int32.ofNat wl.length)), .val (.ref x)] [] ?_
  refine own_aloadN X5.here hx hby d14_5 rfl rfl ?_
  refine own_aloadN X5.here hx hby d14_6 rfl rfl ?_
  refine own_getF X5 hx hZ hown (host := "") (Or.inl (own_w hw 69 rfl)) Via.refl eh5 F_value_sb hby d14_7 ?_
  intro T6 X6 e6
  refine own_iloadN X6.here hx hby d14_10 rfl ?_
  refine own_aloadN X6.here hx hby d14_11 rfl rfl ?_
  refine own_getF X6 hx hZ hown (host := "") (Or.inl (own_w hw 67 rfl)) Via.refl e6 F_coder_sb hby d14_12 ?_
  intro T7 X7 e7
  refine own_virtual X7 hx hZ hown (own_w hw 103 rfl) (own_w hw 104 rfl) (notFace_of_selects (args := #[]) (mvT hZ (own_w hw 106 rfl))) (own_w hw 106 rfl) (own_w hw 105 rfl) (own_w hw 7 rfl) (own_w hw 107 rfl) (by decide) (getBG l Z a0 hw [] x t b kt kb wl cs zc h0 n0 Z0 E_x Fc_x Fv_x V_t g_b V_b S_C hz hl) 0 (Nat.le_of_eq rfl) (by decide) (by decide) (by rw [hml]; rfl) (argsL := [(.ref b), (.int (Int32.ofNat wl.length)), (.int 0)]) (st := []) E_x (lenOf pd_5 rfl) rfl rfl (by decide) (by decide) e7 hby d14_15 ?_
  intro T8 v8 L8 X8 hQ8
  obtain ⟨rfl, Nq8, K8, P8_0⟩ := hQ8
  have N8 := Fr.app N5 Nq8
  have z9 : h0.size ≤ T8.heap.size := K8.1
  have lt10 : T8.heap.size > b := P8_0.lt
  refine own_sh (T := T8) 18 #[.val (.ref sb), .val (.int (Int32.ofNat wl.length)), .val (.ref x)] [] ?_
  have K11 : Keep h0 T8.heap [b] := ((Keep.refl h0 [b]).trans K8 (allS (P := fun xq_ => xq_ ∈ [b] ∨ h0.size ≤ xq_) (Or.inl (List.mem_of_getElem? (i := 0) rfl)) all0))
  obtain ⟨fs, hr, hrun, hended, hW, hsame⟩ := X8.leave (v := none) (fun _ => rfl) Bd.notSynchronized
  refine own_ret (t := T8.setFrames fs) ?_ ⟨_, hrun, hended, _, _, rfl, ?_, ⟨_, rfl⟩, hW, hsame.mono (by decide) (by decide)⟩
  · exact X8.returnOut hx Bd.returns (hb hby d14_18) hr
  · show Q_putG Z _ _ _ _ _ _ _ _ _ h0 n0 _ T8.heap _
    exact ⟨rfl, N8, K11, P8_0⟩
theorem ef_asbAppG (m : MethodId) (x0 : Nat) (x1 : Nat) : entryFrame m #[(.ref x0), (.ref x1)] 3 = mkF m 0 #[.val (.ref x0), .val (.ref x1), .unset] [] := by first | (simp [entryFrame, mkF, argsToLocals, Value.category]; done) | rfl
theorem pn_12 : plainName "java/lang/AbstractStringBuilder" = true := by first | (simp [plainName, overriddenIn]; done) | decide +kernel
theorem d12_0 : decode jdk_68_method_22_code 0 = .ok (.aload_n 1, 1) := by decide +kernel
theorem d12_1 : decode jdk_68_method_22_code 1 = .ok (.ifnonnull 8, 3) := by decide +kernel
theorem d12_9 : decode jdk_68_method_22_code 9 = .ok (.aload_n 1, 1) := by decide +kernel
theorem d12_10 : decode jdk_68_method_22_code 10 = .ok (.invokevirtual 32, 3) := by decide +kernel
theorem pd_6 : parseMethodDescriptor "()I" = some ⟨[], some .int⟩ := by decide +kernel
theorem d12_13 : decode jdk_68_method_22_code 13 = .ok (.istore_n 2, 1) := by decide +kernel
theorem d12_14 : decode jdk_68_method_22_code 14 = .ok (.aload_n 0, 1) := by decide +kernel
theorem d12_15 : decode jdk_68_method_22_code 15 = .ok (.aload_n 0, 1) := by decide +kernel
theorem d12_16 : decode jdk_68_method_22_code 16 = .ok (.getfield 79, 3) := by decide +kernel
theorem d12_19 : decode jdk_68_method_22_code 19 = .ok (.iload_n 2, 1) := by decide +kernel
theorem d12_20 : decode jdk_68_method_22_code 20 = .ok (.iadd, 1) := by decide +kernel
theorem d12_21 : decode jdk_68_method_22_code 21 = .ok (.invokevirtual 100, 3) := by decide +kernel
theorem pd_7 : parseMethodDescriptor "(I)V" = some ⟨[.int], none⟩ := by decide +kernel
theorem d12_24 : decode jdk_68_method_22_code 24 = .ok (.aload_n 0, 1) := by decide +kernel
theorem d12_25 : decode jdk_68_method_22_code 25 = .ok (.aload_n 0, 1) := by decide +kernel
theorem d12_26 : decode jdk_68_method_22_code 26 = .ok (.getfield 79, 3) := by decide +kernel
theorem d12_29 : decode jdk_68_method_22_code 29 = .ok (.aload_n 1, 1) := by decide +kernel
theorem d12_30 : decode jdk_68_method_22_code 30 = .ok (.invokevirtual 208, 3) := by decide +kernel
theorem pd_8 : parseMethodDescriptor "(ILjava/lang/String;)V" = some ⟨[.int, (.object "java/lang/String")], none⟩ := by decide +kernel
theorem d12_33 : decode jdk_68_method_22_code 33 = .ok (.aload_n 0, 1) := by decide +kernel
theorem d12_34 : decode jdk_68_method_22_code 34 = .ok (.dup, 1) := by decide +kernel
theorem d12_35 : decode jdk_68_method_22_code 35 = .ok (.getfield 79, 3) := by decide +kernel
theorem d12_38 : decode jdk_68_method_22_code 38 = .ok (.iload_n 2, 1) := by decide +kernel
theorem d12_39 : decode jdk_68_method_22_code 39 = .ok (.iadd, 1) := by decide +kernel
theorem d12_40 : decode jdk_68_method_22_code 40 = .ok (.putfield 79, 3) := by decide +kernel
theorem d12_43 : decode jdk_68_method_22_code 43 = .ok (.aload_n 0, 1) := by decide +kernel
theorem d12_44 : decode jdk_68_method_22_code 44 = .ok (.areturn, 1) := by decide +kernel
def Q_asbAppG (Z : State) (sb : Nat) (b : Nat) (x : Nat) (t : Nat) (kb : ClassId) (kt : ClassId) (wl : List Int32) (cs : List Int32) (zc : Int32) (h0 : Heap) (n0 : Nat) (vR : Option Value) (hR : Heap) (LR : List Loc) : Prop := vR = some (.ref sb) ∧ Fr n0 LR ∧ Keep h0 hR [sb, b] ∧ (Exa Z hR sb "java/lang/StringBuilder") ∧ (Fld Z hR sb "java/lang/AbstractStringBuilder" "value" "[B" (.ref b)) ∧ (Fld Z hR sb "java/lang/AbstractStringBuilder" "coder" "B" (.int 0)) ∧ (Fld Z hR sb "java/lang/AbstractStringBuilder" "count" "I" (.int (Int32.ofNat (wl ++ cs).length))) ∧ (Arv Z hR b kb .byte (54 : Int32) (own_bz (wl ++ cs)) (.int 0))
set_option maxRecDepth 65536 in
set_option maxHeartbeats 40000000 in
theorem asbAppG (l : Launch) (Z : State) (a0 : Array Value) (hw : ∀ d ∈ tables_1, d.before a0 Z = true) (ws : List Jvm.Cond) (sb : Nat) (b : Nat) (x : Nat) (t : Nat) (kb : ClassId) (kt : ClassId) (wl : List Int32) (cs : List Int32) (zc : Int32) (h0 : Heap) (n0 : Nat) (Z0 : n0 ≤ h0.size) (E_sb : Exa Z h0 sb "java/lang/StringBuilder") (F_value_sb : Fld Z h0 sb "java/lang/AbstractStringBuilder" "value" "[B" (.ref b)) (F_coder_sb : Fld Z h0 sb "java/lang/AbstractStringBuilder" "coder" "B" (.int 0)) (V_b : Arv Z h0 b kb .byte (54 : Int32) (own_bz wl) (.int 0)) (E_x : Exa Z h0 x "java/lang/String") (Fc_x : Fld Z h0 x "java/lang/String" "coder" "B" (.int 0)) (Fv_x : Fld Z h0 x "java/lang/String" "value" "[B" (.ref t)) (V_t : Arv Z h0 t kt .byte (Int32.ofNat cs.length) (own_b cs) (.int 0)) (g_b : n0 ≤ b) (S_C : Sta Z h0 "java/lang/String" "COMPACT_STRINGS" "Z" (.int zc)) (hz : ¬ (zc = (0 : Int32))) (hl : wl.length + cs.length ≤ 54) (g_sb : n0 ≤ sb) (F_count_sb : Fld Z h0 sb "java/lang/AbstractStringBuilder" "count" "I" (.int (Int32.ofNat wl.length))) :
    own_M l (⟨"java/lang/AbstractStringBuilder", "append", "(Ljava/lang/String;)Ljava/lang/AbstractStringBuilder;"⟩ : MethodName) jdk_68_method_22_code 3 (some (.object "java/lang/AbstractStringBuilder")) ws ({ frames := 3, cells := 0, slots := 0, locals := 47 } : Room) Z #[(.ref sb), (.ref x)] h0 (Q_asbAppG Z sb b x t kb kt wl cs zc h0 n0) := by
  refine own_body (own := "java/lang/AbstractStringBuilder") rfl (plainFor_of_name pn_12) (fun m => ef_asbAppG m sb x) ?_
  intro p e s m below meth c s₁ Bd hml hZ hh hx hby hown X0 e0
  have N0 := Fr.nil n0
  have lt1 : h0.size > sb := E_sb.lt
  have lt2 : h0.size > b := V_b.lt
  have lt3 : h0.size > x := E_x.lt
  have lt4 : h0.size > t := V_t.lt
  refine own_aloadN X0.here hx hby d12_0 rfl rfl ?_
  refine own_ifnonnullYes X0.here hx hby (pc' := 9) d12_1 (by decide) (by decide) ?_
  refine own_aloadN X0.here hx hby d12_9 rfl rfl ?_
  refine own_virtual X0 hx hZ hown (own_w hw 52 rfl) (own_w hw 53 rfl) (notFace_of_selects (args := #[]) (mvT hZ (own_w hw 55 rfl))) (own_w hw 55 rfl) (own_w hw 54 rfl) (own_w hw 7 rfl) (own_w hw 56 rfl) (by decide) (lenG l Z a0 hw [] x t kt cs zc h0 n0 Z0 E_x Fc_x Fv_x V_t S_C hz) 0 (Nat.le_of_eq rfl) (by decide) (by decide) (by rw [hml]; rfl) (argsL := []) (st := []) E_x (lenOf pd_6 rfl) rfl rfl (by decide) (by decide) e0 hby d12_10 ?_
  intro T5 v5 L5 X5 hQ5
  obtain ⟨rfl, Nq5, eh5⟩ := hQ5
  have N5 := Fr.app N0 Nq5
  refine own_sh (T := T5) 13 #[.val (.ref sb), .val (.ref x), .unset] [(.int (Int32.ofNat cs.length))] ?_
  refine own_istoreN X5.here hx hby d12_13 (l' := #[.val (.ref sb), .val (.ref x), .val (.int (Int32.ofNat cs.length))]) rfl ?_
  refine own_aloadN X5.here hx hby d12_14 rfl rfl ?_
  refine own_aloadN X5.here hx hby d12_15 rfl rfl ?_
  refine own_getF X5 hx hZ hown (host := "") (Or.inl (own_w hw 85 rfl)) Via.refl eh5 F_count_sb hby d12_16 ?_
  intro T6 X6 e6
  refine own_iloadN X6.here hx hby d12_19 rfl ?_
  refine own_iadd X6.here hx hby d12_20 rfl ?_
  refine own_sh (T := T6) 21 #[.val (.ref sb), .val (.ref x), .val (.int (Int32.ofNat cs.length))] [(.int ((Int32.ofNat wl.length) + (Int32.ofNat cs.length))), (.ref sb)] ?_
  rw [show ((Int32.ofNat wl.length) + (Int32.ofNat cs.length)) = (Int32.ofNat (wl ++ cs).length) from (own_naddL (by omega))]
  refine own_privateS X6 hx hZ hown (own_w hw 87 rfl) (own_w hw 88 rfl) (own_w hw 90 rfl) (own_w hw 89 rfl) (own_w hw 49 rfl) (own_w hw 91 rfl) (by decide) (ensG l Z a0 hw [] sb b kb (own_bz wl) (Int32.ofNat (wl ++ cs).length) h0 n0 Z0 F_value_sb F_coder_sb V_b (own_cap (by rw [List.length_append]; omega))) 0 (Nat.le_of_eq rfl) (by decide) (by decide) (by rw [hml]; rfl) (argsL := [(.int (Int32.ofNat (wl ++ cs).length))]) (st := []) E_sb (lenOf pd_7 rfl) rfl rfl (by decide) (by decide) e6 hby d12_21 ?_
  intro T7 v7 L7 X7 hQ7
  obtain ⟨rfl, Nq7, eh7⟩ := hQ7
  have N7 := Fr.app N5 Nq7
  refine own_sh (T := T7) 24 #[.val (.ref sb), .val (.ref x), .val (.int (Int32.ofNat cs.length))] [] ?_
  refine own_aloadN X7.here hx hby d12_24 rfl rfl ?_
  refine own_aloadN X7.here hx hby d12_25 rfl rfl ?_
  refine own_getF X7 hx hZ hown (host := "") (Or.inl (own_w hw 85 rfl)) Via.refl eh7 F_count_sb hby d12_26 ?_
  intro T8 X8 e8
  refine own_aloadN X8.here hx hby d12_29 rfl rfl ?_
  refine own_privateS X8 hx hZ hown (own_w hw 92 rfl) (own_w hw 93 rfl) (own_w hw 95 rfl) (own_w hw 94 rfl) (own_w hw 49 rfl) (own_w hw 96 rfl) (by decide) (putG l Z a0 hw [] sb b x t kb kt wl cs zc h0 n0 Z0 E_sb F_value_sb F_coder_sb V_b E_x Fc_x Fv_x V_t g_b S_C hz hl) 0 (Nat.le_of_eq rfl) (by decide) (by decide) (by rw [hml]; rfl) (argsL := [(.int (Int32.ofNat wl.length)), (.ref x)]) (st := []) E_sb (lenOf pd_8 rfl) rfl rfl (by decide) (by decide) e8 hby d12_30 ?_
  intro T9 v9 L9 X9 hQ9
  obtain ⟨rfl, Nq9, K9, P9_0⟩ := hQ9
  have N9 := Fr.app N7 Nq9
  have z10 : h0.size ≤ T9.heap.size := K9.1
  have lt11 : T9.heap.size > b := P9_0.lt
  refine own_sh (T := T9) 33 #[.val (.ref sb), .val (.ref x), .val (.int (Int32.ofNat cs.length))] [] ?_
  refine own_aloadN X9.here hx hby d12_33 rfl rfl ?_
  refine own_dup X9.here hx hby d12_34 rfl ?_
  have f12 := (F_count_sb.keep K9 (ninS (own_ne_oa E_sb (own_w hw 40 rfl) V_b) nin0))
  refine own_getF X9 hx hZ hown (host := "") (Or.inl (own_w hw 85 rfl)) Via.refl rfl f12 hby d12_35 ?_
  intro T13 X13 e13
  refine own_iloadN X13.here hx hby d12_38 rfl ?_
  refine own_iadd X13.here hx hby d12_39 rfl ?_
  refine own_sh (T := T13) 40 #[.val (.ref sb), .val (.ref x), .val (.int (Int32.ofNat cs.length))] [(.int ((Int32.ofNat wl.length) + (Int32.ofNat cs.length))), (.ref sb)] ?_
  rw [show ((Int32.ofNat wl.length) + (Int32.ofNat cs.length)) = (Int32.ofNat (wl ++ cs).length) from (own_naddL (by omega))]
  have f14 := (E_sb.keep K9)
  refine own_putF X13 hx hZ (ty := .int) hown (host := "") (Or.inl (own_w hw 85 rfl)) Via.refl e13 f12 f14 (Or.inl (own_w hw 86 rfl)) (own_w hw 40 rfl) (by decide) rfl rfl hby d12_40 N9 g_sb ?_
  intro T15 h15 lo15 X15 e15 N15 W15 F15 z15
  refine own_aloadN X15.here hx hby d12_43 rfl rfl ?_
  have K16 : Keep h0 h15 [sb, b] := (((Keep.refl h0 [sb, b]).trans K9 (allS (P := fun xq_ => xq_ ∈ [sb, b] ∨ h0.size ≤ xq_) (Or.inl (List.mem_of_getElem? (i := 1) rfl)) all0)).wr W15 (Or.inl (List.mem_of_getElem? (i := 0) rfl)))
  have f17 := (f14.wr W15)
  have f18 := ((F_value_sb.keep K9 (ninS (own_ne_oa E_sb (own_w hw 40 rfl) V_b) nin0)).other W15 (Or.inr (slot_ne (Or.inl (own_w hw 70 rfl)) (Or.inl (own_w hw 86 rfl)) (by decide) (t := (.array .byte)) (t' := .int) (by decide) (by decide))))
  have f19 := ((F_coder_sb.keep K9 (ninS (own_ne_oa E_sb (own_w hw 40 rfl) V_b) nin0)).other W15 (Or.inr (slot_ne (Or.inl (own_w hw 68 rfl)) (Or.inl (own_w hw 86 rfl)) (by decide) (t := .byte) (t' := .int) (by decide) (by decide))))
  have f20 := (P9_0.other W15 (Ne.symm (own_ne_oa E_sb (own_w hw 40 rfl) V_b)))
  obtain ⟨fs, hr, hrun, hended, hW, hsame⟩ := X15.leave (v := some (.ref sb)) (fun h => by rw [Bd.returns] at h; cases h) Bd.notSynchronized
  refine own_ret (t := T15.setFrames fs) ?_ ⟨_, hrun, hended, _, _, rfl, ?_, ⟨_, rfl⟩, hW, hsame.mono (by decide) (by decide)⟩
  · exact retOut X15 hx Bd.returns rfl (Or.inr (Or.inr (Or.inr (Or.inr ⟨rfl, rfl, rfl⟩)))) (hb hby d12_44) hr
  · show Q_asbAppG Z _ _ _ _ _ _ _ _ _ h0 n0 _ T15.heap _
    rw [e15]
    exact ⟨rfl, N15, K16, f17, f18, f19, F15, f20⟩
theorem ef_sbAppG (m : MethodId) (x0 : Nat) (x1 : Nat) : entryFrame m #[(.ref x0), (.ref x1)] 2 = mkF m 0 #[.val (.ref x0), .val (.ref x1)] [] := by first | (simp [entryFrame, mkF, argsToLocals, Value.category]; done) | rfl
theorem pn_11 : plainName "java/lang/StringBuilder" = true := by first | (simp [plainName, overriddenIn]; done) | decide +kernel
theorem d11_0 : decode jdk_67_method_7_code 0 = .ok (.aload_n 0, 1) := by decide +kernel
theorem d11_1 : decode jdk_67_method_7_code 1 = .ok (.aload_n 1, 1) := by decide +kernel
theorem d11_2 : decode jdk_67_method_7_code 2 = .ok (.invokespecial 29, 3) := by decide +kernel
theorem pd_9 : parseMethodDescriptor "(Ljava/lang/String;)Ljava/lang/AbstractStringBuilder;" = some ⟨[(.object "java/lang/String")], some (.object "java/lang/AbstractStringBuilder")⟩ := by decide +kernel
theorem d11_5 : decode jdk_67_method_7_code 5 = .ok (.pop, 1) := by decide +kernel
theorem d11_6 : decode jdk_67_method_7_code 6 = .ok (.aload_n 0, 1) := by decide +kernel
theorem d11_7 : decode jdk_67_method_7_code 7 = .ok (.areturn, 1) := by decide +kernel
def Q_sbAppG (Z : State) (sb : Nat) (b : Nat) (x : Nat) (t : Nat) (kb : ClassId) (kt : ClassId) (wl : List Int32) (cs : List Int32) (zc : Int32) (h0 : Heap) (n0 : Nat) (vR : Option Value) (hR : Heap) (LR : List Loc) : Prop := vR = some (.ref sb) ∧ Fr n0 LR ∧ Keep h0 hR [sb, b] ∧ (Exa Z hR sb "java/lang/StringBuilder") ∧ (Fld Z hR sb "java/lang/AbstractStringBuilder" "value" "[B" (.ref b)) ∧ (Fld Z hR sb "java/lang/AbstractStringBuilder" "coder" "B" (.int 0)) ∧ (Fld Z hR sb "java/lang/AbstractStringBuilder" "count" "I" (.int (Int32.ofNat (wl ++ cs).length))) ∧ (Arv Z hR b kb .byte (54 : Int32) (own_bz (wl ++ cs)) (.int 0))
set_option maxRecDepth 65536 in
set_option maxHeartbeats 40000000 in
theorem sbAppG (l : Launch) (Z : State) (a0 : Array Value) (hw : ∀ d ∈ tables_1, d.before a0 Z = true) (ws : List Jvm.Cond) (sb : Nat) (b : Nat) (x : Nat) (t : Nat) (kb : ClassId) (kt : ClassId) (wl : List Int32) (cs : List Int32) (zc : Int32) (h0 : Heap) (n0 : Nat) (Z0 : n0 ≤ h0.size) (E_sb : Exa Z h0 sb "java/lang/StringBuilder") (F_value_sb : Fld Z h0 sb "java/lang/AbstractStringBuilder" "value" "[B" (.ref b)) (F_coder_sb : Fld Z h0 sb "java/lang/AbstractStringBuilder" "coder" "B" (.int 0)) (V_b : Arv Z h0 b kb .byte (54 : Int32) (own_bz wl) (.int 0)) (E_x : Exa Z h0 x "java/lang/String") (Fc_x : Fld Z h0 x "java/lang/String" "coder" "B" (.int 0)) (Fv_x : Fld Z h0 x "java/lang/String" "value" "[B" (.ref t)) (V_t : Arv Z h0 t kt .byte (Int32.ofNat cs.length) (own_b cs) (.int 0)) (g_b : n0 ≤ b) (S_C : Sta Z h0 "java/lang/String" "COMPACT_STRINGS" "Z" (.int zc)) (hz : ¬ (zc = (0 : Int32))) (hl : wl.length + cs.length ≤ 54) (g_sb : n0 ≤ sb) (F_count_sb : Fld Z h0 sb "java/lang/AbstractStringBuilder" "count" "I" (.int (Int32.ofNat wl.length))) :
    own_M l (⟨"java/lang/StringBuilder", "append", "(Ljava/lang/String;)Ljava/lang/StringBuilder;"⟩ : MethodName) jdk_67_method_7_code 2 (some (.object "java/lang/StringBuilder")) ws ({ frames := 4, cells := 0, slots := 0, locals := 61 } : Room) Z #[(.ref sb), (.ref x)] h0 (Q_sbAppG Z sb b x t kb kt wl cs zc h0 n0) := by
  refine own_body (own := "java/lang/StringBuilder") rfl (plainFor_of_name pn_11) (fun m => ef_sbAppG m sb x) ?_
  intro p e s m below meth c s₁ Bd hml hZ hh hx hby hown X0 e0
  have N0 := Fr.nil n0
  have lt1 : h0.size > sb := E_sb.lt
  have lt2 : h0.size > b := V_b.lt
  have lt3 : h0.size > x := E_x.lt
  have lt4 : h0.size > t := V_t.lt
  refine own_aloadN X0.here hx hby d11_0 rfl rfl ?_
  refine own_aloadN X0.here hx hby d11_1 rfl rfl ?_
  refine own_super X0 hx hZ (by decide) hown (own_w hw 82 rfl) (own_sameM (y := (⟨"java/lang/AbstractStringBuilder", "append", "(Ljava/lang/String;)Ljava/lang/AbstractStringBuilder;"⟩ : MethodName)) (y' := (⟨"java/lang/AbstractStringBuilder", "ensureCapacityInternal", "(I)V"⟩ : MethodName)) rfl (own_w hw 73 rfl) (own_w hw 90 rfl) (by decide)) (own_w hw 73 rfl) (own_w hw 83 rfl) (own_w hw 49 rfl) (own_w hw 84 rfl) (asbAppG l Z a0 hw [] sb b x t kb kt wl cs zc h0 n0 Z0 E_sb F_value_sb F_coder_sb V_b E_x Fc_x Fv_x V_t g_b S_C hz hl g_sb F_count_sb) 0 (Nat.le_of_eq rfl) (by decide) (by decide) (by rw [hml]; rfl) (argsL := [(.ref x)]) (st := []) E_sb (lenOf pd_9 rfl) rfl rfl (by decide) (by decide) e0 hby d11_2 ?_
  intro T5 v5 L5 X5 hQ5
  obtain ⟨rfl, Nq5, K5, P5_0, P5_1, P5_2, P5_3, P5_4⟩ := hQ5
  have N5 := Fr.app N0 Nq5
  have z6 : h0.size ≤ T5.heap.size := K5.1
  have lt7 : T5.heap.size > sb := P5_0.lt
  have lt8 : T5.heap.size > b := P5_4.lt
  refine own_sh (T := T5) 5 #[.val (.ref sb), .val (.ref x)] [(.ref sb)] ?_
  refine own_pop X5.here hx hby d11_5 rfl ?_
  refine own_aloadN X5.here hx hby d11_6 rfl rfl ?_
  have K9 : Keep h0 T5.heap [sb, b] := ((Keep.refl h0 [sb, b]).trans K5 (allS (P := fun xq_ => xq_ ∈ [sb, b] ∨ h0.size ≤ xq_) (Or.inl (List.mem_of_getElem? (i := 0) rfl)) (allS (P := fun xq_ => xq_ ∈ [sb, b] ∨ h0.size ≤ xq_) (Or.inl (List.mem_of_getElem? (i := 1) rfl)) all0)))
  obtain ⟨fs, hr, hrun, hended, hW, hsame⟩ := X5.leave (v := some (.ref sb)) (fun h => by rw [Bd.returns] at h; cases h) Bd.notSynchronized
  refine own_ret (t := T5.setFrames fs) ?_ ⟨_, hrun, hended, _, _, rfl, ?_, ⟨_, rfl⟩, hW, hsame.mono (by decide) (by decide)⟩
  · exact retOut X5 hx Bd.returns rfl (Or.inr (Or.inr (Or.inr (Or.inr ⟨rfl, rfl, rfl⟩)))) (hb hby d11_7) hr
  · show Q_sbAppG Z _ _ _ _ _ _ _ _ _ h0 n0 _ T5.heap _
    exact ⟨rfl, N5, K9, P5_0, P5_1, P5_2, P5_3, P5_4⟩
theorem ef_sbApp0 (m : MethodId) (x0 : Nat) (x1 : Nat) : entryFrame m #[(.ref x0), (.ref x1)] 2 = mkF m 0 #[.val (.ref x0), .val (.ref x1)] [] := by first | (simp [entryFrame, mkF, argsToLocals, Value.category]; done) | rfl
theorem pn_10 : plainName "java/lang/StringBuilder" = true := by first | (simp [plainName, overriddenIn]; done) | decide +kernel
theorem d10_0 : decode jdk_67_method_80_code 0 = .ok (.aload_n 0, 1) := by decide +kernel
theorem d10_1 : decode jdk_67_method_80_code 1 = .ok (.aload_n 1, 1) := by decide +kernel
theorem d10_2 : decode jdk_67_method_80_code 2 = .ok (.invokevirtual 23, 3) := by decide +kernel
theorem pd_10 : parseMethodDescriptor "(Ljava/lang/String;)Ljava/lang/StringBuilder;" = some ⟨[(.object "java/lang/String")], some (.object "java/lang/StringBuilder")⟩ := by decide +kernel
theorem d10_5 : decode jdk_67_method_80_code 5 = .ok (.areturn, 1) := by decide +kernel
def Q_sbApp0 (Z : State) (sb : Nat) (b : Nat) (x : Nat) (t : Nat) (kb : ClassId) (kt : ClassId) (wl : List Int32) (cs : List Int32) (zc : Int32) (h0 : Heap) (n0 : Nat) (vR : Option Value) (hR : Heap) (LR : List Loc) : Prop := vR = some (.ref sb) ∧ Fr n0 LR ∧ Keep h0 hR [sb, b] ∧ (Exa Z hR sb "java/lang/StringBuilder") ∧ (Fld Z hR sb "java/lang/AbstractStringBuilder" "value" "[B" (.ref b)) ∧ (Fld Z hR sb "java/lang/AbstractStringBuilder" "coder" "B" (.int 0)) ∧ (Fld Z hR sb "java/lang/AbstractStringBuilder" "count" "I" (.int (Int32.ofNat (wl ++ cs).length))) ∧ (Arv Z hR b kb .byte (54 : Int32) (own_bz (wl ++ cs)) (.int 0))
set_option maxRecDepth 65536 in
set_option maxHeartbeats 40000000 in
theorem sbApp0 (l : Launch) (Z : State) (a0 : Array Value) (hw : ∀ d ∈ tables_1, d.before a0 Z = true) (ws : List Jvm.Cond) (sb : Nat) (b : Nat) (x : Nat) (t : Nat) (kb : ClassId) (kt : ClassId) (wl : List Int32) (cs : List Int32) (zc : Int32) (h0 : Heap) (n0 : Nat) (Z0 : n0 ≤ h0.size) (E_sb : Exa Z h0 sb "java/lang/StringBuilder") (F_value_sb : Fld Z h0 sb "java/lang/AbstractStringBuilder" "value" "[B" (.ref b)) (F_coder_sb : Fld Z h0 sb "java/lang/AbstractStringBuilder" "coder" "B" (.int 0)) (V_b : Arv Z h0 b kb .byte (54 : Int32) (own_bz wl) (.int 0)) (E_x : Exa Z h0 x "java/lang/String") (Fc_x : Fld Z h0 x "java/lang/String" "coder" "B" (.int 0)) (Fv_x : Fld Z h0 x "java/lang/String" "value" "[B" (.ref t)) (V_t : Arv Z h0 t kt .byte (Int32.ofNat cs.length) (own_b cs) (.int 0)) (g_b : n0 ≤ b) (S_C : Sta Z h0 "java/lang/String" "COMPACT_STRINGS" "Z" (.int zc)) (hz : ¬ (zc = (0 : Int32))) (hl : wl.length + cs.length ≤ 54) (g_sb : n0 ≤ sb) (F_count_sb : Fld Z h0 sb "java/lang/AbstractStringBuilder" "count" "I" (.int (Int32.ofNat wl.length))) :
    own_M l (⟨"java/lang/StringBuilder", "append", "(Ljava/lang/String;)Ljava/lang/AbstractStringBuilder;"⟩ : MethodName) jdk_67_method_80_code 2 (some (.object "java/lang/AbstractStringBuilder")) ws ({ frames := 5, cells := 0, slots := 0, locals := 74 } : Room) Z #[(.ref sb), (.ref x)] h0 (Q_sbApp0 Z sb b x t kb kt wl cs zc h0 n0) := by
  refine own_body (own := "java/lang/StringBuilder") rfl (plainFor_of_name pn_10) (fun m => ef_sbApp0 m sb x) ?_
  intro p e s m below meth c s₁ Bd hml hZ hh hx hby hown X0 e0
  have N0 := Fr.nil n0
  have lt1 : h0.size > sb := E_sb.lt
  have lt2 : h0.size > b := V_b.lt
  have lt3 : h0.size > x := E_x.lt
  have lt4 : h0.size > t := V_t.lt
  refine own_aloadN X0.here hx hby d10_0 rfl rfl ?_
  refine own_aloadN X0.here hx hby d10_1 rfl rfl ?_
  refine own_virtual X0 hx hZ hown (own_w hw 77 rfl) (own_w hw 78 rfl) (notFace_of_selects (args := #[]) (mvT hZ (own_w hw 80 rfl))) (own_w hw 80 rfl) (own_w hw 79 rfl) (own_w hw 41 rfl) (own_w hw 81 rfl) (by decide) (sbAppG l Z a0 hw [] sb b x t kb kt wl cs zc h0 n0 Z0 E_sb F_value_sb F_coder_sb V_b E_x Fc_x Fv_x V_t g_b S_C hz hl g_sb F_count_sb) 0 (Nat.le_of_eq rfl) (by decide) (by decide) (by rw [hml]; rfl) (argsL := [(.ref x)]) (st := []) E_sb (lenOf pd_10 rfl) rfl rfl (by decide) (by decide) e0 hby d10_2 ?_
  intro T5 v5 L5 X5 hQ5
  obtain ⟨rfl, Nq5, K5, P5_0, P5_1, P5_2, P5_3, P5_4⟩ := hQ5
  have N5 := Fr.app N0 Nq5
  have z6 : h0.size ≤ T5.heap.size := K5.1
  have lt7 : T5.heap.size > sb := P5_0.lt
  have lt8 : T5.heap.size > b := P5_4.lt
  refine own_sh (T := T5) 5 #[.val (.ref sb), .val (.ref x)] [(.ref sb)] ?_
  have K9 : Keep h0 T5.heap [sb, b] := ((Keep.refl h0 [sb, b]).trans K5 (allS (P := fun xq_ => xq_ ∈ [sb, b] ∨ h0.size ≤ xq_) (Or.inl (List.mem_of_getElem? (i := 0) rfl)) (allS (P := fun xq_ => xq_ ∈ [sb, b] ∨ h0.size ≤ xq_) (Or.inl (List.mem_of_getElem? (i := 1) rfl)) all0)))
  obtain ⟨fs, hr, hrun, hended, hW, hsame⟩ := X5.leave (v := some (.ref sb)) (fun h => by rw [Bd.returns] at h; cases h) Bd.notSynchronized
  refine own_ret (t := T5.setFrames fs) ?_ ⟨_, hrun, hended, _, _, rfl, ?_, ⟨_, rfl⟩, hW, hsame.mono (by decide) (by decide)⟩
  · exact retOut X5 hx Bd.returns rfl (Or.inr (Or.inr (Or.inr (Or.inr ⟨rfl, rfl, rfl⟩)))) (hb hby d10_5) hr
  · show Q_sbApp0 Z _ _ _ _ _ _ _ _ _ h0 n0 _ T5.heap _
    exact ⟨rfl, N5, K9, P5_0, P5_1, P5_2, P5_3, P5_4⟩
theorem ef_asbIsL (m : MethodId) (x0 : Nat) : entryFrame m #[(.ref x0)] 1 = mkF m 0 #[.val (.ref x0)] [] := by first | (simp [entryFrame, mkF, argsToLocals, Value.category]; done) | rfl
theorem pn_24 : plainName "java/lang/AbstractStringBuilder" = true := by first | (simp [plainName, overriddenIn]; done) | decide +kernel
theorem d24_0 : decode jdk_68_method_68_code 0 = .ok (.getstatic 18, 3) := by decide +kernel
theorem d24_3 : decode jdk_68_method_68_code 3 = .ok (.ifCond .eq 14, 3) := by decide +kernel
theorem d24_6 : decode jdk_68_method_68_code 6 = .ok (.aload_n 0, 1) := by decide +kernel
theorem d24_7 : decode jdk_68_method_68_code 7 = .ok (.getfield 22, 3) := by decide +kernel
theorem d24_10 : decode jdk_68_method_68_code 10 = .ok (.ifCond .ne 7, 3) := by decide +kernel
theorem d24_13 : decode jdk_68_method_68_code 13 = .ok (.iconst 1, 1) := by decide +kernel
theorem d24_14 : decode jdk_68_method_68_code 14 = .ok (.goto 4, 3) := by decide +kernel
theorem d24_18 : decode jdk_68_method_68_code 18 = .ok (.ireturn, 1) := by decide +kernel
def Q_asbIsL (Z : State) (sb : Nat) (zc : Int32) (h0 : Heap) (n0 : Nat) (vR : Option Value) (hR : Heap) (LR : List Loc) : Prop := vR = some (.int 1) ∧ Fr n0 LR ∧ hR = h0
set_option maxRecDepth 65536 in
set_option maxHeartbeats 40000000 in
theorem asbIsL (l : Launch) (Z : State) (a0 : Array Value) (hw : ∀ d ∈ tables_1, d.before a0 Z = true) (ws : List Jvm.Cond) (sb : Nat) (zc : Int32) (h0 : Heap) (n0 : Nat) (Z0 : n0 ≤ h0.size) (F_coder_sb : Fld Z h0 sb "java/lang/AbstractStringBuilder" "coder" "B" (.int 0)) (S_C : Sta Z h0 "java/lang/String" "COMPACT_STRINGS" "Z" (.int zc)) (hz : ¬ (zc = (0 : Int32))) :
    own_M l (⟨"java/lang/AbstractStringBuilder", "isLatin1", "()Z"⟩ : MethodName) jdk_68_method_68_code 1 (some .boolean) ws ({ frames := 0, cells := 0, slots := 0, locals := 0 } : Room) Z #[(.ref sb)] h0 (Q_asbIsL Z sb zc h0 n0) := by
  refine own_body (own := "java/lang/AbstractStringBuilder") rfl (plainFor_of_name pn_24) (fun m => ef_asbIsL m sb) ?_
  intro p e s m below meth c s₁ Bd hml hZ hh hx hby hown X0 e0
  have N0 := Fr.nil n0
  have lt1 : h0.size > sb := F_coder_sb.lt
  refine own_getS X0 hx hZ hown (host := "") (Or.inl (own_w hw 102 rfl)) Via.refl e0 S_C hby d24_0 ?_
  intro T2 X2 e2
  refine own_ifNo X2.here hx hby d24_3 ((if0 _ _).trans (feq hz).1) ?_
  refine own_aloadN X2.here hx hby d24_6 rfl rfl ?_
  refine own_getF X2 hx hZ hown (host := "") (Or.inl (own_w hw 67 rfl)) Via.refl e2 F_coder_sb hby d24_7 ?_
  intro T3 X3 e3
  refine own_ifNo X3.here hx hby d24_10 ((if0 _ _).trans (teq (show (0 : Int32) = (0 : Int32) from (by decide))).2) ?_
  refine own_iconst X3.here hx hby d24_13 (v := (1 : Int32)) (by decide) ?_
  refine own_goto X3.here hx hby (pc' := 18) d24_14 (by decide) (by decide) ?_
  obtain ⟨fs, hr, hrun, hended, hW, hsame⟩ := X3.leave (v := some (.int 1)) (fun h => by rw [Bd.returns] at h; cases h) Bd.notSynchronized
  refine own_ret (t := T3.setFrames fs) ?_ ⟨_, hrun, hended, _, _, rfl, ?_, ⟨_, rfl⟩, hW, hsame.mono (by decide) (by decide)⟩
  · exact retN X3 hx (t := .boolean) Bd.returns (by simp) (hb hby d24_18) hr
  · show Q_asbIsL Z _ _ h0 n0 _ T3.heap _
    rw [e3]
    exact ⟨rfl, N0, rfl⟩
theorem ef_asbAppC (m : MethodId) (x0 : Nat) (x1 : Int32) : entryFrame m #[(.ref x0), (.int x1)] 2 = mkF m 0 #[.val (.ref x0), .val (.int x1)] [] := by first | (simp [entryFrame, mkF, argsToLocals, Value.category]; done) | rfl
theorem pn_23 : plainName "java/lang/AbstractStringBuilder" = true := by first | (simp [plainName, overriddenIn]; done) | decide +kernel
theorem d23_0 : decode jdk_68_method_31_code 0 = .ok (.aload_n 0, 1) := by decide +kernel
theorem d23_1 : decode jdk_68_method_31_code 1 = .ok (.aload_n 0, 1) := by decide +kernel
theorem d23_2 : decode jdk_68_method_31_code 2 = .ok (.getfield 79, 3) := by decide +kernel
theorem d23_5 : decode jdk_68_method_31_code 5 = .ok (.iconst 1, 1) := by decide +kernel
theorem d23_6 : decode jdk_68_method_31_code 6 = .ok (.iadd, 1) := by decide +kernel
theorem d23_7 : decode jdk_68_method_31_code 7 = .ok (.invokevirtual 100, 3) := by decide +kernel
theorem d23_10 : decode jdk_68_method_31_code 10 = .ok (.aload_n 0, 1) := by decide +kernel
theorem d23_11 : decode jdk_68_method_31_code 11 = .ok (.invokevirtual 83, 3) := by decide +kernel
theorem pd_11 : parseMethodDescriptor "()Z" = some ⟨[], some .boolean⟩ := by decide +kernel
theorem d23_14 : decode jdk_68_method_31_code 14 = .ok (.ifCond .eq 31, 3) := by decide +kernel
theorem d23_17 : decode jdk_68_method_31_code 17 = .ok (.iload_n 1, 1) := by decide +kernel
theorem d23_18 : decode jdk_68_method_31_code 18 = .ok (.invokestatic 191, 3) := by decide +kernel
theorem d23_21 : decode jdk_68_method_31_code 21 = .ok (.ifCond .eq 24, 3) := by decide +kernel
theorem d23_24 : decode jdk_68_method_31_code 24 = .ok (.aload_n 0, 1) := by decide +kernel
theorem d23_25 : decode jdk_68_method_31_code 25 = .ok (.getfield 15, 3) := by decide +kernel
theorem d23_28 : decode jdk_68_method_31_code 28 = .ok (.aload_n 0, 1) := by decide +kernel
theorem d23_29 : decode jdk_68_method_31_code 29 = .ok (.dup, 1) := by decide +kernel
theorem d23_30 : decode jdk_68_method_31_code 30 = .ok (.getfield 79, 3) := by decide +kernel
theorem d23_33 : decode jdk_68_method_31_code 33 = .ok (.dup_x1, 1) := by decide +kernel
theorem d23_34 : decode jdk_68_method_31_code 34 = .ok (.iconst 1, 1) := by decide +kernel
theorem d23_35 : decode jdk_68_method_31_code 35 = .ok (.iadd, 1) := by decide +kernel
theorem d23_36 : decode jdk_68_method_31_code 36 = .ok (.putfield 79, 3) := by decide +kernel
theorem d23_39 : decode jdk_68_method_31_code 39 = .ok (.iload_n 1, 1) := by decide +kernel
theorem d23_40 : decode jdk_68_method_31_code 40 = .ok (.i2b, 1) := by decide +kernel
theorem d23_41 : decode jdk_68_method_31_code 41 = .ok (.bastore, 1) := by decide +kernel
theorem d23_42 : decode jdk_68_method_31_code 42 = .ok (.goto 33, 3) := by decide +kernel
theorem d23_75 : decode jdk_68_method_31_code 75 = .ok (.aload_n 0, 1) := by decide +kernel
theorem d23_76 : decode jdk_68_method_31_code 76 = .ok (.areturn, 1) := by decide +kernel
def Q_asbAppC (Z : State) (sb : Nat) (b : Nat) (kb : ClassId) (wl : List Int32) (ch : Int32) (x_ : Int32) (zc : Int32) (h0 : Heap) (n0 : Nat) (vR : Option Value) (hR : Heap) (LR : List Loc) : Prop := vR = some (.ref sb) ∧ Fr n0 LR ∧ Keep h0 hR [sb, b] ∧ (Exa Z hR sb "java/lang/StringBuilder") ∧ (Fld Z hR sb "java/lang/AbstractStringBuilder" "value" "[B" (.ref b)) ∧ (Fld Z hR sb "java/lang/AbstractStringBuilder" "coder" "B" (.int 0)) ∧ (Fld Z hR sb "java/lang/AbstractStringBuilder" "count" "I" (.int (Int32.ofNat (wl ++ [x_]).length))) ∧ (Arv Z hR b kb .byte (54 : Int32) (own_bz (wl ++ [x_])) (.int 0))
set_option maxRecDepth 65536 in
set_option maxHeartbeats 40000000 in
theorem asbAppC (l : Launch) (Z : State) (a0 : Array Value) (hw : ∀ d ∈ tables_1, d.before a0 Z = true) (ws : List Jvm.Cond) (sb : Nat) (b : Nat) (kb : ClassId) (wl : List Int32) (ch : Int32) (x_ : Int32) (zc : Int32) (h0 : Heap) (n0 : Nat) (Z0 : n0 ≤ h0.size) (g_sb : n0 ≤ sb) (g_b : n0 ≤ b) (E_sb : Exa Z h0 sb "java/lang/StringBuilder") (F_value_sb : Fld Z h0 sb "java/lang/AbstractStringBuilder" "value" "[B" (.ref b)) (F_coder_sb : Fld Z h0 sb "java/lang/AbstractStringBuilder" "coder" "B" (.int 0)) (F_count_sb : Fld Z h0 sb "java/lang/AbstractStringBuilder" "count" "I" (.int (Int32.ofNat wl.length))) (V_b : Arv Z h0 b kb .byte (54 : Int32) (own_bz wl) (.int 0)) (S_C : Sta Z h0 "java/lang/String" "COMPACT_STRINGS" "Z" (.int zc)) (hz : ¬ (zc = (0 : Int32))) (hl : wl.length < 54) (hc : ¬ ((255 : Int32) < ch)) (hx_ : (ch.toInt8.toInt32) = x_) :
    own_M l (⟨"java/lang/AbstractStringBuilder", "append", "(C)Ljava/lang/AbstractStringBuilder;"⟩ : MethodName) jdk_68_method_31_code 2 (some (.object "java/lang/AbstractStringBuilder")) ws ({ frames := 1, cells := 0, slots := 0, locals := 14 } : Room) Z #[(.ref sb), (.int ch)] h0 (Q_asbAppC Z sb b kb wl ch x_ zc h0 n0) := by
  refine own_body (own := "java/lang/AbstractStringBuilder") rfl (plainFor_of_name pn_23) (fun m => ef_asbAppC m sb ch) ?_
  intro p e s m below meth c s₁ Bd hml hZ hh hx hby hown X0 e0
  have N0 := Fr.nil n0
  have lt1 : h0.size > sb := E_sb.lt
  have lt2 : h0.size > b := V_b.lt
  refine own_aloadN X0.here hx hby d23_0 rfl rfl ?_
  refine own_aloadN X0.here hx hby d23_1 rfl rfl ?_
  refine own_getF X0 hx hZ hown (host := "") (Or.inl (own_w hw 85 rfl)) Via.refl e0 F_count_sb hby d23_2 ?_
  intro T3 X3 e3
  refine own_iconst X3.here hx hby d23_5 (v := (1 : Int32)) (by decide) ?_
  refine own_iadd X3.here hx hby d23_6 rfl ?_
  refine own_sh (T := T3) 7 #[.val (.ref sb), .val (.int ch)] [(.int ((Int32.ofNat wl.length) + (1 : Int32))), (.ref sb)] ?_
  rw [show ((Int32.ofNat wl.length) + (1 : Int32)) = (Int32.ofNat (wl ++ [x_]).length) from (own_n1 (by omega))]
  refine own_privateS X3 hx hZ hown (own_w hw 87 rfl) (own_w hw 88 rfl) (own_w hw 90 rfl) (own_w hw 89 rfl) (own_w hw 49 rfl) (own_w hw 91 rfl) (by decide) (ensG l Z a0 hw [] sb b kb (own_bz wl) (Int32.ofNat (wl ++ [x_]).length) h0 n0 Z0 F_value_sb F_coder_sb V_b (own_cap (by rw [List.length_append]; simp only [List.length_cons, List.length_nil]; omega))) 0 (Nat.le_of_eq rfl) (by decide) (by decide) (by rw [hml]; rfl) (argsL := [(.int (Int32.ofNat (wl ++ [x_]).length))]) (st := []) E_sb (lenOf pd_7 rfl) rfl rfl (by decide) (by decide) e3 hby d23_7 ?_
  intro T4 v4 L4 X4 hQ4
  obtain ⟨rfl, Nq4, eh4⟩ := hQ4
  have N4 := Fr.app N0 Nq4
  refine own_sh (T := T4) 10 #[.val (.ref sb), .val (.int ch)] [] ?_
  refine own_aloadN X4.here hx hby d23_10 rfl rfl ?_
  refine own_virtual X4 hx hZ hown (own_w hw 144 rfl) (own_w hw 145 rfl) (notFace_of_selects (args := #[]) (mvT hZ (own_w hw 147 rfl))) (own_w hw 147 rfl) (own_w hw 146 rfl) (own_w hw 49 rfl) (own_w hw 148 rfl) (by decide) (asbIsL l Z a0 hw [] sb zc h0 n0 Z0 F_coder_sb S_C hz) 0 (Nat.le_of_eq rfl) (by decide) (by decide) (by rw [hml]; rfl) (argsL := []) (st := []) E_sb (lenOf pd_11 rfl) rfl rfl (by decide) (by decide) eh4 hby d23_11 ?_
  intro T5 v5 L5 X5 hQ5
  obtain ⟨rfl, Nq5, eh5⟩ := hQ5
  have N5 := Fr.app N4 Nq5
  refine own_sh (T := T5) 14 #[.val (.ref sb), .val (.int ch)] [(.int 1)] ?_
  refine own_ifNo X5.here hx hby d23_14 ((if0 _ _).trans (feq (show ¬ ((1 : Int32) = (0 : Int32)) from (by decide))).1) ?_
  refine own_iloadN X5.here hx hby d23_17 rfl ?_
  refine own_callS X5 hx hZ hown (own_w hw 149 rfl) (own_w hw 118 rfl) (own_w hw 119 rfl) (own_w hw 120 rfl) (by decide) (canEnc l Z a0 hw [] ch h0 n0 Z0 hc) 0 (Nat.le_of_eq rfl) (by decide) (by decide) (by rw [hml]; rfl) (argsL := [(.int ch)]) (st := []) (lenOf pd_0 rfl) rfl rfl (by decide) (by decide) eh5 hby d23_18 ?_
  intro T6 v6 L6 X6 hQ6
  obtain ⟨rfl, Nq6, eh6⟩ := hQ6
  have N6 := Fr.app N5 Nq6
  refine own_sh (T := T6) 21 #[.val (.ref sb), .val (.int ch)] [(.int 1)] ?_
  refine own_ifNo X6.here hx hby d23_21 ((if0 _ _).trans (feq (show ¬ ((1 : Int32) = (0 : Int32)) from (by decide))).1) ?_
  refine own_aloadN X6.here hx hby d23_24 rfl rfl ?_
  refine own_getF X6 hx hZ hown (host := "") (Or.inl (own_w hw 69 rfl)) Via.refl eh6 F_value_sb hby d23_25 ?_
  intro T7 X7 e7
  refine own_aloadN X7.here hx hby d23_28 rfl rfl ?_
  refine own_dup X7.here hx hby d23_29 rfl ?_
  refine own_getF X7 hx hZ hown (host := "") (Or.inl (own_w hw 85 rfl)) Via.refl e7 F_count_sb hby d23_30 ?_
  intro T8 X8 e8
  refine own_dupX1 X8.here hx hby d23_33 rfl rfl ?_
  refine own_iconst X8.here hx hby d23_34 (v := (1 : Int32)) (by decide) ?_
  refine own_iadd X8.here hx hby d23_35 rfl ?_
  refine own_sh (T := T8) 36 #[.val (.ref sb), .val (.int ch)] [(.int ((Int32.ofNat wl.length) + (1 : Int32))), (.ref sb), (.int (Int32.ofNat wl.length)), (.ref b)] ?_
  rw [show ((Int32.ofNat wl.length) + (1 : Int32)) = (Int32.ofNat (wl ++ [x_]).length) from (own_n1 (by omega))]
  refine own_putF X8 hx hZ (ty := .int) hown (host := "") (Or.inl (own_w hw 85 rfl)) Via.refl e8 F_count_sb E_sb (Or.inl (own_w hw 86 rfl)) (own_w hw 40 rfl) (by decide) rfl rfl hby d23_36 N6 g_sb ?_
  intro T9 h9 lo9 X9 e9 N9 W9 F9 z9
  refine own_iloadN X9.here hx hby d23_39 rfl ?_
  refine own_i2b X9.here hx hby d23_40 rfl ?_
  have f10 := (V_b.other W9 (Ne.symm (own_ne_oa E_sb (own_w hw 40 rfl) V_b)))
  refine own_bastore X9 hx hZ e9 f10 ⟨own_n0 (by omega), own_lt16 hl⟩ wl.length (own_nC (by omega)) (by rw [own_bzL (by omega)]; omega) (w := (.int x_)) (congrArg Value.int ((own_i2bb ch).trans hx_)) hby d23_41 N9 g_b ?_
  intro T11 h11 lo11 X11 e11 N11 W11 V11 z11
  have V12 : Arv Z h11 b kb .byte (54 : Int32) ((own_bz wl).set wl.length (.int x_)) (.int 0) := V11
  refine own_goto X11.here hx hby (pc' := 75) d23_42 (by decide) (by decide) ?_
  refine own_aloadN X11.here hx hby d23_75 rfl rfl ?_
  have K13 : Keep h0 h11 [sb, b] := (((Keep.refl h0 [sb, b]).wr W9 (Or.inl (List.mem_of_getElem? (i := 0) rfl))).wr W11 (Or.inl (List.mem_of_getElem? (i := 1) rfl)))
  have f14 := ((E_sb.wr W9).wr W11)
  have f15 := ((F_value_sb.other W9 (Or.inr (slot_ne (Or.inl (own_w hw 70 rfl)) (Or.inl (own_w hw 86 rfl)) (by decide) (t := (.array .byte)) (t' := .int) (by decide) (by decide)))).other W11 (Or.inl (own_ne_oa E_sb (own_w hw 40 rfl) V_b)))
  have f16 := ((F_coder_sb.other W9 (Or.inr (slot_ne (Or.inl (own_w hw 68 rfl)) (Or.inl (own_w hw 86 rfl)) (by decide) (t := .byte) (t' := .int) (by decide) (by decide)))).other W11 (Or.inl (own_ne_oa E_sb (own_w hw 40 rfl) V_b)))
  have f17 := (F9.other W11 (Or.inl (own_ne_oa E_sb (own_w hw 40 rfl) V_b)))
  obtain ⟨fs, hr, hrun, hended, hW, hsame⟩ := X11.leave (v := some (.ref sb)) (fun h => by rw [Bd.returns] at h; cases h) Bd.notSynchronized
  refine own_ret (t := T11.setFrames fs) ?_ ⟨_, hrun, hended, _, _, rfl, ?_, ⟨_, rfl⟩, hW, hsame.mono (by decide) (by decide)⟩
  · exact retOut X11 hx Bd.returns rfl (Or.inr (Or.inr (Or.inr (Or.inr ⟨rfl, rfl, rfl⟩)))) (hb hby d23_76) hr
  · show Q_asbAppC Z _ _ _ _ _ _ _ h0 n0 _ T11.heap _
    rw [e11]
    exact ⟨rfl, N11, K13, f14, f15, f16, f17, (by rw [← own_setB hl]; exact V12)⟩
theorem ef_sbAppC (m : MethodId) (x0 : Nat) (x1 : Int32) : entryFrame m #[(.ref x0), (.int x1)] 2 = mkF m 0 #[.val (.ref x0), .val (.int x1)] [] := by first | (simp [entryFrame, mkF, argsToLocals, Value.category]; done) | rfl
theorem pn_22 : plainName "java/lang/StringBuilder" = true := by first | (simp [plainName, overriddenIn]; done) | decide +kernel
theorem d22_0 : decode jdk_67_method_14_code 0 = .ok (.aload_n 0, 1) := by decide +kernel
theorem d22_1 : decode jdk_67_method_14_code 1 = .ok (.iload_n 1, 1) := by decide +kernel
theorem d22_2 : decode jdk_67_method_14_code 2 = .ok (.invokespecial 50, 3) := by decide +kernel
theorem pd_12 : parseMethodDescriptor "(C)Ljava/lang/AbstractStringBuilder;" = some ⟨[.char], some (.object "java/lang/AbstractStringBuilder")⟩ := by decide +kernel
theorem d22_5 : decode jdk_67_method_14_code 5 = .ok (.pop, 1) := by decide +kernel
theorem d22_6 : decode jdk_67_method_14_code 6 = .ok (.aload_n 0, 1) := by decide +kernel
theorem d22_7 : decode jdk_67_method_14_code 7 = .ok (.areturn, 1) := by decide +kernel
def Q_sbAppC (Z : State) (sb : Nat) (b : Nat) (kb : ClassId) (wl : List Int32) (ch : Int32) (x_ : Int32) (zc : Int32) (h0 : Heap) (n0 : Nat) (vR : Option Value) (hR : Heap) (LR : List Loc) : Prop := vR = some (.ref sb) ∧ Fr n0 LR ∧ Keep h0 hR [sb, b] ∧ (Exa Z hR sb "java/lang/StringBuilder") ∧ (Fld Z hR sb "java/lang/AbstractStringBuilder" "value" "[B" (.ref b)) ∧ (Fld Z hR sb "java/lang/AbstractStringBuilder" "coder" "B" (.int 0)) ∧ (Fld Z hR sb "java/lang/AbstractStringBuilder" "count" "I" (.int (Int32.ofNat (wl ++ [x_]).length))) ∧ (Arv Z hR b kb .byte (54 : Int32) (own_bz (wl ++ [x_])) (.int 0))
set_option maxRecDepth 65536 in
set_option maxHeartbeats 40000000 in
theorem sbAppC (l : Launch) (Z : State) (a0 : Array Value) (hw : ∀ d ∈ tables_1, d.before a0 Z = true) (ws : List Jvm.Cond) (sb : Nat) (b : Nat) (kb : ClassId) (wl : List Int32) (ch : Int32) (x_ : Int32) (zc : Int32) (h0 : Heap) (n0 : Nat) (Z0 : n0 ≤ h0.size) (g_sb : n0 ≤ sb) (g_b : n0 ≤ b) (E_sb : Exa Z h0 sb "java/lang/StringBuilder") (F_value_sb : Fld Z h0 sb "java/lang/AbstractStringBuilder" "value" "[B" (.ref b)) (F_coder_sb : Fld Z h0 sb "java/lang/AbstractStringBuilder" "coder" "B" (.int 0)) (F_count_sb : Fld Z h0 sb "java/lang/AbstractStringBuilder" "count" "I" (.int (Int32.ofNat wl.length))) (V_b : Arv Z h0 b kb .byte (54 : Int32) (own_bz wl) (.int 0)) (S_C : Sta Z h0 "java/lang/String" "COMPACT_STRINGS" "Z" (.int zc)) (hz : ¬ (zc = (0 : Int32))) (hl : wl.length < 54) (hc : ¬ ((255 : Int32) < ch)) (hx_ : (ch.toInt8.toInt32) = x_) :
    own_M l (⟨"java/lang/StringBuilder", "append", "(C)Ljava/lang/StringBuilder;"⟩ : MethodName) jdk_67_method_14_code 2 (some (.object "java/lang/StringBuilder")) ws ({ frames := 2, cells := 0, slots := 0, locals := 27 } : Room) Z #[(.ref sb), (.int ch)] h0 (Q_sbAppC Z sb b kb wl ch x_ zc h0 n0) := by
  refine own_body (own := "java/lang/StringBuilder") rfl (plainFor_of_name pn_22) (fun m => ef_sbAppC m sb ch) ?_
  intro p e s m below meth c s₁ Bd hml hZ hh hx hby hown X0 e0
  have N0 := Fr.nil n0
  have lt1 : h0.size > sb := E_sb.lt
  have lt2 : h0.size > b := V_b.lt
  refine own_aloadN X0.here hx hby d22_0 rfl rfl ?_
  refine own_iloadN X0.here hx hby d22_1 rfl ?_
  refine own_super X0 hx hZ (by decide) hown (own_w hw 140 rfl) (own_sameM (y := (⟨"java/lang/AbstractStringBuilder", "append", "(C)Ljava/lang/AbstractStringBuilder;"⟩ : MethodName)) (y' := (⟨"java/lang/AbstractStringBuilder", "ensureCapacityInternal", "(I)V"⟩ : MethodName)) rfl (own_w hw 141 rfl) (own_w hw 90 rfl) (by decide)) (own_w hw 141 rfl) (own_w hw 83 rfl) (own_w hw 49 rfl) (own_w hw 143 rfl) (asbAppC l Z a0 hw [] sb b kb wl ch x_ zc h0 n0 Z0 g_sb g_b E_sb F_value_sb F_coder_sb F_count_sb V_b S_C hz hl hc hx_) 0 (Nat.le_of_eq rfl) (by decide) (by decide) (by rw [hml]; rfl) (argsL := [(.int ch)]) (st := []) E_sb (lenOf pd_12 rfl) rfl rfl (by decide) (by decide) e0 hby d22_2 ?_
  intro T3 v3 L3 X3 hQ3
  obtain ⟨rfl, Nq3, K3, P3_0, P3_1, P3_2, P3_3, P3_4⟩ := hQ3
  have N3 := Fr.app N0 Nq3
  have z4 : h0.size ≤ T3.heap.size := K3.1
  have lt5 : T3.heap.size > sb := P3_0.lt
  have lt6 : T3.heap.size > b := P3_4.lt
  refine own_sh (T := T3) 5 #[.val (.ref sb), .val (.int ch)] [(.ref sb)] ?_
  refine own_pop X3.here hx hby d22_5 rfl ?_
  refine own_aloadN X3.here hx hby d22_6 rfl rfl ?_
  have K7 : Keep h0 T3.heap [sb, b] := ((Keep.refl h0 [sb, b]).trans K3 (allS (P := fun xq_ => xq_ ∈ [sb, b] ∨ h0.size ≤ xq_) (Or.inl (List.mem_of_getElem? (i := 0) rfl)) (allS (P := fun xq_ => xq_ ∈ [sb, b] ∨ h0.size ≤ xq_) (Or.inl (List.mem_of_getElem? (i := 1) rfl)) all0)))
  obtain ⟨fs, hr, hrun, hended, hW, hsame⟩ := X3.leave (v := some (.ref sb)) (fun h => by rw [Bd.returns] at h; cases h) Bd.notSynchronized
  refine own_ret (t := T3.setFrames fs) ?_ ⟨_, hrun, hended, _, _, rfl, ?_, ⟨_, rfl⟩, hW, hsame.mono (by decide) (by decide)⟩
  · exact retOut X3 hx Bd.returns rfl (Or.inr (Or.inr (Or.inr (Or.inr ⟨rfl, rfl, rfl⟩)))) (hb hby d22_7) hr
  · show Q_sbAppC Z _ _ _ _ _ _ _ h0 n0 _ T3.heap _
    exact ⟨rfl, N3, K7, P3_0, P3_1, P3_2, P3_3, P3_4⟩
theorem ef_asbInitS (m : MethodId) (x0 : Nat) (x1 : Nat) : entryFrame m #[(.ref x0), (.ref x1)] 5 = mkF m 0 #[.val (.ref x0), .val (.ref x1), .unset, .unset, .unset] [] := by first | (simp [entryFrame, mkF, argsToLocals, Value.category]; done) | rfl
theorem pn_7 : plainName "java/lang/AbstractStringBuilder" = true := by first | (simp [plainName, overriddenIn]; done) | decide +kernel
theorem d7_0 : decode jdk_68_method_3_code 0 = .ok (.aload_n 0, 1) := by decide +kernel
theorem d7_1 : decode jdk_68_method_3_code 1 = .ok (.invokespecial 3, 3) := by decide +kernel
theorem d7_4 : decode jdk_68_method_3_code 4 = .ok (.aload_n 1, 1) := by decide +kernel
theorem d7_5 : decode jdk_68_method_3_code 5 = .ok (.invokevirtual 32, 3) := by decide +kernel
theorem d7_8 : decode jdk_68_method_3_code 8 = .ok (.istore_n 2, 1) := by decide +kernel
theorem d7_9 : decode jdk_68_method_3_code 9 = .ok (.iload_n 2, 1) := by decide +kernel
theorem d7_10 : decode jdk_68_method_3_code 10 = .ok (.ldc 38, 2) := by decide +kernel
theorem d7_12 : decode jdk_68_method_3_code 12 = .ok (.if_icmp .ge 10, 3) := by decide +kernel
theorem d7_15 : decode jdk_68_method_3_code 15 = .ok (.iload_n 2, 1) := by decide +kernel
theorem d7_16 : decode jdk_68_method_3_code 16 = .ok (.bipush 16, 2) := by decide +kernel
theorem d7_18 : decode jdk_68_method_3_code 18 = .ok (.iadd, 1) := by decide +kernel
theorem d7_19 : decode jdk_68_method_3_code 19 = .ok (.goto 5, 3) := by decide +kernel
theorem d7_24 : decode jdk_68_method_3_code 24 = .ok (.istore_n 3, 1) := by decide +kernel
theorem d7_25 : decode jdk_68_method_3_code 25 = .ok (.aload_n 1, 1) := by decide +kernel
theorem d7_26 : decode jdk_68_method_3_code 26 = .ok (.invokevirtual 40, 3) := by decide +kernel
theorem d7_29 : decode jdk_68_method_3_code 29 = .ok (.istore 4, 2) := by decide +kernel
theorem d7_31 : decode jdk_68_method_3_code 31 = .ok (.aload_n 0, 1) := by decide +kernel
theorem d7_32 : decode jdk_68_method_3_code 32 = .ok (.iload 4, 2) := by decide +kernel
theorem d7_34 : decode jdk_68_method_3_code 34 = .ok (.putfield 22, 3) := by decide +kernel
theorem d7_37 : decode jdk_68_method_3_code 37 = .ok (.aload_n 0, 1) := by decide +kernel
theorem d7_38 : decode jdk_68_method_3_code 38 = .ok (.iload 4, 2) := by decide +kernel
theorem d7_40 : decode jdk_68_method_3_code 40 = .ok (.ifCond .ne 9, 3) := by decide +kernel
theorem d7_43 : decode jdk_68_method_3_code 43 = .ok (.iload_n 3, 1) := by decide +kernel
theorem d7_44 : decode jdk_68_method_3_code 44 = .ok (.newarray .byte, 2) := by decide +kernel
theorem d7_46 : decode jdk_68_method_3_code 46 = .ok (.goto 7, 3) := by decide +kernel
theorem d7_53 : decode jdk_68_method_3_code 53 = .ok (.putfield 15, 3) := by decide +kernel
theorem d7_56 : decode jdk_68_method_3_code 56 = .ok (.aload_n 0, 1) := by decide +kernel
theorem d7_57 : decode jdk_68_method_3_code 57 = .ok (.aload_n 1, 1) := by decide +kernel
theorem d7_58 : decode jdk_68_method_3_code 58 = .ok (.invokevirtual 43, 3) := by decide +kernel
theorem d7_61 : decode jdk_68_method_3_code 61 = .ok (.pop, 1) := by decide +kernel
theorem d7_62 : decode jdk_68_method_3_code 62 = .ok (.return_, 1) := by decide +kernel
def Q_asbInitS (Z : State) (sb : Nat) (x : Nat) (t : Nat) (kt : ClassId) (zc : Int32) (h0 : Heap) (n0 : Nat) (vR : Option Value) (hR : Heap) (LR : List Loc) : Prop := ∃ (b : Nat) (kb : ClassId), vR = none ∧ Fr n0 LR ∧ Keep h0 hR [sb] ∧ (Exa Z hR sb "java/lang/StringBuilder") ∧ (Fld Z hR sb "java/lang/AbstractStringBuilder" "value" "[B" (.ref b)) ∧ (Fld Z hR sb "java/lang/AbstractStringBuilder" "coder" "B" (.int 0)) ∧ (Fld Z hR sb "java/lang/AbstractStringBuilder" "count" "I" (.int (Int32.ofNat own_decl.length))) ∧ (Arv Z hR b kb .byte (54 : Int32) (own_bz own_decl) (.int 0)) ∧ h0.size ≤ b
set_option maxRecDepth 65536 in
set_option maxHeartbeats 40000000 in
theorem asbInitS (l : Launch) (Z : State) (a0 : Array Value) (hw : ∀ d ∈ tables_1, d.before a0 Z = true) (ws : List Jvm.Cond) (sb : Nat) (x : Nat) (t : Nat) (kt : ClassId) (zc : Int32) (h0 : Heap) (n0 : Nat) (Z0 : n0 ≤ h0.size) (E_sb : Exa Z h0 sb "java/lang/StringBuilder") (g_sb : n0 ≤ sb) (F_value_sb : Fld Z h0 sb "java/lang/AbstractStringBuilder" "value" "[B" .null) (F_coder_sb : Fld Z h0 sb "java/lang/AbstractStringBuilder" "coder" "B" (.int 0)) (F_count_sb : Fld Z h0 sb "java/lang/AbstractStringBuilder" "count" "I" (.int 0)) (E_x : Exa Z h0 x "java/lang/String") (Fc_x : Fld Z h0 x "java/lang/String" "coder" "B" (.int 0)) (Fv_x : Fld Z h0 x "java/lang/String" "value" "[B" (.ref t)) (V_t : Arv Z h0 t kt .byte (Int32.ofNat own_decl.length) (own_b own_decl) (.int 0)) (S_C : Sta Z h0 "java/lang/String" "COMPACT_STRINGS" "Z" (.int zc)) (hz : ¬ (zc = (0 : Int32))) :
    own_M l (⟨"java/lang/AbstractStringBuilder", "<init>", "(Ljava/lang/String;)V"⟩ : MethodName) jdk_68_method_3_code 5 none ws ({ frames := 6, cells := 1, slots := 54, locals := 87 } : Room) Z #[(.ref sb), (.ref x)] h0 (Q_asbInitS Z sb x t kt zc h0 n0) := by
  refine own_body (own := "java/lang/AbstractStringBuilder") rfl (plainFor_of_name pn_7) (fun m => ef_asbInitS m sb x) ?_
  intro p e s m below meth c s₁ Bd hml hZ hh hx hby hown X0 e0
  have N0 := Fr.nil n0
  have lt1 : h0.size > sb := E_sb.lt
  have lt2 : h0.size > x := E_x.lt
  have lt3 : h0.size > t := V_t.lt
  refine own_aloadN X0.here hx hby d7_0 rfl rfl ?_
  refine own_initO X0 hx hZ hown (own_w hw 51 rfl) (own_w hw 18 rfl) (own_w hw 19 rfl) e0 (by rw [hml]; rfl) hby d7_1 (by decide) 0 (Nat.le_of_eq rfl) (by decide) ?_
  intro T4 X4 e4
  refine own_aloadN X4.here hx hby d7_4 rfl rfl ?_
  refine own_virtual X4 hx hZ hown (own_w hw 52 rfl) (own_w hw 53 rfl) (notFace_of_selects (args := #[]) (mvT hZ (own_w hw 55 rfl))) (own_w hw 55 rfl) (own_w hw 54 rfl) (own_w hw 7 rfl) (own_w hw 56 rfl) (by decide) (lenG l Z a0 hw [] x t kt own_decl zc h0 n0 Z0 E_x Fc_x Fv_x V_t S_C hz) 0 (Nat.le_of_eq rfl) (by decide) (by decide) (by rw [hml]; rfl) (argsL := []) (st := []) E_x (lenOf pd_6 rfl) rfl rfl (by decide) (by decide) e4 hby d7_5 ?_
  intro T5 v5 L5 X5 hQ5
  obtain ⟨rfl, Nq5, eh5⟩ := hQ5
  have N5 := Fr.app N0 Nq5
  refine own_sh (T := T5) 8 #[.val (.ref sb), .val (.ref x), .unset, .unset, .unset] [(.int (Int32.ofNat own_decl.length))] ?_
  rw [show (Int32.ofNat own_decl.length) = (38 : Int32) from (by decide)]
  refine own_istoreN X5.here hx hby d7_8 (l' := #[.val (.ref sb), .val (.ref x), .val (.int 38), .unset, .unset]) rfl ?_
  refine own_iloadN X5.here hx hby d7_9 rfl ?_
  refine own_ldcInt X5 hx hZ hown (own_w hw 65 rfl) hby d7_10 ?_
  refine own_icmpNo X5.here hx hby d7_12 (tlt (show (38 : Int32) < (2147483631 : Int32) from (by decide))).2.1 ?_
  refine own_iloadN X5.here hx hby d7_15 rfl ?_
  refine own_bipush X5.here hx hby d7_16 (v := (16 : Int32)) (by decide) ?_
  refine own_iadd X5.here hx hby d7_18 (v := (54 : Int32)) (by decide) ?_
  refine own_goto X5.here hx hby (pc' := 24) d7_19 (by decide) (by decide) ?_
  refine own_istoreN X5.here hx hby d7_24 (l' := #[.val (.ref sb), .val (.ref x), .val (.int 38), .val (.int 54), .unset]) rfl ?_
  refine own_aloadN X5.here hx hby d7_25 rfl rfl ?_
  refine own_virtual X5 hx hZ hown (own_w hw 66 rfl) (own_w hw 59 rfl) (notFace_of_selects (args := #[]) (mvT hZ (own_w hw 61 rfl))) (own_w hw 61 rfl) (own_w hw 60 rfl) (own_w hw 7 rfl) (own_w hw 62 rfl) (by decide) (strCoder l Z a0 hw [] x zc h0 n0 Z0 Fc_x S_C hz) 0 (Nat.le_of_eq rfl) (by decide) (by decide) (by rw [hml]; rfl) (argsL := []) (st := []) E_x (lenOf pd_3 rfl) rfl rfl (by decide) (by decide) eh5 hby d7_26 ?_
  intro T6 v6 L6 X6 hQ6
  obtain ⟨rfl, Nq6, eh6⟩ := hQ6
  have N6 := Fr.app N5 Nq6
  refine own_sh (T := T6) 29 #[.val (.ref sb), .val (.ref x), .val (.int 38), .val (.int 54), .unset] [(.int 0)] ?_
  refine own_istore X6.here hx hby d7_29 (l' := #[.val (.ref sb), .val (.ref x), .val (.int 38), .val (.int 54), .val (.int 0)]) rfl ?_
  refine own_aloadN X6.here hx hby d7_31 rfl rfl ?_
  refine own_iload X6.here hx hby d7_32 rfl ?_
  refine own_putFN X6 hx hZ (ty := .byte) (v' := (.int 0)) hown (own_w hw 67 rfl) Via.refl eh6 F_coder_sb E_sb (Or.inl (own_w hw 68 rfl)) (own_w hw 40 rfl) (by decide) rfl rfl hby d7_34 N6 g_sb ?_
  intro T7 h7 lo7 X7 e7 N7 W7 F7 z7
  refine own_aloadN X7.here hx hby d7_37 rfl rfl ?_
  refine own_iload X7.here hx hby d7_38 rfl ?_
  refine own_ifNo X7.here hx hby d7_40 ((if0 _ _).trans (teq (show (0 : Int32) = (0 : Int32) from (by decide))).2) ?_
  refine own_iloadN X7.here hx hby d7_43 rfl ?_
  refine own_newP X7 hx hZ (aty := .byte) (own_w hw 9 rfl) e7 hby d7_44 (by decide) 54 (by decide) (by decide) (by decide) (by decide) (ad := "[B") (by decide) ?_
  intro T8 h8 k8 b8 X8 e8 E8 g8 V8 C8 lt8
  have z9 : h7.size ≤ h8.size := E8.1
  have V10 : Arv Z h8 b8 k8 .byte (54 : Int32) [] (.int 0) := V8
  refine own_goto X8.here hx hby (pc' := 53) d7_46 (by decide) (by decide) ?_
  have f11 := ((E_sb.wr W7).ext E8)
  have f12 := ((F_value_sb.other W7 (Or.inr (slot_ne (Or.inl (own_w hw 70 rfl)) (Or.inl (own_w hw 68 rfl)) (by decide) (t := (.array .byte)) (t' := .byte) (by decide) (by decide)))).ext E8)
  refine own_putF X8 hx hZ (ty := (.array .byte)) hown (host := "") (Or.inl (own_w hw 69 rfl)) Via.refl e8 f12 f11 (Or.inl (own_w hw 70 rfl)) (own_w hw 40 rfl) (by decide) rfl rfl hby d7_53 N7 g_sb ?_
  intro T13 h13 lo13 X13 e13 N13 W13 F13 z13
  refine own_aloadN X13.here hx hby d7_56 rfl rfl ?_
  refine own_aloadN X13.here hx hby d7_57 rfl rfl ?_
  have f14 := (V10.other W13 (own_nn (by omega)))
  have V15 : Arv Z h13 b8 k8 .byte (54 : Int32) (own_bz ([] : List Int32)) (.int 0) := f14.pad (own_pad0 (m := 54))
  have f16 := (((F_count_sb.other W7 (Or.inr (slot_ne (Or.inl (own_w hw 86 rfl)) (Or.inl (own_w hw 68 rfl)) (by decide) (t := .int) (t' := .byte) (by decide) (by decide)))).ext E8).other W13 (Or.inr (slot_ne (Or.inl (own_w hw 86 rfl)) (Or.inl (own_w hw 70 rfl)) (by decide) (t := .int) (t' := (.array .byte)) (by decide) (by decide))))
  have V17 : Fld Z h13 sb "java/lang/AbstractStringBuilder" "count" "I" (.int (Int32.ofNat ([] : List Int32).length)) := f16
  have f18 := (f11.wr W13)
  have f19 := ((F7.ext E8).other W13 (Or.inr (slot_ne (Or.inl (own_w hw 68 rfl)) (Or.inl (own_w hw 70 rfl)) (by decide) (t := .byte) (t' := (.array .byte)) (by decide) (by decide))))
  have f20 := (((E_x.wr W7).ext E8).wr W13)
  have f21 := (((Fc_x.other W7 (Or.inl (ne_exa E_x E_sb (by decide)))).ext E8).other W13 (Or.inl (ne_exa E_x E_sb (by decide))))
  have f22 := (((Fv_x.other W7 (Or.inl (ne_exa E_x E_sb (by decide)))).ext E8).other W13 (Or.inl (ne_exa E_x E_sb (by decide))))
  have f23 := (((V_t.other W7 (Ne.symm (own_ne_oa E_sb (own_w hw 40 rfl) V_t))).ext E8).other W13 (Ne.symm (own_ne_oa E_sb (own_w hw 40 rfl) V_t)))
  have f24 := (((S_C.wr W7).ext E8).wr W13)
  have z26 : n0 ≤ h13.size := by omega
  refine own_virtual X13 hx hZ hown (own_w hw 71 rfl) (own_w hw 72 rfl) (own_notFace (args := #[]) (y := (⟨"java/lang/AbstractStringBuilder", "append", "(Ljava/lang/String;)Ljava/lang/AbstractStringBuilder;"⟩ : MethodName)) (y' := (⟨"java/lang/AbstractStringBuilder", "ensureCapacityInternal", "(I)V"⟩ : MethodName)) rfl (mvT hZ (own_w hw 90 rfl))) (own_w hw 74 rfl) (own_w hw 75 rfl) (own_w hw 41 rfl) (own_w hw 76 rfl) (by decide) (sbApp0 l Z a0 hw [] sb b8 x t k8 kt ([] : List Int32) own_decl zc h13 n0 z26 f18 F13 f19 V15 f20 f21 f22 f23 (by omega) f24 hz (by decide) g_sb V17) 0 (Nat.le_of_eq rfl) (by decide) (by decide) (by rw [hml]; rfl) (argsL := [(.ref x)]) (st := []) f18 (lenOf pd_9 rfl) rfl rfl (by decide) (by decide) e13 hby d7_58 ?_
  intro T25 v25 L25 X25 hQ25
  obtain ⟨rfl, Nq25, K25, P25_0, P25_1, P25_2, P25_3, P25_4⟩ := hQ25
  have N25 := Fr.app N13 Nq25
  have z27 : h13.size ≤ T25.heap.size := K25.1
  have lt28 : T25.heap.size > sb := P25_0.lt
  have lt29 : T25.heap.size > b8 := P25_4.lt
  refine own_sh (T := T25) 61 #[.val (.ref sb), .val (.ref x), .val (.int 38), .val (.int 54), .val (.int 0)] [(.ref sb)] ?_
  have V30 : Arv Z T25.heap b8 k8 .byte (54 : Int32) (own_bz own_decl) (.int 0) := P25_4
  have V31 : Fld Z T25.heap sb "java/lang/AbstractStringBuilder" "count" "I" (.int (Int32.ofNat own_decl.length)) := P25_3
  refine own_pop X25.here hx hby d7_61 rfl ?_
  have K32 : Keep h0 T25.heap [sb] := (((((Keep.refl h0 [sb]).wr W7 (Or.inl (List.mem_of_getElem? (i := 0) rfl))).ext E8).wr W13 (Or.inl (List.mem_of_getElem? (i := 0) rfl))).trans K25 (allS (P := fun xq_ => xq_ ∈ [sb] ∨ h0.size ≤ xq_) (Or.inl (List.mem_of_getElem? (i := 0) rfl)) (allS (P := fun xq_ => xq_ ∈ [sb] ∨ h0.size ≤ xq_) (Or.inr (by omega)) all0)))
  obtain ⟨fs, hr, hrun, hended, hW, hsame⟩ := X25.leave (v := none) (fun _ => rfl) Bd.notSynchronized
  refine own_ret (t := T25.setFrames fs) ?_ ⟨_, hrun, hended, _, _, rfl, ?_, ⟨_, rfl⟩, hW, hsame.mono (by decide) (by decide)⟩
  · exact X25.returnOut hx Bd.returns (hb hby d7_62) hr
  · show Q_asbInitS Z _ _ _ _ _ h0 n0 _ T25.heap _
    exact ⟨b8, k8, rfl, N25, K32, P25_0, P25_1, P25_2, V31, V30, (by omega)⟩
theorem ef_sbInitS (m : MethodId) (x0 : Nat) (x1 : Nat) : entryFrame m #[(.ref x0), (.ref x1)] 2 = mkF m 0 #[.val (.ref x0), .val (.ref x1)] [] := by first | (simp [entryFrame, mkF, argsToLocals, Value.category]; done) | rfl
theorem pn_6 : plainName "java/lang/StringBuilder" = true := by first | (simp [plainName, overriddenIn]; done) | decide +kernel
theorem d6_0 : decode jdk_67_method_3_code 0 = .ok (.aload_n 0, 1) := by decide +kernel
theorem d6_1 : decode jdk_67_method_3_code 1 = .ok (.aload_n 1, 1) := by decide +kernel
theorem d6_2 : decode jdk_67_method_3_code 2 = .ok (.invokespecial 7, 3) := by decide +kernel
theorem d6_5 : decode jdk_67_method_3_code 5 = .ok (.return_, 1) := by decide +kernel
def Q_sbInitS (Z : State) (sb : Nat) (x : Nat) (t : Nat) (kt : ClassId) (zc : Int32) (h0 : Heap) (n0 : Nat) (vR : Option Value) (hR : Heap) (LR : List Loc) : Prop := ∃ (b : Nat) (kb : ClassId), vR = none ∧ Fr n0 LR ∧ Keep h0 hR [sb] ∧ (Exa Z hR sb "java/lang/StringBuilder") ∧ (Fld Z hR sb "java/lang/AbstractStringBuilder" "value" "[B" (.ref b)) ∧ (Fld Z hR sb "java/lang/AbstractStringBuilder" "coder" "B" (.int 0)) ∧ (Fld Z hR sb "java/lang/AbstractStringBuilder" "count" "I" (.int (Int32.ofNat own_decl.length))) ∧ (Arv Z hR b kb .byte (54 : Int32) (own_bz own_decl) (.int 0)) ∧ h0.size ≤ b
set_option maxRecDepth 65536 in
set_option maxHeartbeats 40000000 in
theorem sbInitS (l : Launch) (Z : State) (a0 : Array Value) (hw : ∀ d ∈ tables_1, d.before a0 Z = true) (ws : List Jvm.Cond) (sb : Nat) (x : Nat) (t : Nat) (kt : ClassId) (zc : Int32) (h0 : Heap) (n0 : Nat) (Z0 : n0 ≤ h0.size) (E_sb : Exa Z h0 sb "java/lang/StringBuilder") (g_sb : n0 ≤ sb) (F_value_sb : Fld Z h0 sb "java/lang/AbstractStringBuilder" "value" "[B" .null) (F_coder_sb : Fld Z h0 sb "java/lang/AbstractStringBuilder" "coder" "B" (.int 0)) (F_count_sb : Fld Z h0 sb "java/lang/AbstractStringBuilder" "count" "I" (.int 0)) (E_x : Exa Z h0 x "java/lang/String") (Fc_x : Fld Z h0 x "java/lang/String" "coder" "B" (.int 0)) (Fv_x : Fld Z h0 x "java/lang/String" "value" "[B" (.ref t)) (V_t : Arv Z h0 t kt .byte (Int32.ofNat own_decl.length) (own_b own_decl) (.int 0)) (S_C : Sta Z h0 "java/lang/String" "COMPACT_STRINGS" "Z" (.int zc)) (hz : ¬ (zc = (0 : Int32))) :
    own_M l (⟨"java/lang/StringBuilder", "<init>", "(Ljava/lang/String;)V"⟩ : MethodName) jdk_67_method_3_code 2 none ws ({ frames := 7, cells := 1, slots := 54, locals := 103 } : Room) Z #[(.ref sb), (.ref x)] h0 (Q_sbInitS Z sb x t kt zc h0 n0) := by
  refine own_body (own := "java/lang/StringBuilder") rfl (plainFor_of_name pn_6) (fun m => ef_sbInitS m sb x) ?_
  intro p e s m below meth c s₁ Bd hml hZ hh hx hby hown X0 e0
  have N0 := Fr.nil n0
  have lt1 : h0.size > sb := E_sb.lt
  have lt2 : h0.size > x := E_x.lt
  have lt3 : h0.size > t := V_t.lt
  refine own_aloadN X0.here hx hby d6_0 rfl rfl ?_
  refine own_aloadN X0.here hx hby d6_1 rfl rfl ?_
  refine own_special X0 hx hZ rfl hown (own_w hw 45 rfl) (own_w hw 46 rfl) (own_w hw 49 rfl) (own_w hw 50 rfl) (by decide) (asbInitS l Z a0 hw [] sb x t kt zc h0 n0 Z0 E_sb g_sb F_value_sb F_coder_sb F_count_sb E_x Fc_x Fv_x V_t S_C hz) 0 (Nat.le_of_eq rfl) (by decide) (by decide) (by rw [hml]; rfl) (argsL := [(.ref x)]) (st := []) (a := sb) (lenOf pd_4 rfl) rfl rfl (by decide) (by decide) e0 hby d6_2 ?_
  intro T4 v4 L4 X4 hQ4
  obtain ⟨b_4, kb_4, rfl, Nq4, K4, P4_0, P4_1, P4_2, P4_3, P4_4, P4_5⟩ := hQ4
  have N4 := Fr.app N0 Nq4
  have z5 : h0.size ≤ T4.heap.size := K4.1
  have lt6 : T4.heap.size > sb := P4_0.lt
  have lt7 : T4.heap.size > b_4 := P4_4.lt
  refine own_sh (T := T4) 5 #[.val (.ref sb), .val (.ref x)] [] ?_
  have K8 : Keep h0 T4.heap [sb] := ((Keep.refl h0 [sb]).trans K4 (allS (P := fun xq_ => xq_ ∈ [sb] ∨ h0.size ≤ xq_) (Or.inl (List.mem_of_getElem? (i := 0) rfl)) all0))
  obtain ⟨fs, hr, hrun, hended, hW, hsame⟩ := X4.leave (v := none) (fun _ => rfl) Bd.notSynchronized
  refine own_ret (t := T4.setFrames fs) ?_ ⟨_, hrun, hended, _, _, rfl, ?_, ⟨_, rfl⟩, hW, hsame.mono (by decide) (by decide)⟩
  · exact X4.returnOut hx Bd.returns (hb hby d6_5) hr
  · show Q_sbInitS Z _ _ _ _ _ h0 n0 _ T4.heap _
    exact ⟨b_4, kb_4, rfl, N4, K8, P4_0, P4_1, P4_2, P4_3, P4_4, (by omega)⟩
theorem ef_absColl (m : MethodId) (x0 : Nat) : entryFrame m #[(.ref x0)] 1 = mkF m 0 #[.val (.ref x0)] [] := by first | (simp [entryFrame, mkF, argsToLocals, Value.category]; done) | rfl
theorem pn_5 : plainName "java/util/AbstractCollection" = true := by first | (simp [plainName, overriddenIn]; done) | decide +kernel
theorem d5_0 : decode jdk_22_method_1_code 0 = .ok (.aload_n 0, 1) := by decide +kernel
theorem d5_1 : decode jdk_22_method_1_code 1 = .ok (.invokespecial 1, 3) := by decide +kernel
theorem d5_4 : decode jdk_22_method_1_code 4 = .ok (.return_, 1) := by decide +kernel
def Q_absColl (Z : State) (dq : Nat) (h0 : Heap) (n0 : Nat) (vR : Option Value) (hR : Heap) (LR : List Loc) : Prop := vR = none ∧ Fr n0 LR ∧ hR = h0
set_option maxRecDepth 65536 in
set_option maxHeartbeats 40000000 in
theorem absColl (l : Launch) (Z : State) (a0 : Array Value) (hw : ∀ d ∈ tables_1, d.before a0 Z = true) (ws : List Jvm.Cond) (dq : Nat) (h0 : Heap) (n0 : Nat) (Z0 : n0 ≤ h0.size)  :
    own_M l (⟨"java/util/AbstractCollection", "<init>", "()V"⟩ : MethodName) jdk_22_method_1_code 1 none ws ({ frames := 1, cells := 0, slots := 0, locals := 12 } : Room) Z #[(.ref dq)] h0 (Q_absColl Z dq h0 n0) := by
  refine own_body (own := "java/util/AbstractCollection") rfl (plainFor_of_name pn_5) (fun m => ef_absColl m dq) ?_
  intro p e s m below meth c s₁ Bd hml hZ hh hx hby hown X0 e0
  have N0 := Fr.nil n0
  refine own_aloadN X0.here hx hby d5_0 rfl rfl ?_
  refine own_initO X0 hx hZ hown (own_w hw 32 rfl) (own_w hw 18 rfl) (own_w hw 19 rfl) e0 (by rw [hml]; rfl) hby d5_1 (by decide) 0 (Nat.le_of_eq rfl) (by decide) ?_
  intro T1 X1 e1
  obtain ⟨fs, hr, hrun, hended, hW, hsame⟩ := X1.leave (v := none) (fun _ => rfl) Bd.notSynchronized
  refine own_ret (t := T1.setFrames fs) ?_ ⟨_, hrun, hended, _, _, rfl, ?_, ⟨_, rfl⟩, hW, hsame.mono (by decide) (by decide)⟩
  · exact X1.returnOut hx Bd.returns (hb hby d5_4) hr
  · show Q_absColl Z _ h0 n0 _ T1.heap _
    rw [e1]
    exact ⟨rfl, N0, rfl⟩
theorem ef_dqInit (m : MethodId) (x0 : Nat) : entryFrame m #[(.ref x0)] 1 = mkF m 0 #[.val (.ref x0)] [] := by first | (simp [entryFrame, mkF, argsToLocals, Value.category]; done) | rfl
theorem pn_4 : plainName "java/util/ArrayDeque" = true := by first | (simp [plainName, overriddenIn]; done) | decide +kernel
theorem d4_0 : decode jdk_21_method_3_code 0 = .ok (.aload_n 0, 1) := by decide +kernel
theorem d4_1 : decode jdk_21_method_3_code 1 = .ok (.invokespecial 42, 3) := by decide +kernel
theorem pd_13 : parseMethodDescriptor "()V" = some ⟨[], none⟩ := by decide +kernel
theorem d4_4 : decode jdk_21_method_3_code 4 = .ok (.aload_n 0, 1) := by decide +kernel
theorem d4_5 : decode jdk_21_method_3_code 5 = .ok (.bipush 17, 2) := by decide +kernel
theorem d4_7 : decode jdk_21_method_3_code 7 = .ok (.anewarray 47, 3) := by decide +kernel
theorem d4_10 : decode jdk_21_method_3_code 10 = .ok (.putfield 3, 3) := by decide +kernel
theorem d4_13 : decode jdk_21_method_3_code 13 = .ok (.return_, 1) := by decide +kernel
def Q_dqInit (Z : State) (dq : Nat) (h0 : Heap) (n0 : Nat) (vR : Option Value) (hR : Heap) (LR : List Loc) : Prop := ∃ (el : Nat) (ke : ClassId), vR = none ∧ Fr n0 LR ∧ Keep h0 hR [dq] ∧ h0.size ≤ el ∧ (Exa Z hR dq "java/util/ArrayDeque") ∧ (Fld Z hR dq "java/util/ArrayDeque" "elements" "[Ljava/lang/Object;" (.ref el)) ∧ (Fld Z hR dq "java/util/ArrayDeque" "head" "I" (.int 0)) ∧ (Fld Z hR dq "java/util/ArrayDeque" "tail" "I" (.int 0)) ∧ (Arv Z hR el ke (.object "java/lang/Object") (17 : Int32) [.null, .null, .null, .null, .null, .null, .null, .null, .null, .null, .null, .null, .null, .null, .null, .null, .null] .null) ∧ (Ovr Z ke "java/lang/Object")
set_option maxRecDepth 65536 in
set_option maxHeartbeats 40000000 in
theorem dqInit (l : Launch) (Z : State) (a0 : Array Value) (hw : ∀ d ∈ tables_1, d.before a0 Z = true) (ws : List Jvm.Cond) (dq : Nat) (h0 : Heap) (n0 : Nat) (Z0 : n0 ≤ h0.size) (E_dq : Exa Z h0 dq "java/util/ArrayDeque") (g_dq : n0 ≤ dq) (F_elements_dq : Fld Z h0 dq "java/util/ArrayDeque" "elements" "[Ljava/lang/Object;" .null) (F_head_dq : Fld Z h0 dq "java/util/ArrayDeque" "head" "I" (.int 0)) (F_tail_dq : Fld Z h0 dq "java/util/ArrayDeque" "tail" "I" (.int 0)) :
    own_M l (⟨"java/util/ArrayDeque", "<init>", "()V"⟩ : MethodName) jdk_21_method_3_code 1 none ws ({ frames := 2, cells := 1, slots := 17, locals := 24 } : Room) Z #[(.ref dq)] h0 (Q_dqInit Z dq h0 n0) := by
  refine own_body (own := "java/util/ArrayDeque") rfl (plainFor_of_name pn_4) (fun m => ef_dqInit m dq) ?_
  intro p e s m below meth c s₁ Bd hml hZ hh hx hby hown X0 e0
  have N0 := Fr.nil n0
  have lt1 : h0.size > dq := E_dq.lt
  refine own_aloadN X0.here hx hby d4_0 rfl rfl ?_
  refine own_special X0 hx hZ rfl hown (own_w hw 26 rfl) (own_w hw 27 rfl) (own_w hw 30 rfl) (own_w hw 31 rfl) (by decide) (absColl l Z a0 hw [] dq h0 n0 Z0 ) 0 (Nat.le_of_eq rfl) (by decide) (by decide) (by rw [hml]; rfl) (argsL := []) (st := []) (a := dq) (lenOf pd_13 rfl) rfl rfl (by decide) (by decide) e0 hby d4_1 ?_
  intro T2 v2 L2 X2 hQ2
  obtain ⟨rfl, Nq2, eh2⟩ := hQ2
  have N2 := Fr.app N0 Nq2
  refine own_sh (T := T2) 4 #[.val (.ref dq)] [] ?_
  refine own_aloadN X2.here hx hby d4_4 rfl rfl ?_
  refine own_bipush X2.here hx hby d4_5 (v := (17 : Int32)) (by decide) ?_
  refine own_newR X2 hx hZ hown (own_w hw 33 rfl) (own_w hw 34 rfl) eh2 hby d4_7 (by decide) 17 (by decide) (by decide) (by decide) (by decide) (ad := "[Ljava/lang/Object;") (by decide) ?_
  intro T3 h3 k3 b3 X3 e3 E3 g3 V3 C3 O3 lt3
  have z4 : h0.size ≤ h3.size := E3.1
  have V5 : Arv Z h3 b3 k3 (.object "java/lang/Object") (17 : Int32) [.null, .null, .null, .null, .null, .null, .null, .null, .null, .null, .null, .null, .null, .null, .null, .null, .null] .null := V3.pad (pad_rep [] .null 17)
  have f6 := (E_dq.ext E3)
  have f7 := (F_elements_dq.ext E3)
  refine own_putF X3 hx hZ (ty := (.array (.object "java/lang/Object"))) hown (host := "") (Or.inl (own_w hw 35 rfl)) Via.refl e3 f7 f6 (Or.inl (own_w hw 36 rfl)) (own_w hw 21 rfl) (by decide) rfl rfl hby d4_10 N2 g_dq ?_
  intro T8 h8 lo8 X8 e8 N8 W8 F8 z8
  have K9 : Keep h0 h8 [dq] := (((Keep.refl h0 [dq]).ext E3).wr W8 (Or.inl (List.mem_of_getElem? (i := 0) rfl)))
  have f10 := (f6.wr W8)
  have f11 := ((F_head_dq.ext E3).other W8 (Or.inr (slot_ne (Or.inl (own_w hw 166 rfl)) (Or.inl (own_w hw 36 rfl)) (by decide) (t := .int) (t' := (.array (.object "java/lang/Object"))) (by decide) (by decide))))
  have f12 := ((F_tail_dq.ext E3).other W8 (Or.inr (slot_ne (Or.inl (own_w hw 172 rfl)) (Or.inl (own_w hw 36 rfl)) (by decide) (t := .int) (t' := (.array (.object "java/lang/Object"))) (by decide) (by decide))))
  have f13 := (V5.other W8 (own_nn (by omega)))
  obtain ⟨fs, hr, hrun, hended, hW, hsame⟩ := X8.leave (v := none) (fun _ => rfl) Bd.notSynchronized
  refine own_ret (t := T8.setFrames fs) ?_ ⟨_, hrun, hended, _, _, rfl, ?_, ⟨_, rfl⟩, hW, hsame.mono (by decide) (by decide)⟩
  · exact X8.returnOut hx Bd.returns (hb hby d4_13) hr
  · show Q_dqInit Z _ h0 n0 _ T8.heap _
    rw [e8]
    exact ⟨b3, k3, rfl, N8, K9, (by omega), f10, F8, f11, f12, f13, O3⟩
theorem ef_dec_0 (m : MethodId) (x0 : Int32) (x1 : Int32) : entryFrame m #[(.int x0), (.int x1)] 2 = mkF m 0 #[.val (.int x0), .val (.int x1)] [] := by first | (simp [entryFrame, mkF, argsToLocals, Value.category]; done) | rfl
theorem pn_27 : plainName "java/util/ArrayDeque" = true := by first | (simp [plainName, overriddenIn]; done) | decide +kernel
theorem d27_0 : decode jdk_21_method_7_code 0 = .ok (.iinc 0 (-1), 3) := by decide +kernel
theorem d27_3 : decode jdk_21_method_7_code 3 = .ok (.iload_n 0, 1) := by decide +kernel
theorem d27_4 : decode jdk_21_method_7_code 4 = .ok (.ifCond .ge 7, 3) := by decide +kernel
theorem d27_7 : decode jdk_21_method_7_code 7 = .ok (.iload_n 1, 1) := by decide +kernel
theorem d27_8 : decode jdk_21_method_7_code 8 = .ok (.iconst 1, 1) := by decide +kernel
theorem d27_9 : decode jdk_21_method_7_code 9 = .ok (.isub, 1) := by decide +kernel
theorem d27_10 : decode jdk_21_method_7_code 10 = .ok (.istore_n 0, 1) := by decide +kernel
theorem d27_11 : decode jdk_21_method_7_code 11 = .ok (.iload_n 0, 1) := by decide +kernel
theorem d27_12 : decode jdk_21_method_7_code 12 = .ok (.ireturn, 1) := by decide +kernel
def Q_dec_0 (Z : State)  (h0 : Heap) (n0 : Nat) (vR : Option Value) (hR : Heap) (LR : List Loc) : Prop := vR = some (.int 16) ∧ Fr n0 LR ∧ hR = h0
set_option maxRecDepth 65536 in
set_option maxHeartbeats 40000000 in
theorem dec_0 (l : Launch) (Z : State) (a0 : Array Value) (hw : ∀ d ∈ tables_1, d.before a0 Z = true) (ws : List Jvm.Cond)  (h0 : Heap) (n0 : Nat) (Z0 : n0 ≤ h0.size)  :
    own_M l (⟨"java/util/ArrayDeque", "dec", "(II)I"⟩ : MethodName) jdk_21_method_7_code 2 (some .int) ws ({ frames := 0, cells := 0, slots := 0, locals := 0 } : Room) Z #[(.int 0), (.int 17)] h0 (Q_dec_0 Z  h0 n0) := by
  refine own_body (own := "java/util/ArrayDeque") rfl (plainFor_of_name pn_27) (fun m => ef_dec_0 m (0 : Int32) (17 : Int32)) ?_
  intro p e s m below meth c s₁ Bd hml hZ hh hx hby hown X0 e0
  have N0 := Fr.nil n0
  refine own_iinc X0.here hx hby d27_0 rfl (v := (-1 : Int32)) (by decide) (l' := #[.val (.int (-1)), .val (.int 17)]) rfl ?_
  refine own_iloadN X0.here hx hby d27_3 rfl ?_
  refine own_ifNo X0.here hx hby d27_4 ((if0 _ _).trans (tlt (show (-1 : Int32) < (0 : Int32) from (by decide))).2.1) ?_
  refine own_iloadN X0.here hx hby d27_7 rfl ?_
  refine own_iconst X0.here hx hby d27_8 (v := (1 : Int32)) (by decide) ?_
  refine own_isub X0.here hx hby d27_9 (v := (16 : Int32)) (by decide) ?_
  refine own_istoreN X0.here hx hby d27_10 (l' := #[.val (.int 16), .val (.int 17)]) rfl ?_
  refine own_iloadN X0.here hx hby d27_11 rfl ?_
  obtain ⟨fs, hr, hrun, hended, hW, hsame⟩ := X0.leave (v := some (.int 16)) (fun h => by rw [Bd.returns] at h; cases h) Bd.notSynchronized
  refine own_ret (t := s₁.setFrames fs) ?_ ⟨_, hrun, hended, _, _, rfl, ?_, ⟨_, rfl⟩, hW, hsame.mono (by decide) (by decide)⟩
  · exact retOut X0 hx Bd.returns rfl (Or.inl ⟨rfl, Or.inl rfl, _, rfl⟩) (hb hby d27_12) hr
  · show Q_dec_0 Z h0 n0 _ s₁.heap _
    rw [e0]
    exact ⟨rfl, N0, rfl⟩
def Q_dec_16 (Z : State)  (h0 : Heap) (n0 : Nat) (vR : Option Value) (hR : Heap) (LR : List Loc) : Prop := vR = some (.int 15) ∧ Fr n0 LR ∧ hR = h0
set_option maxRecDepth 65536 in
set_option maxHeartbeats 40000000 in
theorem dec_16 (l : Launch) (Z : State) (a0 : Array Value) (hw : ∀ d ∈ tables_1, d.before a0 Z = true) (ws : List Jvm.Cond)  (h0 : Heap) (n0 : Nat) (Z0 : n0 ≤ h0.size)  :
    own_M l (⟨"java/util/ArrayDeque", "dec", "(II)I"⟩ : MethodName) jdk_21_method_7_code 2 (some .int) ws ({ frames := 0, cells := 0, slots := 0, locals := 0 } : Room) Z #[(.int 16), (.int 17)] h0 (Q_dec_16 Z  h0 n0) := by
  refine own_body (own := "java/util/ArrayDeque") rfl (plainFor_of_name pn_27) (fun m => ef_dec_0 m (16 : Int32) (17 : Int32)) ?_
  intro p e s m below meth c s₁ Bd hml hZ hh hx hby hown X0 e0
  have N0 := Fr.nil n0
  refine own_iinc X0.here hx hby d27_0 rfl (v := (15 : Int32)) (by decide) (l' := #[.val (.int 15), .val (.int 17)]) rfl ?_
  refine own_iloadN X0.here hx hby d27_3 rfl ?_
  refine own_ifYes X0.here hx hby (pc' := 11) d27_4 ((if0 _ _).trans (flt (show ¬ ((15 : Int32) < (0 : Int32)) from (by decide))).2.1) (by decide) (by decide) ?_
  refine own_iloadN X0.here hx hby d27_11 rfl ?_
  obtain ⟨fs, hr, hrun, hended, hW, hsame⟩ := X0.leave (v := some (.int 15)) (fun h => by rw [Bd.returns] at h; cases h) Bd.notSynchronized
  refine own_ret (t := s₁.setFrames fs) ?_ ⟨_, hrun, hended, _, _, rfl, ?_, ⟨_, rfl⟩, hW, hsame.mono (by decide) (by decide)⟩
  · exact retOut X0 hx Bd.returns rfl (Or.inl ⟨rfl, Or.inl rfl, _, rfl⟩) (hb hby d27_12) hr
  · show Q_dec_16 Z h0 n0 _ s₁.heap _
    rw [e0]
    exact ⟨rfl, N0, rfl⟩
theorem ef_inc_15 (m : MethodId) (x0 : Int32) (x1 : Int32) : entryFrame m #[(.int x0), (.int x1)] 2 = mkF m 0 #[.val (.int x0), .val (.int x1)] [] := by first | (simp [entryFrame, mkF, argsToLocals, Value.category]; done) | rfl
theorem pn_33 : plainName "java/util/ArrayDeque" = true := by first | (simp [plainName, overriddenIn]; done) | decide +kernel
theorem d33_0 : decode jdk_21_method_6_code 0 = .ok (.iinc 0 1, 3) := by decide +kernel
theorem d33_3 : decode jdk_21_method_6_code 3 = .ok (.iload_n 0, 1) := by decide +kernel
theorem d33_4 : decode jdk_21_method_6_code 4 = .ok (.iload_n 1, 1) := by decide +kernel
theorem d33_5 : decode jdk_21_method_6_code 5 = .ok (.if_icmp .lt 5, 3) := by decide +kernel
theorem d33_10 : decode jdk_21_method_6_code 10 = .ok (.iload_n 0, 1) := by decide +kernel
theorem d33_11 : decode jdk_21_method_6_code 11 = .ok (.ireturn, 1) := by decide +kernel
def Q_inc_15 (Z : State)  (h0 : Heap) (n0 : Nat) (vR : Option Value) (hR : Heap) (LR : List Loc) : Prop := vR = some (.int 16) ∧ Fr n0 LR ∧ hR = h0
set_option maxRecDepth 65536 in
set_option maxHeartbeats 40000000 in
theorem inc_15 (l : Launch) (Z : State) (a0 : Array Value) (hw : ∀ d ∈ tables_1, d.before a0 Z = true) (ws : List Jvm.Cond)  (h0 : Heap) (n0 : Nat) (Z0 : n0 ≤ h0.size)  :
    own_M l (⟨"java/util/ArrayDeque", "inc", "(II)I"⟩ : MethodName) jdk_21_method_6_code 2 (some .int) ws ({ frames := 0, cells := 0, slots := 0, locals := 0 } : Room) Z #[(.int 15), (.int 17)] h0 (Q_inc_15 Z  h0 n0) := by
  refine own_body (own := "java/util/ArrayDeque") rfl (plainFor_of_name pn_33) (fun m => ef_inc_15 m (15 : Int32) (17 : Int32)) ?_
  intro p e s m below meth c s₁ Bd hml hZ hh hx hby hown X0 e0
  have N0 := Fr.nil n0
  refine own_iinc X0.here hx hby d33_0 rfl (v := (16 : Int32)) (by decide) (l' := #[.val (.int 16), .val (.int 17)]) rfl ?_
  refine own_iloadN X0.here hx hby d33_3 rfl ?_
  refine own_iloadN X0.here hx hby d33_4 rfl ?_
  refine own_icmpYes X0.here hx hby (pc' := 10) d33_5 (tlt (show (16 : Int32) < (17 : Int32) from (by decide))).1 (by decide) (by decide) ?_
  refine own_iloadN X0.here hx hby d33_10 rfl ?_
  obtain ⟨fs, hr, hrun, hended, hW, hsame⟩ := X0.leave (v := some (.int 16)) (fun h => by rw [Bd.returns] at h; cases h) Bd.notSynchronized
  refine own_ret (t := s₁.setFrames fs) ?_ ⟨_, hrun, hended, _, _, rfl, ?_, ⟨_, rfl⟩, hW, hsame.mono (by decide) (by decide)⟩
  · exact retOut X0 hx Bd.returns rfl (Or.inl ⟨rfl, Or.inl rfl, _, rfl⟩) (hb hby d33_11) hr
  · show Q_inc_15 Z h0 n0 _ s₁.heap _
    rw [e0]
    exact ⟨rfl, N0, rfl⟩
theorem d33_8 : decode jdk_21_method_6_code 8 = .ok (.iconst 0, 1) := by decide +kernel
theorem d33_9 : decode jdk_21_method_6_code 9 = .ok (.istore_n 0, 1) := by decide +kernel
def Q_inc_16 (Z : State)  (h0 : Heap) (n0 : Nat) (vR : Option Value) (hR : Heap) (LR : List Loc) : Prop := vR = some (.int 0) ∧ Fr n0 LR ∧ hR = h0
set_option maxRecDepth 65536 in
set_option maxHeartbeats 40000000 in
theorem inc_16 (l : Launch) (Z : State) (a0 : Array Value) (hw : ∀ d ∈ tables_1, d.before a0 Z = true) (ws : List Jvm.Cond)  (h0 : Heap) (n0 : Nat) (Z0 : n0 ≤ h0.size)  :
    own_M l (⟨"java/util/ArrayDeque", "inc", "(II)I"⟩ : MethodName) jdk_21_method_6_code 2 (some .int) ws ({ frames := 0, cells := 0, slots := 0, locals := 0 } : Room) Z #[(.int 16), (.int 17)] h0 (Q_inc_16 Z  h0 n0) := by
  refine own_body (own := "java/util/ArrayDeque") rfl (plainFor_of_name pn_33) (fun m => ef_inc_15 m (16 : Int32) (17 : Int32)) ?_
  intro p e s m below meth c s₁ Bd hml hZ hh hx hby hown X0 e0
  have N0 := Fr.nil n0
  refine own_iinc X0.here hx hby d33_0 rfl (v := (17 : Int32)) (by decide) (l' := #[.val (.int 17), .val (.int 17)]) rfl ?_
  refine own_iloadN X0.here hx hby d33_3 rfl ?_
  refine own_iloadN X0.here hx hby d33_4 rfl ?_
  refine own_icmpNo X0.here hx hby d33_5 (flt (show ¬ ((17 : Int32) < (17 : Int32)) from (by decide))).1 ?_
  refine own_iconst X0.here hx hby d33_8 (v := (0 : Int32)) (by decide) ?_
  refine own_istoreN X0.here hx hby d33_9 (l' := #[.val (.int 0), .val (.int 17)]) rfl ?_
  refine own_iloadN X0.here hx hby d33_10 rfl ?_
  obtain ⟨fs, hr, hrun, hended, hW, hsame⟩ := X0.leave (v := some (.int 0)) (fun h => by rw [Bd.returns] at h; cases h) Bd.notSynchronized
  refine own_ret (t := s₁.setFrames fs) ?_ ⟨_, hrun, hended, _, _, rfl, ?_, ⟨_, rfl⟩, hW, hsame.mono (by decide) (by decide)⟩
  · exact retOut X0 hx Bd.returns rfl (Or.inl ⟨rfl, Or.inl rfl, _, rfl⟩) (hb hby d33_11) hr
  · show Q_inc_16 Z h0 n0 _ s₁.heap _
    rw [e0]
    exact ⟨rfl, N0, rfl⟩
theorem ef_addFirst_0 (m : MethodId) (x0 : Nat) (x1 : Nat) : entryFrame m #[(.ref x0), (.ref x1)] 3 = mkF m 0 #[.val (.ref x0), .val (.ref x1), .unset] [] := by first | (simp [entryFrame, mkF, argsToLocals, Value.category]; done) | rfl
theorem pn_26 : plainName "java/util/ArrayDeque" = true := by first | (simp [plainName, overriddenIn]; done) | decide +kernel
theorem d26_0 : decode jdk_21_method_12_code 0 = .ok (.aload_n 1, 1) := by decide +kernel
theorem d26_1 : decode jdk_21_method_12_code 1 = .ok (.ifnonnull 11, 3) := by decide +kernel
theorem d26_12 : decode jdk_21_method_12_code 12 = .ok (.aload_n 0, 1) := by decide +kernel
theorem d26_13 : decode jdk_21_method_12_code 13 = .ok (.getfield 3, 3) := by decide +kernel
theorem d26_16 : decode jdk_21_method_12_code 16 = .ok (.astore_n 2, 1) := by decide +kernel
theorem d26_17 : decode jdk_21_method_12_code 17 = .ok (.aload_n 2, 1) := by decide +kernel
theorem d26_18 : decode jdk_21_method_12_code 18 = .ok (.aload_n 0, 1) := by decide +kernel
theorem d26_19 : decode jdk_21_method_12_code 19 = .ok (.aload_n 0, 1) := by decide +kernel
theorem d26_20 : decode jdk_21_method_12_code 20 = .ok (.getfield 24, 3) := by decide +kernel
theorem d26_23 : decode jdk_21_method_12_code 23 = .ok (.aload_n 2, 1) := by decide +kernel
theorem d26_24 : decode jdk_21_method_12_code 24 = .ok (.arraylength, 1) := by decide +kernel
theorem d26_25 : decode jdk_21_method_12_code 25 = .ok (.invokestatic 68, 3) := by decide +kernel
theorem pd_14 : parseMethodDescriptor "(II)I" = some ⟨[.int, .int], some .int⟩ := by decide +kernel
theorem d26_28 : decode jdk_21_method_12_code 28 = .ok (.dup_x1, 1) := by decide +kernel
theorem d26_29 : decode jdk_21_method_12_code 29 = .ok (.putfield 24, 3) := by decide +kernel
theorem d26_32 : decode jdk_21_method_12_code 32 = .ok (.aload_n 1, 1) := by decide +kernel
theorem d26_33 : decode jdk_21_method_12_code 33 = .ok (.aastore, 1) := by decide +kernel
theorem d26_34 : decode jdk_21_method_12_code 34 = .ok (.aload_n 0, 1) := by decide +kernel
theorem d26_35 : decode jdk_21_method_12_code 35 = .ok (.getfield 24, 3) := by decide +kernel
theorem d26_38 : decode jdk_21_method_12_code 38 = .ok (.aload_n 0, 1) := by decide +kernel
theorem d26_39 : decode jdk_21_method_12_code 39 = .ok (.getfield 20, 3) := by decide +kernel
theorem d26_42 : decode jdk_21_method_12_code 42 = .ok (.if_icmp .ne 8, 3) := by decide +kernel
theorem d26_50 : decode jdk_21_method_12_code 50 = .ok (.return_, 1) := by decide +kernel
def Q_addFirst_0 (Z : State) (dq : Nat) (el : Nat) (x : Nat) (ke : ClassId) (h0 : Heap) (n0 : Nat) (vR : Option Value) (hR : Heap) (LR : List Loc) : Prop := vR = none ∧ Fr n0 LR ∧ Keep h0 hR [dq, el] ∧ (Exa Z hR dq "java/util/ArrayDeque") ∧ (Fld Z hR dq "java/util/ArrayDeque" "elements" "[Ljava/lang/Object;" (.ref el)) ∧ (Fld Z hR dq "java/util/ArrayDeque" "head" "I" (.int 16)) ∧ (Fld Z hR dq "java/util/ArrayDeque" "tail" "I" (.int 0)) ∧ (Arv Z hR el ke (.object "java/lang/Object") (17 : Int32) [.null, .null, .null, .null, .null, .null, .null, .null, .null, .null, .null, .null, .null, .null, .null, .null, (.ref x)] .null) ∧ (Ovr Z ke "java/lang/Object")
set_option maxRecDepth 65536 in
set_option maxHeartbeats 40000000 in
theorem addFirst_0 (l : Launch) (Z : State) (a0 : Array Value) (hw : ∀ d ∈ tables_1, d.before a0 Z = true) (ws : List Jvm.Cond) (dq : Nat) (el : Nat) (x : Nat) (ke : ClassId) (h0 : Heap) (n0 : Nat) (Z0 : n0 ≤ h0.size) (g_dq : n0 ≤ dq) (g_el : n0 ≤ el) (E_x : Exa Z h0 x "java/lang/String") (E_dq : Exa Z h0 dq "java/util/ArrayDeque") (F_elements_dq : Fld Z h0 dq "java/util/ArrayDeque" "elements" "[Ljava/lang/Object;" (.ref el)) (F_head_dq : Fld Z h0 dq "java/util/ArrayDeque" "head" "I" (.int 0)) (F_tail_dq : Fld Z h0 dq "java/util/ArrayDeque" "tail" "I" (.int 0)) (V_el : Arv Z h0 el ke (.object "java/lang/Object") (17 : Int32) [.null, .null, .null, .null, .null, .null, .null, .null, .null, .null, .null, .null, .null, .null, .null, .null, .null] .null) (O_el : Ovr Z ke "java/lang/Object") :
    own_M l (⟨"java/util/ArrayDeque", "addFirst", "(Ljava/lang/Object;)V"⟩ : MethodName) jdk_21_method_12_code 3 none ws ({ frames := 1, cells := 0, slots := 0, locals := 15 } : Room) Z #[(.ref dq), (.ref x)] h0 (Q_addFirst_0 Z dq el x ke h0 n0) := by
  refine own_body (own := "java/util/ArrayDeque") rfl (plainFor_of_name pn_26) (fun m => ef_addFirst_0 m dq x) ?_
  intro p e s m below meth c s₁ Bd hml hZ hh hx hby hown X0 e0
  have N0 := Fr.nil n0
  have lt1 : h0.size > x := E_x.lt
  have lt2 : h0.size > dq := E_dq.lt
  have lt3 : h0.size > el := V_el.lt
  refine own_aloadN X0.here hx hby d26_0 rfl rfl ?_
  refine own_ifnonnullYes X0.here hx hby (pc' := 12) d26_1 (by decide) (by decide) ?_
  refine own_aloadN X0.here hx hby d26_12 rfl rfl ?_
  refine own_getF X0 hx hZ hown (host := "") (Or.inl (own_w hw 35 rfl)) Via.refl e0 F_elements_dq hby d26_13 ?_
  intro T4 X4 e4
  refine own_astoreN X4.here hx hby d26_16 rfl (l' := #[.val (.ref dq), .val (.ref x), .val (.ref el)]) rfl ?_
  refine own_aloadN X4.here hx hby d26_17 rfl rfl ?_
  refine own_aloadN X4.here hx hby d26_18 rfl rfl ?_
  refine own_aloadN X4.here hx hby d26_19 rfl rfl ?_
  refine own_getF X4 hx hZ hown (host := "") (Or.inl (own_w hw 165 rfl)) Via.refl e4 F_head_dq hby d26_20 ?_
  intro T5 X5 e5
  refine own_aloadN X5.here hx hby d26_23 rfl rfl ?_
  refine own_alen X5 hx hZ e5 V_el hby d26_24 ?_
  refine own_callS X5 hx hZ hown (own_w hw 167 rfl) (own_w hw 168 rfl) (own_w hw 22 rfl) (own_w hw 169 rfl) (by decide) (dec_0 l Z a0 hw []  h0 n0 Z0 ) 2 (Nat.le_of_eq rfl) (by decide) (by decide) (by rw [hml]; rfl) (argsL := [(.int 0), (.int 17)]) (st := [(.ref dq), (.ref el)]) (lenOf pd_14 rfl) rfl rfl (by decide) (by decide) e5 hby d26_25 ?_
  intro T6 v6 L6 X6 hQ6
  obtain ⟨rfl, Nq6, eh6⟩ := hQ6
  have N6 := Fr.app N0 Nq6
  refine own_sh (T := T6) 28 #[.val (.ref dq), .val (.ref x), .val (.ref el)] [(.int 16), (.ref dq), (.ref el)] ?_
  refine own_dupX1 X6.here hx hby d26_28 rfl rfl ?_
  refine own_putF X6 hx hZ (ty := .int) hown (host := "") (Or.inl (own_w hw 165 rfl)) Via.refl eh6 F_head_dq E_dq (Or.inl (own_w hw 166 rfl)) (own_w hw 21 rfl) (by decide) rfl rfl hby d26_29 N6 g_dq ?_
  intro T7 h7 lo7 X7 e7 N7 W7 F7 z7
  refine own_aloadN X7.here hx hby d26_32 rfl rfl ?_
  have f8 := (V_el.other W7 (Ne.symm (own_ne_oa E_dq (own_w hw 21 rfl) V_el)))
  have f10 := (E_x.wr W7)
  refine own_aastore X7 hx hZ e7 f8 rfl rfl (own_stoV f8 O_el (Ins.of_exa f10 (own_w hw 170 rfl))) ⟨by decide, by decide⟩ 16 (by decide) (Nat.le_of_ble_eq_true rfl) hby d26_33 N7 g_el ?_
  intro T9 h9 lo9 X9 e9 N9 W9 V9 z9
  have V11 : Arv Z h9 el ke (.object "java/lang/Object") (17 : Int32) [.null, .null, .null, .null, .null, .null, .null, .null, .null, .null, .null, .null, .null, .null, .null, .null, (.ref x)] .null := V9
  refine own_aloadN X9.here hx hby d26_34 rfl rfl ?_
  have f12 := (F7.other W9 (Or.inl (own_ne_oa E_dq (own_w hw 21 rfl) V_el)))
  refine own_getF X9 hx hZ hown (host := "") (Or.inl (own_w hw 165 rfl)) Via.refl e9 f12 hby d26_35 ?_
  intro T13 X13 e13
  refine own_aloadN X13.here hx hby d26_38 rfl rfl ?_
  have f14 := ((F_tail_dq.other W7 (Or.inr (slot_ne (Or.inl (own_w hw 172 rfl)) (Or.inl (own_w hw 166 rfl)) (by decide) (t := .int) (t' := .int) (by decide) (by decide)))).other W9 (Or.inl (own_ne_oa E_dq (own_w hw 21 rfl) V_el)))
  refine own_getF X13 hx hZ hown (host := "") (Or.inl (own_w hw 171 rfl)) Via.refl e13 f14 hby d26_39 ?_
  intro T15 X15 e15
  refine own_icmpYes X15.here hx hby (pc' := 50) d26_42 (feq (show ¬ ((16 : Int32) = (0 : Int32)) from (by decide))).2 (by decide) (by decide) ?_
  have K16 : Keep h0 h9 [dq, el] := (((Keep.refl h0 [dq, el]).wr W7 (Or.inl (List.mem_of_getElem? (i := 0) rfl))).wr W9 (Or.inl (List.mem_of_getElem? (i := 1) rfl)))
  have f17 := ((E_dq.wr W7).wr W9)
  have f18 := ((F_elements_dq.other W7 (Or.inr (slot_ne (Or.inl (own_w hw 36 rfl)) (Or.inl (own_w hw 166 rfl)) (by decide) (t := (.array (.object "java/lang/Object"))) (t' := .int) (by decide) (by decide)))).other W9 (Or.inl (own_ne_oa E_dq (own_w hw 21 rfl) V_el)))
  obtain ⟨fs, hr, hrun, hended, hW, hsame⟩ := X15.leave (v := none) (fun _ => rfl) Bd.notSynchronized
  refine own_ret (t := T15.setFrames fs) ?_ ⟨_, hrun, hended, _, _, rfl, ?_, ⟨_, rfl⟩, hW, hsame.mono (by decide) (by decide)⟩
  · exact X15.returnOut hx Bd.returns (hb hby d26_50) hr
  · show Q_addFirst_0 Z _ _ _ _ h0 n0 _ T15.heap _
    rw [e15]
    exact ⟨rfl, N9, K16, f17, f18, f12, f14, V11, O_el⟩
theorem ef_push_0 (m : MethodId) (x0 : Nat) (x1 : Nat) : entryFrame m #[(.ref x0), (.ref x1)] 2 = mkF m 0 #[.val (.ref x0), .val (.ref x1)] [] := by first | (simp [entryFrame, mkF, argsToLocals, Value.category]; done) | rfl
theorem pn_25 : plainName "java/util/ArrayDeque" = true := by first | (simp [plainName, overriddenIn]; done) | decide +kernel
theorem d25_0 : decode jdk_21_method_34_code 0 = .ok (.aload_n 0, 1) := by decide +kernel
theorem d25_1 : decode jdk_21_method_34_code 1 = .ok (.aload_n 1, 1) := by decide +kernel
theorem d25_2 : decode jdk_21_method_34_code 2 = .ok (.invokevirtual 86, 3) := by decide +kernel
theorem pd_15 : parseMethodDescriptor "(Ljava/lang/Object;)V" = some ⟨[(.object "java/lang/Object")], none⟩ := by decide +kernel
theorem d25_5 : decode jdk_21_method_34_code 5 = .ok (.return_, 1) := by decide +kernel
def Q_push_0 (Z : State) (dq : Nat) (el : Nat) (x : Nat) (ke : ClassId) (h0 : Heap) (n0 : Nat) (vR : Option Value) (hR : Heap) (LR : List Loc) : Prop := vR = none ∧ Fr n0 LR ∧ Keep h0 hR [dq, el] ∧ (Exa Z hR dq "java/util/ArrayDeque") ∧ (Fld Z hR dq "java/util/ArrayDeque" "elements" "[Ljava/lang/Object;" (.ref el)) ∧ (Fld Z hR dq "java/util/ArrayDeque" "head" "I" (.int 16)) ∧ (Fld Z hR dq "java/util/ArrayDeque" "tail" "I" (.int 0)) ∧ (Arv Z hR el ke (.object "java/lang/Object") (17 : Int32) [.null, .null, .null, .null, .null, .null, .null, .null, .null, .null, .null, .null, .null, .null, .null, .null, (.ref x)] .null) ∧ (Ovr Z ke "java/lang/Object")
set_option maxRecDepth 65536 in
set_option maxHeartbeats 40000000 in
theorem push_0 (l : Launch) (Z : State) (a0 : Array Value) (hw : ∀ d ∈ tables_1, d.before a0 Z = true) (ws : List Jvm.Cond) (dq : Nat) (el : Nat) (x : Nat) (ke : ClassId) (h0 : Heap) (n0 : Nat) (Z0 : n0 ≤ h0.size) (g_dq : n0 ≤ dq) (g_el : n0 ≤ el) (E_x : Exa Z h0 x "java/lang/String") (E_dq : Exa Z h0 dq "java/util/ArrayDeque") (F_elements_dq : Fld Z h0 dq "java/util/ArrayDeque" "elements" "[Ljava/lang/Object;" (.ref el)) (F_head_dq : Fld Z h0 dq "java/util/ArrayDeque" "head" "I" (.int 0)) (F_tail_dq : Fld Z h0 dq "java/util/ArrayDeque" "tail" "I" (.int 0)) (V_el : Arv Z h0 el ke (.object "java/lang/Object") (17 : Int32) [.null, .null, .null, .null, .null, .null, .null, .null, .null, .null, .null, .null, .null, .null, .null, .null, .null] .null) (O_el : Ovr Z ke "java/lang/Object") :
    own_M l (⟨"java/util/ArrayDeque", "push", "(Ljava/lang/Object;)V"⟩ : MethodName) jdk_21_method_34_code 2 none ws ({ frames := 2, cells := 0, slots := 0, locals := 29 } : Room) Z #[(.ref dq), (.ref x)] h0 (Q_push_0 Z dq el x ke h0 n0) := by
  refine own_body (own := "java/util/ArrayDeque") rfl (plainFor_of_name pn_25) (fun m => ef_push_0 m dq x) ?_
  intro p e s m below meth c s₁ Bd hml hZ hh hx hby hown X0 e0
  have N0 := Fr.nil n0
  have lt1 : h0.size > x := E_x.lt
  have lt2 : h0.size > dq := E_dq.lt
  have lt3 : h0.size > el := V_el.lt
  refine own_aloadN X0.here hx hby d25_0 rfl rfl ?_
  refine own_aloadN X0.here hx hby d25_1 rfl rfl ?_
  refine own_virtual X0 hx hZ hown (own_w hw 160 rfl) (own_w hw 161 rfl) (notFace_of_selects (args := #[]) (mvT hZ (own_w hw 163 rfl))) (own_w hw 163 rfl) (own_w hw 162 rfl) (own_w hw 22 rfl) (own_w hw 164 rfl) (by decide) (addFirst_0 l Z a0 hw [] dq el x ke h0 n0 Z0 g_dq g_el E_x E_dq F_elements_dq F_head_dq F_tail_dq V_el O_el) 0 (Nat.le_of_eq rfl) (by decide) (by decide) (by rw [hml]; rfl) (argsL := [(.ref x)]) (st := []) E_dq (lenOf pd_15 rfl) rfl rfl (by decide) (by decide) e0 hby d25_2 ?_
  intro T4 v4 L4 X4 hQ4
  obtain ⟨rfl, Nq4, K4, P4_0, P4_1, P4_2, P4_3, P4_4, P4_5⟩ := hQ4
  have N4 := Fr.app N0 Nq4
  have z5 : h0.size ≤ T4.heap.size := K4.1
  have lt6 : T4.heap.size > dq := P4_0.lt
  have lt7 : T4.heap.size > el := P4_4.lt
  refine own_sh (T := T4) 5 #[.val (.ref dq), .val (.ref x)] [] ?_
  have K8 : Keep h0 T4.heap [dq, el] := ((Keep.refl h0 [dq, el]).trans K4 (allS (P := fun xq_ => xq_ ∈ [dq, el] ∨ h0.size ≤ xq_) (Or.inl (List.mem_of_getElem? (i := 0) rfl)) (allS (P := fun xq_ => xq_ ∈ [dq, el] ∨ h0.size ≤ xq_) (Or.inl (List.mem_of_getElem? (i := 1) rfl)) all0)))
  obtain ⟨fs, hr, hrun, hended, hW, hsame⟩ := X4.leave (v := none) (fun _ => rfl) Bd.notSynchronized
  refine own_ret (t := T4.setFrames fs) ?_ ⟨_, hrun, hended, _, _, rfl, ?_, ⟨_, rfl⟩, hW, hsame.mono (by decide) (by decide)⟩
  · exact X4.returnOut hx Bd.returns (hb hby d25_5) hr
  · show Q_push_0 Z _ _ _ _ h0 n0 _ T4.heap _
    exact ⟨rfl, N4, K8, P4_0, P4_1, P4_2, P4_3, P4_4, P4_5⟩
def Q_addFirst_16 (Z : State) (dq : Nat) (el : Nat) (x : Nat) (y1 : Nat) (ke : ClassId) (h0 : Heap) (n0 : Nat) (vR : Option Value) (hR : Heap) (LR : List Loc) : Prop := vR = none ∧ Fr n0 LR ∧ Keep h0 hR [dq, el] ∧ (Exa Z hR dq "java/util/ArrayDeque") ∧ (Fld Z hR dq "java/util/ArrayDeque" "elements" "[Ljava/lang/Object;" (.ref el)) ∧ (Fld Z hR dq "java/util/ArrayDeque" "head" "I" (.int 15)) ∧ (Fld Z hR dq "java/util/ArrayDeque" "tail" "I" (.int 0)) ∧ (Arv Z hR el ke (.object "java/lang/Object") (17 : Int32) [.null, .null, .null, .null, .null, .null, .null, .null, .null, .null, .null, .null, .null, .null, .null, (.ref x), (.ref y1)] .null) ∧ (Ovr Z ke "java/lang/Object")
set_option maxRecDepth 65536 in
set_option maxHeartbeats 40000000 in
theorem addFirst_16 (l : Launch) (Z : State) (a0 : Array Value) (hw : ∀ d ∈ tables_1, d.before a0 Z = true) (ws : List Jvm.Cond) (dq : Nat) (el : Nat) (x : Nat) (y1 : Nat) (ke : ClassId) (h0 : Heap) (n0 : Nat) (Z0 : n0 ≤ h0.size) (g_dq : n0 ≤ dq) (g_el : n0 ≤ el) (E_x : Exa Z h0 x "java/lang/String") (E_dq : Exa Z h0 dq "java/util/ArrayDeque") (F_elements_dq : Fld Z h0 dq "java/util/ArrayDeque" "elements" "[Ljava/lang/Object;" (.ref el)) (F_head_dq : Fld Z h0 dq "java/util/ArrayDeque" "head" "I" (.int 16)) (F_tail_dq : Fld Z h0 dq "java/util/ArrayDeque" "tail" "I" (.int 0)) (V_el : Arv Z h0 el ke (.object "java/lang/Object") (17 : Int32) [.null, .null, .null, .null, .null, .null, .null, .null, .null, .null, .null, .null, .null, .null, .null, .null, (.ref y1)] .null) (O_el : Ovr Z ke "java/lang/Object") :
    own_M l (⟨"java/util/ArrayDeque", "addFirst", "(Ljava/lang/Object;)V"⟩ : MethodName) jdk_21_method_12_code 3 none ws ({ frames := 1, cells := 0, slots := 0, locals := 15 } : Room) Z #[(.ref dq), (.ref x)] h0 (Q_addFirst_16 Z dq el x y1 ke h0 n0) := by
  refine own_body (own := "java/util/ArrayDeque") rfl (plainFor_of_name pn_26) (fun m => ef_addFirst_0 m dq x) ?_
  intro p e s m below meth c s₁ Bd hml hZ hh hx hby hown X0 e0
  have N0 := Fr.nil n0
  have lt2 : h0.size > x := E_x.lt
  have lt3 : h0.size > dq := E_dq.lt
  have lt4 : h0.size > el := V_el.lt
  refine own_aloadN X0.here hx hby d26_0 rfl rfl ?_
  refine own_ifnonnullYes X0.here hx hby (pc' := 12) d26_1 (by decide) (by decide) ?_
  refine own_aloadN X0.here hx hby d26_12 rfl rfl ?_
  refine own_getF X0 hx hZ hown (host := "") (Or.inl (own_w hw 35 rfl)) Via.refl e0 F_elements_dq hby d26_13 ?_
  intro T5 X5 e5
  refine own_astoreN X5.here hx hby d26_16 rfl (l' := #[.val (.ref dq), .val (.ref x), .val (.ref el)]) rfl ?_
  refine own_aloadN X5.here hx hby d26_17 rfl rfl ?_
  refine own_aloadN X5.here hx hby d26_18 rfl rfl ?_
  refine own_aloadN X5.here hx hby d26_19 rfl rfl ?_
  refine own_getF X5 hx hZ hown (host := "") (Or.inl (own_w hw 165 rfl)) Via.refl e5 F_head_dq hby d26_20 ?_
  intro T6 X6 e6
  refine own_aloadN X6.here hx hby d26_23 rfl rfl ?_
  refine own_alen X6 hx hZ e6 V_el hby d26_24 ?_
  refine own_callS X6 hx hZ hown (own_w hw 167 rfl) (own_w hw 168 rfl) (own_w hw 22 rfl) (own_w hw 169 rfl) (by decide) (dec_16 l Z a0 hw []  h0 n0 Z0 ) 2 (Nat.le_of_eq rfl) (by decide) (by decide) (by rw [hml]; rfl) (argsL := [(.int 16), (.int 17)]) (st := [(.ref dq), (.ref el)]) (lenOf pd_14 rfl) rfl rfl (by decide) (by decide) e6 hby d26_25 ?_
  intro T7 v7 L7 X7 hQ7
  obtain ⟨rfl, Nq7, eh7⟩ := hQ7
  have N7 := Fr.app N0 Nq7
  refine own_sh (T := T7) 28 #[.val (.ref dq), .val (.ref x), .val (.ref el)] [(.int 15), (.ref dq), (.ref el)] ?_
  refine own_dupX1 X7.here hx hby d26_28 rfl rfl ?_
  refine own_putF X7 hx hZ (ty := .int) hown (host := "") (Or.inl (own_w hw 165 rfl)) Via.refl eh7 F_head_dq E_dq (Or.inl (own_w hw 166 rfl)) (own_w hw 21 rfl) (by decide) rfl rfl hby d26_29 N7 g_dq ?_
  intro T8 h8 lo8 X8 e8 N8 W8 F8 z8
  refine own_aloadN X8.here hx hby d26_32 rfl rfl ?_
  have f9 := (V_el.other W8 (Ne.symm (own_ne_oa E_dq (own_w hw 21 rfl) V_el)))
  have f11 := (E_x.wr W8)
  refine own_aastore X8 hx hZ e8 f9 rfl rfl (own_stoV f9 O_el (Ins.of_exa f11 (own_w hw 170 rfl))) ⟨by decide, by decide⟩ 15 (by decide) (Nat.le_of_ble_eq_true rfl) hby d26_33 N8 g_el ?_
  intro T10 h10 lo10 X10 e10 N10 W10 V10 z10
  have V12 : Arv Z h10 el ke (.object "java/lang/Object") (17 : Int32) [.null, .null, .null, .null, .null, .null, .null, .null, .null, .null, .null, .null, .null, .null, .null, (.ref x), (.ref y1)] .null := V10
  refine own_aloadN X10.here hx hby d26_34 rfl rfl ?_
  have f13 := (F8.other W10 (Or.inl (own_ne_oa E_dq (own_w hw 21 rfl) V_el)))
  refine own_getF X10 hx hZ hown (host := "") (Or.inl (own_w hw 165 rfl)) Via.refl e10 f13 hby d26_35 ?_
  intro T14 X14 e14
  refine own_aloadN X14.here hx hby d26_38 rfl rfl ?_
  have f15 := ((F_tail_dq.other W8 (Or.inr (slot_ne (Or.inl (own_w hw 172 rfl)) (Or.inl (own_w hw 166 rfl)) (by decide) (t := .int) (t' := .int) (by decide) (by decide)))).other W10 (Or.inl (own_ne_oa E_dq (own_w hw 21 rfl) V_el)))
  refine own_getF X14 hx hZ hown (host := "") (Or.inl (own_w hw 171 rfl)) Via.refl e14 f15 hby d26_39 ?_
  intro T16 X16 e16
  refine own_icmpYes X16.here hx hby (pc' := 50) d26_42 (feq (show ¬ ((15 : Int32) = (0 : Int32)) from (by decide))).2 (by decide) (by decide) ?_
  have K17 : Keep h0 h10 [dq, el] := (((Keep.refl h0 [dq, el]).wr W8 (Or.inl (List.mem_of_getElem? (i := 0) rfl))).wr W10 (Or.inl (List.mem_of_getElem? (i := 1) rfl)))
  have f18 := ((E_dq.wr W8).wr W10)
  have f19 := ((F_elements_dq.other W8 (Or.inr (slot_ne (Or.inl (own_w hw 36 rfl)) (Or.inl (own_w hw 166 rfl)) (by decide) (t := (.array (.object "java/lang/Object"))) (t' := .int) (by decide) (by decide)))).other W10 (Or.inl (own_ne_oa E_dq (own_w hw 21 rfl) V_el)))
  obtain ⟨fs, hr, hrun, hended, hW, hsame⟩ := X16.leave (v := none) (fun _ => rfl) Bd.notSynchronized
  refine own_ret (t := T16.setFrames fs) ?_ ⟨_, hrun, hended, _, _, rfl, ?_, ⟨_, rfl⟩, hW, hsame.mono (by decide) (by decide)⟩
  · exact X16.returnOut hx Bd.returns (hb hby d26_50) hr
  · show Q_addFirst_16 Z _ _ _ _ _ h0 n0 _ T16.heap _
    rw [e16]
    exact ⟨rfl, N10, K17, f18, f19, f13, f15, V12, O_el⟩
def Q_push_16 (Z : State) (dq : Nat) (el : Nat) (x : Nat) (y1 : Nat) (ke : ClassId) (h0 : Heap) (n0 : Nat) (vR : Option Value) (hR : Heap) (LR : List Loc) : Prop := vR = none ∧ Fr n0 LR ∧ Keep h0 hR [dq, el] ∧ (Exa Z hR dq "java/util/ArrayDeque") ∧ (Fld Z hR dq "java/util/ArrayDeque" "elements" "[Ljava/lang/Object;" (.ref el)) ∧ (Fld Z hR dq "java/util/ArrayDeque" "head" "I" (.int 15)) ∧ (Fld Z hR dq "java/util/ArrayDeque" "tail" "I" (.int 0)) ∧ (Arv Z hR el ke (.object "java/lang/Object") (17 : Int32) [.null, .null, .null, .null, .null, .null, .null, .null, .null, .null, .null, .null, .null, .null, .null, (.ref x), (.ref y1)] .null) ∧ (Ovr Z ke "java/lang/Object")
set_option maxRecDepth 65536 in
set_option maxHeartbeats 40000000 in
theorem push_16 (l : Launch) (Z : State) (a0 : Array Value) (hw : ∀ d ∈ tables_1, d.before a0 Z = true) (ws : List Jvm.Cond) (dq : Nat) (el : Nat) (x : Nat) (y1 : Nat) (ke : ClassId) (h0 : Heap) (n0 : Nat) (Z0 : n0 ≤ h0.size) (g_dq : n0 ≤ dq) (g_el : n0 ≤ el) (E_x : Exa Z h0 x "java/lang/String") (E_dq : Exa Z h0 dq "java/util/ArrayDeque") (F_elements_dq : Fld Z h0 dq "java/util/ArrayDeque" "elements" "[Ljava/lang/Object;" (.ref el)) (F_head_dq : Fld Z h0 dq "java/util/ArrayDeque" "head" "I" (.int 16)) (F_tail_dq : Fld Z h0 dq "java/util/ArrayDeque" "tail" "I" (.int 0)) (V_el : Arv Z h0 el ke (.object "java/lang/Object") (17 : Int32) [.null, .null, .null, .null, .null, .null, .null, .null, .null, .null, .null, .null, .null, .null, .null, .null, (.ref y1)] .null) (O_el : Ovr Z ke "java/lang/Object") :
    own_M l (⟨"java/util/ArrayDeque", "push", "(Ljava/lang/Object;)V"⟩ : MethodName) jdk_21_method_34_code 2 none ws ({ frames := 2, cells := 0, slots := 0, locals := 29 } : Room) Z #[(.ref dq), (.ref x)] h0 (Q_push_16 Z dq el x y1 ke h0 n0) := by
  refine own_body (own := "java/util/ArrayDeque") rfl (plainFor_of_name pn_25) (fun m => ef_push_0 m dq x) ?_
  intro p e s m below meth c s₁ Bd hml hZ hh hx hby hown X0 e0
  have N0 := Fr.nil n0
  have lt2 : h0.size > x := E_x.lt
  have lt3 : h0.size > dq := E_dq.lt
  have lt4 : h0.size > el := V_el.lt
  refine own_aloadN X0.here hx hby d25_0 rfl rfl ?_
  refine own_aloadN X0.here hx hby d25_1 rfl rfl ?_
  refine own_virtual X0 hx hZ hown (own_w hw 160 rfl) (own_w hw 161 rfl) (notFace_of_selects (args := #[]) (mvT hZ (own_w hw 163 rfl))) (own_w hw 163 rfl) (own_w hw 162 rfl) (own_w hw 22 rfl) (own_w hw 164 rfl) (by decide) (addFirst_16 l Z a0 hw [] dq el x y1 ke h0 n0 Z0 g_dq g_el E_x E_dq F_elements_dq F_head_dq F_tail_dq V_el O_el) 0 (Nat.le_of_eq rfl) (by decide) (by decide) (by rw [hml]; rfl) (argsL := [(.ref x)]) (st := []) E_dq (lenOf pd_15 rfl) rfl rfl (by decide) (by decide) e0 hby d25_2 ?_
  intro T5 v5 L5 X5 hQ5
  obtain ⟨rfl, Nq5, K5, P5_0, P5_1, P5_2, P5_3, P5_4, P5_5⟩ := hQ5
  have N5 := Fr.app N0 Nq5
  have z6 : h0.size ≤ T5.heap.size := K5.1
  have lt7 : T5.heap.size > dq := P5_0.lt
  have lt8 : T5.heap.size > el := P5_4.lt
  refine own_sh (T := T5) 5 #[.val (.ref dq), .val (.ref x)] [] ?_
  have K9 : Keep h0 T5.heap [dq, el] := ((Keep.refl h0 [dq, el]).trans K5 (allS (P := fun xq_ => xq_ ∈ [dq, el] ∨ h0.size ≤ xq_) (Or.inl (List.mem_of_getElem? (i := 0) rfl)) (allS (P := fun xq_ => xq_ ∈ [dq, el] ∨ h0.size ≤ xq_) (Or.inl (List.mem_of_getElem? (i := 1) rfl)) all0)))
  obtain ⟨fs, hr, hrun, hended, hW, hsame⟩ := X5.leave (v := none) (fun _ => rfl) Bd.notSynchronized
  refine own_ret (t := T5.setFrames fs) ?_ ⟨_, hrun, hended, _, _, rfl, ?_, ⟨_, rfl⟩, hW, hsame.mono (by decide) (by decide)⟩
  · exact X5.returnOut hx Bd.returns (hb hby d25_5) hr
  · show Q_push_16 Z _ _ _ _ _ h0 n0 _ T5.heap _
    exact ⟨rfl, N5, K9, P5_0, P5_1, P5_2, P5_3, P5_4, P5_5⟩
theorem ef_elAt_16 (m : MethodId) (x0 : Nat) (x1 : Int32) : entryFrame m #[(.ref x0), (.int x1)] 2 = mkF m 0 #[.val (.ref x0), .val (.int x1)] [] := by first | (simp [entryFrame, mkF, argsToLocals, Value.category]; done) | rfl
theorem pn_32 : plainName "java/util/ArrayDeque" = true := by first | (simp [plainName, overriddenIn]; done) | decide +kernel
theorem d32_0 : decode jdk_21_method_10_code 0 = .ok (.aload_n 0, 1) := by decide +kernel
theorem d32_1 : decode jdk_21_method_10_code 1 = .ok (.iload_n 1, 1) := by decide +kernel
theorem d32_2 : decode jdk_21_method_10_code 2 = .ok (.aaload, 1) := by decide +kernel
theorem d32_3 : decode jdk_21_method_10_code 3 = .ok (.areturn, 1) := by decide +kernel
def Q_elAt_16 (Z : State) (el : Nat) (y1 : Nat) (ke : ClassId) (h0 : Heap) (n0 : Nat) (vR : Option Value) (hR : Heap) (LR : List Loc) : Prop := vR = some (.ref y1) ∧ Fr n0 LR ∧ hR = h0
set_option maxRecDepth 65536 in
set_option maxHeartbeats 40000000 in
theorem elAt_16 (l : Launch) (Z : State) (a0 : Array Value) (hw : ∀ d ∈ tables_1, d.before a0 Z = true) (ws : List Jvm.Cond) (el : Nat) (y1 : Nat) (ke : ClassId) (h0 : Heap) (n0 : Nat) (Z0 : n0 ≤ h0.size) (V_el : Arv Z h0 el ke (.object "java/lang/Object") (17 : Int32) [.null, .null, .null, .null, .null, .null, .null, .null, .null, .null, .null, .null, .null, .null, .null, .null, (.ref y1)] .null) :
    own_M l (⟨"java/util/ArrayDeque", "elementAt", "([Ljava/lang/Object;I)Ljava/lang/Object;"⟩ : MethodName) jdk_21_method_10_code 2 (some (.object "java/lang/Object")) ws ({ frames := 0, cells := 0, slots := 0, locals := 0 } : Room) Z #[(.ref el), (.int 16)] h0 (Q_elAt_16 Z el y1 ke h0 n0) := by
  refine own_body (own := "java/util/ArrayDeque") rfl (plainFor_of_name pn_32) (fun m => ef_elAt_16 m el (16 : Int32)) ?_
  intro p e s m below meth c s₁ Bd hml hZ hh hx hby hown X0 e0
  have N0 := Fr.nil n0
  have lt2 : h0.size > el := V_el.lt
  refine own_aloadN X0.here hx hby d32_0 rfl rfl ?_
  refine own_iloadN X0.here hx hby d32_1 rfl ?_
  refine own_aaload X0 hx hZ e0 V_el rfl ⟨by decide, by decide⟩ (v := (.ref y1)) rfl hby d32_2 ?_
  obtain ⟨fs, hr, hrun, hended, hW, hsame⟩ := X0.leave (v := some (.ref y1)) (fun h => by rw [Bd.returns] at h; cases h) Bd.notSynchronized
  refine own_ret (t := s₁.setFrames fs) ?_ ⟨_, hrun, hended, _, _, rfl, ?_, ⟨_, rfl⟩, hW, hsame.mono (by decide) (by decide)⟩
  · exact retOut X0 hx Bd.returns rfl (Or.inr (Or.inr (Or.inr (Or.inr ⟨rfl, rfl, rfl⟩)))) (hb hby d32_3) hr
  · show Q_elAt_16 Z _ _ _ h0 n0 _ s₁.heap _
    rw [e0]
    exact ⟨rfl, N0, rfl⟩
theorem ef_pollF_16 (m : MethodId) (x0 : Nat) : entryFrame m #[(.ref x0)] 4 = mkF m 0 #[.val (.ref x0), .unset, .unset, .unset] [] := by first | (simp [entryFrame, mkF, argsToLocals, Value.category]; done) | rfl
theorem pn_31 : plainName "java/util/ArrayDeque" = true := by first | (simp [plainName, overriddenIn]; done) | decide +kernel
theorem d31_0 : decode jdk_21_method_20_code 0 = .ok (.aload_n 0, 1) := by decide +kernel
theorem d31_1 : decode jdk_21_method_20_code 1 = .ok (.getfield 3, 3) := by decide +kernel
theorem d31_4 : decode jdk_21_method_20_code 4 = .ok (.dup, 1) := by decide +kernel
theorem d31_5 : decode jdk_21_method_20_code 5 = .ok (.astore_n 1, 1) := by decide +kernel
theorem d31_6 : decode jdk_21_method_20_code 6 = .ok (.aload_n 0, 1) := by decide +kernel
theorem d31_7 : decode jdk_21_method_20_code 7 = .ok (.getfield 24, 3) := by decide +kernel
theorem d31_10 : decode jdk_21_method_20_code 10 = .ok (.dup, 1) := by decide +kernel
theorem d31_11 : decode jdk_21_method_20_code 11 = .ok (.istore_n 2, 1) := by decide +kernel
theorem d31_12 : decode jdk_21_method_20_code 12 = .ok (.invokestatic 103, 3) := by decide +kernel
theorem pd_16 : parseMethodDescriptor "([Ljava/lang/Object;I)Ljava/lang/Object;" = some ⟨[(.array (.object "java/lang/Object")), .int], some (.object "java/lang/Object")⟩ := by decide +kernel
theorem d31_15 : decode jdk_21_method_20_code 15 = .ok (.astore_n 3, 1) := by decide +kernel
theorem d31_16 : decode jdk_21_method_20_code 16 = .ok (.aload_n 3, 1) := by decide +kernel
theorem d31_17 : decode jdk_21_method_20_code 17 = .ok (.ifnull 17, 3) := by decide +kernel
theorem d31_20 : decode jdk_21_method_20_code 20 = .ok (.aload_n 1, 1) := by decide +kernel
theorem d31_21 : decode jdk_21_method_20_code 21 = .ok (.iload_n 2, 1) := by decide +kernel
theorem d31_22 : decode jdk_21_method_20_code 22 = .ok (.aconst_null, 1) := by decide +kernel
theorem d31_23 : decode jdk_21_method_20_code 23 = .ok (.aastore, 1) := by decide +kernel
theorem d31_24 : decode jdk_21_method_20_code 24 = .ok (.aload_n 0, 1) := by decide +kernel
theorem d31_25 : decode jdk_21_method_20_code 25 = .ok (.iload_n 2, 1) := by decide +kernel
theorem d31_26 : decode jdk_21_method_20_code 26 = .ok (.aload_n 1, 1) := by decide +kernel
theorem d31_27 : decode jdk_21_method_20_code 27 = .ok (.arraylength, 1) := by decide +kernel
theorem d31_28 : decode jdk_21_method_20_code 28 = .ok (.invokestatic 74, 3) := by decide +kernel
theorem d31_31 : decode jdk_21_method_20_code 31 = .ok (.putfield 24, 3) := by decide +kernel
theorem d31_34 : decode jdk_21_method_20_code 34 = .ok (.aload_n 3, 1) := by decide +kernel
theorem d31_35 : decode jdk_21_method_20_code 35 = .ok (.areturn, 1) := by decide +kernel
def Q_pollF_16 (Z : State) (dq : Nat) (el : Nat) (y1 : Nat) (ke : ClassId) (h0 : Heap) (n0 : Nat) (vR : Option Value) (hR : Heap) (LR : List Loc) : Prop := vR = some (.ref y1) ∧ Fr n0 LR ∧ Keep h0 hR [dq, el] ∧ (Exa Z hR dq "java/util/ArrayDeque") ∧ (Fld Z hR dq "java/util/ArrayDeque" "elements" "[Ljava/lang/Object;" (.ref el)) ∧ (Fld Z hR dq "java/util/ArrayDeque" "head" "I" (.int 0)) ∧ (Fld Z hR dq "java/util/ArrayDeque" "tail" "I" (.int 0)) ∧ (Arv Z hR el ke (.object "java/lang/Object") (17 : Int32) [.null, .null, .null, .null, .null, .null, .null, .null, .null, .null, .null, .null, .null, .null, .null, .null, .null] .null) ∧ (Ovr Z ke "java/lang/Object")
set_option maxRecDepth 65536 in
set_option maxHeartbeats 40000000 in
theorem pollF_16 (l : Launch) (Z : State) (a0 : Array Value) (hw : ∀ d ∈ tables_1, d.before a0 Z = true) (ws : List Jvm.Cond) (dq : Nat) (el : Nat) (y1 : Nat) (ke : ClassId) (h0 : Heap) (n0 : Nat) (Z0 : n0 ≤ h0.size) (g_dq : n0 ≤ dq) (g_el : n0 ≤ el) (E_dq : Exa Z h0 dq "java/util/ArrayDeque") (F_elements_dq : Fld Z h0 dq "java/util/ArrayDeque" "elements" "[Ljava/lang/Object;" (.ref el)) (F_head_dq : Fld Z h0 dq "java/util/ArrayDeque" "head" "I" (.int 16)) (F_tail_dq : Fld Z h0 dq "java/util/ArrayDeque" "tail" "I" (.int 0)) (V_el : Arv Z h0 el ke (.object "java/lang/Object") (17 : Int32) [.null, .null, .null, .null, .null, .null, .null, .null, .null, .null, .null, .null, .null, .null, .null, .null, (.ref y1)] .null) (O_el : Ovr Z ke "java/lang/Object") :
    own_M l (⟨"java/util/ArrayDeque", "pollFirst", "()Ljava/lang/Object;"⟩ : MethodName) jdk_21_method_20_code 4 (some (.object "java/lang/Object")) ws ({ frames := 1, cells := 0, slots := 0, locals := 14 } : Room) Z #[(.ref dq)] h0 (Q_pollF_16 Z dq el y1 ke h0 n0) := by
  refine own_body (own := "java/util/ArrayDeque") rfl (plainFor_of_name pn_31) (fun m => ef_pollF_16 m dq) ?_
  intro p e s m below meth c s₁ Bd hml hZ hh hx hby hown X0 e0
  have N0 := Fr.nil n0
  have lt2 : h0.size > dq := E_dq.lt
  have lt3 : h0.size > el := V_el.lt
  refine own_aloadN X0.here hx hby d31_0 rfl rfl ?_
  refine own_getF X0 hx hZ hown (host := "") (Or.inl (own_w hw 35 rfl)) Via.refl e0 F_elements_dq hby d31_1 ?_
  intro T4 X4 e4
  refine own_dup X4.here hx hby d31_4 rfl ?_
  refine own_astoreN X4.here hx hby d31_5 rfl (l' := #[.val (.ref dq), .val (.ref el), .unset, .unset]) rfl ?_
  refine own_aloadN X4.here hx hby d31_6 rfl rfl ?_
  refine own_getF X4 hx hZ hown (host := "") (Or.inl (own_w hw 165 rfl)) Via.refl e4 F_head_dq hby d31_7 ?_
  intro T5 X5 e5
  refine own_dup X5.here hx hby d31_10 rfl ?_
  refine own_istoreN X5.here hx hby d31_11 (l' := #[.val (.ref dq), .val (.ref el), .val (.int 16), .unset]) rfl ?_
  refine own_callS X5 hx hZ hown (own_w hw 197 rfl) (own_w hw 198 rfl) (own_w hw 22 rfl) (own_w hw 199 rfl) (by decide) (elAt_16 l Z a0 hw [] el y1 ke h0 n0 Z0 V_el) 0 (Nat.le_of_eq rfl) (by decide) (by decide) (by rw [hml]; rfl) (argsL := [(.ref el), (.int 16)]) (st := []) (lenOf pd_16 rfl) rfl rfl (by decide) (by decide) e5 hby d31_12 ?_
  intro T6 v6 L6 X6 hQ6
  obtain ⟨rfl, Nq6, eh6⟩ := hQ6
  have N6 := Fr.app N0 Nq6
  refine own_sh (T := T6) 15 #[.val (.ref dq), .val (.ref el), .val (.int 16), .unset] [(.ref y1)] ?_
  refine own_astoreN X6.here hx hby d31_15 rfl (l' := #[.val (.ref dq), .val (.ref el), .val (.int 16), .val (.ref y1)]) rfl ?_
  refine own_aloadN X6.here hx hby d31_16 rfl rfl ?_
  refine own_ifnullNo X6.here hx hby d31_17 ?_
  refine own_aloadN X6.here hx hby d31_20 rfl rfl ?_
  refine own_iloadN X6.here hx hby d31_21 rfl ?_
  refine own_aconstNull X6.here hx hby d31_22 ?_
  refine own_aastore X6 hx hZ eh6 V_el rfl rfl (Or.inl rfl) ⟨by decide, by decide⟩ 16 (by decide) (Nat.le_of_ble_eq_true rfl) hby d31_23 N6 g_el ?_
  intro T7 h7 lo7 X7 e7 N7 W7 V7 z7
  have V8 : Arv Z h7 el ke (.object "java/lang/Object") (17 : Int32) [.null, .null, .null, .null, .null, .null, .null, .null, .null, .null, .null, .null, .null, .null, .null, .null, .null] .null := V7
  refine own_aloadN X7.here hx hby d31_24 rfl rfl ?_
  refine own_iloadN X7.here hx hby d31_25 rfl ?_
  refine own_aloadN X7.here hx hby d31_26 rfl rfl ?_
  refine own_alen X7 hx hZ e7 V8 hby d31_27 ?_
  have z10 : n0 ≤ h7.size := by omega
  refine own_callS X7 hx hZ hown (own_w hw 200 rfl) (own_w hw 201 rfl) (own_w hw 22 rfl) (own_w hw 202 rfl) (by decide) (inc_16 l Z a0 hw []  h7 n0 z10 ) 1 (Nat.le_of_eq rfl) (by decide) (by decide) (by rw [hml]; rfl) (argsL := [(.int 16), (.int 17)]) (st := [(.ref dq)]) (lenOf pd_14 rfl) rfl rfl (by decide) (by decide) e7 hby d31_28 ?_
  intro T9 v9 L9 X9 hQ9
  obtain ⟨rfl, Nq9, eh9⟩ := hQ9
  have N9 := Fr.app N7 Nq9
  refine own_sh (T := T9) 31 #[.val (.ref dq), .val (.ref el), .val (.int 16), .val (.ref y1)] [(.int 0), (.ref dq)] ?_
  have f11 := (E_dq.wr W7)
  have f12 := (F_head_dq.other W7 (Or.inl (own_ne_oa E_dq (own_w hw 21 rfl) V_el)))
  refine own_putF X9 hx hZ (ty := .int) hown (host := "") (Or.inl (own_w hw 165 rfl)) Via.refl eh9 f12 f11 (Or.inl (own_w hw 166 rfl)) (own_w hw 21 rfl) (by decide) rfl rfl hby d31_31 N9 g_dq ?_
  intro T13 h13 lo13 X13 e13 N13 W13 F13 z13
  refine own_aloadN X13.here hx hby d31_34 rfl rfl ?_
  have K14 : Keep h0 h13 [dq, el] := (((Keep.refl h0 [dq, el]).wr W7 (Or.inl (List.mem_of_getElem? (i := 1) rfl))).wr W13 (Or.inl (List.mem_of_getElem? (i := 0) rfl)))
  have f15 := (f11.wr W13)
  have f16 := ((F_elements_dq.other W7 (Or.inl (own_ne_oa E_dq (own_w hw 21 rfl) V_el))).other W13 (Or.inr (slot_ne (Or.inl (own_w hw 36 rfl)) (Or.inl (own_w hw 166 rfl)) (by decide) (t := (.array (.object "java/lang/Object"))) (t' := .int) (by decide) (by decide))))
  have f17 := ((F_tail_dq.other W7 (Or.inl (own_ne_oa E_dq (own_w hw 21 rfl) V_el))).other W13 (Or.inr (slot_ne (Or.inl (own_w hw 172 rfl)) (Or.inl (own_w hw 166 rfl)) (by decide) (t := .int) (t' := .int) (by decide) (by decide))))
  have f18 := (V8.other W13 (Ne.symm (own_ne_oa E_dq (own_w hw 21 rfl) V_el)))
  obtain ⟨fs, hr, hrun, hended, hW, hsame⟩ := X13.leave (v := some (.ref y1)) (fun h => by rw [Bd.returns] at h; cases h) Bd.notSynchronized
  refine own_ret (t := T13.setFrames fs) ?_ ⟨_, hrun, hended, _, _, rfl, ?_, ⟨_, rfl⟩, hW, hsame.mono (by decide) (by decide)⟩
  · exact retOut X13 hx Bd.returns rfl (Or.inr (Or.inr (Or.inr (Or.inr ⟨rfl, rfl, rfl⟩)))) (hb hby d31_35) hr
  · show Q_pollF_16 Z _ _ _ _ h0 n0 _ T13.heap _
    rw [e13]
    exact ⟨rfl, N13, K14, f15, f16, F13, f17, f18, O_el⟩
theorem ef_remF_16 (m : MethodId) (x0 : Nat) : entryFrame m #[(.ref x0)] 2 = mkF m 0 #[.val (.ref x0), .unset] [] := by first | (simp [entryFrame, mkF, argsToLocals, Value.category]; done) | rfl
theorem pn_30 : plainName "java/util/ArrayDeque" = true := by first | (simp [plainName, overriddenIn]; done) | decide +kernel
theorem d30_0 : decode jdk_21_method_18_code 0 = .ok (.aload_n 0, 1) := by decide +kernel
theorem d30_1 : decode jdk_21_method_18_code 1 = .ok (.invokevirtual 93, 3) := by decide +kernel
theorem pd_17 : parseMethodDescriptor "()Ljava/lang/Object;" = some ⟨[], some (.object "java/lang/Object")⟩ := by decide +kernel
theorem d30_4 : decode jdk_21_method_18_code 4 = .ok (.astore_n 1, 1) := by decide +kernel
theorem d30_5 : decode jdk_21_method_18_code 5 = .ok (.aload_n 1, 1) := by decide +kernel
theorem d30_6 : decode jdk_21_method_18_code 6 = .ok (.ifnonnull 11, 3) := by decide +kernel
theorem d30_17 : decode jdk_21_method_18_code 17 = .ok (.aload_n 1, 1) := by decide +kernel
theorem d30_18 : decode jdk_21_method_18_code 18 = .ok (.areturn, 1) := by decide +kernel
def Q_remF_16 (Z : State) (dq : Nat) (el : Nat) (y1 : Nat) (ke : ClassId) (h0 : Heap) (n0 : Nat) (vR : Option Value) (hR : Heap) (LR : List Loc) : Prop := vR = some (.ref y1) ∧ Fr n0 LR ∧ Keep h0 hR [dq, el] ∧ (Exa Z hR dq "java/util/ArrayDeque") ∧ (Fld Z hR dq "java/util/ArrayDeque" "elements" "[Ljava/lang/Object;" (.ref el)) ∧ (Fld Z hR dq "java/util/ArrayDeque" "head" "I" (.int 0)) ∧ (Fld Z hR dq "java/util/ArrayDeque" "tail" "I" (.int 0)) ∧ (Arv Z hR el ke (.object "java/lang/Object") (17 : Int32) [.null, .null, .null, .null, .null, .null, .null, .null, .null, .null, .null, .null, .null, .null, .null, .null, .null] .null) ∧ (Ovr Z ke "java/lang/Object")
set_option maxRecDepth 65536 in
set_option maxHeartbeats 40000000 in
theorem remF_16 (l : Launch) (Z : State) (a0 : Array Value) (hw : ∀ d ∈ tables_1, d.before a0 Z = true) (ws : List Jvm.Cond) (dq : Nat) (el : Nat) (y1 : Nat) (ke : ClassId) (h0 : Heap) (n0 : Nat) (Z0 : n0 ≤ h0.size) (g_dq : n0 ≤ dq) (g_el : n0 ≤ el) (E_dq : Exa Z h0 dq "java/util/ArrayDeque") (F_elements_dq : Fld Z h0 dq "java/util/ArrayDeque" "elements" "[Ljava/lang/Object;" (.ref el)) (F_head_dq : Fld Z h0 dq "java/util/ArrayDeque" "head" "I" (.int 16)) (F_tail_dq : Fld Z h0 dq "java/util/ArrayDeque" "tail" "I" (.int 0)) (V_el : Arv Z h0 el ke (.object "java/lang/Object") (17 : Int32) [.null, .null, .null, .null, .null, .null, .null, .null, .null, .null, .null, .null, .null, .null, .null, .null, (.ref y1)] .null) (O_el : Ovr Z ke "java/lang/Object") :
    own_M l (⟨"java/util/ArrayDeque", "removeFirst", "()Ljava/lang/Object;"⟩ : MethodName) jdk_21_method_18_code 2 (some (.object "java/lang/Object")) ws ({ frames := 2, cells := 0, slots := 0, locals := 29 } : Room) Z #[(.ref dq)] h0 (Q_remF_16 Z dq el y1 ke h0 n0) := by
  refine own_body (own := "java/util/ArrayDeque") rfl (plainFor_of_name pn_30) (fun m => ef_remF_16 m dq) ?_
  intro p e s m below meth c s₁ Bd hml hZ hh hx hby hown X0 e0
  have N0 := Fr.nil n0
  have lt2 : h0.size > dq := E_dq.lt
  have lt3 : h0.size > el := V_el.lt
  refine own_aloadN X0.here hx hby d30_0 rfl rfl ?_
  refine own_virtual X0 hx hZ hown (own_w hw 192 rfl) (own_w hw 193 rfl) (notFace_of_selects (args := #[]) (mvT hZ (own_w hw 195 rfl))) (own_w hw 195 rfl) (own_w hw 194 rfl) (own_w hw 22 rfl) (own_w hw 196 rfl) (by decide) (pollF_16 l Z a0 hw [] dq el y1 ke h0 n0 Z0 g_dq g_el E_dq F_elements_dq F_head_dq F_tail_dq V_el O_el) 0 (Nat.le_of_eq rfl) (by decide) (by decide) (by rw [hml]; rfl) (argsL := []) (st := []) E_dq (lenOf pd_17 rfl) rfl rfl (by decide) (by decide) e0 hby d30_1 ?_
  intro T4 v4 L4 X4 hQ4
  obtain ⟨rfl, Nq4, K4, P4_0, P4_1, P4_2, P4_3, P4_4, P4_5⟩ := hQ4
  have N4 := Fr.app N0 Nq4
  have z5 : h0.size ≤ T4.heap.size := K4.1
  have lt6 : T4.heap.size > dq := P4_0.lt
  have lt7 : T4.heap.size > el := P4_4.lt
  refine own_sh (T := T4) 4 #[.val (.ref dq), .unset] [(.ref y1)] ?_
  refine own_astoreN X4.here hx hby d30_4 rfl (l' := #[.val (.ref dq), .val (.ref y1)]) rfl ?_
  refine own_aloadN X4.here hx hby d30_5 rfl rfl ?_
  refine own_ifnonnullYes X4.here hx hby (pc' := 17) d30_6 (by decide) (by decide) ?_
  refine own_aloadN X4.here hx hby d30_17 rfl rfl ?_
  have K8 : Keep h0 T4.heap [dq, el] := ((Keep.refl h0 [dq, el]).trans K4 (allS (P := fun xq_ => xq_ ∈ [dq, el] ∨ h0.size ≤ xq_) (Or.inl (List.mem_of_getElem? (i := 0) rfl)) (allS (P := fun xq_ => xq_ ∈ [dq, el] ∨ h0.size ≤ xq_) (Or.inl (List.mem_of_getElem? (i := 1) rfl)) all0)))
  obtain ⟨fs, hr, hrun, hended, hW, hsame⟩ := X4.leave (v := some (.ref y1)) (fun h => by rw [Bd.returns] at h; cases h) Bd.notSynchronized
  refine own_ret (t := T4.setFrames fs) ?_ ⟨_, hrun, hended, _, _, rfl, ?_, ⟨_, rfl⟩, hW, hsame.mono (by decide) (by decide)⟩
  · exact retOut X4 hx Bd.returns rfl (Or.inr (Or.inr (Or.inr (Or.inr ⟨rfl, rfl, rfl⟩)))) (hb hby d30_18) hr
  · show Q_remF_16 Z _ _ _ _ h0 n0 _ T4.heap _
    exact ⟨rfl, N4, K8, P4_0, P4_1, P4_2, P4_3, P4_4, P4_5⟩
theorem ef_pop_16 (m : MethodId) (x0 : Nat) : entryFrame m #[(.ref x0)] 1 = mkF m 0 #[.val (.ref x0)] [] := by first | (simp [entryFrame, mkF, argsToLocals, Value.category]; done) | rfl
theorem pn_29 : plainName "java/util/ArrayDeque" = true := by first | (simp [plainName, overriddenIn]; done) | decide +kernel
theorem d29_0 : decode jdk_21_method_35_code 0 = .ok (.aload_n 0, 1) := by decide +kernel
theorem d29_1 : decode jdk_21_method_35_code 1 = .ok (.invokevirtual 118, 3) := by decide +kernel
theorem d29_4 : decode jdk_21_method_35_code 4 = .ok (.areturn, 1) := by decide +kernel
def Q_pop_16 (Z : State) (dq : Nat) (el : Nat) (y1 : Nat) (ke : ClassId) (h0 : Heap) (n0 : Nat) (vR : Option Value) (hR : Heap) (LR : List Loc) : Prop := vR = some (.ref y1) ∧ Fr n0 LR ∧ Keep h0 hR [dq, el] ∧ (Exa Z hR dq "java/util/ArrayDeque") ∧ (Fld Z hR dq "java/util/ArrayDeque" "elements" "[Ljava/lang/Object;" (.ref el)) ∧ (Fld Z hR dq "java/util/ArrayDeque" "head" "I" (.int 0)) ∧ (Fld Z hR dq "java/util/ArrayDeque" "tail" "I" (.int 0)) ∧ (Arv Z hR el ke (.object "java/lang/Object") (17 : Int32) [.null, .null, .null, .null, .null, .null, .null, .null, .null, .null, .null, .null, .null, .null, .null, .null, .null] .null) ∧ (Ovr Z ke "java/lang/Object")
set_option maxRecDepth 65536 in
set_option maxHeartbeats 40000000 in
theorem pop_16 (l : Launch) (Z : State) (a0 : Array Value) (hw : ∀ d ∈ tables_1, d.before a0 Z = true) (ws : List Jvm.Cond) (dq : Nat) (el : Nat) (y1 : Nat) (ke : ClassId) (h0 : Heap) (n0 : Nat) (Z0 : n0 ≤ h0.size) (g_dq : n0 ≤ dq) (g_el : n0 ≤ el) (E_dq : Exa Z h0 dq "java/util/ArrayDeque") (F_elements_dq : Fld Z h0 dq "java/util/ArrayDeque" "elements" "[Ljava/lang/Object;" (.ref el)) (F_head_dq : Fld Z h0 dq "java/util/ArrayDeque" "head" "I" (.int 16)) (F_tail_dq : Fld Z h0 dq "java/util/ArrayDeque" "tail" "I" (.int 0)) (V_el : Arv Z h0 el ke (.object "java/lang/Object") (17 : Int32) [.null, .null, .null, .null, .null, .null, .null, .null, .null, .null, .null, .null, .null, .null, .null, .null, (.ref y1)] .null) (O_el : Ovr Z ke "java/lang/Object") :
    own_M l (⟨"java/util/ArrayDeque", "pop", "()Ljava/lang/Object;"⟩ : MethodName) jdk_21_method_35_code 1 (some (.object "java/lang/Object")) ws ({ frames := 3, cells := 0, slots := 0, locals := 42 } : Room) Z #[(.ref dq)] h0 (Q_pop_16 Z dq el y1 ke h0 n0) := by
  refine own_body (own := "java/util/ArrayDeque") rfl (plainFor_of_name pn_29) (fun m => ef_pop_16 m dq) ?_
  intro p e s m below meth c s₁ Bd hml hZ hh hx hby hown X0 e0
  have N0 := Fr.nil n0
  have lt2 : h0.size > dq := E_dq.lt
  have lt3 : h0.size > el := V_el.lt
  refine own_aloadN X0.here hx hby d29_0 rfl rfl ?_
  refine own_virtual X0 hx hZ hown (own_w hw 187 rfl) (own_w hw 188 rfl) (notFace_of_selects (args := #[]) (mvT hZ (own_w hw 190 rfl))) (own_w hw 190 rfl) (own_w hw 189 rfl) (own_w hw 22 rfl) (own_w hw 191 rfl) (by decide) (remF_16 l Z a0 hw [] dq el y1 ke h0 n0 Z0 g_dq g_el E_dq F_elements_dq F_head_dq F_tail_dq V_el O_el) 0 (Nat.le_of_eq rfl) (by decide) (by decide) (by rw [hml]; rfl) (argsL := []) (st := []) E_dq (lenOf pd_17 rfl) rfl rfl (by decide) (by decide) e0 hby d29_1 ?_
  intro T4 v4 L4 X4 hQ4
  obtain ⟨rfl, Nq4, K4, P4_0, P4_1, P4_2, P4_3, P4_4, P4_5⟩ := hQ4
  have N4 := Fr.app N0 Nq4
  have z5 : h0.size ≤ T4.heap.size := K4.1
  have lt6 : T4.heap.size > dq := P4_0.lt
  have lt7 : T4.heap.size > el := P4_4.lt
  refine own_sh (T := T4) 4 #[.val (.ref dq)] [(.ref y1)] ?_
  have K8 : Keep h0 T4.heap [dq, el] := ((Keep.refl h0 [dq, el]).trans K4 (allS (P := fun xq_ => xq_ ∈ [dq, el] ∨ h0.size ≤ xq_) (Or.inl (List.mem_of_getElem? (i := 0) rfl)) (allS (P := fun xq_ => xq_ ∈ [dq, el] ∨ h0.size ≤ xq_) (Or.inl (List.mem_of_getElem? (i := 1) rfl)) all0)))
  obtain ⟨fs, hr, hrun, hended, hW, hsame⟩ := X4.leave (v := some (.ref y1)) (fun h => by rw [Bd.returns] at h; cases h) Bd.notSynchronized
  refine own_ret (t := T4.setFrames fs) ?_ ⟨_, hrun, hended, _, _, rfl, ?_, ⟨_, rfl⟩, hW, hsame.mono (by decide) (by decide)⟩
  · exact retOut X4 hx Bd.returns rfl (Or.inr (Or.inr (Or.inr (Or.inr ⟨rfl, rfl, rfl⟩)))) (hb hby d29_4) hr
  · show Q_pop_16 Z _ _ _ _ h0 n0 _ T4.heap _
    exact ⟨rfl, N4, K8, P4_0, P4_1, P4_2, P4_3, P4_4, P4_5⟩
def Q_elAt_15 (Z : State) (el : Nat) (y2 : Nat) (y1 : Nat) (ke : ClassId) (h0 : Heap) (n0 : Nat) (vR : Option Value) (hR : Heap) (LR : List Loc) : Prop := vR = some (.ref y2) ∧ Fr n0 LR ∧ hR = h0
set_option maxRecDepth 65536 in
set_option maxHeartbeats 40000000 in
theorem elAt_15 (l : Launch) (Z : State) (a0 : Array Value) (hw : ∀ d ∈ tables_1, d.before a0 Z = true) (ws : List Jvm.Cond) (el : Nat) (y2 : Nat) (y1 : Nat) (ke : ClassId) (h0 : Heap) (n0 : Nat) (Z0 : n0 ≤ h0.size) (V_el : Arv Z h0 el ke (.object "java/lang/Object") (17 : Int32) [.null, .null, .null, .null, .null, .null, .null, .null, .null, .null, .null, .null, .null, .null, .null, (.ref y2), (.ref y1)] .null) :
    own_M l (⟨"java/util/ArrayDeque", "elementAt", "([Ljava/lang/Object;I)Ljava/lang/Object;"⟩ : MethodName) jdk_21_method_10_code 2 (some (.object "java/lang/Object")) ws ({ frames := 0, cells := 0, slots := 0, locals := 0 } : Room) Z #[(.ref el), (.int 15)] h0 (Q_elAt_15 Z el y2 y1 ke h0 n0) := by
  refine own_body (own := "java/util/ArrayDeque") rfl (plainFor_of_name pn_32) (fun m => ef_elAt_16 m el (15 : Int32)) ?_
  intro p e s m below meth c s₁ Bd hml hZ hh hx hby hown X0 e0
  have N0 := Fr.nil n0
  have lt3 : h0.size > el := V_el.lt
  refine own_aloadN X0.here hx hby d32_0 rfl rfl ?_
  refine own_iloadN X0.here hx hby d32_1 rfl ?_
  refine own_aaload X0 hx hZ e0 V_el rfl ⟨by decide, by decide⟩ (v := (.ref y2)) rfl hby d32_2 ?_
  obtain ⟨fs, hr, hrun, hended, hW, hsame⟩ := X0.leave (v := some (.ref y2)) (fun h => by rw [Bd.returns] at h; cases h) Bd.notSynchronized
  refine own_ret (t := s₁.setFrames fs) ?_ ⟨_, hrun, hended, _, _, rfl, ?_, ⟨_, rfl⟩, hW, hsame.mono (by decide) (by decide)⟩
  · exact retOut X0 hx Bd.returns rfl (Or.inr (Or.inr (Or.inr (Or.inr ⟨rfl, rfl, rfl⟩)))) (hb hby d32_3) hr
  · show Q_elAt_15 Z _ _ _ _ h0 n0 _ s₁.heap _
    rw [e0]
    exact ⟨rfl, N0, rfl⟩
def Q_pollF_15 (Z : State) (dq : Nat) (el : Nat) (y2 : Nat) (y1 : Nat) (ke : ClassId) (h0 : Heap) (n0 : Nat) (vR : Option Value) (hR : Heap) (LR : List Loc) : Prop := vR = some (.ref y2) ∧ Fr n0 LR ∧ Keep h0 hR [dq, el] ∧ (Exa Z hR dq "java/util/ArrayDeque") ∧ (Fld Z hR dq "java/util/ArrayDeque" "elements" "[Ljava/lang/Object;" (.ref el)) ∧ (Fld Z hR dq "java/util/ArrayDeque" "head" "I" (.int 16)) ∧ (Fld Z hR dq "java/util/ArrayDeque" "tail" "I" (.int 0)) ∧ (Arv Z hR el ke (.object "java/lang/Object") (17 : Int32) [.null, .null, .null, .null, .null, .null, .null, .null, .null, .null, .null, .null, .null, .null, .null, .null, (.ref y1)] .null) ∧ (Ovr Z ke "java/lang/Object")
set_option maxRecDepth 65536 in
set_option maxHeartbeats 40000000 in
theorem pollF_15 (l : Launch) (Z : State) (a0 : Array Value) (hw : ∀ d ∈ tables_1, d.before a0 Z = true) (ws : List Jvm.Cond) (dq : Nat) (el : Nat) (y2 : Nat) (y1 : Nat) (ke : ClassId) (h0 : Heap) (n0 : Nat) (Z0 : n0 ≤ h0.size) (g_dq : n0 ≤ dq) (g_el : n0 ≤ el) (E_dq : Exa Z h0 dq "java/util/ArrayDeque") (F_elements_dq : Fld Z h0 dq "java/util/ArrayDeque" "elements" "[Ljava/lang/Object;" (.ref el)) (F_head_dq : Fld Z h0 dq "java/util/ArrayDeque" "head" "I" (.int 15)) (F_tail_dq : Fld Z h0 dq "java/util/ArrayDeque" "tail" "I" (.int 0)) (V_el : Arv Z h0 el ke (.object "java/lang/Object") (17 : Int32) [.null, .null, .null, .null, .null, .null, .null, .null, .null, .null, .null, .null, .null, .null, .null, (.ref y2), (.ref y1)] .null) (O_el : Ovr Z ke "java/lang/Object") :
    own_M l (⟨"java/util/ArrayDeque", "pollFirst", "()Ljava/lang/Object;"⟩ : MethodName) jdk_21_method_20_code 4 (some (.object "java/lang/Object")) ws ({ frames := 1, cells := 0, slots := 0, locals := 14 } : Room) Z #[(.ref dq)] h0 (Q_pollF_15 Z dq el y2 y1 ke h0 n0) := by
  refine own_body (own := "java/util/ArrayDeque") rfl (plainFor_of_name pn_31) (fun m => ef_pollF_16 m dq) ?_
  intro p e s m below meth c s₁ Bd hml hZ hh hx hby hown X0 e0
  have N0 := Fr.nil n0
  have lt3 : h0.size > dq := E_dq.lt
  have lt4 : h0.size > el := V_el.lt
  refine own_aloadN X0.here hx hby d31_0 rfl rfl ?_
  refine own_getF X0 hx hZ hown (host := "") (Or.inl (own_w hw 35 rfl)) Via.refl e0 F_elements_dq hby d31_1 ?_
  intro T5 X5 e5
  refine own_dup X5.here hx hby d31_4 rfl ?_
  refine own_astoreN X5.here hx hby d31_5 rfl (l' := #[.val (.ref dq), .val (.ref el), .unset, .unset]) rfl ?_
  refine own_aloadN X5.here hx hby d31_6 rfl rfl ?_
  refine own_getF X5 hx hZ hown (host := "") (Or.inl (own_w hw 165 rfl)) Via.refl e5 F_head_dq hby d31_7 ?_
  intro T6 X6 e6
  refine own_dup X6.here hx hby d31_10 rfl ?_
  refine own_istoreN X6.here hx hby d31_11 (l' := #[.val (.ref dq), .val (.ref el), .val (.int 15), .unset]) rfl ?_
  refine own_callS X6 hx hZ hown (own_w hw 197 rfl) (own_w hw 198 rfl) (own_w hw 22 rfl) (own_w hw 199 rfl) (by decide) (elAt_15 l Z a0 hw [] el y2 y1 ke h0 n0 Z0 V_el) 0 (Nat.le_of_eq rfl) (by decide) (by decide) (by rw [hml]; rfl) (argsL := [(.ref el), (.int 15)]) (st := []) (lenOf pd_16 rfl) rfl rfl (by decide) (by decide) e6 hby d31_12 ?_
  intro T7 v7 L7 X7 hQ7
  obtain ⟨rfl, Nq7, eh7⟩ := hQ7
  have N7 := Fr.app N0 Nq7
  refine own_sh (T := T7) 15 #[.val (.ref dq), .val (.ref el), .val (.int 15), .unset] [(.ref y2)] ?_
  refine own_astoreN X7.here hx hby d31_15 rfl (l' := #[.val (.ref dq), .val (.ref el), .val (.int 15), .val (.ref y2)]) rfl ?_
  refine own_aloadN X7.here hx hby d31_16 rfl rfl ?_
  refine own_ifnullNo X7.here hx hby d31_17 ?_
  refine own_aloadN X7.here hx hby d31_20 rfl rfl ?_
  refine own_iloadN X7.here hx hby d31_21 rfl ?_
  refine own_aconstNull X7.here hx hby d31_22 ?_
  refine own_aastore X7 hx hZ eh7 V_el rfl rfl (Or.inl rfl) ⟨by decide, by decide⟩ 15 (by decide) (Nat.le_of_ble_eq_true rfl) hby d31_23 N7 g_el ?_
  intro T8 h8 lo8 X8 e8 N8 W8 V8 z8
  have V9 : Arv Z h8 el ke (.object "java/lang/Object") (17 : Int32) [.null, .null, .null, .null, .null, .null, .null, .null, .null, .null, .null, .null, .null, .null, .null, .null, (.ref y1)] .null := V8
  refine own_aloadN X8.here hx hby d31_24 rfl rfl ?_
  refine own_iloadN X8.here hx hby d31_25 rfl ?_
  refine own_aloadN X8.here hx hby d31_26 rfl rfl ?_
  refine own_alen X8 hx hZ e8 V9 hby d31_27 ?_
  have z11 : n0 ≤ h8.size := by omega
  refine own_callS X8 hx hZ hown (own_w hw 200 rfl) (own_w hw 201 rfl) (own_w hw 22 rfl) (own_w hw 202 rfl) (by decide) (inc_15 l Z a0 hw []  h8 n0 z11 ) 1 (Nat.le_of_eq rfl) (by decide) (by decide) (by rw [hml]; rfl) (argsL := [(.int 15), (.int 17)]) (st := [(.ref dq)]) (lenOf pd_14 rfl) rfl rfl (by decide) (by decide) e8 hby d31_28 ?_
  intro T10 v10 L10 X10 hQ10
  obtain ⟨rfl, Nq10, eh10⟩ := hQ10
  have N10 := Fr.app N8 Nq10
  refine own_sh (T := T10) 31 #[.val (.ref dq), .val (.ref el), .val (.int 15), .val (.ref y2)] [(.int 16), (.ref dq)] ?_
  have f12 := (E_dq.wr W8)
  have f13 := (F_head_dq.other W8 (Or.inl (own_ne_oa E_dq (own_w hw 21 rfl) V_el)))
  refine own_putF X10 hx hZ (ty := .int) hown (host := "") (Or.inl (own_w hw 165 rfl)) Via.refl eh10 f13 f12 (Or.inl (own_w hw 166 rfl)) (own_w hw 21 rfl) (by decide) rfl rfl hby d31_31 N10 g_dq ?_
  intro T14 h14 lo14 X14 e14 N14 W14 F14 z14
  refine own_aloadN X14.here hx hby d31_34 rfl rfl ?_
  have K15 : Keep h0 h14 [dq, el] := (((Keep.refl h0 [dq, el]).wr W8 (Or.inl (List.mem_of_getElem? (i := 1) rfl))).wr W14 (Or.inl (List.mem_of_getElem? (i := 0) rfl)))
  have f16 := (f12.wr W14)
  have f17 := ((F_elements_dq.other W8 (Or.inl (own_ne_oa E_dq (own_w hw 21 rfl) V_el))).other W14 (Or.inr (slot_ne (Or.inl (own_w hw 36 rfl)) (Or.inl (own_w hw 166 rfl)) (by decide) (t := (.array (.object "java/lang/Object"))) (t' := .int) (by decide) (by decide))))
  have f18 := ((F_tail_dq.other W8 (Or.inl (own_ne_oa E_dq (own_w hw 21 rfl) V_el))).other W14 (Or.inr (slot_ne (Or.inl (own_w hw 172 rfl)) (Or.inl (own_w hw 166 rfl)) (by decide) (t := .int) (t' := .int) (by decide) (by decide))))
  have f19 := (V9.other W14 (Ne.symm (own_ne_oa E_dq (own_w hw 21 rfl) V_el)))
  obtain ⟨fs, hr, hrun, hended, hW, hsame⟩ := X14.leave (v := some (.ref y2)) (fun h => by rw [Bd.returns] at h; cases h) Bd.notSynchronized
  refine own_ret (t := T14.setFrames fs) ?_ ⟨_, hrun, hended, _, _, rfl, ?_, ⟨_, rfl⟩, hW, hsame.mono (by decide) (by decide)⟩
  · exact retOut X14 hx Bd.returns rfl (Or.inr (Or.inr (Or.inr (Or.inr ⟨rfl, rfl, rfl⟩)))) (hb hby d31_35) hr
  · show Q_pollF_15 Z _ _ _ _ _ h0 n0 _ T14.heap _
    rw [e14]
    exact ⟨rfl, N14, K15, f16, f17, F14, f18, f19, O_el⟩
def Q_remF_15 (Z : State) (dq : Nat) (el : Nat) (y2 : Nat) (y1 : Nat) (ke : ClassId) (h0 : Heap) (n0 : Nat) (vR : Option Value) (hR : Heap) (LR : List Loc) : Prop := vR = some (.ref y2) ∧ Fr n0 LR ∧ Keep h0 hR [dq, el] ∧ (Exa Z hR dq "java/util/ArrayDeque") ∧ (Fld Z hR dq "java/util/ArrayDeque" "elements" "[Ljava/lang/Object;" (.ref el)) ∧ (Fld Z hR dq "java/util/ArrayDeque" "head" "I" (.int 16)) ∧ (Fld Z hR dq "java/util/ArrayDeque" "tail" "I" (.int 0)) ∧ (Arv Z hR el ke (.object "java/lang/Object") (17 : Int32) [.null, .null, .null, .null, .null, .null, .null, .null, .null, .null, .null, .null, .null, .null, .null, .null, (.ref y1)] .null) ∧ (Ovr Z ke "java/lang/Object")
set_option maxRecDepth 65536 in
set_option maxHeartbeats 40000000 in
theorem remF_15 (l : Launch) (Z : State) (a0 : Array Value) (hw : ∀ d ∈ tables_1, d.before a0 Z = true) (ws : List Jvm.Cond) (dq : Nat) (el : Nat) (y2 : Nat) (y1 : Nat) (ke : ClassId) (h0 : Heap) (n0 : Nat) (Z0 : n0 ≤ h0.size) (g_dq : n0 ≤ dq) (g_el : n0 ≤ el) (E_dq : Exa Z h0 dq "java/util/ArrayDeque") (F_elements_dq : Fld Z h0 dq "java/util/ArrayDeque" "elements" "[Ljava/lang/Object;" (.ref el)) (F_head_dq : Fld Z h0 dq "java/util/ArrayDeque" "head" "I" (.int 15)) (F_tail_dq : Fld Z h0 dq "java/util/ArrayDeque" "tail" "I" (.int 0)) (V_el : Arv Z h0 el ke (.object "java/lang/Object") (17 : Int32) [.null, .null, .null, .null, .null, .null, .null, .null, .null, .null, .null, .null, .null, .null, .null, (.ref y2), (.ref y1)] .null) (O_el : Ovr Z ke "java/lang/Object") :
    own_M l (⟨"java/util/ArrayDeque", "removeFirst", "()Ljava/lang/Object;"⟩ : MethodName) jdk_21_method_18_code 2 (some (.object "java/lang/Object")) ws ({ frames := 2, cells := 0, slots := 0, locals := 29 } : Room) Z #[(.ref dq)] h0 (Q_remF_15 Z dq el y2 y1 ke h0 n0) := by
  refine own_body (own := "java/util/ArrayDeque") rfl (plainFor_of_name pn_30) (fun m => ef_remF_16 m dq) ?_
  intro p e s m below meth c s₁ Bd hml hZ hh hx hby hown X0 e0
  have N0 := Fr.nil n0
  have lt3 : h0.size > dq := E_dq.lt
  have lt4 : h0.size > el := V_el.lt
  refine own_aloadN X0.here hx hby d30_0 rfl rfl ?_
  refine own_virtual X0 hx hZ hown (own_w hw 192 rfl) (own_w hw 193 rfl) (notFace_of_selects (args := #[]) (mvT hZ (own_w hw 195 rfl))) (own_w hw 195 rfl) (own_w hw 194 rfl) (own_w hw 22 rfl) (own_w hw 196 rfl) (by decide) (pollF_15 l Z a0 hw [] dq el y2 y1 ke h0 n0 Z0 g_dq g_el E_dq F_elements_dq F_head_dq F_tail_dq V_el O_el) 0 (Nat.le_of_eq rfl) (by decide) (by decide) (by rw [hml]; rfl) (argsL := []) (st := []) E_dq (lenOf pd_17 rfl) rfl rfl (by decide) (by decide) e0 hby d30_1 ?_
  intro T5 v5 L5 X5 hQ5
  obtain ⟨rfl, Nq5, K5, P5_0, P5_1, P5_2, P5_3, P5_4, P5_5⟩ := hQ5
  have N5 := Fr.app N0 Nq5
  have z6 : h0.size ≤ T5.heap.size := K5.1
  have lt7 : T5.heap.size > dq := P5_0.lt
  have lt8 : T5.heap.size > el := P5_4.lt
  refine own_sh (T := T5) 4 #[.val (.ref dq), .unset] [(.ref y2)] ?_
  refine own_astoreN X5.here hx hby d30_4 rfl (l' := #[.val (.ref dq), .val (.ref y2)]) rfl ?_
  refine own_aloadN X5.here hx hby d30_5 rfl rfl ?_
  refine own_ifnonnullYes X5.here hx hby (pc' := 17) d30_6 (by decide) (by decide) ?_
  refine own_aloadN X5.here hx hby d30_17 rfl rfl ?_
  have K9 : Keep h0 T5.heap [dq, el] := ((Keep.refl h0 [dq, el]).trans K5 (allS (P := fun xq_ => xq_ ∈ [dq, el] ∨ h0.size ≤ xq_) (Or.inl (List.mem_of_getElem? (i := 0) rfl)) (allS (P := fun xq_ => xq_ ∈ [dq, el] ∨ h0.size ≤ xq_) (Or.inl (List.mem_of_getElem? (i := 1) rfl)) all0)))
  obtain ⟨fs, hr, hrun, hended, hW, hsame⟩ := X5.leave (v := some (.ref y2)) (fun h => by rw [Bd.returns] at h; cases h) Bd.notSynchronized
  refine own_ret (t := T5.setFrames fs) ?_ ⟨_, hrun, hended, _, _, rfl, ?_, ⟨_, rfl⟩, hW, hsame.mono (by decide) (by decide)⟩
  · exact retOut X5 hx Bd.returns rfl (Or.inr (Or.inr (Or.inr (Or.inr ⟨rfl, rfl, rfl⟩)))) (hb hby d30_18) hr
  · show Q_remF_15 Z _ _ _ _ _ h0 n0 _ T5.heap _
    exact ⟨rfl, N5, K9, P5_0, P5_1, P5_2, P5_3, P5_4, P5_5⟩
def Q_pop_15 (Z : State) (dq : Nat) (el : Nat) (y2 : Nat) (y1 : Nat) (ke : ClassId) (h0 : Heap) (n0 : Nat) (vR : Option Value) (hR : Heap) (LR : List Loc) : Prop := vR = some (.ref y2) ∧ Fr n0 LR ∧ Keep h0 hR [dq, el] ∧ (Exa Z hR dq "java/util/ArrayDeque") ∧ (Fld Z hR dq "java/util/ArrayDeque" "elements" "[Ljava/lang/Object;" (.ref el)) ∧ (Fld Z hR dq "java/util/ArrayDeque" "head" "I" (.int 16)) ∧ (Fld Z hR dq "java/util/ArrayDeque" "tail" "I" (.int 0)) ∧ (Arv Z hR el ke (.object "java/lang/Object") (17 : Int32) [.null, .null, .null, .null, .null, .null, .null, .null, .null, .null, .null, .null, .null, .null, .null, .null, (.ref y1)] .null) ∧ (Ovr Z ke "java/lang/Object")
set_option maxRecDepth 65536 in
set_option maxHeartbeats 40000000 in
theorem pop_15 (l : Launch) (Z : State) (a0 : Array Value) (hw : ∀ d ∈ tables_1, d.before a0 Z = true) (ws : List Jvm.Cond) (dq : Nat) (el : Nat) (y2 : Nat) (y1 : Nat) (ke : ClassId) (h0 : Heap) (n0 : Nat) (Z0 : n0 ≤ h0.size) (g_dq : n0 ≤ dq) (g_el : n0 ≤ el) (E_dq : Exa Z h0 dq "java/util/ArrayDeque") (F_elements_dq : Fld Z h0 dq "java/util/ArrayDeque" "elements" "[Ljava/lang/Object;" (.ref el)) (F_head_dq : Fld Z h0 dq "java/util/ArrayDeque" "head" "I" (.int 15)) (F_tail_dq : Fld Z h0 dq "java/util/ArrayDeque" "tail" "I" (.int 0)) (V_el : Arv Z h0 el ke (.object "java/lang/Object") (17 : Int32) [.null, .null, .null, .null, .null, .null, .null, .null, .null, .null, .null, .null, .null, .null, .null, (.ref y2), (.ref y1)] .null) (O_el : Ovr Z ke "java/lang/Object") :
    own_M l (⟨"java/util/ArrayDeque", "pop", "()Ljava/lang/Object;"⟩ : MethodName) jdk_21_method_35_code 1 (some (.object "java/lang/Object")) ws ({ frames := 3, cells := 0, slots := 0, locals := 42 } : Room) Z #[(.ref dq)] h0 (Q_pop_15 Z dq el y2 y1 ke h0 n0) := by
  refine own_body (own := "java/util/ArrayDeque") rfl (plainFor_of_name pn_29) (fun m => ef_pop_16 m dq) ?_
  intro p e s m below meth c s₁ Bd hml hZ hh hx hby hown X0 e0
  have N0 := Fr.nil n0
  have lt3 : h0.size > dq := E_dq.lt
  have lt4 : h0.size > el := V_el.lt
  refine own_aloadN X0.here hx hby d29_0 rfl rfl ?_
  refine own_virtual X0 hx hZ hown (own_w hw 187 rfl) (own_w hw 188 rfl) (notFace_of_selects (args := #[]) (mvT hZ (own_w hw 190 rfl))) (own_w hw 190 rfl) (own_w hw 189 rfl) (own_w hw 22 rfl) (own_w hw 191 rfl) (by decide) (remF_15 l Z a0 hw [] dq el y2 y1 ke h0 n0 Z0 g_dq g_el E_dq F_elements_dq F_head_dq F_tail_dq V_el O_el) 0 (Nat.le_of_eq rfl) (by decide) (by decide) (by rw [hml]; rfl) (argsL := []) (st := []) E_dq (lenOf pd_17 rfl) rfl rfl (by decide) (by decide) e0 hby d29_1 ?_
  intro T5 v5 L5 X5 hQ5
  obtain ⟨rfl, Nq5, K5, P5_0, P5_1, P5_2, P5_3, P5_4, P5_5⟩ := hQ5
  have N5 := Fr.app N0 Nq5
  have z6 : h0.size ≤ T5.heap.size := K5.1
  have lt7 : T5.heap.size > dq := P5_0.lt
  have lt8 : T5.heap.size > el := P5_4.lt
  refine own_sh (T := T5) 4 #[.val (.ref dq)] [(.ref y2)] ?_
  have K9 : Keep h0 T5.heap [dq, el] := ((Keep.refl h0 [dq, el]).trans K5 (allS (P := fun xq_ => xq_ ∈ [dq, el] ∨ h0.size ≤ xq_) (Or.inl (List.mem_of_getElem? (i := 0) rfl)) (allS (P := fun xq_ => xq_ ∈ [dq, el] ∨ h0.size ≤ xq_) (Or.inl (List.mem_of_getElem? (i := 1) rfl)) all0)))
  obtain ⟨fs, hr, hrun, hended, hW, hsame⟩ := X5.leave (v := some (.ref y2)) (fun h => by rw [Bd.returns] at h; cases h) Bd.notSynchronized
  refine own_ret (t := T5.setFrames fs) ?_ ⟨_, hrun, hended, _, _, rfl, ?_, ⟨_, rfl⟩, hW, hsame.mono (by decide) (by decide)⟩
  · exact retOut X5 hx Bd.returns rfl (Or.inr (Or.inr (Or.inr (Or.inr ⟨rfl, rfl, rfl⟩)))) (hb hby d29_4) hr
  · show Q_pop_15 Z _ _ _ _ _ h0 n0 _ T5.heap _
    exact ⟨rfl, N5, K9, P5_0, P5_1, P5_2, P5_3, P5_4, P5_5⟩
theorem ef_dqEmpty (m : MethodId) (x0 : Nat) : entryFrame m #[(.ref x0)] 1 = mkF m 0 #[.val (.ref x0)] [] := by first | (simp [entryFrame, mkF, argsToLocals, Value.category]; done) | rfl
theorem pn_35 : plainName "java/util/ArrayDeque" = true := by first | (simp [plainName, overriddenIn]; done) | decide +kernel
theorem d35_0 : decode jdk_21_method_38_code 0 = .ok (.aload_n 0, 1) := by decide +kernel
theorem d35_1 : decode jdk_21_method_38_code 1 = .ok (.getfield 24, 3) := by decide +kernel
theorem d35_4 : decode jdk_21_method_38_code 4 = .ok (.aload_n 0, 1) := by decide +kernel
theorem d35_5 : decode jdk_21_method_38_code 5 = .ok (.getfield 20, 3) := by decide +kernel
theorem d35_8 : decode jdk_21_method_38_code 8 = .ok (.if_icmp .ne 7, 3) := by decide +kernel
theorem d35_11 : decode jdk_21_method_38_code 11 = .ok (.iconst 1, 1) := by decide +kernel
theorem d35_12 : decode jdk_21_method_38_code 12 = .ok (.goto 4, 3) := by decide +kernel
theorem d35_16 : decode jdk_21_method_38_code 16 = .ok (.ireturn, 1) := by decide +kernel
def Q_dqEmpty (Z : State) (dq : Nat) (h0 : Heap) (n0 : Nat) (vR : Option Value) (hR : Heap) (LR : List Loc) : Prop := vR = some (.int 1) ∧ Fr n0 LR ∧ hR = h0
set_option maxRecDepth 65536 in
set_option maxHeartbeats 40000000 in
theorem dqEmpty (l : Launch) (Z : State) (a0 : Array Value) (hw : ∀ d ∈ tables_1, d.before a0 Z = true) (ws : List Jvm.Cond) (dq : Nat) (h0 : Heap) (n0 : Nat) (Z0 : n0 ≤ h0.size) (E_dq : Exa Z h0 dq "java/util/ArrayDeque") (F_head_dq : Fld Z h0 dq "java/util/ArrayDeque" "head" "I" (.int 0)) (F_tail_dq : Fld Z h0 dq "java/util/ArrayDeque" "tail" "I" (.int 0)) :
    own_M l (⟨"java/util/ArrayDeque", "isEmpty", "()Z"⟩ : MethodName) jdk_21_method_38_code 1 (some .boolean) ws ({ frames := 0, cells := 0, slots := 0, locals := 0 } : Room) Z #[(.ref dq)] h0 (Q_dqEmpty Z dq h0 n0) := by
  refine own_body (own := "java/util/ArrayDeque") rfl (plainFor_of_name pn_35) (fun m => ef_dqEmpty m dq) ?_
  intro p e s m below meth c s₁ Bd hml hZ hh hx hby hown X0 e0
  have N0 := Fr.nil n0
  have lt1 : h0.size > dq := E_dq.lt
  refine own_aloadN X0.here hx hby d35_0 rfl rfl ?_
  refine own_getF X0 hx hZ hown (host := "") (Or.inl (own_w hw 165 rfl)) Via.refl e0 F_head_dq hby d35_1 ?_
  intro T2 X2 e2
  refine own_aloadN X2.here hx hby d35_4 rfl rfl ?_
  refine own_getF X2 hx hZ hown (host := "") (Or.inl (own_w hw 171 rfl)) Via.refl e2 F_tail_dq hby d35_5 ?_
  intro T3 X3 e3
  refine own_icmpNo X3.here hx hby d35_8 (teq (show (0 : Int32) = (0 : Int32) from (by decide))).2 ?_
  refine own_iconst X3.here hx hby d35_11 (v := (1 : Int32)) (by decide) ?_
  refine own_goto X3.here hx hby (pc' := 16) d35_12 (by decide) (by decide) ?_
  obtain ⟨fs, hr, hrun, hended, hW, hsame⟩ := X3.leave (v := some (.int 1)) (fun h => by rw [Bd.returns] at h; cases h) Bd.notSynchronized
  refine own_ret (t := T3.setFrames fs) ?_ ⟨_, hrun, hended, _, _, rfl, ?_, ⟨_, rfl⟩, hW, hsame.mono (by decide) (by decide)⟩
  · exact retN X3 hx (t := .boolean) Bd.returns (by simp) (hb hby d35_16) hr
  · show Q_dqEmpty Z _ h0 n0 _ T3.heap _
    rw [e3]
    exact ⟨rfl, N0, rfl⟩
theorem ef_xwInitS (m : MethodId) (x0 : Nat) (x1 : Nat) : entryFrame m #[(.ref x0), (.ref x1)] 2 = mkF m 0 #[.val (.ref x0), .val (.ref x1)] [] := by first | (simp [entryFrame, mkF, argsToLocals, Value.category]; done) | rfl
theorem pn_2 : plainName "com/example/sluice/sluice/server/XmlWriter" = true := by first | (simp [plainName, overriddenIn]; done) | decide +kernel
theorem d2_0 : decode prog_22_method_2_code 0 = .ok (.aload_n 0, 1) := by decide +kernel
theorem d2_1 : decode prog_22_method_2_code 1 = .ok (.invokespecial 9, 3) := by decide +kernel
theorem d2_4 : decode prog_22_method_2_code 4 = .ok (.aload_n 0, 1) := by decide +kernel
theorem d2_5 : decode prog_22_method_2_code 5 = .ok (.new 14, 3) := by decide +kernel
theorem d2_8 : decode prog_22_method_2_code 8 = .ok (.dup, 1) := by decide +kernel
theorem d2_9 : decode prog_22_method_2_code 9 = .ok (.invokespecial 16, 3) := by decide +kernel
theorem d2_12 : decode prog_22_method_2_code 12 = .ok (.putfield 17, 3) := by decide +kernel
theorem d2_15 : decode prog_22_method_2_code 15 = .ok (.aload_n 0, 1) := by decide +kernel
theorem d2_16 : decode prog_22_method_2_code 16 = .ok (.new 21, 3) := by decide +kernel
theorem d2_19 : decode prog_22_method_2_code 19 = .ok (.dup, 1) := by decide +kernel
theorem d2_20 : decode prog_22_method_2_code 20 = .ok (.aload_n 1, 1) := by decide +kernel
theorem d2_21 : decode prog_22_method_2_code 21 = .ok (.invokespecial 23, 3) := by decide +kernel
theorem d2_24 : decode prog_22_method_2_code 24 = .ok (.putfield 24, 3) := by decide +kernel
theorem d2_27 : decode prog_22_method_2_code 27 = .ok (.return_, 1) := by decide +kernel
def Q_xwInitS (Z : State) (w_ : Nat) (x : Nat) (t : Nat) (kt : ClassId) (zc : Int32) (h0 : Heap) (n0 : Nat) (vR : Option Value) (hR : Heap) (LR : List Loc) : Prop := ∃ (dq : Nat) (el : Nat) (sb : Nat) (b : Nat) (ke : ClassId) (kb : ClassId), vR = none ∧ Fr n0 LR ∧ Keep h0 hR [w_] ∧ h0.size ≤ dq ∧ h0.size ≤ el ∧ h0.size ≤ sb ∧ h0.size ≤ b ∧ (Exa Z hR w_ "com/example/sluice/sluice/server/XmlWriter") ∧ (Fld Z hR w_ "com/example/sluice/sluice/server/XmlWriter" "open" "Ljava/util/Deque;" (.ref dq)) ∧ (Fld Z hR w_ "com/example/sluice/sluice/server/XmlWriter" "xml" "Ljava/lang/StringBuilder;" (.ref sb)) ∧ (Exa Z hR dq "java/util/ArrayDeque") ∧ (Fld Z hR dq "java/util/ArrayDeque" "elements" "[Ljava/lang/Object;" (.ref el)) ∧ (Fld Z hR dq "java/util/ArrayDeque" "head" "I" (.int 0)) ∧ (Fld Z hR dq "java/util/ArrayDeque" "tail" "I" (.int 0)) ∧ (Arv Z hR el ke (.object "java/lang/Object") (17 : Int32) [.null, .null, .null, .null, .null, .null, .null, .null, .null, .null, .null, .null, .null, .null, .null, .null, .null] .null) ∧ (Ovr Z ke "java/lang/Object") ∧ (Exa Z hR sb "java/lang/StringBuilder") ∧ (Fld Z hR sb "java/lang/AbstractStringBuilder" "value" "[B" (.ref b)) ∧ (Fld Z hR sb "java/lang/AbstractStringBuilder" "coder" "B" (.int 0)) ∧ (Fld Z hR sb "java/lang/AbstractStringBuilder" "count" "I" (.int (Int32.ofNat own_decl.length))) ∧ (Arv Z hR b kb .byte (54 : Int32) (own_bz own_decl) (.int 0))
set_option maxRecDepth 65536 in
set_option maxHeartbeats 40000000 in
theorem xwInitS (l : Launch) (Z : State) (a0 : Array Value) (hw : ∀ d ∈ tables_1, d.before a0 Z = true) (ws : List Jvm.Cond) (w_ : Nat) (x : Nat) (t : Nat) (kt : ClassId) (zc : Int32) (h0 : Heap) (n0 : Nat) (Z0 : n0 ≤ h0.size) (E_w : Exa Z h0 w_ "com/example/sluice/sluice/server/XmlWriter") (g_w_ : n0 ≤ w_) (F_open_w : Fld Z h0 w_ "com/example/sluice/sluice/server/XmlWriter" "open" "Ljava/util/Deque;" .null) (F_xml_w : Fld Z h0 w_ "com/example/sluice/sluice/server/XmlWriter" "xml" "Ljava/lang/StringBuilder;" .null) (E_x : Exa Z h0 x "java/lang/String") (Fc_x : Fld Z h0 x "java/lang/String" "coder" "B" (.int 0)) (Fv_x : Fld Z h0 x "java/lang/String" "value" "[B" (.ref t)) (V_t : Arv Z h0 t kt .byte (Int32.ofNat own_decl.length) (own_b own_decl) (.int 0)) (S_C : Sta Z h0 "java/lang/String" "COMPACT_STRINGS" "Z" (.int zc)) (hz : ¬ (zc = (0 : Int32))) :
    own_M l (⟨"com/example/sluice/sluice/server/XmlWriter", "<init>", "(Ljava/lang/String;)V"⟩ : MethodName) prog_22_method_2_code 2 none ws ({ frames := 8, cells := 4, slots := 78, locals := 118 } : Room) Z #[(.ref w_), (.ref x)] h0 (Q_xwInitS Z w_ x t kt zc h0 n0) := by
  refine own_body (own := "com/example/sluice/sluice/server/XmlWriter") rfl (plainFor_of_name pn_2) (fun m => ef_xwInitS m w_ x) ?_
  intro p e s m below meth c s₁ Bd hml hZ hh hx hby hown X0 e0
  have N0 := Fr.nil n0
  have lt1 : h0.size > w_ := E_w.lt
  have lt2 : h0.size > x := E_x.lt
  have lt3 : h0.size > t := V_t.lt
  refine own_aloadN X0.here hx hby d2_0 rfl rfl ?_
  refine own_initO X0 hx hZ hown (own_w hw 17 rfl) (own_w hw 18 rfl) (own_w hw 19 rfl) e0 (by rw [hml]; rfl) hby d2_1 (by decide) 0 (Nat.le_of_eq rfl) (by decide) ?_
  intro T4 X4 e4
  refine own_aloadN X4.here hx hby d2_4 rfl rfl ?_
  refine own_newO X4 hx hZ hown (own_w hw 20 rfl) (own_w hw 21 rfl) (own_w hw 22 rfl) e4 hby d2_5 (by decide) (by decide) ?_
  intro T5 h5 b5 X5 e5 E5 g5 A5 D5 lt5
  have z6 : h0.size ≤ h5.size := E5.1
  have F7 : Fld Z h5 b5 "java/util/ArrayDeque" "elements" "[Ljava/lang/Object;" .null := D5 (Or.inl (own_w hw 36 rfl)) (ty := (.array (.object "java/lang/Object"))) (by decide)
  have F8 : Fld Z h5 b5 "java/util/ArrayDeque" "head" "I" (.int 0) := D5 (Or.inl (own_w hw 166 rfl)) (ty := .int) (by decide)
  have F9 : Fld Z h5 b5 "java/util/ArrayDeque" "tail" "I" (.int 0) := D5 (Or.inl (own_w hw 172 rfl)) (ty := .int) (by decide)
  refine own_dup X5.here hx hby d2_8 rfl ?_
  have z11 : n0 ≤ h5.size := by omega
  refine own_special X5 hx hZ rfl hown (own_w hw 23 rfl) (own_w hw 24 rfl) (own_w hw 22 rfl) (own_w hw 25 rfl) (by decide) (dqInit l Z a0 hw [] b5 h5 n0 z11 A5 (by omega) F7 F8 F9) 2 (Nat.le_of_eq rfl) (by decide) (by decide) (by rw [hml]; rfl) (argsL := []) (st := [(.ref b5), (.ref w_)]) (a := b5) (lenOf pd_13 rfl) rfl rfl (by decide) (by decide) e5 hby d2_9 ?_
  intro T10 v10 L10 X10 hQ10
  obtain ⟨el_10, ke_10, rfl, Nq10, K10, P10_0, P10_1, P10_2, P10_3, P10_4, P10_5, P10_6⟩ := hQ10
  have N10 := Fr.app N0 Nq10
  have z12 : h5.size ≤ T10.heap.size := K10.1
  have lt13 : T10.heap.size > b5 := P10_1.lt
  have lt14 : T10.heap.size > el_10 := P10_5.lt
  refine own_sh (T := T10) 12 #[.val (.ref w_), .val (.ref x)] [(.ref b5), (.ref w_)] ?_
  have f15 := ((E_w.ext E5).keep K10)
  have f16 := ((F_open_w.ext E5).keep K10 (ninS (own_nn (by omega)) nin0))
  refine own_putF X10 hx hZ (ty := (.object "java/util/Deque")) hown (host := "") (Or.inl (own_w hw 37 rfl)) Via.refl rfl f16 f15 (Or.inr ⟨(own_w hw 38 rfl), rfl, (name_of_methodNamed Bd.named Bd.method).1⟩) (own_w hw 1 rfl) (by decide) rfl rfl hby d2_12 N10 g_w_ ?_
  intro T17 h17 lo17 X17 e17 N17 W17 F17 z17
  refine own_aloadN X17.here hx hby d2_15 rfl rfl ?_
  refine own_newO X17 hx hZ hown (own_w hw 39 rfl) (own_w hw 40 rfl) (own_w hw 41 rfl) e17 hby d2_16 (by decide) (by decide) ?_
  intro T18 h18 b18 X18 e18 E18 g18 A18 D18 lt18
  have z19 : h17.size ≤ h18.size := E18.1
  have F20 : Fld Z h18 b18 "java/lang/AbstractStringBuilder" "coder" "B" (.int 0) := D18 (Or.inl (own_w hw 68 rfl)) (ty := .byte) (by decide)
  have F21 : Fld Z h18 b18 "java/lang/AbstractStringBuilder" "value" "[B" .null := D18 (Or.inl (own_w hw 70 rfl)) (ty := (.array .byte)) (by decide)
  have F22 : Fld Z h18 b18 "java/lang/AbstractStringBuilder" "count" "I" (.int 0) := D18 (Or.inl (own_w hw 86 rfl)) (ty := .int) (by decide)
  refine own_dup X18.here hx hby d2_19 rfl ?_
  refine own_aloadN X18.here hx hby d2_20 rfl rfl ?_
  have f23 := ((((E_x.ext E5).keep K10).wr W17).ext E18)
  have f24 := ((((Fc_x.ext E5).keep K10 (ninS (own_nn (by omega)) nin0)).other W17 (Or.inl (ne_exa E_x E_w (by decide)))).ext E18)
  have f25 := ((((Fv_x.ext E5).keep K10 (ninS (own_nn (by omega)) nin0)).other W17 (Or.inl (ne_exa E_x E_w (by decide)))).ext E18)
  have f26 := ((((V_t.ext E5).keep K10 (ninS (own_nn (by omega)) nin0)).other W17 (Ne.symm (own_ne_oa E_w (own_w hw 1 rfl) V_t))).ext E18)
  have f27 := (((own_sta_keep (S_C.ext E5) K10 (allS (own_exa_plain A5) all0)).wr W17).ext E18)
  have z29 : n0 ≤ h18.size := by omega
  refine own_special X18 hx hZ rfl hown (own_w hw 42 rfl) (own_w hw 43 rfl) (own_w hw 41 rfl) (own_w hw 44 rfl) (by decide) (sbInitS l Z a0 hw [] b18 x t kt zc h18 n0 z29 A18 (by omega) F21 F20 F22 f23 f24 f25 f26 f27 hz) 2 (Nat.le_of_eq rfl) (by decide) (by decide) (by rw [hml]; rfl) (argsL := [(.ref x)]) (st := [(.ref b18), (.ref w_)]) (a := b18) (lenOf pd_4 rfl) rfl rfl (by decide) (by decide) e18 hby d2_21 ?_
  intro T28 v28 L28 X28 hQ28
  obtain ⟨b_28, kb_28, rfl, Nq28, K28, P28_0, P28_1, P28_2, P28_3, P28_4, P28_5⟩ := hQ28
  have N28 := Fr.app N17 Nq28
  have z30 : h18.size ≤ T28.heap.size := K28.1
  have lt31 : T28.heap.size > b18 := P28_0.lt
  have lt32 : T28.heap.size > b_28 := P28_4.lt
  refine own_sh (T := T28) 24 #[.val (.ref w_), .val (.ref x)] [(.ref b18), (.ref w_)] ?_
  have f33 := (((f15.wr W17).ext E18).keep K28)
  have f34 := (((((F_xml_w.ext E5).keep K10 (ninS (own_nn (by omega)) nin0)).other W17 (Or.inr (slot_ne (Or.inr (own_w hw 113 rfl)) (Or.inr (own_w hw 38 rfl)) (by decide) (t := (.object "java/lang/StringBuilder")) (t' := (.object "java/util/Deque")) (by decide) (by decide)))).ext E18).keep K28 (ninS (own_nn (by omega)) nin0))
  refine own_putF X28 hx hZ (ty := (.object "java/lang/StringBuilder")) hown (host := "") (Or.inl (own_w hw 112 rfl)) Via.refl rfl f34 f33 (Or.inr ⟨(own_w hw 113 rfl), rfl, (name_of_methodNamed Bd.named Bd.method).1⟩) (own_w hw 1 rfl) (by decide) rfl rfl hby d2_24 N28 g_w_ ?_
  intro T35 h35 lo35 X35 e35 N35 W35 F35 z35
  have K36 : Keep h0 h35 [w_] := (((((((Keep.refl h0 [w_]).ext E5).trans K10 (allS (P := fun xq_ => xq_ ∈ [w_] ∨ h0.size ≤ xq_) (Or.inr (by omega)) all0)).wr W17 (Or.inl (List.mem_of_getElem? (i := 0) rfl))).ext E18).trans K28 (allS (P := fun xq_ => xq_ ∈ [w_] ∨ h0.size ≤ xq_) (Or.inr (by omega)) all0)).wr W35 (Or.inl (List.mem_of_getElem? (i := 0) rfl)))
  have f37 := (f33.wr W35)
  have f38 := (((F17.ext E18).keep K28 (ninS (own_nn (by omega)) nin0)).other W35 (Or.inr (slot_ne (Or.inr (own_w hw 38 rfl)) (Or.inr (own_w hw 113 rfl)) (by decide) (t := (.object "java/util/Deque")) (t' := (.object "java/lang/StringBuilder")) (by decide) (by decide))))
  have f39 := ((((P10_1.wr W17).ext E18).keep K28).wr W35)
  have f40 := ((((P10_2.other W17 (Or.inl (own_nn (by omega)))).ext E18).keep K28 (ninS (own_nn (by omega)) nin0)).other W35 (Or.inl (own_nn (by omega))))
  have f41 := ((((P10_3.other W17 (Or.inl (own_nn (by omega)))).ext E18).keep K28 (ninS (own_nn (by omega)) nin0)).other W35 (Or.inl (own_nn (by omega))))
  have f42 := ((((P10_4.other W17 (Or.inl (own_nn (by omega)))).ext E18).keep K28 (ninS (own_nn (by omega)) nin0)).other W35 (Or.inl (own_nn (by omega))))
  have f43 := ((((P10_5.other W17 (own_nn (by omega))).ext E18).keep K28 (ninS (own_nn (by omega)) nin0)).other W35 (own_nn (by omega)))
  have f44 := (P28_0.wr W35)
  have f45 := (P28_1.other W35 (Or.inl (own_nn (by omega))))
  have f46 := (P28_2.other W35 (Or.inl (own_nn (by omega))))
  have f47 := (P28_3.other W35 (Or.inl (own_nn (by omega))))
  have f48 := (P28_4.other W35 (own_nn (by omega)))
  obtain ⟨fs, hr, hrun, hended, hW, hsame⟩ := X35.leave (v := none) (fun _ => rfl) Bd.notSynchronized
  refine own_ret (t := T35.setFrames fs) ?_ ⟨_, hrun, hended, _, _, rfl, ?_, ⟨_, rfl⟩, hW, hsame.mono (by decide) (by decide)⟩
  · exact X35.returnOut hx Bd.returns (hb hby d2_27) hr
  · show Q_xwInitS Z _ _ _ _ _ h0 n0 _ T35.heap _
    rw [e35]
    exact ⟨b5, el_10, b18, b_28, ke_10, kb_28, rfl, N35, K36, (by omega), (by omega), (by omega), (by omega), f37, f38, F35, f39, f40, f41, f42, f43, P10_6, f44, f45, f46, f47, f48⟩
theorem ef_xwInit (m : MethodId) (x0 : Nat) : entryFrame m #[(.ref x0)] 1 = mkF m 0 #[.val (.ref x0)] [] := by first | (simp [entryFrame, mkF, argsToLocals, Value.category]; done) | rfl
theorem pn_1 : plainName "com/example/sluice/sluice/server/XmlWriter" = true := by first | (simp [plainName, overriddenIn]; done) | decide +kernel
theorem own_EW {Z : State} {a0 : Array Value} (hw : ∀ d ∈ tables_1, d.before a0 Z = true) : EW Z a0 consts_1 := (EW.cons (own_w hw 6 rfl) (by decide) (EW.cons (own_w hw 178 rfl) (by decide) EW.nil))
theorem d1_0 : decode prog_22_method_1_code 0 = .ok (.aload_n 0, 1) := by decide +kernel
theorem d1_1 : decode prog_22_method_1_code 1 = .ok (.ldc 1, 2) := by decide +kernel
theorem own_wS {Z : State} {a0 : Array Value} (hw : ∀ d ∈ tables_1, d.before a0 Z = true) : ∀ a ∈ Bundle.stringAtoms, a.before a0 Z = true := by
  intro a ha
  simp only [Bundle.stringAtoms, Bundle.sN, List.mem_cons, List.not_mem_nil, or_false] at ha
  rcases ha with rfl | rfl | rfl | rfl | rfl | rfl | rfl
  · exact own_w hw 7 rfl
  · exact own_w hw 8 rfl
  · exact own_w hw 9 rfl
  · exact own_w hw 10 rfl
  · exact own_w hw 11 rfl
  · exact own_w hw 12 rfl
  · exact own_w hw 13 rfl
theorem d1_3 : decode prog_22_method_1_code 3 = .ok (.invokespecial 3, 3) := by decide +kernel
theorem d1_6 : decode prog_22_method_1_code 6 = .ok (.return_, 1) := by decide +kernel
def Q_xwInit (Z : State) (w_ : Nat) (zc : Int32) (h0 : Heap) (n0 : Nat) (vR : Option Value) (hR : Heap) (LR : List Loc) : Prop := ∃ (dq : Nat) (el : Nat) (sb : Nat) (b : Nat) (ke : ClassId) (kb : ClassId), vR = none ∧ Fr n0 LR ∧ Keep h0 hR [w_] ∧ h0.size ≤ dq ∧ h0.size ≤ el ∧ h0.size ≤ sb ∧ h0.size ≤ b ∧ (Exa Z hR w_ "com/example/sluice/sluice/server/XmlWriter") ∧ (Fld Z hR w_ "com/example/sluice/sluice/server/XmlWriter" "open" "Ljava/util/Deque;" (.ref dq)) ∧ (Fld Z hR w_ "com/example/sluice/sluice/server/XmlWriter" "xml" "Ljava/lang/StringBuilder;" (.ref sb)) ∧ (Exa Z hR dq "java/util/ArrayDeque") ∧ (Fld Z hR dq "java/util/ArrayDeque" "elements" "[Ljava/lang/Object;" (.ref el)) ∧ (Fld Z hR dq "java/util/ArrayDeque" "head" "I" (.int 0)) ∧ (Fld Z hR dq "java/util/ArrayDeque" "tail" "I" (.int 0)) ∧ (Arv Z hR el ke (.object "java/lang/Object") (17 : Int32) [.null, .null, .null, .null, .null, .null, .null, .null, .null, .null, .null, .null, .null, .null, .null, .null, .null] .null) ∧ (Ovr Z ke "java/lang/Object") ∧ (Exa Z hR sb "java/lang/StringBuilder") ∧ (Fld Z hR sb "java/lang/AbstractStringBuilder" "value" "[B" (.ref b)) ∧ (Fld Z hR sb "java/lang/AbstractStringBuilder" "coder" "B" (.int 0)) ∧ (Fld Z hR sb "java/lang/AbstractStringBuilder" "count" "I" (.int (Int32.ofNat own_decl.length))) ∧ (Arv Z hR b kb .byte (54 : Int32) (own_bz own_decl) (.int 0))
set_option maxRecDepth 65536 in
set_option maxHeartbeats 40000000 in
theorem xwInit (l : Launch) (Z : State) (a0 : Array Value) (hw : ∀ d ∈ tables_1, d.before a0 Z = true) (ws : List Jvm.Cond) (w_ : Nat) (zc : Int32) (h0 : Heap) (n0 : Nat) (Z0 : n0 ≤ h0.size) (E_w : Exa Z h0 w_ "com/example/sluice/sluice/server/XmlWriter") (g_w_ : n0 ≤ w_) (F_open_w : Fld Z h0 w_ "com/example/sluice/sluice/server/XmlWriter" "open" "Ljava/util/Deque;" .null) (F_xml_w : Fld Z h0 w_ "com/example/sluice/sluice/server/XmlWriter" "xml" "Ljava/lang/StringBuilder;" .null) (S_C : Sta Z h0 "java/lang/String" "COMPACT_STRINGS" "Z" (.int zc)) (hz : ¬ (zc = (0 : Int32))) :
    own_MH l (⟨"com/example/sluice/sluice/server/XmlWriter", "<init>", "()V"⟩ : MethodName) prog_22_method_1_code 1 none ws ({ frames := 9, cells := 6, slots := 234, locals := 131 } : Room) Z #[(.ref w_)] h0 (Q_xwInit Z w_ zc h0 n0) consts_1 := by
  refine own_bodyH (own := "com/example/sluice/sluice/server/XmlWriter") rfl (plainFor_of_name pn_1) (fun m => ef_xwInit m w_) ?_
  intro p e s m below meth c s₁ Bd hml hZ hh hx hby hown X0 e0 hS0 CH0
  have N0 := Fr.nil n0
  have hk0 : h0.size ≤ h0.size := Nat.le_refl _
  have Y0 : Stand p l e ({ frames := 9, cells := 6, slots := 234, locals := 131 } : Room) (s.setVm s.vm) m #[(.ref w_)] below meth c s₁ [] 0 0 := X0
  have hEL := own_EW hw
  have C0 := CHr.refl CH0
  have lt1 : h0.size > w_ := E_w.lt
  refine own_aloadN Y0.here hx hby d1_0 rfl rfl ?_
  have own_wS0 : ∀ a ∈ Bundle.stringAtoms, a.before a0 Z = true := own_wS hw
  refine own_ldcCH Y0 hx hZ hEL hown (own_w hw 6 rfl) own_wS0 e0 hS0 (by omega) C0.1 (List.mem_of_getElem? (i := 0) rfl) (vs := [(.int 60), (.int 63), (.int 120), (.int 109), (.int 108), (.int 32), (.int 118), (.int 101), (.int 114), (.int 115), (.int 105), (.int 111), (.int 110), (.int 61), (.int 34), (.int 49), (.int 46), (.int 48), (.int 34), (.int 32), (.int 101), (.int 110), (.int 99), (.int 111), (.int 100), (.int 105), (.int 110), (.int 103), (.int 61), (.int 34), (.int 85), (.int 84), (.int 70), (.int 45), (.int 56), (.int 34), (.int 63), (.int 62)]) (z := (38 : Int32)) ⟨by decide, by decide⟩ (by decide) (by decide) hby d1_1 152 (by decide) (by decide) (by decide) (by decide) ?_
  intro a2 T2 h2 kk2 vm2 b2 kb2 X2 e2 E2 hS2 hk2 hZ2 hown2 Ea2 Fc2 Fv2 Va2 la2 lb2 Cn2 ns2
  have z3 : h0.size ≤ h2.size := E2.1
  have C4 := C0.trans Cn2
  have f5 := (E_w.ext E2)
  have nl2_w_ := ns2 w_ (Safe.exa hZ2.alike f5 (by decide) (by decide))
  have lt6 : h2.size > a2 := la2
  have lt7 : h2.size > b2 := lb2
  have V8 : Arv Z h2 b2 kb2 .byte (Int32.ofNat own_decl.length) (own_b own_decl) (.int 0) := Va2
  have f9 := (F_open_w.ext E2)
  have f10 := (F_xml_w.ext E2)
  have f11 := (S_C.ext E2)
  have z13 : n0 ≤ h2.size := by omega
  refine own_special X2 hx hZ2 rfl hown2 (own_w hw 14 rfl) (own_w hw 15 rfl) (own_w hw 2 rfl) (own_w hw 16 rfl) (by decide) (xwInitS l Z a0 hw [] w_ a2 b2 kb2 zc h2 n0 z13 f5 g_w_ f9 f10 Ea2 Fc2 Fv2 V8 f11 hz) 0 (Nat.le_of_eq rfl) (by decide) (by decide) (by rw [hml]; rfl) (argsL := [(.ref a2)]) (st := []) (a := w_) (lenOf pd_4 rfl) rfl rfl (by decide) (by decide) e2 hby d1_3 ?_
  intro T12 v12 L12 X12 hQ12
  obtain ⟨dq_12, el_12, sb_12, b_12, ke_12, kb_12, rfl, Nq12, K12, P12_0, P12_1, P12_2, P12_3, P12_4, P12_5, P12_6, P12_7, P12_8, P12_9, P12_10, P12_11, P12_12, P12_13, P12_14, P12_15, P12_16, P12_17⟩ := hQ12
  have N12 := Fr.app N0 Nq12
  have z14 : h2.size ≤ T12.heap.size := K12.1
  have C15 := C4.trans (CHr.keep K12 (sfS (Safe.exa hZ2.alike f5 (by decide) (by decide)) sf0) C4.1)
  have lt16 : T12.heap.size > w_ := P12_4.lt
  have lt17 : T12.heap.size > dq_12 := P12_7.lt
  have lt18 : T12.heap.size > el_12 := P12_11.lt
  have lt19 : T12.heap.size > sb_12 := P12_13.lt
  have lt20 : T12.heap.size > b_12 := P12_17.lt
  refine own_sh (T := T12) 6 #[.val (.ref w_)] [] ?_
  have K21 : Keep h0 T12.heap [w_] := (((Keep.refl h0 [w_]).ext E2).trans K12 (allS (P := fun xq_ => xq_ ∈ [w_] ∨ h0.size ≤ xq_) (Or.inl (List.mem_of_getElem? (i := 0) rfl)) all0))
  obtain ⟨fs, hr, hrun, hended, hRW⟩ := X12.leaveW hS2 (by omega) (v := none) (fun _ => rfl) Bd.notSynchronized
  have hCf : CHr Z consts_1 s.vm s.heap T12.vm T12.heap := by
    rw [hh]
    exact C15.trans (CHv.at X12 hZ2 hEL C15.1)
  refine own_ret (t := T12.setFrames fs) ?_ ⟨_, hrun, hended, _, _, rfl, ?_, hCf, hRW.1, hRW.2.1, hRW.2.2.1, hRW.2.2.2.mono (by decide) (by decide)⟩
  · exact X12.returnOut hx Bd.returns (hb hby d1_6) hr
  · show Q_xwInit Z _ _ h0 n0 _ T12.heap _
    exact ⟨dq_12, el_12, sb_12, b_12, ke_12, kb_12, rfl, N12, K21, (by omega), (by omega), (by omega), (by omega), P12_4, P12_5, P12_6, P12_7, P12_8, P12_9, P12_10, P12_11, P12_12, P12_13, P12_14, P12_15, P12_16, P12_17⟩
theorem ef_start_0 (m : MethodId) (x0 : Nat) (x1 : Nat) : entryFrame m #[(.ref x0), (.ref x1)] 2 = mkF m 0 #[.val (.ref x0), .val (.ref x1)] [] := by first | (simp [entryFrame, mkF, argsToLocals, Value.category]; done) | rfl
theorem pn_21 : plainName "com/example/sluice/sluice/server/XmlWriter" = true := by first | (simp [plainName, overriddenIn]; done) | decide +kernel
theorem d21_0 : decode prog_22_method_5_code 0 = .ok (.aload_n 0, 1) := by decide +kernel
theorem d21_1 : decode prog_22_method_5_code 1 = .ok (.getfield 24, 3) := by decide +kernel
theorem d21_4 : decode prog_22_method_5_code 4 = .ok (.bipush 60, 2) := by decide +kernel
theorem d21_6 : decode prog_22_method_5_code 6 = .ok (.invokevirtual 30, 3) := by decide +kernel
theorem pd_18 : parseMethodDescriptor "(C)Ljava/lang/StringBuilder;" = some ⟨[.char], some (.object "java/lang/StringBuilder")⟩ := by decide +kernel
theorem d21_9 : decode prog_22_method_5_code 9 = .ok (.aload_n 1, 1) := by decide +kernel
theorem d21_10 : decode prog_22_method_5_code 10 = .ok (.invokevirtual 34, 3) := by decide +kernel
theorem d21_13 : decode prog_22_method_5_code 13 = .ok (.bipush 62, 2) := by decide +kernel
theorem d21_15 : decode prog_22_method_5_code 15 = .ok (.invokevirtual 30, 3) := by decide +kernel
theorem d21_18 : decode prog_22_method_5_code 18 = .ok (.pop, 1) := by decide +kernel
theorem d21_19 : decode prog_22_method_5_code 19 = .ok (.aload_n 0, 1) := by decide +kernel
theorem d21_20 : decode prog_22_method_5_code 20 = .ok (.getfield 17, 3) := by decide +kernel
theorem d21_23 : decode prog_22_method_5_code 23 = .ok (.aload_n 1, 1) := by decide +kernel
theorem d21_24 : decode prog_22_method_5_code 24 = .ok (.invokeinterface 41 2, 5) := by decide +kernel
theorem d21_29 : decode prog_22_method_5_code 29 = .ok (.aload_n 0, 1) := by decide +kernel
theorem d21_30 : decode prog_22_method_5_code 30 = .ok (.areturn, 1) := by decide +kernel
def Q_start_0 (Z : State) (w_ : Nat) (dq : Nat) (el : Nat) (sb : Nat) (b : Nat) (ke : ClassId) (kb : ClassId) (wl : List Int32) (x : Nat) (t : Nat) (kt : ClassId) (cN : Int32) (zc : Int32) (h0 : Heap) (n0 : Nat) (vR : Option Value) (hR : Heap) (LR : List Loc) : Prop := vR = some (.ref w_) ∧ Fr n0 LR ∧ Keep h0 hR [dq, el, sb, b] ∧ (Exa Z hR w_ "com/example/sluice/sluice/server/XmlWriter") ∧ (Fld Z hR w_ "com/example/sluice/sluice/server/XmlWriter" "open" "Ljava/util/Deque;" (.ref dq)) ∧ (Fld Z hR w_ "com/example/sluice/sluice/server/XmlWriter" "xml" "Ljava/lang/StringBuilder;" (.ref sb)) ∧ (Exa Z hR dq "java/util/ArrayDeque") ∧ (Fld Z hR dq "java/util/ArrayDeque" "elements" "[Ljava/lang/Object;" (.ref el)) ∧ (Fld Z hR dq "java/util/ArrayDeque" "head" "I" (.int 16)) ∧ (Fld Z hR dq "java/util/ArrayDeque" "tail" "I" (.int 0)) ∧ (Arv Z hR el ke (.object "java/lang/Object") (17 : Int32) [.null, .null, .null, .null, .null, .null, .null, .null, .null, .null, .null, .null, .null, .null, .null, .null, (.ref x)] .null) ∧ (Ovr Z ke "java/lang/Object") ∧ (Exa Z hR sb "java/lang/StringBuilder") ∧ (Fld Z hR sb "java/lang/AbstractStringBuilder" "value" "[B" (.ref b)) ∧ (Fld Z hR sb "java/lang/AbstractStringBuilder" "coder" "B" (.int 0)) ∧ (Fld Z hR sb "java/lang/AbstractStringBuilder" "count" "I" (.int (Int32.ofNat (((wl ++ [(60 : Int32)]) ++ [cN]) ++ [(62 : Int32)]).length))) ∧ (Arv Z hR b kb .byte (54 : Int32) (own_bz (((wl ++ [(60 : Int32)]) ++ [cN]) ++ [(62 : Int32)])) (.int 0)) ∧ (Exa Z hR x "java/lang/String") ∧ (Fld Z hR x "java/lang/String" "coder" "B" (.int 0)) ∧ (Fld Z hR x "java/lang/String" "value" "[B" (.ref t)) ∧ (Arv Z hR t kt .byte (Int32.ofNat ([cN]).length) (own_b ([cN])) (.int 0))
set_option maxRecDepth 65536 in
set_option maxHeartbeats 40000000 in
theorem start_0 (l : Launch) (Z : State) (a0 : Array Value) (hw : ∀ d ∈ tables_1, d.before a0 Z = true) (ws : List Jvm.Cond) (w_ : Nat) (dq : Nat) (el : Nat) (sb : Nat) (b : Nat) (ke : ClassId) (kb : ClassId) (wl : List Int32) (x : Nat) (t : Nat) (kt : ClassId) (cN : Int32) (zc : Int32) (h0 : Heap) (n0 : Nat) (Z0 : n0 ≤ h0.size) (g_sb : n0 ≤ sb) (g_b : n0 ≤ b) (g_dq : n0 ≤ dq) (g_el : n0 ≤ el) (E_w : Exa Z h0 w_ "com/example/sluice/sluice/server/XmlWriter") (F_open_w : Fld Z h0 w_ "com/example/sluice/sluice/server/XmlWriter" "open" "Ljava/util/Deque;" (.ref dq)) (F_xml_w : Fld Z h0 w_ "com/example/sluice/sluice/server/XmlWriter" "xml" "Ljava/lang/StringBuilder;" (.ref sb)) (E_dq : Exa Z h0 dq "java/util/ArrayDeque") (F_elements_dq : Fld Z h0 dq "java/util/ArrayDeque" "elements" "[Ljava/lang/Object;" (.ref el)) (F_head_dq : Fld Z h0 dq "java/util/ArrayDeque" "head" "I" (.int 0)) (F_tail_dq : Fld Z h0 dq "java/util/ArrayDeque" "tail" "I" (.int 0)) (V_el : Arv Z h0 el ke (.object "java/lang/Object") (17 : Int32) [.null, .null, .null, .null, .null, .null, .null, .null, .null, .null, .null, .null, .null, .null, .null, .null, .null] .null) (O_el : Ovr Z ke "java/lang/Object") (E_sb : Exa Z h0 sb "java/lang/StringBuilder") (F_value_sb : Fld Z h0 sb "java/lang/AbstractStringBuilder" "value" "[B" (.ref b)) (F_coder_sb : Fld Z h0 sb "java/lang/AbstractStringBuilder" "coder" "B" (.int 0)) (F_count_sb : Fld Z h0 sb "java/lang/AbstractStringBuilder" "count" "I" (.int (Int32.ofNat wl.length))) (V_b : Arv Z h0 b kb .byte (54 : Int32) (own_bz wl) (.int 0)) (E_x : Exa Z h0 x "java/lang/String") (Fc_x : Fld Z h0 x "java/lang/String" "coder" "B" (.int 0)) (Fv_x : Fld Z h0 x "java/lang/String" "value" "[B" (.ref t)) (V_t : Arv Z h0 t kt .byte (Int32.ofNat ([cN]).length) (own_b ([cN])) (.int 0)) (htb : t ≠ b) (S_C : Sta Z h0 "java/lang/String" "COMPACT_STRINGS" "Z" (.int zc)) (hz : ¬ (zc = (0 : Int32))) (hl : wl.length ≤ 50) :
    own_M l (⟨"com/example/sluice/sluice/server/XmlWriter", "start", "(Ljava/lang/String;)Lcom/example/sluice/sluice/server/XmlWriter;"⟩ : MethodName) prog_22_method_5_code 2 (some (.object "com/example/sluice/sluice/server/XmlWriter")) ws ({ frames := 5, cells := 0, slots := 0, locals := 74 } : Room) Z #[(.ref w_), (.ref x)] h0 (Q_start_0 Z w_ dq el sb b ke kb wl x t kt cN zc h0 n0) := by
  refine own_body (own := "com/example/sluice/sluice/server/XmlWriter") rfl (plainFor_of_name pn_21) (fun m => ef_start_0 m w_ x) ?_
  intro p e s m below meth c s₁ Bd hml hZ hh hx hby hown X0 e0
  have N0 := Fr.nil n0
  have lt1 : h0.size > w_ := E_w.lt
  have lt2 : h0.size > dq := E_dq.lt
  have lt3 : h0.size > el := V_el.lt
  have lt4 : h0.size > sb := E_sb.lt
  have lt5 : h0.size > b := V_b.lt
  have lt6 : h0.size > x := E_x.lt
  have lt7 : h0.size > t := V_t.lt
  refine own_aloadN X0.here hx hby d21_0 rfl rfl ?_
  refine own_getF X0 hx hZ hown (host := "") (Or.inl (own_w hw 112 rfl)) Via.refl e0 F_xml_w hby d21_1 ?_
  intro T8 X8 e8
  refine own_bipush X8.here hx hby d21_4 (v := (60 : Int32)) (by decide) ?_
  refine own_virtual X8 hx hZ hown (own_w hw 135 rfl) (own_w hw 136 rfl) (notFace_of_selects (args := #[]) (mvT hZ (own_w hw 138 rfl))) (own_w hw 138 rfl) (own_w hw 137 rfl) (own_w hw 41 rfl) (own_w hw 139 rfl) (by decide) (sbAppC l Z a0 hw [] sb b kb wl (60 : Int32) (60 : Int32) zc h0 n0 Z0 g_sb g_b E_sb F_value_sb F_coder_sb F_count_sb V_b S_C hz (by first | omega | (simp only [List.length_append, List.length_cons, List.length_nil]; omega)) (by decide) (by decide)) 0 (Nat.le_of_eq rfl) (by decide) (by decide) (by rw [hml]; rfl) (argsL := [(.int 60)]) (st := []) E_sb (lenOf pd_18 rfl) rfl rfl (by decide) (by decide) e8 hby d21_6 ?_
  intro T9 v9 L9 X9 hQ9
  obtain ⟨rfl, Nq9, K9, P9_0, P9_1, P9_2, P9_3, P9_4⟩ := hQ9
  have N9 := Fr.app N0 Nq9
  have z10 : h0.size ≤ T9.heap.size := K9.1
  have lt11 : T9.heap.size > sb := P9_0.lt
  have lt12 : T9.heap.size > b := P9_4.lt
  refine own_sh (T := T9) 9 #[.val (.ref w_), .val (.ref x)] [(.ref sb)] ?_
  refine own_aloadN X9.here hx hby d21_9 rfl rfl ?_
  have f13 := (E_x.keep K9)
  have f14 := (Fc_x.keep K9 (ninS (ne_exa E_x E_sb (by decide)) (ninS (own_ne_oa E_x (own_w hw 8 rfl) V_b) nin0)))
  have f15 := (Fv_x.keep K9 (ninS (ne_exa E_x E_sb (by decide)) (ninS (own_ne_oa E_x (own_w hw 8 rfl) V_b) nin0)))
  have f16 := (V_t.keep K9 (ninS (Ne.symm (own_ne_oa E_sb (own_w hw 40 rfl) V_t)) (ninS htb nin0)))
  have f17 := (own_sta_keep S_C K9 (allS (own_exa_plain E_sb) (allS (own_arv_plain V_b) all0)))
  have z19 : n0 ≤ T9.heap.size := by omega
  refine own_virtual X9 hx hZ hown (own_w hw 150 rfl) (own_w hw 78 rfl) (notFace_of_selects (args := #[]) (mvT hZ (own_w hw 80 rfl))) (own_w hw 80 rfl) (own_w hw 79 rfl) (own_w hw 41 rfl) (own_w hw 81 rfl) (by decide) (sbAppG l Z a0 hw [] sb b x t kb kt (wl ++ [(60 : Int32)]) ([cN]) zc T9.heap n0 z19 P9_0 P9_1 P9_2 P9_4 f13 f14 f15 f16 g_b f17 hz (by first | omega | (simp only [List.length_append, List.length_cons, List.length_nil]; omega)) g_sb P9_3) 0 (Nat.le_of_eq rfl) (by decide) (by decide) (by rw [hml]; rfl) (argsL := [(.ref x)]) (st := []) P9_0 (lenOf pd_10 rfl) rfl rfl (by decide) (by decide) rfl hby d21_10 ?_
  intro T18 v18 L18 X18 hQ18
  obtain ⟨rfl, Nq18, K18, P18_0, P18_1, P18_2, P18_3, P18_4⟩ := hQ18
  have N18 := Fr.app N9 Nq18
  have z20 : T9.heap.size ≤ T18.heap.size := K18.1
  have lt21 : T18.heap.size > sb := P18_0.lt
  have lt22 : T18.heap.size > b := P18_4.lt
  refine own_sh (T := T18) 13 #[.val (.ref w_), .val (.ref x)] [(.ref sb)] ?_
  refine own_bipush X18.here hx hby d21_13 (v := (62 : Int32)) (by decide) ?_
  have f23 := (own_sta_keep f17 K18 (allS (own_exa_plain P9_0) (allS (own_arv_plain P9_4) all0)))
  have z25 : n0 ≤ T18.heap.size := by omega
  refine own_virtual X18 hx hZ hown (own_w hw 135 rfl) (own_w hw 136 rfl) (notFace_of_selects (args := #[]) (mvT hZ (own_w hw 138 rfl))) (own_w hw 138 rfl) (own_w hw 137 rfl) (own_w hw 41 rfl) (own_w hw 139 rfl) (by decide) (sbAppC l Z a0 hw [] sb b kb ((wl ++ [(60 : Int32)]) ++ ([cN])) (62 : Int32) (62 : Int32) zc T18.heap n0 z25 g_sb g_b P18_0 P18_1 P18_2 P18_3 P18_4 f23 hz (by first | omega | (simp only [List.length_append, List.length_cons, List.length_nil]; omega)) (by decide) (by decide)) 0 (Nat.le_of_eq rfl) (by decide) (by decide) (by rw [hml]; rfl) (argsL := [(.int 62)]) (st := []) P18_0 (lenOf pd_18 rfl) rfl rfl (by decide) (by decide) rfl hby d21_15 ?_
  intro T24 v24 L24 X24 hQ24
  obtain ⟨rfl, Nq24, K24, P24_0, P24_1, P24_2, P24_3, P24_4⟩ := hQ24
  have N24 := Fr.app N18 Nq24
  have z26 : T18.heap.size ≤ T24.heap.size := K24.1
  have lt27 : T24.heap.size > sb := P24_0.lt
  have lt28 : T24.heap.size > b := P24_4.lt
  refine own_sh (T := T24) 18 #[.val (.ref w_), .val (.ref x)] [(.ref sb)] ?_
  refine own_pop X24.here hx hby d21_18 rfl ?_
  refine own_aloadN X24.here hx hby d21_19 rfl rfl ?_
  have f29 := (((F_open_w.keep K9 (ninS (ne_exa E_w E_sb (by decide)) (ninS (own_ne_oa E_w (own_w hw 1 rfl) V_b) nin0))).keep K18 (ninS (ne_exa E_w E_sb (by decide)) (ninS (own_ne_oa E_w (own_w hw 1 rfl) V_b) nin0))).keep K24 (ninS (ne_exa E_w E_sb (by decide)) (ninS (own_ne_oa E_w (own_w hw 1 rfl) V_b) nin0)))
  refine own_getF X24 hx hZ hown (host := "") (Or.inl (own_w hw 37 rfl)) Via.refl rfl f29 hby d21_20 ?_
  intro T30 X30 e30
  refine own_aloadN X30.here hx hby d21_23 rfl rfl ?_
  have f31 := ((f13.keep K18).keep K24)
  have f32 := (((E_dq.keep K9).keep K18).keep K24)
  have f33 := (((F_elements_dq.keep K9 (ninS (ne_exa E_dq E_sb (by decide)) (ninS (own_ne_oa E_dq (own_w hw 21 rfl) V_b) nin0))).keep K18 (ninS (ne_exa E_dq E_sb (by decide)) (ninS (own_ne_oa E_dq (own_w hw 21 rfl) V_b) nin0))).keep K24 (ninS (ne_exa E_dq E_sb (by decide)) (ninS (own_ne_oa E_dq (own_w hw 21 rfl) V_b) nin0)))
  have f34 := (((F_head_dq.keep K9 (ninS (ne_exa E_dq E_sb (by decide)) (ninS (own_ne_oa E_dq (own_w hw 21 rfl) V_b) nin0))).keep K18 (ninS (ne_exa E_dq E_sb (by decide)) (ninS (own_ne_oa E_dq (own_w hw 21 rfl) V_b) nin0))).keep K24 (ninS (ne_exa E_dq E_sb (by decide)) (ninS (own_ne_oa E_dq (own_w hw 21 rfl) V_b) nin0)))
  have f35 := (((F_tail_dq.keep K9 (ninS (ne_exa E_dq E_sb (by decide)) (ninS (own_ne_oa E_dq (own_w hw 21 rfl) V_b) nin0))).keep K18 (ninS (ne_exa E_dq E_sb (by decide)) (ninS (own_ne_oa E_dq (own_w hw 21 rfl) V_b) nin0))).keep K24 (ninS (ne_exa E_dq E_sb (by decide)) (ninS (own_ne_oa E_dq (own_w hw 21 rfl) V_b) nin0)))
  have f36 := (((V_el.keep K9 (ninS (Ne.symm (own_ne_oa E_sb (own_w hw 40 rfl) V_el)) (ninS (own_ne_aa V_el V_b (by decide)) nin0))).keep K18 (ninS (Ne.symm (own_ne_oa E_sb (own_w hw 40 rfl) V_el)) (ninS (own_ne_aa V_el V_b (by decide)) nin0))).keep K24 (ninS (Ne.symm (own_ne_oa E_sb (own_w hw 40 rfl) V_el)) (ninS (own_ne_aa V_el V_b (by decide)) nin0)))
  have z38 : n0 ≤ T24.heap.size := by omega
  refine own_interface X30 hx hZ hown (own_w hw 151 rfl) (own_w hw 152 rfl) (own_w hw 153 rfl) (own_w hw 154 rfl) (own_w hw 155 rfl) (own_w hw 156 rfl) (own_w hw 157 rfl) (own_w hw 158 rfl) (own_w hw 22 rfl) (own_w hw 159 rfl) (by decide) (push_0 l Z a0 hw [] dq el x ke T24.heap n0 z38 g_dq g_el f31 f32 f33 f34 f35 f36 O_el) 0 (Nat.le_of_eq rfl) (by decide) (by decide) (by rw [hml]; rfl) (argsL := [(.ref x)]) (st := []) f32 (lenOf pd_15 rfl) rfl rfl (by decide) (by decide) e30 hby d21_24 ?_
  intro T37 v37 L37 X37 hQ37
  obtain ⟨rfl, Nq37, K37, P37_0, P37_1, P37_2, P37_3, P37_4, P37_5⟩ := hQ37
  have N37 := Fr.app N24 Nq37
  have z39 : T24.heap.size ≤ T37.heap.size := K37.1
  have lt40 : T37.heap.size > dq := P37_0.lt
  have lt41 : T37.heap.size > el := P37_4.lt
  refine own_sh (T := T37) 29 #[.val (.ref w_), .val (.ref x)] [] ?_
  refine own_aloadN X37.here hx hby d21_29 rfl rfl ?_
  have K42 : Keep h0 T37.heap [dq, el, sb, b] := (((((Keep.refl h0 [dq, el, sb, b]).trans K9 (allS (P := fun xq_ => xq_ ∈ [dq, el, sb, b] ∨ h0.size ≤ xq_) (Or.inl (List.mem_of_getElem? (i := 2) rfl)) (allS (P := fun xq_ => xq_ ∈ [dq, el, sb, b] ∨ h0.size ≤ xq_) (Or.inl (List.mem_of_getElem? (i := 3) rfl)) all0))).trans K18 (allS (P := fun xq_ => xq_ ∈ [dq, el, sb, b] ∨ h0.size ≤ xq_) (Or.inl (List.mem_of_getElem? (i := 2) rfl)) (allS (P := fun xq_ => xq_ ∈ [dq, el, sb, b] ∨ h0.size ≤ xq_) (Or.inl (List.mem_of_getElem? (i := 3) rfl)) all0))).trans K24 (allS (P := fun xq_ => xq_ ∈ [dq, el, sb, b] ∨ h0.size ≤ xq_) (Or.inl (List.mem_of_getElem? (i := 2) rfl)) (allS (P := fun xq_ => xq_ ∈ [dq, el, sb, b] ∨ h0.size ≤ xq_) (Or.inl (List.mem_of_getElem? (i := 3) rfl)) all0))).trans K37 (allS (P := fun xq_ => xq_ ∈ [dq, el, sb, b] ∨ h0.size ≤ xq_) (Or.inl (List.mem_of_getElem? (i := 0) rfl)) (allS (P := fun xq_ => xq_ ∈ [dq, el, sb, b] ∨ h0.size ≤ xq_) (Or.inl (List.mem_of_getElem? (i := 1) rfl)) all0)))
  have f43 := ((((E_w.keep K9).keep K18).keep K24).keep K37)
  have f44 := (f29.keep K37 (ninS (ne_exa E_w E_dq (by decide)) (ninS (own_ne_oa E_w (own_w hw 1 rfl) V_el) nin0)))
  have f45 := ((((F_xml_w.keep K9 (ninS (ne_exa E_w E_sb (by decide)) (ninS (own_ne_oa E_w (own_w hw 1 rfl) V_b) nin0))).keep K18 (ninS (ne_exa E_w E_sb (by decide)) (ninS (own_ne_oa E_w (own_w hw 1 rfl) V_b) nin0))).keep K24 (ninS (ne_exa E_w E_sb (by decide)) (ninS (own_ne_oa E_w (own_w hw 1 rfl) V_b) nin0))).keep K37 (ninS (ne_exa E_w E_dq (by decide)) (ninS (own_ne_oa E_w (own_w hw 1 rfl) V_el) nin0)))
  have f46 := (P24_0.keep K37)
  have f47 := (P24_1.keep K37 (ninS (ne_exa E_sb E_dq (by decide)) (ninS (own_ne_oa E_sb (own_w hw 40 rfl) V_el) nin0)))
  have f48 := (P24_2.keep K37 (ninS (ne_exa E_sb E_dq (by decide)) (ninS (own_ne_oa E_sb (own_w hw 40 rfl) V_el) nin0)))
  have f49 := (P24_3.keep K37 (ninS (ne_exa E_sb E_dq (by decide)) (ninS (own_ne_oa E_sb (own_w hw 40 rfl) V_el) nin0)))
  have f50 := (P24_4.keep K37 (ninS (Ne.symm (own_ne_oa E_dq (own_w hw 21 rfl) V_b)) (ninS (own_ne_aa V_b V_el (by decide)) nin0)))
  have f51 := (f31.keep K37)
  have f52 := (((f14.keep K18 (ninS (ne_exa E_x E_sb (by decide)) (ninS (own_ne_oa E_x (own_w hw 8 rfl) V_b) nin0))).keep K24 (ninS (ne_exa E_x E_sb (by decide)) (ninS (own_ne_oa E_x (own_w hw 8 rfl) V_b) nin0))).keep K37 (ninS (ne_exa E_x E_dq (by decide)) (ninS (own_ne_oa E_x (own_w hw 8 rfl) V_el) nin0)))
  have f53 := (((f15.keep K18 (ninS (ne_exa E_x E_sb (by decide)) (ninS (own_ne_oa E_x (own_w hw 8 rfl) V_b) nin0))).keep K24 (ninS (ne_exa E_x E_sb (by decide)) (ninS (own_ne_oa E_x (own_w hw 8 rfl) V_b) nin0))).keep K37 (ninS (ne_exa E_x E_dq (by decide)) (ninS (own_ne_oa E_x (own_w hw 8 rfl) V_el) nin0)))
  have f54 := (((f16.keep K18 (ninS (Ne.symm (own_ne_oa E_sb (own_w hw 40 rfl) V_t)) (ninS htb nin0))).keep K24 (ninS (Ne.symm (own_ne_oa E_sb (own_w hw 40 rfl) V_t)) (ninS htb nin0))).keep K37 (ninS (Ne.symm (own_ne_oa E_dq (own_w hw 21 rfl) V_t)) (ninS (own_ne_aa V_t V_el (by decide)) nin0)))
  obtain ⟨fs, hr, hrun, hended, hW, hsame⟩ := X37.leave (v := some (.ref w_)) (fun h => by rw [Bd.returns] at h; cases h) Bd.notSynchronized
  refine own_ret (t := T37.setFrames fs) ?_ ⟨_, hrun, hended, _, _, rfl, ?_, ⟨_, rfl⟩, hW, hsame.mono (by decide) (by decide)⟩
  · exact retOut X37 hx Bd.returns rfl (Or.inr (Or.inr (Or.inr (Or.inr ⟨rfl, rfl, rfl⟩)))) (hb hby d21_30) hr
  · show Q_start_0 Z _ _ _ _ _ _ _ _ _ _ _ _ _ h0 n0 _ T37.heap _
    exact ⟨rfl, N37, K42, f43, f44, f45, P37_0, P37_1, P37_2, P37_3, P37_4, P37_5, f46, f47, f48, f49, f50, f51, f52, f53, f54⟩
def Q_start_16 (Z : State) (w_ : Nat) (dq : Nat) (el : Nat) (sb : Nat) (b : Nat) (ke : ClassId) (kb : ClassId) (wl : List Int32) (x : Nat) (t : Nat) (y1 : Nat) (kt : ClassId) (cN : Int32) (zc : Int32) (h0 : Heap) (n0 : Nat) (vR : Option Value) (hR : Heap) (LR : List Loc) : Prop := vR = some (.ref w_) ∧ Fr n0 LR ∧ Keep h0 hR [dq, el, sb, b] ∧ (Exa Z hR w_ "com/example/sluice/sluice/server/XmlWriter") ∧ (Fld Z hR w_ "com/example/sluice/sluice/server/XmlWriter" "open" "Ljava/util/Deque;" (.ref dq)) ∧ (Fld Z hR w_ "com/example/sluice/sluice/server/XmlWriter" "xml" "Ljava/lang/StringBuilder;" (.ref sb)) ∧ (Exa Z hR dq "java/util/ArrayDeque") ∧ (Fld Z hR dq "java/util/ArrayDeque" "elements" "[Ljava/lang/Object;" (.ref el)) ∧ (Fld Z hR dq "java/util/ArrayDeque" "head" "I" (.int 15)) ∧ (Fld Z hR dq "java/util/ArrayDeque" "tail" "I" (.int 0)) ∧ (Arv Z hR el ke (.object "java/lang/Object") (17 : Int32) [.null, .null, .null, .null, .null, .null, .null, .null, .null, .null, .null, .null, .null, .null, .null, (.ref x), (.ref y1)] .null) ∧ (Ovr Z ke "java/lang/Object") ∧ (Exa Z hR sb "java/lang/StringBuilder") ∧ (Fld Z hR sb "java/lang/AbstractStringBuilder" "value" "[B" (.ref b)) ∧ (Fld Z hR sb "java/lang/AbstractStringBuilder" "coder" "B" (.int 0)) ∧ (Fld Z hR sb "java/lang/AbstractStringBuilder" "count" "I" (.int (Int32.ofNat (((wl ++ [(60 : Int32)]) ++ [cN]) ++ [(62 : Int32)]).length))) ∧ (Arv Z hR b kb .byte (54 : Int32) (own_bz (((wl ++ [(60 : Int32)]) ++ [cN]) ++ [(62 : Int32)])) (.int 0)) ∧ (Exa Z hR x "java/lang/String") ∧ (Fld Z hR x "java/lang/String" "coder" "B" (.int 0)) ∧ (Fld Z hR x "java/lang/String" "value" "[B" (.ref t)) ∧ (Arv Z hR t kt .byte (Int32.ofNat ([cN]).length) (own_b ([cN])) (.int 0))
set_option maxRecDepth 65536 in
set_option maxHeartbeats 40000000 in
theorem start_16 (l : Launch) (Z : State) (a0 : Array Value) (hw : ∀ d ∈ tables_1, d.before a0 Z = true) (ws : List Jvm.Cond) (w_ : Nat) (dq : Nat) (el : Nat) (sb : Nat) (b : Nat) (ke : ClassId) (kb : ClassId) (wl : List Int32) (x : Nat) (t : Nat) (y1 : Nat) (kt : ClassId) (cN : Int32) (zc : Int32) (h0 : Heap) (n0 : Nat) (Z0 : n0 ≤ h0.size) (g_sb : n0 ≤ sb) (g_b : n0 ≤ b) (g_dq : n0 ≤ dq) (g_el : n0 ≤ el) (E_w : Exa Z h0 w_ "com/example/sluice/sluice/server/XmlWriter") (F_open_w : Fld Z h0 w_ "com/example/sluice/sluice/server/XmlWriter" "open" "Ljava/util/Deque;" (.ref dq)) (F_xml_w : Fld Z h0 w_ "com/example/sluice/sluice/server/XmlWriter" "xml" "Ljava/lang/StringBuilder;" (.ref sb)) (E_dq : Exa Z h0 dq "java/util/ArrayDeque") (F_elements_dq : Fld Z h0 dq "java/util/ArrayDeque" "elements" "[Ljava/lang/Object;" (.ref el)) (F_head_dq : Fld Z h0 dq "java/util/ArrayDeque" "head" "I" (.int 16)) (F_tail_dq : Fld Z h0 dq "java/util/ArrayDeque" "tail" "I" (.int 0)) (V_el : Arv Z h0 el ke (.object "java/lang/Object") (17 : Int32) [.null, .null, .null, .null, .null, .null, .null, .null, .null, .null, .null, .null, .null, .null, .null, .null, (.ref y1)] .null) (O_el : Ovr Z ke "java/lang/Object") (E_sb : Exa Z h0 sb "java/lang/StringBuilder") (F_value_sb : Fld Z h0 sb "java/lang/AbstractStringBuilder" "value" "[B" (.ref b)) (F_coder_sb : Fld Z h0 sb "java/lang/AbstractStringBuilder" "coder" "B" (.int 0)) (F_count_sb : Fld Z h0 sb "java/lang/AbstractStringBuilder" "count" "I" (.int (Int32.ofNat wl.length))) (V_b : Arv Z h0 b kb .byte (54 : Int32) (own_bz wl) (.int 0)) (E_x : Exa Z h0 x "java/lang/String") (Fc_x : Fld Z h0 x "java/lang/String" "coder" "B" (.int 0)) (Fv_x : Fld Z h0 x "java/lang/String" "value" "[B" (.ref t)) (V_t : Arv Z h0 t kt .byte (Int32.ofNat ([cN]).length) (own_b ([cN])) (.int 0)) (htb : t ≠ b) (S_C : Sta Z h0 "java/lang/String" "COMPACT_STRINGS" "Z" (.int zc)) (hz : ¬ (zc = (0 : Int32))) (hl : wl.length ≤ 50) :
    own_M l (⟨"com/example/sluice/sluice/server/XmlWriter", "start", "(Ljava/lang/String;)Lcom/example/sluice/sluice/server/XmlWriter;"⟩ : MethodName) prog_22_method_5_code 2 (some (.object "com/example/sluice/sluice/server/XmlWriter")) ws ({ frames := 5, cells := 0, slots := 0, locals := 74 } : Room) Z #[(.ref w_), (.ref x)] h0 (Q_start_16 Z w_ dq el sb b ke kb wl x t y1 kt cN zc h0 n0) := by
  refine own_body (own := "com/example/sluice/sluice/server/XmlWriter") rfl (plainFor_of_name pn_21) (fun m => ef_start_0 m w_ x) ?_
  intro p e s m below meth c s₁ Bd hml hZ hh hx hby hown X0 e0
  have N0 := Fr.nil n0
  have lt2 : h0.size > w_ := E_w.lt
  have lt3 : h0.size > dq := E_dq.lt
  have lt4 : h0.size > el := V_el.lt
  have lt5 : h0.size > sb := E_sb.lt
  have lt6 : h0.size > b := V_b.lt
  have lt7 : h0.size > x := E_x.lt
  have lt8 : h0.size > t := V_t.lt
  refine own_aloadN X0.here hx hby d21_0 rfl rfl ?_
  refine own_getF X0 hx hZ hown (host := "") (Or.inl (own_w hw 112 rfl)) Via.refl e0 F_xml_w hby d21_1 ?_
  intro T9 X9 e9
  refine own_bipush X9.here hx hby d21_4 (v := (60 : Int32)) (by decide) ?_
  refine own_virtual X9 hx hZ hown (own_w hw 135 rfl) (own_w hw 136 rfl) (notFace_of_selects (args := #[]) (mvT hZ (own_w hw 138 rfl))) (own_w hw 138 rfl) (own_w hw 137 rfl) (own_w hw 41 rfl) (own_w hw 139 rfl) (by decide) (sbAppC l Z a0 hw [] sb b kb wl (60 : Int32) (60 : Int32) zc h0 n0 Z0 g_sb g_b E_sb F_value_sb F_coder_sb F_count_sb V_b S_C hz (by first | omega | (simp only [List.length_append, List.length_cons, List.length_nil]; omega)) (by decide) (by decide)) 0 (Nat.le_of_eq rfl) (by decide) (by decide) (by rw [hml]; rfl) (argsL := [(.int 60)]) (st := []) E_sb (lenOf pd_18 rfl) rfl rfl (by decide) (by decide) e9 hby d21_6 ?_
  intro T10 v10 L10 X10 hQ10
  obtain ⟨rfl, Nq10, K10, P10_0, P10_1, P10_2, P10_3, P10_4⟩ := hQ10
  have N10 := Fr.app N0 Nq10
  have z11 : h0.size ≤ T10.heap.size := K10.1
  have lt12 : T10.heap.size > sb := P10_0.lt
  have lt13 : T10.heap.size > b := P10_4.lt
  refine own_sh (T := T10) 9 #[.val (.ref w_), .val (.ref x)] [(.ref sb)] ?_
  refine own_aloadN X10.here hx hby d21_9 rfl rfl ?_
  have f14 := (E_x.keep K10)
  have f15 := (Fc_x.keep K10 (ninS (ne_exa E_x E_sb (by decide)) (ninS (own_ne_oa E_x (own_w hw 8 rfl) V_b) nin0)))
  have f16 := (Fv_x.keep K10 (ninS (ne_exa E_x E_sb (by decide)) (ninS (own_ne_oa E_x (own_w hw 8 rfl) V_b) nin0)))
  have f17 := (V_t.keep K10 (ninS (Ne.symm (own_ne_oa E_sb (own_w hw 40 rfl) V_t)) (ninS htb nin0)))
  have f18 := (own_sta_keep S_C K10 (allS (own_exa_plain E_sb) (allS (own_arv_plain V_b) all0)))
  have z20 : n0 ≤ T10.heap.size := by omega
  refine own_virtual X10 hx hZ hown (own_w hw 150 rfl) (own_w hw 78 rfl) (notFace_of_selects (args := #[]) (mvT hZ (own_w hw 80 rfl))) (own_w hw 80 rfl) (own_w hw 79 rfl) (own_w hw 41 rfl) (own_w hw 81 rfl) (by decide) (sbAppG l Z a0 hw [] sb b x t kb kt (wl ++ [(60 : Int32)]) ([cN]) zc T10.heap n0 z20 P10_0 P10_1 P10_2 P10_4 f14 f15 f16 f17 g_b f18 hz (by first | omega | (simp only [List.length_append, List.length_cons, List.length_nil]; omega)) g_sb P10_3) 0 (Nat.le_of_eq rfl) (by decide) (by decide) (by rw [hml]; rfl) (argsL := [(.ref x)]) (st := []) P10_0 (lenOf pd_10 rfl) rfl rfl (by decide) (by decide) rfl hby d21_10 ?_
  intro T19 v19 L19 X19 hQ19
  obtain ⟨rfl, Nq19, K19, P19_0, P19_1, P19_2, P19_3, P19_4⟩ := hQ19
  have N19 := Fr.app N10 Nq19
  have z21 : T10.heap.size ≤ T19.heap.size := K19.1
  have lt22 : T19.heap.size > sb := P19_0.lt
  have lt23 : T19.heap.size > b := P19_4.lt
  refine own_sh (T := T19) 13 #[.val (.ref w_), .val (.ref x)] [(.ref sb)] ?_
  refine own_bipush X19.here hx hby d21_13 (v := (62 : Int32)) (by decide) ?_
  have f24 := (own_sta_keep f18 K19 (allS (own_exa_plain P10_0) (allS (own_arv_plain P10_4) all0)))
  have z26 : n0 ≤ T19.heap.size := by omega
  refine own_virtual X19 hx hZ hown (own_w hw 135 rfl) (own_w hw 136 rfl) (notFace_of_selects (args := #[]) (mvT hZ (own_w hw 138 rfl))) (own_w hw 138 rfl) (own_w hw 137 rfl) (own_w hw 41 rfl) (own_w hw 139 rfl) (by decide) (sbAppC l Z a0 hw [] sb b kb ((wl ++ [(60 : Int32)]) ++ ([cN])) (62 : Int32) (62 : Int32) zc T19.heap n0 z26 g_sb g_b P19_0 P19_1 P19_2 P19_3 P19_4 f24 hz (by first | omega | (simp only [List.length_append, List.length_cons, List.length_nil]; omega)) (by decide) (by decide)) 0 (Nat.le_of_eq rfl) (by decide) (by decide) (by rw [hml]; rfl) (argsL := [(.int 62)]) (st := []) P19_0 (lenOf pd_18 rfl) rfl rfl (by decide) (by decide) rfl hby d21_15 ?_
  intro T25 v25 L25 X25 hQ25
  obtain ⟨rfl, Nq25, K25, P25_0, P25_1, P25_2, P25_3, P25_4⟩ := hQ25
  have N25 := Fr.app N19 Nq25
  have z27 : T19.heap.size ≤ T25.heap.size := K25.1
  have lt28 : T25.heap.size > sb := P25_0.lt
  have lt29 : T25.heap.size > b := P25_4.lt
  refine own_sh (T := T25) 18 #[.val (.ref w_), .val (.ref x)] [(.ref sb)] ?_
  refine own_pop X25.here hx hby d21_18 rfl ?_
  refine own_aloadN X25.here hx hby d21_19 rfl rfl ?_
  have f30 := (((F_open_w.keep K10 (ninS (ne_exa E_w E_sb (by decide)) (ninS (own_ne_oa E_w (own_w hw 1 rfl) V_b) nin0))).keep K19 (ninS (ne_exa E_w E_sb (by decide)) (ninS (own_ne_oa E_w (own_w hw 1 rfl) V_b) nin0))).keep K25 (ninS (ne_exa E_w E_sb (by decide)) (ninS (own_ne_oa E_w (own_w hw 1 rfl) V_b) nin0)))
  refine own_getF X25 hx hZ hown (host := "") (Or.inl (own_w hw 37 rfl)) Via.refl rfl f30 hby d21_20 ?_
  intro T31 X31 e31
  refine own_aloadN X31.here hx hby d21_23 rfl rfl ?_
  have f32 := ((f14.keep K19).keep K25)
  have f33 := (((E_dq.keep K10).keep K19).keep K25)
  have f34 := (((F_elements_dq.keep K10 (ninS (ne_exa E_dq E_sb (by decide)) (ninS (own_ne_oa E_dq (own_w hw 21 rfl) V_b) nin0))).keep K19 (ninS (ne_exa E_dq E_sb (by decide)) (ninS (own_ne_oa E_dq (own_w hw 21 rfl) V_b) nin0))).keep K25 (ninS (ne_exa E_dq E_sb (by decide)) (ninS (own_ne_oa E_dq (own_w hw 21 rfl) V_b) nin0)))
  have f35 := (((F_head_dq.keep K10 (ninS (ne_exa E_dq E_sb (by decide)) (ninS (own_ne_oa E_dq (own_w hw 21 rfl) V_b) nin0))).keep K19 (ninS (ne_exa E_dq E_sb (by decide)) (ninS (own_ne_oa E_dq (own_w hw 21 rfl) V_b) nin0))).keep K25 (ninS (ne_exa E_dq E_sb (by decide)) (ninS (own_ne_oa E_dq (own_w hw 21 rfl) V_b) nin0)))
  have f36 := (((F_tail_dq.keep K10 (ninS (ne_exa E_dq E_sb (by decide)) (ninS (own_ne_oa E_dq (own_w hw 21 rfl) V_b) nin0))).keep K19 (ninS (ne_exa E_dq E_sb (by decide)) (ninS (own_ne_oa E_dq (own_w hw 21 rfl) V_b) nin0))).keep K25 (ninS (ne_exa E_dq E_sb (by decide)) (ninS (own_ne_oa E_dq (own_w hw 21 rfl) V_b) nin0)))
  have f37 := (((V_el.keep K10 (ninS (Ne.symm (own_ne_oa E_sb (own_w hw 40 rfl) V_el)) (ninS (own_ne_aa V_el V_b (by decide)) nin0))).keep K19 (ninS (Ne.symm (own_ne_oa E_sb (own_w hw 40 rfl) V_el)) (ninS (own_ne_aa V_el V_b (by decide)) nin0))).keep K25 (ninS (Ne.symm (own_ne_oa E_sb (own_w hw 40 rfl) V_el)) (ninS (own_ne_aa V_el V_b (by decide)) nin0)))
  have z39 : n0 ≤ T25.heap.size := by omega
  refine own_interface X31 hx hZ hown (own_w hw 151 rfl) (own_w hw 152 rfl) (own_w hw 153 rfl) (own_w hw 154 rfl) (own_w hw 155 rfl) (own_w hw 156 rfl) (own_w hw 157 rfl) (own_w hw 158 rfl) (own_w hw 22 rfl) (own_w hw 159 rfl) (by decide) (push_16 l Z a0 hw [] dq el x y1 ke T25.heap n0 z39 g_dq g_el f32 f33 f34 f35 f36 f37 O_el) 0 (Nat.le_of_eq rfl) (by decide) (by decide) (by rw [hml]; rfl) (argsL := [(.ref x)]) (st := []) f33 (lenOf pd_15 rfl) rfl rfl (by decide) (by decide) e31 hby d21_24 ?_
  intro T38 v38 L38 X38 hQ38
  obtain ⟨rfl, Nq38, K38, P38_0, P38_1, P38_2, P38_3, P38_4, P38_5⟩ := hQ38
  have N38 := Fr.app N25 Nq38
  have z40 : T25.heap.size ≤ T38.heap.size := K38.1
  have lt41 : T38.heap.size > dq := P38_0.lt
  have lt42 : T38.heap.size > el := P38_4.lt
  refine own_sh (T := T38) 29 #[.val (.ref w_), .val (.ref x)] [] ?_
  refine own_aloadN X38.here hx hby d21_29 rfl rfl ?_
  have K43 : Keep h0 T38.heap [dq, el, sb, b] := (((((Keep.refl h0 [dq, el, sb, b]).trans K10 (allS (P := fun xq_ => xq_ ∈ [dq, el, sb, b] ∨ h0.size ≤ xq_) (Or.inl (List.mem_of_getElem? (i := 2) rfl)) (allS (P := fun xq_ => xq_ ∈ [dq, el, sb, b] ∨ h0.size ≤ xq_) (Or.inl (List.mem_of_getElem? (i := 3) rfl)) all0))).trans K19 (allS (P := fun xq_ => xq_ ∈ [dq, el, sb, b] ∨ h0.size ≤ xq_) (Or.inl (List.mem_of_getElem? (i := 2) rfl)) (allS (P := fun xq_ => xq_ ∈ [dq, el, sb, b] ∨ h0.size ≤ xq_) (Or.inl (List.mem_of_getElem? (i := 3) rfl)) all0))).trans K25 (allS (P := fun xq_ => xq_ ∈ [dq, el, sb, b] ∨ h0.size ≤ xq_) (Or.inl (List.mem_of_getElem? (i := 2) rfl)) (allS (P := fun xq_ => xq_ ∈ [dq, el, sb, b] ∨ h0.size ≤ xq_) (Or.inl (List.mem_of_getElem? (i := 3) rfl)) all0))).trans K38 (allS (P := fun xq_ => xq_ ∈ [dq, el, sb, b] ∨ h0.size ≤ xq_) (Or.inl (List.mem_of_getElem? (i := 0) rfl)) (allS (P := fun xq_ => xq_ ∈ [dq, el, sb, b] ∨ h0.size ≤ xq_) (Or.inl (List.mem_of_getElem? (i := 1) rfl)) all0)))
  have f44 := ((((E_w.keep K10).keep K19).keep K25).keep K38)
  have f45 := (f30.keep K38 (ninS (ne_exa E_w E_dq (by decide)) (ninS (own_ne_oa E_w (own_w hw 1 rfl) V_el) nin0)))
  have f46 := ((((F_xml_w.keep K10 (ninS (ne_exa E_w E_sb (by decide)) (ninS (own_ne_oa E_w (own_w hw 1 rfl) V_b) nin0))).keep K19 (ninS (ne_exa E_w E_sb (by decide)) (ninS (own_ne_oa E_w (own_w hw 1 rfl) V_b) nin0))).keep K25 (ninS (ne_exa E_w E_sb (by decide)) (ninS (own_ne_oa E_w (own_w hw 1 rfl) V_b) nin0))).keep K38 (ninS (ne_exa E_w E_dq (by decide)) (ninS (own_ne_oa E_w (own_w hw 1 rfl) V_el) nin0)))
  have f47 := (P25_0.keep K38)
  have f48 := (P25_1.keep K38 (ninS (ne_exa E_sb E_dq (by decide)) (ninS (own_ne_oa E_sb (own_w hw 40 rfl) V_el) nin0)))
  have f49 := (P25_2.keep K38 (ninS (ne_exa E_sb E_dq (by decide)) (ninS (own_ne_oa E_sb (own_w hw 40 rfl) V_el) nin0)))
  have f50 := (P25_3.keep K38 (ninS (ne_exa E_sb E_dq (by decide)) (ninS (own_ne_oa E_sb (own_w hw 40 rfl) V_el) nin0)))
  have f51 := (P25_4.keep K38 (ninS (Ne.symm (own_ne_oa E_dq (own_w hw 21 rfl) V_b)) (ninS (own_ne_aa V_b V_el (by decide)) nin0)))
  have f52 := (f32.keep K38)
  have f53 := (((f15.keep K19 (ninS (ne_exa E_x E_sb (by decide)) (ninS (own_ne_oa E_x (own_w hw 8 rfl) V_b) nin0))).keep K25 (ninS (ne_exa E_x E_sb (by decide)) (ninS (own_ne_oa E_x (own_w hw 8 rfl) V_b) nin0))).keep K38 (ninS (ne_exa E_x E_dq (by decide)) (ninS (own_ne_oa E_x (own_w hw 8 rfl) V_el) nin0)))
  have f54 := (((f16.keep K19 (ninS (ne_exa E_x E_sb (by decide)) (ninS (own_ne_oa E_x (own_w hw 8 rfl) V_b) nin0))).keep K25 (ninS (ne_exa E_x E_sb (by decide)) (ninS (own_ne_oa E_x (own_w hw 8 rfl) V_b) nin0))).keep K38 (ninS (ne_exa E_x E_dq (by decide)) (ninS (own_ne_oa E_x (own_w hw 8 rfl) V_el) nin0)))
  have f55 := (((f17.keep K19 (ninS (Ne.symm (own_ne_oa E_sb (own_w hw 40 rfl) V_t)) (ninS htb nin0))).keep K25 (ninS (Ne.symm (own_ne_oa E_sb (own_w hw 40 rfl) V_t)) (ninS htb nin0))).keep K38 (ninS (Ne.symm (own_ne_oa E_dq (own_w hw 21 rfl) V_t)) (ninS (own_ne_aa V_t V_el (by decide)) nin0)))
  obtain ⟨fs, hr, hrun, hended, hW, hsame⟩ := X38.leave (v := some (.ref w_)) (fun h => by rw [Bd.returns] at h; cases h) Bd.notSynchronized
  refine own_ret (t := T38.setFrames fs) ?_ ⟨_, hrun, hended, _, _, rfl, ?_, ⟨_, rfl⟩, hW, hsame.mono (by decide) (by decide)⟩
  · exact retOut X38 hx Bd.returns rfl (Or.inr (Or.inr (Or.inr (Or.inr ⟨rfl, rfl, rfl⟩)))) (hb hby d21_30) hr
  · show Q_start_16 Z _ _ _ _ _ _ _ _ _ _ _ _ _ _ h0 n0 _ T38.heap _
    exact ⟨rfl, N38, K43, f44, f45, f46, P38_0, P38_1, P38_2, P38_3, P38_4, P38_5, f47, f48, f49, f50, f51, f52, f53, f54, f55⟩
theorem ef_end_16 (m : MethodId) (x0 : Nat) : entryFrame m #[(.ref x0)] 1 = mkF m 0 #[.val (.ref x0)] [] := by first | (simp [entryFrame, mkF, argsToLocals, Value.category]; done) | rfl
theorem pn_28 : plainName "com/example/sluice/sluice/server/XmlWriter" = true := by first | (simp [plainName, overriddenIn]; done) | decide +kernel
theorem d28_0 : decode prog_22_method_7_code 0 = .ok (.aload_n 0, 1) := by decide +kernel
theorem d28_1 : decode prog_22_method_7_code 1 = .ok (.getfield 24, 3) := by decide +kernel
theorem d28_4 : decode prog_22_method_7_code 4 = .ok (.ldc 50, 2) := by decide +kernel
theorem own_TL54 {Z : State} {a0 : Array Value} (hw : ∀ d ∈ tables_1, d.before a0 Z = true) : ∀ p ∈ consts_1, ∃ text : String, (Cond.stringLink p.1 p.2 text).before a0 Z = true ∧ (∀ c ∈ text.toList, c.toNat < 256) ∧ text.toList.length ≠ (54 : Int32).toNatClampNeg := by
  intro p hp
  simp only [consts_1, List.mem_cons, List.not_mem_nil, or_false] at hp
  rcases hp with rfl | rfl
  · exact ⟨"<?xml version=\"1.0\" encoding=\"UTF-8\"?>", own_w hw 6 rfl, by decide, by decide⟩
  · exact ⟨"</", own_w hw 178 rfl, by decide, by decide⟩
theorem d28_6 : decode prog_22_method_7_code 6 = .ok (.invokevirtual 34, 3) := by decide +kernel
theorem d28_9 : decode prog_22_method_7_code 9 = .ok (.aload_n 0, 1) := by decide +kernel
theorem d28_10 : decode prog_22_method_7_code 10 = .ok (.getfield 17, 3) := by decide +kernel
theorem d28_13 : decode prog_22_method_7_code 13 = .ok (.invokeinterface 52 1, 5) := by decide +kernel
theorem d28_18 : decode prog_22_method_7_code 18 = .ok (.checkcast 56, 3) := by decide +kernel
theorem d28_21 : decode prog_22_method_7_code 21 = .ok (.invokevirtual 34, 3) := by decide +kernel
theorem d28_24 : decode prog_22_method_7_code 24 = .ok (.bipush 62, 2) := by decide +kernel
theorem d28_26 : decode prog_22_method_7_code 26 = .ok (.invokevirtual 30, 3) := by decide +kernel
theorem d28_29 : decode prog_22_method_7_code 29 = .ok (.pop, 1) := by decide +kernel
theorem d28_30 : decode prog_22_method_7_code 30 = .ok (.aload_n 0, 1) := by decide +kernel
theorem d28_31 : decode prog_22_method_7_code 31 = .ok (.areturn, 1) := by decide +kernel
def Q_end_16 (Z : State) (w_ : Nat) (dq : Nat) (el : Nat) (sb : Nat) (b : Nat) (ke : ClassId) (kb : ClassId) (wl : List Int32) (t : Nat) (y1 : Nat) (kt : ClassId) (cN : Int32) (zc : Int32) (h0 : Heap) (n0 : Nat) (vR : Option Value) (hR : Heap) (LR : List Loc) : Prop := vR = some (.ref w_) ∧ Fr n0 LR ∧ Keep h0 hR [dq, el, sb, b] ∧ (Exa Z hR w_ "com/example/sluice/sluice/server/XmlWriter") ∧ (Fld Z hR w_ "com/example/sluice/sluice/server/XmlWriter" "open" "Ljava/util/Deque;" (.ref dq)) ∧ (Fld Z hR w_ "com/example/sluice/sluice/server/XmlWriter" "xml" "Ljava/lang/StringBuilder;" (.ref sb)) ∧ (Exa Z hR dq "java/util/ArrayDeque") ∧ (Fld Z hR dq "java/util/ArrayDeque" "elements" "[Ljava/lang/Object;" (.ref el)) ∧ (Fld Z hR dq "java/util/ArrayDeque" "head" "I" (.int 0)) ∧ (Fld Z hR dq "java/util/ArrayDeque" "tail" "I" (.int 0)) ∧ (Arv Z hR el ke (.object "java/lang/Object") (17 : Int32) [.null, .null, .null, .null, .null, .null, .null, .null, .null, .null, .null, .null, .null, .null, .null, .null, .null] .null) ∧ (Ovr Z ke "java/lang/Object") ∧ (Exa Z hR sb "java/lang/StringBuilder") ∧ (Fld Z hR sb "java/lang/AbstractStringBuilder" "value" "[B" (.ref b)) ∧ (Fld Z hR sb "java/lang/AbstractStringBuilder" "coder" "B" (.int 0)) ∧ (Fld Z hR sb "java/lang/AbstractStringBuilder" "count" "I" (.int (Int32.ofNat (((wl ++ ([60, 47] : List Int32)) ++ [cN]) ++ [(62 : Int32)]).length))) ∧ (Arv Z hR b kb .byte (54 : Int32) (own_bz (((wl ++ ([60, 47] : List Int32)) ++ [cN]) ++ [(62 : Int32)])) (.int 0))
set_option maxRecDepth 65536 in
set_option maxHeartbeats 40000000 in
theorem end_16 (l : Launch) (Z : State) (a0 : Array Value) (hw : ∀ d ∈ tables_1, d.before a0 Z = true) (ws : List Jvm.Cond) (w_ : Nat) (dq : Nat) (el : Nat) (sb : Nat) (b : Nat) (ke : ClassId) (kb : ClassId) (wl : List Int32) (t : Nat) (y1 : Nat) (kt : ClassId) (cN : Int32) (zc : Int32) (h0 : Heap) (n0 : Nat) (Z0 : n0 ≤ h0.size) (g_sb : n0 ≤ sb) (g_b : n0 ≤ b) (g_dq : n0 ≤ dq) (g_el : n0 ≤ el) (E_w : Exa Z h0 w_ "com/example/sluice/sluice/server/XmlWriter") (F_open_w : Fld Z h0 w_ "com/example/sluice/sluice/server/XmlWriter" "open" "Ljava/util/Deque;" (.ref dq)) (F_xml_w : Fld Z h0 w_ "com/example/sluice/sluice/server/XmlWriter" "xml" "Ljava/lang/StringBuilder;" (.ref sb)) (E_dq : Exa Z h0 dq "java/util/ArrayDeque") (F_elements_dq : Fld Z h0 dq "java/util/ArrayDeque" "elements" "[Ljava/lang/Object;" (.ref el)) (F_head_dq : Fld Z h0 dq "java/util/ArrayDeque" "head" "I" (.int 16)) (F_tail_dq : Fld Z h0 dq "java/util/ArrayDeque" "tail" "I" (.int 0)) (V_el : Arv Z h0 el ke (.object "java/lang/Object") (17 : Int32) [.null, .null, .null, .null, .null, .null, .null, .null, .null, .null, .null, .null, .null, .null, .null, .null, (.ref y1)] .null) (O_el : Ovr Z ke "java/lang/Object") (E_sb : Exa Z h0 sb "java/lang/StringBuilder") (F_value_sb : Fld Z h0 sb "java/lang/AbstractStringBuilder" "value" "[B" (.ref b)) (F_coder_sb : Fld Z h0 sb "java/lang/AbstractStringBuilder" "coder" "B" (.int 0)) (F_count_sb : Fld Z h0 sb "java/lang/AbstractStringBuilder" "count" "I" (.int (Int32.ofNat wl.length))) (V_b : Arv Z h0 b kb .byte (54 : Int32) (own_bz wl) (.int 0)) (E_y1 : Exa Z h0 y1 "java/lang/String") (Fc_y1 : Fld Z h0 y1 "java/lang/String" "coder" "B" (.int 0)) (Fv_y1 : Fld Z h0 y1 "java/lang/String" "value" "[B" (.ref t)) (V_t : Arv Z h0 t kt .byte (Int32.ofNat ([cN]).length) (own_b ([cN])) (.int 0)) (htb : t ≠ b) (S_C : Sta Z h0 "java/lang/String" "COMPACT_STRINGS" "Z" (.int zc)) (hz : ¬ (zc = (0 : Int32))) (hl : wl.length ≤ 50) :
    own_MH l (⟨"com/example/sluice/sluice/server/XmlWriter", "end", "()Lcom/example/sluice/sluice/server/XmlWriter;"⟩ : MethodName) prog_22_method_7_code 1 (some (.object "com/example/sluice/sluice/server/XmlWriter")) ws ({ frames := 5, cells := 2, slots := 12, locals := 74 } : Room) Z #[(.ref w_)] h0 (Q_end_16 Z w_ dq el sb b ke kb wl t y1 kt cN zc h0 n0) consts_1 := by
  refine own_bodyH (own := "com/example/sluice/sluice/server/XmlWriter") rfl (plainFor_of_name pn_28) (fun m => ef_end_16 m w_) ?_
  intro p e s m below meth c s₁ Bd hml hZ hh hx hby hown X0 e0 hS0 CH0
  have N0 := Fr.nil n0
  have hk0 : h0.size ≤ h0.size := Nat.le_refl _
  have Y0 : Stand p l e ({ frames := 5, cells := 2, slots := 12, locals := 74 } : Room) (s.setVm s.vm) m #[(.ref w_)] below meth c s₁ [] 0 0 := X0
  have hEL := own_EW hw
  have C0 := CHr.refl CH0
  have lt2 : h0.size > w_ := E_w.lt
  have lt3 : h0.size > dq := E_dq.lt
  have lt4 : h0.size > el := V_el.lt
  have lt5 : h0.size > sb := E_sb.lt
  have lt6 : h0.size > b := V_b.lt
  have lt7 : h0.size > y1 := E_y1.lt
  have lt8 : h0.size > t := V_t.lt
  refine own_aloadN Y0.here hx hby d28_0 rfl rfl ?_
  refine own_getF Y0 hx hZ hown (host := "") (Or.inl (own_w hw 112 rfl)) Via.refl e0 F_xml_w hby d28_1 ?_
  intro T9 X9 e9
  have own_wS0 : ∀ a ∈ Bundle.stringAtoms, a.before a0 Z = true := own_wS hw
  refine own_ldcCH X9 hx hZ hEL hown (own_w hw 178 rfl) own_wS0 e9 hS0 (by omega) C0.1 (List.mem_of_getElem? (i := 1) rfl) (vs := [(.int 60), (.int 47)]) (z := (2 : Int32)) ⟨by decide, by decide⟩ (by decide) (by decide) hby d28_4 8 (by decide) (by decide) (by decide) (by decide) ?_
  intro a10 T10 h10 kk10 vm10 b10 kb10 X10 e10 E10 hS10 hk10 hZ10 hown10 Ea10 Fc10 Fv10 Va10 la10 lb10 Cn10 ns10
  have z11 : h0.size ≤ h10.size := E10.1
  have C12 := C0.trans Cn10
  have f13 := (V_b.ext E10)
  have nl10_b := ns10 b (own_safe_len hZ10 (own_TL54 hw) f13)
  have f14 := (E_dq.ext E10)
  have nl10_dq := ns10 dq (Safe.exa hZ10.alike f14 (by decide) (by decide))
  have f15 := (V_el.ext E10)
  have nl10_el := ns10 el (Safe.arv hZ10.alike f15 (by decide))
  have f16 := (E_sb.ext E10)
  have nl10_sb := ns10 sb (Safe.exa hZ10.alike f16 (by decide) (by decide))
  have f17 := (E_w.ext E10)
  have nl10_w_ := ns10 w_ (Safe.exa hZ10.alike f17 (by decide) (by decide))
  have lt18 : h10.size > a10 := la10
  have lt19 : h10.size > b10 := lb10
  have V20 : Arv Z h10 b10 kb10 .byte (Int32.ofNat ([60, 47] : List Int32).length) (own_b ([60, 47] : List Int32)) (.int 0) := Va10
  have f21 := (F_value_sb.ext E10)
  have f22 := (F_coder_sb.ext E10)
  have f23 := (S_C.ext E10)
  have f24 := (F_count_sb.ext E10)
  have z26 : n0 ≤ h10.size := by omega
  refine own_virtual X10 hx hZ10 hown10 (own_w hw 150 rfl) (own_w hw 78 rfl) (notFace_of_selects (args := #[]) (mvT hZ10 (own_w hw 80 rfl))) (own_w hw 80 rfl) (own_w hw 79 rfl) (own_w hw 41 rfl) (own_w hw 81 rfl) (by decide) (sbAppG l Z a0 hw [] sb b a10 b10 kb kb10 wl ([60, 47] : List Int32) zc h10 n0 z26 f16 f21 f22 f13 Ea10 Fc10 Fv10 V20 g_b f23 hz (by first | omega | (simp only [List.length_append, List.length_cons, List.length_nil]; omega)) g_sb f24) 0 (Nat.le_of_eq rfl) (by decide) (by decide) (by rw [hml]; rfl) (argsL := [(.ref a10)]) (st := []) f16 (lenOf pd_10 rfl) rfl rfl (by decide) (by decide) e10 hby d28_6 ?_
  intro T25 v25 L25 X25 hQ25
  obtain ⟨rfl, Nq25, K25, P25_0, P25_1, P25_2, P25_3, P25_4⟩ := hQ25
  have N25 := Fr.app N0 Nq25
  have z27 : h10.size ≤ T25.heap.size := K25.1
  have C28 := C12.trans (CHr.keep K25 (sfS (Safe.exa hZ10.alike f16 (by decide) (by decide)) (sfS (own_safe_len hZ10 (own_TL54 hw) f13) sf0)) C12.1)
  have lt29 : T25.heap.size > sb := P25_0.lt
  have lt30 : T25.heap.size > b := P25_4.lt
  refine own_sh (T := T25) 9 #[.val (.ref w_)] [(.ref sb)] ?_
  refine own_aloadN X25.here hx hby d28_9 rfl rfl ?_
  have f31 := ((F_open_w.ext E10).keep K25 (ninS (ne_exa E_w E_sb (by decide)) (ninS (own_ne_oa E_w (own_w hw 1 rfl) V_b) nin0)))
  refine own_getF X25 hx hZ10 hown10 (host := "") (Or.inl (own_w hw 37 rfl)) Via.refl rfl f31 hby d28_10 ?_
  intro T32 X32 e32
  have f33 := (f14.keep K25)
  have f34 := ((F_elements_dq.ext E10).keep K25 (ninS (ne_exa E_dq E_sb (by decide)) (ninS (own_ne_oa E_dq (own_w hw 21 rfl) V_b) nin0)))
  have f35 := ((F_head_dq.ext E10).keep K25 (ninS (ne_exa E_dq E_sb (by decide)) (ninS (own_ne_oa E_dq (own_w hw 21 rfl) V_b) nin0)))
  have f36 := ((F_tail_dq.ext E10).keep K25 (ninS (ne_exa E_dq E_sb (by decide)) (ninS (own_ne_oa E_dq (own_w hw 21 rfl) V_b) nin0)))
  have f37 := (f15.keep K25 (ninS (Ne.symm (own_ne_oa E_sb (own_w hw 40 rfl) V_el)) (ninS (own_ne_aa V_el V_b (by decide)) nin0)))
  have z39 : n0 ≤ T25.heap.size := by omega
  refine own_interface X32 hx hZ10 hown10 (own_w hw 179 rfl) (own_w hw 180 rfl) (own_w hw 181 rfl) (own_w hw 182 rfl) (own_w hw 183 rfl) (own_w hw 184 rfl) (own_w hw 185 rfl) (own_w hw 158 rfl) (own_w hw 22 rfl) (own_w hw 186 rfl) (by decide) (pop_16 l Z a0 hw [] dq el y1 ke T25.heap n0 z39 g_dq g_el f33 f34 f35 f36 f37 O_el) 1 (Nat.le_of_eq rfl) (by decide) (by decide) (by rw [hml]; rfl) (argsL := []) (st := [(.ref sb)]) f33 (lenOf pd_17 rfl) rfl rfl (by decide) (by decide) e32 hby d28_13 ?_
  intro T38 v38 L38 X38 hQ38
  obtain ⟨rfl, Nq38, K38, P38_0, P38_1, P38_2, P38_3, P38_4, P38_5⟩ := hQ38
  have N38 := Fr.app N25 Nq38
  have z40 : T25.heap.size ≤ T38.heap.size := K38.1
  have C41 := C28.trans (CHr.keep K38 (sfS (Safe.exa hZ10.alike f33 (by decide) (by decide)) (sfS (Safe.arv hZ10.alike f37 (by decide)) sf0)) C28.1)
  have lt42 : T38.heap.size > dq := P38_0.lt
  have lt43 : T38.heap.size > el := P38_4.lt
  refine own_sh (T := T38) 18 #[.val (.ref w_)] [(.ref y1), (.ref sb)] ?_
  have f44 := (((E_y1.ext E10).keep K25).keep K38)
  refine own_castY X38 hx hZ10 hown10 (own_w hw 203 rfl) rfl (Ins.self f44) hby d28_18 ?_
  intro T45 X45 e45
  have f46 := (P25_0.keep K38)
  have f47 := (P25_1.keep K38 (ninS (ne_exa E_sb E_dq (by decide)) (ninS (own_ne_oa E_sb (own_w hw 40 rfl) V_el) nin0)))
  have f48 := (P25_2.keep K38 (ninS (ne_exa E_sb E_dq (by decide)) (ninS (own_ne_oa E_sb (own_w hw 40 rfl) V_el) nin0)))
  have f49 := (P25_4.keep K38 (ninS (Ne.symm (own_ne_oa E_dq (own_w hw 21 rfl) V_b)) (ninS (own_ne_aa V_b V_el (by decide)) nin0)))
  have f50 := (((Fc_y1.ext E10).keep K25 (ninS (ne_exa E_y1 E_sb (by decide)) (ninS (own_ne_oa E_y1 (own_w hw 8 rfl) V_b) nin0))).keep K38 (ninS (ne_exa E_y1 E_dq (by decide)) (ninS (own_ne_oa E_y1 (own_w hw 8 rfl) V_el) nin0)))
  have f51 := (((Fv_y1.ext E10).keep K25 (ninS (ne_exa E_y1 E_sb (by decide)) (ninS (own_ne_oa E_y1 (own_w hw 8 rfl) V_b) nin0))).keep K38 (ninS (ne_exa E_y1 E_dq (by decide)) (ninS (own_ne_oa E_y1 (own_w hw 8 rfl) V_el) nin0)))
  have f52 := (((V_t.ext E10).keep K25 (ninS (Ne.symm (own_ne_oa E_sb (own_w hw 40 rfl) V_t)) (ninS htb nin0))).keep K38 (ninS (Ne.symm (own_ne_oa E_dq (own_w hw 21 rfl) V_t)) (ninS (own_ne_aa V_t V_el (by decide)) nin0)))
  have f53 := (own_sta_keep (own_sta_keep f23 K25 (allS (own_exa_plain f16) (allS (own_arv_plain f13) all0))) K38 (allS (own_exa_plain f33) (allS (own_arv_plain f37) all0)))
  have f54 := (P25_3.keep K38 (ninS (ne_exa E_sb E_dq (by decide)) (ninS (own_ne_oa E_sb (own_w hw 40 rfl) V_el) nin0)))
  have z56 : n0 ≤ T38.heap.size := by omega
  refine own_virtual X45 hx hZ10 hown10 (own_w hw 150 rfl) (own_w hw 78 rfl) (notFace_of_selects (args := #[]) (mvT hZ10 (own_w hw 80 rfl))) (own_w hw 80 rfl) (own_w hw 79 rfl) (own_w hw 41 rfl) (own_w hw 81 rfl) (by decide) (sbAppG l Z a0 hw [] sb b y1 t kb kt (wl ++ ([60, 47] : List Int32)) ([cN]) zc T38.heap n0 z56 f46 f47 f48 f49 f44 f50 f51 f52 g_b f53 hz (by first | omega | (simp only [List.length_append, List.length_cons, List.length_nil]; omega)) g_sb f54) 0 (Nat.le_of_eq rfl) (by decide) (by decide) (by rw [hml]; rfl) (argsL := [(.ref y1)]) (st := []) f46 (lenOf pd_10 rfl) rfl rfl (by decide) (by decide) e45 hby d28_21 ?_
  intro T55 v55 L55 X55 hQ55
  obtain ⟨rfl, Nq55, K55, P55_0, P55_1, P55_2, P55_3, P55_4⟩ := hQ55
  have N55 := Fr.app N38 Nq55
  have z57 : T38.heap.size ≤ T55.heap.size := K55.1
  have C58 := C41.trans (CHr.keep K55 (sfS (Safe.exa hZ10.alike f46 (by decide) (by decide)) (sfS (own_safe_len hZ10 (own_TL54 hw) f49) sf0)) C41.1)
  have lt59 : T55.heap.size > sb := P55_0.lt
  have lt60 : T55.heap.size > b := P55_4.lt
  refine own_sh (T := T55) 24 #[.val (.ref w_)] [(.ref sb)] ?_
  refine own_bipush X55.here hx hby d28_24 (v := (62 : Int32)) (by decide) ?_
  have f61 := (own_sta_keep f53 K55 (allS (own_exa_plain f46) (allS (own_arv_plain f49) all0)))
  have z63 : n0 ≤ T55.heap.size := by omega
  refine own_virtual X55 hx hZ10 hown10 (own_w hw 135 rfl) (own_w hw 136 rfl) (notFace_of_selects (args := #[]) (mvT hZ10 (own_w hw 138 rfl))) (own_w hw 138 rfl) (own_w hw 137 rfl) (own_w hw 41 rfl) (own_w hw 139 rfl) (by decide) (sbAppC l Z a0 hw [] sb b kb ((wl ++ ([60, 47] : List Int32)) ++ ([cN])) (62 : Int32) (62 : Int32) zc T55.heap n0 z63 g_sb g_b P55_0 P55_1 P55_2 P55_3 P55_4 f61 hz (by first | omega | (simp only [List.length_append, List.length_cons, List.length_nil]; omega)) (by decide) (by decide)) 0 (Nat.le_of_eq rfl) (by decide) (by decide) (by rw [hml]; rfl) (argsL := [(.int 62)]) (st := []) P55_0 (lenOf pd_18 rfl) rfl rfl (by decide) (by decide) rfl hby d28_26 ?_
  intro T62 v62 L62 X62 hQ62
  obtain ⟨rfl, Nq62, K62, P62_0, P62_1, P62_2, P62_3, P62_4⟩ := hQ62
  have N62 := Fr.app N55 Nq62
  have z64 : T55.heap.size ≤ T62.heap.size := K62.1
  have C65 := C58.trans (CHr.keep K62 (sfS (Safe.exa hZ10.alike P55_0 (by decide) (by decide)) (sfS (own_safe_len hZ10 (own_TL54 hw) P55_4) sf0)) C58.1)
  have lt66 : T62.heap.size > sb := P62_0.lt
  have lt67 : T62.heap.size > b := P62_4.lt
  refine own_sh (T := T62) 29 #[.val (.ref w_)] [(.ref sb)] ?_
  refine own_pop X62.here hx hby d28_29 rfl ?_
  refine own_aloadN X62.here hx hby d28_30 rfl rfl ?_
  have K68 : Keep h0 T62.heap [dq, el, sb, b] := ((((((Keep.refl h0 [dq, el, sb, b]).ext E10).trans K25 (allS (P := fun xq_ => xq_ ∈ [dq, el, sb, b] ∨ h0.size ≤ xq_) (Or.inl (List.mem_of_getElem? (i := 2) rfl)) (allS (P := fun xq_ => xq_ ∈ [dq, el, sb, b] ∨ h0.size ≤ xq_) (Or.inl (List.mem_of_getElem? (i := 3) rfl)) all0))).trans K38 (allS (P := fun xq_ => xq_ ∈ [dq, el, sb, b] ∨ h0.size ≤ xq_) (Or.inl (List.mem_of_getElem? (i := 0) rfl)) (allS (P := fun xq_ => xq_ ∈ [dq, el, sb, b] ∨ h0.size ≤ xq_) (Or.inl (List.mem_of_getElem? (i := 1) rfl)) all0))).trans K55 (allS (P := fun xq_ => xq_ ∈ [dq, el, sb, b] ∨ h0.size ≤ xq_) (Or.inl (List.mem_of_getElem? (i := 2) rfl)) (allS (P := fun xq_ => xq_ ∈ [dq, el, sb, b] ∨ h0.size ≤ xq_) (Or.inl (List.mem_of_getElem? (i := 3) rfl)) all0))).trans K62 (allS (P := fun xq_ => xq_ ∈ [dq, el, sb, b] ∨ h0.size ≤ xq_) (Or.inl (List.mem_of_getElem? (i := 2) rfl)) (allS (P := fun xq_ => xq_ ∈ [dq, el, sb, b] ∨ h0.size ≤ xq_) (Or.inl (List.mem_of_getElem? (i := 3) rfl)) all0)))
  have f69 := ((((f17.keep K25).keep K38).keep K55).keep K62)
  have f70 := (((f31.keep K38 (ninS (ne_exa E_w E_dq (by decide)) (ninS (own_ne_oa E_w (own_w hw 1 rfl) V_el) nin0))).keep K55 (ninS (ne_exa E_w E_sb (by decide)) (ninS (own_ne_oa E_w (own_w hw 1 rfl) V_b) nin0))).keep K62 (ninS (ne_exa E_w E_sb (by decide)) (ninS (own_ne_oa E_w (own_w hw 1 rfl) V_b) nin0)))
  have f71 := (((((F_xml_w.ext E10).keep K25 (ninS (ne_exa E_w E_sb (by decide)) (ninS (own_ne_oa E_w (own_w hw 1 rfl) V_b) nin0))).keep K38 (ninS (ne_exa E_w E_dq (by decide)) (ninS (own_ne_oa E_w (own_w hw 1 rfl) V_el) nin0))).keep K55 (ninS (ne_exa E_w E_sb (by decide)) (ninS (own_ne_oa E_w (own_w hw 1 rfl) V_b) nin0))).keep K62 (ninS (ne_exa E_w E_sb (by decide)) (ninS (own_ne_oa E_w (own_w hw 1 rfl) V_b) nin0)))
  have f72 := ((P38_0.keep K55).keep K62)
  have f73 := ((P38_1.keep K55 (ninS (ne_exa E_dq E_sb (by decide)) (ninS (own_ne_oa E_dq (own_w hw 21 rfl) V_b) nin0))).keep K62 (ninS (ne_exa E_dq E_sb (by decide)) (ninS (own_ne_oa E_dq (own_w hw 21 rfl) V_b) nin0)))
  have f74 := ((P38_2.keep K55 (ninS (ne_exa E_dq E_sb (by decide)) (ninS (own_ne_oa E_dq (own_w hw 21 rfl) V_b) nin0))).keep K62 (ninS (ne_exa E_dq E_sb (by decide)) (ninS (own_ne_oa E_dq (own_w hw 21 rfl) V_b) nin0)))
  have f75 := ((P38_3.keep K55 (ninS (ne_exa E_dq E_sb (by decide)) (ninS (own_ne_oa E_dq (own_w hw 21 rfl) V_b) nin0))).keep K62 (ninS (ne_exa E_dq E_sb (by decide)) (ninS (own_ne_oa E_dq (own_w hw 21 rfl) V_b) nin0)))
  have f76 := ((P38_4.keep K55 (ninS (Ne.symm (own_ne_oa E_sb (own_w hw 40 rfl) V_el)) (ninS (own_ne_aa V_el V_b (by decide)) nin0))).keep K62 (ninS (Ne.symm (own_ne_oa E_sb (own_w hw 40 rfl) V_el)) (ninS (own_ne_aa V_el V_b (by decide)) nin0)))
  obtain ⟨fs, hr, hrun, hended, hRW⟩ := X62.leaveW hS10 (by omega) (v := some (.ref w_)) (fun h => by rw [Bd.returns] at h; cases h) Bd.notSynchronized
  have hCf : CHr Z consts_1 s.vm s.heap T62.vm T62.heap := by
    rw [hh]
    exact C65.trans (CHv.at X62 hZ10 hEL C65.1)
  refine own_ret (t := T62.setFrames fs) ?_ ⟨_, hrun, hended, _, _, rfl, ?_, hCf, hRW.1, hRW.2.1, hRW.2.2.1, hRW.2.2.2.mono (by decide) (by decide)⟩
  · exact retOut X62 hx Bd.returns rfl (Or.inr (Or.inr (Or.inr (Or.inr ⟨rfl, rfl, rfl⟩)))) (hb hby d28_31) hr
  · show Q_end_16 Z _ _ _ _ _ _ _ _ _ _ _ _ _ h0 n0 _ T62.heap _
    exact ⟨rfl, N62, K68, f69, f70, f71, f72, f73, f74, f75, f76, P38_5, P62_0, P62_1, P62_2, P62_3, P62_4⟩
def Q_end_15 (Z : State) (w_ : Nat) (dq : Nat) (el : Nat) (sb : Nat) (b : Nat) (ke : ClassId) (kb : ClassId) (wl : List Int32) (t : Nat) (y2 : Nat) (y1 : Nat) (kt : ClassId) (cN : Int32) (zc : Int32) (h0 : Heap) (n0 : Nat) (vR : Option Value) (hR : Heap) (LR : List Loc) : Prop := vR = some (.ref w_) ∧ Fr n0 LR ∧ Keep h0 hR [dq, el, sb, b] ∧ (Exa Z hR w_ "com/example/sluice/sluice/server/XmlWriter") ∧ (Fld Z hR w_ "com/example/sluice/sluice/server/XmlWriter" "open" "Ljava/util/Deque;" (.ref dq)) ∧ (Fld Z hR w_ "com/example/sluice/sluice/server/XmlWriter" "xml" "Ljava/lang/StringBuilder;" (.ref sb)) ∧ (Exa Z hR dq "java/util/ArrayDeque") ∧ (Fld Z hR dq "java/util/ArrayDeque" "elements" "[Ljava/lang/Object;" (.ref el)) ∧ (Fld Z hR dq "java/util/ArrayDeque" "head" "I" (.int 16)) ∧ (Fld Z hR dq "java/util/ArrayDeque" "tail" "I" (.int 0)) ∧ (Arv Z hR el ke (.object "java/lang/Object") (17 : Int32) [.null, .null, .null, .null, .null, .null, .null, .null, .null, .null, .null, .null, .null, .null, .null, .null, (.ref y1)] .null) ∧ (Ovr Z ke "java/lang/Object") ∧ (Exa Z hR sb "java/lang/StringBuilder") ∧ (Fld Z hR sb "java/lang/AbstractStringBuilder" "value" "[B" (.ref b)) ∧ (Fld Z hR sb "java/lang/AbstractStringBuilder" "coder" "B" (.int 0)) ∧ (Fld Z hR sb "java/lang/AbstractStringBuilder" "count" "I" (.int (Int32.ofNat (((wl ++ ([60, 47] : List Int32)) ++ [cN]) ++ [(62 : Int32)]).length))) ∧ (Arv Z hR b kb .byte (54 : Int32) (own_bz (((wl ++ ([60, 47] : List Int32)) ++ [cN]) ++ [(62 : Int32)])) (.int 0))
set_option maxRecDepth 65536 in
set_option maxHeartbeats 40000000 in
theorem end_15 (l : Launch) (Z : State) (a0 : Array Value) (hw : ∀ d ∈ tables_1, d.before a0 Z = true) (ws : List Jvm.Cond) (w_ : Nat) (dq : Nat) (el : Nat) (sb : Nat) (b : Nat) (ke : ClassId) (kb : ClassId) (wl : List Int32) (t : Nat) (y2 : Nat) (y1 : Nat) (kt : ClassId) (cN : Int32) (zc : Int32) (h0 : Heap) (n0 : Nat) (Z0 : n0 ≤ h0.size) (g_sb : n0 ≤ sb) (g_b : n0 ≤ b) (g_dq : n0 ≤ dq) (g_el : n0 ≤ el) (E_w : Exa Z h0 w_ "com/example/sluice/sluice/server/XmlWriter") (F_open_w : Fld Z h0 w_ "com/example/sluice/sluice/server/XmlWriter" "open" "Ljava/util/Deque;" (.ref dq)) (F_xml_w : Fld Z h0 w_ "com/example/sluice/sluice/server/XmlWriter" "xml" "Ljava/lang/StringBuilder;" (.ref sb)) (E_dq : Exa Z h0 dq "java/util/ArrayDeque") (F_elements_dq : Fld Z h0 dq "java/util/ArrayDeque" "elements" "[Ljava/lang/Object;" (.ref el)) (F_head_dq : Fld Z h0 dq "java/util/ArrayDeque" "head" "I" (.int 15)) (F_tail_dq : Fld Z h0 dq "java/util/ArrayDeque" "tail" "I" (.int 0)) (V_el : Arv Z h0 el ke (.object "java/lang/Object") (17 : Int32) [.null, .null, .null, .null, .null, .null, .null, .null, .null, .null, .null, .null, .null, .null, .null, (.ref y2), (.ref y1)] .null) (O_el : Ovr Z ke "java/lang/Object") (E_sb : Exa Z h0 sb "java/lang/StringBuilder") (F_value_sb : Fld Z h0 sb "java/lang/AbstractStringBuilder" "value" "[B" (.ref b)) (F_coder_sb : Fld Z h0 sb "java/lang/AbstractStringBuilder" "coder" "B" (.int 0)) (F_count_sb : Fld Z h0 sb "java/lang/AbstractStringBuilder" "count" "I" (.int (Int32.ofNat wl.length))) (V_b : Arv Z h0 b kb .byte (54 : Int32) (own_bz wl) (.int 0)) (E_y2 : Exa Z h0 y2 "java/lang/String") (Fc_y2 : Fld Z h0 y2 "java/lang/String" "coder" "B" (.int 0)) (Fv_y2 : Fld Z h0 y2 "java/lang/String" "value" "[B" (.ref t)) (V_t : Arv Z h0 t kt .byte (Int32.ofNat ([cN]).length) (own_b ([cN])) (.int 0)) (htb : t ≠ b) (S_C : Sta Z h0 "java/lang/String" "COMPACT_STRINGS" "Z" (.int zc)) (hz : ¬ (zc = (0 : Int32))) (hl : wl.length ≤ 50) :
    own_MH l (⟨"com/example/sluice/sluice/server/XmlWriter", "end", "()Lcom/example/sluice/sluice/server/XmlWriter;"⟩ : MethodName) prog_22_method_7_code 1 (some (.object "com/example/sluice/sluice/server/XmlWriter")) ws ({ frames := 5, cells := 2, slots := 12, locals := 74 } : Room) Z #[(.ref w_)] h0 (Q_end_15 Z w_ dq el sb b ke kb wl t y2 y1 kt cN zc h0 n0) consts_1 := by
  refine own_bodyH (own := "com/example/sluice/sluice/server/XmlWriter") rfl (plainFor_of_name pn_28) (fun m => ef_end_16 m w_) ?_
  intro p e s m below meth c s₁ Bd hml hZ hh hx hby hown X0 e0 hS0 CH0
  have N0 := Fr.nil n0
  have hk0 : h0.size ≤ h0.size := Nat.le_refl _
  have Y0 : Stand p l e ({ frames := 5, cells := 2, slots := 12, locals := 74 } : Room) (s.setVm s.vm) m #[(.ref w_)] below meth c s₁ [] 0 0 := X0
  have hEL := own_EW hw
  have C0 := CHr.refl CH0
  have lt3 : h0.size > w_ := E_w.lt
  have lt4 : h0.size > dq := E_dq.lt
  have lt5 : h0.size > el := V_el.lt
  have lt6 : h0.size > sb := E_sb.lt
  have lt7 : h0.size > b := V_b.lt
  have lt8 : h0.size > y2 := E_y2.lt
  have lt9 : h0.size > t := V_t.lt
  refine own_aloadN Y0.here hx hby d28_0 rfl rfl ?_
  refine own_getF Y0 hx hZ hown (host := "") (Or.inl (own_w hw 112 rfl)) Via.refl e0 F_xml_w hby d28_1 ?_
  intro T10 X10 e10
  have own_wS0 : ∀ a ∈ Bundle.stringAtoms, a.before a0 Z = true := own_wS hw
  refine own_ldcCH X10 hx hZ hEL hown (own_w hw 178 rfl) own_wS0 e10 hS0 (by omega) C0.1 (List.mem_of_getElem? (i := 1) rfl) (vs := [(.int 60), (.int 47)]) (z := (2 : Int32)) ⟨by decide, by decide⟩ (by decide) (by decide) hby d28_4 8 (by decide) (by decide) (by decide) (by decide) ?_
  intro a11 T11 h11 kk11 vm11 b11 kb11 X11 e11 E11 hS11 hk11 hZ11 hown11 Ea11 Fc11 Fv11 Va11 la11 lb11 Cn11 ns11
  have z12 : h0.size ≤ h11.size := E11.1
  have C13 := C0.trans Cn11
  have f14 := (V_b.ext E11)
  have nl11_b := ns11 b (own_safe_len hZ11 (own_TL54 hw) f14)
  have f15 := (E_dq.ext E11)
  have nl11_dq := ns11 dq (Safe.exa hZ11.alike f15 (by decide) (by decide))
  have f16 := (V_el.ext E11)
  have nl11_el := ns11 el (Safe.arv hZ11.alike f16 (by decide))
  have f17 := (E_sb.ext E11)
  have nl11_sb := ns11 sb (Safe.exa hZ11.alike f17 (by decide) (by decide))
  have f18 := (E_w.ext E11)
  have nl11_w_ := ns11 w_ (Safe.exa hZ11.alike f18 (by decide) (by decide))
  have lt19 : h11.size > a11 := la11
  have lt20 : h11.size > b11 := lb11
  have V21 : Arv Z h11 b11 kb11 .byte (Int32.ofNat ([60, 47] : List Int32).length) (own_b ([60, 47] : List Int32)) (.int 0) := Va11
  have f22 := (F_value_sb.ext E11)
  have f23 := (F_coder_sb.ext E11)
  have f24 := (S_C.ext E11)
  have f25 := (F_count_sb.ext E11)
  have z27 : n0 ≤ h11.size := by omega
  refine own_virtual X11 hx hZ11 hown11 (own_w hw 150 rfl) (own_w hw 78 rfl) (notFace_of_selects (args := #[]) (mvT hZ11 (own_w hw 80 rfl))) (own_w hw 80 rfl) (own_w hw 79 rfl) (own_w hw 41 rfl) (own_w hw 81 rfl) (by decide) (sbAppG l Z a0 hw [] sb b a11 b11 kb kb11 wl ([60, 47] : List Int32) zc h11 n0 z27 f17 f22 f23 f14 Ea11 Fc11 Fv11 V21 g_b f24 hz (by first | omega | (simp only [List.length_append, List.length_cons, List.length_nil]; omega)) g_sb f25) 0 (Nat.le_of_eq rfl) (by decide) (by decide) (by rw [hml]; rfl) (argsL := [(.ref a11)]) (st := []) f17 (lenOf pd_10 rfl) rfl rfl (by decide) (by decide) e11 hby d28_6 ?_
  intro T26 v26 L26 X26 hQ26
  obtain ⟨rfl, Nq26, K26, P26_0, P26_1, P26_2, P26_3, P26_4⟩ := hQ26
  have N26 := Fr.app N0 Nq26
  have z28 : h11.size ≤ T26.heap.size := K26.1
  have C29 := C13.trans (CHr.keep K26 (sfS (Safe.exa hZ11.alike f17 (by decide) (by decide)) (sfS (own_safe_len hZ11 (own_TL54 hw) f14) sf0)) C13.1)
  have lt30 : T26.heap.size > sb := P26_0.lt
  have lt31 : T26.heap.size > b := P26_4.lt
  refine own_sh (T := T26) 9 #[.val (.ref w_)] [(.ref sb)] ?_
  refine own_aloadN X26.here hx hby d28_9 rfl rfl ?_
  have f32 := ((F_open_w.ext E11).keep K26 (ninS (ne_exa E_w E_sb (by decide)) (ninS (own_ne_oa E_w (own_w hw 1 rfl) V_b) nin0)))
  refine own_getF X26 hx hZ11 hown11 (host := "") (Or.inl (own_w hw 37 rfl)) Via.refl rfl f32 hby d28_10 ?_
  intro T33 X33 e33
  have f34 := (f15.keep K26)
  have f35 := ((F_elements_dq.ext E11).keep K26 (ninS (ne_exa E_dq E_sb (by decide)) (ninS (own_ne_oa E_dq (own_w hw 21 rfl) V_b) nin0)))
  have f36 := ((F_head_dq.ext E11).keep K26 (ninS (ne_exa E_dq E_sb (by decide)) (ninS (own_ne_oa E_dq (own_w hw 21 rfl) V_b) nin0)))
  have f37 := ((F_tail_dq.ext E11).keep K26 (ninS (ne_exa E_dq E_sb (by decide)) (ninS (own_ne_oa E_dq (own_w hw 21 rfl) V_b) nin0)))
  have f38 := (f16.keep K26 (ninS (Ne.symm (own_ne_oa E_sb (own_w hw 40 rfl) V_el)) (ninS (own_ne_aa V_el V_b (by decide)) nin0)))
  have z40 : n0 ≤ T26.heap.size := by omega
  refine own_interface X33 hx hZ11 hown11 (own_w hw 179 rfl) (own_w hw 180 rfl) (own_w hw 181 rfl) (own_w hw 182 rfl) (own_w hw 183 rfl) (own_w hw 184 rfl) (own_w hw 185 rfl) (own_w hw 158 rfl) (own_w hw 22 rfl) (own_w hw 186 rfl) (by decide) (pop_15 l Z a0 hw [] dq el y2 y1 ke T26.heap n0 z40 g_dq g_el f34 f35 f36 f37 f38 O_el) 1 (Nat.le_of_eq rfl) (by decide) (by decide) (by rw [hml]; rfl) (argsL := []) (st := [(.ref sb)]) f34 (lenOf pd_17 rfl) rfl rfl (by decide) (by decide) e33 hby d28_13 ?_
  intro T39 v39 L39 X39 hQ39
  obtain ⟨rfl, Nq39, K39, P39_0, P39_1, P39_2, P39_3, P39_4, P39_5⟩ := hQ39
  have N39 := Fr.app N26 Nq39
  have z41 : T26.heap.size ≤ T39.heap.size := K39.1
  have C42 := C29.trans (CHr.keep K39 (sfS (Safe.exa hZ11.alike f34 (by decide) (by decide)) (sfS (Safe.arv hZ11.alike f38 (by decide)) sf0)) C29.1)
  have lt43 : T39.heap.size > dq := P39_0.lt
  have lt44 : T39.heap.size > el := P39_4.lt
  refine own_sh (T := T39) 18 #[.val (.ref w_)] [(.ref y2), (.ref sb)] ?_
  have f45 := (((E_y2.ext E11).keep K26).keep K39)
  refine own_castY X39 hx hZ11 hown11 (own_w hw 203 rfl) rfl (Ins.self f45) hby d28_18 ?_
  intro T46 X46 e46
  have f47 := (P26_0.keep K39)
  have f48 := (P26_1.keep K39 (ninS (ne_exa E_sb E_dq (by decide)) (ninS (own_ne_oa E_sb (own_w hw 40 rfl) V_el) nin0)))
  have f49 := (P26_2.keep K39 (ninS (ne_exa E_sb E_dq (by decide)) (ninS (own_ne_oa E_sb (own_w hw 40 rfl) V_el) nin0)))
  have f50 := (P26_4.keep K39 (ninS (Ne.symm (own_ne_oa E_dq (own_w hw 21 rfl) V_b)) (ninS (own_ne_aa V_b V_el (by decide)) nin0)))
  have f51 := (((Fc_y2.ext E11).keep K26 (ninS (ne_exa E_y2 E_sb (by decide)) (ninS (own_ne_oa E_y2 (own_w hw 8 rfl) V_b) nin0))).keep K39 (ninS (ne_exa E_y2 E_dq (by decide)) (ninS (own_ne_oa E_y2 (own_w hw 8 rfl) V_el) nin0)))
  have f52 := (((Fv_y2.ext E11).keep K26 (ninS (ne_exa E_y2 E_sb (by decide)) (ninS (own_ne_oa E_y2 (own_w hw 8 rfl) V_b) nin0))).keep K39 (ninS (ne_exa E_y2 E_dq (by decide)) (ninS (own_ne_oa E_y2 (own_w hw 8 rfl) V_el) nin0)))
  have f53 := (((V_t.ext E11).keep K26 (ninS (Ne.symm (own_ne_oa E_sb (own_w hw 40 rfl) V_t)) (ninS htb nin0))).keep K39 (ninS (Ne.symm (own_ne_oa E_dq (own_w hw 21 rfl) V_t)) (ninS (own_ne_aa V_t V_el (by decide)) nin0)))
  have f54 := (own_sta_keep (own_sta_keep f24 K26 (allS (own_exa_plain f17) (allS (own_arv_plain f14) all0))) K39 (allS (own_exa_plain f34) (allS (own_arv_plain f38) all0)))
  have f55 := (P26_3.keep K39 (ninS (ne_exa E_sb E_dq (by decide)) (ninS (own_ne_oa E_sb (own_w hw 40 rfl) V_el) nin0)))
  have z57 : n0 ≤ T39.heap.size := by omega
  refine own_virtual X46 hx hZ11 hown11 (own_w hw 150 rfl) (own_w hw 78 rfl) (notFace_of_selects (args := #[]) (mvT hZ11 (own_w hw 80 rfl))) (own_w hw 80 rfl) (own_w hw 79 rfl) (own_w hw 41 rfl) (own_w hw 81 rfl) (by decide) (sbAppG l Z a0 hw [] sb b y2 t kb kt (wl ++ ([60, 47] : List Int32)) ([cN]) zc T39.heap n0 z57 f47 f48 f49 f50 f45 f51 f52 f53 g_b f54 hz (by first | omega | (simp only [List.length_append, List.length_cons, List.length_nil]; omega)) g_sb f55) 0 (Nat.le_of_eq rfl) (by decide) (by decide) (by rw [hml]; rfl) (argsL := [(.ref y2)]) (st := []) f47 (lenOf pd_10 rfl) rfl rfl (by decide) (by decide) e46 hby d28_21 ?_
  intro T56 v56 L56 X56 hQ56
  obtain ⟨rfl, Nq56, K56, P56_0, P56_1, P56_2, P56_3, P56_4⟩ := hQ56
  have N56 := Fr.app N39 Nq56
  have z58 : T39.heap.size ≤ T56.heap.size := K56.1
  have C59 := C42.trans (CHr.keep K56 (sfS (Safe.exa hZ11.alike f47 (by decide) (by decide)) (sfS (own_safe_len hZ11 (own_TL54 hw) f50) sf0)) C42.1)
  have lt60 : T56.heap.size > sb := P56_0.lt
  have lt61 : T56.heap.size > b := P56_4.lt
  refine own_sh (T := T56) 24 #[.val (.ref w_)] [(.ref sb)] ?_
  refine own_bipush X56.here hx hby d28_24 (v := (62 : Int32)) (by decide) ?_
  have f62 := (own_sta_keep f54 K56 (allS (own_exa_plain f47) (allS (own_arv_plain f50) all0)))
  have z64 : n0 ≤ T56.heap.size := by omega
  refine own_virtual X56 hx hZ11 hown11 (own_w hw 135 rfl) (own_w hw 136 rfl) (notFace_of_selects (args := #[]) (mvT hZ11 (own_w hw 138 rfl))) (own_w hw 138 rfl) (own_w hw 137 rfl) (own_w hw 41 rfl) (own_w hw 139 rfl) (by decide) (sbAppC l Z a0 hw [] sb b kb ((wl ++ ([60, 47] : List Int32)) ++ ([cN])) (62 : Int32) (62 : Int32) zc T56.heap n0 z64 g_sb g_b P56_0 P56_1 P56_2 P56_3 P56_4 f62 hz (by first | omega | (simp only [List.length_append, List.length_cons, List.length_nil]; omega)) (by decide) (by decide)) 0 (Nat.le_of_eq rfl) (by decide) (by decide) (by rw [hml]; rfl) (argsL := [(.int 62)]) (st := []) P56_0 (lenOf pd_18 rfl) rfl rfl (by decide) (by decide) rfl hby d28_26 ?_
  intro T63 v63 L63 X63 hQ63
  obtain ⟨rfl, Nq63, K63, P63_0, P63_1, P63_2, P63_3, P63_4⟩ := hQ63
  have N63 := Fr.app N56 Nq63
  have z65 : T56.heap.size ≤ T63.heap.size := K63.1
  have C66 := C59.trans (CHr.keep K63 (sfS (Safe.exa hZ11.alike P56_0 (by decide) (by decide)) (sfS (own_safe_len hZ11 (own_TL54 hw) P56_4) sf0)) C59.1)
  have lt67 : T63.heap.size > sb := P63_0.lt
  have lt68 : T63.heap.size > b := P63_4.lt
  refine own_sh (T := T63) 29 #[.val (.ref w_)] [(.ref sb)] ?_
  refine own_pop X63.here hx hby d28_29 rfl ?_
  refine own_aloadN X63.here hx hby d28_30 rfl rfl ?_
  have K69 : Keep h0 T63.heap [dq, el, sb, b] := ((((((Keep.refl h0 [dq, el, sb, b]).ext E11).trans K26 (allS (P := fun xq_ => xq_ ∈ [dq, el, sb, b] ∨ h0.size ≤ xq_) (Or.inl (List.mem_of_getElem? (i := 2) rfl)) (allS (P := fun xq_ => xq_ ∈ [dq, el, sb, b] ∨ h0.size ≤ xq_) (Or.inl (List.mem_of_getElem? (i := 3) rfl)) all0))).trans K39 (allS (P := fun xq_ => xq_ ∈ [dq, el, sb, b] ∨ h0.size ≤ xq_) (Or.inl (List.mem_of_getElem? (i := 0) rfl)) (allS (P := fun xq_ => xq_ ∈ [dq, el, sb, b] ∨ h0.size ≤ xq_) (Or.inl (List.mem_of_getElem? (i := 1) rfl)) all0))).trans K56 (allS (P := fun xq_ => xq_ ∈ [dq, el, sb, b] ∨ h0.size ≤ xq_) (Or.inl (List.mem_of_getElem? (i := 2) rfl)) (allS (P := fun xq_ => xq_ ∈ [dq, el, sb, b] ∨ h0.size ≤ xq_) (Or.inl (List.mem_of_getElem? (i := 3) rfl)) all0))).trans K63 (allS (P := fun xq_ => xq_ ∈ [dq, el, sb, b] ∨ h0.size ≤ xq_) (Or.inl (List.mem_of_getElem? (i := 2) rfl)) (allS (P := fun xq_ => xq_ ∈ [dq, el, sb, b] ∨ h0.size ≤ xq_) (Or.inl (List.mem_of_getElem? (i := 3) rfl)) all0)))
  have f70 := ((((f18.keep K26).keep K39).keep K56).keep K63)
  have f71 := (((f32.keep K39 (ninS (ne_exa E_w E_dq (by decide)) (ninS (own_ne_oa E_w (own_w hw 1 rfl) V_el) nin0))).keep K56 (ninS (ne_exa E_w E_sb (by decide)) (ninS (own_ne_oa E_w (own_w hw 1 rfl) V_b) nin0))).keep K63 (ninS (ne_exa E_w E_sb (by decide)) (ninS (own_ne_oa E_w (own_w hw 1 rfl) V_b) nin0)))
  have f72 := (((((F_xml_w.ext E11).keep K26 (ninS (ne_exa E_w E_sb (by decide)) (ninS (own_ne_oa E_w (own_w hw 1 rfl) V_b) nin0))).keep K39 (ninS (ne_exa E_w E_dq (by decide)) (ninS (own_ne_oa E_w (own_w hw 1 rfl) V_el) nin0))).keep K56 (ninS (ne_exa E_w E_sb (by decide)) (ninS (own_ne_oa E_w (own_w hw 1 rfl) V_b) nin0))).keep K63 (ninS (ne_exa E_w E_sb (by decide)) (ninS (own_ne_oa E_w (own_w hw 1 rfl) V_b) nin0)))
  have f73 := ((P39_0.keep K56).keep K63)
  have f74 := ((P39_1.keep K56 (ninS (ne_exa E_dq E_sb (by decide)) (ninS (own_ne_oa E_dq (own_w hw 21 rfl) V_b) nin0))).keep K63 (ninS (ne_exa E_dq E_sb (by decide)) (ninS (own_ne_oa E_dq (own_w hw 21 rfl) V_b) nin0)))
  have f75 := ((P39_2.keep K56 (ninS (ne_exa E_dq E_sb (by decide)) (ninS (own_ne_oa E_dq (own_w hw 21 rfl) V_b) nin0))).keep K63 (ninS (ne_exa E_dq E_sb (by decide)) (ninS (own_ne_oa E_dq (own_w hw 21 rfl) V_b) nin0)))
  have f76 := ((P39_3.keep K56 (ninS (ne_exa E_dq E_sb (by decide)) (ninS (own_ne_oa E_dq (own_w hw 21 rfl) V_b) nin0))).keep K63 (ninS (ne_exa E_dq E_sb (by decide)) (ninS (own_ne_oa E_dq (own_w hw 21 rfl) V_b) nin0)))
  have f77 := ((P39_4.keep K56 (ninS (Ne.symm (own_ne_oa E_sb (own_w hw 40 rfl) V_el)) (ninS (own_ne_aa V_el V_b (by decide)) nin0))).keep K63 (ninS (Ne.symm (own_ne_oa E_sb (own_w hw 40 rfl) V_el)) (ninS (own_ne_aa V_el V_b (by decide)) nin0)))
  obtain ⟨fs, hr, hrun, hended, hRW⟩ := X63.leaveW hS11 (by omega) (v := some (.ref w_)) (fun h => by rw [Bd.returns] at h; cases h) Bd.notSynchronized
  have hCf : CHr Z consts_1 s.vm s.heap T63.vm T63.heap := by
    rw [hh]
    exact C66.trans (CHv.at X63 hZ11 hEL C66.1)
  refine own_ret (t := T63.setFrames fs) ?_ ⟨_, hrun, hended, _, _, rfl, ?_, hCf, hRW.1, hRW.2.1, hRW.2.2.1, hRW.2.2.2.mono (by decide) (by decide)⟩
  · exact retOut X63 hx Bd.returns rfl (Or.inr (Or.inr (Or.inr (Or.inr ⟨rfl, rfl, rfl⟩)))) (hb hby d28_31) hr
  · show Q_end_15 Z _ _ _ _ _ _ _ _ _ _ _ _ _ _ h0 n0 _ T63.heap _
    exact ⟨rfl, N63, K69, f70, f71, f72, f73, f74, f75, f76, f77, P39_5, P63_0, P63_1, P63_2, P63_3, P63_4⟩
theorem ef_min54 (m : MethodId) (x0 : Int32) (x1 : Int32) : entryFrame m #[(.int x0), (.int x1)] 2 = mkF m 0 #[.val (.int x0), .val (.int x1)] [] := by first | (simp [entryFrame, mkF, argsToLocals, Value.category]; done) | rfl
theorem d45_0 : decode jdk_29_method_69_code 0 = .ok (.iload_n 0, 1) := by decide +kernel
theorem d45_1 : decode jdk_29_method_69_code 1 = .ok (.iload_n 1, 1) := by decide +kernel
theorem d45_2 : decode jdk_29_method_69_code 2 = .ok (.if_icmp .gt 7, 3) := by decide +kernel
theorem d45_9 : decode jdk_29_method_69_code 9 = .ok (.iload_n 1, 1) := by decide +kernel
theorem d45_10 : decode jdk_29_method_69_code 10 = .ok (.ireturn, 1) := by decide +kernel
def Q_min54 (Z : State) (z_ : Int32) (h0 : Heap) (n0 : Nat) (vR : Option Value) (hR : Heap) (LR : List Loc) : Prop := vR = some (.int z_) ∧ Fr n0 LR ∧ hR = h0
set_option maxRecDepth 65536 in
set_option maxHeartbeats 40000000 in
theorem min54 (l : Launch) (Z : State) (a0 : Array Value) (hw : ∀ d ∈ tables_1, d.before a0 Z = true) (ws : List Jvm.Cond) (z_ : Int32) (h0 : Heap) (n0 : Nat) (Z0 : n0 ≤ h0.size) (h54 : z_ < (54 : Int32)) :
    own_M l (⟨"java/lang/Math", "min", "(II)I"⟩ : MethodName) jdk_29_method_69_code 2 (some .int) ws ({ frames := 0, cells := 0, slots := 0, locals := 0 } : Room) Z #[(.int 54), (.int z_)] h0 (Q_min54 Z z_ h0 n0) := by
  refine own_body (own := "java/lang/Math") rfl (Jvm.Free.JP.mathPlain rfl (by decide +kernel)) (fun m => ef_min54 m (54 : Int32) z_) ?_
  intro p e s m below meth c s₁ Bd hml hZ hh hx hby hown X0 e0
  have N0 := Fr.nil n0
  refine own_iloadN X0.here hx hby d45_0 rfl ?_
  refine own_iloadN X0.here hx hby d45_1 rfl ?_
  refine own_icmpYes X0.here hx hby (pc' := 9) d45_2 (tlt h54).2.2.1 (by decide) (by decide) ?_
  refine own_iloadN X0.here hx hby d45_9 rfl ?_
  obtain ⟨fs, hr, hrun, hended, hW, hsame⟩ := X0.leave (v := some (.int z_)) (fun h => by rw [Bd.returns] at h; cases h) Bd.notSynchronized
  refine own_ret (t := s₁.setFrames fs) ?_ ⟨_, hrun, hended, _, _, rfl, ?_, ⟨_, rfl⟩, hW, hsame.mono (by decide) (by decide)⟩
  · exact retOut X0 hx Bd.returns rfl (Or.inl ⟨rfl, Or.inl rfl, _, rfl⟩) (hb hby d45_10) hr
  · show Q_min54 Z _ h0 n0 _ s₁.heap _
    rw [e0]
    exact ⟨rfl, N0, rfl⟩
theorem ef_chkL (m : MethodId) (x0 : Int32) (x1 : Int32) : entryFrame m #[(.int x0), (.int x1)] 2 = mkF m 0 #[.val (.int x0), .val (.int x1)] [] := by first | (simp [entryFrame, mkF, argsToLocals, Value.category]; done) | rfl
theorem pn_44 : plainName "java/util/Arrays" = true := by first | (simp [plainName, overriddenIn]; done) | decide +kernel
theorem d44_0 : decode jdk_65_method_131_code 0 = .ok (.iload_n 1, 1) := by decide +kernel
theorem d44_1 : decode jdk_65_method_131_code 1 = .ok (.iload_n 0, 1) := by decide +kernel
theorem d44_2 : decode jdk_65_method_131_code 2 = .ok (.if_icmp .ge 35, 3) := by decide +kernel
theorem d44_37 : decode jdk_65_method_131_code 37 = .ok (.return_, 1) := by decide +kernel
def Q_chkL (Z : State) (f_ : Int32) (t_ : Int32) (h0 : Heap) (n0 : Nat) (vR : Option Value) (hR : Heap) (LR : List Loc) : Prop := vR = none ∧ Fr n0 LR ∧ hR = h0
set_option maxRecDepth 65536 in
set_option maxHeartbeats 40000000 in
theorem chkL (l : Launch) (Z : State) (a0 : Array Value) (hw : ∀ d ∈ tables_1, d.before a0 Z = true) (ws : List Jvm.Cond) (f_ : Int32) (t_ : Int32) (h0 : Heap) (n0 : Nat) (Z0 : n0 ≤ h0.size) (hft : ¬ (t_ < f_)) :
    own_M l (⟨"java/util/Arrays", "checkLength", "(II)V"⟩ : MethodName) jdk_65_method_131_code 2 none ws ({ frames := 0, cells := 0, slots := 0, locals := 0 } : Room) Z #[(.int f_), (.int t_)] h0 (Q_chkL Z f_ t_ h0 n0) := by
  refine own_body (own := "java/util/Arrays") rfl (plainFor_of_name pn_44) (fun m => ef_chkL m f_ t_) ?_
  intro p e s m below meth c s₁ Bd hml hZ hh hx hby hown X0 e0
  have N0 := Fr.nil n0
  refine own_iloadN X0.here hx hby d44_0 rfl ?_
  refine own_iloadN X0.here hx hby d44_1 rfl ?_
  refine own_icmpYes X0.here hx hby (pc' := 37) d44_2 (flt hft).2.1 (by decide) (by decide) ?_
  obtain ⟨fs, hr, hrun, hended, hW, hsame⟩ := X0.leave (v := none) (fun _ => rfl) Bd.notSynchronized
  refine own_ret (t := s₁.setFrames fs) ?_ ⟨_, hrun, hended, _, _, rfl, ?_, ⟨_, rfl⟩, hW, hsame.mono (by decide) (by decide)⟩
  · exact X0.returnOut hx Bd.returns (hb hby d44_37) hr
  · show Q_chkL Z _ _ h0 n0 _ s₁.heap _
    rw [e0]
    exact ⟨rfl, N0, rfl⟩
theorem ef_crB0 (m : MethodId) (x0 : Nat) (x1 : Int32) (x2 : Int32) : entryFrame m #[(.ref x0), (.int x1), (.int x2)] 5 = mkF m 0 #[.val (.ref x0), .val (.int x1), .val (.int x2), .unset, .unset] [] := by first | (simp [entryFrame, mkF, argsToLocals, Value.category]; done) | rfl
theorem pn_43 : plainName "java/util/Arrays" = true := by first | (simp [plainName, overriddenIn]; done) | decide +kernel
theorem d43_0 : decode jdk_65_method_133_code 0 = .ok (.iload_n 1, 1) := by decide +kernel
theorem d43_1 : decode jdk_65_method_133_code 1 = .ok (.iload_n 2, 1) := by decide +kernel
theorem d43_2 : decode jdk_65_method_133_code 2 = .ok (.invokestatic 343, 3) := by decide +kernel
theorem pd_19 : parseMethodDescriptor "(II)V" = some ⟨[.int, .int], none⟩ := by decide +kernel
theorem d43_5 : decode jdk_65_method_133_code 5 = .ok (.iload_n 2, 1) := by decide +kernel
theorem d43_6 : decode jdk_65_method_133_code 6 = .ok (.iload_n 1, 1) := by decide +kernel
theorem d43_7 : decode jdk_65_method_133_code 7 = .ok (.isub, 1) := by decide +kernel
theorem d43_8 : decode jdk_65_method_133_code 8 = .ok (.istore_n 3, 1) := by decide +kernel
theorem d43_9 : decode jdk_65_method_133_code 9 = .ok (.iload_n 3, 1) := by decide +kernel
theorem d43_10 : decode jdk_65_method_133_code 10 = .ok (.newarray .byte, 2) := by decide +kernel
theorem d43_12 : decode jdk_65_method_133_code 12 = .ok (.astore 4, 2) := by decide +kernel
theorem d43_14 : decode jdk_65_method_133_code 14 = .ok (.aload_n 0, 1) := by decide +kernel
theorem d43_15 : decode jdk_65_method_133_code 15 = .ok (.iload_n 1, 1) := by decide +kernel
theorem d43_16 : decode jdk_65_method_133_code 16 = .ok (.aload 4, 2) := by decide +kernel
theorem d43_18 : decode jdk_65_method_133_code 18 = .ok (.iconst 0, 1) := by decide +kernel
theorem d43_19 : decode jdk_65_method_133_code 19 = .ok (.aload_n 0, 1) := by decide +kernel
theorem d43_20 : decode jdk_65_method_133_code 20 = .ok (.arraylength, 1) := by decide +kernel
theorem d43_21 : decode jdk_65_method_133_code 21 = .ok (.iload_n 1, 1) := by decide +kernel
theorem d43_22 : decode jdk_65_method_133_code 22 = .ok (.isub, 1) := by decide +kernel
theorem d43_23 : decode jdk_65_method_133_code 23 = .ok (.iload_n 3, 1) := by decide +kernel
theorem d43_24 : decode jdk_65_method_133_code 24 = .ok (.invokestatic 304, 3) := by decide +kernel
theorem d43_27 : decode jdk_65_method_133_code 27 = .ok (.invokestatic 150, 3) := by decide +kernel
theorem d43_30 : decode jdk_65_method_133_code 30 = .ok (.aload 4, 2) := by decide +kernel
theorem d43_32 : decode jdk_65_method_133_code 32 = .ok (.areturn, 1) := by decide +kernel
def Q_crB0 (Z : State) (t : Nat) (kt : ClassId) (wl : List Int32) (h0 : Heap) (n0 : Nat) (vR : Option Value) (hR : Heap) (LR : List Loc) : Prop := ∃ (r : Nat) (kr : ClassId), vR = some (.ref r) ∧ Fr n0 LR ∧ Keep h0 hR [] ∧ h0.size ≤ r ∧ (Arv Z hR r kr .byte (Int32.ofNat wl.length) (own_b wl) (.int 0)) ∧ (Exa Z hR r "[B")
set_option maxRecDepth 65536 in
set_option maxHeartbeats 40000000 in
theorem crB0 (l : Launch) (Z : State) (a0 : Array Value) (hw : ∀ d ∈ tables_1, d.before a0 Z = true) (ws : List Jvm.Cond) (t : Nat) (kt : ClassId) (wl : List Int32) (h0 : Heap) (n0 : Nat) (Z0 : n0 ≤ h0.size) (V_t : Arv Z h0 t kt .byte (54 : Int32) (own_bz wl) (.int 0)) (hw54 : wl.length < 54) :
    own_M l (⟨"java/util/Arrays", "copyOfRangeByte", "([BII)[B"⟩ : MethodName) jdk_65_method_133_code 5 (some (.array .byte)) ws ({ frames := 1, cells := 1, slots := 54, locals := 18 } : Room) Z #[(.ref t), (.int 0), (.int (Int32.ofNat wl.length))] h0 (Q_crB0 Z t kt wl h0 n0) := by
  refine own_body (own := "java/util/Arrays") rfl (plainFor_of_name pn_43) (fun m => ef_crB0 m t (0 : Int32) (Int32.ofNat wl.length)) ?_
  intro p e s m below meth c s₁ Bd hml hZ hh hx hby hown X0 e0
  have N0 := Fr.nil n0
  have lt1 : h0.size > t := V_t.lt
  refine own_iloadN X0.here hx hby d43_0 rfl ?_
  refine own_iloadN X0.here hx hby d43_1 rfl ?_
  refine own_callS X0 hx hZ hown (own_w hw 250 rfl) (own_w hw 251 rfl) (own_w hw 245 rfl) (own_w hw 252 rfl) (by decide) (chkL l Z a0 hw [] (0 : Int32) (Int32.ofNat wl.length) h0 n0 Z0 (own_n0 (by omega))) 0 (Nat.le_of_eq rfl) (by decide) (by decide) (by rw [hml]; rfl) (argsL := [(.int 0), (.int (Int32.ofNat wl.length))]) (st := []) (lenOf pd_19 rfl) rfl rfl (by decide) (by decide) e0 hby d43_2 ?_
  intro T2 v2 L2 X2 hQ2
  obtain ⟨rfl, Nq2, eh2⟩ := hQ2
  have N2 := Fr.app N0 Nq2
  refine own_sh (T := T2) 5 #[.val (.ref t), .val (.int 0), .val (.int (Int32.ofNat wl.length)), .unset, .unset] [] ?_
  refine own_iloadN X2.here hx hby d43_5 rfl ?_
  refine own_iloadN X2.here hx hby d43_6 rfl ?_
  refine own_isub X2.here hx hby d43_7 rfl ?_
  refine own_sh (T := T2) 8 #[.val (.ref t), .val (.int 0), .val (.int (Int32.ofNat wl.length)), .unset, .unset] [(.int ((Int32.ofNat wl.length) - (0 : Int32)))] ?_
  rw [show ((Int32.ofNat wl.length) - (0 : Int32)) = (Int32.ofNat wl.length) from (own_sub0 _)]
  refine own_istoreN X2.here hx hby d43_8 (l' := #[.val (.ref t), .val (.int 0), .val (.int (Int32.ofNat wl.length)), .val (.int (Int32.ofNat wl.length)), .unset]) rfl ?_
  refine own_iloadN X2.here hx hby d43_9 rfl ?_
  refine own_newP X2 hx hZ (aty := .byte) (own_w hw 9 rfl) eh2 hby d43_10 (own_n0 (by omega)) 54 (by rw [own_nC (by omega)]; omega) (by decide) (by decide) (by decide) (ad := "[B") (by decide) ?_
  intro T3 h3 k3 b3 X3 e3 E3 g3 V3 C3 lt3
  have z4 : h0.size ≤ h3.size := E3.1
  have V5 : Arv Z h3 b3 k3 .byte (Int32.ofNat wl.length) [] (.int 0) := V3
  refine own_astore X3.here hx hby d43_12 rfl (l' := #[.val (.ref t), .val (.int 0), .val (.int (Int32.ofNat wl.length)), .val (.int (Int32.ofNat wl.length)), .val (.ref b3)]) rfl ?_
  refine own_aloadN X3.here hx hby d43_14 rfl rfl ?_
  refine own_iloadN X3.here hx hby d43_15 rfl ?_
  refine own_aload X3.here hx hby d43_16 rfl rfl ?_
  refine own_iconst X3.here hx hby d43_18 (v := (0 : Int32)) (by decide) ?_
  refine own_aloadN X3.here hx hby d43_19 rfl rfl ?_
  have f6 := (V_t.ext E3)
  refine own_alen X3 hx hZ e3 f6 hby d43_20 ?_
  refine own_iloadN X3.here hx hby d43_21 rfl ?_
  refine own_isub X3.here hx hby d43_22 (v := (54 : Int32)) (by decide) ?_
  refine own_iloadN X3.here hx hby d43_23 rfl ?_
  have z8 : n0 ≤ h3.size := by omega
  refine own_callS X3 hx hZ hown (own_w hw 253 rfl) (own_w hw 254 rfl) (own_w hw 255 rfl) (own_w hw 256 rfl) (by decide) (min54 l Z a0 hw [] (Int32.ofNat wl.length) h3 n0 z8 (own_lt16 hw54)) 4 (Nat.le_of_eq rfl) (by decide) (by decide) (by rw [hml]; rfl) (argsL := [(.int 54), (.int (Int32.ofNat wl.length))]) (st := [(.int 0), (.ref b3), (.int 0), (.ref t)]) (lenOf pd_14 rfl) rfl rfl (by decide) (by decide) e3 hby d43_24 ?_
  intro T7 v7 L7 X7 hQ7
  obtain ⟨rfl, Nq7, eh7⟩ := hQ7
  have N7 := Fr.app N2 Nq7
  refine own_sh (T := T7) 27 #[.val (.ref t), .val (.int 0), .val (.int (Int32.ofNat wl.length)), .val (.int (Int32.ofNat wl.length)), .val (.ref b3)] [(.int (Int32.ofNat wl.length)), (.int 0), (.ref b3), (.int 0), (.ref t)] ?_
  have V9 : Arv Z h3 b3 k3 .byte (Int32.ofNat wl.length) (List.replicate wl.length (.int 0)) (.int 0) := V5.pad own_pad0
  refine own_copyL X7 hx hZ hown (own_w hw 257 rfl) (own_w hw 111 rfl) (own_w hw 109 rfl) (own_w hw 110 rfl) eh7 f6 V9 (res := (own_b wl)) rfl 0 0 wl.length (by decide) (by decide) (own_nC (by omega)) (by decide) (by decide) (own_n0 (by omega)) (by show 0 + wl.length ≤ 54; omega) (by rw [own_nC (by omega)]; omega) (by rw [List.length_replicate]; omega) (own_takeB (by omega)) N7 (by omega) (by rw [hml]; rfl) hby d43_27 (by decide) 0 (Nat.le_of_eq rfl) (by decide) ?_
  intro T10 h10 lo10 X10 e10 N10 K10 V10 z10
  refine own_aload X10.here hx hby d43_30 rfl rfl ?_
  have K11 : Keep h0 h10 [] := (((Keep.refl h0 []).ext E3).trans K10 (allS (P := fun xq_ => xq_ ∈ [] ∨ h0.size ≤ xq_) (Or.inr (by omega)) all0))
  have f12 := (C3.keep K10)
  obtain ⟨fs, hr, hrun, hended, hW, hsame⟩ := X10.leave (v := some (.ref b3)) (fun h => by rw [Bd.returns] at h; cases h) Bd.notSynchronized
  refine own_ret (t := T10.setFrames fs) ?_ ⟨_, hrun, hended, _, _, rfl, ?_, ⟨_, rfl⟩, hW, hsame.mono (by decide) (by decide)⟩
  · exact retOut X10 hx Bd.returns rfl (Or.inr (Or.inr (Or.inr (Or.inr ⟨rfl, rfl, rfl⟩)))) (hb hby d43_32) hr
  · show Q_crB0 Z _ _ _ h0 n0 _ T10.heap _
    rw [e10]
    exact ⟨b3, k3, rfl, N10, K11, (by omega), V10, f12⟩
theorem ef_cr0 (m : MethodId) (x0 : Nat) (x1 : Int32) (x2 : Int32) : entryFrame m #[(.ref x0), (.int x1), (.int x2)] 3 = mkF m 0 #[.val (.ref x0), .val (.int x1), .val (.int x2)] [] := by first | (simp [entryFrame, mkF, argsToLocals, Value.category]; done) | rfl
theorem pn_42 : plainName "java/util/Arrays" = true := by first | (simp [plainName, overriddenIn]; done) | decide +kernel
theorem d42_0 : decode jdk_65_method_132_code 0 = .ok (.iload_n 1, 1) := by decide +kernel
theorem d42_1 : decode jdk_65_method_132_code 1 = .ok (.ifCond .ne 9, 3) := by decide +kernel
theorem d42_4 : decode jdk_65_method_132_code 4 = .ok (.iload_n 2, 1) := by decide +kernel
theorem d42_5 : decode jdk_65_method_132_code 5 = .ok (.aload_n 0, 1) := by decide +kernel
theorem d42_6 : decode jdk_65_method_132_code 6 = .ok (.arraylength, 1) := by decide +kernel
theorem d42_7 : decode jdk_65_method_132_code 7 = .ok (.if_icmp .eq 10, 3) := by decide +kernel
theorem d42_10 : decode jdk_65_method_132_code 10 = .ok (.aload_n 0, 1) := by decide +kernel
theorem d42_11 : decode jdk_65_method_132_code 11 = .ok (.iload_n 1, 1) := by decide +kernel
theorem d42_12 : decode jdk_65_method_132_code 12 = .ok (.iload_n 2, 1) := by decide +kernel
theorem d42_13 : decode jdk_65_method_132_code 13 = .ok (.invokestatic 339, 3) := by decide +kernel
theorem pd_20 : parseMethodDescriptor "([BII)[B" = some ⟨[(.array .byte), .int, .int], some (.array .byte)⟩ := by decide +kernel
theorem d42_16 : decode jdk_65_method_132_code 16 = .ok (.areturn, 1) := by decide +kernel
def Q_cr0 (Z : State) (t : Nat) (kt : ClassId) (wl : List Int32) (h0 : Heap) (n0 : Nat) (vR : Option Value) (hR : Heap) (LR : List Loc) : Prop := ∃ (r : Nat) (kr : ClassId), vR = some (.ref r) ∧ Fr n0 LR ∧ Keep h0 hR [] ∧ h0.size ≤ r ∧ (Arv Z hR r kr .byte (Int32.ofNat wl.length) (own_b wl) (.int 0)) ∧ (Exa Z hR r "[B")
set_option maxRecDepth 65536 in
set_option maxHeartbeats 40000000 in
theorem cr0 (l : Launch) (Z : State) (a0 : Array Value) (hw : ∀ d ∈ tables_1, d.before a0 Z = true) (ws : List Jvm.Cond) (t : Nat) (kt : ClassId) (wl : List Int32) (h0 : Heap) (n0 : Nat) (Z0 : n0 ≤ h0.size) (V_t : Arv Z h0 t kt .byte (54 : Int32) (own_bz wl) (.int 0)) (hw54 : wl.length < 54) :
    own_M l (⟨"java/util/Arrays", "copyOfRange", "([BII)[B"⟩ : MethodName) jdk_65_method_132_code 3 (some (.array .byte)) ws ({ frames := 2, cells := 1, slots := 54, locals := 34 } : Room) Z #[(.ref t), (.int 0), (.int (Int32.ofNat wl.length))] h0 (Q_cr0 Z t kt wl h0 n0) := by
  refine own_body (own := "java/util/Arrays") rfl (plainFor_of_name pn_42) (fun m => ef_cr0 m t (0 : Int32) (Int32.ofNat wl.length)) ?_
  intro p e s m below meth c s₁ Bd hml hZ hh hx hby hown X0 e0
  have N0 := Fr.nil n0
  have lt1 : h0.size > t := V_t.lt
  refine own_iloadN X0.here hx hby d42_0 rfl ?_
  refine own_ifNo X0.here hx hby d42_1 ((if0 _ _).trans (teq (show (0 : Int32) = (0 : Int32) from (by decide))).2) ?_
  refine own_iloadN X0.here hx hby d42_4 rfl ?_
  refine own_aloadN X0.here hx hby d42_5 rfl rfl ?_
  refine own_alen X0 hx hZ e0 V_t hby d42_6 ?_
  refine own_icmpNo X0.here hx hby d42_7 (feq (show ¬ ((Int32.ofNat wl.length) = (54 : Int32)) from own_ne16 hw54)).1 ?_
  refine own_aloadN X0.here hx hby d42_10 rfl rfl ?_
  refine own_iloadN X0.here hx hby d42_11 rfl ?_
  refine own_iloadN X0.here hx hby d42_12 rfl ?_
  refine own_callS X0 hx hZ hown (own_w hw 247 rfl) (own_w hw 248 rfl) (own_w hw 245 rfl) (own_w hw 249 rfl) (by decide) (crB0 l Z a0 hw [] t kt wl h0 n0 Z0 V_t hw54) 0 (Nat.le_of_eq rfl) (by decide) (by decide) (by rw [hml]; rfl) (argsL := [(.ref t), (.int 0), (.int (Int32.ofNat wl.length))]) (st := []) (lenOf pd_20 rfl) rfl rfl (by decide) (by decide) e0 hby d42_13 ?_
  intro T2 v2 L2 X2 hQ2
  obtain ⟨r_2, kr_2, rfl, Nq2, K2, P2_0, P2_1, P2_2⟩ := hQ2
  have N2 := Fr.app N0 Nq2
  have z3 : h0.size ≤ T2.heap.size := K2.1
  have lt4 : T2.heap.size > r_2 := P2_1.lt
  refine own_sh (T := T2) 16 #[.val (.ref t), .val (.int 0), .val (.int (Int32.ofNat wl.length))] [(.ref r_2)] ?_
  have K5 : Keep h0 T2.heap [] := ((Keep.refl h0 []).trans K2 all0)
  obtain ⟨fs, hr, hrun, hended, hW, hsame⟩ := X2.leave (v := some (.ref r_2)) (fun h => by rw [Bd.returns] at h; cases h) Bd.notSynchronized
  refine own_ret (t := T2.setFrames fs) ?_ ⟨_, hrun, hended, _, _, rfl, ?_, ⟨_, rfl⟩, hW, hsame.mono (by decide) (by decide)⟩
  · exact retOut X2 hx Bd.returns rfl (Or.inr (Or.inr (Or.inr (Or.inr ⟨rfl, rfl, rfl⟩)))) (hb hby d42_16) hr
  · show Q_cr0 Z _ _ _ h0 n0 _ T2.heap _
    exact ⟨r_2, kr_2, rfl, N2, K5, (by omega), P2_1, P2_2⟩
theorem ef_asbVal (m : MethodId) (x0 : Nat) : entryFrame m #[(.ref x0)] 1 = mkF m 0 #[.val (.ref x0)] [] := by first | (simp [entryFrame, mkF, argsToLocals, Value.category]; done) | rfl
theorem pn_39 : plainName "java/lang/AbstractStringBuilder" = true := by first | (simp [plainName, overriddenIn]; done) | decide +kernel
theorem d39_0 : decode jdk_68_method_64_code 0 = .ok (.aload_n 0, 1) := by decide +kernel
theorem d39_1 : decode jdk_68_method_64_code 1 = .ok (.getfield 15, 3) := by decide +kernel
theorem d39_4 : decode jdk_68_method_64_code 4 = .ok (.areturn, 1) := by decide +kernel
def Q_asbVal (Z : State) (sb : Nat) (b : Nat) (h0 : Heap) (n0 : Nat) (vR : Option Value) (hR : Heap) (LR : List Loc) : Prop := vR = some (.ref b) ∧ Fr n0 LR ∧ hR = h0
set_option maxRecDepth 65536 in
set_option maxHeartbeats 40000000 in
theorem asbVal (l : Launch) (Z : State) (a0 : Array Value) (hw : ∀ d ∈ tables_1, d.before a0 Z = true) (ws : List Jvm.Cond) (sb : Nat) (b : Nat) (h0 : Heap) (n0 : Nat) (Z0 : n0 ≤ h0.size) (F_value_sb : Fld Z h0 sb "java/lang/AbstractStringBuilder" "value" "[B" (.ref b)) :
    own_M l (⟨"java/lang/AbstractStringBuilder", "getValue", "()[B"⟩ : MethodName) jdk_68_method_64_code 1 (some (.array .byte)) ws ({ frames := 0, cells := 0, slots := 0, locals := 0 } : Room) Z #[(.ref sb)] h0 (Q_asbVal Z sb b h0 n0) := by
  refine own_body (own := "java/lang/AbstractStringBuilder") rfl (plainFor_of_name pn_39) (fun m => ef_asbVal m sb) ?_
  intro p e s m below meth c s₁ Bd hml hZ hh hx hby hown X0 e0
  have N0 := Fr.nil n0
  have lt1 : h0.size > sb := F_value_sb.lt
  refine own_aloadN X0.here hx hby d39_0 rfl rfl ?_
  refine own_getF X0 hx hZ hown (host := "") (Or.inl (own_w hw 69 rfl)) Via.refl e0 F_value_sb hby d39_1 ?_
  intro T2 X2 e2
  obtain ⟨fs, hr, hrun, hended, hW, hsame⟩ := X2.leave (v := some (.ref b)) (fun h => by rw [Bd.returns] at h; cases h) Bd.notSynchronized
  refine own_ret (t := T2.setFrames fs) ?_ ⟨_, hrun, hended, _, _, rfl, ?_, ⟨_, rfl⟩, hW, hsame.mono (by decide) (by decide)⟩
  · exact retOut X2 hx Bd.returns rfl (Or.inr (Or.inr (Or.inr (Or.inr ⟨rfl, rfl, rfl⟩)))) (hb hby d39_4) hr
  · show Q_asbVal Z _ _ h0 n0 _ T2.heap _
    rw [e2]
    exact ⟨rfl, N0, rfl⟩
theorem ef_asbLenG (m : MethodId) (x0 : Nat) : entryFrame m #[(.ref x0)] 1 = mkF m 0 #[.val (.ref x0)] [] := by first | (simp [entryFrame, mkF, argsToLocals, Value.category]; done) | rfl
theorem pn_41 : plainName "java/lang/AbstractStringBuilder" = true := by first | (simp [plainName, overriddenIn]; done) | decide +kernel
theorem d41_0 : decode jdk_68_method_6_code 0 = .ok (.aload_n 0, 1) := by decide +kernel
theorem d41_1 : decode jdk_68_method_6_code 1 = .ok (.getfield 79, 3) := by decide +kernel
theorem d41_4 : decode jdk_68_method_6_code 4 = .ok (.ireturn, 1) := by decide +kernel
def Q_asbLenG (Z : State) (sb : Nat) (z_ : Int32) (h0 : Heap) (n0 : Nat) (vR : Option Value) (hR : Heap) (LR : List Loc) : Prop := vR = some (.int z_) ∧ Fr n0 LR ∧ hR = h0
set_option maxRecDepth 65536 in
set_option maxHeartbeats 40000000 in
theorem asbLenG (l : Launch) (Z : State) (a0 : Array Value) (hw : ∀ d ∈ tables_1, d.before a0 Z = true) (ws : List Jvm.Cond) (sb : Nat) (z_ : Int32) (h0 : Heap) (n0 : Nat) (Z0 : n0 ≤ h0.size) (F_count_sb : Fld Z h0 sb "java/lang/AbstractStringBuilder" "count" "I" (.int z_)) :
    own_M l (⟨"java/lang/AbstractStringBuilder", "length", "()I"⟩ : MethodName) jdk_68_method_6_code 1 (some .int) ws ({ frames := 0, cells := 0, slots := 0, locals := 0 } : Room) Z #[(.ref sb)] h0 (Q_asbLenG Z sb z_ h0 n0) := by
  refine own_body (own := "java/lang/AbstractStringBuilder") rfl (plainFor_of_name pn_41) (fun m => ef_asbLenG m sb) ?_
  intro p e s m below meth c s₁ Bd hml hZ hh hx hby hown X0 e0
  have N0 := Fr.nil n0
  have lt1 : h0.size > sb := F_count_sb.lt
  refine own_aloadN X0.here hx hby d41_0 rfl rfl ?_
  refine own_getF X0 hx hZ hown (host := "") (Or.inl (own_w hw 85 rfl)) Via.refl e0 F_count_sb hby d41_1 ?_
  intro T2 X2 e2
  obtain ⟨fs, hr, hrun, hended, hW, hsame⟩ := X2.leave (v := some (.int z_)) (fun h => by rw [Bd.returns] at h; cases h) Bd.notSynchronized
  refine own_ret (t := T2.setFrames fs) ?_ ⟨_, hrun, hended, _, _, rfl, ?_, ⟨_, rfl⟩, hW, hsame.mono (by decide) (by decide)⟩
  · exact retOut X2 hx Bd.returns rfl (Or.inl ⟨rfl, Or.inl rfl, _, rfl⟩) (hb hby d41_4) hr
  · show Q_asbLenG Z _ _ h0 n0 _ T2.heap _
    rw [e2]
    exact ⟨rfl, N0, rfl⟩
theorem ef_sbLenG (m : MethodId) (x0 : Nat) : entryFrame m #[(.ref x0)] 1 = mkF m 0 #[.val (.ref x0)] [] := by first | (simp [entryFrame, mkF, argsToLocals, Value.category]; done) | rfl
theorem pn_40 : plainName "java/lang/StringBuilder" = true := by first | (simp [plainName, overriddenIn]; done) | decide +kernel
theorem d40_0 : decode jdk_67_method_93_code 0 = .ok (.aload_n 0, 1) := by decide +kernel
theorem d40_1 : decode jdk_67_method_93_code 1 = .ok (.invokespecial 343, 3) := by decide +kernel
theorem d40_4 : decode jdk_67_method_93_code 4 = .ok (.ireturn, 1) := by decide +kernel
def Q_sbLenG (Z : State) (sb : Nat) (z_ : Int32) (h0 : Heap) (n0 : Nat) (vR : Option Value) (hR : Heap) (LR : List Loc) : Prop := vR = some (.int z_) ∧ Fr n0 LR ∧ hR = h0
set_option maxRecDepth 65536 in
set_option maxHeartbeats 40000000 in
theorem sbLenG (l : Launch) (Z : State) (a0 : Array Value) (hw : ∀ d ∈ tables_1, d.before a0 Z = true) (ws : List Jvm.Cond) (sb : Nat) (z_ : Int32) (h0 : Heap) (n0 : Nat) (Z0 : n0 ≤ h0.size) (E_sb : Exa Z h0 sb "java/lang/StringBuilder") (F_count_sb : Fld Z h0 sb "java/lang/AbstractStringBuilder" "count" "I" (.int z_)) :
    own_M l (⟨"java/lang/StringBuilder", "length", "()I"⟩ : MethodName) jdk_67_method_93_code 1 (some .int) ws ({ frames := 1, cells := 0, slots := 0, locals := 12 } : Room) Z #[(.ref sb)] h0 (Q_sbLenG Z sb z_ h0 n0) := by
  refine own_body (own := "java/lang/StringBuilder") rfl (plainFor_of_name pn_40) (fun m => ef_sbLenG m sb) ?_
  intro p e s m below meth c s₁ Bd hml hZ hh hx hby hown X0 e0
  have N0 := Fr.nil n0
  have lt1 : h0.size > sb := E_sb.lt
  refine own_aloadN X0.here hx hby d40_0 rfl rfl ?_
  refine own_super X0 hx hZ (by decide) hown (own_w hw 240 rfl) (own_sameM (y := (⟨"java/lang/AbstractStringBuilder", "length", "()I"⟩ : MethodName)) (y' := (⟨"java/lang/AbstractStringBuilder", "ensureCapacityInternal", "(I)V"⟩ : MethodName)) rfl (own_w hw 236 rfl) (own_w hw 90 rfl) (by decide)) (own_w hw 236 rfl) (own_w hw 83 rfl) (own_w hw 49 rfl) (own_w hw 241 rfl) (asbLenG l Z a0 hw [] sb z_ h0 n0 Z0 F_count_sb) 0 (Nat.le_of_eq rfl) (by decide) (by decide) (by rw [hml]; rfl) (argsL := []) (st := []) E_sb (lenOf pd_6 rfl) rfl rfl (by decide) (by decide) e0 hby d40_1 ?_
  intro T2 v2 L2 X2 hQ2
  obtain ⟨rfl, Nq2, eh2⟩ := hQ2
  have N2 := Fr.app N0 Nq2
  refine own_sh (T := T2) 4 #[.val (.ref sb)] [(.int z_)] ?_
  obtain ⟨fs, hr, hrun, hended, hW, hsame⟩ := X2.leave (v := some (.int z_)) (fun h => by rw [Bd.returns] at h; cases h) Bd.notSynchronized
  refine own_ret (t := T2.setFrames fs) ?_ ⟨_, hrun, hended, _, _, rfl, ?_, ⟨_, rfl⟩, hW, hsame.mono (by decide) (by decide)⟩
  · exact retOut X2 hx Bd.returns rfl (Or.inl ⟨rfl, Or.inl rfl, _, rfl⟩) (hb hby d40_4) hr
  · show Q_sbLenG Z _ _ h0 n0 _ T2.heap _
    rw [eh2]
    exact ⟨rfl, N2, rfl⟩
theorem ef_strOfA (m : MethodId) (x0 : Nat) (x1 : Nat) : entryFrame m #[(.ref x0), (.ref x1), .null] 5 = mkF m 0 #[.val (.ref x0), .val (.ref x1), .val .null, .unset, .unset] [] := by first | (simp [entryFrame, mkF, argsToLocals, Value.category]; done) | rfl
theorem pn_38 : plainName "java/lang/String" = true := by first | (simp [plainName, overriddenIn]; done) | decide +kernel
theorem d38_0 : decode jdk_42_method_150_code 0 = .ok (.aload_n 0, 1) := by decide +kernel
theorem d38_1 : decode jdk_42_method_150_code 1 = .ok (.invokespecial 1, 3) := by decide +kernel
theorem d38_4 : decode jdk_42_method_150_code 4 = .ok (.aload_n 1, 1) := by decide +kernel
theorem d38_5 : decode jdk_42_method_150_code 5 = .ok (.invokevirtual 552, 3) := by decide +kernel
theorem pd_21 : parseMethodDescriptor "()[B" = some ⟨[], some (.array .byte)⟩ := by decide +kernel
theorem d38_8 : decode jdk_42_method_150_code 8 = .ok (.astore_n 3, 1) := by decide +kernel
theorem d38_9 : decode jdk_42_method_150_code 9 = .ok (.aload_n 1, 1) := by decide +kernel
theorem d38_10 : decode jdk_42_method_150_code 10 = .ok (.invokevirtual 549, 3) := by decide +kernel
theorem d38_13 : decode jdk_42_method_150_code 13 = .ok (.istore 4, 2) := by decide +kernel
theorem d38_15 : decode jdk_42_method_150_code 15 = .ok (.aload_n 1, 1) := by decide +kernel
theorem d38_16 : decode jdk_42_method_150_code 16 = .ok (.invokevirtual 1047, 3) := by decide +kernel
theorem d38_19 : decode jdk_42_method_150_code 19 = .ok (.ifCond .eq 22, 3) := by decide +kernel
theorem d38_22 : decode jdk_42_method_150_code 22 = .ok (.aload_n 0, 1) := by decide +kernel
theorem d38_23 : decode jdk_42_method_150_code 23 = .ok (.iconst 0, 1) := by decide +kernel
theorem d38_24 : decode jdk_42_method_150_code 24 = .ok (.putfield 15, 3) := by decide +kernel
theorem d38_27 : decode jdk_42_method_150_code 27 = .ok (.aload_n 0, 1) := by decide +kernel
theorem d38_28 : decode jdk_42_method_150_code 28 = .ok (.aload_n 3, 1) := by decide +kernel
theorem d38_29 : decode jdk_42_method_150_code 29 = .ok (.iconst 0, 1) := by decide +kernel
theorem d38_30 : decode jdk_42_method_150_code 30 = .ok (.iload 4, 2) := by decide +kernel
theorem d38_32 : decode jdk_42_method_150_code 32 = .ok (.invokestatic 54, 3) := by decide +kernel
theorem d38_35 : decode jdk_42_method_150_code 35 = .ok (.putfield 9, 3) := by decide +kernel
theorem d38_38 : decode jdk_42_method_150_code 38 = .ok (.goto 59, 3) := by decide +kernel
theorem d38_97 : decode jdk_42_method_150_code 97 = .ok (.return_, 1) := by decide +kernel
def Q_strOfA (Z : State) (x : Nat) (sb : Nat) (b : Nat) (kb : ClassId) (wl : List Int32) (zc : Int32) (h0 : Heap) (n0 : Nat) (vR : Option Value) (hR : Heap) (LR : List Loc) : Prop := ∃ (t : Nat) (kt : ClassId), vR = none ∧ Fr n0 LR ∧ Keep h0 hR [x] ∧ h0.size ≤ t ∧ (Exa Z hR x "java/lang/String") ∧ (Fld Z hR x "java/lang/String" "coder" "B" (.int 0)) ∧ (Fld Z hR x "java/lang/String" "value" "[B" (.ref t)) ∧ (Arv Z hR t kt .byte (Int32.ofNat wl.length) (own_b wl) (.int 0)) ∧ (Exa Z hR t "[B")
set_option maxRecDepth 65536 in
set_option maxHeartbeats 40000000 in
theorem strOfA (l : Launch) (Z : State) (a0 : Array Value) (hw : ∀ d ∈ tables_1, d.before a0 Z = true) (ws : List Jvm.Cond) (x : Nat) (sb : Nat) (b : Nat) (kb : ClassId) (wl : List Int32) (zc : Int32) (h0 : Heap) (n0 : Nat) (Z0 : n0 ≤ h0.size) (E_x : Exa Z h0 x "java/lang/String") (g_x : n0 ≤ x) (Fv_x : Fld Z h0 x "java/lang/String" "value" "[B" .null) (Fc_x : Fld Z h0 x "java/lang/String" "coder" "B" (.int 0)) (E_sb : Exa Z h0 sb "java/lang/StringBuilder") (F_value_sb : Fld Z h0 sb "java/lang/AbstractStringBuilder" "value" "[B" (.ref b)) (F_coder_sb : Fld Z h0 sb "java/lang/AbstractStringBuilder" "coder" "B" (.int 0)) (F_count_sb : Fld Z h0 sb "java/lang/AbstractStringBuilder" "count" "I" (.int (Int32.ofNat wl.length))) (V_b : Arv Z h0 b kb .byte (54 : Int32) (own_bz wl) (.int 0)) (S_C : Sta Z h0 "java/lang/String" "COMPACT_STRINGS" "Z" (.int zc)) (hz : ¬ (zc = (0 : Int32))) (hw54 : wl.length < 54) :
    own_M l (⟨"java/lang/String", "<init>", "(Ljava/lang/AbstractStringBuilder;Ljava/lang/Void;)V"⟩ : MethodName) jdk_42_method_150_code 5 none ws ({ frames := 3, cells := 1, slots := 54, locals := 49 } : Room) Z #[(.ref x), (.ref sb), .null] h0 (Q_strOfA Z x sb b kb wl zc h0 n0) := by
  refine own_body (own := "java/lang/String") rfl (plainFor_of_name pn_38) (fun m => ef_strOfA m x sb) ?_
  intro p e s m below meth c s₁ Bd hml hZ hh hx hby hown X0 e0
  have N0 := Fr.nil n0
  have lt1 : h0.size > x := E_x.lt
  have lt2 : h0.size > sb := E_sb.lt
  have lt3 : h0.size > b := V_b.lt
  refine own_aloadN X0.here hx hby d38_0 rfl rfl ?_
  refine own_initO X0 hx hZ hown (own_w hw 129 rfl) (own_w hw 18 rfl) (own_w hw 19 rfl) e0 (by rw [hml]; rfl) hby d38_1 (by decide) 0 (Nat.le_of_eq rfl) (by decide) ?_
  intro T4 X4 e4
  refine own_aloadN X4.here hx hby d38_4 rfl rfl ?_
  refine own_virtual X4 hx hZ hown (own_w hw 229 rfl) (own_w hw 230 rfl) (notFace_of_selects (args := #[]) (mvT hZ (own_w hw 232 rfl))) (own_w hw 232 rfl) (own_w hw 231 rfl) (own_w hw 49 rfl) (own_w hw 233 rfl) (by decide) (asbVal l Z a0 hw [] sb b h0 n0 Z0 F_value_sb) 0 (Nat.le_of_eq rfl) (by decide) (by decide) (by rw [hml]; rfl) (argsL := []) (st := []) E_sb (lenOf pd_21 rfl) rfl rfl (by decide) (by decide) e4 hby d38_5 ?_
  intro T5 v5 L5 X5 hQ5
  obtain ⟨rfl, Nq5, eh5⟩ := hQ5
  have N5 := Fr.app N0 Nq5
  refine own_sh (T := T5) 8 #[.val (.ref x), .val (.ref sb), .val .null, .unset, .unset] [(.ref b)] ?_
  refine own_astoreN X5.here hx hby d38_8 rfl (l' := #[.val (.ref x), .val (.ref sb), .val .null, .val (.ref b), .unset]) rfl ?_
  refine own_aloadN X5.here hx hby d38_9 rfl rfl ?_
  refine own_virtual X5 hx hZ hown (own_w hw 234 rfl) (own_w hw 235 rfl) (own_notFace (args := #[]) (y := (⟨"java/lang/AbstractStringBuilder", "length", "()I"⟩ : MethodName)) (y' := (⟨"java/lang/AbstractStringBuilder", "ensureCapacityInternal", "(I)V"⟩ : MethodName)) rfl (mvT hZ (own_w hw 90 rfl))) (own_w hw 237 rfl) (own_w hw 238 rfl) (own_w hw 41 rfl) (own_w hw 239 rfl) (by decide) (sbLenG l Z a0 hw [] sb (Int32.ofNat wl.length) h0 n0 Z0 E_sb F_count_sb) 0 (Nat.le_of_eq rfl) (by decide) (by decide) (by rw [hml]; rfl) (argsL := []) (st := []) E_sb (lenOf pd_6 rfl) rfl rfl (by decide) (by decide) eh5 hby d38_10 ?_
  intro T6 v6 L6 X6 hQ6
  obtain ⟨rfl, Nq6, eh6⟩ := hQ6
  have N6 := Fr.app N5 Nq6
  refine own_sh (T := T6) 13 #[.val (.ref x), .val (.ref sb), .val .null, .val (.ref b), .unset] [(.int (Int32.ofNat wl.length))] ?_
  refine own_istore X6.here hx hby d38_13 (l' := #[.val (.ref x), .val (.ref sb), .val .null, .val (.ref b), .val (.int (Int32.ofNat wl.length))]) rfl ?_
  refine own_aloadN X6.here hx hby d38_15 rfl rfl ?_
  refine own_virtual X6 hx hZ hown (own_w hw 242 rfl) (own_w hw 145 rfl) (notFace_of_selects (args := #[]) (mvT hZ (own_w hw 147 rfl))) (own_w hw 147 rfl) (own_w hw 146 rfl) (own_w hw 49 rfl) (own_w hw 148 rfl) (by decide) (asbIsL l Z a0 hw [] sb zc h0 n0 Z0 F_coder_sb S_C hz) 0 (Nat.le_of_eq rfl) (by decide) (by decide) (by rw [hml]; rfl) (argsL := []) (st := []) E_sb (lenOf pd_11 rfl) rfl rfl (by decide) (by decide) eh6 hby d38_16 ?_
  intro T7 v7 L7 X7 hQ7
  obtain ⟨rfl, Nq7, eh7⟩ := hQ7
  have N7 := Fr.app N6 Nq7
  refine own_sh (T := T7) 19 #[.val (.ref x), .val (.ref sb), .val .null, .val (.ref b), .val (.int (Int32.ofNat wl.length))] [(.int 1)] ?_
  refine own_ifNo X7.here hx hby d38_19 ((if0 _ _).trans (feq (show ¬ ((1 : Int32) = (0 : Int32)) from (by decide))).1) ?_
  refine own_aloadN X7.here hx hby d38_22 rfl rfl ?_
  refine own_iconst X7.here hx hby d38_23 (v := (0 : Int32)) (by decide) ?_
  refine own_putFN X7 hx hZ (ty := .byte) (v' := (.int 0)) hown (own_w hw 64 rfl) Via.refl eh7 Fc_x E_x (Or.inr ⟨(own_w hw 11 rfl), rfl, (name_of_methodNamed Bd.named Bd.method).1⟩) (own_w hw 8 rfl) (by decide) rfl rfl hby d38_24 N7 g_x ?_
  intro T8 h8 lo8 X8 e8 N8 W8 F8 z8
  refine own_aloadN X8.here hx hby d38_27 rfl rfl ?_
  refine own_aloadN X8.here hx hby d38_28 rfl rfl ?_
  refine own_iconst X8.here hx hby d38_29 (v := (0 : Int32)) (by decide) ?_
  refine own_iload X8.here hx hby d38_30 rfl ?_
  have f9 := (V_b.other W8 (Ne.symm (own_ne_oa E_x (own_w hw 8 rfl) V_b)))
  have z11 : n0 ≤ h8.size := by omega
  refine own_callS X8 hx hZ hown (own_w hw 243 rfl) (own_w hw 244 rfl) (own_w hw 245 rfl) (own_w hw 246 rfl) (by decide) (cr0 l Z a0 hw [] b kb wl h8 n0 z11 f9 hw54) 1 (Nat.le_of_eq rfl) (by decide) (by decide) (by rw [hml]; rfl) (argsL := [(.ref b), (.int 0), (.int (Int32.ofNat wl.length))]) (st := [(.ref x)]) (lenOf pd_20 rfl) rfl rfl (by decide) (by decide) e8 hby d38_32 ?_
  intro T10 v10 L10 X10 hQ10
  obtain ⟨r_10, kr_10, rfl, Nq10, K10, P10_0, P10_1, P10_2⟩ := hQ10
  have N10 := Fr.app N8 Nq10
  have z12 : h8.size ≤ T10.heap.size := K10.1
  have lt13 : T10.heap.size > r_10 := P10_1.lt
  refine own_sh (T := T10) 35 #[.val (.ref x), .val (.ref sb), .val .null, .val (.ref b), .val (.int (Int32.ofNat wl.length))] [(.ref r_10), (.ref x)] ?_
  have f14 := ((E_x.wr W8).keep K10)
  have f15 := ((Fv_x.other W8 (Or.inr (slot_ne (Or.inr (own_w hw 10 rfl)) (Or.inr (own_w hw 11 rfl)) (by decide) (t := (.array .byte)) (t' := .byte) (by decide) (by decide)))).keep K10 nin0)
  refine own_putF X10 hx hZ (ty := (.array .byte)) hown (host := "") (Or.inl (own_w hw 57 rfl)) Via.refl rfl f15 f14 (Or.inr ⟨(own_w hw 10 rfl), rfl, (name_of_methodNamed Bd.named Bd.method).1⟩) (own_w hw 8 rfl) (by decide) rfl rfl hby d38_35 N10 g_x ?_
  intro T16 h16 lo16 X16 e16 N16 W16 F16 z16
  refine own_goto X16.here hx hby (pc' := 97) d38_38 (by decide) (by decide) ?_
  have K17 : Keep h0 h16 [x] := ((((Keep.refl h0 [x]).wr W8 (Or.inl (List.mem_of_getElem? (i := 0) rfl))).trans K10 all0).wr W16 (Or.inl (List.mem_of_getElem? (i := 0) rfl)))
  have f18 := (f14.wr W16)
  have f19 := ((F8.keep K10 nin0).other W16 (Or.inr (slot_ne (Or.inr (own_w hw 11 rfl)) (Or.inr (own_w hw 10 rfl)) (by decide) (t := .byte) (t' := (.array .byte)) (by decide) (by decide))))
  have f20 := (P10_1.other W16 (own_nn (by omega)))
  have f21 := (P10_2.wr W16)
  obtain ⟨fs, hr, hrun, hended, hW, hsame⟩ := X16.leave (v := none) (fun _ => rfl) Bd.notSynchronized
  refine own_ret (t := T16.setFrames fs) ?_ ⟨_, hrun, hended, _, _, rfl, ?_, ⟨_, rfl⟩, hW, hsame.mono (by decide) (by decide)⟩
  · exact X16.returnOut hx Bd.returns (hb hby d38_97) hr
  · show Q_strOfA Z _ _ _ _ _ _ h0 n0 _ T16.heap _
    rw [e16]
    exact ⟨r_10, kr_10, rfl, N16, K17, (by omega), f18, f19, F16, f20, f21⟩
theorem ef_strOfB (m : MethodId) (x0 : Nat) (x1 : Nat) : entryFrame m #[(.ref x0), (.ref x1)] 2 = mkF m 0 #[.val (.ref x0), .val (.ref x1)] [] := by first | (simp [entryFrame, mkF, argsToLocals, Value.category]; done) | rfl
theorem pn_37 : plainName "java/lang/String" = true := by first | (simp [plainName, overriddenIn]; done) | decide +kernel
theorem d37_0 : decode jdk_42_method_53_code 0 = .ok (.aload_n 0, 1) := by decide +kernel
theorem d37_1 : decode jdk_42_method_53_code 1 = .ok (.aload_n 1, 1) := by decide +kernel
theorem d37_2 : decode jdk_42_method_53_code 2 = .ok (.aconst_null, 1) := by decide +kernel
theorem d37_3 : decode jdk_42_method_53_code 3 = .ok (.invokespecial 489, 3) := by decide +kernel
theorem pd_22 : parseMethodDescriptor "(Ljava/lang/AbstractStringBuilder;Ljava/lang/Void;)V" = some ⟨[(.object "java/lang/AbstractStringBuilder"), (.object "java/lang/Void")], none⟩ := by decide +kernel
theorem d37_6 : decode jdk_42_method_53_code 6 = .ok (.return_, 1) := by decide +kernel
def Q_strOfB (Z : State) (x : Nat) (sb : Nat) (b : Nat) (kb : ClassId) (wl : List Int32) (zc : Int32) (h0 : Heap) (n0 : Nat) (vR : Option Value) (hR : Heap) (LR : List Loc) : Prop := ∃ (t : Nat) (kt : ClassId), vR = none ∧ Fr n0 LR ∧ Keep h0 hR [x] ∧ h0.size ≤ t ∧ (Exa Z hR x "java/lang/String") ∧ (Fld Z hR x "java/lang/String" "coder" "B" (.int 0)) ∧ (Fld Z hR x "java/lang/String" "value" "[B" (.ref t)) ∧ (Arv Z hR t kt .byte (Int32.ofNat wl.length) (own_b wl) (.int 0)) ∧ (Exa Z hR t "[B")
set_option maxRecDepth 65536 in
set_option maxHeartbeats 40000000 in
theorem strOfB (l : Launch) (Z : State) (a0 : Array Value) (hw : ∀ d ∈ tables_1, d.before a0 Z = true) (ws : List Jvm.Cond) (x : Nat) (sb : Nat) (b : Nat) (kb : ClassId) (wl : List Int32) (zc : Int32) (h0 : Heap) (n0 : Nat) (Z0 : n0 ≤ h0.size) (E_x : Exa Z h0 x "java/lang/String") (g_x : n0 ≤ x) (Fv_x : Fld Z h0 x "java/lang/String" "value" "[B" .null) (Fc_x : Fld Z h0 x "java/lang/String" "coder" "B" (.int 0)) (E_sb : Exa Z h0 sb "java/lang/StringBuilder") (F_value_sb : Fld Z h0 sb "java/lang/AbstractStringBuilder" "value" "[B" (.ref b)) (F_coder_sb : Fld Z h0 sb "java/lang/AbstractStringBuilder" "coder" "B" (.int 0)) (F_count_sb : Fld Z h0 sb "java/lang/AbstractStringBuilder" "count" "I" (.int (Int32.ofNat wl.length))) (V_b : Arv Z h0 b kb .byte (54 : Int32) (own_bz wl) (.int 0)) (S_C : Sta Z h0 "java/lang/String" "COMPACT_STRINGS" "Z" (.int zc)) (hz : ¬ (zc = (0 : Int32))) (hw54 : wl.length < 54) :
    own_M l (⟨"java/lang/String", "<init>", "(Ljava/lang/StringBuilder;)V"⟩ : MethodName) jdk_42_method_53_code 2 none ws ({ frames := 4, cells := 1, slots := 54, locals := 65 } : Room) Z #[(.ref x), (.ref sb)] h0 (Q_strOfB Z x sb b kb wl zc h0 n0) := by
  refine own_body (own := "java/lang/String") rfl (plainFor_of_name pn_37) (fun m => ef_strOfB m x sb) ?_
  intro p e s m below meth c s₁ Bd hml hZ hh hx hby hown X0 e0
  have N0 := Fr.nil n0
  have lt1 : h0.size > x := E_x.lt
  have lt2 : h0.size > sb := E_sb.lt
  have lt3 : h0.size > b := V_b.lt
  refine own_aloadN X0.here hx hby d37_0 rfl rfl ?_
  refine own_aloadN X0.here hx hby d37_1 rfl rfl ?_
  refine own_aconstNull X0.here hx hby d37_2 ?_
  refine own_special X0 hx hZ rfl hown (own_w hw 226 rfl) (own_w hw 227 rfl) (own_w hw 7 rfl) (own_w hw 228 rfl) (by decide) (strOfA l Z a0 hw [] x sb b kb wl zc h0 n0 Z0 E_x g_x Fv_x Fc_x E_sb F_value_sb F_coder_sb F_count_sb V_b S_C hz hw54) 0 (Nat.le_of_eq rfl) (by decide) (by decide) (by rw [hml]; rfl) (argsL := [(.ref sb), .null]) (st := []) (a := x) (lenOf pd_22 rfl) rfl rfl (by decide) (by decide) e0 hby d37_3 ?_
  intro T4 v4 L4 X4 hQ4
  obtain ⟨t_4, kt_4, rfl, Nq4, K4, P4_0, P4_1, P4_2, P4_3, P4_4, P4_5⟩ := hQ4
  have N4 := Fr.app N0 Nq4
  have z5 : h0.size ≤ T4.heap.size := K4.1
  have lt6 : T4.heap.size > x := P4_1.lt
  have lt7 : T4.heap.size > t_4 := P4_4.lt
  refine own_sh (T := T4) 6 #[.val (.ref x), .val (.ref sb)] [] ?_
  have K8 : Keep h0 T4.heap [x] := ((Keep.refl h0 [x]).trans K4 (allS (P := fun xq_ => xq_ ∈ [x] ∨ h0.size ≤ xq_) (Or.inl (List.mem_of_getElem? (i := 0) rfl)) all0))
  obtain ⟨fs, hr, hrun, hended, hW, hsame⟩ := X4.leave (v := none) (fun _ => rfl) Bd.notSynchronized
  refine own_ret (t := T4.setFrames fs) ?_ ⟨_, hrun, hended, _, _, rfl, ?_, ⟨_, rfl⟩, hW, hsame.mono (by decide) (by decide)⟩
  · exact X4.returnOut hx Bd.returns (hb hby d37_6) hr
  · show Q_strOfB Z _ _ _ _ _ _ h0 n0 _ T4.heap _
    exact ⟨t_4, kt_4, rfl, N4, K8, (by omega), P4_1, P4_2, P4_3, P4_4, P4_5⟩
theorem ef_sbStrG (m : MethodId) (x0 : Nat) : entryFrame m #[(.ref x0)] 1 = mkF m 0 #[.val (.ref x0)] [] := by first | (simp [entryFrame, mkF, argsToLocals, Value.category]; done) | rfl
theorem pn_36 : plainName "java/lang/StringBuilder" = true := by first | (simp [plainName, overriddenIn]; done) | decide +kernel
theorem d36_0 : decode jdk_67_method_42_code 0 = .ok (.new 18, 3) := by decide +kernel
theorem d36_3 : decode jdk_67_method_42_code 3 = .ok (.dup, 1) := by decide +kernel
theorem d36_4 : decode jdk_67_method_42_code 4 = .ok (.aload_n 0, 1) := by decide +kernel
theorem d36_5 : decode jdk_67_method_42_code 5 = .ok (.invokespecial 137, 3) := by decide +kernel
theorem pd_23 : parseMethodDescriptor "(Ljava/lang/StringBuilder;)V" = some ⟨[(.object "java/lang/StringBuilder")], none⟩ := by decide +kernel
theorem d36_8 : decode jdk_67_method_42_code 8 = .ok (.areturn, 1) := by decide +kernel
def Q_sbStrG (Z : State) (sb : Nat) (b : Nat) (kb : ClassId) (wl : List Int32) (zc : Int32) (h0 : Heap) (n0 : Nat) (vR : Option Value) (hR : Heap) (LR : List Loc) : Prop := ∃ (x : Nat) (t : Nat) (kt : ClassId), vR = some (.ref x) ∧ Fr n0 LR ∧ Keep h0 hR [] ∧ h0.size ≤ x ∧ (Exa Z hR x "java/lang/String") ∧ (Fld Z hR x "java/lang/String" "coder" "B" (.int 0)) ∧ (Fld Z hR x "java/lang/String" "value" "[B" (.ref t)) ∧ (Arv Z hR t kt .byte (Int32.ofNat wl.length) (own_b wl) (.int 0)) ∧ (Exa Z hR t "[B")
set_option maxRecDepth 65536 in
set_option maxHeartbeats 40000000 in
theorem sbStrG (l : Launch) (Z : State) (a0 : Array Value) (hw : ∀ d ∈ tables_1, d.before a0 Z = true) (ws : List Jvm.Cond) (sb : Nat) (b : Nat) (kb : ClassId) (wl : List Int32) (zc : Int32) (h0 : Heap) (n0 : Nat) (Z0 : n0 ≤ h0.size) (E_sb : Exa Z h0 sb "java/lang/StringBuilder") (F_value_sb : Fld Z h0 sb "java/lang/AbstractStringBuilder" "value" "[B" (.ref b)) (F_coder_sb : Fld Z h0 sb "java/lang/AbstractStringBuilder" "coder" "B" (.int 0)) (F_count_sb : Fld Z h0 sb "java/lang/AbstractStringBuilder" "count" "I" (.int (Int32.ofNat wl.length))) (V_b : Arv Z h0 b kb .byte (54 : Int32) (own_bz wl) (.int 0)) (S_C : Sta Z h0 "java/lang/String" "COMPACT_STRINGS" "Z" (.int zc)) (hz : ¬ (zc = (0 : Int32))) (hw54 : wl.length < 54) :
    own_M l (⟨"java/lang/StringBuilder", "toString", "()Ljava/lang/String;"⟩ : MethodName) jdk_67_method_42_code 1 (some (.object "java/lang/String")) ws ({ frames := 5, cells := 2, slots := 58, locals := 79 } : Room) Z #[(.ref sb)] h0 (Q_sbStrG Z sb b kb wl zc h0 n0) := by
  refine own_body (own := "java/lang/StringBuilder") rfl (plainFor_of_name pn_36) (fun m => ef_sbStrG m sb) ?_
  intro p e s m below meth c s₁ Bd hml hZ hh hx hby hown X0 e0
  have N0 := Fr.nil n0
  have lt1 : h0.size > sb := E_sb.lt
  have lt2 : h0.size > b := V_b.lt
  refine own_newO X0 hx hZ hown (own_w hw 222 rfl) (own_w hw 8 rfl) (own_w hw 7 rfl) e0 hby d36_0 (by decide) (by decide) ?_
  intro T3 h3 b3 X3 e3 E3 g3 A3 D3 lt3
  have z4 : h0.size ≤ h3.size := E3.1
  have F5 : Fld Z h3 b3 "java/lang/String" "value" "[B" .null := D3 (Or.inr (own_w hw 10 rfl)) (ty := (.array .byte)) (by decide)
  have F6 : Fld Z h3 b3 "java/lang/String" "coder" "B" (.int 0) := D3 (Or.inr (own_w hw 11 rfl)) (ty := .byte) (by decide)
  refine own_dup X3.here hx hby d36_3 rfl ?_
  refine own_aloadN X3.here hx hby d36_4 rfl rfl ?_
  have f7 := (E_sb.ext E3)
  have f8 := (F_value_sb.ext E3)
  have f9 := (F_coder_sb.ext E3)
  have f10 := (F_count_sb.ext E3)
  have f11 := (V_b.ext E3)
  have f12 := (S_C.ext E3)
  have z14 : n0 ≤ h3.size := by omega
  refine own_special X3 hx hZ rfl hown (own_w hw 223 rfl) (own_w hw 224 rfl) (own_w hw 7 rfl) (own_w hw 225 rfl) (by decide) (strOfB l Z a0 hw [] b3 sb b kb wl zc h3 n0 z14 A3 (by omega) F5 F6 f7 f8 f9 f10 f11 f12 hz hw54) 1 (Nat.le_of_eq rfl) (by decide) (by decide) (by rw [hml]; rfl) (argsL := [(.ref sb)]) (st := [(.ref b3)]) (a := b3) (lenOf pd_23 rfl) rfl rfl (by decide) (by decide) e3 hby d36_5 ?_
  intro T13 v13 L13 X13 hQ13
  obtain ⟨t_13, kt_13, rfl, Nq13, K13, P13_0, P13_1, P13_2, P13_3, P13_4, P13_5⟩ := hQ13
  have N13 := Fr.app N0 Nq13
  have z15 : h3.size ≤ T13.heap.size := K13.1
  have lt16 : T13.heap.size > b3 := P13_1.lt
  have lt17 : T13.heap.size > t_13 := P13_4.lt
  refine own_sh (T := T13) 8 #[.val (.ref sb)] [(.ref b3)] ?_
  have K18 : Keep h0 T13.heap [] := (((Keep.refl h0 []).ext E3).trans K13 (allS (P := fun xq_ => xq_ ∈ [] ∨ h0.size ≤ xq_) (Or.inr (by omega)) all0))
  obtain ⟨fs, hr, hrun, hended, hW, hsame⟩ := X13.leave (v := some (.ref b3)) (fun h => by rw [Bd.returns] at h; cases h) Bd.notSynchronized
  refine own_ret (t := T13.setFrames fs) ?_ ⟨_, hrun, hended, _, _, rfl, ?_, ⟨_, rfl⟩, hW, hsame.mono (by decide) (by decide)⟩
  · exact retOut X13 hx Bd.returns rfl (Or.inr (Or.inr (Or.inr (Or.inr ⟨rfl, rfl, rfl⟩)))) (hb hby d36_8) hr
  · show Q_sbStrG Z _ _ _ _ _ h0 n0 _ T13.heap _
    exact ⟨b3, t_13, kt_13, rfl, N13, K18, (by omega), P13_1, P13_2, P13_3, P13_4, P13_5⟩
theorem ef_cntP_0 (m : MethodId) (x0 : Nat) (x1 : Int32) (x2 : Int32) : entryFrame m #[(.ref x0), (.int x1), (.int x2)] 5 = mkF m 0 #[.val (.ref x0), .val (.int x1), .val (.int x2), .unset, .unset] [] := by first | (simp [entryFrame, mkF, argsToLocals, Value.category]; done) | rfl
theorem pn_50 : plainName "java/lang/StringCoding" = true := by first | (simp [plainName, overriddenIn]; done) | decide +kernel
theorem d50_0 : decode jdk_123_method_3_code 0 = .ok (.iload_n 1, 1) := by decide +kernel
theorem d50_1 : decode jdk_123_method_3_code 1 = .ok (.iload_n 2, 1) := by decide +kernel
theorem d50_2 : decode jdk_123_method_3_code 2 = .ok (.iadd, 1) := by decide +kernel
theorem d50_3 : decode jdk_123_method_3_code 3 = .ok (.istore_n 3, 1) := by decide +kernel
theorem d50_4 : decode jdk_123_method_3_code 4 = .ok (.iload_n 1, 1) := by decide +kernel
theorem d50_5 : decode jdk_123_method_3_code 5 = .ok (.istore 4, 2) := by decide +kernel
theorem d50_7 : decode jdk_123_method_3_code 7 = .ok (.iload 4, 2) := by decide +kernel
theorem d50_9 : decode jdk_123_method_3_code 9 = .ok (.iload_n 3, 1) := by decide +kernel
theorem d50_10 : decode jdk_123_method_3_code 10 = .ok (.if_icmp .ge 21, 3) := by decide +kernel
theorem d50_13 : decode jdk_123_method_3_code 13 = .ok (.aload_n 0, 1) := by decide +kernel
theorem d50_14 : decode jdk_123_method_3_code 14 = .ok (.iload 4, 2) := by decide +kernel
theorem d50_16 : decode jdk_123_method_3_code 16 = .ok (.baload, 1) := by decide +kernel
theorem d50_17 : decode jdk_123_method_3_code 17 = .ok (.ifCond .ge 8, 3) := by decide +kernel
theorem d50_25 : decode jdk_123_method_3_code 25 = .ok (.iinc 4 1, 3) := by decide +kernel
theorem d50_28 : decode jdk_123_method_3_code 28 = .ok (.goto (-21), 3) := by decide +kernel
theorem d50_31 : decode jdk_123_method_3_code 31 = .ok (.iload_n 2, 1) := by decide +kernel
theorem d50_32 : decode jdk_123_method_3_code 32 = .ok (.ireturn, 1) := by decide +kernel
def Q_cntP_0 (Z : State) (t : Nat) (kt : ClassId) (ca : Int32) (h0 : Heap) (n0 : Nat) (vR : Option Value) (hR : Heap) (LR : List Loc) : Prop := vR = some (.int 45) ∧ Fr n0 LR ∧ hR = h0
set_option maxRecDepth 65536 in
set_option maxHeartbeats 40000000 in
theorem cntP_0 (l : Launch) (Z : State) (a0 : Array Value) (hw : ∀ d ∈ tables_1, d.before a0 Z = true) (ws : List Jvm.Cond) (t : Nat) (kt : ClassId) (ca : Int32) (h0 : Heap) (n0 : Nat) (Z0 : n0 ≤ h0.size) (V_t : Arv Z h0 t kt .byte (45 : Int32) [(.int 60), (.int 63), (.int 120), (.int 109), (.int 108), (.int 32), (.int 118), (.int 101), (.int 114), (.int 115), (.int 105), (.int 111), (.int 110), (.int 61), (.int 34), (.int 49), (.int 46), (.int 48), (.int 34), (.int 32), (.int 101), (.int 110), (.int 99), (.int 111), (.int 100), (.int 105), (.int 110), (.int 103), (.int 61), (.int 34), (.int 85), (.int 84), (.int 70), (.int 45), (.int 56), (.int 34), (.int 63), (.int 62), (.int 60), (.int ca), (.int 62), (.int 60), (.int 47), (.int ca), (.int 62)] (.int 0)) (hca : ¬ (ca < (0 : Int32))) :
    own_M l (⟨"java/lang/StringCoding", "countPositives", "([BII)I"⟩ : MethodName) jdk_123_method_3_code 5 (some .int) ws ({ frames := 0, cells := 0, slots := 0, locals := 0 } : Room) Z #[(.ref t), (.int 0), (.int 45)] h0 (Q_cntP_0 Z t kt ca h0 n0) := by
  refine own_body (own := "java/lang/StringCoding") rfl (plainFor_of_name pn_50) (fun m => ef_cntP_0 m t (0 : Int32) (45 : Int32)) ?_
  intro p e s m below meth c s₁ Bd hml hZ hh hx hby hown X0 e0
  have N0 := Fr.nil n0
  have lt1 : h0.size > t := V_t.lt
  refine own_iloadN X0.here hx hby d50_0 rfl ?_
  refine own_iloadN X0.here hx hby d50_1 rfl ?_
  refine own_iadd X0.here hx hby d50_2 (v := (45 : Int32)) (by decide) ?_
  refine own_istoreN X0.here hx hby d50_3 (l' := #[.val (.ref t), .val (.int 0), .val (.int 45), .val (.int 45), .unset]) rfl ?_
  refine own_iloadN X0.here hx hby d50_4 rfl ?_
  refine own_istore X0.here hx hby d50_5 (l' := #[.val (.ref t), .val (.int 0), .val (.int 45), .val (.int 45), .val (.int 0)]) rfl ?_
  refine own_iload X0.here hx hby d50_7 rfl ?_
  refine own_iloadN X0.here hx hby d50_9 rfl ?_
  refine own_icmpNo X0.here hx hby d50_10 (tlt (show (0 : Int32) < (45 : Int32) from (by decide))).2.1 ?_
  refine own_aloadN X0.here hx hby d50_13 rfl rfl ?_
  refine own_iload X0.here hx hby d50_14 rfl ?_
  refine own_baload X0 hx hZ e0 V_t ⟨by decide, by decide⟩ (v := (.int 60)) rfl hby d50_16 ?_
  refine own_ifYes X0.here hx hby (pc' := 25) d50_17 ((if0 _ _).trans (flt (show ¬ ((60 : Int32) < (0 : Int32)) from (by decide))).2.1) (by decide) (by decide) ?_
  refine own_iinc X0.here hx hby d50_25 rfl (v := (1 : Int32)) (by decide) (l' := #[.val (.ref t), .val (.int 0), .val (.int 45), .val (.int 45), .val (.int 1)]) rfl ?_
  refine own_goto X0.here hx hby (pc' := 7) d50_28 (by decide) (by decide) ?_
  refine own_iload X0.here hx hby d50_7 rfl ?_
  refine own_iloadN X0.here hx hby d50_9 rfl ?_
  refine own_icmpNo X0.here hx hby d50_10 (tlt (show (1 : Int32) < (45 : Int32) from (by decide))).2.1 ?_
  refine own_aloadN X0.here hx hby d50_13 rfl rfl ?_
  refine own_iload X0.here hx hby d50_14 rfl ?_
  refine own_baload X0 hx hZ e0 V_t ⟨by decide, by decide⟩ (v := (.int 63)) rfl hby d50_16 ?_
  refine own_ifYes X0.here hx hby (pc' := 25) d50_17 ((if0 _ _).trans (flt (show ¬ ((63 : Int32) < (0 : Int32)) from (by decide))).2.1) (by decide) (by decide) ?_
  refine own_iinc X0.here hx hby d50_25 rfl (v := (2 : Int32)) (by decide) (l' := #[.val (.ref t), .val (.int 0), .val (.int 45), .val (.int 45), .val (.int 2)]) rfl ?_
  refine own_goto X0.here hx hby (pc' := 7) d50_28 (by decide) (by decide) ?_
  refine own_iload X0.here hx hby d50_7 rfl ?_
  refine own_iloadN X0.here hx hby d50_9 rfl ?_
  refine own_icmpNo X0.here hx hby d50_10 (tlt (show (2 : Int32) < (45 : Int32) from (by decide))).2.1 ?_
  refine own_aloadN X0.here hx hby d50_13 rfl rfl ?_
  refine own_iload X0.here hx hby d50_14 rfl ?_
  refine own_baload X0 hx hZ e0 V_t ⟨by decide, by decide⟩ (v := (.int 120)) rfl hby d50_16 ?_
  refine own_ifYes X0.here hx hby (pc' := 25) d50_17 ((if0 _ _).trans (flt (show ¬ ((120 : Int32) < (0 : Int32)) from (by decide))).2.1) (by decide) (by decide) ?_
  refine own_iinc X0.here hx hby d50_25 rfl (v := (3 : Int32)) (by decide) (l' := #[.val (.ref t), .val (.int 0), .val (.int 45), .val (.int 45), .val (.int 3)]) rfl ?_
  refine own_goto X0.here hx hby (pc' := 7) d50_28 (by decide) (by decide) ?_
  refine own_iload X0.here hx hby d50_7 rfl ?_
  refine own_iloadN X0.here hx hby d50_9 rfl ?_
  refine own_icmpNo X0.here hx hby d50_10 (tlt (show (3 : Int32) < (45 : Int32) from (by decide))).2.1 ?_
  refine own_aloadN X0.here hx hby d50_13 rfl rfl ?_
  refine own_iload X0.here hx hby d50_14 rfl ?_
  refine own_baload X0 hx hZ e0 V_t ⟨by decide, by decide⟩ (v := (.int 109)) rfl hby d50_16 ?_
  refine own_ifYes X0.here hx hby (pc' := 25) d50_17 ((if0 _ _).trans (flt (show ¬ ((109 : Int32) < (0 : Int32)) from (by decide))).2.1) (by decide) (by decide) ?_
  refine own_iinc X0.here hx hby d50_25 rfl (v := (4 : Int32)) (by decide) (l' := #[.val (.ref t), .val (.int 0), .val (.int 45), .val (.int 45), .val (.int 4)]) rfl ?_
  refine own_goto X0.here hx hby (pc' := 7) d50_28 (by decide) (by decide) ?_
  refine own_iload X0.here hx hby d50_7 rfl ?_
  refine own_iloadN X0.here hx hby d50_9 rfl ?_
  refine own_icmpNo X0.here hx hby d50_10 (tlt (show (4 : Int32) < (45 : Int32) from (by decide))).2.1 ?_
  refine own_aloadN X0.here hx hby d50_13 rfl rfl ?_
  refine own_iload X0.here hx hby d50_14 rfl ?_
  refine own_baload X0 hx hZ e0 V_t ⟨by decide, by decide⟩ (v := (.int 108)) rfl hby d50_16 ?_
  refine own_ifYes X0.here hx hby (pc' := 25) d50_17 ((if0 _ _).trans (flt (show ¬ ((108 : Int32) < (0 : Int32)) from (by decide))).2.1) (by decide) (by decide) ?_
  refine own_iinc X0.here hx hby d50_25 rfl (v := (5 : Int32)) (by decide) (l' := #[.val (.ref t), .val (.int 0), .val (.int 45), .val (.int 45), .val (.int 5)]) rfl ?_
  refine own_goto X0.here hx hby (pc' := 7) d50_28 (by decide) (by decide) ?_
  refine own_iload X0.here hx hby d50_7 rfl ?_
  refine own_iloadN X0.here hx hby d50_9 rfl ?_
  refine own_icmpNo X0.here hx hby d50_10 (tlt (show (5 : Int32) < (45 : Int32) from (by decide))).2.1 ?_
  refine own_aloadN X0.here hx hby d50_13 rfl rfl ?_
  refine own_iload X0.here hx hby d50_14 rfl ?_
  refine own_baload X0 hx hZ e0 V_t ⟨by decide, by decide⟩ (v := (.int 32)) rfl hby d50_16 ?_
  refine own_ifYes X0.here hx hby (pc' := 25) d50_17 ((if0 _ _).trans (flt (show ¬ ((32 : Int32) < (0 : Int32)) from (by decide))).2.1) (by decide) (by decide) ?_
  refine own_iinc X0.here hx hby d50_25 rfl (v := (6 : Int32)) (by decide) (l' := #[.val (.ref t), .val (.int 0), .val (.int 45), .val (.int 45), .val (.int 6)]) rfl ?_
  refine own_goto X0.here hx hby (pc' := 7) d50_28 (by decide) (by decide) ?_
  refine own_iload X0.here hx hby d50_7 rfl ?_
  refine own_iloadN X0.here hx hby d50_9 rfl ?_
  refine own_icmpNo X0.here hx hby d50_10 (tlt (show (6 : Int32) < (45 : Int32) from (by decide))).2.1 ?_
  refine own_aloadN X0.here hx hby d50_13 rfl rfl ?_
  refine own_iload X0.here hx hby d50_14 rfl ?_
  refine own_baload X0 hx hZ e0 V_t ⟨by decide, by decide⟩ (v := (.int 118)) rfl hby d50_16 ?_
  refine own_ifYes X0.here hx hby (pc' := 25) d50_17 ((if0 _ _).trans (flt (show ¬ ((118 : Int32) < (0 : Int32)) from (by decide))).2.1) (by decide) (by decide) ?_
  refine own_iinc X0.here hx hby d50_25 rfl (v := (7 : Int32)) (by decide) (l' := #[.val (.ref t), .val (.int 0), .val (.int 45), .val (.int 45), .val (.int 7)]) rfl ?_
  refine own_goto X0.here hx hby (pc' := 7) d50_28 (by decide) (by decide) ?_
  refine own_iload X0.here hx hby d50_7 rfl ?_
  refine own_iloadN X0.here hx hby d50_9 rfl ?_
  refine own_icmpNo X0.here hx hby d50_10 (tlt (show (7 : Int32) < (45 : Int32) from (by decide))).2.1 ?_
  refine own_aloadN X0.here hx hby d50_13 rfl rfl ?_
  refine own_iload X0.here hx hby d50_14 rfl ?_
  refine own_baload X0 hx hZ e0 V_t ⟨by decide, by decide⟩ (v := (.int 101)) rfl hby d50_16 ?_
  refine own_ifYes X0.here hx hby (pc' := 25) d50_17 ((if0 _ _).trans (flt (show ¬ ((101 : Int32) < (0 : Int32)) from (by decide))).2.1) (by decide) (by decide) ?_
  refine own_iinc X0.here hx hby d50_25 rfl (v := (8 : Int32)) (by decide) (l' := #[.val (.ref t), .val (.int 0), .val (.int 45), .val (.int 45), .val (.int 8)]) rfl ?_
  refine own_goto X0.here hx hby (pc' := 7) d50_28 (by decide) (by decide) ?_
  refine own_iload X0.here hx hby d50_7 rfl ?_
  refine own_iloadN X0.here hx hby d50_9 rfl ?_
  refine own_icmpNo X0.here hx hby d50_10 (tlt (show (8 : Int32) < (45 : Int32) from (by decide))).2.1 ?_
  refine own_aloadN X0.here hx hby d50_13 rfl rfl ?_
  refine own_iload X0.here hx hby d50_14 rfl ?_
  refine own_baload X0 hx hZ e0 V_t ⟨by decide, by decide⟩ (v := (.int 114)) rfl hby d50_16 ?_
  refine own_ifYes X0.here hx hby (pc' := 25) d50_17 ((if0 _ _).trans (flt (show ¬ ((114 : Int32) < (0 : Int32)) from (by decide))).2.1) (by decide) (by decide) ?_
  refine own_iinc X0.here hx hby d50_25 rfl (v := (9 : Int32)) (by decide) (l' := #[.val (.ref t), .val (.int 0), .val (.int 45), .val (.int 45), .val (.int 9)]) rfl ?_
  refine own_goto X0.here hx hby (pc' := 7) d50_28 (by decide) (by decide) ?_
  refine own_iload X0.here hx hby d50_7 rfl ?_
  refine own_iloadN X0.here hx hby d50_9 rfl ?_
  refine own_icmpNo X0.here hx hby d50_10 (tlt (show (9 : Int32) < (45 : Int32) from (by decide))).2.1 ?_
  refine own_aloadN X0.here hx hby d50_13 rfl rfl ?_
  refine own_iload X0.here hx hby d50_14 rfl ?_
  refine own_baload X0 hx hZ e0 V_t ⟨by decide, by decide⟩ (v := (.int 115)) rfl hby d50_16 ?_
  refine own_ifYes X0.here hx hby (pc' := 25) d50_17 ((if0 _ _).trans (flt (show ¬ ((115 : Int32) < (0 : Int32)) from (by decide))).2.1) (by decide) (by decide) ?_
  refine own_iinc X0.here hx hby d50_25 rfl (v := (10 : Int32)) (by decide) (l' := #[.val (.ref t), .val (.int 0), .val (.int 45), .val (.int 45), .val (.int 10)]) rfl ?_
  refine own_goto X0.here hx hby (pc' := 7) d50_28 (by decide) (by decide) ?_
  refine own_iload X0.here hx hby d50_7 rfl ?_
  refine own_iloadN X0.here hx hby d50_9 rfl ?_
  refine own_icmpNo X0.here hx hby d50_10 (tlt (show (10 : Int32) < (45 : Int32) from (by decide))).2.1 ?_
  refine own_aloadN X0.here hx hby d50_13 rfl rfl ?_
  refine own_iload X0.here hx hby d50_14 rfl ?_
  refine own_baload X0 hx hZ e0 V_t ⟨by decide, by decide⟩ (v := (.int 105)) rfl hby d50_16 ?_
  refine own_ifYes X0.here hx hby (pc' := 25) d50_17 ((if0 _ _).trans (flt (show ¬ ((105 : Int32) < (0 : Int32)) from (by decide))).2.1) (by decide) (by decide) ?_
  refine own_iinc X0.here hx hby d50_25 rfl (v := (11 : Int32)) (by decide) (l' := #[.val (.ref t), .val (.int 0), .val (.int 45), .val (.int 45), .val (.int 11)]) rfl ?_
  refine own_goto X0.here hx hby (pc' := 7) d50_28 (by decide) (by decide) ?_
  refine own_iload X0.here hx hby d50_7 rfl ?_
  refine own_iloadN X0.here hx hby d50_9 rfl ?_
  refine own_icmpNo X0.here hx hby d50_10 (tlt (show (11 : Int32) < (45 : Int32) from (by decide))).2.1 ?_
  refine own_aloadN X0.here hx hby d50_13 rfl rfl ?_
  refine own_iload X0.here hx hby d50_14 rfl ?_
  refine own_baload X0 hx hZ e0 V_t ⟨by decide, by decide⟩ (v := (.int 111)) rfl hby d50_16 ?_
  refine own_ifYes X0.here hx hby (pc' := 25) d50_17 ((if0 _ _).trans (flt (show ¬ ((111 : Int32) < (0 : Int32)) from (by decide))).2.1) (by decide) (by decide) ?_
  refine own_iinc X0.here hx hby d50_25 rfl (v := (12 : Int32)) (by decide) (l' := #[.val (.ref t), .val (.int 0), .val (.int 45), .val (.int 45), .val (.int 12)]) rfl ?_
  refine own_goto X0.here hx hby (pc' := 7) d50_28 (by decide) (by decide) ?_
  refine own_iload X0.here hx hby d50_7 rfl ?_
  refine own_iloadN X0.here hx hby d50_9 rfl ?_
  refine own_icmpNo X0.here hx hby d50_10 (tlt (show (12 : Int32) < (45 : Int32) from (by decide))).2.1 ?_
  refine own_aloadN X0.here hx hby d50_13 rfl rfl ?_
  refine own_iload X0.here hx hby d50_14 rfl ?_
  refine own_baload X0 hx hZ e0 V_t ⟨by decide, by decide⟩ (v := (.int 110)) rfl hby d50_16 ?_
  refine own_ifYes X0.here hx hby (pc' := 25) d50_17 ((if0 _ _).trans (flt (show ¬ ((110 : Int32) < (0 : Int32)) from (by decide))).2.1) (by decide) (by decide) ?_
  refine own_iinc X0.here hx hby d50_25 rfl (v := (13 : Int32)) (by decide) (l' := #[.val (.ref t), .val (.int 0), .val (.int 45), .val (.int 45), .val (.int 13)]) rfl ?_
  refine own_goto X0.here hx hby (pc' := 7) d50_28 (by decide) (by decide) ?_
  refine own_iload X0.here hx hby d50_7 rfl ?_
  refine own_iloadN X0.here hx hby d50_9 rfl ?_
  refine own_icmpNo X0.here hx hby d50_10 (tlt (show (13 : Int32) < (45 : Int32) from (by decide))).2.1 ?_
  refine own_aloadN X0.here hx hby d50_13 rfl rfl ?_
  refine own_iload X0.here hx hby d50_14 rfl ?_
  refine own_baload X0 hx hZ e0 V_t ⟨by decide, by decide⟩ (v := (.int 61)) rfl hby d50_16 ?_
  refine own_ifYes X0.here hx hby (pc' := 25) d50_17 ((if0 _ _).trans (flt (show ¬ ((61 : Int32) < (0 : Int32)) from (by decide))).2.1) (by decide) (by decide) ?_
  refine own_iinc X0.here hx hby d50_25 rfl (v := (14 : Int32)) (by decide) (l' := #[.val (.ref t), .val (.int 0), .val (.int 45), .val (.int 45), .val (.int 14)]) rfl ?_
  refine own_goto X0.here hx hby (pc' := 7) d50_28 (by decide) (by decide) ?_
  refine own_iload X0.here hx hby d50_7 rfl ?_
  refine own_iloadN X0.here hx hby d50_9 rfl ?_
  refine own_icmpNo X0.here hx hby d50_10 (tlt (show (14 : Int32) < (45 : Int32) from (by decide))).2.1 ?_
  refine own_aloadN X0.here hx hby d50_13 rfl rfl ?_
  refine own_iload X0.here hx hby d50_14 rfl ?_
  refine own_baload X0 hx hZ e0 V_t ⟨by decide, by decide⟩ (v := (.int 34)) rfl hby d50_16 ?_
  refine own_ifYes X0.here hx hby (pc' := 25) d50_17 ((if0 _ _).trans (flt (show ¬ ((34 : Int32) < (0 : Int32)) from (by decide))).2.1) (by decide) (by decide) ?_
  refine own_iinc X0.here hx hby d50_25 rfl (v := (15 : Int32)) (by decide) (l' := #[.val (.ref t), .val (.int 0), .val (.int 45), .val (.int 45), .val (.int 15)]) rfl ?_
  refine own_goto X0.here hx hby (pc' := 7) d50_28 (by decide) (by decide) ?_
  refine own_iload X0.here hx hby d50_7 rfl ?_
  refine own_iloadN X0.here hx hby d50_9 rfl ?_
  refine own_icmpNo X0.here hx hby d50_10 (tlt (show (15 : Int32) < (45 : Int32) from (by decide))).2.1 ?_
  refine own_aloadN X0.here hx hby d50_13 rfl rfl ?_
  refine own_iload X0.here hx hby d50_14 rfl ?_
  refine own_baload X0 hx hZ e0 V_t ⟨by decide, by decide⟩ (v := (.int 49)) rfl hby d50_16 ?_
  refine own_ifYes X0.here hx hby (pc' := 25) d50_17 ((if0 _ _).trans (flt (show ¬ ((49 : Int32) < (0 : Int32)) from (by decide))).2.1) (by decide) (by decide) ?_
  refine own_iinc X0.here hx hby d50_25 rfl (v := (16 : Int32)) (by decide) (l' := #[.val (.ref t), .val (.int 0), .val (.int 45), .val (.int 45), .val (.int 16)]) rfl ?_
  refine own_goto X0.here hx hby (pc' := 7) d50_28 (by decide) (by decide) ?_
  refine own_iload X0.here hx hby d50_7 rfl ?_
  refine own_iloadN X0.here hx hby d50_9 rfl ?_
  refine own_icmpNo X0.here hx hby d50_10 (tlt (show (16 : Int32) < (45 : Int32) from (by decide))).2.1 ?_
  refine own_aloadN X0.here hx hby d50_13 rfl rfl ?_
  refine own_iload X0.here hx hby d50_14 rfl ?_
  refine own_baload X0 hx hZ e0 V_t ⟨by decide, by decide⟩ (v := (.int 46)) rfl hby d50_16 ?_
  refine own_ifYes X0.here hx hby (pc' := 25) d50_17 ((if0 _ _).trans (flt (show ¬ ((46 : Int32) < (0 : Int32)) from (by decide))).2.1) (by decide) (by decide) ?_
  refine own_iinc X0.here hx hby d50_25 rfl (v := (17 : Int32)) (by decide) (l' := #[.val (.ref t), .val (.int 0), .val (.int 45), .val (.int 45), .val (.int 17)]) rfl ?_
  refine own_goto X0.here hx hby (pc' := 7) d50_28 (by decide) (by decide) ?_
  refine own_iload X0.here hx hby d50_7 rfl ?_
  refine own_iloadN X0.here hx hby d50_9 rfl ?_
  refine own_icmpNo X0.here hx hby d50_10 (tlt (show (17 : Int32) < (45 : Int32) from (by decide))).2.1 ?_
  refine own_aloadN X0.here hx hby d50_13 rfl rfl ?_
  refine own_iload X0.here hx hby d50_14 rfl ?_
  refine own_baload X0 hx hZ e0 V_t ⟨by decide, by decide⟩ (v := (.int 48)) rfl hby d50_16 ?_
  refine own_ifYes X0.here hx hby (pc' := 25) d50_17 ((if0 _ _).trans (flt (show ¬ ((48 : Int32) < (0 : Int32)) from (by decide))).2.1) (by decide) (by decide) ?_
  refine own_iinc X0.here hx hby d50_25 rfl (v := (18 : Int32)) (by decide) (l' := #[.val (.ref t), .val (.int 0), .val (.int 45), .val (.int 45), .val (.int 18)]) rfl ?_
  refine own_goto X0.here hx hby (pc' := 7) d50_28 (by decide) (by decide) ?_
  refine own_iload X0.here hx hby d50_7 rfl ?_
  refine own_iloadN X0.here hx hby d50_9 rfl ?_
  refine own_icmpNo X0.here hx hby d50_10 (tlt (show (18 : Int32) < (45 : Int32) from (by decide))).2.1 ?_
  refine own_aloadN X0.here hx hby d50_13 rfl rfl ?_
  refine own_iload X0.here hx hby d50_14 rfl ?_
  refine own_baload X0 hx hZ e0 V_t ⟨by decide, by decide⟩ (v := (.int 34)) rfl hby d50_16 ?_
  refine own_ifYes X0.here hx hby (pc' := 25) d50_17 ((if0 _ _).trans (flt (show ¬ ((34 : Int32) < (0 : Int32)) from (by decide))).2.1) (by decide) (by decide) ?_
  refine own_iinc X0.here hx hby d50_25 rfl (v := (19 : Int32)) (by decide) (l' := #[.val (.ref t), .val (.int 0), .val (.int 45), .val (.int 45), .val (.int 19)]) rfl ?_
  refine own_goto X0.here hx hby (pc' := 7) d50_28 (by decide) (by decide) ?_
  refine own_iload X0.here hx hby d50_7 rfl ?_
  refine own_iloadN X0.here hx hby d50_9 rfl ?_
  refine own_icmpNo X0.here hx hby d50_10 (tlt (show (19 : Int32) < (45 : Int32) from (by decide))).2.1 ?_
  refine own_aloadN X0.here hx hby d50_13 rfl rfl ?_
  refine own_iload X0.here hx hby d50_14 rfl ?_
  refine own_baload X0 hx hZ e0 V_t ⟨by decide, by decide⟩ (v := (.int 32)) rfl hby d50_16 ?_
  refine own_ifYes X0.here hx hby (pc' := 25) d50_17 ((if0 _ _).trans (flt (show ¬ ((32 : Int32) < (0 : Int32)) from (by decide))).2.1) (by decide) (by decide) ?_
  refine own_iinc X0.here hx hby d50_25 rfl (v := (20 : Int32)) (by decide) (l' := #[.val (.ref t), .val (.int 0), .val (.int 45), .val (.int 45), .val (.int 20)]) rfl ?_
  refine own_goto X0.here hx hby (pc' := 7) d50_28 (by decide) (by decide) ?_
  refine own_iload X0.here hx hby d50_7 rfl ?_
  refine own_iloadN X0.here hx hby d50_9 rfl ?_
  refine own_icmpNo X0.here hx hby d50_10 (tlt (show (20 : Int32) < (45 : Int32) from (by decide))).2.1 ?_
  refine own_aloadN X0.here hx hby d50_13 rfl rfl ?_
  refine own_iload X0.here hx hby d50_14 rfl ?_
  refine own_baload X0 hx hZ e0 V_t ⟨by decide, by decide⟩ (v := (.int 101)) rfl hby d50_16 ?_
  refine own_ifYes X0.here hx hby (pc' := 25) d50_17 ((if0 _ _).trans (flt (show ¬ ((101 : Int32) < (0 : Int32)) from (by decide))).2.1) (by decide) (by decide) ?_
  refine own_iinc X0.here hx hby d50_25 rfl (v := (21 : Int32)) (by decide) (l' := #[.val (.ref t), .val (.int 0), .val (.int 45), .val (.int 45), .val (.int 21)]) rfl ?_
  refine own_goto X0.here hx hby (pc' := 7) d50_28 (by decide) (by decide) ?_
  refine own_iload X0.here hx hby d50_7 rfl ?_
  refine own_iloadN X0.here hx hby d50_9 rfl ?_
  refine own_icmpNo X0.here hx hby d50_10 (tlt (show (21 : Int32) < (45 : Int32) from (by decide))).2.1 ?_
  refine own_aloadN X0.here hx hby d50_13 rfl rfl ?_
  refine own_iload X0.here hx hby d50_14 rfl ?_
  refine own_baload X0 hx hZ e0 V_t ⟨by decide, by decide⟩ (v := (.int 110)) rfl hby d50_16 ?_
  refine own_ifYes X0.here hx hby (pc' := 25) d50_17 ((if0 _ _).trans (flt (show ¬ ((110 : Int32) < (0 : Int32)) from (by decide))).2.1) (by decide) (by decide) ?_
  refine own_iinc X0.here hx hby d50_25 rfl (v := (22 : Int32)) (by decide) (l' := #[.val (.ref t), .val (.int 0), .val (.int 45), .val (.int 45), .val (.int 22)]) rfl ?_
  refine own_goto X0.here hx hby (pc' := 7) d50_28 (by decide) (by decide) ?_
  refine own_iload X0.here hx hby d50_7 rfl ?_
  refine own_iloadN X0.here hx hby d50_9 rfl ?_
  refine own_icmpNo X0.here hx hby d50_10 (tlt (show (22 : Int32) < (45 : Int32) from (by decide))).2.1 ?_
  refine own_aloadN X0.here hx hby d50_13 rfl rfl ?_
  refine own_iload X0.here hx hby d50_14 rfl ?_
  refine own_baload X0 hx hZ e0 V_t ⟨by decide, by decide⟩ (v := (.int 99)) rfl hby d50_16 ?_
  refine own_ifYes X0.here hx hby (pc' := 25) d50_17 ((if0 _ _).trans (flt (show ¬ ((99 : Int32) < (0 : Int32)) from (by decide))).2.1) (by decide) (by decide) ?_
  refine own_iinc X0.here hx hby d50_25 rfl (v := (23 : Int32)) (by decide) (l' := #[.val (.ref t), .val (.int 0), .val (.int 45), .val (.int 45), .val (.int 23)]) rfl ?_
  refine own_goto X0.here hx hby (pc' := 7) d50_28 (by decide) (by decide) ?_
  refine own_iload X0.here hx hby d50_7 rfl ?_
  refine own_iloadN X0.here hx hby d50_9 rfl ?_
  refine own_icmpNo X0.here hx hby d50_10 (tlt (show (23 : Int32) < (45 : Int32) from (by decide))).2.1 ?_
  refine own_aloadN X0.here hx hby d50_13 rfl rfl ?_
  refine own_iload X0.here hx hby d50_14 rfl ?_
  refine own_baload X0 hx hZ e0 V_t ⟨by decide, by decide⟩ (v := (.int 111)) rfl hby d50_16 ?_
  refine own_ifYes X0.here hx hby (pc' := 25) d50_17 ((if0 _ _).trans (flt (show ¬ ((111 : Int32) < (0 : Int32)) from (by decide))).2.1) (by decide) (by decide) ?_
  refine own_iinc X0.here hx hby d50_25 rfl (v := (24 : Int32)) (by decide) (l' := #[.val (.ref t), .val (.int 0), .val (.int 45), .val (.int 45), .val (.int 24)]) rfl ?_
  refine own_goto X0.here hx hby (pc' := 7) d50_28 (by decide) (by decide) ?_
  refine own_iload X0.here hx hby d50_7 rfl ?_
  refine own_iloadN X0.here hx hby d50_9 rfl ?_
  refine own_icmpNo X0.here hx hby d50_10 (tlt (show (24 : Int32) < (45 : Int32) from (by decide))).2.1 ?_
  refine own_aloadN X0.here hx hby d50_13 rfl rfl ?_
  refine own_iload X0.here hx hby d50_14 rfl ?_
  refine own_baload X0 hx hZ e0 V_t ⟨by decide, by decide⟩ (v := (.int 100)) rfl hby d50_16 ?_
  refine own_ifYes X0.here hx hby (pc' := 25) d50_17 ((if0 _ _).trans (flt (show ¬ ((100 : Int32) < (0 : Int32)) from (by decide))).2.1) (by decide) (by decide) ?_
  refine own_iinc X0.here hx hby d50_25 rfl (v := (25 : Int32)) (by decide) (l' := #[.val (.ref t), .val (.int 0), .val (.int 45), .val (.int 45), .val (.int 25)]) rfl ?_
  refine own_goto X0.here hx hby (pc' := 7) d50_28 (by decide) (by decide) ?_
  refine own_iload X0.here hx hby d50_7 rfl ?_
  refine own_iloadN X0.here hx hby d50_9 rfl ?_
  refine own_icmpNo X0.here hx hby d50_10 (tlt (show (25 : Int32) < (45 : Int32) from (by decide))).2.1 ?_
  refine own_aloadN X0.here hx hby d50_13 rfl rfl ?_
  refine own_iload X0.here hx hby d50_14 rfl ?_
  refine own_baload X0 hx hZ e0 V_t ⟨by decide, by decide⟩ (v := (.int 105)) rfl hby d50_16 ?_
  refine own_ifYes X0.here hx hby (pc' := 25) d50_17 ((if0 _ _).trans (flt (show ¬ ((105 : Int32) < (0 : Int32)) from (by decide))).2.1) (by decide) (by decide) ?_
  refine own_iinc X0.here hx hby d50_25 rfl (v := (26 : Int32)) (by decide) (l' := #[.val (.ref t), .val (.int 0), .val (.int 45), .val (.int 45), .val (.int 26)]) rfl ?_
  refine own_goto X0.here hx hby (pc' := 7) d50_28 (by decide) (by decide) ?_
  refine own_iload X0.here hx hby d50_7 rfl ?_
  refine own_iloadN X0.here hx hby d50_9 rfl ?_
  refine own_icmpNo X0.here hx hby d50_10 (tlt (show (26 : Int32) < (45 : Int32) from (by decide))).2.1 ?_
  refine own_aloadN X0.here hx hby d50_13 rfl rfl ?_
  refine own_iload X0.here hx hby d50_14 rfl ?_
  refine own_baload X0 hx hZ e0 V_t ⟨by decide, by decide⟩ (v := (.int 110)) rfl hby d50_16 ?_
  refine own_ifYes X0.here hx hby (pc' := 25) d50_17 ((if0 _ _).trans (flt (show ¬ ((110 : Int32) < (0 : Int32)) from (by decide))).2.1) (by decide) (by decide) ?_
  refine own_iinc X0.here hx hby d50_25 rfl (v := (27 : Int32)) (by decide) (l' := #[.val (.ref t), .val (.int 0), .val (.int 45), .val (.int 45), .val (.int 27)]) rfl ?_
  refine own_goto X0.here hx hby (pc' := 7) d50_28 (by decide) (by decide) ?_
  refine own_iload X0.here hx hby d50_7 rfl ?_
  refine own_iloadN X0.here hx hby d50_9 rfl ?_
  refine own_icmpNo X0.here hx hby d50_10 (tlt (show (27 : Int32) < (45 : Int32) from (by decide))).2.1 ?_
  refine own_aloadN X0.here hx hby d50_13 rfl rfl ?_
  refine own_iload X0.here hx hby d50_14 rfl ?_
  refine own_baload X0 hx hZ e0 V_t ⟨by decide, by decide⟩ (v := (.int 103)) rfl hby d50_16 ?_
  refine own_ifYes X0.here hx hby (pc' := 25) d50_17 ((if0 _ _).trans (flt (show ¬ ((103 : Int32) < (0 : Int32)) from (by decide))).2.1) (by decide) (by decide) ?_
  refine own_iinc X0.here hx hby d50_25 rfl (v := (28 : Int32)) (by decide) (l' := #[.val (.ref t), .val (.int 0), .val (.int 45), .val (.int 45), .val (.int 28)]) rfl ?_
  refine own_goto X0.here hx hby (pc' := 7) d50_28 (by decide) (by decide) ?_
  refine own_iload X0.here hx hby d50_7 rfl ?_
  refine own_iloadN X0.here hx hby d50_9 rfl ?_
  refine own_icmpNo X0.here hx hby d50_10 (tlt (show (28 : Int32) < (45 : Int32) from (by decide))).2.1 ?_
  refine own_aloadN X0.here hx hby d50_13 rfl rfl ?_
  refine own_iload X0.here hx hby d50_14 rfl ?_
  refine own_baload X0 hx hZ e0 V_t ⟨by decide, by decide⟩ (v := (.int 61)) rfl hby d50_16 ?_
  refine own_ifYes X0.here hx hby (pc' := 25) d50_17 ((if0 _ _).trans (flt (show ¬ ((61 : Int32) < (0 : Int32)) from (by decide))).2.1) (by decide) (by decide) ?_
  refine own_iinc X0.here hx hby d50_25 rfl (v := (29 : Int32)) (by decide) (l' := #[.val (.ref t), .val (.int 0), .val (.int 45), .val (.int 45), .val (.int 29)]) rfl ?_
  refine own_goto X0.here hx hby (pc' := 7) d50_28 (by decide) (by decide) ?_
  refine own_iload X0.here hx hby d50_7 rfl ?_
  refine own_iloadN X0.here hx hby d50_9 rfl ?_
  refine own_icmpNo X0.here hx hby d50_10 (tlt (show (29 : Int32) < (45 : Int32) from (by decide))).2.1 ?_
  refine own_aloadN X0.here hx hby d50_13 rfl rfl ?_
  refine own_iload X0.here hx hby d50_14 rfl ?_
  refine own_baload X0 hx hZ e0 V_t ⟨by decide, by decide⟩ (v := (.int 34)) rfl hby d50_16 ?_
  refine own_ifYes X0.here hx hby (pc' := 25) d50_17 ((if0 _ _).trans (flt (show ¬ ((34 : Int32) < (0 : Int32)) from (by decide))).2.1) (by decide) (by decide) ?_
  refine own_iinc X0.here hx hby d50_25 rfl (v := (30 : Int32)) (by decide) (l' := #[.val (.ref t), .val (.int 0), .val (.int 45), .val (.int 45), .val (.int 30)]) rfl ?_
  refine own_goto X0.here hx hby (pc' := 7) d50_28 (by decide) (by decide) ?_
  refine own_iload X0.here hx hby d50_7 rfl ?_
  refine own_iloadN X0.here hx hby d50_9 rfl ?_
  refine own_icmpNo X0.here hx hby d50_10 (tlt (show (30 : Int32) < (45 : Int32) from (by decide))).2.1 ?_
  refine own_aloadN X0.here hx hby d50_13 rfl rfl ?_
  refine own_iload X0.here hx hby d50_14 rfl ?_
  refine own_baload X0 hx hZ e0 V_t ⟨by decide, by decide⟩ (v := (.int 85)) rfl hby d50_16 ?_
  refine own_ifYes X0.here hx hby (pc' := 25) d50_17 ((if0 _ _).trans (flt (show ¬ ((85 : Int32) < (0 : Int32)) from (by decide))).2.1) (by decide) (by decide) ?_
  refine own_iinc X0.here hx hby d50_25 rfl (v := (31 : Int32)) (by decide) (l' := #[.val (.ref t), .val (.int 0), .val (.int 45), .val (.int 45), .val (.int 31)]) rfl ?_
  refine own_goto X0.here hx hby (pc' := 7) d50_28 (by decide) (by decide) ?_
  refine own_iload X0.here hx hby d50_7 rfl ?_
  refine own_iloadN X0.here hx hby d50_9 rfl ?_
  refine own_icmpNo X0.here hx hby d50_10 (tlt (show (31 : Int32) < (45 : Int32) from (by decide))).2.1 ?_
  refine own_aloadN X0.here hx hby d50_13 rfl rfl ?_
  refine own_iload X0.here hx hby d50_14 rfl ?_
  refine own_baload X0 hx hZ e0 V_t ⟨by decide, by decide⟩ (v := (.int 84)) rfl hby d50_16 ?_
  refine own_ifYes X0.here hx hby (pc' := 25) d50_17 ((if0 _ _).trans (flt (show ¬ ((84 : Int32) < (0 : Int32)) from (by decide))).2.1) (by decide) (by decide) ?_
  refine own_iinc X0.here hx hby d50_25 rfl (v := (32 : Int32)) (by decide) (l' := #[.val (.ref t), .val (.int 0), .val (.int 45), .val (.int 45), .val (.int 32)]) rfl ?_
  refine own_goto X0.here hx hby (pc' := 7) d50_28 (by decide) (by decide) ?_
  refine own_iload X0.here hx hby d50_7 rfl ?_
  refine own_iloadN X0.here hx hby d50_9 rfl ?_
  refine own_icmpNo X0.here hx hby d50_10 (tlt (show (32 : Int32) < (45 : Int32) from (by decide))).2.1 ?_
  refine own_aloadN X0.here hx hby d50_13 rfl rfl ?_
  refine own_iload X0.here hx hby d50_14 rfl ?_
  refine own_baload X0 hx hZ e0 V_t ⟨by decide, by decide⟩ (v := (.int 70)) rfl hby d50_16 ?_
  refine own_ifYes X0.here hx hby (pc' := 25) d50_17 ((if0 _ _).trans (flt (show ¬ ((70 : Int32) < (0 : Int32)) from (by decide))).2.1) (by decide) (by decide) ?_
  refine own_iinc X0.here hx hby d50_25 rfl (v := (33 : Int32)) (by decide) (l' := #[.val (.ref t), .val (.int 0), .val (.int 45), .val (.int 45), .val (.int 33)]) rfl ?_
  refine own_goto X0.here hx hby (pc' := 7) d50_28 (by decide) (by decide) ?_
  refine own_iload X0.here hx hby d50_7 rfl ?_
  refine own_iloadN X0.here hx hby d50_9 rfl ?_
  refine own_icmpNo X0.here hx hby d50_10 (tlt (show (33 : Int32) < (45 : Int32) from (by decide))).2.1 ?_
  refine own_aloadN X0.here hx hby d50_13 rfl rfl ?_
  refine own_iload X0.here hx hby d50_14 rfl ?_
  refine own_baload X0 hx hZ e0 V_t ⟨by decide, by decide⟩ (v := (.int 45)) rfl hby d50_16 ?_
  refine own_ifYes X0.here hx hby (pc' := 25) d50_17 ((if0 _ _).trans (flt (show ¬ ((45 : Int32) < (0 : Int32)) from (by decide))).2.1) (by decide) (by decide) ?_
  refine own_iinc X0.here hx hby d50_25 rfl (v := (34 : Int32)) (by decide) (l' := #[.val (.ref t), .val (.int 0), .val (.int 45), .val (.int 45), .val (.int 34)]) rfl ?_
  refine own_goto X0.here hx hby (pc' := 7) d50_28 (by decide) (by decide) ?_
  refine own_iload X0.here hx hby d50_7 rfl ?_
  refine own_iloadN X0.here hx hby d50_9 rfl ?_
  refine own_icmpNo X0.here hx hby d50_10 (tlt (show (34 : Int32) < (45 : Int32) from (by decide))).2.1 ?_
  refine own_aloadN X0.here hx hby d50_13 rfl rfl ?_
  refine own_iload X0.here hx hby d50_14 rfl ?_
  refine own_baload X0 hx hZ e0 V_t ⟨by decide, by decide⟩ (v := (.int 56)) rfl hby d50_16 ?_
  refine own_ifYes X0.here hx hby (pc' := 25) d50_17 ((if0 _ _).trans (flt (show ¬ ((56 : Int32) < (0 : Int32)) from (by decide))).2.1) (by decide) (by decide) ?_
  refine own_iinc X0.here hx hby d50_25 rfl (v := (35 : Int32)) (by decide) (l' := #[.val (.ref t), .val (.int 0), .val (.int 45), .val (.int 45), .val (.int 35)]) rfl ?_
  refine own_goto X0.here hx hby (pc' := 7) d50_28 (by decide) (by decide) ?_
  refine own_iload X0.here hx hby d50_7 rfl ?_
  refine own_iloadN X0.here hx hby d50_9 rfl ?_
  refine own_icmpNo X0.here hx hby d50_10 (tlt (show (35 : Int32) < (45 : Int32) from (by decide))).2.1 ?_
  refine own_aloadN X0.here hx hby d50_13 rfl rfl ?_
  refine own_iload X0.here hx hby d50_14 rfl ?_
  refine own_baload X0 hx hZ e0 V_t ⟨by decide, by decide⟩ (v := (.int 34)) rfl hby d50_16 ?_
  refine own_ifYes X0.here hx hby (pc' := 25) d50_17 ((if0 _ _).trans (flt (show ¬ ((34 : Int32) < (0 : Int32)) from (by decide))).2.1) (by decide) (by decide) ?_
  refine own_iinc X0.here hx hby d50_25 rfl (v := (36 : Int32)) (by decide) (l' := #[.val (.ref t), .val (.int 0), .val (.int 45), .val (.int 45), .val (.int 36)]) rfl ?_
  refine own_goto X0.here hx hby (pc' := 7) d50_28 (by decide) (by decide) ?_
  refine own_iload X0.here hx hby d50_7 rfl ?_
  refine own_iloadN X0.here hx hby d50_9 rfl ?_
  refine own_icmpNo X0.here hx hby d50_10 (tlt (show (36 : Int32) < (45 : Int32) from (by decide))).2.1 ?_
  refine own_aloadN X0.here hx hby d50_13 rfl rfl ?_
  refine own_iload X0.here hx hby d50_14 rfl ?_
  refine own_baload X0 hx hZ e0 V_t ⟨by decide, by decide⟩ (v := (.int 63)) rfl hby d50_16 ?_
  refine own_ifYes X0.here hx hby (pc' := 25) d50_17 ((if0 _ _).trans (flt (show ¬ ((63 : Int32) < (0 : Int32)) from (by decide))).2.1) (by decide) (by decide) ?_
  refine own_iinc X0.here hx hby d50_25 rfl (v := (37 : Int32)) (by decide) (l' := #[.val (.ref t), .val (.int 0), .val (.int 45), .val (.int 45), .val (.int 37)]) rfl ?_
  refine own_goto X0.here hx hby (pc' := 7) d50_28 (by decide) (by decide) ?_
  refine own_iload X0.here hx hby d50_7 rfl ?_
  refine own_iloadN X0.here hx hby d50_9 rfl ?_
  refine own_icmpNo X0.here hx hby d50_10 (tlt (show (37 : Int32) < (45 : Int32) from (by decide))).2.1 ?_
  refine own_aloadN X0.here hx hby d50_13 rfl rfl ?_
  refine own_iload X0.here hx hby d50_14 rfl ?_
  refine own_baload X0 hx hZ e0 V_t ⟨by decide, by decide⟩ (v := (.int 62)) rfl hby d50_16 ?_
  refine own_ifYes X0.here hx hby (pc' := 25) d50_17 ((if0 _ _).trans (flt (show ¬ ((62 : Int32) < (0 : Int32)) from (by decide))).2.1) (by decide) (by decide) ?_
  refine own_iinc X0.here hx hby d50_25 rfl (v := (38 : Int32)) (by decide) (l' := #[.val (.ref t), .val (.int 0), .val (.int 45), .val (.int 45), .val (.int 38)]) rfl ?_
  refine own_goto X0.here hx hby (pc' := 7) d50_28 (by decide) (by decide) ?_
  refine own_iload X0.here hx hby d50_7 rfl ?_
  refine own_iloadN X0.here hx hby d50_9 rfl ?_
  refine own_icmpNo X0.here hx hby d50_10 (tlt (show (38 : Int32) < (45 : Int32) from (by decide))).2.1 ?_
  refine own_aloadN X0.here hx hby d50_13 rfl rfl ?_
  refine own_iload X0.here hx hby d50_14 rfl ?_
  refine own_baload X0 hx hZ e0 V_t ⟨by decide, by decide⟩ (v := (.int 60)) rfl hby d50_16 ?_
  refine own_ifYes X0.here hx hby (pc' := 25) d50_17 ((if0 _ _).trans (flt (show ¬ ((60 : Int32) < (0 : Int32)) from (by decide))).2.1) (by decide) (by decide) ?_
  refine own_iinc X0.here hx hby d50_25 rfl (v := (39 : Int32)) (by decide) (l' := #[.val (.ref t), .val (.int 0), .val (.int 45), .val (.int 45), .val (.int 39)]) rfl ?_
  refine own_goto X0.here hx hby (pc' := 7) d50_28 (by decide) (by decide) ?_
  refine own_iload X0.here hx hby d50_7 rfl ?_
  refine own_iloadN X0.here hx hby d50_9 rfl ?_
  refine own_icmpNo X0.here hx hby d50_10 (tlt (show (39 : Int32) < (45 : Int32) from (by decide))).2.1 ?_
  refine own_aloadN X0.here hx hby d50_13 rfl rfl ?_
  refine own_iload X0.here hx hby d50_14 rfl ?_
  refine own_baload X0 hx hZ e0 V_t ⟨by decide, by decide⟩ (v := (.int ca)) rfl hby d50_16 ?_
  refine own_ifYes X0.here hx hby (pc' := 25) d50_17 ((if0 _ _).trans (flt hca).2.1) (by decide) (by decide) ?_
  refine own_iinc X0.here hx hby d50_25 rfl (v := (40 : Int32)) (by decide) (l' := #[.val (.ref t), .val (.int 0), .val (.int 45), .val (.int 45), .val (.int 40)]) rfl ?_
  refine own_goto X0.here hx hby (pc' := 7) d50_28 (by decide) (by decide) ?_
  refine own_iload X0.here hx hby d50_7 rfl ?_
  refine own_iloadN X0.here hx hby d50_9 rfl ?_
  refine own_icmpNo X0.here hx hby d50_10 (tlt (show (40 : Int32) < (45 : Int32) from (by decide))).2.1 ?_
  refine own_aloadN X0.here hx hby d50_13 rfl rfl ?_
  refine own_iload X0.here hx hby d50_14 rfl ?_
  refine own_baload X0 hx hZ e0 V_t ⟨by decide, by decide⟩ (v := (.int 62)) rfl hby d50_16 ?_
  refine own_ifYes X0.here hx hby (pc' := 25) d50_17 ((if0 _ _).trans (flt (show ¬ ((62 : Int32) < (0 : Int32)) from (by decide))).2.1) (by decide) (by decide) ?_
  refine own_iinc X0.here hx hby d50_25 rfl (v := (41 : Int32)) (by decide) (l' := #[.val (.ref t), .val (.int 0), .val (.int 45), .val (.int 45), .val (.int 41)]) rfl ?_
  refine own_goto X0.here hx hby (pc' := 7) d50_28 (by decide) (by decide) ?_
  refine own_iload X0.here hx hby d50_7 rfl ?_
  refine own_iloadN X0.here hx hby d50_9 rfl ?_
  refine own_icmpNo X0.here hx hby d50_10 (tlt (show (41 : Int32) < (45 : Int32) from (by decide))).2.1 ?_
  refine own_aloadN X0.here hx hby d50_13 rfl rfl ?_
  refine own_iload X0.here hx hby d50_14 rfl ?_
  refine own_baload X0 hx hZ e0 V_t ⟨by decide, by decide⟩ (v := (.int 60)) rfl hby d50_16 ?_
  refine own_ifYes X0.here hx hby (pc' := 25) d50_17 ((if0 _ _).trans (flt (show ¬ ((60 : Int32) < (0 : Int32)) from (by decide))).2.1) (by decide) (by decide) ?_
  refine own_iinc X0.here hx hby d50_25 rfl (v := (42 : Int32)) (by decide) (l' := #[.val (.ref t), .val (.int 0), .val (.int 45), .val (.int 45), .val (.int 42)]) rfl ?_
  refine own_goto X0.here hx hby (pc' := 7) d50_28 (by decide) (by decide) ?_
  refine own_iload X0.here hx hby d50_7 rfl ?_
  refine own_iloadN X0.here hx hby d50_9 rfl ?_
  refine own_icmpNo X0.here hx hby d50_10 (tlt (show (42 : Int32) < (45 : Int32) from (by decide))).2.1 ?_
  refine own_aloadN X0.here hx hby d50_13 rfl rfl ?_
  refine own_iload X0.here hx hby d50_14 rfl ?_
  refine own_baload X0 hx hZ e0 V_t ⟨by decide, by decide⟩ (v := (.int 47)) rfl hby d50_16 ?_
  refine own_ifYes X0.here hx hby (pc' := 25) d50_17 ((if0 _ _).trans (flt (show ¬ ((47 : Int32) < (0 : Int32)) from (by decide))).2.1) (by decide) (by decide) ?_
  refine own_iinc X0.here hx hby d50_25 rfl (v := (43 : Int32)) (by decide) (l' := #[.val (.ref t), .val (.int 0), .val (.int 45), .val (.int 45), .val (.int 43)]) rfl ?_
  refine own_goto X0.here hx hby (pc' := 7) d50_28 (by decide) (by decide) ?_
  refine own_iload X0.here hx hby d50_7 rfl ?_
  refine own_iloadN X0.here hx hby d50_9 rfl ?_
  refine own_icmpNo X0.here hx hby d50_10 (tlt (show (43 : Int32) < (45 : Int32) from (by decide))).2.1 ?_
  refine own_aloadN X0.here hx hby d50_13 rfl rfl ?_
  refine own_iload X0.here hx hby d50_14 rfl ?_
  refine own_baload X0 hx hZ e0 V_t ⟨by decide, by decide⟩ (v := (.int ca)) rfl hby d50_16 ?_
  refine own_ifYes X0.here hx hby (pc' := 25) d50_17 ((if0 _ _).trans (flt hca).2.1) (by decide) (by decide) ?_
  refine own_iinc X0.here hx hby d50_25 rfl (v := (44 : Int32)) (by decide) (l' := #[.val (.ref t), .val (.int 0), .val (.int 45), .val (.int 45), .val (.int 44)]) rfl ?_
  refine own_goto X0.here hx hby (pc' := 7) d50_28 (by decide) (by decide) ?_
  refine own_iload X0.here hx hby d50_7 rfl ?_
  refine own_iloadN X0.here hx hby d50_9 rfl ?_
  refine own_icmpNo X0.here hx hby d50_10 (tlt (show (44 : Int32) < (45 : Int32) from (by decide))).2.1 ?_
  refine own_aloadN X0.here hx hby d50_13 rfl rfl ?_
  refine own_iload X0.here hx hby d50_14 rfl ?_
  refine own_baload X0 hx hZ e0 V_t ⟨by decide, by decide⟩ (v := (.int 62)) rfl hby d50_16 ?_
  refine own_ifYes X0.here hx hby (pc' := 25) d50_17 ((if0 _ _).trans (flt (show ¬ ((62 : Int32) < (0 : Int32)) from (by decide))).2.1) (by decide) (by decide) ?_
  refine own_iinc X0.here hx hby d50_25 rfl (v := (45 : Int32)) (by decide) (l' := #[.val (.ref t), .val (.int 0), .val (.int 45), .val (.int 45), .val (.int 45)]) rfl ?_
  refine own_goto X0.here hx hby (pc' := 7) d50_28 (by decide) (by decide) ?_
  refine own_iload X0.here hx hby d50_7 rfl ?_
  refine own_iloadN X0.here hx hby d50_9 rfl ?_
  refine own_icmpYes X0.here hx hby (pc' := 31) d50_10 (flt (show ¬ ((45 : Int32) < (45 : Int32)) from (by decide))).2.1 (by decide) (by decide) ?_
  refine own_iloadN X0.here hx hby d50_31 rfl ?_
  obtain ⟨fs, hr, hrun, hended, hW, hsame⟩ := X0.leave (v := some (.int 45)) (fun h => by rw [Bd.returns] at h; cases h) Bd.notSynchronized
  refine own_ret (t := s₁.setFrames fs) ?_ ⟨_, hrun, hended, _, _, rfl, ?_, ⟨_, rfl⟩, hW, hsame.mono (by decide) (by decide)⟩
  · exact retOut X0 hx Bd.returns rfl (Or.inl ⟨rfl, Or.inl rfl, _, rfl⟩) (hb hby d50_32) hr
  · show Q_cntP_0 Z _ _ _ h0 n0 _ s₁.heap _
    rw [e0]
    exact ⟨rfl, N0, rfl⟩
theorem ef_hasN_0 (m : MethodId) (x0 : Nat) (x1 : Int32) (x2 : Int32) : entryFrame m #[(.ref x0), (.int x1), (.int x2)] 3 = mkF m 0 #[.val (.ref x0), .val (.int x1), .val (.int x2)] [] := by first | (simp [entryFrame, mkF, argsToLocals, Value.category]; done) | rfl
theorem pn_49 : plainName "java/lang/StringCoding" = true := by first | (simp [plainName, overriddenIn]; done) | decide +kernel
theorem d49_0 : decode jdk_123_method_2_code 0 = .ok (.aload_n 0, 1) := by decide +kernel
theorem d49_1 : decode jdk_123_method_2_code 1 = .ok (.iload_n 1, 1) := by decide +kernel
theorem d49_2 : decode jdk_123_method_2_code 2 = .ok (.iload_n 2, 1) := by decide +kernel
theorem d49_3 : decode jdk_123_method_2_code 3 = .ok (.invokestatic 7, 3) := by decide +kernel
theorem pd_24 : parseMethodDescriptor "([BII)I" = some ⟨[(.array .byte), .int, .int], some .int⟩ := by decide +kernel
theorem d49_6 : decode jdk_123_method_2_code 6 = .ok (.iload_n 2, 1) := by decide +kernel
theorem d49_7 : decode jdk_123_method_2_code 7 = .ok (.if_icmp .eq 7, 3) := by decide +kernel
theorem d49_14 : decode jdk_123_method_2_code 14 = .ok (.iconst 0, 1) := by decide +kernel
theorem d49_15 : decode jdk_123_method_2_code 15 = .ok (.ireturn, 1) := by decide +kernel
def Q_hasN_0 (Z : State) (t : Nat) (kt : ClassId) (ca : Int32) (h0 : Heap) (n0 : Nat) (vR : Option Value) (hR : Heap) (LR : List Loc) : Prop := vR = some (.int 0) ∧ Fr n0 LR ∧ hR = h0
set_option maxRecDepth 65536 in
set_option maxHeartbeats 40000000 in
theorem hasN_0 (l : Launch) (Z : State) (a0 : Array Value) (hw : ∀ d ∈ tables_1, d.before a0 Z = true) (ws : List Jvm.Cond) (t : Nat) (kt : ClassId) (ca : Int32) (h0 : Heap) (n0 : Nat) (Z0 : n0 ≤ h0.size) (V_t : Arv Z h0 t kt .byte (45 : Int32) [(.int 60), (.int 63), (.int 120), (.int 109), (.int 108), (.int 32), (.int 118), (.int 101), (.int 114), (.int 115), (.int 105), (.int 111), (.int 110), (.int 61), (.int 34), (.int 49), (.int 46), (.int 48), (.int 34), (.int 32), (.int 101), (.int 110), (.int 99), (.int 111), (.int 100), (.int 105), (.int 110), (.int 103), (.int 61), (.int 34), (.int 85), (.int 84), (.int 70), (.int 45), (.int 56), (.int 34), (.int 63), (.int 62), (.int 60), (.int ca), (.int 62), (.int 60), (.int 47), (.int ca), (.int 62)] (.int 0)) (hca : ¬ (ca < (0 : Int32))) :
    own_M l (⟨"java/lang/StringCoding", "hasNegatives", "([BII)Z"⟩ : MethodName) jdk_123_method_2_code 3 (some .boolean) ws ({ frames := 1, cells := 0, slots := 0, locals := 16 } : Room) Z #[(.ref t), (.int 0), (.int 45)] h0 (Q_hasN_0 Z t kt ca h0 n0) := by
  refine own_body (own := "java/lang/StringCoding") rfl (plainFor_of_name pn_49) (fun m => ef_hasN_0 m t (0 : Int32) (45 : Int32)) ?_
  intro p e s m below meth c s₁ Bd hml hZ hh hx hby hown X0 e0
  have N0 := Fr.nil n0
  have lt1 : h0.size > t := V_t.lt
  refine own_aloadN X0.here hx hby d49_0 rfl rfl ?_
  refine own_iloadN X0.here hx hby d49_1 rfl ?_
  refine own_iloadN X0.here hx hby d49_2 rfl ?_
  refine own_callS X0 hx hZ hown (own_w hw 277 rfl) (own_w hw 278 rfl) (own_w hw 275 rfl) (own_w hw 279 rfl) (by decide) (cntP_0 l Z a0 hw [] t kt ca h0 n0 Z0 V_t hca) 0 (Nat.le_of_eq rfl) (by decide) (by decide) (by rw [hml]; rfl) (argsL := [(.ref t), (.int 0), (.int 45)]) (st := []) (lenOf pd_24 rfl) rfl rfl (by decide) (by decide) e0 hby d49_3 ?_
  intro T2 v2 L2 X2 hQ2
  obtain ⟨rfl, Nq2, eh2⟩ := hQ2
  have N2 := Fr.app N0 Nq2
  refine own_sh (T := T2) 6 #[.val (.ref t), .val (.int 0), .val (.int 45)] [(.int 45)] ?_
  refine own_iloadN X2.here hx hby d49_6 rfl ?_
  refine own_icmpYes X2.here hx hby (pc' := 14) d49_7 (teq (show (45 : Int32) = (45 : Int32) from (by decide))).1 (by decide) (by decide) ?_
  refine own_iconst X2.here hx hby d49_14 (v := (0 : Int32)) (by decide) ?_
  obtain ⟨fs, hr, hrun, hended, hW, hsame⟩ := X2.leave (v := some (.int 0)) (fun h => by rw [Bd.returns] at h; cases h) Bd.notSynchronized
  refine own_ret (t := T2.setFrames fs) ?_ ⟨_, hrun, hended, _, _, rfl, ?_, ⟨_, rfl⟩, hW, hsame.mono (by decide) (by decide)⟩
  · exact retN X2 hx (t := .boolean) Bd.returns (by simp) (hb hby d49_15) hr
  · show Q_hasN_0 Z _ _ _ h0 n0 _ T2.heap _
    rw [eh2]
    exact ⟨rfl, N2, rfl⟩
theorem ef_enc8_0 (m : MethodId) (x0 : Int32) (x1 : Nat) (x2 : Int32) : entryFrame m #[(.int x0), (.ref x1), (.int x2)] 9 = mkF m 0 #[.val (.int x0), .val (.ref x1), .val (.int x2), .unset, .unset, .unset, .unset, .unset, .unset] [] := by first | (simp [entryFrame, mkF, argsToLocals, Value.category]; done) | rfl
theorem pn_48 : plainName "java/lang/String" = true := by first | (simp [plainName, overriddenIn]; done) | decide +kernel
theorem d48_0 : decode jdk_42_method_46_code 0 = .ok (.iload_n 0, 1) := by decide +kernel
theorem d48_1 : decode jdk_42_method_46_code 1 = .ok (.iconst 1, 1) := by decide +kernel
theorem d48_2 : decode jdk_42_method_46_code 2 = .ok (.if_icmp .ne 9, 3) := by decide +kernel
theorem d48_11 : decode jdk_42_method_46_code 11 = .ok (.aload_n 1, 1) := by decide +kernel
theorem d48_12 : decode jdk_42_method_46_code 12 = .ok (.iconst 0, 1) := by decide +kernel
theorem d48_13 : decode jdk_42_method_46_code 13 = .ok (.aload_n 1, 1) := by decide +kernel
theorem d48_14 : decode jdk_42_method_46_code 14 = .ok (.arraylength, 1) := by decide +kernel
theorem d48_15 : decode jdk_42_method_46_code 15 = .ok (.invokestatic 128, 3) := by decide +kernel
theorem pd_25 : parseMethodDescriptor "([BII)Z" = some ⟨[(.array .byte), .int, .int], some .boolean⟩ := by decide +kernel
theorem d48_18 : decode jdk_42_method_46_code 18 = .ok (.ifCond .ne 11, 3) := by decide +kernel
theorem d48_21 : decode jdk_42_method_46_code 21 = .ok (.aload_n 1, 1) := by decide +kernel
theorem d48_22 : decode jdk_42_method_46_code 22 = .ok (.invokevirtual 279, 3) := by decide +kernel
theorem d48_25 : decode jdk_42_method_46_code 25 = .ok (.checkcast 280, 3) := by decide +kernel
theorem d48_28 : decode jdk_42_method_46_code 28 = .ok (.areturn, 1) := by decide +kernel
def Q_enc8_0 (Z : State) (t : Nat) (kt : ClassId) (ca : Int32) (h0 : Heap) (n0 : Nat) (vR : Option Value) (hR : Heap) (LR : List Loc) : Prop := ∃ (r : Nat) (kr : ClassId), vR = some (.ref r) ∧ Fr n0 LR ∧ Keep h0 hR [] ∧ h0.size ≤ r ∧ (Arv Z hR r kr .byte (45 : Int32) [(.int 60), (.int 63), (.int 120), (.int 109), (.int 108), (.int 32), (.int 118), (.int 101), (.int 114), (.int 115), (.int 105), (.int 111), (.int 110), (.int 61), (.int 34), (.int 49), (.int 46), (.int 48), (.int 34), (.int 32), (.int 101), (.int 110), (.int 99), (.int 111), (.int 100), (.int 105), (.int 110), (.int 103), (.int 61), (.int 34), (.int 85), (.int 84), (.int 70), (.int 45), (.int 56), (.int 34), (.int 63), (.int 62), (.int 60), (.int ca), (.int 62), (.int 60), (.int 47), (.int ca), (.int 62)] (.int 0))
set_option maxRecDepth 65536 in
set_option maxHeartbeats 40000000 in
theorem enc8_0 (l : Launch) (Z : State) (a0 : Array Value) (hw : ∀ d ∈ tables_1, d.before a0 Z = true) (ws : List Jvm.Cond) (t : Nat) (kt : ClassId) (ca : Int32) (h0 : Heap) (n0 : Nat) (Z0 : n0 ≤ h0.size) (E_t : Exa Z h0 t "[B") (V_t : Arv Z h0 t kt .byte (45 : Int32) [(.int 60), (.int 63), (.int 120), (.int 109), (.int 108), (.int 32), (.int 118), (.int 101), (.int 114), (.int 115), (.int 105), (.int 111), (.int 110), (.int 61), (.int 34), (.int 49), (.int 46), (.int 48), (.int 34), (.int 32), (.int 101), (.int 110), (.int 99), (.int 111), (.int 100), (.int 105), (.int 110), (.int 103), (.int 61), (.int 34), (.int 85), (.int 84), (.int 70), (.int 45), (.int 56), (.int 34), (.int 63), (.int 62), (.int 60), (.int ca), (.int 62), (.int 60), (.int 47), (.int ca), (.int 62)] (.int 0)) (hca : ¬ (ca < (0 : Int32))) :
    own_M l (⟨"java/lang/String", "encodeUTF8", "(B[BZ)[B"⟩ : MethodName) jdk_42_method_46_code 9 (some (.array .byte)) ws ({ frames := 2, cells := 1, slots := 45, locals := 30 } : Room) Z #[(.int 0), (.ref t), (.int 1)] h0 (Q_enc8_0 Z t kt ca h0 n0) := by
  refine own_body (own := "java/lang/String") rfl (plainFor_of_name pn_48) (fun m => ef_enc8_0 m (0 : Int32) t (1 : Int32)) ?_
  intro p e s m below meth c s₁ Bd hml hZ hh hx hby hown X0 e0
  have N0 := Fr.nil n0
  have lt1 : h0.size > t := E_t.lt
  refine own_iloadN X0.here hx hby d48_0 rfl ?_
  refine own_iconst X0.here hx hby d48_1 (v := (1 : Int32)) (by decide) ?_
  refine own_icmpYes X0.here hx hby (pc' := 11) d48_2 (feq (show ¬ ((0 : Int32) = (1 : Int32)) from (by decide))).2 (by decide) (by decide) ?_
  refine own_aloadN X0.here hx hby d48_11 rfl rfl ?_
  refine own_iconst X0.here hx hby d48_12 (v := (0 : Int32)) (by decide) ?_
  refine own_aloadN X0.here hx hby d48_13 rfl rfl ?_
  refine own_alen X0 hx hZ e0 V_t hby d48_14 ?_
  refine own_callS X0 hx hZ hown (own_w hw 273 rfl) (own_w hw 274 rfl) (own_w hw 275 rfl) (own_w hw 276 rfl) (by decide) (hasN_0 l Z a0 hw [] t kt ca h0 n0 Z0 V_t hca) 0 (Nat.le_of_eq rfl) (by decide) (by decide) (by rw [hml]; rfl) (argsL := [(.ref t), (.int 0), (.int 45)]) (st := []) (lenOf pd_25 rfl) rfl rfl (by decide) (by decide) e0 hby d48_15 ?_
  intro T2 v2 L2 X2 hQ2
  obtain ⟨rfl, Nq2, eh2⟩ := hQ2
  have N2 := Fr.app N0 Nq2
  refine own_sh (T := T2) 18 #[.val (.int 0), .val (.ref t), .val (.int 1), .unset, .unset, .unset, .unset, .unset, .unset] [(.int 0)] ?_
  refine own_ifNo X2.here hx hby d48_18 ((if0 _ _).trans (teq (show (0 : Int32) = (0 : Int32) from (by decide))).2) ?_
  refine own_aloadN X2.here hx hby d48_21 rfl rfl ?_
  refine own_cloneH X2 hx hZ (ad := "[B") hown (own_w hw 280 rfl) (own_w hw 281 rfl) (own_w hw 285 rfl) (own_w hw 283 rfl) (own_w hw 284 rfl) (own_w hw 286 rfl) eh2 (Arv.arh V_t) E_t (by rw [hml]; rfl) hby d48_22 (by decide) 0 45 (Nat.le_of_eq rfl) (by decide) (by decide) (by decide) (by decide) ?_
  intro T3 h3 b3 X3 e3 E3 g3 A3 C3 lt3
  have z4 : h0.size ≤ h3.size := E3.1
  have V5 : Arv Z h3 b3 kt .byte (45 : Int32) [(.int 60), (.int 63), (.int 120), (.int 109), (.int 108), (.int 32), (.int 118), (.int 101), (.int 114), (.int 115), (.int 105), (.int 111), (.int 110), (.int 61), (.int 34), (.int 49), (.int 46), (.int 48), (.int 34), (.int 32), (.int 101), (.int 110), (.int 99), (.int 111), (.int 100), (.int 105), (.int 110), (.int 103), (.int 61), (.int 34), (.int 85), (.int 84), (.int 70), (.int 45), (.int 56), (.int 34), (.int 63), (.int 62), (.int 60), (.int ca), (.int 62), (.int 60), (.int 47), (.int ca), (.int 62)] (.int 0) := A3
  refine own_castY X3 hx hZ hown (own_w hw 287 rfl) e3 (Ins.self C3) hby d48_25 ?_
  intro T6 X6 e6
  have K7 : Keep h0 h3 [] := ((Keep.refl h0 []).ext E3)
  obtain ⟨fs, hr, hrun, hended, hW, hsame⟩ := X6.leave (v := some (.ref b3)) (fun h => by rw [Bd.returns] at h; cases h) Bd.notSynchronized
  refine own_ret (t := T6.setFrames fs) ?_ ⟨_, hrun, hended, _, _, rfl, ?_, ⟨_, rfl⟩, hW, hsame.mono (by decide) (by decide)⟩
  · exact retOut X6 hx Bd.returns rfl (Or.inr (Or.inr (Or.inr (Or.inr ⟨rfl, rfl, rfl⟩)))) (hb hby d48_28) hr
  · show Q_enc8_0 Z _ _ _ h0 n0 _ T6.heap _
    rw [e6]
    exact ⟨b3, kt, rfl, N2, K7, (by omega), V5⟩
theorem ef_enc_0 (m : MethodId) (x0 : Nat) (x1 : Int32) (x2 : Nat) : entryFrame m #[(.ref x0), (.int x1), (.ref x2)] 3 = mkF m 0 #[.val (.ref x0), .val (.int x1), .val (.ref x2)] [] := by first | (simp [entryFrame, mkF, argsToLocals, Value.category]; done) | rfl
theorem pn_47 : plainName "java/lang/String" = true := by first | (simp [plainName, overriddenIn]; done) | decide +kernel
theorem d47_0 : decode jdk_42_method_18_code 0 = .ok (.aload_n 0, 1) := by decide +kernel
theorem d47_1 : decode jdk_42_method_18_code 1 = .ok (.getstatic 86, 3) := by decide +kernel
theorem d47_4 : decode jdk_42_method_18_code 4 = .ok (.if_acmp .ne 10, 3) := by decide +kernel
theorem d47_7 : decode jdk_42_method_18_code 7 = .ok (.iload_n 1, 1) := by decide +kernel
theorem d47_8 : decode jdk_42_method_18_code 8 = .ok (.aload_n 2, 1) := by decide +kernel
theorem d47_9 : decode jdk_42_method_18_code 9 = .ok (.iconst 1, 1) := by decide +kernel
theorem d47_10 : decode jdk_42_method_18_code 10 = .ok (.invokestatic 252, 3) := by decide +kernel
theorem pd_26 : parseMethodDescriptor "(B[BZ)[B" = some ⟨[.byte, (.array .byte), .boolean], some (.array .byte)⟩ := by decide +kernel
theorem d47_13 : decode jdk_42_method_18_code 13 = .ok (.areturn, 1) := by decide +kernel
def Q_enc_0 (Z : State) (t : Nat) (u8 : Nat) (kt : ClassId) (ca : Int32) (h0 : Heap) (n0 : Nat) (vR : Option Value) (hR : Heap) (LR : List Loc) : Prop := ∃ (r : Nat) (kr : ClassId), vR = some (.ref r) ∧ Fr n0 LR ∧ Keep h0 hR [] ∧ h0.size ≤ r ∧ (Arv Z hR r kr .byte (45 : Int32) [(.int 60), (.int 63), (.int 120), (.int 109), (.int 108), (.int 32), (.int 118), (.int 101), (.int 114), (.int 115), (.int 105), (.int 111), (.int 110), (.int 61), (.int 34), (.int 49), (.int 46), (.int 48), (.int 34), (.int 32), (.int 101), (.int 110), (.int 99), (.int 111), (.int 100), (.int 105), (.int 110), (.int 103), (.int 61), (.int 34), (.int 85), (.int 84), (.int 70), (.int 45), (.int 56), (.int 34), (.int 63), (.int 62), (.int 60), (.int ca), (.int 62), (.int 60), (.int 47), (.int ca), (.int 62)] (.int 0))
set_option maxRecDepth 65536 in
set_option maxHeartbeats 40000000 in
theorem enc_0 (l : Launch) (Z : State) (a0 : Array Value) (hw : ∀ d ∈ tables_1, d.before a0 Z = true) (ws : List Jvm.Cond) (t : Nat) (u8 : Nat) (kt : ClassId) (ca : Int32) (h0 : Heap) (n0 : Nat) (Z0 : n0 ≤ h0.size) (E_t : Exa Z h0 t "[B") (V_t : Arv Z h0 t kt .byte (45 : Int32) [(.int 60), (.int 63), (.int 120), (.int 109), (.int 108), (.int 32), (.int 118), (.int 101), (.int 114), (.int 115), (.int 105), (.int 111), (.int 110), (.int 61), (.int 34), (.int 49), (.int 46), (.int 48), (.int 34), (.int 32), (.int 101), (.int 110), (.int 99), (.int 111), (.int 100), (.int 105), (.int 110), (.int 103), (.int 61), (.int 34), (.int 85), (.int 84), (.int 70), (.int 45), (.int 56), (.int 34), (.int 63), (.int 62), (.int 60), (.int ca), (.int 62), (.int 60), (.int 47), (.int ca), (.int 62)] (.int 0)) (S_U8 : Sta Z h0 "java/nio/charset/StandardCharsets" "UTF_8" "Ljava/nio/charset/Charset;" (.ref u8)) (S_IN : Sta Z h0 "sun/nio/cs/UTF_8" "INSTANCE" "Lsun/nio/cs/UTF_8;" (.ref u8)) (hca : ¬ (ca < (0 : Int32))) :
    own_M l (⟨"java/lang/String", "encode", "(Ljava/nio/charset/Charset;B[B)[B"⟩ : MethodName) jdk_42_method_18_code 3 (some (.array .byte)) ws ({ frames := 3, cells := 1, slots := 45, locals := 50 } : Room) Z #[(.ref u8), (.int 0), (.ref t)] h0 (Q_enc_0 Z t u8 kt ca h0 n0) := by
  refine own_body (own := "java/lang/String") rfl (plainFor_of_name pn_47) (fun m => ef_enc_0 m u8 (0 : Int32) t) ?_
  intro p e s m below meth c s₁ Bd hml hZ hh hx hby hown X0 e0
  have N0 := Fr.nil n0
  have lt1 : h0.size > t := E_t.lt
  refine own_aloadN X0.here hx hby d47_0 rfl rfl ?_
  refine own_getS X0 hx hZ hown (host := "") (Or.inl (own_w hw 268 rfl)) Via.refl e0 S_IN hby d47_1 ?_
  intro T2 X2 e2
  refine own_acmp X2 hx (same := true) (pc' := 7) hby d47_4 rfl rfl (decide_eq_true rfl) (by decide) (by decide) ?_
  refine own_iloadN X2.here hx hby d47_7 rfl ?_
  refine own_aloadN X2.here hx hby d47_8 rfl rfl ?_
  refine own_iconst X2.here hx hby d47_9 (v := (1 : Int32)) (by decide) ?_
  refine own_callS X2 hx hZ hown (own_w hw 270 rfl) (own_w hw 271 rfl) (own_w hw 7 rfl) (own_w hw 272 rfl) (by decide) (enc8_0 l Z a0 hw [] t kt ca h0 n0 Z0 E_t V_t hca) 0 (Nat.le_of_eq rfl) (by decide) (by decide) (by rw [hml]; rfl) (argsL := [(.int 0), (.ref t), (.int 1)]) (st := []) (lenOf pd_26 rfl) rfl rfl (by decide) (by decide) e2 hby d47_10 ?_
  intro T3 v3 L3 X3 hQ3
  obtain ⟨r_3, kr_3, rfl, Nq3, K3, P3_0, P3_1⟩ := hQ3
  have N3 := Fr.app N0 Nq3
  have z4 : h0.size ≤ T3.heap.size := K3.1
  have lt5 : T3.heap.size > r_3 := P3_1.lt
  refine own_sh (T := T3) 13 #[.val (.ref u8), .val (.int 0), .val (.ref t)] [(.ref r_3)] ?_
  have K6 : Keep h0 T3.heap [] := ((Keep.refl h0 []).trans K3 all0)
  obtain ⟨fs, hr, hrun, hended, hW, hsame⟩ := X3.leave (v := some (.ref r_3)) (fun h => by rw [Bd.returns] at h; cases h) Bd.notSynchronized
  refine own_ret (t := T3.setFrames fs) ?_ ⟨_, hrun, hended, _, _, rfl, ?_, ⟨_, rfl⟩, hW, hsame.mono (by decide) (by decide)⟩
  · exact retOut X3 hx Bd.returns rfl (Or.inr (Or.inr (Or.inr (Or.inr ⟨rfl, rfl, rfl⟩)))) (hb hby d47_13) hr
  · show Q_enc_0 Z _ _ _ _ h0 n0 _ T3.heap _
    exact ⟨r_3, kr_3, rfl, N3, K6, (by omega), P3_1⟩
theorem ef_getU8_0 (m : MethodId) (x0 : Nat) (x1 : Nat) : entryFrame m #[(.ref x0), (.ref x1)] 2 = mkF m 0 #[.val (.ref x0), .val (.ref x1)] [] := by first | (simp [entryFrame, mkF, argsToLocals, Value.category]; done) | rfl
theorem pn_46 : plainName "java/lang/String" = true := by first | (simp [plainName, overriddenIn]; done) | decide +kernel
theorem d46_0 : decode jdk_42_method_64_code 0 = .ok (.aload_n 1, 1) := by decide +kernel
theorem d46_1 : decode jdk_42_method_64_code 1 = .ok (.ifnonnull 11, 3) := by decide +kernel
theorem d46_12 : decode jdk_42_method_64_code 12 = .ok (.aload_n 1, 1) := by decide +kernel
theorem d46_13 : decode jdk_42_method_64_code 13 = .ok (.aload_n 0, 1) := by decide +kernel
theorem d46_14 : decode jdk_42_method_64_code 14 = .ok (.invokevirtual 335, 3) := by decide +kernel
theorem d46_17 : decode jdk_42_method_64_code 17 = .ok (.aload_n 0, 1) := by decide +kernel
theorem d46_18 : decode jdk_42_method_64_code 18 = .ok (.getfield 9, 3) := by decide +kernel
theorem d46_21 : decode jdk_42_method_64_code 21 = .ok (.invokestatic 535, 3) := by decide +kernel
theorem pd_27 : parseMethodDescriptor "(Ljava/nio/charset/Charset;B[B)[B" = some ⟨[(.object "java/nio/charset/Charset"), .byte, (.array .byte)], some (.array .byte)⟩ := by decide +kernel
theorem d46_24 : decode jdk_42_method_64_code 24 = .ok (.areturn, 1) := by decide +kernel
def Q_getU8_0 (Z : State) (x : Nat) (t : Nat) (u8 : Nat) (kt : ClassId) (zc : Int32) (ca : Int32) (h0 : Heap) (n0 : Nat) (vR : Option Value) (hR : Heap) (LR : List Loc) : Prop := ∃ (r : Nat) (kr : ClassId), vR = some (.ref r) ∧ Fr n0 LR ∧ Keep h0 hR [] ∧ h0.size ≤ r ∧ (Arv Z hR r kr .byte (45 : Int32) [(.int 60), (.int 63), (.int 120), (.int 109), (.int 108), (.int 32), (.int 118), (.int 101), (.int 114), (.int 115), (.int 105), (.int 111), (.int 110), (.int 61), (.int 34), (.int 49), (.int 46), (.int 48), (.int 34), (.int 32), (.int 101), (.int 110), (.int 99), (.int 111), (.int 100), (.int 105), (.int 110), (.int 103), (.int 61), (.int 34), (.int 85), (.int 84), (.int 70), (.int 45), (.int 56), (.int 34), (.int 63), (.int 62), (.int 60), (.int ca), (.int 62), (.int 60), (.int 47), (.int ca), (.int 62)] (.int 0))
set_option maxRecDepth 65536 in
set_option maxHeartbeats 40000000 in
theorem getU8_0 (l : Launch) (Z : State) (a0 : Array Value) (hw : ∀ d ∈ tables_1, d.before a0 Z = true) (ws : List Jvm.Cond) (x : Nat) (t : Nat) (u8 : Nat) (kt : ClassId) (zc : Int32) (ca : Int32) (h0 : Heap) (n0 : Nat) (Z0 : n0 ≤ h0.size) (E_x : Exa Z h0 x "java/lang/String") (Fc_x : Fld Z h0 x "java/lang/String" "coder" "B" (.int 0)) (Fv_x : Fld Z h0 x "java/lang/String" "value" "[B" (.ref t)) (E_t : Exa Z h0 t "[B") (V_t : Arv Z h0 t kt .byte (45 : Int32) [(.int 60), (.int 63), (.int 120), (.int 109), (.int 108), (.int 32), (.int 118), (.int 101), (.int 114), (.int 115), (.int 105), (.int 111), (.int 110), (.int 61), (.int 34), (.int 49), (.int 46), (.int 48), (.int 34), (.int 32), (.int 101), (.int 110), (.int 99), (.int 111), (.int 100), (.int 105), (.int 110), (.int 103), (.int 61), (.int 34), (.int 85), (.int 84), (.int 70), (.int 45), (.int 56), (.int 34), (.int 63), (.int 62), (.int 60), (.int ca), (.int 62), (.int 60), (.int 47), (.int ca), (.int 62)] (.int 0)) (S_C : Sta Z h0 "java/lang/String" "COMPACT_STRINGS" "Z" (.int zc)) (hz : ¬ (zc = (0 : Int32))) (S_U8 : Sta Z h0 "java/nio/charset/StandardCharsets" "UTF_8" "Ljava/nio/charset/Charset;" (.ref u8)) (S_IN : Sta Z h0 "sun/nio/cs/UTF_8" "INSTANCE" "Lsun/nio/cs/UTF_8;" (.ref u8)) (hca : ¬ (ca < (0 : Int32))) :
    own_M l (⟨"java/lang/String", "getBytes", "(Ljava/nio/charset/Charset;)[B"⟩ : MethodName) jdk_42_method_64_code 2 (some (.array .byte)) ws ({ frames := 4, cells := 1, slots := 45, locals := 64 } : Room) Z #[(.ref x), (.ref u8)] h0 (Q_getU8_0 Z x t u8 kt zc ca h0 n0) := by
  refine own_body (own := "java/lang/String") rfl (plainFor_of_name pn_46) (fun m => ef_getU8_0 m x u8) ?_
  intro p e s m below meth c s₁ Bd hml hZ hh hx hby hown X0 e0
  have N0 := Fr.nil n0
  have lt1 : h0.size > x := E_x.lt
  have lt2 : h0.size > t := E_t.lt
  refine own_aloadN X0.here hx hby d46_0 rfl rfl ?_
  refine own_ifnonnullYes X0.here hx hby (pc' := 12) d46_1 (by decide) (by decide) ?_
  refine own_aloadN X0.here hx hby d46_12 rfl rfl ?_
  refine own_aloadN X0.here hx hby d46_13 rfl rfl ?_
  refine own_virtual X0 hx hZ hown (own_w hw 58 rfl) (own_w hw 59 rfl) (notFace_of_selects (args := #[]) (mvT hZ (own_w hw 61 rfl))) (own_w hw 61 rfl) (own_w hw 60 rfl) (own_w hw 7 rfl) (own_w hw 62 rfl) (by decide) (strCoder l Z a0 hw [] x zc h0 n0 Z0 Fc_x S_C hz) 1 (Nat.le_of_eq rfl) (by decide) (by decide) (by rw [hml]; rfl) (argsL := []) (st := [(.ref u8)]) E_x (lenOf pd_3 rfl) rfl rfl (by decide) (by decide) e0 hby d46_14 ?_
  intro T3 v3 L3 X3 hQ3
  obtain ⟨rfl, Nq3, eh3⟩ := hQ3
  have N3 := Fr.app N0 Nq3
  refine own_sh (T := T3) 17 #[.val (.ref x), .val (.ref u8)] [(.int 0), (.ref u8)] ?_
  refine own_aloadN X3.here hx hby d46_17 rfl rfl ?_
  refine own_getF X3 hx hZ hown (host := "") (Or.inl (own_w hw 57 rfl)) Via.refl eh3 Fv_x hby d46_18 ?_
  intro T4 X4 e4
  refine own_callS X4 hx hZ hown (own_w hw 265 rfl) (own_w hw 266 rfl) (own_w hw 7 rfl) (own_w hw 267 rfl) (by decide) (enc_0 l Z a0 hw [] t u8 kt ca h0 n0 Z0 E_t V_t S_U8 S_IN hca) 0 (Nat.le_of_eq rfl) (by decide) (by decide) (by rw [hml]; rfl) (argsL := [(.ref u8), (.int 0), (.ref t)]) (st := []) (lenOf pd_27 rfl) rfl rfl (by decide) (by decide) e4 hby d46_21 ?_
  intro T5 v5 L5 X5 hQ5
  obtain ⟨r_5, kr_5, rfl, Nq5, K5, P5_0, P5_1⟩ := hQ5
  have N5 := Fr.app N3 Nq5
  have z6 : h0.size ≤ T5.heap.size := K5.1
  have lt7 : T5.heap.size > r_5 := P5_1.lt
  refine own_sh (T := T5) 24 #[.val (.ref x), .val (.ref u8)] [(.ref r_5)] ?_
  have K9 : Keep h0 T5.heap [] := ((Keep.refl h0 []).trans K5 all0)
  obtain ⟨fs, hr, hrun, hended, hW, hsame⟩ := X5.leave (v := some (.ref r_5)) (fun h => by rw [Bd.returns] at h; cases h) Bd.notSynchronized
  refine own_ret (t := T5.setFrames fs) ?_ ⟨_, hrun, hended, _, _, rfl, ?_, ⟨_, rfl⟩, hW, hsame.mono (by decide) (by decide)⟩
  · exact retOut X5 hx Bd.returns rfl (Or.inr (Or.inr (Or.inr (Or.inr ⟨rfl, rfl, rfl⟩)))) (hb hby d46_24) hr
  · show Q_getU8_0 Z _ _ _ _ _ _ h0 n0 _ T5.heap _
    exact ⟨r_5, kr_5, rfl, N5, K9, (by omega), P5_1⟩
theorem ef_toU8_0 (m : MethodId) (x0 : Nat) : entryFrame m #[(.ref x0)] 1 = mkF m 0 #[.val (.ref x0)] [] := by first | (simp [entryFrame, mkF, argsToLocals, Value.category]; done) | rfl
theorem pn_34 : plainName "com/example/sluice/sluice/server/XmlWriter" = true := by first | (simp [plainName, overriddenIn]; done) | decide +kernel
theorem d34_0 : decode prog_22_method_8_code 0 = .ok (.aload_n 0, 1) := by decide +kernel
theorem d34_1 : decode prog_22_method_8_code 1 = .ok (.getfield 17, 3) := by decide +kernel
theorem d34_4 : decode prog_22_method_8_code 4 = .ok (.invokeinterface 58 1, 5) := by decide +kernel
theorem d34_9 : decode prog_22_method_8_code 9 = .ok (.ifCond .ne 28, 3) := by decide +kernel
theorem d34_37 : decode prog_22_method_8_code 37 = .ok (.aload_n 0, 1) := by decide +kernel
theorem d34_38 : decode prog_22_method_8_code 38 = .ok (.getfield 24, 3) := by decide +kernel
theorem d34_41 : decode prog_22_method_8_code 41 = .ok (.invokevirtual 72, 3) := by decide +kernel
theorem pd_28 : parseMethodDescriptor "()Ljava/lang/String;" = some ⟨[], some (.object "java/lang/String")⟩ := by decide +kernel
theorem d34_44 : decode prog_22_method_8_code 44 = .ok (.getstatic 76, 3) := by decide +kernel
theorem d34_47 : decode prog_22_method_8_code 47 = .ok (.invokevirtual 82, 3) := by decide +kernel
theorem pd_29 : parseMethodDescriptor "(Ljava/nio/charset/Charset;)[B" = some ⟨[(.object "java/nio/charset/Charset")], some (.array .byte)⟩ := by decide +kernel
theorem d34_50 : decode prog_22_method_8_code 50 = .ok (.areturn, 1) := by decide +kernel
def Q_toU8_0 (Z : State) (w_ : Nat) (dq : Nat) (el : Nat) (sb : Nat) (b : Nat) (u8 : Nat) (ke : ClassId) (kb : ClassId) (ca : Int32) (zc : Int32) (h0 : Heap) (n0 : Nat) (vR : Option Value) (hR : Heap) (LR : List Loc) : Prop := ∃ (r : Nat) (kr : ClassId), vR = some (.ref r) ∧ Fr n0 LR ∧ Keep h0 hR [] ∧ h0.size ≤ r ∧ (Arv Z hR r kr .byte (45 : Int32) [(.int 60), (.int 63), (.int 120), (.int 109), (.int 108), (.int 32), (.int 118), (.int 101), (.int 114), (.int 115), (.int 105), (.int 111), (.int 110), (.int 61), (.int 34), (.int 49), (.int 46), (.int 48), (.int 34), (.int 32), (.int 101), (.int 110), (.int 99), (.int 111), (.int 100), (.int 105), (.int 110), (.int 103), (.int 61), (.int 34), (.int 85), (.int 84), (.int 70), (.int 45), (.int 56), (.int 34), (.int 63), (.int 62), (.int 60), (.int ca), (.int 62), (.int 60), (.int 47), (.int ca), (.int 62)] (.int 0))
set_option maxRecDepth 65536 in
set_option maxHeartbeats 40000000 in
theorem toU8_0 (l : Launch) (Z : State) (a0 : Array Value) (hw : ∀ d ∈ tables_1, d.before a0 Z = true) (ws : List Jvm.Cond) (w_ : Nat) (dq : Nat) (el : Nat) (sb : Nat) (b : Nat) (u8 : Nat) (ke : ClassId) (kb : ClassId) (ca : Int32) (zc : Int32) (h0 : Heap) (n0 : Nat) (Z0 : n0 ≤ h0.size) (E_w : Exa Z h0 w_ "com/example/sluice/sluice/server/XmlWriter") (F_open_w : Fld Z h0 w_ "com/example/sluice/sluice/server/XmlWriter" "open" "Ljava/util/Deque;" (.ref dq)) (F_xml_w : Fld Z h0 w_ "com/example/sluice/sluice/server/XmlWriter" "xml" "Ljava/lang/StringBuilder;" (.ref sb)) (E_dq : Exa Z h0 dq "java/util/ArrayDeque") (F_elements_dq : Fld Z h0 dq "java/util/ArrayDeque" "elements" "[Ljava/lang/Object;" (.ref el)) (F_head_dq : Fld Z h0 dq "java/util/ArrayDeque" "head" "I" (.int 0)) (F_tail_dq : Fld Z h0 dq "java/util/ArrayDeque" "tail" "I" (.int 0)) (V_el : Arv Z h0 el ke (.object "java/lang/Object") (17 : Int32) [.null, .null, .null, .null, .null, .null, .null, .null, .null, .null, .null, .null, .null, .null, .null, .null, .null] .null) (O_el : Ovr Z ke "java/lang/Object") (E_sb : Exa Z h0 sb "java/lang/StringBuilder") (F_value_sb : Fld Z h0 sb "java/lang/AbstractStringBuilder" "value" "[B" (.ref b)) (F_coder_sb : Fld Z h0 sb "java/lang/AbstractStringBuilder" "coder" "B" (.int 0)) (F_count_sb : Fld Z h0 sb "java/lang/AbstractStringBuilder" "count" "I" (.int (Int32.ofNat ((((((own_decl ++ [(60 : Int32)]) ++ [ca]) ++ [(62 : Int32)]) ++ ([60, 47] : List Int32)) ++ [ca]) ++ [(62 : Int32)]).length))) (V_b : Arv Z h0 b kb .byte (54 : Int32) (own_bz ((((((own_decl ++ [(60 : Int32)]) ++ [ca]) ++ [(62 : Int32)]) ++ ([60, 47] : List Int32)) ++ [ca]) ++ [(62 : Int32)])) (.int 0)) (S_C : Sta Z h0 "java/lang/String" "COMPACT_STRINGS" "Z" (.int zc)) (hz : ¬ (zc = (0 : Int32))) (S_U8 : Sta Z h0 "java/nio/charset/StandardCharsets" "UTF_8" "Ljava/nio/charset/Charset;" (.ref u8)) (S_IN : Sta Z h0 "sun/nio/cs/UTF_8" "INSTANCE" "Lsun/nio/cs/UTF_8;" (.ref u8)) (hca : ¬ (ca < (0 : Int32))) :
    own_M l (⟨"com/example/sluice/sluice/server/XmlWriter", "toUtf8", "()[B"⟩ : MethodName) prog_22_method_8_code 1 (some (.array .byte)) ws ({ frames := 6, cells := 3, slots := 103, locals := 91 } : Room) Z #[(.ref w_)] h0 (Q_toU8_0 Z w_ dq el sb b u8 ke kb ca zc h0 n0) := by
  refine own_body (own := "com/example/sluice/sluice/server/XmlWriter") rfl (plainFor_of_name pn_34) (fun m => ef_toU8_0 m w_) ?_
  intro p e s m below meth c s₁ Bd hml hZ hh hx hby hown X0 e0
  have N0 := Fr.nil n0
  have lt1 : h0.size > w_ := E_w.lt
  have lt2 : h0.size > dq := E_dq.lt
  have lt3 : h0.size > el := V_el.lt
  have lt4 : h0.size > sb := E_sb.lt
  have lt5 : h0.size > b := V_b.lt
  refine own_aloadN X0.here hx hby d34_0 rfl rfl ?_
  refine own_getF X0 hx hZ hown (host := "") (Or.inl (own_w hw 37 rfl)) Via.refl e0 F_open_w hby d34_1 ?_
  intro T6 X6 e6
  refine own_interfaceUp (J := "java/util/Collection") X6 hx hZ hown (own_w hw 209 rfl) (own_w hw 210 rfl) (own_w hw 211 rfl) (by decide) (by decide) (own_w hw 212 rfl) (own_w hw 213 rfl) (own_w hw 214 rfl) (own_w hw 215 rfl) (own_w hw 158 rfl) (own_w hw 22 rfl) (own_w hw 216 rfl) (dqEmpty l Z a0 hw [] dq h0 n0 Z0 E_dq F_head_dq F_tail_dq) 0 (Nat.le_of_eq rfl) (by decide) (by decide) (by rw [hml]; rfl) (argsL := []) (st := []) E_dq (lenOf pd_11 rfl) rfl rfl (by decide) (by decide) e6 hby d34_4 ?_
  intro T7 v7 L7 X7 hQ7
  obtain ⟨rfl, Nq7, eh7⟩ := hQ7
  have N7 := Fr.app N0 Nq7
  refine own_sh (T := T7) 9 #[.val (.ref w_)] [(.int 1)] ?_
  refine own_ifYes X7.here hx hby (pc' := 37) d34_9 ((if0 _ _).trans (feq (show ¬ ((1 : Int32) = (0 : Int32)) from (by decide))).2) (by decide) (by decide) ?_
  refine own_aloadN X7.here hx hby d34_37 rfl rfl ?_
  refine own_getF X7 hx hZ hown (host := "") (Or.inl (own_w hw 112 rfl)) Via.refl eh7 F_xml_w hby d34_38 ?_
  intro T9 X9 e9
  refine own_virtual X9 hx hZ hown (own_w hw 217 rfl) (own_w hw 218 rfl) (notFace_of_selects (args := #[]) (mvT hZ (own_w hw 220 rfl))) (own_w hw 220 rfl) (own_w hw 219 rfl) (own_w hw 41 rfl) (own_w hw 221 rfl) (by decide) (sbStrG l Z a0 hw [] sb b kb ((((((own_decl ++ [(60 : Int32)]) ++ [ca]) ++ [(62 : Int32)]) ++ ([60, 47] : List Int32)) ++ [ca]) ++ [(62 : Int32)]) zc h0 n0 Z0 E_sb F_value_sb F_coder_sb F_count_sb V_b S_C hz (by simp only [List.length_append, List.length_cons, List.length_nil]; decide)) 0 (Nat.le_of_eq rfl) (by decide) (by decide) (by rw [hml]; rfl) (argsL := []) (st := []) E_sb (lenOf pd_28 rfl) rfl rfl (by decide) (by decide) e9 hby d34_41 ?_
  intro T10 v10 L10 X10 hQ10
  obtain ⟨x_10, t_10, kt_10, rfl, Nq10, K10, P10_0, P10_1, P10_2, P10_3, P10_4, P10_5⟩ := hQ10
  have N10 := Fr.app N7 Nq10
  have z11 : h0.size ≤ T10.heap.size := K10.1
  have lt12 : T10.heap.size > x_10 := P10_1.lt
  have lt13 : T10.heap.size > t_10 := P10_4.lt
  refine own_sh (T := T10) 44 #[.val (.ref w_)] [(.ref x_10)] ?_
  have f14 := (own_sta_keep S_U8 K10 all0)
  refine own_getS X10 hx hZ hown (host := "") (Or.inl (own_w hw 258 rfl)) Via.refl rfl f14 hby d34_44 ?_
  intro T15 X15 e15
  have V16 : Arv Z T10.heap t_10 kt_10 .byte (45 : Int32) [(.int 60), (.int 63), (.int 120), (.int 109), (.int 108), (.int 32), (.int 118), (.int 101), (.int 114), (.int 115), (.int 105), (.int 111), (.int 110), (.int 61), (.int 34), (.int 49), (.int 46), (.int 48), (.int 34), (.int 32), (.int 101), (.int 110), (.int 99), (.int 111), (.int 100), (.int 105), (.int 110), (.int 103), (.int 61), (.int 34), (.int 85), (.int 84), (.int 70), (.int 45), (.int 56), (.int 34), (.int 63), (.int 62), (.int 60), (.int ca), (.int 62), (.int 60), (.int 47), (.int ca), (.int 62)] (.int 0) := P10_4
  have f17 := (own_sta_keep S_C K10 all0)
  have f18 := (own_sta_keep S_IN K10 all0)
  have z20 : n0 ≤ T10.heap.size := by omega
  refine own_virtual X15 hx hZ hown (own_w hw 260 rfl) (own_w hw 261 rfl) (notFace_of_selects (args := #[]) (mvT hZ (own_w hw 263 rfl))) (own_w hw 263 rfl) (own_w hw 262 rfl) (own_w hw 7 rfl) (own_w hw 264 rfl) (by decide) (getU8_0 l Z a0 hw [] x_10 t_10 u8 kt_10 zc ca T10.heap n0 z20 P10_1 P10_2 P10_3 P10_5 V16 f17 hz f14 f18 hca) 0 (Nat.le_of_eq rfl) (by decide) (by decide) (by rw [hml]; rfl) (argsL := [(.ref u8)]) (st := []) P10_1 (lenOf pd_29 rfl) rfl rfl (by decide) (by decide) e15 hby d34_47 ?_
  intro T19 v19 L19 X19 hQ19
  obtain ⟨r_19, kr_19, rfl, Nq19, K19, P19_0, P19_1⟩ := hQ19
  have N19 := Fr.app N10 Nq19
  have z21 : T10.heap.size ≤ T19.heap.size := K19.1
  have lt22 : T19.heap.size > r_19 := P19_1.lt
  refine own_sh (T := T19) 50 #[.val (.ref w_)] [(.ref r_19)] ?_
  have K23 : Keep h0 T19.heap [] := (((Keep.refl h0 []).trans K10 all0).trans K19 all0)
  obtain ⟨fs, hr, hrun, hended, hW, hsame⟩ := X19.leave (v := some (.ref r_19)) (fun h => by rw [Bd.returns] at h; cases h) Bd.notSynchronized
  refine own_ret (t := T19.setFrames fs) ?_ ⟨_, hrun, hended, _, _, rfl, ?_, ⟨_, rfl⟩, hW, hsame.mono (by decide) (by decide)⟩
  · exact retOut X19 hx Bd.returns rfl (Or.inr (Or.inr (Or.inr (Or.inr ⟨rfl, rfl, rfl⟩)))) (hb hby d34_50) hr
  · show Q_toU8_0 Z _ _ _ _ _ _ _ _ _ _ h0 n0 _ T19.heap _
    exact ⟨r_19, kr_19, rfl, N19, K23, (by omega), P19_1⟩
def Q_cntP_1 (Z : State) (t : Nat) (kt : ClassId) (ca : Int32) (cb : Int32) (h0 : Heap) (n0 : Nat) (vR : Option Value) (hR : Heap) (LR : List Loc) : Prop := vR = some (.int 52) ∧ Fr n0 LR ∧ hR = h0
set_option maxRecDepth 65536 in
set_option maxHeartbeats 40000000 in
theorem cntP_1 (l : Launch) (Z : State) (a0 : Array Value) (hw : ∀ d ∈ tables_1, d.before a0 Z = true) (ws : List Jvm.Cond) (t : Nat) (kt : ClassId) (ca : Int32) (cb : Int32) (h0 : Heap) (n0 : Nat) (Z0 : n0 ≤ h0.size) (V_t : Arv Z h0 t kt .byte (52 : Int32) [(.int 60), (.int 63), (.int 120), (.int 109), (.int 108), (.int 32), (.int 118), (.int 101), (.int 114), (.int 115), (.int 105), (.int 111), (.int 110), (.int 61), (.int 34), (.int 49), (.int 46), (.int 48), (.int 34), (.int 32), (.int 101), (.int 110), (.int 99), (.int 111), (.int 100), (.int 105), (.int 110), (.int 103), (.int 61), (.int 34), (.int 85), (.int 84), (.int 70), (.int 45), (.int 56), (.int 34), (.int 63), (.int 62), (.int 60), (.int ca), (.int 62), (.int 60), (.int cb), (.int 62), (.int 60), (.int 47), (.int cb), (.int 62), (.int 60), (.int 47), (.int ca), (.int 62)] (.int 0)) (hca : ¬ (ca < (0 : Int32))) (hcb : ¬ (cb < (0 : Int32))) :
    own_M l (⟨"java/lang/StringCoding", "countPositives", "([BII)I"⟩ : MethodName) jdk_123_method_3_code 5 (some .int) ws ({ frames := 0, cells := 0, slots := 0, locals := 0 } : Room) Z #[(.ref t), (.int 0), (.int 52)] h0 (Q_cntP_1 Z t kt ca cb h0 n0) := by
  refine own_body (own := "java/lang/StringCoding") rfl (plainFor_of_name pn_50) (fun m => ef_cntP_0 m t (0 : Int32) (52 : Int32)) ?_
  intro p e s m below meth c s₁ Bd hml hZ hh hx hby hown X0 e0
  have N0 := Fr.nil n0
  have lt1 : h0.size > t := V_t.lt
  refine own_iloadN X0.here hx hby d50_0 rfl ?_
  refine own_iloadN X0.here hx hby d50_1 rfl ?_
  refine own_iadd X0.here hx hby d50_2 (v := (52 : Int32)) (by decide) ?_
  refine own_istoreN X0.here hx hby d50_3 (l' := #[.val (.ref t), .val (.int 0), .val (.int 52), .val (.int 52), .unset]) rfl ?_
  refine own_iloadN X0.here hx hby d50_4 rfl ?_
  refine own_istore X0.here hx hby d50_5 (l' := #[.val (.ref t), .val (.int 0), .val (.int 52), .val (.int 52), .val (.int 0)]) rfl ?_
  refine own_iload X0.here hx hby d50_7 rfl ?_
  refine own_iloadN X0.here hx hby d50_9 rfl ?_
  refine own_icmpNo X0.here hx hby d50_10 (tlt (show (0 : Int32) < (52 : Int32) from (by decide))).2.1 ?_
  refine own_aloadN X0.here hx hby d50_13 rfl rfl ?_
  refine own_iload X0.here hx hby d50_14 rfl ?_
  refine own_baload X0 hx hZ e0 V_t ⟨by decide, by decide⟩ (v := (.int 60)) rfl hby d50_16 ?_
  refine own_ifYes X0.here hx hby (pc' := 25) d50_17 ((if0 _ _).trans (flt (show ¬ ((60 : Int32) < (0 : Int32)) from (by decide))).2.1) (by decide) (by decide) ?_
  refine own_iinc X0.here hx hby d50_25 rfl (v := (1 : Int32)) (by decide) (l' := #[.val (.ref t), .val (.int 0), .val (.int 52), .val (.int 52), .val (.int 1)]) rfl ?_
  refine own_goto X0.here hx hby (pc' := 7) d50_28 (by decide) (by decide) ?_
  refine own_iload X0.here hx hby d50_7 rfl ?_
  refine own_iloadN X0.here hx hby d50_9 rfl ?_
  refine own_icmpNo X0.here hx hby d50_10 (tlt (show (1 : Int32) < (52 : Int32) from (by decide))).2.1 ?_
  refine own_aloadN X0.here hx hby d50_13 rfl rfl ?_
  refine own_iload X0.here hx hby d50_14 rfl ?_
  refine own_baload X0 hx hZ e0 V_t ⟨by decide, by decide⟩ (v := (.int 63)) rfl hby d50_16 ?_
  refine own_ifYes X0.here hx hby (pc' := 25) d50_17 ((if0 _ _).trans (flt (show ¬ ((63 : Int32) < (0 : Int32)) from (by decide))).2.1) (by decide) (by decide) ?_
  refine own_iinc X0.here hx hby d50_25 rfl (v := (2 : Int32)) (by decide) (l' := #[.val (.ref t), .val (.int 0), .val (.int 52), .val (.int 52), .val (.int 2)]) rfl ?_
  refine own_goto X0.here hx hby (pc' := 7) d50_28 (by decide) (by decide) ?_
  refine own_iload X0.here hx hby d50_7 rfl ?_
  refine own_iloadN X0.here hx hby d50_9 rfl ?_
  refine own_icmpNo X0.here hx hby d50_10 (tlt (show (2 : Int32) < (52 : Int32) from (by decide))).2.1 ?_
  refine own_aloadN X0.here hx hby d50_13 rfl rfl ?_
  refine own_iload X0.here hx hby d50_14 rfl ?_
  refine own_baload X0 hx hZ e0 V_t ⟨by decide, by decide⟩ (v := (.int 120)) rfl hby d50_16 ?_
  refine own_ifYes X0.here hx hby (pc' := 25) d50_17 ((if0 _ _).trans (flt (show ¬ ((120 : Int32) < (0 : Int32)) from (by decide))).2.1) (by decide) (by decide) ?_
  refine own_iinc X0.here hx hby d50_25 rfl (v := (3 : Int32)) (by decide) (l' := #[.val (.ref t), .val (.int 0), .val (.int 52), .val (.int 52), .val (.int 3)]) rfl ?_
  refine own_goto X0.here hx hby (pc' := 7) d50_28 (by decide) (by decide) ?_
  refine own_iload X0.here hx hby d50_7 rfl ?_
  refine own_iloadN X0.here hx hby d50_9 rfl ?_
  refine own_icmpNo X0.here hx hby d50_10 (tlt (show (3 : Int32) < (52 : Int32) from (by decide))).2.1 ?_
  refine own_aloadN X0.here hx hby d50_13 rfl rfl ?_
  refine own_iload X0.here hx hby d50_14 rfl ?_
  refine own_baload X0 hx hZ e0 V_t ⟨by decide, by decide⟩ (v := (.int 109)) rfl hby d50_16 ?_
  refine own_ifYes X0.here hx hby (pc' := 25) d50_17 ((if0 _ _).trans (flt (show ¬ ((109 : Int32) < (0 : Int32)) from (by decide))).2.1) (by decide) (by decide) ?_
  refine own_iinc X0.here hx hby d50_25 rfl (v := (4 : Int32)) (by decide) (l' := #[.val (.ref t), .val (.int 0), .val (.int 52), .val (.int 52), .val (.int 4)]) rfl ?_
  refine own_goto X0.here hx hby (pc' := 7) d50_28 (by decide) (by decide) ?_
  refine own_iload X0.here hx hby d50_7 rfl ?_
  refine own_iloadN X0.here hx hby d50_9 rfl ?_
  refine own_icmpNo X0.here hx hby d50_10 (tlt (show (4 : Int32) < (52 : Int32) from (by decide))).2.1 ?_
  refine own_aloadN X0.here hx hby d50_13 rfl rfl ?_
  refine own_iload X0.here hx hby d50_14 rfl ?_
  refine own_baload X0 hx hZ e0 V_t ⟨by decide, by decide⟩ (v := (.int 108)) rfl hby d50_16 ?_
  refine own_ifYes X0.here hx hby (pc' := 25) d50_17 ((if0 _ _).trans (flt (show ¬ ((108 : Int32) < (0 : Int32)) from (by decide))).2.1) (by decide) (by decide) ?_
  refine own_iinc X0.here hx hby d50_25 rfl (v := (5 : Int32)) (by decide) (l' := #[.val (.ref t), .val (.int 0), .val (.int 52), .val (.int 52), .val (.int 5)]) rfl ?_
  refine own_goto X0.here hx hby (pc' := 7) d50_28 (by decide) (by decide) ?_
  refine own_iload X0.here hx hby d50_7 rfl ?_
  refine own_iloadN X0.here hx hby d50_9 rfl ?_
  refine own_icmpNo X0.here hx hby d50_10 (tlt (show (5 : Int32) < (52 : Int32) from (by decide))).2.1 ?_
  refine own_aloadN X0.here hx hby d50_13 rfl rfl ?_
  refine own_iload X0.here hx hby d50_14 rfl ?_
  refine own_baload X0 hx hZ e0 V_t ⟨by decide, by decide⟩ (v := (.int 32)) rfl hby d50_16 ?_
  refine own_ifYes X0.here hx hby (pc' := 25) d50_17 ((if0 _ _).trans (flt (show ¬ ((32 : Int32) < (0 : Int32)) from (by decide))).2.1) (by decide) (by decide) ?_
  refine own_iinc X0.here hx hby d50_25 rfl (v := (6 : Int32)) (by decide) (l' := #[.val (.ref t), .val (.int 0), .val (.int 52), .val (.int 52), .val (.int 6)]) rfl ?_
  refine own_goto X0.here hx hby (pc' := 7) d50_28 (by decide) (by decide) ?_
  refine own_iload X0.here hx hby d50_7 rfl ?_
  refine own_iloadN X0.here hx hby d50_9 rfl ?_
  refine own_icmpNo X0.here hx hby d50_10 (tlt (show (6 : Int32) < (52 : Int32) from (by decide))).2.1 ?_
  refine own_aloadN X0.here hx hby d50_13 rfl rfl ?_
  refine own_iload X0.here hx hby d50_14 rfl ?_
  refine own_baload X0 hx hZ e0 V_t ⟨by decide, by decide⟩ (v := (.int 118)) rfl hby d50_16 ?_
  refine own_ifYes X0.here hx hby (pc' := 25) d50_17 ((if0 _ _).trans (flt (show ¬ ((118 : Int32) < (0 : Int32)) from (by decide))).2.1) (by decide) (by decide) ?_
  refine own_iinc X0.here hx hby d50_25 rfl (v := (7 : Int32)) (by decide) (l' := #[.val (.ref t), .val (.int 0), .val (.int 52), .val (.int 52), .val (.int 7)]) rfl ?_
  refine own_goto X0.here hx hby (pc' := 7) d50_28 (by decide) (by decide) ?_
  refine own_iload X0.here hx hby d50_7 rfl ?_
  refine own_iloadN X0.here hx hby d50_9 rfl ?_
  refine own_icmpNo X0.here hx hby d50_10 (tlt (show (7 : Int32) < (52 : Int32) from (by decide))).2.1 ?_
  refine own_aloadN X0.here hx hby d50_13 rfl rfl ?_
  refine own_iload X0.here hx hby d50_14 rfl ?_
  refine own_baload X0 hx hZ e0 V_t ⟨by decide, by decide⟩ (v := (.int 101)) rfl hby d50_16 ?_
  refine own_ifYes X0.here hx hby (pc' := 25) d50_17 ((if0 _ _).trans (flt (show ¬ ((101 : Int32) < (0 : Int32)) from (by decide))).2.1) (by decide) (by decide) ?_
  refine own_iinc X0.here hx hby d50_25 rfl (v := (8 : Int32)) (by decide) (l' := #[.val (.ref t), .val (.int 0), .val (.int 52), .val (.int 52), .val (.int 8)]) rfl ?_
  refine own_goto X0.here hx hby (pc' := 7) d50_28 (by decide) (by decide) ?_
  refine own_iload X0.here hx hby d50_7 rfl ?_
  refine own_iloadN X0.here hx hby d50_9 rfl ?_
  refine own_icmpNo X0.here hx hby d50_10 (tlt (show (8 : Int32) < (52 : Int32) from (by decide))).2.1 ?_
  refine own_aloadN X0.here hx hby d50_13 rfl rfl ?_
  refine own_iload X0.here hx hby d50_14 rfl ?_
  refine own_baload X0 hx hZ e0 V_t ⟨by decide, by decide⟩ (v := (.int 114)) rfl hby d50_16 ?_
  refine own_ifYes X0.here hx hby (pc' := 25) d50_17 ((if0 _ _).trans (flt (show ¬ ((114 : Int32) < (0 : Int32)) from (by decide))).2.1) (by decide) (by decide) ?_
  refine own_iinc X0.here hx hby d50_25 rfl (v := (9 : Int32)) (by decide) (l' := #[.val (.ref t), .val (.int 0), .val (.int 52), .val (.int 52), .val (.int 9)]) rfl ?_
  refine own_goto X0.here hx hby (pc' := 7) d50_28 (by decide) (by decide) ?_
  refine own_iload X0.here hx hby d50_7 rfl ?_
  refine own_iloadN X0.here hx hby d50_9 rfl ?_
  refine own_icmpNo X0.here hx hby d50_10 (tlt (show (9 : Int32) < (52 : Int32) from (by decide))).2.1 ?_
  refine own_aloadN X0.here hx hby d50_13 rfl rfl ?_
  refine own_iload X0.here hx hby d50_14 rfl ?_
  refine own_baload X0 hx hZ e0 V_t ⟨by decide, by decide⟩ (v := (.int 115)) rfl hby d50_16 ?_
  refine own_ifYes X0.here hx hby (pc' := 25) d50_17 ((if0 _ _).trans (flt (show ¬ ((115 : Int32) < (0 : Int32)) from (by decide))).2.1) (by decide) (by decide) ?_
  refine own_iinc X0.here hx hby d50_25 rfl (v := (10 : Int32)) (by decide) (l' := #[.val (.ref t), .val (.int 0), .val (.int 52), .val (.int 52), .val (.int 10)]) rfl ?_
  refine own_goto X0.here hx hby (pc' := 7) d50_28 (by decide) (by decide) ?_
  refine own_iload X0.here hx hby d50_7 rfl ?_
  refine own_iloadN X0.here hx hby d50_9 rfl ?_
  refine own_icmpNo X0.here hx hby d50_10 (tlt (show (10 : Int32) < (52 : Int32) from (by decide))).2.1 ?_
  refine own_aloadN X0.here hx hby d50_13 rfl rfl ?_
  refine own_iload X0.here hx hby d50_14 rfl ?_
  refine own_baload X0 hx hZ e0 V_t ⟨by decide, by decide⟩ (v := (.int 105)) rfl hby d50_16 ?_
  refine own_ifYes X0.here hx hby (pc' := 25) d50_17 ((if0 _ _).trans (flt (show ¬ ((105 : Int32) < (0 : Int32)) from (by decide))).2.1) (by decide) (by decide) ?_
  refine own_iinc X0.here hx hby d50_25 rfl (v := (11 : Int32)) (by decide) (l' := #[.val (.ref t), .val (.int 0), .val (.int 52), .val (.int 52), .val (.int 11)]) rfl ?_
  refine own_goto X0.here hx hby (pc' := 7) d50_28 (by decide) (by decide) ?_
  refine own_iload X0.here hx hby d50_7 rfl ?_
  refine own_iloadN X0.here hx hby d50_9 rfl ?_
  refine own_icmpNo X0.here hx hby d50_10 (tlt (show (11 : Int32) < (52 : Int32) from (by decide))).2.1 ?_
  refine own_aloadN X0.here hx hby d50_13 rfl rfl ?_
  refine own_iload X0.here hx hby d50_14 rfl ?_
  refine own_baload X0 hx hZ e0 V_t ⟨by decide, by decide⟩ (v := (.int 111)) rfl hby d50_16 ?_
  refine own_ifYes X0.here hx hby (pc' := 25) d50_17 ((if0 _ _).trans (flt (show ¬ ((111 : Int32) < (0 : Int32)) from (by decide))).2.1) (by decide) (by decide) ?_
  refine own_iinc X0.here hx hby d50_25 rfl (v := (12 : Int32)) (by decide) (l' := #[.val (.ref t), .val (.int 0), .val (.int 52), .val (.int 52), .val (.int 12)]) rfl ?_
  refine own_goto X0.here hx hby (pc' := 7) d50_28 (by decide) (by decide) ?_
  refine own_iload X0.here hx hby d50_7 rfl ?_
  refine own_iloadN X0.here hx hby d50_9 rfl ?_
  refine own_icmpNo X0.here hx hby d50_10 (tlt (show (12 : Int32) < (52 : Int32) from (by decide))).2.1 ?_
  refine own_aloadN X0.here hx hby d50_13 rfl rfl ?_
  refine own_iload X0.here hx hby d50_14 rfl ?_
  refine own_baload X0 hx hZ e0 V_t ⟨by decide, by decide⟩ (v := (.int 110)) rfl hby d50_16 ?_
  refine own_ifYes X0.here hx hby (pc' := 25) d50_17 ((if0 _ _).trans (flt (show ¬ ((110 : Int32) < (0 : Int32)) from (by decide))).2.1) (by decide) (by decide) ?_
  refine own_iinc X0.here hx hby d50_25 rfl (v := (13 : Int32)) (by decide) (l' := #[.val (.ref t), .val (.int 0), .val (.int 52), .val (.int 52), .val (.int 13)]) rfl ?_
  refine own_goto X0.here hx hby (pc' := 7) d50_28 (by decide) (by decide) ?_
  refine own_iload X0.here hx hby d50_7 rfl ?_
  refine own_iloadN X0.here hx hby d50_9 rfl ?_
  refine own_icmpNo X0.here hx hby d50_10 (tlt (show (13 : Int32) < (52 : Int32) from (by decide))).2.1 ?_
  refine own_aloadN X0.here hx hby d50_13 rfl rfl ?_
  refine own_iload X0.here hx hby d50_14 rfl ?_
  refine own_baload X0 hx hZ e0 V_t ⟨by decide, by decide⟩ (v := (.int 61)) rfl hby d50_16 ?_
  refine own_ifYes X0.here hx hby (pc' := 25) d50_17 ((if0 _ _).trans (flt (show ¬ ((61 : Int32) < (0 : Int32)) from (by decide))).2.1) (by decide) (by decide) ?_
  refine own_iinc X0.here hx hby d50_25 rfl (v := (14 : Int32)) (by decide) (l' := #[.val (.ref t), .val (.int 0), .val (.int 52), .val (.int 52), .val (.int 14)]) rfl ?_
  refine own_goto X0.here hx hby (pc' := 7) d50_28 (by decide) (by decide) ?_
  refine own_iload X0.here hx hby d50_7 rfl ?_
  refine own_iloadN X0.here hx hby d50_9 rfl ?_
  refine own_icmpNo X0.here hx hby d50_10 (tlt (show (14 : Int32) < (52 : Int32) from (by decide))).2.1 ?_
  refine own_aloadN X0.here hx hby d50_13 rfl rfl ?_
  refine own_iload X0.here hx hby d50_14 rfl ?_
  refine own_baload X0 hx hZ e0 V_t ⟨by decide, by decide⟩ (v := (.int 34)) rfl hby d50_16 ?_
  refine own_ifYes X0.here hx hby (pc' := 25) d50_17 ((if0 _ _).trans (flt (show ¬ ((34 : Int32) < (0 : Int32)) from (by decide))).2.1) (by decide) (by decide) ?_
  refine own_iinc X0.here hx hby d50_25 rfl (v := (15 : Int32)) (by decide) (l' := #[.val (.ref t), .val (.int 0), .val (.int 52), .val (.int 52), .val (.int 15)]) rfl ?_
  refine own_goto X0.here hx hby (pc' := 7) d50_28 (by decide) (by decide) ?_
  refine own_iload X0.here hx hby d50_7 rfl ?_
  refine own_iloadN X0.here hx hby d50_9 rfl ?_
  refine own_icmpNo X0.here hx hby d50_10 (tlt (show (15 : Int32) < (52 : Int32) from (by decide))).2.1 ?_
  refine own_aloadN X0.here hx hby d50_13 rfl rfl ?_
  refine own_iload X0.here hx hby d50_14 rfl ?_
  refine own_baload X0 hx hZ e0 V_t ⟨by decide, by decide⟩ (v := (.int 49)) rfl hby d50_16 ?_
  refine own_ifYes X0.here hx hby (pc' := 25) d50_17 ((if0 _ _).trans (flt (show ¬ ((49 : Int32) < (0 : Int32)) from (by decide))).2.1) (by decide) (by decide) ?_
  refine own_iinc X0.here hx hby d50_25 rfl (v := (16 : Int32)) (by decide) (l' := #[.val (.ref t), .val (.int 0), .val (.int 52), .val (.int 52), .val (.int 16)]) rfl ?_
  refine own_goto X0.here hx hby (pc' := 7) d50_28 (by decide) (by decide) ?_
  refine own_iload X0.here hx hby d50_7 rfl ?_
  refine own_iloadN X0.here hx hby d50_9 rfl ?_
  refine own_icmpNo X0.here hx hby d50_10 (tlt (show (16 : Int32) < (52 : Int32) from (by decide))).2.1 ?_
  refine own_aloadN X0.here hx hby d50_13 rfl rfl ?_
  refine own_iload X0.here hx hby d50_14 rfl ?_
  refine own_baload X0 hx hZ e0 V_t ⟨by decide, by decide⟩ (v := (.int 46)) rfl hby d50_16 ?_
  refine own_ifYes X0.here hx hby (pc' := 25) d50_17 ((if0 _ _).trans (flt (show ¬ ((46 : Int32) < (0 : Int32)) from (by decide))).2.1) (by decide) (by decide) ?_
  refine own_iinc X0.here hx hby d50_25 rfl (v := (17 : Int32)) (by decide) (l' := #[.val (.ref t), .val (.int 0), .val (.int 52), .val (.int 52), .val (.int 17)]) rfl ?_
  refine own_goto X0.here hx hby (pc' := 7) d50_28 (by decide) (by decide) ?_
  refine own_iload X0.here hx hby d50_7 rfl ?_
  refine own_iloadN X0.here hx hby d50_9 rfl ?_
  refine own_icmpNo X0.here hx hby d50_10 (tlt (show (17 : Int32) < (52 : Int32) from (by decide))).2.1 ?_
  refine own_aloadN X0.here hx hby d50_13 rfl rfl ?_
  refine own_iload X0.here hx hby d50_14 rfl ?_
  refine own_baload X0 hx hZ e0 V_t ⟨by decide, by decide⟩ (v := (.int 48)) rfl hby d50_16 ?_
  refine own_ifYes X0.here hx hby (pc' := 25) d50_17 ((if0 _ _).trans (flt (show ¬ ((48 : Int32) < (0 : Int32)) from (by decide))).2.1) (by decide) (by decide) ?_
  refine own_iinc X0.here hx hby d50_25 rfl (v := (18 : Int32)) (by decide) (l' := #[.val (.ref t), .val (.int 0), .val (.int 52), .val (.int 52), .val (.int 18)]) rfl ?_
  refine own_goto X0.here hx hby (pc' := 7) d50_28 (by decide) (by decide) ?_
  refine own_iload X0.here hx hby d50_7 rfl ?_
  refine own_iloadN X0.here hx hby d50_9 rfl ?_
  refine own_icmpNo X0.here hx hby d50_10 (tlt (show (18 : Int32) < (52 : Int32) from (by decide))).2.1 ?_
  refine own_aloadN X0.here hx hby d50_13 rfl rfl ?_
  refine own_iload X0.here hx hby d50_14 rfl ?_
  refine own_baload X0 hx hZ e0 V_t ⟨by decide, by decide⟩ (v := (.int 34)) rfl hby d50_16 ?_
  refine own_ifYes X0.here hx hby (pc' := 25) d50_17 ((if0 _ _).trans (flt (show ¬ ((34 : Int32) < (0 : Int32)) from (by decide))).2.1) (by decide) (by decide) ?_
  refine own_iinc X0.here hx hby d50_25 rfl (v := (19 : Int32)) (by decide) (l' := #[.val (.ref t), .val (.int 0), .val (.int 52), .val (.int 52), .val (.int 19)]) rfl ?_
  refine own_goto X0.here hx hby (pc' := 7) d50_28 (by decide) (by decide) ?_
  refine own_iload X0.here hx hby d50_7 rfl ?_
  refine own_iloadN X0.here hx hby d50_9 rfl ?_
  refine own_icmpNo X0.here hx hby d50_10 (tlt (show (19 : Int32) < (52 : Int32) from (by decide))).2.1 ?_
  refine own_aloadN X0.here hx hby d50_13 rfl rfl ?_
  refine own_iload X0.here hx hby d50_14 rfl ?_
  refine own_baload X0 hx hZ e0 V_t ⟨by decide, by decide⟩ (v := (.int 32)) rfl hby d50_16 ?_
  refine own_ifYes X0.here hx hby (pc' := 25) d50_17 ((if0 _ _).trans (flt (show ¬ ((32 : Int32) < (0 : Int32)) from (by decide))).2.1) (by decide) (by decide) ?_
  refine own_iinc X0.here hx hby d50_25 rfl (v := (20 : Int32)) (by decide) (l' := #[.val (.ref t), .val (.int 0), .val (.int 52), .val (.int 52), .val (.int 20)]) rfl ?_
  refine own_goto X0.here hx hby (pc' := 7) d50_28 (by decide) (by decide) ?_
  refine own_iload X0.here hx hby d50_7 rfl ?_
  refine own_iloadN X0.here hx hby d50_9 rfl ?_
  refine own_icmpNo X0.here hx hby d50_10 (tlt (show (20 : Int32) < (52 : Int32) from (by decide))).2.1 ?_
  refine own_aloadN X0.here hx hby d50_13 rfl rfl ?_
  refine own_iload X0.here hx hby d50_14 rfl ?_
  refine own_baload X0 hx hZ e0 V_t ⟨by decide, by decide⟩ (v := (.int 101)) rfl hby d50_16 ?_
  refine own_ifYes X0.here hx hby (pc' := 25) d50_17 ((if0 _ _).trans (flt (show ¬ ((101 : Int32) < (0 : Int32)) from (by decide))).2.1) (by decide) (by decide) ?_
  refine own_iinc X0.here hx hby d50_25 rfl (v := (21 : Int32)) (by decide) (l' := #[.val (.ref t), .val (.int 0), .val (.int 52), .val (.int 52), .val (.int 21)]) rfl ?_
  refine own_goto X0.here hx hby (pc' := 7) d50_28 (by decide) (by decide) ?_
  refine own_iload X0.here hx hby d50_7 rfl ?_
  refine own_iloadN X0.here hx hby d50_9 rfl ?_
  refine own_icmpNo X0.here hx hby d50_10 (tlt (show (21 : Int32) < (52 : Int32) from (by decide))).2.1 ?_
  refine own_aloadN X0.here hx hby d50_13 rfl rfl ?_
  refine own_iload X0.here hx hby d50_14 rfl ?_
  refine own_baload X0 hx hZ e0 V_t ⟨by decide, by decide⟩ (v := (.int 110)) rfl hby d50_16 ?_
  refine own_ifYes X0.here hx hby (pc' := 25) d50_17 ((if0 _ _).trans (flt (show ¬ ((110 : Int32) < (0 : Int32)) from (by decide))).2.1) (by decide) (by decide) ?_
  refine own_iinc X0.here hx hby d50_25 rfl (v := (22 : Int32)) (by decide) (l' := #[.val (.ref t), .val (.int 0), .val (.int 52), .val (.int 52), .val (.int 22)]) rfl ?_
  refine own_goto X0.here hx hby (pc' := 7) d50_28 (by decide) (by decide) ?_
  refine own_iload X0.here hx hby d50_7 rfl ?_
  refine own_iloadN X0.here hx hby d50_9 rfl ?_
  refine own_icmpNo X0.here hx hby d50_10 (tlt (show (22 : Int32) < (52 : Int32) from (by decide))).2.1 ?_
  refine own_aloadN X0.here hx hby d50_13 rfl rfl ?_
  refine own_iload X0.here hx hby d50_14 rfl ?_
  refine own_baload X0 hx hZ e0 V_t ⟨by decide, by decide⟩ (v := (.int 99)) rfl hby d50_16 ?_
  refine own_ifYes X0.here hx hby (pc' := 25) d50_17 ((if0 _ _).trans (flt (show ¬ ((99 : Int32) < (0 : Int32)) from (by decide))).2.1) (by decide) (by decide) ?_
  refine own_iinc X0.here hx hby d50_25 rfl (v := (23 : Int32)) (by decide) (l' := #[.val (.ref t), .val (.int 0), .val (.int 52), .val (.int 52), .val (.int 23)]) rfl ?_
  refine own_goto X0.here hx hby (pc' := 7) d50_28 (by decide) (by decide) ?_
  refine own_iload X0.here hx hby d50_7 rfl ?_
  refine own_iloadN X0.here hx hby d50_9 rfl ?_
  refine own_icmpNo X0.here hx hby d50_10 (tlt (show (23 : Int32) < (52 : Int32) from (by decide))).2.1 ?_
  refine own_aloadN X0.here hx hby d50_13 rfl rfl ?_
  refine own_iload X0.here hx hby d50_14 rfl ?_
  refine own_baload X0 hx hZ e0 V_t ⟨by decide, by decide⟩ (v := (.int 111)) rfl hby d50_16 ?_
  refine own_ifYes X0.here hx hby (pc' := 25) d50_17 ((if0 _ _).trans (flt (show ¬ ((111 : Int32) < (0 : Int32)) from (by decide))).2.1) (by decide) (by decide) ?_
  refine own_iinc X0.here hx hby d50_25 rfl (v := (24 : Int32)) (by decide) (l' := #[.val (.ref t), .val (.int 0), .val (.int 52), .val (.int 52), .val (.int 24)]) rfl ?_
  refine own_goto X0.here hx hby (pc' := 7) d50_28 (by decide) (by decide) ?_
  refine own_iload X0.here hx hby d50_7 rfl ?_
  refine own_iloadN X0.here hx hby d50_9 rfl ?_
  refine own_icmpNo X0.here hx hby d50_10 (tlt (show (24 : Int32) < (52 : Int32) from (by decide))).2.1 ?_
  refine own_aloadN X0.here hx hby d50_13 rfl rfl ?_
  refine own_iload X0.here hx hby d50_14 rfl ?_
  refine own_baload X0 hx hZ e0 V_t ⟨by decide, by decide⟩ (v := (.int 100)) rfl hby d50_16 ?_
  refine own_ifYes X0.here hx hby (pc' := 25) d50_17 ((if0 _ _).trans (flt (show ¬ ((100 : Int32) < (0 : Int32)) from (by decide))).2.1) (by decide) (by decide) ?_
  refine own_iinc X0.here hx hby d50_25 rfl (v := (25 : Int32)) (by decide) (l' := #[.val (.ref t), .val (.int 0), .val (.int 52), .val (.int 52), .val (.int 25)]) rfl ?_
  refine own_goto X0.here hx hby (pc' := 7) d50_28 (by decide) (by decide) ?_
  refine own_iload X0.here hx hby d50_7 rfl ?_
  refine own_iloadN X0.here hx hby d50_9 rfl ?_
  refine own_icmpNo X0.here hx hby d50_10 (tlt (show (25 : Int32) < (52 : Int32) from (by decide))).2.1 ?_
  refine own_aloadN X0.here hx hby d50_13 rfl rfl ?_
  refine own_iload X0.here hx hby d50_14 rfl ?_
  refine own_baload X0 hx hZ e0 V_t ⟨by decide, by decide⟩ (v := (.int 105)) rfl hby d50_16 ?_
  refine own_ifYes X0.here hx hby (pc' := 25) d50_17 ((if0 _ _).trans (flt (show ¬ ((105 : Int32) < (0 : Int32)) from (by decide))).2.1) (by decide) (by decide) ?_
  refine own_iinc X0.here hx hby d50_25 rfl (v := (26 : Int32)) (by decide) (l' := #[.val (.ref t), .val (.int 0), .val (.int 52), .val (.int 52), .val (.int 26)]) rfl ?_
  refine own_goto X0.here hx hby (pc' := 7) d50_28 (by decide) (by decide) ?_
  refine own_iload X0.here hx hby d50_7 rfl ?_
  refine own_iloadN X0.here hx hby d50_9 rfl ?_
  refine own_icmpNo X0.here hx hby d50_10 (tlt (show (26 : Int32) < (52 : Int32) from (by decide))).2.1 ?_
  refine own_aloadN X0.here hx hby d50_13 rfl rfl ?_
  refine own_iload X0.here hx hby d50_14 rfl ?_
  refine own_baload X0 hx hZ e0 V_t ⟨by decide, by decide⟩ (v := (.int 110)) rfl hby d50_16 ?_
  refine own_ifYes X0.here hx hby (pc' := 25) d50_17 ((if0 _ _).trans (flt (show ¬ ((110 : Int32) < (0 : Int32)) from (by decide))).2.1) (by decide) (by decide) ?_
  refine own_iinc X0.here hx hby d50_25 rfl (v := (27 : Int32)) (by decide) (l' := #[.val (.ref t), .val (.int 0), .val (.int 52), .val (.int 52), .val (.int 27)]) rfl ?_
  refine own_goto X0.here hx hby (pc' := 7) d50_28 (by decide) (by decide) ?_
  refine own_iload X0.here hx hby d50_7 rfl ?_
  refine own_iloadN X0.here hx hby d50_9 rfl ?_
  refine own_icmpNo X0.here hx hby d50_10 (tlt (show (27 : Int32) < (52 : Int32) from (by decide))).2.1 ?_
  refine own_aloadN X0.here hx hby d50_13 rfl rfl ?_
  refine own_iload X0.here hx hby d50_14 rfl ?_
  refine own_baload X0 hx hZ e0 V_t ⟨by decide, by decide⟩ (v := (.int 103)) rfl hby d50_16 ?_
  refine own_ifYes X0.here hx hby (pc' := 25) d50_17 ((if0 _ _).trans (flt (show ¬ ((103 : Int32) < (0 : Int32)) from (by decide))).2.1) (by decide) (by decide) ?_
  refine own_iinc X0.here hx hby d50_25 rfl (v := (28 : Int32)) (by decide) (l' := #[.val (.ref t), .val (.int 0), .val (.int 52), .val (.int 52), .val (.int 28)]) rfl ?_
  refine own_goto X0.here hx hby (pc' := 7) d50_28 (by decide) (by decide) ?_
  refine own_iload X0.here hx hby d50_7 rfl ?_
  refine own_iloadN X0.here hx hby d50_9 rfl ?_
  refine own_icmpNo X0.here hx hby d50_10 (tlt (show (28 : Int32) < (52 : Int32) from (by decide))).2.1 ?_
  refine own_aloadN X0.here hx hby d50_13 rfl rfl ?_
  refine own_iload X0.here hx hby d50_14 rfl ?_
  refine own_baload X0 hx hZ e0 V_t ⟨by decide, by decide⟩ (v := (.int 61)) rfl hby d50_16 ?_
  refine own_ifYes X0.here hx hby (pc' := 25) d50_17 ((if0 _ _).trans (flt (show ¬ ((61 : Int32) < (0 : Int32)) from (by decide))).2.1) (by decide) (by decide) ?_
  refine own_iinc X0.here hx hby d50_25 rfl (v := (29 : Int32)) (by decide) (l' := #[.val (.ref t), .val (.int 0), .val (.int 52), .val (.int 52), .val (.int 29)]) rfl ?_
  refine own_goto X0.here hx hby (pc' := 7) d50_28 (by decide) (by decide) ?_
  refine own_iload X0.here hx hby d50_7 rfl ?_
  refine own_iloadN X0.here hx hby d50_9 rfl ?_
  refine own_icmpNo X0.here hx hby d50_10 (tlt (show (29 : Int32) < (52 : Int32) from (by decide))).2.1 ?_
  refine own_aloadN X0.here hx hby d50_13 rfl rfl ?_
  refine own_iload X0.here hx hby d50_14 rfl ?_
  refine own_baload X0 hx hZ e0 V_t ⟨by decide, by decide⟩ (v := (.int 34)) rfl hby d50_16 ?_
  refine own_ifYes X0.here hx hby (pc' := 25) d50_17 ((if0 _ _).trans (flt (show ¬ ((34 : Int32) < (0 : Int32)) from (by decide))).2.1) (by decide) (by decide) ?_
  refine own_iinc X0.here hx hby d50_25 rfl (v := (30 : Int32)) (by decide) (l' := #[.val (.ref t), .val (.int 0), .val (.int 52), .val (.int 52), .val (.int 30)]) rfl ?_
  refine own_goto X0.here hx hby (pc' := 7) d50_28 (by decide) (by decide) ?_
  refine own_iload X0.here hx hby d50_7 rfl ?_
  refine own_iloadN X0.here hx hby d50_9 rfl ?_
  refine own_icmpNo X0.here hx hby d50_10 (tlt (show (30 : Int32) < (52 : Int32) from (by decide))).2.1 ?_
  refine own_aloadN X0.here hx hby d50_13 rfl rfl ?_
  refine own_iload X0.here hx hby d50_14 rfl ?_
  refine own_baload X0 hx hZ e0 V_t ⟨by decide, by decide⟩ (v := (.int 85)) rfl hby d50_16 ?_
  refine own_ifYes X0.here hx hby (pc' := 25) d50_17 ((if0 _ _).trans (flt (show ¬ ((85 : Int32) < (0 : Int32)) from (by decide))).2.1) (by decide) (by decide) ?_
  refine own_iinc X0.here hx hby d50_25 rfl (v := (31 : Int32)) (by decide) (l' := #[.val (.ref t), .val (.int 0), .val (.int 52), .val (.int 52), .val (.int 31)]) rfl ?_
  refine own_goto X0.here hx hby (pc' := 7) d50_28 (by decide) (by decide) ?_
  refine own_iload X0.here hx hby d50_7 rfl ?_
  refine own_iloadN X0.here hx hby d50_9 rfl ?_
  refine own_icmpNo X0.here hx hby d50_10 (tlt (show (31 : Int32) < (52 : Int32) from (by decide))).2.1 ?_
  refine own_aloadN X0.here hx hby d50_13 rfl rfl ?_
  refine own_iload X0.here hx hby d50_14 rfl ?_
  refine own_baload X0 hx hZ e0 V_t ⟨by decide, by decide⟩ (v := (.int 84)) rfl hby d50_16 ?_
  refine own_ifYes X0.here hx hby (pc' := 25) d50_17 ((if0 _ _).trans (flt (show ¬ ((84 : Int32) < (0 : Int32)) from (by decide))).2.1) (by decide) (by decide) ?_
  refine own_iinc X0.here hx hby d50_25 rfl (v := (32 : Int32)) (by decide) (l' := #[.val (.ref t), .val (.int 0), .val (.int 52), .val (.int 52), .val (.int 32)]) rfl ?_
  refine own_goto X0.here hx hby (pc' := 7) d50_28 (by decide) (by decide) ?_
  refine own_iload X0.here hx hby d50_7 rfl ?_
  refine own_iloadN X0.here hx hby d50_9 rfl ?_
  refine own_icmpNo X0.here hx hby d50_10 (tlt (show (32 : Int32) < (52 : Int32) from (by decide))).2.1 ?_
  refine own_aloadN X0.here hx hby d50_13 rfl rfl ?_
  refine own_iload X0.here hx hby d50_14 rfl ?_
  refine own_baload X0 hx hZ e0 V_t ⟨by decide, by decide⟩ (v := (.int 70)) rfl hby d50_16 ?_
  refine own_ifYes X0.here hx hby (pc' := 25) d50_17 ((if0 _ _).trans (flt (show ¬ ((70 : Int32) < (0 : Int32)) from (by decide))).2.1) (by decide) (by decide) ?_
  refine own_iinc X0.here hx hby d50_25 rfl (v := (33 : Int32)) (by decide) (l' := #[.val (.ref t), .val (.int 0), .val (.int 52), .val (.int 52), .val (.int 33)]) rfl ?_
  refine own_goto X0.here hx hby (pc' := 7) d50_28 (by decide) (by decide) ?_
  refine own_iload X0.here hx hby d50_7 rfl ?_
  refine own_iloadN X0.here hx hby d50_9 rfl ?_
  refine own_icmpNo X0.here hx hby d50_10 (tlt (show (33 : Int32) < (52 : Int32) from (by decide))).2.1 ?_
  refine own_aloadN X0.here hx hby d50_13 rfl rfl ?_
  refine own_iload X0.here hx hby d50_14 rfl ?_
  refine own_baload X0 hx hZ e0 V_t ⟨by decide, by decide⟩ (v := (.int 45)) rfl hby d50_16 ?_
  refine own_ifYes X0.here hx hby (pc' := 25) d50_17 ((if0 _ _).trans (flt (show ¬ ((45 : Int32) < (0 : Int32)) from (by decide))).2.1) (by decide) (by decide) ?_
  refine own_iinc X0.here hx hby d50_25 rfl (v := (34 : Int32)) (by decide) (l' := #[.val (.ref t), .val (.int 0), .val (.int 52), .val (.int 52), .val (.int 34)]) rfl ?_
  refine own_goto X0.here hx hby (pc' := 7) d50_28 (by decide) (by decide) ?_
  refine own_iload X0.here hx hby d50_7 rfl ?_
  refine own_iloadN X0.here hx hby d50_9 rfl ?_
  refine own_icmpNo X0.here hx hby d50_10 (tlt (show (34 : Int32) < (52 : Int32) from (by decide))).2.1 ?_
  refine own_aloadN X0.here hx hby d50_13 rfl rfl ?_
  refine own_iload X0.here hx hby d50_14 rfl ?_
  refine own_baload X0 hx hZ e0 V_t ⟨by decide, by decide⟩ (v := (.int 56)) rfl hby d50_16 ?_
  refine own_ifYes X0.here hx hby (pc' := 25) d50_17 ((if0 _ _).trans (flt (show ¬ ((56 : Int32) < (0 : Int32)) from (by decide))).2.1) (by decide) (by decide) ?_
  refine own_iinc X0.here hx hby d50_25 rfl (v := (35 : Int32)) (by decide) (l' := #[.val (.ref t), .val (.int 0), .val (.int 52), .val (.int 52), .val (.int 35)]) rfl ?_
  refine own_goto X0.here hx hby (pc' := 7) d50_28 (by decide) (by decide) ?_
  refine own_iload X0.here hx hby d50_7 rfl ?_
  refine own_iloadN X0.here hx hby d50_9 rfl ?_
  refine own_icmpNo X0.here hx hby d50_10 (tlt (show (35 : Int32) < (52 : Int32) from (by decide))).2.1 ?_
  refine own_aloadN X0.here hx hby d50_13 rfl rfl ?_
  refine own_iload X0.here hx hby d50_14 rfl ?_
  refine own_baload X0 hx hZ e0 V_t ⟨by decide, by decide⟩ (v := (.int 34)) rfl hby d50_16 ?_
  refine own_ifYes X0.here hx hby (pc' := 25) d50_17 ((if0 _ _).trans (flt (show ¬ ((34 : Int32) < (0 : Int32)) from (by decide))).2.1) (by decide) (by decide) ?_
  refine own_iinc X0.here hx hby d50_25 rfl (v := (36 : Int32)) (by decide) (l' := #[.val (.ref t), .val (.int 0), .val (.int 52), .val (.int 52), .val (.int 36)]) rfl ?_
  refine own_goto X0.here hx hby (pc' := 7) d50_28 (by decide) (by decide) ?_
  refine own_iload X0.here hx hby d50_7 rfl ?_
  refine own_iloadN X0.here hx hby d50_9 rfl ?_
  refine own_icmpNo X0.here hx hby d50_10 (tlt (show (36 : Int32) < (52 : Int32) from (by decide))).2.1 ?_
  refine own_aloadN X0.here hx hby d50_13 rfl rfl ?_
  refine own_iload X0.here hx hby d50_14 rfl ?_
  refine own_baload X0 hx hZ e0 V_t ⟨by decide, by decide⟩ (v := (.int 63)) rfl hby d50_16 ?_
  refine own_ifYes X0.here hx hby (pc' := 25) d50_17 ((if0 _ _).trans (flt (show ¬ ((63 : Int32) < (0 : Int32)) from (by decide))).2.1) (by decide) (by decide) ?_
  refine own_iinc X0.here hx hby d50_25 rfl (v := (37 : Int32)) (by decide) (l' := #[.val (.ref t), .val (.int 0), .val (.int 52), .val (.int 52), .val (.int 37)]) rfl ?_
  refine own_goto X0.here hx hby (pc' := 7) d50_28 (by decide) (by decide) ?_
  refine own_iload X0.here hx hby d50_7 rfl ?_
  refine own_iloadN X0.here hx hby d50_9 rfl ?_
  refine own_icmpNo X0.here hx hby d50_10 (tlt (show (37 : Int32) < (52 : Int32) from (by decide))).2.1 ?_
  refine own_aloadN X0.here hx hby d50_13 rfl rfl ?_
  refine own_iload X0.here hx hby d50_14 rfl ?_
  refine own_baload X0 hx hZ e0 V_t ⟨by decide, by decide⟩ (v := (.int 62)) rfl hby d50_16 ?_
  refine own_ifYes X0.here hx hby (pc' := 25) d50_17 ((if0 _ _).trans (flt (show ¬ ((62 : Int32) < (0 : Int32)) from (by decide))).2.1) (by decide) (by decide) ?_
  refine own_iinc X0.here hx hby d50_25 rfl (v := (38 : Int32)) (by decide) (l' := #[.val (.ref t), .val (.int 0), .val (.int 52), .val (.int 52), .val (.int 38)]) rfl ?_
  refine own_goto X0.here hx hby (pc' := 7) d50_28 (by decide) (by decide) ?_
  refine own_iload X0.here hx hby d50_7 rfl ?_
  refine own_iloadN X0.here hx hby d50_9 rfl ?_
  refine own_icmpNo X0.here hx hby d50_10 (tlt (show (38 : Int32) < (52 : Int32) from (by decide))).2.1 ?_
  refine own_aloadN X0.here hx hby d50_13 rfl rfl ?_
  refine own_iload X0.here hx hby d50_14 rfl ?_
  refine own_baload X0 hx hZ e0 V_t ⟨by decide, by decide⟩ (v := (.int 60)) rfl hby d50_16 ?_
  refine own_ifYes X0.here hx hby (pc' := 25) d50_17 ((if0 _ _).trans (flt (show ¬ ((60 : Int32) < (0 : Int32)) from (by decide))).2.1) (by decide) (by decide) ?_
  refine own_iinc X0.here hx hby d50_25 rfl (v := (39 : Int32)) (by decide) (l' := #[.val (.ref t), .val (.int 0), .val (.int 52), .val (.int 52), .val (.int 39)]) rfl ?_
  refine own_goto X0.here hx hby (pc' := 7) d50_28 (by decide) (by decide) ?_
  refine own_iload X0.here hx hby d50_7 rfl ?_
  refine own_iloadN X0.here hx hby d50_9 rfl ?_
  refine own_icmpNo X0.here hx hby d50_10 (tlt (show (39 : Int32) < (52 : Int32) from (by decide))).2.1 ?_
  refine own_aloadN X0.here hx hby d50_13 rfl rfl ?_
  refine own_iload X0.here hx hby d50_14 rfl ?_
  refine own_baload X0 hx hZ e0 V_t ⟨by decide, by decide⟩ (v := (.int ca)) rfl hby d50_16 ?_
  refine own_ifYes X0.here hx hby (pc' := 25) d50_17 ((if0 _ _).trans (flt hca).2.1) (by decide) (by decide) ?_
  refine own_iinc X0.here hx hby d50_25 rfl (v := (40 : Int32)) (by decide) (l' := #[.val (.ref t), .val (.int 0), .val (.int 52), .val (.int 52), .val (.int 40)]) rfl ?_
  refine own_goto X0.here hx hby (pc' := 7) d50_28 (by decide) (by decide) ?_
  refine own_iload X0.here hx hby d50_7 rfl ?_
  refine own_iloadN X0.here hx hby d50_9 rfl ?_
  refine own_icmpNo X0.here hx hby d50_10 (tlt (show (40 : Int32) < (52 : Int32) from (by decide))).2.1 ?_
  refine own_aloadN X0.here hx hby d50_13 rfl rfl ?_
  refine own_iload X0.here hx hby d50_14 rfl ?_
  refine own_baload X0 hx hZ e0 V_t ⟨by decide, by decide⟩ (v := (.int 62)) rfl hby d50_16 ?_
  refine own_ifYes X0.here hx hby (pc' := 25) d50_17 ((if0 _ _).trans (flt (show ¬ ((62 : Int32) < (0 : Int32)) from (by decide))).2.1) (by decide) (by decide) ?_
  refine own_iinc X0.here hx hby d50_25 rfl (v := (41 : Int32)) (by decide) (l' := #[.val (.ref t), .val (.int 0), .val (.int 52), .val (.int 52), .val (.int 41)]) rfl ?_
  refine own_goto X0.here hx hby (pc' := 7) d50_28 (by decide) (by decide) ?_
  refine own_iload X0.here hx hby d50_7 rfl ?_
  refine own_iloadN X0.here hx hby d50_9 rfl ?_
  refine own_icmpNo X0.here hx hby d50_10 (tlt (show (41 : Int32) < (52 : Int32) from (by decide))).2.1 ?_
  refine own_aloadN X0.here hx hby d50_13 rfl rfl ?_
  refine own_iload X0.here hx hby d50_14 rfl ?_
  refine own_baload X0 hx hZ e0 V_t ⟨by decide, by decide⟩ (v := (.int 60)) rfl hby d50_16 ?_
  refine own_ifYes X0.here hx hby (pc' := 25) d50_17 ((if0 _ _).trans (flt (show ¬ ((60 : Int32) < (0 : Int32)) from (by decide))).2.1) (by decide) (by decide) ?_
  refine own_iinc X0.here hx hby d50_25 rfl (v := (42 : Int32)) (by decide) (l' := #[.val (.ref t), .val (.int 0), .val (.int 52), .val (.int 52), .val (.int 42)]) rfl ?_
  refine own_goto X0.here hx hby (pc' := 7) d50_28 (by decide) (by decide) ?_
  refine own_iload X0.here hx hby d50_7 rfl ?_
  refine own_iloadN X0.here hx hby d50_9 rfl ?_
  refine own_icmpNo X0.here hx hby d50_10 (tlt (show (42 : Int32) < (52 : Int32) from (by decide))).2.1 ?_
  refine own_aloadN X0.here hx hby d50_13 rfl rfl ?_
  refine own_iload X0.here hx hby d50_14 rfl ?_
  refine own_baload X0 hx hZ e0 V_t ⟨by decide, by decide⟩ (v := (.int cb)) rfl hby d50_16 ?_
  refine own_ifYes X0.here hx hby (pc' := 25) d50_17 ((if0 _ _).trans (flt hcb).2.1) (by decide) (by decide) ?_
  refine own_iinc X0.here hx hby d50_25 rfl (v := (43 : Int32)) (by decide) (l' := #[.val (.ref t), .val (.int 0), .val (.int 52), .val (.int 52), .val (.int 43)]) rfl ?_
  refine own_goto X0.here hx hby (pc' := 7) d50_28 (by decide) (by decide) ?_
  refine own_iload X0.here hx hby d50_7 rfl ?_
  refine own_iloadN X0.here hx hby d50_9 rfl ?_
  refine own_icmpNo X0.here hx hby d50_10 (tlt (show (43 : Int32) < (52 : Int32) from (by decide))).2.1 ?_
  refine own_aloadN X0.here hx hby d50_13 rfl rfl ?_
  refine own_iload X0.here hx hby d50_14 rfl ?_
  refine own_baload X0 hx hZ e0 V_t ⟨by decide, by decide⟩ (v := (.int 62)) rfl hby d50_16 ?_
  refine own_ifYes X0.here hx hby (pc' := 25) d50_17 ((if0 _ _).trans (flt (show ¬ ((62 : Int32) < (0 : Int32)) from (by decide))).2.1) (by decide) (by decide) ?_
  refine own_iinc X0.here hx hby d50_25 rfl (v := (44 : Int32)) (by decide) (l' := #[.val (.ref t), .val (.int 0), .val (.int 52), .val (.int 52), .val (.int 44)]) rfl ?_
  refine own_goto X0.here hx hby (pc' := 7) d50_28 (by decide) (by decide) ?_
  refine own_iload X0.here hx hby d50_7 rfl ?_
  refine own_iloadN X0.here hx hby d50_9 rfl ?_
  refine own_icmpNo X0.here hx hby d50_10 (tlt (show (44 : Int32) < (52 : Int32) from (by decide))).2.1 ?_
  refine own_aloadN X0.here hx hby d50_13 rfl rfl ?_
  refine own_iload X0.here hx hby d50_14 rfl ?_
  refine own_baload X0 hx hZ e0 V_t ⟨by decide, by decide⟩ (v := (.int 60)) rfl hby d50_16 ?_
  refine own_ifYes X0.here hx hby (pc' := 25) d50_17 ((if0 _ _).trans (flt (show ¬ ((60 : Int32) < (0 : Int32)) from (by decide))).2.1) (by decide) (by decide) ?_
  refine own_iinc X0.here hx hby d50_25 rfl (v := (45 : Int32)) (by decide) (l' := #[.val (.ref t), .val (.int 0), .val (.int 52), .val (.int 52), .val (.int 45)]) rfl ?_
  refine own_goto X0.here hx hby (pc' := 7) d50_28 (by decide) (by decide) ?_
  refine own_iload X0.here hx hby d50_7 rfl ?_
  refine own_iloadN X0.here hx hby d50_9 rfl ?_
  refine own_icmpNo X0.here hx hby d50_10 (tlt (show (45 : Int32) < (52 : Int32) from (by decide))).2.1 ?_
  refine own_aloadN X0.here hx hby d50_13 rfl rfl ?_
  refine own_iload X0.here hx hby d50_14 rfl ?_
  refine own_baload X0 hx hZ e0 V_t ⟨by decide, by decide⟩ (v := (.int 47)) rfl hby d50_16 ?_
  refine own_ifYes X0.here hx hby (pc' := 25) d50_17 ((if0 _ _).trans (flt (show ¬ ((47 : Int32) < (0 : Int32)) from (by decide))).2.1) (by decide) (by decide) ?_
  refine own_iinc X0.here hx hby d50_25 rfl (v := (46 : Int32)) (by decide) (l' := #[.val (.ref t), .val (.int 0), .val (.int 52), .val (.int 52), .val (.int 46)]) rfl ?_
  refine own_goto X0.here hx hby (pc' := 7) d50_28 (by decide) (by decide) ?_
  refine own_iload X0.here hx hby d50_7 rfl ?_
  refine own_iloadN X0.here hx hby d50_9 rfl ?_
  refine own_icmpNo X0.here hx hby d50_10 (tlt (show (46 : Int32) < (52 : Int32) from (by decide))).2.1 ?_
  refine own_aloadN X0.here hx hby d50_13 rfl rfl ?_
  refine own_iload X0.here hx hby d50_14 rfl ?_
  refine own_baload X0 hx hZ e0 V_t ⟨by decide, by decide⟩ (v := (.int cb)) rfl hby d50_16 ?_
  refine own_ifYes X0.here hx hby (pc' := 25) d50_17 ((if0 _ _).trans (flt hcb).2.1) (by decide) (by decide) ?_
  refine own_iinc X0.here hx hby d50_25 rfl (v := (47 : Int32)) (by decide) (l' := #[.val (.ref t), .val (.int 0), .val (.int 52), .val (.int 52), .val (.int 47)]) rfl ?_
  refine own_goto X0.here hx hby (pc' := 7) d50_28 (by decide) (by decide) ?_
  refine own_iload X0.here hx hby d50_7 rfl ?_
  refine own_iloadN X0.here hx hby d50_9 rfl ?_
  refine own_icmpNo X0.here hx hby d50_10 (tlt (show (47 : Int32) < (52 : Int32) from (by decide))).2.1 ?_
  refine own_aloadN X0.here hx hby d50_13 rfl rfl ?_
  refine own_iload X0.here hx hby d50_14 rfl ?_
  refine own_baload X0 hx hZ e0 V_t ⟨by decide, by decide⟩ (v := (.int 62)) rfl hby d50_16 ?_
  refine own_ifYes X0.here hx hby (pc' := 25) d50_17 ((if0 _ _).trans (flt (show ¬ ((62 : Int32) < (0 : Int32)) from (by decide))).2.1) (by decide) (by decide) ?_
  refine own_iinc X0.here hx hby d50_25 rfl (v := (48 : Int32)) (by decide) (l' := #[.val (.ref t), .val (.int 0), .val (.int 52), .val (.int 52), .val (.int 48)]) rfl ?_
  refine own_goto X0.here hx hby (pc' := 7) d50_28 (by decide) (by decide) ?_
  refine own_iload X0.here hx hby d50_7 rfl ?_
  refine own_iloadN X0.here hx hby d50_9 rfl ?_
  refine own_icmpNo X0.here hx hby d50_10 (tlt (show (48 : Int32) < (52 : Int32) from (by decide))).2.1 ?_
  refine own_aloadN X0.here hx hby d50_13 rfl rfl ?_
  refine own_iload X0.here hx hby d50_14 rfl ?_
  refine own_baload X0 hx hZ e0 V_t ⟨by decide, by decide⟩ (v := (.int 60)) rfl hby d50_16 ?_
  refine own_ifYes X0.here hx hby (pc' := 25) d50_17 ((if0 _ _).trans (flt (show ¬ ((60 : Int32) < (0 : Int32)) from (by decide))).2.1) (by decide) (by decide) ?_
  refine own_iinc X0.here hx hby d50_25 rfl (v := (49 : Int32)) (by decide) (l' := #[.val (.ref t), .val (.int 0), .val (.int 52), .val (.int 52), .val (.int 49)]) rfl ?_
  refine own_goto X0.here hx hby (pc' := 7) d50_28 (by decide) (by decide) ?_
  refine own_iload X0.here hx hby d50_7 rfl ?_
  refine own_iloadN X0.here hx hby d50_9 rfl ?_
  refine own_icmpNo X0.here hx hby d50_10 (tlt (show (49 : Int32) < (52 : Int32) from (by decide))).2.1 ?_
  refine own_aloadN X0.here hx hby d50_13 rfl rfl ?_
  refine own_iload X0.here hx hby d50_14 rfl ?_
  refine own_baload X0 hx hZ e0 V_t ⟨by decide, by decide⟩ (v := (.int 47)) rfl hby d50_16 ?_
  refine own_ifYes X0.here hx hby (pc' := 25) d50_17 ((if0 _ _).trans (flt (show ¬ ((47 : Int32) < (0 : Int32)) from (by decide))).2.1) (by decide) (by decide) ?_
  refine own_iinc X0.here hx hby d50_25 rfl (v := (50 : Int32)) (by decide) (l' := #[.val (.ref t), .val (.int 0), .val (.int 52), .val (.int 52), .val (.int 50)]) rfl ?_
  refine own_goto X0.here hx hby (pc' := 7) d50_28 (by decide) (by decide) ?_
  refine own_iload X0.here hx hby d50_7 rfl ?_
  refine own_iloadN X0.here hx hby d50_9 rfl ?_
  refine own_icmpNo X0.here hx hby d50_10 (tlt (show (50 : Int32) < (52 : Int32) from (by decide))).2.1 ?_
  refine own_aloadN X0.here hx hby d50_13 rfl rfl ?_
  refine own_iload X0.here hx hby d50_14 rfl ?_
  refine own_baload X0 hx hZ e0 V_t ⟨by decide, by decide⟩ (v := (.int ca)) rfl hby d50_16 ?_
  refine own_ifYes X0.here hx hby (pc' := 25) d50_17 ((if0 _ _).trans (flt hca).2.1) (by decide) (by decide) ?_
  refine own_iinc X0.here hx hby d50_25 rfl (v := (51 : Int32)) (by decide) (l' := #[.val (.ref t), .val (.int 0), .val (.int 52), .val (.int 52), .val (.int 51)]) rfl ?_
  refine own_goto X0.here hx hby (pc' := 7) d50_28 (by decide) (by decide) ?_
  refine own_iload X0.here hx hby d50_7 rfl ?_
  refine own_iloadN X0.here hx hby d50_9 rfl ?_
  refine own_icmpNo X0.here hx hby d50_10 (tlt (show (51 : Int32) < (52 : Int32) from (by decide))).2.1 ?_
  refine own_aloadN X0.here hx hby d50_13 rfl rfl ?_
  refine own_iload X0.here hx hby d50_14 rfl ?_
  refine own_baload X0 hx hZ e0 V_t ⟨by decide, by decide⟩ (v := (.int 62)) rfl hby d50_16 ?_
  refine own_ifYes X0.here hx hby (pc' := 25) d50_17 ((if0 _ _).trans (flt (show ¬ ((62 : Int32) < (0 : Int32)) from (by decide))).2.1) (by decide) (by decide) ?_
  refine own_iinc X0.here hx hby d50_25 rfl (v := (52 : Int32)) (by decide) (l' := #[.val (.ref t), .val (.int 0), .val (.int 52), .val (.int 52), .val (.int 52)]) rfl ?_
  refine own_goto X0.here hx hby (pc' := 7) d50_28 (by decide) (by decide) ?_
  refine own_iload X0.here hx hby d50_7 rfl ?_
  refine own_iloadN X0.here hx hby d50_9 rfl ?_
  refine own_icmpYes X0.here hx hby (pc' := 31) d50_10 (flt (show ¬ ((52 : Int32) < (52 : Int32)) from (by decide))).2.1 (by decide) (by decide) ?_
  refine own_iloadN X0.here hx hby d50_31 rfl ?_
  obtain ⟨fs, hr, hrun, hended, hW, hsame⟩ := X0.leave (v := some (.int 52)) (fun h => by rw [Bd.returns] at h; cases h) Bd.notSynchronized
  refine own_ret (t := s₁.setFrames fs) ?_ ⟨_, hrun, hended, _, _, rfl, ?_, ⟨_, rfl⟩, hW, hsame.mono (by decide) (by decide)⟩
  · exact retOut X0 hx Bd.returns rfl (Or.inl ⟨rfl, Or.inl rfl, _, rfl⟩) (hb hby d50_32) hr
  · show Q_cntP_1 Z _ _ _ _ h0 n0 _ s₁.heap _
    rw [e0]
    exact ⟨rfl, N0, rfl⟩
def Q_hasN_1 (Z : State) (t : Nat) (kt : ClassId) (ca : Int32) (cb : Int32) (h0 : Heap) (n0 : Nat) (vR : Option Value) (hR : Heap) (LR : List Loc) : Prop := vR = some (.int 0) ∧ Fr n0 LR ∧ hR = h0
set_option maxRecDepth 65536 in
set_option maxHeartbeats 40000000 in
theorem hasN_1 (l : Launch) (Z : State) (a0 : Array Value) (hw : ∀ d ∈ tables_1, d.before a0 Z = true) (ws : List Jvm.Cond) (t : Nat) (kt : ClassId) (ca : Int32) (cb : Int32) (h0 : Heap) (n0 : Nat) (Z0 : n0 ≤ h0.size) (V_t : Arv Z h0 t kt .byte (52 : Int32) [(.int 60), (.int 63), (.int 120), (.int 109), (.int 108), (.int 32), (.int 118), (.int 101), (.int 114), (.int 115), (.int 105), (.int 111), (.int 110), (.int 61), (.int 34), (.int 49), (.int 46), (.int 48), (.int 34), (.int 32), (.int 101), (.int 110), (.int 99), (.int 111), (.int 100), (.int 105), (.int 110), (.int 103), (.int 61), (.int 34), (.int 85), (.int 84), (.int 70), (.int 45), (.int 56), (.int 34), (.int 63), (.int 62), (.int 60), (.int ca), (.int 62), (.int 60), (.int cb), (.int 62), (.int 60), (.int 47), (.int cb), (.int 62), (.int 60), (.int 47), (.int ca), (.int 62)] (.int 0)) (hca : ¬ (ca < (0 : Int32))) (hcb : ¬ (cb < (0 : Int32))) :
    own_M l (⟨"java/lang/StringCoding", "hasNegatives", "([BII)Z"⟩ : MethodName) jdk_123_method_2_code 3 (some .boolean) ws ({ frames := 1, cells := 0, slots := 0, locals := 16 } : Room) Z #[(.ref t), (.int 0), (.int 52)] h0 (Q_hasN_1 Z t kt ca cb h0 n0) := by
  refine own_body (own := "java/lang/StringCoding") rfl (plainFor_of_name pn_49) (fun m => ef_hasN_0 m t (0 : Int32) (52 : Int32)) ?_
  intro p e s m below meth c s₁ Bd hml hZ hh hx hby hown X0 e0
  have N0 := Fr.nil n0
  have lt1 : h0.size > t := V_t.lt
  refine own_aloadN X0.here hx hby d49_0 rfl rfl ?_
  refine own_iloadN X0.here hx hby d49_1 rfl ?_
  refine own_iloadN X0.here hx hby d49_2 rfl ?_
  refine own_callS X0 hx hZ hown (own_w hw 277 rfl) (own_w hw 278 rfl) (own_w hw 275 rfl) (own_w hw 279 rfl) (by decide) (cntP_1 l Z a0 hw [] t kt ca cb h0 n0 Z0 V_t hca hcb) 0 (Nat.le_of_eq rfl) (by decide) (by decide) (by rw [hml]; rfl) (argsL := [(.ref t), (.int 0), (.int 52)]) (st := []) (lenOf pd_24 rfl) rfl rfl (by decide) (by decide) e0 hby d49_3 ?_
  intro T2 v2 L2 X2 hQ2
  obtain ⟨rfl, Nq2, eh2⟩ := hQ2
  have N2 := Fr.app N0 Nq2
  refine own_sh (T := T2) 6 #[.val (.ref t), .val (.int 0), .val (.int 52)] [(.int 52)] ?_
  refine own_iloadN X2.here hx hby d49_6 rfl ?_
  refine own_icmpYes X2.here hx hby (pc' := 14) d49_7 (teq (show (52 : Int32) = (52 : Int32) from (by decide))).1 (by decide) (by decide) ?_
  refine own_iconst X2.here hx hby d49_14 (v := (0 : Int32)) (by decide) ?_
  obtain ⟨fs, hr, hrun, hended, hW, hsame⟩ := X2.leave (v := some (.int 0)) (fun h => by rw [Bd.returns] at h; cases h) Bd.notSynchronized
  refine own_ret (t := T2.setFrames fs) ?_ ⟨_, hrun, hended, _, _, rfl, ?_, ⟨_, rfl⟩, hW, hsame.mono (by decide) (by decide)⟩
  · exact retN X2 hx (t := .boolean) Bd.returns (by simp) (hb hby d49_15) hr
  · show Q_hasN_1 Z _ _ _ _ h0 n0 _ T2.heap _
    rw [eh2]
    exact ⟨rfl, N2, rfl⟩
def Q_enc8_1 (Z : State) (t : Nat) (kt : ClassId) (ca : Int32) (cb : Int32) (h0 : Heap) (n0 : Nat) (vR : Option Value) (hR : Heap) (LR : List Loc) : Prop := ∃ (r : Nat) (kr : ClassId), vR = some (.ref r) ∧ Fr n0 LR ∧ Keep h0 hR [] ∧ h0.size ≤ r ∧ (Arv Z hR r kr .byte (52 : Int32) [(.int 60), (.int 63), (.int 120), (.int 109), (.int 108), (.int 32), (.int 118), (.int 101), (.int 114), (.int 115), (.int 105), (.int 111), (.int 110), (.int 61), (.int 34), (.int 49), (.int 46), (.int 48), (.int 34), (.int 32), (.int 101), (.int 110), (.int 99), (.int 111), (.int 100), (.int 105), (.int 110), (.int 103), (.int 61), (.int 34), (.int 85), (.int 84), (.int 70), (.int 45), (.int 56), (.int 34), (.int 63), (.int 62), (.int 60), (.int ca), (.int 62), (.int 60), (.int cb), (.int 62), (.int 60), (.int 47), (.int cb), (.int 62), (.int 60), (.int 47), (.int ca), (.int 62)] (.int 0))
set_option maxRecDepth 65536 in
set_option maxHeartbeats 40000000 in
theorem enc8_1 (l : Launch) (Z : State) (a0 : Array Value) (hw : ∀ d ∈ tables_1, d.before a0 Z = true) (ws : List Jvm.Cond) (t : Nat) (kt : ClassId) (ca : Int32) (cb : Int32) (h0 : Heap) (n0 : Nat) (Z0 : n0 ≤ h0.size) (E_t : Exa Z h0 t "[B") (V_t : Arv Z h0 t kt .byte (52 : Int32) [(.int 60), (.int 63), (.int 120), (.int 109), (.int 108), (.int 32), (.int 118), (.int 101), (.int 114), (.int 115), (.int 105), (.int 111), (.int 110), (.int 61), (.int 34), (.int 49), (.int 46), (.int 48), (.int 34), (.int 32), (.int 101), (.int 110), (.int 99), (.int 111), (.int 100), (.int 105), (.int 110), (.int 103), (.int 61), (.int 34), (.int 85), (.int 84), (.int 70), (.int 45), (.int 56), (.int 34), (.int 63), (.int 62), (.int 60), (.int ca), (.int 62), (.int 60), (.int cb), (.int 62), (.int 60), (.int 47), (.int cb), (.int 62), (.int 60), (.int 47), (.int ca), (.int 62)] (.int 0)) (hca : ¬ (ca < (0 : Int32))) (hcb : ¬ (cb < (0 : Int32))) :
    own_M l (⟨"java/lang/String", "encodeUTF8", "(B[BZ)[B"⟩ : MethodName) jdk_42_method_46_code 9 (some (.array .byte)) ws ({ frames := 2, cells := 1, slots := 52, locals := 30 } : Room) Z #[(.int 0), (.ref t), (.int 1)] h0 (Q_enc8_1 Z t kt ca cb h0 n0) := by
  refine own_body (own := "java/lang/String") rfl (plainFor_of_name pn_48) (fun m => ef_enc8_0 m (0 : Int32) t (1 : Int32)) ?_
  intro p e s m below meth c s₁ Bd hml hZ hh hx hby hown X0 e0
  have N0 := Fr.nil n0
  have lt1 : h0.size > t := E_t.lt
  refine own_iloadN X0.here hx hby d48_0 rfl ?_
  refine own_iconst X0.here hx hby d48_1 (v := (1 : Int32)) (by decide) ?_
  refine own_icmpYes X0.here hx hby (pc' := 11) d48_2 (feq (show ¬ ((0 : Int32) = (1 : Int32)) from (by decide))).2 (by decide) (by decide) ?_
  refine own_aloadN X0.here hx hby d48_11 rfl rfl ?_
  refine own_iconst X0.here hx hby d48_12 (v := (0 : Int32)) (by decide) ?_
  refine own_aloadN X0.here hx hby d48_13 rfl rfl ?_
  refine own_alen X0 hx hZ e0 V_t hby d48_14 ?_
  refine own_callS X0 hx hZ hown (own_w hw 273 rfl) (own_w hw 274 rfl) (own_w hw 275 rfl) (own_w hw 276 rfl) (by decide) (hasN_1 l Z a0 hw [] t kt ca cb h0 n0 Z0 V_t hca hcb) 0 (Nat.le_of_eq rfl) (by decide) (by decide) (by rw [hml]; rfl) (argsL := [(.ref t), (.int 0), (.int 52)]) (st := []) (lenOf pd_25 rfl) rfl rfl (by decide) (by decide) e0 hby d48_15 ?_
  intro T2 v2 L2 X2 hQ2
  obtain ⟨rfl, Nq2, eh2⟩ := hQ2
  have N2 := Fr.app N0 Nq2
  refine own_sh (T := T2) 18 #[.val (.int 0), .val (.ref t), .val (.int 1), .unset, .unset, .unset, .unset, .unset, .unset] [(.int 0)] ?_
  refine own_ifNo X2.here hx hby d48_18 ((if0 _ _).trans (teq (show (0 : Int32) = (0 : Int32) from (by decide))).2) ?_
  refine own_aloadN X2.here hx hby d48_21 rfl rfl ?_
  refine own_cloneH X2 hx hZ (ad := "[B") hown (own_w hw 280 rfl) (own_w hw 281 rfl) (own_w hw 285 rfl) (own_w hw 283 rfl) (own_w hw 284 rfl) (own_w hw 286 rfl) eh2 (Arv.arh V_t) E_t (by rw [hml]; rfl) hby d48_22 (by decide) 0 52 (Nat.le_of_eq rfl) (by decide) (by decide) (by decide) (by decide) ?_
  intro T3 h3 b3 X3 e3 E3 g3 A3 C3 lt3
  have z4 : h0.size ≤ h3.size := E3.1
  have V5 : Arv Z h3 b3 kt .byte (52 : Int32) [(.int 60), (.int 63), (.int 120), (.int 109), (.int 108), (.int 32), (.int 118), (.int 101), (.int 114), (.int 115), (.int 105), (.int 111), (.int 110), (.int 61), (.int 34), (.int 49), (.int 46), (.int 48), (.int 34), (.int 32), (.int 101), (.int 110), (.int 99), (.int 111), (.int 100), (.int 105), (.int 110), (.int 103), (.int 61), (.int 34), (.int 85), (.int 84), (.int 70), (.int 45), (.int 56), (.int 34), (.int 63), (.int 62), (.int 60), (.int ca), (.int 62), (.int 60), (.int cb), (.int 62), (.int 60), (.int 47), (.int cb), (.int 62), (.int 60), (.int 47), (.int ca), (.int 62)] (.int 0) := A3
  refine own_castY X3 hx hZ hown (own_w hw 287 rfl) e3 (Ins.self C3) hby d48_25 ?_
  intro T6 X6 e6
  have K7 : Keep h0 h3 [] := ((Keep.refl h0 []).ext E3)
  obtain ⟨fs, hr, hrun, hended, hW, hsame⟩ := X6.leave (v := some (.ref b3)) (fun h => by rw [Bd.returns] at h; cases h) Bd.notSynchronized
  refine own_ret (t := T6.setFrames fs) ?_ ⟨_, hrun, hended, _, _, rfl, ?_, ⟨_, rfl⟩, hW, hsame.mono (by decide) (by decide)⟩
  · exact retOut X6 hx Bd.returns rfl (Or.inr (Or.inr (Or.inr (Or.inr ⟨rfl, rfl, rfl⟩)))) (hb hby d48_28) hr
  · show Q_enc8_1 Z _ _ _ _ h0 n0 _ T6.heap _
    rw [e6]
    exact ⟨b3, kt, rfl, N2, K7, (by omega), V5⟩
def Q_enc_1 (Z : State) (t : Nat) (u8 : Nat) (kt : ClassId) (ca : Int32) (cb : Int32) (h0 : Heap) (n0 : Nat) (vR : Option Value) (hR : Heap) (LR : List Loc) : Prop := ∃ (r : Nat) (kr : ClassId), vR = some (.ref r) ∧ Fr n0 LR ∧ Keep h0 hR [] ∧ h0.size ≤ r ∧ (Arv Z hR r kr .byte (52 : Int32) [(.int 60), (.int 63), (.int 120), (.int 109), (.int 108), (.int 32), (.int 118), (.int 101), (.int 114), (.int 115), (.int 105), (.int 111), (.int 110), (.int 61), (.int 34), (.int 49), (.int 46), (.int 48), (.int 34), (.int 32), (.int 101), (.int 110), (.int 99), (.int 111), (.int 100), (.int 105), (.int 110), (.int 103), (.int 61), (.int 34), (.int 85), (.int 84), (.int 70), (.int 45), (.int 56), (.int 34), (.int 63), (.int 62), (.int 60), (.int ca), (.int 62), (.int 60), (.int cb), (.int 62), (.int 60), (.int 47), (.int cb), (.int 62), (.int 60), (.int 47), (.int ca), (.int 62)] (.int 0))
set_option maxRecDepth 65536 in
set_option maxHeartbeats 40000000 in
theorem enc_1 (l : Launch) (Z : State) (a0 : Array Value) (hw : ∀ d ∈ tables_1, d.before a0 Z = true) (ws : List Jvm.Cond) (t : Nat) (u8 : Nat) (kt : ClassId) (ca : Int32) (cb : Int32) (h0 : Heap) (n0 : Nat) (Z0 : n0 ≤ h0.size) (E_t : Exa Z h0 t "[B") (V_t : Arv Z h0 t kt .byte (52 : Int32) [(.int 60), (.int 63), (.int 120), (.int 109), (.int 108), (.int 32), (.int 118), (.int 101), (.int 114), (.int 115), (.int 105), (.int 111), (.int 110), (.int 61), (.int 34), (.int 49), (.int 46), (.int 48), (.int 34), (.int 32), (.int 101), (.int 110), (.int 99), (.int 111), (.int 100), (.int 105), (.int 110), (.int 103), (.int 61), (.int 34), (.int 85), (.int 84), (.int 70), (.int 45), (.int 56), (.int 34), (.int 63), (.int 62), (.int 60), (.int ca), (.int 62), (.int 60), (.int cb), (.int 62), (.int 60), (.int 47), (.int cb), (.int 62), (.int 60), (.int 47), (.int ca), (.int 62)] (.int 0)) (S_U8 : Sta Z h0 "java/nio/charset/StandardCharsets" "UTF_8" "Ljava/nio/charset/Charset;" (.ref u8)) (S_IN : Sta Z h0 "sun/nio/cs/UTF_8" "INSTANCE" "Lsun/nio/cs/UTF_8;" (.ref u8)) (hca : ¬ (ca < (0 : Int32))) (hcb : ¬ (cb < (0 : Int32))) :
    own_M l (⟨"java/lang/String", "encode", "(Ljava/nio/charset/Charset;B[B)[B"⟩ : MethodName) jdk_42_method_18_code 3 (some (.array .byte)) ws ({ frames := 3, cells := 1, slots := 52, locals := 50 } : Room) Z #[(.ref u8), (.int 0), (.ref t)] h0 (Q_enc_1 Z t u8 kt ca cb h0 n0) := by
  refine own_body (own := "java/lang/String") rfl (plainFor_of_name pn_47) (fun m => ef_enc_0 m u8 (0 : Int32) t) ?_
  intro p e s m below meth c s₁ Bd hml hZ hh hx hby hown X0 e0
  have N0 := Fr.nil n0
  have lt1 : h0.size > t := E_t.lt
  refine own_aloadN X0.here hx hby d47_0 rfl rfl ?_
  refine own_getS X0 hx hZ hown (host := "") (Or.inl (own_w hw 268 rfl)) Via.refl e0 S_IN hby d47_1 ?_
  intro T2 X2 e2
  refine own_acmp X2 hx (same := true) (pc' := 7) hby d47_4 rfl rfl (decide_eq_true rfl) (by decide) (by decide) ?_
  refine own_iloadN X2.here hx hby d47_7 rfl ?_
  refine own_aloadN X2.here hx hby d47_8 rfl rfl ?_
  refine own_iconst X2.here hx hby d47_9 (v := (1 : Int32)) (by decide) ?_
  refine own_callS X2 hx hZ hown (own_w hw 270 rfl) (own_w hw 271 rfl) (own_w hw 7 rfl) (own_w hw 272 rfl) (by decide) (enc8_1 l Z a0 hw [] t kt ca cb h0 n0 Z0 E_t V_t hca hcb) 0 (Nat.le_of_eq rfl) (by decide) (by decide) (by rw [hml]; rfl) (argsL := [(.int 0), (.ref t), (.int 1)]) (st := []) (lenOf pd_26 rfl) rfl rfl (by decide) (by decide) e2 hby d47_10 ?_
  intro T3 v3 L3 X3 hQ3
  obtain ⟨r_3, kr_3, rfl, Nq3, K3, P3_0, P3_1⟩ := hQ3
  have N3 := Fr.app N0 Nq3
  have z4 : h0.size ≤ T3.heap.size := K3.1
  have lt5 : T3.heap.size > r_3 := P3_1.lt
  refine own_sh (T := T3) 13 #[.val (.ref u8), .val (.int 0), .val (.ref t)] [(.ref r_3)] ?_
  have K6 : Keep h0 T3.heap [] := ((Keep.refl h0 []).trans K3 all0)
  obtain ⟨fs, hr, hrun, hended, hW, hsame⟩ := X3.leave (v := some (.ref r_3)) (fun h => by rw [Bd.returns] at h; cases h) Bd.notSynchronized
  refine own_ret (t := T3.setFrames fs) ?_ ⟨_, hrun, hended, _, _, rfl, ?_, ⟨_, rfl⟩, hW, hsame.mono (by decide) (by decide)⟩
  · exact retOut X3 hx Bd.returns rfl (Or.inr (Or.inr (Or.inr (Or.inr ⟨rfl, rfl, rfl⟩)))) (hb hby d47_13) hr
  · show Q_enc_1 Z _ _ _ _ _ h0 n0 _ T3.heap _
    exact ⟨r_3, kr_3, rfl, N3, K6, (by omega), P3_1⟩
def Q_getU8_1 (Z : State) (x : Nat) (t : Nat) (u8 : Nat) (kt : ClassId) (zc : Int32) (ca : Int32) (cb : Int32) (h0 : Heap) (n0 : Nat) (vR : Option Value) (hR : Heap) (LR : List Loc) : Prop := ∃ (r : Nat) (kr : ClassId), vR = some (.ref r) ∧ Fr n0 LR ∧ Keep h0 hR [] ∧ h0.size ≤ r ∧ (Arv Z hR r kr .byte (52 : Int32) [(.int 60), (.int 63), (.int 120), (.int 109), (.int 108), (.int 32), (.int 118), (.int 101), (.int 114), (.int 115), (.int 105), (.int 111), (.int 110), (.int 61), (.int 34), (.int 49), (.int 46), (.int 48), (.int 34), (.int 32), (.int 101), (.int 110), (.int 99), (.int 111), (.int 100), (.int 105), (.int 110), (.int 103), (.int 61), (.int 34), (.int 85), (.int 84), (.int 70), (.int 45), (.int 56), (.int 34), (.int 63), (.int 62), (.int 60), (.int ca), (.int 62), (.int 60), (.int cb), (.int 62), (.int 60), (.int 47), (.int cb), (.int 62), (.int 60), (.int 47), (.int ca), (.int 62)] (.int 0))
set_option maxRecDepth 65536 in
set_option maxHeartbeats 40000000 in
theorem getU8_1 (l : Launch) (Z : State) (a0 : Array Value) (hw : ∀ d ∈ tables_1, d.before a0 Z = true) (ws : List Jvm.Cond) (x : Nat) (t : Nat) (u8 : Nat) (kt : ClassId) (zc : Int32) (ca : Int32) (cb : Int32) (h0 : Heap) (n0 : Nat) (Z0 : n0 ≤ h0.size) (E_x : Exa Z h0 x "java/lang/String") (Fc_x : Fld Z h0 x "java/lang/String" "coder" "B" (.int 0)) (Fv_x : Fld Z h0 x "java/lang/String" "value" "[B" (.ref t)) (E_t : Exa Z h0 t "[B") (V_t : Arv Z h0 t kt .byte (52 : Int32) [(.int 60), (.int 63), (.int 120), (.int 109), (.int 108), (.int 32), (.int 118), (.int 101), (.int 114), (.int 115), (.int 105), (.int 111), (.int 110), (.int 61), (.int 34), (.int 49), (.int 46), (.int 48), (.int 34), (.int 32), (.int 101), (.int 110), (.int 99), (.int 111), (.int 100), (.int 105), (.int 110), (.int 103), (.int 61), (.int 34), (.int 85), (.int 84), (.int 70), (.int 45), (.int 56), (.int 34), (.int 63), (.int 62), (.int 60), (.int ca), (.int 62), (.int 60), (.int cb), (.int 62), (.int 60), (.int 47), (.int cb), (.int 62), (.int 60), (.int 47), (.int ca), (.int 62)] (.int 0)) (S_C : Sta Z h0 "java/lang/String" "COMPACT_STRINGS" "Z" (.int zc)) (hz : ¬ (zc = (0 : Int32))) (S_U8 : Sta Z h0 "java/nio/charset/StandardCharsets" "UTF_8" "Ljava/nio/charset/Charset;" (.ref u8)) (S_IN : Sta Z h0 "sun/nio/cs/UTF_8" "INSTANCE" "Lsun/nio/cs/UTF_8;" (.ref u8)) (hca : ¬ (ca < (0 : Int32))) (hcb : ¬ (cb < (0 : Int32))) :
    own_M l (⟨"java/lang/String", "getBytes", "(Ljava/nio/charset/Charset;)[B"⟩ : MethodName) jdk_42_method_64_code 2 (some (.array .byte)) ws ({ frames := 4, cells := 1, slots := 52, locals := 64 } : Room) Z #[(.ref x), (.ref u8)] h0 (Q_getU8_1 Z x t u8 kt zc ca cb h0 n0) := by
  refine own_body (own := "java/lang/String") rfl (plainFor_of_name pn_46) (fun m => ef_getU8_0 m x u8) ?_
  intro p e s m below meth c s₁ Bd hml hZ hh hx hby hown X0 e0
  have N0 := Fr.nil n0
  have lt1 : h0.size > x := E_x.lt
  have lt2 : h0.size > t := E_t.lt
  refine own_aloadN X0.here hx hby d46_0 rfl rfl ?_
  refine own_ifnonnullYes X0.here hx hby (pc' := 12) d46_1 (by decide) (by decide) ?_
  refine own_aloadN X0.here hx hby d46_12 rfl rfl ?_
  refine own_aloadN X0.here hx hby d46_13 rfl rfl ?_
  refine own_virtual X0 hx hZ hown (own_w hw 58 rfl) (own_w hw 59 rfl) (notFace_of_selects (args := #[]) (mvT hZ (own_w hw 61 rfl))) (own_w hw 61 rfl) (own_w hw 60 rfl) (own_w hw 7 rfl) (own_w hw 62 rfl) (by decide) (strCoder l Z a0 hw [] x zc h0 n0 Z0 Fc_x S_C hz) 1 (Nat.le_of_eq rfl) (by decide) (by decide) (by rw [hml]; rfl) (argsL := []) (st := [(.ref u8)]) E_x (lenOf pd_3 rfl) rfl rfl (by decide) (by decide) e0 hby d46_14 ?_
  intro T3 v3 L3 X3 hQ3
  obtain ⟨rfl, Nq3, eh3⟩ := hQ3
  have N3 := Fr.app N0 Nq3
  refine own_sh (T := T3) 17 #[.val (.ref x), .val (.ref u8)] [(.int 0), (.ref u8)] ?_
  refine own_aloadN X3.here hx hby d46_17 rfl rfl ?_
  refine own_getF X3 hx hZ hown (host := "") (Or.inl (own_w hw 57 rfl)) Via.refl eh3 Fv_x hby d46_18 ?_
  intro T4 X4 e4
  refine own_callS X4 hx hZ hown (own_w hw 265 rfl) (own_w hw 266 rfl) (own_w hw 7 rfl) (own_w hw 267 rfl) (by decide) (enc_1 l Z a0 hw [] t u8 kt ca cb h0 n0 Z0 E_t V_t S_U8 S_IN hca hcb) 0 (Nat.le_of_eq rfl) (by decide) (by decide) (by rw [hml]; rfl) (argsL := [(.ref u8), (.int 0), (.ref t)]) (st := []) (lenOf pd_27 rfl) rfl rfl (by decide) (by decide) e4 hby d46_21 ?_
  intro T5 v5 L5 X5 hQ5
  obtain ⟨r_5, kr_5, rfl, Nq5, K5, P5_0, P5_1⟩ := hQ5
  have N5 := Fr.app N3 Nq5
  have z6 : h0.size ≤ T5.heap.size := K5.1
  have lt7 : T5.heap.size > r_5 := P5_1.lt
  refine own_sh (T := T5) 24 #[.val (.ref x), .val (.ref u8)] [(.ref r_5)] ?_
  have K9 : Keep h0 T5.heap [] := ((Keep.refl h0 []).trans K5 all0)
  obtain ⟨fs, hr, hrun, hended, hW, hsame⟩ := X5.leave (v := some (.ref r_5)) (fun h => by rw [Bd.returns] at h; cases h) Bd.notSynchronized
  refine own_ret (t := T5.setFrames fs) ?_ ⟨_, hrun, hended, _, _, rfl, ?_, ⟨_, rfl⟩, hW, hsame.mono (by decide) (by decide)⟩
  · exact retOut X5 hx Bd.returns rfl (Or.inr (Or.inr (Or.inr (Or.inr ⟨rfl, rfl, rfl⟩)))) (hb hby d46_24) hr
  · show Q_getU8_1 Z _ _ _ _ _ _ _ h0 n0 _ T5.heap _
    exact ⟨r_5, kr_5, rfl, N5, K9, (by omega), P5_1⟩
def Q_toU8_1 (Z : State) (w_ : Nat) (dq : Nat) (el : Nat) (sb : Nat) (b : Nat) (u8 : Nat) (ke : ClassId) (kb : ClassId) (ca : Int32) (cb : Int32) (zc : Int32) (h0 : Heap) (n0 : Nat) (vR : Option Value) (hR : Heap) (LR : List Loc) : Prop := ∃ (r : Nat) (kr : ClassId), vR = some (.ref r) ∧ Fr n0 LR ∧ Keep h0 hR [] ∧ h0.size ≤ r ∧ (Arv Z hR r kr .byte (52 : Int32) [(.int 60), (.int 63), (.int 120), (.int 109), (.int 108), (.int 32), (.int 118), (.int 101), (.int 114), (.int 115), (.int 105), (.int 111), (.int 110), (.int 61), (.int 34), (.int 49), (.int 46), (.int 48), (.int 34), (.int 32), (.int 101), (.int 110), (.int 99), (.int 111), (.int 100), (.int 105), (.int 110), (.int 103), (.int 61), (.int 34), (.int 85), (.int 84), (.int 70), (.int 45), (.int 56), (.int 34), (.int 63), (.int 62), (.int 60), (.int ca), (.int 62), (.int 60), (.int cb), (.int 62), (.int 60), (.int 47), (.int cb), (.int 62), (.int 60), (.int 47), (.int ca), (.int 62)] (.int 0))
set_option maxRecDepth 65536 in
set_option maxHeartbeats 40000000 in
theorem toU8_1 (l : Launch) (Z : State) (a0 : Array Value) (hw : ∀ d ∈ tables_1, d.before a0 Z = true) (ws : List Jvm.Cond) (w_ : Nat) (dq : Nat) (el : Nat) (sb : Nat) (b : Nat) (u8 : Nat) (ke : ClassId) (kb : ClassId) (ca : Int32) (cb : Int32) (zc : Int32) (h0 : Heap) (n0 : Nat) (Z0 : n0 ≤ h0.size) (E_w : Exa Z h0 w_ "com/example/sluice/sluice/server/XmlWriter") (F_open_w : Fld Z h0 w_ "com/example/sluice/sluice/server/XmlWriter" "open" "Ljava/util/Deque;" (.ref dq)) (F_xml_w : Fld Z h0 w_ "com/example/sluice/sluice/server/XmlWriter" "xml" "Ljava/lang/StringBuilder;" (.ref sb)) (E_dq : Exa Z h0 dq "java/util/ArrayDeque") (F_elements_dq : Fld Z h0 dq "java/util/ArrayDeque" "elements" "[Ljava/lang/Object;" (.ref el)) (F_head_dq : Fld Z h0 dq "java/util/ArrayDeque" "head" "I" (.int 0)) (F_tail_dq : Fld Z h0 dq "java/util/ArrayDeque" "tail" "I" (.int 0)) (V_el : Arv Z h0 el ke (.object "java/lang/Object") (17 : Int32) [.null, .null, .null, .null, .null, .null, .null, .null, .null, .null, .null, .null, .null, .null, .null, .null, .null] .null) (O_el : Ovr Z ke "java/lang/Object") (E_sb : Exa Z h0 sb "java/lang/StringBuilder") (F_value_sb : Fld Z h0 sb "java/lang/AbstractStringBuilder" "value" "[B" (.ref b)) (F_coder_sb : Fld Z h0 sb "java/lang/AbstractStringBuilder" "coder" "B" (.int 0)) (F_count_sb : Fld Z h0 sb "java/lang/AbstractStringBuilder" "count" "I" (.int (Int32.ofNat ((((((((((((own_decl ++ [(60 : Int32)]) ++ [ca]) ++ [(62 : Int32)]) ++ [(60 : Int32)]) ++ [cb]) ++ [(62 : Int32)]) ++ ([60, 47] : List Int32)) ++ [cb]) ++ [(62 : Int32)]) ++ ([60, 47] : List Int32)) ++ [ca]) ++ [(62 : Int32)]).length))) (V_b : Arv Z h0 b kb .byte (54 : Int32) (own_bz ((((((((((((own_decl ++ [(60 : Int32)]) ++ [ca]) ++ [(62 : Int32)]) ++ [(60 : Int32)]) ++ [cb]) ++ [(62 : Int32)]) ++ ([60, 47] : List Int32)) ++ [cb]) ++ [(62 : Int32)]) ++ ([60, 47] : List Int32)) ++ [ca]) ++ [(62 : Int32)])) (.int 0)) (S_C : Sta Z h0 "java/lang/String" "COMPACT_STRINGS" "Z" (.int zc)) (hz : ¬ (zc = (0 : Int32))) (S_U8 : Sta Z h0 "java/nio/charset/StandardCharsets" "UTF_8" "Ljava/nio/charset/Charset;" (.ref u8)) (S_IN : Sta Z h0 "sun/nio/cs/UTF_8" "INSTANCE" "Lsun/nio/cs/UTF_8;" (.ref u8)) (hca : ¬ (ca < (0 : Int32))) (hcb : ¬ (cb < (0 : Int32))) :
    own_M l (⟨"com/example/sluice/sluice/server/XmlWriter", "toUtf8", "()[B"⟩ : MethodName) prog_22_method_8_code 1 (some (.array .byte)) ws ({ frames := 6, cells := 3, slots := 110, locals := 91 } : Room) Z #[(.ref w_)] h0 (Q_toU8_1 Z w_ dq el sb b u8 ke kb ca cb zc h0 n0) := by
  refine own_body (own := "com/example/sluice/sluice/server/XmlWriter") rfl (plainFor_of_name pn_34) (fun m => ef_toU8_0 m w_) ?_
  intro p e s m below meth c s₁ Bd hml hZ hh hx hby hown X0 e0
  have N0 := Fr.nil n0
  have lt1 : h0.size > w_ := E_w.lt
  have lt2 : h0.size > dq := E_dq.lt
  have lt3 : h0.size > el := V_el.lt
  have lt4 : h0.size > sb := E_sb.lt
  have lt5 : h0.size > b := V_b.lt
  refine own_aloadN X0.here hx hby d34_0 rfl rfl ?_
  refine own_getF X0 hx hZ hown (host := "") (Or.inl (own_w hw 37 rfl)) Via.refl e0 F_open_w hby d34_1 ?_
  intro T6 X6 e6
  refine own_interfaceUp (J := "java/util/Collection") X6 hx hZ hown (own_w hw 209 rfl) (own_w hw 210 rfl) (own_w hw 211 rfl) (by decide) (by decide) (own_w hw 212 rfl) (own_w hw 213 rfl) (own_w hw 214 rfl) (own_w hw 215 rfl) (own_w hw 158 rfl) (own_w hw 22 rfl) (own_w hw 216 rfl) (dqEmpty l Z a0 hw [] dq h0 n0 Z0 E_dq F_head_dq F_tail_dq) 0 (Nat.le_of_eq rfl) (by decide) (by decide) (by rw [hml]; rfl) (argsL := []) (st := []) E_dq (lenOf pd_11 rfl) rfl rfl (by decide) (by decide) e6 hby d34_4 ?_
  intro T7 v7 L7 X7 hQ7
  obtain ⟨rfl, Nq7, eh7⟩ := hQ7
  have N7 := Fr.app N0 Nq7
  refine own_sh (T := T7) 9 #[.val (.ref w_)] [(.int 1)] ?_
  refine own_ifYes X7.here hx hby (pc' := 37) d34_9 ((if0 _ _).trans (feq (show ¬ ((1 : Int32) = (0 : Int32)) from (by decide))).2) (by decide) (by decide) ?_
  refine own_aloadN X7.here hx hby d34_37 rfl rfl ?_
  refine own_getF X7 hx hZ hown (host := "") (Or.inl (own_w hw 112 rfl)) Via.refl eh7 F_xml_w hby d34_38 ?_
  intro T9 X9 e9
  refine own_virtual X9 hx hZ hown (own_w hw 217 rfl) (own_w hw 218 rfl) (notFace_of_selects (args := #[]) (mvT hZ (own_w hw 220 rfl))) (own_w hw 220 rfl) (own_w hw 219 rfl) (own_w hw 41 rfl) (own_w hw 221 rfl) (by decide) (sbStrG l Z a0 hw [] sb b kb ((((((((((((own_decl ++ [(60 : Int32)]) ++ [ca]) ++ [(62 : Int32)]) ++ [(60 : Int32)]) ++ [cb]) ++ [(62 : Int32)]) ++ ([60, 47] : List Int32)) ++ [cb]) ++ [(62 : Int32)]) ++ ([60, 47] : List Int32)) ++ [ca]) ++ [(62 : Int32)]) zc h0 n0 Z0 E_sb F_value_sb F_coder_sb F_count_sb V_b S_C hz (by simp only [List.length_append, List.length_cons, List.length_nil]; decide)) 0 (Nat.le_of_eq rfl) (by decide) (by decide) (by rw [hml]; rfl) (argsL := []) (st := []) E_sb (lenOf pd_28 rfl) rfl rfl (by decide) (by decide) e9 hby d34_41 ?_
  intro T10 v10 L10 X10 hQ10
  obtain ⟨x_10, t_10, kt_10, rfl, Nq10, K10, P10_0, P10_1, P10_2, P10_3, P10_4, P10_5⟩ := hQ10
  have N10 := Fr.app N7 Nq10
  have z11 : h0.size ≤ T10.heap.size := K10.1
  have lt12 : T10.heap.size > x_10 := P10_1.lt
  have lt13 : T10.heap.size > t_10 := P10_4.lt
  refine own_sh (T := T10) 44 #[.val (.ref w_)] [(.ref x_10)] ?_
  have f14 := (own_sta_keep S_U8 K10 all0)
  refine own_getS X10 hx hZ hown (host := "") (Or.inl (own_w hw 258 rfl)) Via.refl rfl f14 hby d34_44 ?_
  intro T15 X15 e15
  have V16 : Arv Z T10.heap t_10 kt_10 .byte (52 : Int32) [(.int 60), (.int 63), (.int 120), (.int 109), (.int 108), (.int 32), (.int 118), (.int 101), (.int 114), (.int 115), (.int 105), (.int 111), (.int 110), (.int 61), (.int 34), (.int 49), (.int 46), (.int 48), (.int 34), (.int 32), (.int 101), (.int 110), (.int 99), (.int 111), (.int 100), (.int 105), (.int 110), (.int 103), (.int 61), (.int 34), (.int 85), (.int 84), (.int 70), (.int 45), (.int 56), (.int 34), (.int 63), (.int 62), (.int 60), (.int ca), (.int 62), (.int 60), (.int cb), (.int 62), (.int 60), (.int 47), (.int cb), (.int 62), (.int 60), (.int 47), (.int ca), (.int 62)] (.int 0) := P10_4
  have f17 := (own_sta_keep S_C K10 all0)
  have f18 := (own_sta_keep S_IN K10 all0)
  have z20 : n0 ≤ T10.heap.size := by omega
  refine own_virtual X15 hx hZ hown (own_w hw 260 rfl) (own_w hw 261 rfl) (notFace_of_selects (args := #[]) (mvT hZ (own_w hw 263 rfl))) (own_w hw 263 rfl) (own_w hw 262 rfl) (own_w hw 7 rfl) (own_w hw 264 rfl) (by decide) (getU8_1 l Z a0 hw [] x_10 t_10 u8 kt_10 zc ca cb T10.heap n0 z20 P10_1 P10_2 P10_3 P10_5 V16 f17 hz f14 f18 hca hcb) 0 (Nat.le_of_eq rfl) (by decide) (by decide) (by rw [hml]; rfl) (argsL := [(.ref u8)]) (st := []) P10_1 (lenOf pd_29 rfl) rfl rfl (by decide) (by decide) e15 hby d34_47 ?_
  intro T19 v19 L19 X19 hQ19
  obtain ⟨r_19, kr_19, rfl, Nq19, K19, P19_0, P19_1⟩ := hQ19
  have N19 := Fr.app N10 Nq19
  have z21 : T10.heap.size ≤ T19.heap.size := K19.1
  have lt22 : T19.heap.size > r_19 := P19_1.lt
  refine own_sh (T := T19) 50 #[.val (.ref w_)] [(.ref r_19)] ?_
  have K23 : Keep h0 T19.heap [] := (((Keep.refl h0 []).trans K10 all0).trans K19 all0)
  obtain ⟨fs, hr, hrun, hended, hW, hsame⟩ := X19.leave (v := some (.ref r_19)) (fun h => by rw [Bd.returns] at h; cases h) Bd.notSynchronized
  refine own_ret (t := T19.setFrames fs) ?_ ⟨_, hrun, hended, _, _, rfl, ?_, ⟨_, rfl⟩, hW, hsame.mono (by decide) (by decide)⟩
  · exact retOut X19 hx Bd.returns rfl (Or.inr (Or.inr (Or.inr (Or.inr ⟨rfl, rfl, rfl⟩)))) (hb hby d34_50) hr
  · show Q_toU8_1 Z _ _ _ _ _ _ _ _ _ _ _ h0 n0 _ T19.heap _
    exact ⟨r_19, kr_19, rfl, N19, K23, (by omega), P19_1⟩
theorem ef_at_ (m : MethodId) (x0 : Nat) (x1 : Int32) (x2 : Int32) : entryFrame m #[(.ref x0), (.int x1), (.int x2)] 3 = mkF m 0 #[.val (.ref x0), .val (.int x1), .val (.int x2)] [] := by first | (simp [entryFrame, mkF, argsToLocals, Value.category]; done) | rfl
theorem pn_51 : plainName "com/example/sluice/sluice/server/XmlWriterEndPinLaw" = true := by first | (simp [plainName, overriddenIn]; done) | decide +kernel
theorem d51_0 : decode method_2_code 0 = .ok (.aload_n 0, 1) := by decide +kernel
theorem d51_1 : decode method_2_code 1 = .ok (.iload_n 1, 1) := by decide +kernel
theorem d51_2 : decode method_2_code 2 = .ok (.baload, 1) := by decide +kernel
theorem d51_3 : decode method_2_code 3 = .ok (.iload_n 2, 1) := by decide +kernel
theorem d51_4 : decode method_2_code 4 = .ok (.if_icmp .ne 7, 3) := by decide +kernel
theorem d51_7 : decode method_2_code 7 = .ok (.iconst 1, 1) := by decide +kernel
theorem d51_8 : decode method_2_code 8 = .ok (.goto 4, 3) := by decide +kernel
theorem d51_12 : decode method_2_code 12 = .ok (.ireturn, 1) := by decide +kernel
def Q_at_ (Z : State) (t : Nat) (kt : ClassId) (n_ : Int32) (j_ : Int32) (c_ : Int32) (vs_ : List Value) (h0 : Heap) (n0 : Nat) (vR : Option Value) (hR : Heap) (LR : List Loc) : Prop := vR = some (.int 1) ∧ Fr n0 LR ∧ hR = h0
set_option maxRecDepth 65536 in
set_option maxHeartbeats 40000000 in
theorem at_ (l : Launch) (Z : State) (a0 : Array Value) (hw : ∀ d ∈ tables_1, d.before a0 Z = true) (ws : List Jvm.Cond) (t : Nat) (kt : ClassId) (n_ : Int32) (j_ : Int32) (c_ : Int32) (vs_ : List Value) (h0 : Heap) (n0 : Nat) (Z0 : n0 ≤ h0.size) (V_t : Arv Z h0 t kt .byte n_ vs_ (.int 0)) (hin : ¬ (j_ < (0 : Int32)) ∧ j_ < n_) (hv : vs_.getD j_.toNatClampNeg (.int 0) = .int c_) :
    own_M l (⟨"com/example/sluice/sluice/server/XmlWriterEndPinLaw", "at", "([BII)Z"⟩ : MethodName) method_2_code 3 (some .boolean) ws ({ frames := 0, cells := 0, slots := 0, locals := 0 } : Room) Z #[(.ref t), (.int j_), (.int c_)] h0 (Q_at_ Z t kt n_ j_ c_ vs_ h0 n0) := by
  refine own_body (own := "com/example/sluice/sluice/server/XmlWriterEndPinLaw") rfl (plainFor_of_name pn_51) (fun m => ef_at_ m t j_ c_) ?_
  intro p e s m below meth c s₁ Bd hml hZ hh hx hby hown X0 e0
  have N0 := Fr.nil n0
  have lt1 : h0.size > t := V_t.lt
  refine own_aloadN X0.here hx hby d51_0 rfl rfl ?_
  refine own_iloadN X0.here hx hby d51_1 rfl ?_
  refine own_baload X0 hx hZ e0 V_t hin (v := (.int c_)) hv hby d51_2 ?_
  refine own_iloadN X0.here hx hby d51_3 rfl ?_
  refine own_icmpNo X0.here hx hby d51_4 (teq (show c_ = c_ from rfl)).2 ?_
  refine own_iconst X0.here hx hby d51_7 (v := (1 : Int32)) (by decide) ?_
  refine own_goto X0.here hx hby (pc' := 12) d51_8 (by decide) (by decide) ?_
  obtain ⟨fs, hr, hrun, hended, hW, hsame⟩ := X0.leave (v := some (.int 1)) (fun h => by rw [Bd.returns] at h; cases h) Bd.notSynchronized
  refine own_ret (t := s₁.setFrames fs) ?_ ⟨_, hrun, hended, _, _, rfl, ?_, ⟨_, rfl⟩, hW, hsame.mono (by decide) (by decide)⟩
  · exact retN X0 hx (t := .boolean) Bd.returns (by simp) (hb hby d51_12) hr
  · show Q_at_ Z _ _ _ _ _ _ h0 n0 _ s₁.heap _
    rw [e0]
    exact ⟨rfl, N0, rfl⟩
theorem ef_rm0 (m : MethodId) (x0 : Int32) (x1 : Int32) (x2 : Int32) : entryFrame m #[(.int x0), (.int x1), (.int x2)] maxLocals = mkF m 0 #[.val (.int x0), .val (.int x1), .val (.int x2), .unset, .unset, .unset, .unset, .unset, .unset, .unset, .unset] [] := by first | (simp [entryFrame, mkF, argsToLocals, Value.category, maxLocals]; done) | rfl
theorem pn_0 : plainName "com/example/sluice/sluice/server/XmlWriterEndPinLaw" = true := by first | (simp [plainName, overriddenIn]; done) | decide +kernel
theorem pd_30 : parseMethodDescriptor "(C)Ljava/lang/String;" = some ⟨[.char], some (.object "java/lang/String")⟩ := by decide +kernel
theorem pd_31 : parseMethodDescriptor "(Ljava/lang/String;)Lcom/example/sluice/sluice/server/XmlWriter;" = some ⟨[(.object "java/lang/String")], some (.object "com/example/sluice/sluice/server/XmlWriter")⟩ := by decide +kernel
theorem pd_32 : parseMethodDescriptor "()Lcom/example/sluice/sluice/server/XmlWriter;" = some ⟨[], some (.object "com/example/sluice/sluice/server/XmlWriter")⟩ := by decide +kernel
def Q_rm0 (Z : State) (p1 : Int32) (p2 : Int32) (p3 : Int32) (zc : Int32) (u8 : Nat) (h0 : Heap) (n0 : Nat) (vR : Option Value) (hR : Heap) (LR : List Loc) : Prop := vR = some (.int 1) ∧ Fr n0 LR ∧ True
set_option maxRecDepth 65536 in
set_option maxHeartbeats 40000000 in
theorem rm0 (l : Launch) (Z : State) (a0 : Array Value) (hw : ∀ d ∈ tables_1, d.before a0 Z = true) (ws : List Jvm.Cond) (p1 : Int32) (p2 : Int32) (p3 : Int32) (zc : Int32) (u8 : Nat) (h0 : Heap) (n0 : Nat) (Z0 : n0 ≤ h0.size) (S_C : Sta Z h0 "java/lang/String" "COMPACT_STRINGS" "Z" (.int zc)) (hz : ¬ (zc = (0 : Int32))) (S_U8 : Sta Z h0 "java/nio/charset/StandardCharsets" "UTF_8" "Ljava/nio/charset/Charset;" (.ref u8)) (S_IN : Sta Z h0 "sun/nio/cs/UTF_8" "INSTANCE" "Lsun/nio/cs/UTF_8;" (.ref u8)) :
    own_MH l x code maxLocals ret ws room_1 Z #[(.int p1), (.int p2), (.int p3)] h0 (Q_rm0 Z p1 p2 p3 zc u8 h0 n0) consts_1 := by
  refine own_bodyH (own := "com/example/sluice/sluice/server/XmlWriterEndPinLaw") rfl (plainFor_of_name pn_0) (fun m => ef_rm0 m p1 p2 p3) ?_
  intro p e s m below meth c s₁ Bd hml hZ hh hx hby hown X0 e0 hS0 CH0
  have N0 := Fr.nil n0
  have hk0 : h0.size ≤ h0.size := Nat.le_refl _
  have Y0 : Stand p l e room_1 (s.setVm s.vm) m #[(.int p1), (.int p2), (.int p3)] below meth c s₁ [] 0 0 := X0
  have hEL := own_EW hw
  have C0 := CHr.refl CH0
  refine own_iloadN Y0.here hx hby at_0 rfl ?_
  refine own_bipush Y0.here hx hby at_1 (v := (127 : Int32)) (by decide) ?_
  refine own_iand Y0.here hx hby at_3 rfl ?_
  refine own_i2c Y0.here hx hby at_4 rfl ?_
  refine own_sh (T := s₁) 5 #[.val (.int p1), .val (.int p2), .val (.int p3), .unset, .unset, .unset, .unset, .unset, .unset, .unset, .unset] [(.int ((p1 &&& (127 : Int32)).toUInt32.toUInt16.toUInt32.toInt32))] ?_
  rw [show ((p1 &&& (127 : Int32)).toUInt32.toUInt16.toUInt32.toInt32) = (p1 &&& (127 : Int32)) from (own_i2c127 p1)]
  refine own_istoreN Y0.here hx hby at_5 (l' := #[.val (.int p1), .val (.int p2), .val (.int p3), .val (.int (p1 &&& (127 : Int32))), .unset, .unset, .unset, .unset, .unset, .unset, .unset]) rfl ?_
  refine own_iloadN Y0.here hx hby at_6 rfl ?_
  refine own_bipush Y0.here hx hby at_7 (v := (127 : Int32)) (by decide) ?_
  refine own_iand Y0.here hx hby at_9 rfl ?_
  refine own_i2c Y0.here hx hby at_10 rfl ?_
  refine own_sh (T := s₁) 11 #[.val (.int p1), .val (.int p2), .val (.int p3), .val (.int (p1 &&& (127 : Int32))), .unset, .unset, .unset, .unset, .unset, .unset, .unset] [(.int ((p2 &&& (127 : Int32)).toUInt32.toUInt16.toUInt32.toInt32))] ?_
  rw [show ((p2 &&& (127 : Int32)).toUInt32.toUInt16.toUInt32.toInt32) = (p2 &&& (127 : Int32)) from (own_i2c127 p2)]
  refine own_istore Y0.here hx hby at_11 (l' := #[.val (.int p1), .val (.int p2), .val (.int p3), .val (.int (p1 &&& (127 : Int32))), .val (.int (p2 &&& (127 : Int32))), .unset, .unset, .unset, .unset, .unset, .unset]) rfl ?_
  refine own_iloadN Y0.here hx hby at_13 rfl ?_
  refine own_iconst Y0.here hx hby at_14 (v := (1 : Int32)) (by decide) ?_
  refine own_iand Y0.here hx hby at_15 rfl ?_
  by_cases hc16_4 : (p3 &&& (1 : Int32)) = (0 : Int32)
  · refine own_ifYes Y0.here hx hby (pc' := 23) at_16 ((if0 _ _).trans (teq hc16_4).1) (by decide) (by decide) ?_
    refine own_iconst Y0.here hx hby at_23 (v := (0 : Int32)) (by decide) ?_
    refine own_istore Y0.here hx hby at_24 (l' := #[.val (.int p1), .val (.int p2), .val (.int p3), .val (.int (p1 &&& (127 : Int32))), .val (.int (p2 &&& (127 : Int32))), .val (.int 0), .unset, .unset, .unset, .unset, .unset]) rfl ?_
    refine own_newO Y0 hx hZ hown (own_w hw 0 rfl) (own_w hw 1 rfl) (own_w hw 2 rfl) e0 hby at_26 (by decide) (by decide) ?_
    intro T5 h5 b5 X5 e5 E5 g5 A5 D5 lt5
    have z6 : h0.size ≤ h5.size := E5.1
    have C7 := C0.trans (CHr.ext E5 C0.1)
    have F9 : Fld Z h5 b5 "com/example/sluice/sluice/server/XmlWriter" "open" "Ljava/util/Deque;" .null := D5 (Or.inr (own_w hw 38 rfl)) (ty := (.object "java/util/Deque")) (by decide)
    have F10 : Fld Z h5 b5 "com/example/sluice/sluice/server/XmlWriter" "xml" "Ljava/lang/StringBuilder;" .null := D5 (Or.inr (own_w hw 113 rfl)) (ty := (.object "java/lang/StringBuilder")) (by decide)
    refine own_dup X5.here hx hby at_29 rfl ?_
    have f11 := (S_C.ext E5)
    have z13 : n0 ≤ h5.size := by omega
    refine own_specialH X5 hx hZ hEL rfl hown (own_w hw 3 rfl) (own_w hw 4 rfl) (own_w hw 2 rfl) (own_w hw 5 rfl) (by decide) (xwInit l Z a0 hw [] b5 zc h5 n0 z13 A5 (by omega) F9 F10 f11 hz) 1 (Nat.le_of_eq rfl) (by decide) (by decide) (by rw [hml]; rfl) (argsL := []) (st := [(.ref b5)]) (a := b5) (lenOf pd_13 rfl) rfl rfl (by decide) (by decide) e5 hby C7.1 hS0 (by omega) at_30 ?_
    intro T12 v12 L12 vm12 X12 hS12 hZ12 hown12 hg12 Cn12 hQ12
    obtain ⟨dq_12, el_12, sb_12, b_12, ke_12, kb_12, rfl, Nq12, K12, P12_0, P12_1, P12_2, P12_3, P12_4, P12_5, P12_6, P12_7, P12_8, P12_9, P12_10, P12_11, P12_12, P12_13, P12_14, P12_15, P12_16, P12_17⟩ := hQ12
    have N12 := Fr.app N0 Nq12
    have z14 : h5.size ≤ T12.heap.size := K12.1
    have C15 := C7.trans Cn12
    have lt16 : T12.heap.size > b5 := P12_4.lt
    have lt17 : T12.heap.size > dq_12 := P12_7.lt
    have lt18 : T12.heap.size > el_12 := P12_11.lt
    have lt19 : T12.heap.size > sb_12 := P12_13.lt
    have lt20 : T12.heap.size > b_12 := P12_17.lt
    refine own_sh (T := T12) 33 #[.val (.int p1), .val (.int p2), .val (.int p3), .val (.int (p1 &&& (127 : Int32))), .val (.int (p2 &&& (127 : Int32))), .val (.int 0), .unset, .unset, .unset, .unset, .unset] [(.ref b5)] ?_
    refine own_astore X12.here hx hby at_33 rfl (l' := #[.val (.int p1), .val (.int p2), .val (.int p3), .val (.int (p1 &&& (127 : Int32))), .val (.int (p2 &&& (127 : Int32))), .val (.int 0), .val (.ref b5), .unset, .unset, .unset, .unset]) rfl ?_
    refine own_aload X12.here hx hby at_35 rfl rfl ?_
    refine own_iloadN X12.here hx hby at_37 rfl ?_
    have f21 := (own_sta_keep f11 K12 (allS (own_exa_plain A5) all0))
    have z23 : n0 ≤ T12.heap.size := by omega
    refine own_callS X12 hx hZ12 hown12 (own_w hw 114 rfl) (own_w hw 115 rfl) (own_w hw 7 rfl) (own_w hw 116 rfl) (by decide) (valOf l Z a0 hw [] (p1 &&& (127 : Int32)) zc T12.heap n0 z23 f21 hz (own_c127 p1).2) 1 (Nat.le_of_eq rfl) (by decide) (by decide) (by rw [hml]; rfl) (argsL := [(.int (p1 &&& (127 : Int32)))]) (st := [(.ref b5)]) (lenOf pd_30 rfl) rfl rfl (by decide) (by decide) rfl hby at_38 ?_
    intro T22 v22 L22 X22 hQ22
    obtain ⟨x_22, t_22, kb_22, rfl, Nq22, K22, P22_0, P22_1, P22_2, P22_3, P22_4, P22_5, P22_6⟩ := hQ22
    have N22 := Fr.app N12 Nq22
    have z24 : T12.heap.size ≤ T22.heap.size := K22.1
    have C25 := C15.trans (CHr.keep K22 sf0 C15.1)
    have lt26 : T22.heap.size > x_22 := P22_3.lt
    have lt27 : T22.heap.size > t_22 := P22_6.lt
    refine own_sh (T := T22) 41 #[.val (.int p1), .val (.int p2), .val (.int p3), .val (.int (p1 &&& (127 : Int32))), .val (.int (p2 &&& (127 : Int32))), .val (.int 0), .val (.ref b5), .unset, .unset, .unset, .unset] [(.ref x_22), (.ref b5)] ?_
    have V28 : Arv Z T22.heap t_22 kb_22 .byte (Int32.ofNat ([(p1 &&& (127 : Int32))]).length) (own_b ([(p1 &&& (127 : Int32))])) (.int 0) := by
      have q := P22_6
      rw [own_low7 p1] at q
      exact q
    have f29 := (P12_4.keep K22)
    have f30 := (P12_5.keep K22 nin0)
    have f31 := (P12_6.keep K22 nin0)
    have f32 := (P12_7.keep K22)
    have f33 := (P12_8.keep K22 nin0)
    have f34 := (P12_9.keep K22 nin0)
    have f35 := (P12_10.keep K22 nin0)
    have f36 := (P12_11.keep K22 nin0)
    have f37 := (P12_13.keep K22)
    have f38 := (P12_14.keep K22 nin0)
    have f39 := (P12_15.keep K22 nin0)
    have f40 := (P12_16.keep K22 nin0)
    have f41 := (P12_17.keep K22 nin0)
    have f42 := (own_sta_keep f21 K22 all0)
    have z44 : n0 ≤ T22.heap.size := by omega
    refine own_virtual X22 hx hZ12 hown12 (own_w hw 130 rfl) (own_w hw 131 rfl) (notFace_of_selects (args := #[]) (mvT hZ12 (own_w hw 133 rfl))) (own_w hw 133 rfl) (own_w hw 132 rfl) (own_w hw 2 rfl) (own_w hw 134 rfl) (by decide) (start_0 l Z a0 hw [] b5 dq_12 el_12 sb_12 b_12 ke_12 kb_12 own_decl x_22 t_22 kb_22 (p1 &&& (127 : Int32)) zc T22.heap n0 z44 (by omega) (by omega) (by omega) (by omega) f29 f30 f31 f32 f33 f34 f35 f36 P12_12 f37 f38 f39 f40 f41 P22_3 P22_4 P22_5 V28 (own_nn (by omega)) f42 hz (by first | decide | (simp only [List.length_append, List.length_cons, List.length_nil]; decide))) 0 (Nat.le_of_eq rfl) (by decide) (by decide) (by rw [hml]; rfl) (argsL := [(.ref x_22)]) (st := []) f29 (lenOf pd_31 rfl) rfl rfl (by decide) (by decide) rfl hby at_41 ?_
    intro T43 v43 L43 X43 hQ43
    obtain ⟨rfl, Nq43, K43, P43_0, P43_1, P43_2, P43_3, P43_4, P43_5, P43_6, P43_7, P43_8, P43_9, P43_10, P43_11, P43_12, P43_13, P43_14, P43_15, P43_16, P43_17⟩ := hQ43
    have N43 := Fr.app N22 Nq43
    have z45 : T22.heap.size ≤ T43.heap.size := K43.1
    have C46 := C25.trans (CHr.keep K43 (sfS (Safe.exa hZ12.alike f32 (by decide) (by decide)) (sfS (Safe.arv hZ12.alike f36 (by decide)) (sfS (Safe.exa hZ12.alike f37 (by decide) (by decide)) (sfS (own_safe_len hZ12 (own_TL54 hw) f41) sf0)))) C25.1)
    have lt47 : T43.heap.size > b5 := P43_0.lt
    have lt48 : T43.heap.size > dq_12 := P43_3.lt
    have lt49 : T43.heap.size > el_12 := P43_7.lt
    have lt50 : T43.heap.size > sb_12 := P43_9.lt
    have lt51 : T43.heap.size > b_12 := P43_13.lt
    have lt52 : T43.heap.size > x_22 := P43_14.lt
    have lt53 : T43.heap.size > t_22 := P43_17.lt
    refine own_sh (T := T43) 44 #[.val (.int p1), .val (.int p2), .val (.int p3), .val (.int (p1 &&& (127 : Int32))), .val (.int (p2 &&& (127 : Int32))), .val (.int 0), .val (.ref b5), .unset, .unset, .unset, .unset] [(.ref b5)] ?_
    refine own_pop X43.here hx hby at_44 rfl ?_
    refine own_iconst X43.here hx hby at_45 (v := (1 : Int32)) (by decide) ?_
    refine own_istore X43.here hx hby at_46 (l' := #[.val (.int p1), .val (.int p2), .val (.int p3), .val (.int (p1 &&& (127 : Int32))), .val (.int (p2 &&& (127 : Int32))), .val (.int 0), .val (.ref b5), .val (.int 1), .unset, .unset, .unset]) rfl ?_
    refine own_iload X43.here hx hby at_48 rfl ?_
    refine own_ifYes X43.here hx hby (pc' := 81) at_50 ((if0 _ _).trans (teq (show (0 : Int32) = (0 : Int32) from (by decide))).1) (by decide) (by decide) ?_
    refine own_aload X43.here hx hby at_81 rfl rfl ?_
    have f54 := (own_sta_keep f42 K43 (allS (own_exa_plain f32) (allS (own_arv_plain f36) (allS (own_exa_plain f37) (allS (own_arv_plain f41) all0)))))
    have z56 : n0 ≤ T43.heap.size := by omega
    refine own_virtualH X43 hx hZ12 hEL hown12 (own_w hw 173 rfl) (own_w hw 174 rfl) (notFace_of_selects (args := #[]) (mvT hZ12 (own_w hw 176 rfl))) (own_w hw 176 rfl) (own_w hw 175 rfl) (own_w hw 2 rfl) (own_w hw 177 rfl) (by decide) (end_16 l Z a0 hw [] b5 dq_12 el_12 sb_12 b_12 ke_12 kb_12 (((own_decl ++ [(60 : Int32)]) ++ [(p1 &&& (127 : Int32))]) ++ [(62 : Int32)]) t_22 x_22 kb_22 (p1 &&& (127 : Int32)) zc T43.heap n0 z56 (by omega) (by omega) (by omega) (by omega) P43_0 P43_1 P43_2 P43_3 P43_4 P43_5 P43_6 P43_7 P43_8 P43_9 P43_10 P43_11 P43_12 P43_13 P43_14 P43_15 P43_16 P43_17 (own_nn (by omega)) f54 hz (by first | decide | (simp only [List.length_append, List.length_cons, List.length_nil]; decide))) 0 (Nat.le_of_eq rfl) (by decide) (by decide) (by rw [hml]; rfl) (argsL := []) (st := []) P43_0 (lenOf pd_32 rfl) rfl rfl (by decide) (by decide) rfl hby C46.1 hS12 (by omega) at_83 ?_
    intro T55 v55 L55 vm55 X55 hS55 hZ55 hown55 hg55 Cn55 hQ55
    obtain ⟨rfl, Nq55, K55, P55_0, P55_1, P55_2, P55_3, P55_4, P55_5, P55_6, P55_7, P55_8, P55_9, P55_10, P55_11, P55_12, P55_13⟩ := hQ55
    have N55 := Fr.app N43 Nq55
    have z57 : T43.heap.size ≤ T55.heap.size := K55.1
    have C58 := C46.trans Cn55
    have lt59 : T55.heap.size > b5 := P55_0.lt
    have lt60 : T55.heap.size > dq_12 := P55_3.lt
    have lt61 : T55.heap.size > el_12 := P55_7.lt
    have lt62 : T55.heap.size > sb_12 := P55_9.lt
    have lt63 : T55.heap.size > b_12 := P55_13.lt
    refine own_sh (T := T55) 86 #[.val (.int p1), .val (.int p2), .val (.int p3), .val (.int (p1 &&& (127 : Int32))), .val (.int (p2 &&& (127 : Int32))), .val (.int 0), .val (.ref b5), .val (.int 1), .unset, .unset, .unset] [(.ref b5)] ?_
    refine own_aload X55.here hx hby at_86 rfl rfl ?_
    refine own_acmp X55 hx (same := true) (pc' := 91) hby at_88 rfl rfl (decide_eq_true rfl) (by decide) (by decide) ?_
    refine own_iconst X55.here hx hby at_91 (v := (1 : Int32)) (by decide) ?_
    refine own_goto X55.here hx hby (pc' := 96) at_92 (by decide) (by decide) ?_
    refine own_istore X55.here hx hby at_96 (l' := #[.val (.int p1), .val (.int p2), .val (.int p3), .val (.int (p1 &&& (127 : Int32))), .val (.int (p2 &&& (127 : Int32))), .val (.int 0), .val (.ref b5), .val (.int 1), .val (.int 1), .unset, .unset]) rfl ?_
    refine own_aload X55.here hx hby at_98 rfl rfl ?_
    have f64 := (own_sta_keep f54 K55 (allS (own_exa_plain P43_3) (allS (own_arv_plain P43_7) (allS (own_exa_plain P43_9) (allS (own_arv_plain P43_13) all0)))))
    have f65 := (own_sta_keep (own_sta_keep (own_sta_keep (own_sta_keep (S_U8.ext E5) K12 (allS (own_exa_plain A5) all0)) K22 all0) K43 (allS (own_exa_plain f32) (allS (own_arv_plain f36) (allS (own_exa_plain f37) (allS (own_arv_plain f41) all0))))) K55 (allS (own_exa_plain P43_3) (allS (own_arv_plain P43_7) (allS (own_exa_plain P43_9) (allS (own_arv_plain P43_13) all0)))))
    have f66 := (own_sta_keep (own_sta_keep (own_sta_keep (own_sta_keep (S_IN.ext E5) K12 (allS (own_exa_plain A5) all0)) K22 all0) K43 (allS (own_exa_plain f32) (allS (own_arv_plain f36) (allS (own_exa_plain f37) (allS (own_arv_plain f41) all0))))) K55 (allS (own_exa_plain P43_3) (allS (own_arv_plain P43_7) (allS (own_exa_plain P43_9) (allS (own_arv_plain P43_13) all0)))))
    have z68 : n0 ≤ T55.heap.size := by omega
    refine own_virtual X55 hx hZ55 hown55 (own_w hw 204 rfl) (own_w hw 205 rfl) (notFace_of_selects (args := #[]) (mvT hZ55 (own_w hw 207 rfl))) (own_w hw 207 rfl) (own_w hw 206 rfl) (own_w hw 2 rfl) (own_w hw 208 rfl) (by decide) (toU8_0 l Z a0 hw [] b5 dq_12 el_12 sb_12 b_12 u8 ke_12 kb_12 (p1 &&& (127 : Int32)) zc T55.heap n0 z68 P55_0 P55_1 P55_2 P55_3 P55_4 P55_5 P55_6 P55_7 P55_8 P55_9 P55_10 P55_11 P55_12 P55_13 f64 hz f65 f66 (own_c127 p1).1) 0 (Nat.le_of_eq rfl) (by decide) (by decide) (by rw [hml]; rfl) (argsL := []) (st := []) P55_0 (lenOf pd_21 rfl) rfl rfl (by decide) (by decide) rfl hby at_100 ?_
    intro T67 v67 L67 X67 hQ67
    obtain ⟨r_67, kr_67, rfl, Nq67, K67, P67_0, P67_1⟩ := hQ67
    have N67 := Fr.app N55 Nq67
    have z69 : T55.heap.size ≤ T67.heap.size := K67.1
    have C70 := C58.trans (CHr.keep K67 sf0 C58.1)
    have lt71 : T67.heap.size > r_67 := P67_1.lt
    refine own_sh (T := T67) 103 #[.val (.int p1), .val (.int p2), .val (.int p3), .val (.int (p1 &&& (127 : Int32))), .val (.int (p2 &&& (127 : Int32))), .val (.int 0), .val (.ref b5), .val (.int 1), .val (.int 1), .unset, .unset] [(.ref r_67)] ?_
    refine own_astore X67.here hx hby at_103 rfl (l' := #[.val (.int p1), .val (.int p2), .val (.int p3), .val (.int (p1 &&& (127 : Int32))), .val (.int (p2 &&& (127 : Int32))), .val (.int 0), .val (.ref b5), .val (.int 1), .val (.int 1), .val (.ref r_67), .unset]) rfl ?_
    refine own_bipush X67.here hx hby at_105 (v := (38 : Int32)) (by decide) ?_
    refine own_istore X67.here hx hby at_107 (l' := #[.val (.int p1), .val (.int p2), .val (.int p3), .val (.int (p1 &&& (127 : Int32))), .val (.int (p2 &&& (127 : Int32))), .val (.int 0), .val (.ref b5), .val (.int 1), .val (.int 1), .val (.ref r_67), .val (.int 38)]) rfl ?_
    refine own_iload X67.here hx hby at_109 rfl ?_
    refine own_ifNo X67.here hx hby at_111 ((if0 _ _).trans (feq (show ¬ ((1 : Int32) = (0 : Int32)) from (by decide))).1) ?_
    refine own_iload X67.here hx hby at_114 rfl ?_
    refine own_ifYes X67.here hx hby (pc' := 121) at_116 ((if0 _ _).trans (feq (show ¬ ((1 : Int32) = (0 : Int32)) from (by decide))).2) (by decide) (by decide) ?_
    refine own_iload X67.here hx hby at_121 rfl ?_
    refine own_ifYes X67.here hx hby (pc' := 370) at_123 ((if0 _ _).trans (teq (show (0 : Int32) = (0 : Int32) from (by decide))).1) (by decide) (by decide) ?_
    refine own_aload X67.here hx hby at_370 rfl rfl ?_
    refine own_alen X67 hx hZ55 rfl P67_1 hby at_372 ?_
    refine own_iload X67.here hx hby at_373 rfl ?_
    refine own_bipush X67.here hx hby at_375 (v := (7 : Int32)) (by decide) ?_
    refine own_iadd X67.here hx hby at_377 (v := (45 : Int32)) (by decide) ?_
    refine own_icmpYes X67.here hx hby (pc' := 383) at_378 (teq (show (45 : Int32) = (45 : Int32) from (by decide))).1 (by decide) (by decide) ?_
    refine own_aload X67.here hx hby at_383 rfl rfl ?_
    refine own_iconst X67.here hx hby at_385 (v := (0 : Int32)) (by decide) ?_
    refine own_bipush X67.here hx hby at_386 (v := (60 : Int32)) (by decide) ?_
    have z73 : n0 ≤ T67.heap.size := by omega
    refine own_callS X67 hx hZ55 hown55 (own_w hw 289 rfl) (own_w hw 290 rfl) (own_w hw 291 rfl) (own_w hw 292 rfl) (by decide) (at_ l Z a0 hw [] r_67 kr_67 (45 : Int32) (0 : Int32) (60 : Int32) ([(.int 60), (.int 63), (.int 120), (.int 109), (.int 108), (.int 32), (.int 118), (.int 101), (.int 114), (.int 115), (.int 105), (.int 111), (.int 110), (.int 61), (.int 34), (.int 49), (.int 46), (.int 48), (.int 34), (.int 32), (.int 101), (.int 110), (.int 99), (.int 111), (.int 100), (.int 105), (.int 110), (.int 103), (.int 61), (.int 34), (.int 85), (.int 84), (.int 70), (.int 45), (.int 56), (.int 34), (.int 63), (.int 62), (.int 60), (.int (p1 &&& (127 : Int32))), (.int 62), (.int 60), (.int 47), (.int (p1 &&& (127 : Int32))), (.int 62)]) T67.heap n0 z73 P67_1 ⟨by decide, by decide⟩ rfl) 0 (Nat.le_of_eq rfl) (by decide) (by decide) (by rw [hml]; rfl) (argsL := [(.ref r_67), (.int 0), (.int 60)]) (st := []) (lenOf pd_25 rfl) rfl rfl (by decide) (by decide) rfl hby at_388 ?_
    intro T72 v72 L72 X72 hQ72
    obtain ⟨rfl, Nq72, eh72⟩ := hQ72
    have N72 := Fr.app N67 Nq72
    refine own_sh (T := T72) 391 #[.val (.int p1), .val (.int p2), .val (.int p3), .val (.int (p1 &&& (127 : Int32))), .val (.int (p2 &&& (127 : Int32))), .val (.int 0), .val (.ref b5), .val (.int 1), .val (.int 1), .val (.ref r_67), .val (.int 38)] [(.int 1)] ?_
    refine own_ifNo X72.here hx hby at_391 ((if0 _ _).trans (feq (show ¬ ((1 : Int32) = (0 : Int32)) from (by decide))).1) ?_
    refine own_aload X72.here hx hby at_394 rfl rfl ?_
    refine own_iload X72.here hx hby at_396 rfl ?_
    refine own_iconst X72.here hx hby at_398 (v := (1 : Int32)) (by decide) ?_
    refine own_isub X72.here hx hby at_399 (v := (37 : Int32)) (by decide) ?_
    refine own_bipush X72.here hx hby at_400 (v := (62 : Int32)) (by decide) ?_
    refine own_callS X72 hx hZ55 hown55 (own_w hw 289 rfl) (own_w hw 290 rfl) (own_w hw 291 rfl) (own_w hw 292 rfl) (by decide) (at_ l Z a0 hw [] r_67 kr_67 (45 : Int32) (37 : Int32) (62 : Int32) ([(.int 60), (.int 63), (.int 120), (.int 109), (.int 108), (.int 32), (.int 118), (.int 101), (.int 114), (.int 115), (.int 105), (.int 111), (.int 110), (.int 61), (.int 34), (.int 49), (.int 46), (.int 48), (.int 34), (.int 32), (.int 101), (.int 110), (.int 99), (.int 111), (.int 100), (.int 105), (.int 110), (.int 103), (.int 61), (.int 34), (.int 85), (.int 84), (.int 70), (.int 45), (.int 56), (.int 34), (.int 63), (.int 62), (.int 60), (.int (p1 &&& (127 : Int32))), (.int 62), (.int 60), (.int 47), (.int (p1 &&& (127 : Int32))), (.int 62)]) T67.heap n0 z73 P67_1 ⟨by decide, by decide⟩ rfl) 0 (Nat.le_of_eq rfl) (by decide) (by decide) (by rw [hml]; rfl) (argsL := [(.ref r_67), (.int 37), (.int 62)]) (st := []) (lenOf pd_25 rfl) rfl rfl (by decide) (by decide) eh72 hby at_402 ?_
    intro T74 v74 L74 X74 hQ74
    obtain ⟨rfl, Nq74, eh74⟩ := hQ74
    have N74 := Fr.app N72 Nq74
    refine own_sh (T := T74) 405 #[.val (.int p1), .val (.int p2), .val (.int p3), .val (.int (p1 &&& (127 : Int32))), .val (.int (p2 &&& (127 : Int32))), .val (.int 0), .val (.ref b5), .val (.int 1), .val (.int 1), .val (.ref r_67), .val (.int 38)] [(.int 1)] ?_
    refine own_ifNo X74.here hx hby at_405 ((if0 _ _).trans (feq (show ¬ ((1 : Int32) = (0 : Int32)) from (by decide))).1) ?_
    refine own_aload X74.here hx hby at_408 rfl rfl ?_
    refine own_iload X74.here hx hby at_410 rfl ?_
    refine own_bipush X74.here hx hby at_412 (v := (60 : Int32)) (by decide) ?_
    refine own_callS X74 hx hZ55 hown55 (own_w hw 289 rfl) (own_w hw 290 rfl) (own_w hw 291 rfl) (own_w hw 292 rfl) (by decide) (at_ l Z a0 hw [] r_67 kr_67 (45 : Int32) (38 : Int32) (60 : Int32) ([(.int 60), (.int 63), (.int 120), (.int 109), (.int 108), (.int 32), (.int 118), (.int 101), (.int 114), (.int 115), (.int 105), (.int 111), (.int 110), (.int 61), (.int 34), (.int 49), (.int 46), (.int 48), (.int 34), (.int 32), (.int 101), (.int 110), (.int 99), (.int 111), (.int 100), (.int 105), (.int 110), (.int 103), (.int 61), (.int 34), (.int 85), (.int 84), (.int 70), (.int 45), (.int 56), (.int 34), (.int 63), (.int 62), (.int 60), (.int (p1 &&& (127 : Int32))), (.int 62), (.int 60), (.int 47), (.int (p1 &&& (127 : Int32))), (.int 62)]) T67.heap n0 z73 P67_1 ⟨by decide, by decide⟩ rfl) 0 (Nat.le_of_eq rfl) (by decide) (by decide) (by rw [hml]; rfl) (argsL := [(.ref r_67), (.int 38), (.int 60)]) (st := []) (lenOf pd_25 rfl) rfl rfl (by decide) (by decide) eh74 hby at_414 ?_
    intro T75 v75 L75 X75 hQ75
    obtain ⟨rfl, Nq75, eh75⟩ := hQ75
    have N75 := Fr.app N74 Nq75
    refine own_sh (T := T75) 417 #[.val (.int p1), .val (.int p2), .val (.int p3), .val (.int (p1 &&& (127 : Int32))), .val (.int (p2 &&& (127 : Int32))), .val (.int 0), .val (.ref b5), .val (.int 1), .val (.int 1), .val (.ref r_67), .val (.int 38)] [(.int 1)] ?_
    refine own_ifNo X75.here hx hby at_417 ((if0 _ _).trans (feq (show ¬ ((1 : Int32) = (0 : Int32)) from (by decide))).1) ?_
    refine own_aload X75.here hx hby at_420 rfl rfl ?_
    refine own_iload X75.here hx hby at_422 rfl ?_
    refine own_iconst X75.here hx hby at_424 (v := (1 : Int32)) (by decide) ?_
    refine own_iadd X75.here hx hby at_425 (v := (39 : Int32)) (by decide) ?_
    refine own_iloadN X75.here hx hby at_426 rfl ?_
    refine own_callS X75 hx hZ55 hown55 (own_w hw 289 rfl) (own_w hw 290 rfl) (own_w hw 291 rfl) (own_w hw 292 rfl) (by decide) (at_ l Z a0 hw [] r_67 kr_67 (45 : Int32) (39 : Int32) (p1 &&& (127 : Int32)) ([(.int 60), (.int 63), (.int 120), (.int 109), (.int 108), (.int 32), (.int 118), (.int 101), (.int 114), (.int 115), (.int 105), (.int 111), (.int 110), (.int 61), (.int 34), (.int 49), (.int 46), (.int 48), (.int 34), (.int 32), (.int 101), (.int 110), (.int 99), (.int 111), (.int 100), (.int 105), (.int 110), (.int 103), (.int 61), (.int 34), (.int 85), (.int 84), (.int 70), (.int 45), (.int 56), (.int 34), (.int 63), (.int 62), (.int 60), (.int (p1 &&& (127 : Int32))), (.int 62), (.int 60), (.int 47), (.int (p1 &&& (127 : Int32))), (.int 62)]) T67.heap n0 z73 P67_1 ⟨by decide, by decide⟩ rfl) 0 (Nat.le_of_eq rfl) (by decide) (by decide) (by rw [hml]; rfl) (argsL := [(.ref r_67), (.int 39), (.int (p1 &&& (127 : Int32)))]) (st := []) (lenOf pd_25 rfl) rfl rfl (by decide) (by decide) eh75 hby at_427 ?_
    intro T76 v76 L76 X76 hQ76
    obtain ⟨rfl, Nq76, eh76⟩ := hQ76
    have N76 := Fr.app N75 Nq76
    refine own_sh (T := T76) 430 #[.val (.int p1), .val (.int p2), .val (.int p3), .val (.int (p1 &&& (127 : Int32))), .val (.int (p2 &&& (127 : Int32))), .val (.int 0), .val (.ref b5), .val (.int 1), .val (.int 1), .val (.ref r_67), .val (.int 38)] [(.int 1)] ?_
    refine own_ifNo X76.here hx hby at_430 ((if0 _ _).trans (feq (show ¬ ((1 : Int32) = (0 : Int32)) from (by decide))).1) ?_
    refine own_aload X76.here hx hby at_433 rfl rfl ?_
    refine own_iload X76.here hx hby at_435 rfl ?_
    refine own_iconst X76.here hx hby at_437 (v := (2 : Int32)) (by decide) ?_
    refine own_iadd X76.here hx hby at_438 (v := (40 : Int32)) (by decide) ?_
    refine own_bipush X76.here hx hby at_439 (v := (62 : Int32)) (by decide) ?_
    refine own_callS X76 hx hZ55 hown55 (own_w hw 289 rfl) (own_w hw 290 rfl) (own_w hw 291 rfl) (own_w hw 292 rfl) (by decide) (at_ l Z a0 hw [] r_67 kr_67 (45 : Int32) (40 : Int32) (62 : Int32) ([(.int 60), (.int 63), (.int 120), (.int 109), (.int 108), (.int 32), (.int 118), (.int 101), (.int 114), (.int 115), (.int 105), (.int 111), (.int 110), (.int 61), (.int 34), (.int 49), (.int 46), (.int 48), (.int 34), (.int 32), (.int 101), (.int 110), (.int 99), (.int 111), (.int 100), (.int 105), (.int 110), (.int 103), (.int 61), (.int 34), (.int 85), (.int 84), (.int 70), (.int 45), (.int 56), (.int 34), (.int 63), (.int 62), (.int 60), (.int (p1 &&& (127 : Int32))), (.int 62), (.int 60), (.int 47), (.int (p1 &&& (127 : Int32))), (.int 62)]) T67.heap n0 z73 P67_1 ⟨by decide, by decide⟩ rfl) 0 (Nat.le_of_eq rfl) (by decide) (by decide) (by rw [hml]; rfl) (argsL := [(.ref r_67), (.int 40), (.int 62)]) (st := []) (lenOf pd_25 rfl) rfl rfl (by decide) (by decide) eh76 hby at_441 ?_
    intro T77 v77 L77 X77 hQ77
    obtain ⟨rfl, Nq77, eh77⟩ := hQ77
    have N77 := Fr.app N76 Nq77
    refine own_sh (T := T77) 444 #[.val (.int p1), .val (.int p2), .val (.int p3), .val (.int (p1 &&& (127 : Int32))), .val (.int (p2 &&& (127 : Int32))), .val (.int 0), .val (.ref b5), .val (.int 1), .val (.int 1), .val (.ref r_67), .val (.int 38)] [(.int 1)] ?_
    refine own_ifNo X77.here hx hby at_444 ((if0 _ _).trans (feq (show ¬ ((1 : Int32) = (0 : Int32)) from (by decide))).1) ?_
    refine own_aload X77.here hx hby at_447 rfl rfl ?_
    refine own_iload X77.here hx hby at_449 rfl ?_
    refine own_iconst X77.here hx hby at_451 (v := (3 : Int32)) (by decide) ?_
    refine own_iadd X77.here hx hby at_452 (v := (41 : Int32)) (by decide) ?_
    refine own_bipush X77.here hx hby at_453 (v := (60 : Int32)) (by decide) ?_
    refine own_callS X77 hx hZ55 hown55 (own_w hw 289 rfl) (own_w hw 290 rfl) (own_w hw 291 rfl) (own_w hw 292 rfl) (by decide) (at_ l Z a0 hw [] r_67 kr_67 (45 : Int32) (41 : Int32) (60 : Int32) ([(.int 60), (.int 63), (.int 120), (.int 109), (.int 108), (.int 32), (.int 118), (.int 101), (.int 114), (.int 115), (.int 105), (.int 111), (.int 110), (.int 61), (.int 34), (.int 49), (.int 46), (.int 48), (.int 34), (.int 32), (.int 101), (.int 110), (.int 99), (.int 111), (.int 100), (.int 105), (.int 110), (.int 103), (.int 61), (.int 34), (.int 85), (.int 84), (.int 70), (.int 45), (.int 56), (.int 34), (.int 63), (.int 62), (.int 60), (.int (p1 &&& (127 : Int32))), (.int 62), (.int 60), (.int 47), (.int (p1 &&& (127 : Int32))), (.int 62)]) T67.heap n0 z73 P67_1 ⟨by decide, by decide⟩ rfl) 0 (Nat.le_of_eq rfl) (by decide) (by decide) (by rw [hml]; rfl) (argsL := [(.ref r_67), (.int 41), (.int 60)]) (st := []) (lenOf pd_25 rfl) rfl rfl (by decide) (by decide) eh77 hby at_455 ?_
    intro T78 v78 L78 X78 hQ78
    obtain ⟨rfl, Nq78, eh78⟩ := hQ78
    have N78 := Fr.app N77 Nq78
    refine own_sh (T := T78) 458 #[.val (.int p1), .val (.int p2), .val (.int p3), .val (.int (p1 &&& (127 : Int32))), .val (.int (p2 &&& (127 : Int32))), .val (.int 0), .val (.ref b5), .val (.int 1), .val (.int 1), .val (.ref r_67), .val (.int 38)] [(.int 1)] ?_
    refine own_ifNo X78.here hx hby at_458 ((if0 _ _).trans (feq (show ¬ ((1 : Int32) = (0 : Int32)) from (by decide))).1) ?_
    refine own_aload X78.here hx hby at_461 rfl rfl ?_
    refine own_iload X78.here hx hby at_463 rfl ?_
    refine own_iconst X78.here hx hby at_465 (v := (4 : Int32)) (by decide) ?_
    refine own_iadd X78.here hx hby at_466 (v := (42 : Int32)) (by decide) ?_
    refine own_bipush X78.here hx hby at_467 (v := (47 : Int32)) (by decide) ?_
    refine own_callS X78 hx hZ55 hown55 (own_w hw 289 rfl) (own_w hw 290 rfl) (own_w hw 291 rfl) (own_w hw 292 rfl) (by decide) (at_ l Z a0 hw [] r_67 kr_67 (45 : Int32) (42 : Int32) (47 : Int32) ([(.int 60), (.int 63), (.int 120), (.int 109), (.int 108), (.int 32), (.int 118), (.int 101), (.int 114), (.int 115), (.int 105), (.int 111), (.int 110), (.int 61), (.int 34), (.int 49), (.int 46), (.int 48), (.int 34), (.int 32), (.int 101), (.int 110), (.int 99), (.int 111), (.int 100), (.int 105), (.int 110), (.int 103), (.int 61), (.int 34), (.int 85), (.int 84), (.int 70), (.int 45), (.int 56), (.int 34), (.int 63), (.int 62), (.int 60), (.int (p1 &&& (127 : Int32))), (.int 62), (.int 60), (.int 47), (.int (p1 &&& (127 : Int32))), (.int 62)]) T67.heap n0 z73 P67_1 ⟨by decide, by decide⟩ rfl) 0 (Nat.le_of_eq rfl) (by decide) (by decide) (by rw [hml]; rfl) (argsL := [(.ref r_67), (.int 42), (.int 47)]) (st := []) (lenOf pd_25 rfl) rfl rfl (by decide) (by decide) eh78 hby at_469 ?_
    intro T79 v79 L79 X79 hQ79
    obtain ⟨rfl, Nq79, eh79⟩ := hQ79
    have N79 := Fr.app N78 Nq79
    refine own_sh (T := T79) 472 #[.val (.int p1), .val (.int p2), .val (.int p3), .val (.int (p1 &&& (127 : Int32))), .val (.int (p2 &&& (127 : Int32))), .val (.int 0), .val (.ref b5), .val (.int 1), .val (.int 1), .val (.ref r_67), .val (.int 38)] [(.int 1)] ?_
    refine own_ifNo X79.here hx hby at_472 ((if0 _ _).trans (feq (show ¬ ((1 : Int32) = (0 : Int32)) from (by decide))).1) ?_
    refine own_aload X79.here hx hby at_475 rfl rfl ?_
    refine own_iload X79.here hx hby at_477 rfl ?_
    refine own_iconst X79.here hx hby at_479 (v := (5 : Int32)) (by decide) ?_
    refine own_iadd X79.here hx hby at_480 (v := (43 : Int32)) (by decide) ?_
    refine own_iloadN X79.here hx hby at_481 rfl ?_
    refine own_callS X79 hx hZ55 hown55 (own_w hw 289 rfl) (own_w hw 290 rfl) (own_w hw 291 rfl) (own_w hw 292 rfl) (by decide) (at_ l Z a0 hw [] r_67 kr_67 (45 : Int32) (43 : Int32) (p1 &&& (127 : Int32)) ([(.int 60), (.int 63), (.int 120), (.int 109), (.int 108), (.int 32), (.int 118), (.int 101), (.int 114), (.int 115), (.int 105), (.int 111), (.int 110), (.int 61), (.int 34), (.int 49), (.int 46), (.int 48), (.int 34), (.int 32), (.int 101), (.int 110), (.int 99), (.int 111), (.int 100), (.int 105), (.int 110), (.int 103), (.int 61), (.int 34), (.int 85), (.int 84), (.int 70), (.int 45), (.int 56), (.int 34), (.int 63), (.int 62), (.int 60), (.int (p1 &&& (127 : Int32))), (.int 62), (.int 60), (.int 47), (.int (p1 &&& (127 : Int32))), (.int 62)]) T67.heap n0 z73 P67_1 ⟨by decide, by decide⟩ rfl) 0 (Nat.le_of_eq rfl) (by decide) (by decide) (by rw [hml]; rfl) (argsL := [(.ref r_67), (.int 43), (.int (p1 &&& (127 : Int32)))]) (st := []) (lenOf pd_25 rfl) rfl rfl (by decide) (by decide) eh79 hby at_482 ?_
    intro T80 v80 L80 X80 hQ80
    obtain ⟨rfl, Nq80, eh80⟩ := hQ80
    have N80 := Fr.app N79 Nq80
    refine own_sh (T := T80) 485 #[.val (.int p1), .val (.int p2), .val (.int p3), .val (.int (p1 &&& (127 : Int32))), .val (.int (p2 &&& (127 : Int32))), .val (.int 0), .val (.ref b5), .val (.int 1), .val (.int 1), .val (.ref r_67), .val (.int 38)] [(.int 1)] ?_
    refine own_ifNo X80.here hx hby at_485 ((if0 _ _).trans (feq (show ¬ ((1 : Int32) = (0 : Int32)) from (by decide))).1) ?_
    refine own_aload X80.here hx hby at_488 rfl rfl ?_
    refine own_iload X80.here hx hby at_490 rfl ?_
    refine own_bipush X80.here hx hby at_492 (v := (6 : Int32)) (by decide) ?_
    refine own_iadd X80.here hx hby at_494 (v := (44 : Int32)) (by decide) ?_
    refine own_bipush X80.here hx hby at_495 (v := (62 : Int32)) (by decide) ?_
    refine own_callS X80 hx hZ55 hown55 (own_w hw 289 rfl) (own_w hw 290 rfl) (own_w hw 291 rfl) (own_w hw 292 rfl) (by decide) (at_ l Z a0 hw [] r_67 kr_67 (45 : Int32) (44 : Int32) (62 : Int32) ([(.int 60), (.int 63), (.int 120), (.int 109), (.int 108), (.int 32), (.int 118), (.int 101), (.int 114), (.int 115), (.int 105), (.int 111), (.int 110), (.int 61), (.int 34), (.int 49), (.int 46), (.int 48), (.int 34), (.int 32), (.int 101), (.int 110), (.int 99), (.int 111), (.int 100), (.int 105), (.int 110), (.int 103), (.int 61), (.int 34), (.int 85), (.int 84), (.int 70), (.int 45), (.int 56), (.int 34), (.int 63), (.int 62), (.int 60), (.int (p1 &&& (127 : Int32))), (.int 62), (.int 60), (.int 47), (.int (p1 &&& (127 : Int32))), (.int 62)]) T67.heap n0 z73 P67_1 ⟨by decide, by decide⟩ rfl) 0 (Nat.le_of_eq rfl) (by decide) (by decide) (by rw [hml]; rfl) (argsL := [(.ref r_67), (.int 44), (.int 62)]) (st := []) (lenOf pd_25 rfl) rfl rfl (by decide) (by decide) eh80 hby at_497 ?_
    intro T81 v81 L81 X81 hQ81
    obtain ⟨rfl, Nq81, eh81⟩ := hQ81
    have N81 := Fr.app N80 Nq81
    refine own_sh (T := T81) 500 #[.val (.int p1), .val (.int p2), .val (.int p3), .val (.int (p1 &&& (127 : Int32))), .val (.int (p2 &&& (127 : Int32))), .val (.int 0), .val (.ref b5), .val (.int 1), .val (.int 1), .val (.ref r_67), .val (.int 38)] [(.int 1)] ?_
    refine own_ifNo X81.here hx hby at_500 ((if0 _ _).trans (feq (show ¬ ((1 : Int32) = (0 : Int32)) from (by decide))).1) ?_
    refine own_iconst X81.here hx hby at_503 (v := (1 : Int32)) (by decide) ?_
    refine own_goto X81.here hx hby (pc' := 508) at_504 (by decide) (by decide) ?_
    obtain ⟨fs, hr, hrun, hended, hRW⟩ := X81.leaveW hS55 (by rw [eh81]; omega) (v := some (.int 1)) (fun h => by rw [Bd.returns] at h; cases h) Bd.notSynchronized
    have hCf : CHr Z consts_1 s.vm s.heap T81.vm T81.heap := by
      rw [hh, eh81]
      exact C70.trans (CHv.at X81 hZ55 hEL C70.1)
    refine own_ret (t := T81.setFrames fs) ?_ ⟨_, hrun, hended, _, _, rfl, ?_, hCf, hRW.1, hRW.2.1, hRW.2.2.1, hRW.2.2.2.mono (by decide) (by decide)⟩
    · exact retN X81 hx (t := .boolean) Bd.returns (by simp) (hb hby at_508) hr
    · show Q_rm0 Z _ _ _ _ _ h0 n0 _ T81.heap _
      rw [eh81]
      exact ⟨rfl, N81, trivial⟩
  · refine own_ifNo Y0.here hx hby at_16 ((if0 _ _).trans (feq hc16_4).1) ?_
    refine own_iconst Y0.here hx hby at_19 (v := (1 : Int32)) (by decide) ?_
    refine own_goto Y0.here hx hby (pc' := 24) at_20 (by decide) (by decide) ?_
    refine own_istore Y0.here hx hby at_24 (l' := #[.val (.int p1), .val (.int p2), .val (.int p3), .val (.int (p1 &&& (127 : Int32))), .val (.int (p2 &&& (127 : Int32))), .val (.int 1), .unset, .unset, .unset, .unset, .unset]) rfl ?_
    refine own_newO Y0 hx hZ hown (own_w hw 0 rfl) (own_w hw 1 rfl) (own_w hw 2 rfl) e0 hby at_26 (by decide) (by decide) ?_
    intro T82 h82 b82 X82 e82 E82 g82 A82 D82 lt82
    have z83 : h0.size ≤ h82.size := E82.1
    have C84 := C0.trans (CHr.ext E82 C0.1)
    have F85 : Fld Z h82 b82 "com/example/sluice/sluice/server/XmlWriter" "open" "Ljava/util/Deque;" .null := D82 (Or.inr (own_w hw 38 rfl)) (ty := (.object "java/util/Deque")) (by decide)
    have F86 : Fld Z h82 b82 "com/example/sluice/sluice/server/XmlWriter" "xml" "Ljava/lang/StringBuilder;" .null := D82 (Or.inr (own_w hw 113 rfl)) (ty := (.object "java/lang/StringBuilder")) (by decide)
    refine own_dup X82.here hx hby at_29 rfl ?_
    have f87 := (S_C.ext E82)
    have z89 : n0 ≤ h82.size := by omega
    refine own_specialH X82 hx hZ hEL rfl hown (own_w hw 3 rfl) (own_w hw 4 rfl) (own_w hw 2 rfl) (own_w hw 5 rfl) (by decide) (xwInit l Z a0 hw [] b82 zc h82 n0 z89 A82 (by omega) F85 F86 f87 hz) 1 (Nat.le_of_eq rfl) (by decide) (by decide) (by rw [hml]; rfl) (argsL := []) (st := [(.ref b82)]) (a := b82) (lenOf pd_13 rfl) rfl rfl (by decide) (by decide) e82 hby C84.1 hS0 (by omega) at_30 ?_
    intro T88 v88 L88 vm88 X88 hS88 hZ88 hown88 hg88 Cn88 hQ88
    obtain ⟨dq_88, el_88, sb_88, b_88, ke_88, kb_88, rfl, Nq88, K88, P88_0, P88_1, P88_2, P88_3, P88_4, P88_5, P88_6, P88_7, P88_8, P88_9, P88_10, P88_11, P88_12, P88_13, P88_14, P88_15, P88_16, P88_17⟩ := hQ88
    have N88 := Fr.app N0 Nq88
    have z90 : h82.size ≤ T88.heap.size := K88.1
    have C91 := C84.trans Cn88
    have lt92 : T88.heap.size > b82 := P88_4.lt
    have lt93 : T88.heap.size > dq_88 := P88_7.lt
    have lt94 : T88.heap.size > el_88 := P88_11.lt
    have lt95 : T88.heap.size > sb_88 := P88_13.lt
    have lt96 : T88.heap.size > b_88 := P88_17.lt
    refine own_sh (T := T88) 33 #[.val (.int p1), .val (.int p2), .val (.int p3), .val (.int (p1 &&& (127 : Int32))), .val (.int (p2 &&& (127 : Int32))), .val (.int 1), .unset, .unset, .unset, .unset, .unset] [(.ref b82)] ?_
    refine own_astore X88.here hx hby at_33 rfl (l' := #[.val (.int p1), .val (.int p2), .val (.int p3), .val (.int (p1 &&& (127 : Int32))), .val (.int (p2 &&& (127 : Int32))), .val (.int 1), .val (.ref b82), .unset, .unset, .unset, .unset]) rfl ?_
    refine own_aload X88.here hx hby at_35 rfl rfl ?_
    refine own_iloadN X88.here hx hby at_37 rfl ?_
    have f97 := (own_sta_keep f87 K88 (allS (own_exa_plain A82) all0))
    have z99 : n0 ≤ T88.heap.size := by omega
    refine own_callS X88 hx hZ88 hown88 (own_w hw 114 rfl) (own_w hw 115 rfl) (own_w hw 7 rfl) (own_w hw 116 rfl) (by decide) (valOf l Z a0 hw [] (p1 &&& (127 : Int32)) zc T88.heap n0 z99 f97 hz (own_c127 p1).2) 1 (Nat.le_of_eq rfl) (by decide) (by decide) (by rw [hml]; rfl) (argsL := [(.int (p1 &&& (127 : Int32)))]) (st := [(.ref b82)]) (lenOf pd_30 rfl) rfl rfl (by decide) (by decide) rfl hby at_38 ?_
    intro T98 v98 L98 X98 hQ98
    obtain ⟨x_98, t_98, kb_98, rfl, Nq98, K98, P98_0, P98_1, P98_2, P98_3, P98_4, P98_5, P98_6⟩ := hQ98
    have N98 := Fr.app N88 Nq98
    have z100 : T88.heap.size ≤ T98.heap.size := K98.1
    have C101 := C91.trans (CHr.keep K98 sf0 C91.1)
    have lt102 : T98.heap.size > x_98 := P98_3.lt
    have lt103 : T98.heap.size > t_98 := P98_6.lt
    refine own_sh (T := T98) 41 #[.val (.int p1), .val (.int p2), .val (.int p3), .val (.int (p1 &&& (127 : Int32))), .val (.int (p2 &&& (127 : Int32))), .val (.int 1), .val (.ref b82), .unset, .unset, .unset, .unset] [(.ref x_98), (.ref b82)] ?_
    have V104 : Arv Z T98.heap t_98 kb_98 .byte (Int32.ofNat ([(p1 &&& (127 : Int32))]).length) (own_b ([(p1 &&& (127 : Int32))])) (.int 0) := by
      have q := P98_6
      rw [own_low7 p1] at q
      exact q
    have f105 := (P88_4.keep K98)
    have f106 := (P88_5.keep K98 nin0)
    have f107 := (P88_6.keep K98 nin0)
    have f108 := (P88_7.keep K98)
    have f109 := (P88_8.keep K98 nin0)
    have f110 := (P88_9.keep K98 nin0)
    have f111 := (P88_10.keep K98 nin0)
    have f112 := (P88_11.keep K98 nin0)
    have f113 := (P88_13.keep K98)
    have f114 := (P88_14.keep K98 nin0)
    have f115 := (P88_15.keep K98 nin0)
    have f116 := (P88_16.keep K98 nin0)
    have f117 := (P88_17.keep K98 nin0)
    have f118 := (own_sta_keep f97 K98 all0)
    have z120 : n0 ≤ T98.heap.size := by omega
    refine own_virtual X98 hx hZ88 hown88 (own_w hw 130 rfl) (own_w hw 131 rfl) (notFace_of_selects (args := #[]) (mvT hZ88 (own_w hw 133 rfl))) (own_w hw 133 rfl) (own_w hw 132 rfl) (own_w hw 2 rfl) (own_w hw 134 rfl) (by decide) (start_0 l Z a0 hw [] b82 dq_88 el_88 sb_88 b_88 ke_88 kb_88 own_decl x_98 t_98 kb_98 (p1 &&& (127 : Int32)) zc T98.heap n0 z120 (by omega) (by omega) (by omega) (by omega) f105 f106 f107 f108 f109 f110 f111 f112 P88_12 f113 f114 f115 f116 f117 P98_3 P98_4 P98_5 V104 (own_nn (by omega)) f118 hz (by first | decide | (simp only [List.length_append, List.length_cons, List.length_nil]; decide))) 0 (Nat.le_of_eq rfl) (by decide) (by decide) (by rw [hml]; rfl) (argsL := [(.ref x_98)]) (st := []) f105 (lenOf pd_31 rfl) rfl rfl (by decide) (by decide) rfl hby at_41 ?_
    intro T119 v119 L119 X119 hQ119
    obtain ⟨rfl, Nq119, K119, P119_0, P119_1, P119_2, P119_3, P119_4, P119_5, P119_6, P119_7, P119_8, P119_9, P119_10, P119_11, P119_12, P119_13, P119_14, P119_15, P119_16, P119_17⟩ := hQ119
    have N119 := Fr.app N98 Nq119
    have z121 : T98.heap.size ≤ T119.heap.size := K119.1
    have C122 := C101.trans (CHr.keep K119 (sfS (Safe.exa hZ88.alike f108 (by decide) (by decide)) (sfS (Safe.arv hZ88.alike f112 (by decide)) (sfS (Safe.exa hZ88.alike f113 (by decide) (by decide)) (sfS (own_safe_len hZ88 (own_TL54 hw) f117) sf0)))) C101.1)
    have lt123 : T119.heap.size > b82 := P119_0.lt
    have lt124 : T119.heap.size > dq_88 := P119_3.lt
    have lt125 : T119.heap.size > el_88 := P119_7.lt
    have lt126 : T119.heap.size > sb_88 := P119_9.lt
    have lt127 : T119.heap.size > b_88 := P119_13.lt
    have lt128 : T119.heap.size > x_98 := P119_14.lt
    have lt129 : T119.heap.size > t_98 := P119_17.lt
    refine own_sh (T := T119) 44 #[.val (.int p1), .val (.int p2), .val (.int p3), .val (.int (p1 &&& (127 : Int32))), .val (.int (p2 &&& (127 : Int32))), .val (.int 1), .val (.ref b82), .unset, .unset, .unset, .unset] [(.ref b82)] ?_
    refine own_pop X119.here hx hby at_44 rfl ?_
    refine own_iconst X119.here hx hby at_45 (v := (1 : Int32)) (by decide) ?_
    refine own_istore X119.here hx hby at_46 (l' := #[.val (.int p1), .val (.int p2), .val (.int p3), .val (.int (p1 &&& (127 : Int32))), .val (.int (p2 &&& (127 : Int32))), .val (.int 1), .val (.ref b82), .val (.int 1), .unset, .unset, .unset]) rfl ?_
    refine own_iload X119.here hx hby at_48 rfl ?_
    refine own_ifNo X119.here hx hby at_50 ((if0 _ _).trans (feq (show ¬ ((1 : Int32) = (0 : Int32)) from (by decide))).1) ?_
    refine own_aload X119.here hx hby at_53 rfl rfl ?_
    refine own_iload X119.here hx hby at_55 rfl ?_
    have f130 := (own_sta_keep f118 K119 (allS (own_exa_plain f108) (allS (own_arv_plain f112) (allS (own_exa_plain f113) (allS (own_arv_plain f117) all0)))))
    have z132 : n0 ≤ T119.heap.size := by omega
    refine own_callS X119 hx hZ88 hown88 (own_w hw 114 rfl) (own_w hw 115 rfl) (own_w hw 7 rfl) (own_w hw 116 rfl) (by decide) (valOf l Z a0 hw [] (p2 &&& (127 : Int32)) zc T119.heap n0 z132 f130 hz (own_c127 p2).2) 1 (Nat.le_of_eq rfl) (by decide) (by decide) (by rw [hml]; rfl) (argsL := [(.int (p2 &&& (127 : Int32)))]) (st := [(.ref b82)]) (lenOf pd_30 rfl) rfl rfl (by decide) (by decide) rfl hby at_57 ?_
    intro T131 v131 L131 X131 hQ131
    obtain ⟨x_131, t_131, kb_131, rfl, Nq131, K131, P131_0, P131_1, P131_2, P131_3, P131_4, P131_5, P131_6⟩ := hQ131
    have N131 := Fr.app N119 Nq131
    have z133 : T119.heap.size ≤ T131.heap.size := K131.1
    have C134 := C122.trans (CHr.keep K131 sf0 C122.1)
    have lt135 : T131.heap.size > x_131 := P131_3.lt
    have lt136 : T131.heap.size > t_131 := P131_6.lt
    refine own_sh (T := T131) 60 #[.val (.int p1), .val (.int p2), .val (.int p3), .val (.int (p1 &&& (127 : Int32))), .val (.int (p2 &&& (127 : Int32))), .val (.int 1), .val (.ref b82), .val (.int 1), .unset, .unset, .unset] [(.ref x_131), (.ref b82)] ?_
    have V137 : Arv Z T131.heap t_131 kb_131 .byte (Int32.ofNat ([(p2 &&& (127 : Int32))]).length) (own_b ([(p2 &&& (127 : Int32))])) (.int 0) := by
      have q := P131_6
      rw [own_low7 p2] at q
      exact q
    have f138 := (P119_0.keep K131)
    have f139 := (P119_1.keep K131 nin0)
    have f140 := (P119_2.keep K131 nin0)
    have f141 := (P119_3.keep K131)
    have f142 := (P119_4.keep K131 nin0)
    have f143 := (P119_5.keep K131 nin0)
    have f144 := (P119_6.keep K131 nin0)
    have f145 := (P119_7.keep K131 nin0)
    have f146 := (P119_9.keep K131)
    have f147 := (P119_10.keep K131 nin0)
    have f148 := (P119_11.keep K131 nin0)
    have f149 := (P119_12.keep K131 nin0)
    have f150 := (P119_13.keep K131 nin0)
    have f151 := (own_sta_keep f130 K131 all0)
    have z153 : n0 ≤ T131.heap.size := by omega
    refine own_virtual X131 hx hZ88 hown88 (own_w hw 130 rfl) (own_w hw 131 rfl) (notFace_of_selects (args := #[]) (mvT hZ88 (own_w hw 133 rfl))) (own_w hw 133 rfl) (own_w hw 132 rfl) (own_w hw 2 rfl) (own_w hw 134 rfl) (by decide) (start_16 l Z a0 hw [] b82 dq_88 el_88 sb_88 b_88 ke_88 kb_88 (((own_decl ++ [(60 : Int32)]) ++ [(p1 &&& (127 : Int32))]) ++ [(62 : Int32)]) x_131 t_131 x_98 kb_131 (p2 &&& (127 : Int32)) zc T131.heap n0 z153 (by omega) (by omega) (by omega) (by omega) f138 f139 f140 f141 f142 f143 f144 f145 P119_8 f146 f147 f148 f149 f150 P131_3 P131_4 P131_5 V137 (own_nn (by omega)) f151 hz (by first | decide | (simp only [List.length_append, List.length_cons, List.length_nil]; decide))) 0 (Nat.le_of_eq rfl) (by decide) (by decide) (by rw [hml]; rfl) (argsL := [(.ref x_131)]) (st := []) f138 (lenOf pd_31 rfl) rfl rfl (by decide) (by decide) rfl hby at_60 ?_
    intro T152 v152 L152 X152 hQ152
    obtain ⟨rfl, Nq152, K152, P152_0, P152_1, P152_2, P152_3, P152_4, P152_5, P152_6, P152_7, P152_8, P152_9, P152_10, P152_11, P152_12, P152_13, P152_14, P152_15, P152_16, P152_17⟩ := hQ152
    have N152 := Fr.app N131 Nq152
    have z154 : T131.heap.size ≤ T152.heap.size := K152.1
    have C155 := C134.trans (CHr.keep K152 (sfS (Safe.exa hZ88.alike f141 (by decide) (by decide)) (sfS (Safe.arv hZ88.alike f145 (by decide)) (sfS (Safe.exa hZ88.alike f146 (by decide) (by decide)) (sfS (own_safe_len hZ88 (own_TL54 hw) f150) sf0)))) C134.1)
    have lt156 : T152.heap.size > b82 := P152_0.lt
    have lt157 : T152.heap.size > dq_88 := P152_3.lt
    have lt158 : T152.heap.size > el_88 := P152_7.lt
    have lt159 : T152.heap.size > sb_88 := P152_9.lt
    have lt160 : T152.heap.size > b_88 := P152_13.lt
    have lt161 : T152.heap.size > x_131 := P152_14.lt
    have lt162 : T152.heap.size > t_131 := P152_17.lt
    refine own_sh (T := T152) 63 #[.val (.int p1), .val (.int p2), .val (.int p3), .val (.int (p1 &&& (127 : Int32))), .val (.int (p2 &&& (127 : Int32))), .val (.int 1), .val (.ref b82), .val (.int 1), .unset, .unset, .unset] [(.ref b82)] ?_
    refine own_pop X152.here hx hby at_63 rfl ?_
    refine own_aload X152.here hx hby at_64 rfl rfl ?_
    have f163 := (own_sta_keep f151 K152 (allS (own_exa_plain f141) (allS (own_arv_plain f145) (allS (own_exa_plain f146) (allS (own_arv_plain f150) all0)))))
    have z165 : n0 ≤ T152.heap.size := by omega
    refine own_virtualH X152 hx hZ88 hEL hown88 (own_w hw 173 rfl) (own_w hw 174 rfl) (notFace_of_selects (args := #[]) (mvT hZ88 (own_w hw 176 rfl))) (own_w hw 176 rfl) (own_w hw 175 rfl) (own_w hw 2 rfl) (own_w hw 177 rfl) (by decide) (end_15 l Z a0 hw [] b82 dq_88 el_88 sb_88 b_88 ke_88 kb_88 ((((((own_decl ++ [(60 : Int32)]) ++ [(p1 &&& (127 : Int32))]) ++ [(62 : Int32)]) ++ [(60 : Int32)]) ++ [(p2 &&& (127 : Int32))]) ++ [(62 : Int32)]) t_131 x_131 x_98 kb_131 (p2 &&& (127 : Int32)) zc T152.heap n0 z165 (by omega) (by omega) (by omega) (by omega) P152_0 P152_1 P152_2 P152_3 P152_4 P152_5 P152_6 P152_7 P152_8 P152_9 P152_10 P152_11 P152_12 P152_13 P152_14 P152_15 P152_16 P152_17 (own_nn (by omega)) f163 hz (by first | decide | (simp only [List.length_append, List.length_cons, List.length_nil]; decide))) 0 (Nat.le_of_eq rfl) (by decide) (by decide) (by rw [hml]; rfl) (argsL := []) (st := []) P152_0 (lenOf pd_32 rfl) rfl rfl (by decide) (by decide) rfl hby C155.1 hS88 (by omega) at_66 ?_
    intro T164 v164 L164 vm164 X164 hS164 hZ164 hown164 hg164 Cn164 hQ164
    obtain ⟨rfl, Nq164, K164, P164_0, P164_1, P164_2, P164_3, P164_4, P164_5, P164_6, P164_7, P164_8, P164_9, P164_10, P164_11, P164_12, P164_13⟩ := hQ164
    have N164 := Fr.app N152 Nq164
    have z166 : T152.heap.size ≤ T164.heap.size := K164.1
    have C167 := C155.trans Cn164
    have lt168 : T164.heap.size > b82 := P164_0.lt
    have lt169 : T164.heap.size > dq_88 := P164_3.lt
    have lt170 : T164.heap.size > el_88 := P164_7.lt
    have lt171 : T164.heap.size > sb_88 := P164_9.lt
    have lt172 : T164.heap.size > b_88 := P164_13.lt
    refine own_sh (T := T164) 69 #[.val (.int p1), .val (.int p2), .val (.int p3), .val (.int (p1 &&& (127 : Int32))), .val (.int (p2 &&& (127 : Int32))), .val (.int 1), .val (.ref b82), .val (.int 1), .unset, .unset, .unset] [(.ref b82)] ?_
    refine own_aload X164.here hx hby at_69 rfl rfl ?_
    refine own_acmp X164 hx (same := true) (pc' := 74) hby at_71 rfl rfl (decide_eq_true rfl) (by decide) (by decide) ?_
    refine own_iconst X164.here hx hby at_74 (v := (1 : Int32)) (by decide) ?_
    refine own_goto X164.here hx hby (pc' := 79) at_75 (by decide) (by decide) ?_
    refine own_istore X164.here hx hby at_79 (l' := #[.val (.int p1), .val (.int p2), .val (.int p3), .val (.int (p1 &&& (127 : Int32))), .val (.int (p2 &&& (127 : Int32))), .val (.int 1), .val (.ref b82), .val (.int 1), .unset, .unset, .unset]) rfl ?_
    refine own_aload X164.here hx hby at_81 rfl rfl ?_
    have f173 := (((P119_14.keep K131).keep K152).keep K164)
    have f174 := (((P119_15.keep K131 nin0).keep K152 (ninS (own_nn (by omega)) (ninS (own_nn (by omega)) (ninS (own_nn (by omega)) (ninS (own_nn (by omega)) nin0))))).keep K164 (ninS (own_nn (by omega)) (ninS (own_nn (by omega)) (ninS (own_nn (by omega)) (ninS (own_nn (by omega)) nin0)))))
    have f175 := (((P119_16.keep K131 nin0).keep K152 (ninS (own_nn (by omega)) (ninS (own_nn (by omega)) (ninS (own_nn (by omega)) (ninS (own_nn (by omega)) nin0))))).keep K164 (ninS (own_nn (by omega)) (ninS (own_nn (by omega)) (ninS (own_nn (by omega)) (ninS (own_nn (by omega)) nin0)))))
    have f176 := (((P119_17.keep K131 nin0).keep K152 (ninS (own_nn (by omega)) (ninS (own_nn (by omega)) (ninS (own_nn (by omega)) (ninS (own_nn (by omega)) nin0))))).keep K164 (ninS (own_nn (by omega)) (ninS (own_nn (by omega)) (ninS (own_nn (by omega)) (ninS (own_nn (by omega)) nin0)))))
    have f177 := (own_sta_keep f163 K164 (allS (own_exa_plain P152_3) (allS (own_arv_plain P152_7) (allS (own_exa_plain P152_9) (allS (own_arv_plain P152_13) all0)))))
    have z179 : n0 ≤ T164.heap.size := by omega
    refine own_virtualH X164 hx hZ164 hEL hown164 (own_w hw 173 rfl) (own_w hw 174 rfl) (notFace_of_selects (args := #[]) (mvT hZ164 (own_w hw 176 rfl))) (own_w hw 176 rfl) (own_w hw 175 rfl) (own_w hw 2 rfl) (own_w hw 177 rfl) (by decide) (end_16 l Z a0 hw [] b82 dq_88 el_88 sb_88 b_88 ke_88 kb_88 (((((((((own_decl ++ [(60 : Int32)]) ++ [(p1 &&& (127 : Int32))]) ++ [(62 : Int32)]) ++ [(60 : Int32)]) ++ [(p2 &&& (127 : Int32))]) ++ [(62 : Int32)]) ++ ([60, 47] : List Int32)) ++ [(p2 &&& (127 : Int32))]) ++ [(62 : Int32)]) t_98 x_98 kb_98 (p1 &&& (127 : Int32)) zc T164.heap n0 z179 (by omega) (by omega) (by omega) (by omega) P164_0 P164_1 P164_2 P164_3 P164_4 P164_5 P164_6 P164_7 P164_8 P164_9 P164_10 P164_11 P164_12 P164_13 f173 f174 f175 f176 (own_nn (by omega)) f177 hz (by first | decide | (simp only [List.length_append, List.length_cons, List.length_nil]; decide))) 0 (Nat.le_of_eq rfl) (by decide) (by decide) (by rw [hml]; rfl) (argsL := []) (st := []) P164_0 (lenOf pd_32 rfl) rfl rfl (by decide) (by decide) rfl hby C167.1 hS164 (by omega) at_83 ?_
    intro T178 v178 L178 vm178 X178 hS178 hZ178 hown178 hg178 Cn178 hQ178
    obtain ⟨rfl, Nq178, K178, P178_0, P178_1, P178_2, P178_3, P178_4, P178_5, P178_6, P178_7, P178_8, P178_9, P178_10, P178_11, P178_12, P178_13⟩ := hQ178
    have N178 := Fr.app N164 Nq178
    have z180 : T164.heap.size ≤ T178.heap.size := K178.1
    have C181 := C167.trans Cn178
    have lt182 : T178.heap.size > b82 := P178_0.lt
    have lt183 : T178.heap.size > dq_88 := P178_3.lt
    have lt184 : T178.heap.size > el_88 := P178_7.lt
    have lt185 : T178.heap.size > sb_88 := P178_9.lt
    have lt186 : T178.heap.size > b_88 := P178_13.lt
    refine own_sh (T := T178) 86 #[.val (.int p1), .val (.int p2), .val (.int p3), .val (.int (p1 &&& (127 : Int32))), .val (.int (p2 &&& (127 : Int32))), .val (.int 1), .val (.ref b82), .val (.int 1), .unset, .unset, .unset] [(.ref b82)] ?_
    refine own_aload X178.here hx hby at_86 rfl rfl ?_
    refine own_acmp X178 hx (same := true) (pc' := 91) hby at_88 rfl rfl (decide_eq_true rfl) (by decide) (by decide) ?_
    refine own_iconst X178.here hx hby at_91 (v := (1 : Int32)) (by decide) ?_
    refine own_goto X178.here hx hby (pc' := 96) at_92 (by decide) (by decide) ?_
    refine own_istore X178.here hx hby at_96 (l' := #[.val (.int p1), .val (.int p2), .val (.int p3), .val (.int (p1 &&& (127 : Int32))), .val (.int (p2 &&& (127 : Int32))), .val (.int 1), .val (.ref b82), .val (.int 1), .val (.int 1), .unset, .unset]) rfl ?_
    refine own_aload X178.here hx hby at_98 rfl rfl ?_
    have f187 := (own_sta_keep f177 K178 (allS (own_exa_plain P164_3) (allS (own_arv_plain P164_7) (allS (own_exa_plain P164_9) (allS (own_arv_plain P164_13) all0)))))
    have f188 := (own_sta_keep (own_sta_keep (own_sta_keep (own_sta_keep (own_sta_keep (own_sta_keep (own_sta_keep (S_U8.ext E82) K88 (allS (own_exa_plain A82) all0)) K98 all0) K119 (allS (own_exa_plain f108) (allS (own_arv_plain f112) (allS (own_exa_plain f113) (allS (own_arv_plain f117) all0))))) K131 all0) K152 (allS (own_exa_plain f141) (allS (own_arv_plain f145) (allS (own_exa_plain f146) (allS (own_arv_plain f150) all0))))) K164 (allS (own_exa_plain P152_3) (allS (own_arv_plain P152_7) (allS (own_exa_plain P152_9) (allS (own_arv_plain P152_13) all0))))) K178 (allS (own_exa_plain P164_3) (allS (own_arv_plain P164_7) (allS (own_exa_plain P164_9) (allS (own_arv_plain P164_13) all0)))))
    have f189 := (own_sta_keep (own_sta_keep (own_sta_keep (own_sta_keep (own_sta_keep (own_sta_keep (own_sta_keep (S_IN.ext E82) K88 (allS (own_exa_plain A82) all0)) K98 all0) K119 (allS (own_exa_plain f108) (allS (own_arv_plain f112) (allS (own_exa_plain f113) (allS (own_arv_plain f117) all0))))) K131 all0) K152 (allS (own_exa_plain f141) (allS (own_arv_plain f145) (allS (own_exa_plain f146) (allS (own_arv_plain f150) all0))))) K164 (allS (own_exa_plain P152_3) (allS (own_arv_plain P152_7) (allS (own_exa_plain P152_9) (allS (own_arv_plain P152_13) all0))))) K178 (allS (own_exa_plain P164_3) (allS (own_arv_plain P164_7) (allS (own_exa_plain P164_9) (allS (own_arv_plain P164_13) all0)))))
    have z191 : n0 ≤ T178.heap.size := by omega
    refine own_virtual X178 hx hZ178 hown178 (own_w hw 204 rfl) (own_w hw 205 rfl) (notFace_of_selects (args := #[]) (mvT hZ178 (own_w hw 207 rfl))) (own_w hw 207 rfl) (own_w hw 206 rfl) (own_w hw 2 rfl) (own_w hw 208 rfl) (by decide) (toU8_1 l Z a0 hw [] b82 dq_88 el_88 sb_88 b_88 u8 ke_88 kb_88 (p1 &&& (127 : Int32)) (p2 &&& (127 : Int32)) zc T178.heap n0 z191 P178_0 P178_1 P178_2 P178_3 P178_4 P178_5 P178_6 P178_7 P178_8 P178_9 P178_10 P178_11 P178_12 P178_13 f187 hz f188 f189 (own_c127 p1).1 (own_c127 p2).1) 0 (Nat.le_of_eq rfl) (by decide) (by decide) (by rw [hml]; rfl) (argsL := []) (st := []) P178_0 (lenOf pd_21 rfl) rfl rfl (by decide) (by decide) rfl hby at_100 ?_
    intro T190 v190 L190 X190 hQ190
    obtain ⟨r_190, kr_190, rfl, Nq190, K190, P190_0, P190_1⟩ := hQ190
    have N190 := Fr.app N178 Nq190
    have z192 : T178.heap.size ≤ T190.heap.size := K190.1
    have C193 := C181.trans (CHr.keep K190 sf0 C181.1)
    have lt194 : T190.heap.size > r_190 := P190_1.lt
    refine own_sh (T := T190) 103 #[.val (.int p1), .val (.int p2), .val (.int p3), .val (.int (p1 &&& (127 : Int32))), .val (.int (p2 &&& (127 : Int32))), .val (.int 1), .val (.ref b82), .val (.int 1), .val (.int 1), .unset, .unset] [(.ref r_190)] ?_
    refine own_astore X190.here hx hby at_103 rfl (l' := #[.val (.int p1), .val (.int p2), .val (.int p3), .val (.int (p1 &&& (127 : Int32))), .val (.int (p2 &&& (127 : Int32))), .val (.int 1), .val (.ref b82), .val (.int 1), .val (.int 1), .val (.ref r_190), .unset]) rfl ?_
    refine own_bipush X190.here hx hby at_105 (v := (38 : Int32)) (by decide) ?_
    refine own_istore X190.here hx hby at_107 (l' := #[.val (.int p1), .val (.int p2), .val (.int p3), .val (.int (p1 &&& (127 : Int32))), .val (.int (p2 &&& (127 : Int32))), .val (.int 1), .val (.ref b82), .val (.int 1), .val (.int 1), .val (.ref r_190), .val (.int 38)]) rfl ?_
    refine own_iload X190.here hx hby at_109 rfl ?_
    refine own_ifNo X190.here hx hby at_111 ((if0 _ _).trans (feq (show ¬ ((1 : Int32) = (0 : Int32)) from (by decide))).1) ?_
    refine own_iload X190.here hx hby at_114 rfl ?_
    refine own_ifYes X190.here hx hby (pc' := 121) at_116 ((if0 _ _).trans (feq (show ¬ ((1 : Int32) = (0 : Int32)) from (by decide))).2) (by decide) (by decide) ?_
    refine own_iload X190.here hx hby at_121 rfl ?_
    refine own_ifNo X190.here hx hby at_123 ((if0 _ _).trans (feq (show ¬ ((1 : Int32) = (0 : Int32)) from (by decide))).1) ?_
    refine own_aload X190.here hx hby at_126 rfl rfl ?_
    refine own_alen X190 hx hZ178 rfl P190_1 hby at_128 ?_
    refine own_iload X190.here hx hby at_129 rfl ?_
    refine own_bipush X190.here hx hby at_131 (v := (14 : Int32)) (by decide) ?_
    refine own_iadd X190.here hx hby at_133 (v := (52 : Int32)) (by decide) ?_
    refine own_icmpYes X190.here hx hby (pc' := 139) at_134 (teq (show (52 : Int32) = (52 : Int32) from (by decide))).1 (by decide) (by decide) ?_
    refine own_aload X190.here hx hby at_139 rfl rfl ?_
    refine own_iconst X190.here hx hby at_141 (v := (0 : Int32)) (by decide) ?_
    refine own_bipush X190.here hx hby at_142 (v := (60 : Int32)) (by decide) ?_
    have z196 : n0 ≤ T190.heap.size := by omega
    refine own_callS X190 hx hZ178 hown178 (own_w hw 289 rfl) (own_w hw 290 rfl) (own_w hw 291 rfl) (own_w hw 292 rfl) (by decide) (at_ l Z a0 hw [] r_190 kr_190 (52 : Int32) (0 : Int32) (60 : Int32) ([(.int 60), (.int 63), (.int 120), (.int 109), (.int 108), (.int 32), (.int 118), (.int 101), (.int 114), (.int 115), (.int 105), (.int 111), (.int 110), (.int 61), (.int 34), (.int 49), (.int 46), (.int 48), (.int 34), (.int 32), (.int 101), (.int 110), (.int 99), (.int 111), (.int 100), (.int 105), (.int 110), (.int 103), (.int 61), (.int 34), (.int 85), (.int 84), (.int 70), (.int 45), (.int 56), (.int 34), (.int 63), (.int 62), (.int 60), (.int (p1 &&& (127 : Int32))), (.int 62), (.int 60), (.int (p2 &&& (127 : Int32))), (.int 62), (.int 60), (.int 47), (.int (p2 &&& (127 : Int32))), (.int 62), (.int 60), (.int 47), (.int (p1 &&& (127 : Int32))), (.int 62)]) T190.heap n0 z196 P190_1 ⟨by decide, by decide⟩ rfl) 0 (Nat.le_of_eq rfl) (by decide) (by decide) (by rw [hml]; rfl) (argsL := [(.ref r_190), (.int 0), (.int 60)]) (st := []) (lenOf pd_25 rfl) rfl rfl (by decide) (by decide) rfl hby at_144 ?_
    intro T195 v195 L195 X195 hQ195
    obtain ⟨rfl, Nq195, eh195⟩ := hQ195
    have N195 := Fr.app N190 Nq195
    refine own_sh (T := T195) 147 #[.val (.int p1), .val (.int p2), .val (.int p3), .val (.int (p1 &&& (127 : Int32))), .val (.int (p2 &&& (127 : Int32))), .val (.int 1), .val (.ref b82), .val (.int 1), .val (.int 1), .val (.ref r_190), .val (.int 38)] [(.int 1)] ?_
    refine own_ifNo X195.here hx hby at_147 ((if0 _ _).trans (feq (show ¬ ((1 : Int32) = (0 : Int32)) from (by decide))).1) ?_
    refine own_aload X195.here hx hby at_150 rfl rfl ?_
    refine own_iload X195.here hx hby at_152 rfl ?_
    refine own_iconst X195.here hx hby at_154 (v := (1 : Int32)) (by decide) ?_
    refine own_isub X195.here hx hby at_155 (v := (37 : Int32)) (by decide) ?_
    refine own_bipush X195.here hx hby at_156 (v := (62 : Int32)) (by decide) ?_
    refine own_callS X195 hx hZ178 hown178 (own_w hw 289 rfl) (own_w hw 290 rfl) (own_w hw 291 rfl) (own_w hw 292 rfl) (by decide) (at_ l Z a0 hw [] r_190 kr_190 (52 : Int32) (37 : Int32) (62 : Int32) ([(.int 60), (.int 63), (.int 120), (.int 109), (.int 108), (.int 32), (.int 118), (.int 101), (.int 114), (.int 115), (.int 105), (.int 111), (.int 110), (.int 61), (.int 34), (.int 49), (.int 46), (.int 48), (.int 34), (.int 32), (.int 101), (.int 110), (.int 99), (.int 111), (.int 100), (.int 105), (.int 110), (.int 103), (.int 61), (.int 34), (.int 85), (.int 84), (.int 70), (.int 45), (.int 56), (.int 34), (.int 63), (.int 62), (.int 60), (.int (p1 &&& (127 : Int32))), (.int 62), (.int 60), (.int (p2 &&& (127 : Int32))), (.int 62), (.int 60), (.int 47), (.int (p2 &&& (127 : Int32))), (.int 62), (.int 60), (.int 47), (.int (p1 &&& (127 : Int32))), (.int 62)]) T190.heap n0 z196 P190_1 ⟨by decide, by decide⟩ rfl) 0 (Nat.le_of_eq rfl) (by decide) (by decide) (by rw [hml]; rfl) (argsL := [(.ref r_190), (.int 37), (.int 62)]) (st := []) (lenOf pd_25 rfl) rfl rfl (by decide) (by decide) eh195 hby at_158 ?_
    intro T197 v197 L197 X197 hQ197
    obtain ⟨rfl, Nq197, eh197⟩ := hQ197
    have N197 := Fr.app N195 Nq197
    refine own_sh (T := T197) 161 #[.val (.int p1), .val (.int p2), .val (.int p3), .val (.int (p1 &&& (127 : Int32))), .val (.int (p2 &&& (127 : Int32))), .val (.int 1), .val (.ref b82), .val (.int 1), .val (.int 1), .val (.ref r_190), .val (.int 38)] [(.int 1)] ?_
    refine own_ifNo X197.here hx hby at_161 ((if0 _ _).trans (feq (show ¬ ((1 : Int32) = (0 : Int32)) from (by decide))).1) ?_
    refine own_aload X197.here hx hby at_164 rfl rfl ?_
    refine own_iload X197.here hx hby at_166 rfl ?_
    refine own_bipush X197.here hx hby at_168 (v := (60 : Int32)) (by decide) ?_
    refine own_callS X197 hx hZ178 hown178 (own_w hw 289 rfl) (own_w hw 290 rfl) (own_w hw 291 rfl) (own_w hw 292 rfl) (by decide) (at_ l Z a0 hw [] r_190 kr_190 (52 : Int32) (38 : Int32) (60 : Int32) ([(.int 60), (.int 63), (.int 120), (.int 109), (.int 108), (.int 32), (.int 118), (.int 101), (.int 114), (.int 115), (.int 105), (.int 111), (.int 110), (.int 61), (.int 34), (.int 49), (.int 46), (.int 48), (.int 34), (.int 32), (.int 101), (.int 110), (.int 99), (.int 111), (.int 100), (.int 105), (.int 110), (.int 103), (.int 61), (.int 34), (.int 85), (.int 84), (.int 70), (.int 45), (.int 56), (.int 34), (.int 63), (.int 62), (.int 60), (.int (p1 &&& (127 : Int32))), (.int 62), (.int 60), (.int (p2 &&& (127 : Int32))), (.int 62), (.int 60), (.int 47), (.int (p2 &&& (127 : Int32))), (.int 62), (.int 60), (.int 47), (.int (p1 &&& (127 : Int32))), (.int 62)]) T190.heap n0 z196 P190_1 ⟨by decide, by decide⟩ rfl) 0 (Nat.le_of_eq rfl) (by decide) (by decide) (by rw [hml]; rfl) (argsL := [(.ref r_190), (.int 38), (.int 60)]) (st := []) (lenOf pd_25 rfl) rfl rfl (by decide) (by decide) eh197 hby at_170 ?_
    intro T198 v198 L198 X198 hQ198
    obtain ⟨rfl, Nq198, eh198⟩ := hQ198
    have N198 := Fr.app N197 Nq198
    refine own_sh (T := T198) 173 #[.val (.int p1), .val (.int p2), .val (.int p3), .val (.int (p1 &&& (127 : Int32))), .val (.int (p2 &&& (127 : Int32))), .val (.int 1), .val (.ref b82), .val (.int 1), .val (.int 1), .val (.ref r_190), .val (.int 38)] [(.int 1)] ?_
    refine own_ifNo X198.here hx hby at_173 ((if0 _ _).trans (feq (show ¬ ((1 : Int32) = (0 : Int32)) from (by decide))).1) ?_
    refine own_aload X198.here hx hby at_176 rfl rfl ?_
    refine own_iload X198.here hx hby at_178 rfl ?_
    refine own_iconst X198.here hx hby at_180 (v := (1 : Int32)) (by decide) ?_
    refine own_iadd X198.here hx hby at_181 (v := (39 : Int32)) (by decide) ?_
    refine own_iloadN X198.here hx hby at_182 rfl ?_
    refine own_callS X198 hx hZ178 hown178 (own_w hw 289 rfl) (own_w hw 290 rfl) (own_w hw 291 rfl) (own_w hw 292 rfl) (by decide) (at_ l Z a0 hw [] r_190 kr_190 (52 : Int32) (39 : Int32) (p1 &&& (127 : Int32)) ([(.int 60), (.int 63), (.int 120), (.int 109), (.int 108), (.int 32), (.int 118), (.int 101), (.int 114), (.int 115), (.int 105), (.int 111), (.int 110), (.int 61), (.int 34), (.int 49), (.int 46), (.int 48), (.int 34), (.int 32), (.int 101), (.int 110), (.int 99), (.int 111), (.int 100), (.int 105), (.int 110), (.int 103), (.int 61), (.int 34), (.int 85), (.int 84), (.int 70), (.int 45), (.int 56), (.int 34), (.int 63), (.int 62), (.int 60), (.int (p1 &&& (127 : Int32))), (.int 62), (.int 60), (.int (p2 &&& (127 : Int32))), (.int 62), (.int 60), (.int 47), (.int (p2 &&& (127 : Int32))), (.int 62), (.int 60), (.int 47), (.int (p1 &&& (127 : Int32))), (.int 62)]) T190.heap n0 z196 P190_1 ⟨by decide, by decide⟩ rfl) 0 (Nat.le_of_eq rfl) (by decide) (by decide) (by rw [hml]; rfl) (argsL := [(.ref r_190), (.int 39), (.int (p1 &&& (127 : Int32)))]) (st := []) (lenOf pd_25 rfl) rfl rfl (by decide) (by decide) eh198 hby at_183 ?_
    intro T199 v199 L199 X199 hQ199
    obtain ⟨rfl, Nq199, eh199⟩ := hQ199
    have N199 := Fr.app N198 Nq199
    refine own_sh (T := T199) 186 #[.val (.int p1), .val (.int p2), .val (.int p3), .val (.int (p1 &&& (127 : Int32))), .val (.int (p2 &&& (127 : Int32))), .val (.int 1), .val (.ref b82), .val (.int 1), .val (.int 1), .val (.ref r_190), .val (.int 38)] [(.int 1)] ?_
    refine own_ifNo X199.here hx hby at_186 ((if0 _ _).trans (feq (show ¬ ((1 : Int32) = (0 : Int32)) from (by decide))).1) ?_
    refine own_aload X199.here hx hby at_189 rfl rfl ?_
    refine own_iload X199.here hx hby at_191 rfl ?_
    refine own_iconst X199.here hx hby at_193 (v := (2 : Int32)) (by decide) ?_
    refine own_iadd X199.here hx hby at_194 (v := (40 : Int32)) (by decide) ?_
    refine own_bipush X199.here hx hby at_195 (v := (62 : Int32)) (by decide) ?_
    refine own_callS X199 hx hZ178 hown178 (own_w hw 289 rfl) (own_w hw 290 rfl) (own_w hw 291 rfl) (own_w hw 292 rfl) (by decide) (at_ l Z a0 hw [] r_190 kr_190 (52 : Int32) (40 : Int32) (62 : Int32) ([(.int 60), (.int 63), (.int 120), (.int 109), (.int 108), (.int 32), (.int 118), (.int 101), (.int 114), (.int 115), (.int 105), (.int 111), (.int 110), (.int 61), (.int 34), (.int 49), (.int 46), (.int 48), (.int 34), (.int 32), (.int 101), (.int 110), (.int 99), (.int 111), (.int 100), (.int 105), (.int 110), (.int 103), (.int 61), (.int 34), (.int 85), (.int 84), (.int 70), (.int 45), (.int 56), (.int 34), (.int 63), (.int 62), (.int 60), (.int (p1 &&& (127 : Int32))), (.int 62), (.int 60), (.int (p2 &&& (127 : Int32))), (.int 62), (.int 60), (.int 47), (.int (p2 &&& (127 : Int32))), (.int 62), (.int 60), (.int 47), (.int (p1 &&& (127 : Int32))), (.int 62)]) T190.heap n0 z196 P190_1 ⟨by decide, by decide⟩ rfl) 0 (Nat.le_of_eq rfl) (by decide) (by decide) (by rw [hml]; rfl) (argsL := [(.ref r_190), (.int 40), (.int 62)]) (st := []) (lenOf pd_25 rfl) rfl rfl (by decide) (by decide) eh199 hby at_197 ?_
    intro T200 v200 L200 X200 hQ200
    obtain ⟨rfl, Nq200, eh200⟩ := hQ200
    have N200 := Fr.app N199 Nq200
    refine own_sh (T := T200) 200 #[.val (.int p1), .val (.int p2), .val (.int p3), .val (.int (p1 &&& (127 : Int32))), .val (.int (p2 &&& (127 : Int32))), .val (.int 1), .val (.ref b82), .val (.int 1), .val (.int 1), .val (.ref r_190), .val (.int 38)] [(.int 1)] ?_
    refine own_ifNo X200.here hx hby at_200 ((if0 _ _).trans (feq (show ¬ ((1 : Int32) = (0 : Int32)) from (by decide))).1) ?_
    refine own_aload X200.here hx hby at_203 rfl rfl ?_
    refine own_iload X200.here hx hby at_205 rfl ?_
    refine own_iconst X200.here hx hby at_207 (v := (3 : Int32)) (by decide) ?_
    refine own_iadd X200.here hx hby at_208 (v := (41 : Int32)) (by decide) ?_
    refine own_bipush X200.here hx hby at_209 (v := (60 : Int32)) (by decide) ?_
    refine own_callS X200 hx hZ178 hown178 (own_w hw 289 rfl) (own_w hw 290 rfl) (own_w hw 291 rfl) (own_w hw 292 rfl) (by decide) (at_ l Z a0 hw [] r_190 kr_190 (52 : Int32) (41 : Int32) (60 : Int32) ([(.int 60), (.int 63), (.int 120), (.int 109), (.int 108), (.int 32), (.int 118), (.int 101), (.int 114), (.int 115), (.int 105), (.int 111), (.int 110), (.int 61), (.int 34), (.int 49), (.int 46), (.int 48), (.int 34), (.int 32), (.int 101), (.int 110), (.int 99), (.int 111), (.int 100), (.int 105), (.int 110), (.int 103), (.int 61), (.int 34), (.int 85), (.int 84), (.int 70), (.int 45), (.int 56), (.int 34), (.int 63), (.int 62), (.int 60), (.int (p1 &&& (127 : Int32))), (.int 62), (.int 60), (.int (p2 &&& (127 : Int32))), (.int 62), (.int 60), (.int 47), (.int (p2 &&& (127 : Int32))), (.int 62), (.int 60), (.int 47), (.int (p1 &&& (127 : Int32))), (.int 62)]) T190.heap n0 z196 P190_1 ⟨by decide, by decide⟩ rfl) 0 (Nat.le_of_eq rfl) (by decide) (by decide) (by rw [hml]; rfl) (argsL := [(.ref r_190), (.int 41), (.int 60)]) (st := []) (lenOf pd_25 rfl) rfl rfl (by decide) (by decide) eh200 hby at_211 ?_
    intro T201 v201 L201 X201 hQ201
    obtain ⟨rfl, Nq201, eh201⟩ := hQ201
    have N201 := Fr.app N200 Nq201
    refine own_sh (T := T201) 214 #[.val (.int p1), .val (.int p2), .val (.int p3), .val (.int (p1 &&& (127 : Int32))), .val (.int (p2 &&& (127 : Int32))), .val (.int 1), .val (.ref b82), .val (.int 1), .val (.int 1), .val (.ref r_190), .val (.int 38)] [(.int 1)] ?_
    refine own_ifNo X201.here hx hby at_214 ((if0 _ _).trans (feq (show ¬ ((1 : Int32) = (0 : Int32)) from (by decide))).1) ?_
    refine own_aload X201.here hx hby at_217 rfl rfl ?_
    refine own_iload X201.here hx hby at_219 rfl ?_
    refine own_iconst X201.here hx hby at_221 (v := (4 : Int32)) (by decide) ?_
    refine own_iadd X201.here hx hby at_222 (v := (42 : Int32)) (by decide) ?_
    refine own_iload X201.here hx hby at_223 rfl ?_
    refine own_callS X201 hx hZ178 hown178 (own_w hw 289 rfl) (own_w hw 290 rfl) (own_w hw 291 rfl) (own_w hw 292 rfl) (by decide) (at_ l Z a0 hw [] r_190 kr_190 (52 : Int32) (42 : Int32) (p2 &&& (127 : Int32)) ([(.int 60), (.int 63), (.int 120), (.int 109), (.int 108), (.int 32), (.int 118), (.int 101), (.int 114), (.int 115), (.int 105), (.int 111), (.int 110), (.int 61), (.int 34), (.int 49), (.int 46), (.int 48), (.int 34), (.int 32), (.int 101), (.int 110), (.int 99), (.int 111), (.int 100), (.int 105), (.int 110), (.int 103), (.int 61), (.int 34), (.int 85), (.int 84), (.int 70), (.int 45), (.int 56), (.int 34), (.int 63), (.int 62), (.int 60), (.int (p1 &&& (127 : Int32))), (.int 62), (.int 60), (.int (p2 &&& (127 : Int32))), (.int 62), (.int 60), (.int 47), (.int (p2 &&& (127 : Int32))), (.int 62), (.int 60), (.int 47), (.int (p1 &&& (127 : Int32))), (.int 62)]) T190.heap n0 z196 P190_1 ⟨by decide, by decide⟩ rfl) 0 (Nat.le_of_eq rfl) (by decide) (by decide) (by rw [hml]; rfl) (argsL := [(.ref r_190), (.int 42), (.int (p2 &&& (127 : Int32)))]) (st := []) (lenOf pd_25 rfl) rfl rfl (by decide) (by decide) eh201 hby at_225 ?_
    intro T202 v202 L202 X202 hQ202
    obtain ⟨rfl, Nq202, eh202⟩ := hQ202
    have N202 := Fr.app N201 Nq202
    refine own_sh (T := T202) 228 #[.val (.int p1), .val (.int p2), .val (.int p3), .val (.int (p1 &&& (127 : Int32))), .val (.int (p2 &&& (127 : Int32))), .val (.int 1), .val (.ref b82), .val (.int 1), .val (.int 1), .val (.ref r_190), .val (.int 38)] [(.int 1)] ?_
    refine own_ifNo X202.here hx hby at_228 ((if0 _ _).trans (feq (show ¬ ((1 : Int32) = (0 : Int32)) from (by decide))).1) ?_
    refine own_aload X202.here hx hby at_231 rfl rfl ?_
    refine own_iload X202.here hx hby at_233 rfl ?_
    refine own_iconst X202.here hx hby at_235 (v := (5 : Int32)) (by decide) ?_
    refine own_iadd X202.here hx hby at_236 (v := (43 : Int32)) (by decide) ?_
    refine own_bipush X202.here hx hby at_237 (v := (62 : Int32)) (by decide) ?_
    refine own_callS X202 hx hZ178 hown178 (own_w hw 289 rfl) (own_w hw 290 rfl) (own_w hw 291 rfl) (own_w hw 292 rfl) (by decide) (at_ l Z a0 hw [] r_190 kr_190 (52 : Int32) (43 : Int32) (62 : Int32) ([(.int 60), (.int 63), (.int 120), (.int 109), (.int 108), (.int 32), (.int 118), (.int 101), (.int 114), (.int 115), (.int 105), (.int 111), (.int 110), (.int 61), (.int 34), (.int 49), (.int 46), (.int 48), (.int 34), (.int 32), (.int 101), (.int 110), (.int 99), (.int 111), (.int 100), (.int 105), (.int 110), (.int 103), (.int 61), (.int 34), (.int 85), (.int 84), (.int 70), (.int 45), (.int 56), (.int 34), (.int 63), (.int 62), (.int 60), (.int (p1 &&& (127 : Int32))), (.int 62), (.int 60), (.int (p2 &&& (127 : Int32))), (.int 62), (.int 60), (.int 47), (.int (p2 &&& (127 : Int32))), (.int 62), (.int 60), (.int 47), (.int (p1 &&& (127 : Int32))), (.int 62)]) T190.heap n0 z196 P190_1 ⟨by decide, by decide⟩ rfl) 0 (Nat.le_of_eq rfl) (by decide) (by decide) (by rw [hml]; rfl) (argsL := [(.ref r_190), (.int 43), (.int 62)]) (st := []) (lenOf pd_25 rfl) rfl rfl (by decide) (by decide) eh202 hby at_239 ?_
    intro T203 v203 L203 X203 hQ203
    obtain ⟨rfl, Nq203, eh203⟩ := hQ203
    have N203 := Fr.app N202 Nq203
    refine own_sh (T := T203) 242 #[.val (.int p1), .val (.int p2), .val (.int p3), .val (.int (p1 &&& (127 : Int32))), .val (.int (p2 &&& (127 : Int32))), .val (.int 1), .val (.ref b82), .val (.int 1), .val (.int 1), .val (.ref r_190), .val (.int 38)] [(.int 1)] ?_
    refine own_ifNo X203.here hx hby at_242 ((if0 _ _).trans (feq (show ¬ ((1 : Int32) = (0 : Int32)) from (by decide))).1) ?_
    refine own_aload X203.here hx hby at_245 rfl rfl ?_
    refine own_iload X203.here hx hby at_247 rfl ?_
    refine own_bipush X203.here hx hby at_249 (v := (6 : Int32)) (by decide) ?_
    refine own_iadd X203.here hx hby at_251 (v := (44 : Int32)) (by decide) ?_
    refine own_bipush X203.here hx hby at_252 (v := (60 : Int32)) (by decide) ?_
    refine own_callS X203 hx hZ178 hown178 (own_w hw 289 rfl) (own_w hw 290 rfl) (own_w hw 291 rfl) (own_w hw 292 rfl) (by decide) (at_ l Z a0 hw [] r_190 kr_190 (52 : Int32) (44 : Int32) (60 : Int32) ([(.int 60), (.int 63), (.int 120), (.int 109), (.int 108), (.int 32), (.int 118), (.int 101), (.int 114), (.int 115), (.int 105), (.int 111), (.int 110), (.int 61), (.int 34), (.int 49), (.int 46), (.int 48), (.int 34), (.int 32), (.int 101), (.int 110), (.int 99), (.int 111), (.int 100), (.int 105), (.int 110), (.int 103), (.int 61), (.int 34), (.int 85), (.int 84), (.int 70), (.int 45), (.int 56), (.int 34), (.int 63), (.int 62), (.int 60), (.int (p1 &&& (127 : Int32))), (.int 62), (.int 60), (.int (p2 &&& (127 : Int32))), (.int 62), (.int 60), (.int 47), (.int (p2 &&& (127 : Int32))), (.int 62), (.int 60), (.int 47), (.int (p1 &&& (127 : Int32))), (.int 62)]) T190.heap n0 z196 P190_1 ⟨by decide, by decide⟩ rfl) 0 (Nat.le_of_eq rfl) (by decide) (by decide) (by rw [hml]; rfl) (argsL := [(.ref r_190), (.int 44), (.int 60)]) (st := []) (lenOf pd_25 rfl) rfl rfl (by decide) (by decide) eh203 hby at_254 ?_
    intro T204 v204 L204 X204 hQ204
    obtain ⟨rfl, Nq204, eh204⟩ := hQ204
    have N204 := Fr.app N203 Nq204
    refine own_sh (T := T204) 257 #[.val (.int p1), .val (.int p2), .val (.int p3), .val (.int (p1 &&& (127 : Int32))), .val (.int (p2 &&& (127 : Int32))), .val (.int 1), .val (.ref b82), .val (.int 1), .val (.int 1), .val (.ref r_190), .val (.int 38)] [(.int 1)] ?_
    refine own_ifNo X204.here hx hby at_257 ((if0 _ _).trans (feq (show ¬ ((1 : Int32) = (0 : Int32)) from (by decide))).1) ?_
    refine own_aload X204.here hx hby at_260 rfl rfl ?_
    refine own_iload X204.here hx hby at_262 rfl ?_
    refine own_bipush X204.here hx hby at_264 (v := (7 : Int32)) (by decide) ?_
    refine own_iadd X204.here hx hby at_266 (v := (45 : Int32)) (by decide) ?_
    refine own_bipush X204.here hx hby at_267 (v := (47 : Int32)) (by decide) ?_
    refine own_callS X204 hx hZ178 hown178 (own_w hw 289 rfl) (own_w hw 290 rfl) (own_w hw 291 rfl) (own_w hw 292 rfl) (by decide) (at_ l Z a0 hw [] r_190 kr_190 (52 : Int32) (45 : Int32) (47 : Int32) ([(.int 60), (.int 63), (.int 120), (.int 109), (.int 108), (.int 32), (.int 118), (.int 101), (.int 114), (.int 115), (.int 105), (.int 111), (.int 110), (.int 61), (.int 34), (.int 49), (.int 46), (.int 48), (.int 34), (.int 32), (.int 101), (.int 110), (.int 99), (.int 111), (.int 100), (.int 105), (.int 110), (.int 103), (.int 61), (.int 34), (.int 85), (.int 84), (.int 70), (.int 45), (.int 56), (.int 34), (.int 63), (.int 62), (.int 60), (.int (p1 &&& (127 : Int32))), (.int 62), (.int 60), (.int (p2 &&& (127 : Int32))), (.int 62), (.int 60), (.int 47), (.int (p2 &&& (127 : Int32))), (.int 62), (.int 60), (.int 47), (.int (p1 &&& (127 : Int32))), (.int 62)]) T190.heap n0 z196 P190_1 ⟨by decide, by decide⟩ rfl) 0 (Nat.le_of_eq rfl) (by decide) (by decide) (by rw [hml]; rfl) (argsL := [(.ref r_190), (.int 45), (.int 47)]) (st := []) (lenOf pd_25 rfl) rfl rfl (by decide) (by decide) eh204 hby at_269 ?_
    intro T205 v205 L205 X205 hQ205
    obtain ⟨rfl, Nq205, eh205⟩ := hQ205
    have N205 := Fr.app N204 Nq205
    refine own_sh (T := T205) 272 #[.val (.int p1), .val (.int p2), .val (.int p3), .val (.int (p1 &&& (127 : Int32))), .val (.int (p2 &&& (127 : Int32))), .val (.int 1), .val (.ref b82), .val (.int 1), .val (.int 1), .val (.ref r_190), .val (.int 38)] [(.int 1)] ?_
    refine own_ifNo X205.here hx hby at_272 ((if0 _ _).trans (feq (show ¬ ((1 : Int32) = (0 : Int32)) from (by decide))).1) ?_
    refine own_aload X205.here hx hby at_275 rfl rfl ?_
    refine own_iload X205.here hx hby at_277 rfl ?_
    refine own_bipush X205.here hx hby at_279 (v := (8 : Int32)) (by decide) ?_
    refine own_iadd X205.here hx hby at_281 (v := (46 : Int32)) (by decide) ?_
    refine own_iload X205.here hx hby at_282 rfl ?_
    refine own_callS X205 hx hZ178 hown178 (own_w hw 289 rfl) (own_w hw 290 rfl) (own_w hw 291 rfl) (own_w hw 292 rfl) (by decide) (at_ l Z a0 hw [] r_190 kr_190 (52 : Int32) (46 : Int32) (p2 &&& (127 : Int32)) ([(.int 60), (.int 63), (.int 120), (.int 109), (.int 108), (.int 32), (.int 118), (.int 101), (.int 114), (.int 115), (.int 105), (.int 111), (.int 110), (.int 61), (.int 34), (.int 49), (.int 46), (.int 48), (.int 34), (.int 32), (.int 101), (.int 110), (.int 99), (.int 111), (.int 100), (.int 105), (.int 110), (.int 103), (.int 61), (.int 34), (.int 85), (.int 84), (.int 70), (.int 45), (.int 56), (.int 34), (.int 63), (.int 62), (.int 60), (.int (p1 &&& (127 : Int32))), (.int 62), (.int 60), (.int (p2 &&& (127 : Int32))), (.int 62), (.int 60), (.int 47), (.int (p2 &&& (127 : Int32))), (.int 62), (.int 60), (.int 47), (.int (p1 &&& (127 : Int32))), (.int 62)]) T190.heap n0 z196 P190_1 ⟨by decide, by decide⟩ rfl) 0 (Nat.le_of_eq rfl) (by decide) (by decide) (by rw [hml]; rfl) (argsL := [(.ref r_190), (.int 46), (.int (p2 &&& (127 : Int32)))]) (st := []) (lenOf pd_25 rfl) rfl rfl (by decide) (by decide) eh205 hby at_284 ?_
    intro T206 v206 L206 X206 hQ206
    obtain ⟨rfl, Nq206, eh206⟩ := hQ206
    have N206 := Fr.app N205 Nq206
    refine own_sh (T := T206) 287 #[.val (.int p1), .val (.int p2), .val (.int p3), .val (.int (p1 &&& (127 : Int32))), .val (.int (p2 &&& (127 : Int32))), .val (.int 1), .val (.ref b82), .val (.int 1), .val (.int 1), .val (.ref r_190), .val (.int 38)] [(.int 1)] ?_
    refine own_ifNo X206.here hx hby at_287 ((if0 _ _).trans (feq (show ¬ ((1 : Int32) = (0 : Int32)) from (by decide))).1) ?_
    refine own_aload X206.here hx hby at_290 rfl rfl ?_
    refine own_iload X206.here hx hby at_292 rfl ?_
    refine own_bipush X206.here hx hby at_294 (v := (9 : Int32)) (by decide) ?_
    refine own_iadd X206.here hx hby at_296 (v := (47 : Int32)) (by decide) ?_
    refine own_bipush X206.here hx hby at_297 (v := (62 : Int32)) (by decide) ?_
    refine own_callS X206 hx hZ178 hown178 (own_w hw 289 rfl) (own_w hw 290 rfl) (own_w hw 291 rfl) (own_w hw 292 rfl) (by decide) (at_ l Z a0 hw [] r_190 kr_190 (52 : Int32) (47 : Int32) (62 : Int32) ([(.int 60), (.int 63), (.int 120), (.int 109), (.int 108), (.int 32), (.int 118), (.int 101), (.int 114), (.int 115), (.int 105), (.int 111), (.int 110), (.int 61), (.int 34), (.int 49), (.int 46), (.int 48), (.int 34), (.int 32), (.int 101), (.int 110), (.int 99), (.int 111), (.int 100), (.int 105), (.int 110), (.int 103), (.int 61), (.int 34), (.int 85), (.int 84), (.int 70), (.int 45), (.int 56), (.int 34), (.int 63), (.int 62), (.int 60), (.int (p1 &&& (127 : Int32))), (.int 62), (.int 60), (.int (p2 &&& (127 : Int32))), (.int 62), (.int 60), (.int 47), (.int (p2 &&& (127 : Int32))), (.int 62), (.int 60), (.int 47), (.int (p1 &&& (127 : Int32))), (.int 62)]) T190.heap n0 z196 P190_1 ⟨by decide, by decide⟩ rfl) 0 (Nat.le_of_eq rfl) (by decide) (by decide) (by rw [hml]; rfl) (argsL := [(.ref r_190), (.int 47), (.int 62)]) (st := []) (lenOf pd_25 rfl) rfl rfl (by decide) (by decide) eh206 hby at_299 ?_
    intro T207 v207 L207 X207 hQ207
    obtain ⟨rfl, Nq207, eh207⟩ := hQ207
    have N207 := Fr.app N206 Nq207
    refine own_sh (T := T207) 302 #[.val (.int p1), .val (.int p2), .val (.int p3), .val (.int (p1 &&& (127 : Int32))), .val (.int (p2 &&& (127 : Int32))), .val (.int 1), .val (.ref b82), .val (.int 1), .val (.int 1), .val (.ref r_190), .val (.int 38)] [(.int 1)] ?_
    refine own_ifNo X207.here hx hby at_302 ((if0 _ _).trans (feq (show ¬ ((1 : Int32) = (0 : Int32)) from (by decide))).1) ?_
    refine own_aload X207.here hx hby at_305 rfl rfl ?_
    refine own_iload X207.here hx hby at_307 rfl ?_
    refine own_bipush X207.here hx hby at_309 (v := (10 : Int32)) (by decide) ?_
    refine own_iadd X207.here hx hby at_311 (v := (48 : Int32)) (by decide) ?_
    refine own_bipush X207.here hx hby at_312 (v := (60 : Int32)) (by decide) ?_
    refine own_callS X207 hx hZ178 hown178 (own_w hw 289 rfl) (own_w hw 290 rfl) (own_w hw 291 rfl) (own_w hw 292 rfl) (by decide) (at_ l Z a0 hw [] r_190 kr_190 (52 : Int32) (48 : Int32) (60 : Int32) ([(.int 60), (.int 63), (.int 120), (.int 109), (.int 108), (.int 32), (.int 118), (.int 101), (.int 114), (.int 115), (.int 105), (.int 111), (.int 110), (.int 61), (.int 34), (.int 49), (.int 46), (.int 48), (.int 34), (.int 32), (.int 101), (.int 110), (.int 99), (.int 111), (.int 100), (.int 105), (.int 110), (.int 103), (.int 61), (.int 34), (.int 85), (.int 84), (.int 70), (.int 45), (.int 56), (.int 34), (.int 63), (.int 62), (.int 60), (.int (p1 &&& (127 : Int32))), (.int 62), (.int 60), (.int (p2 &&& (127 : Int32))), (.int 62), (.int 60), (.int 47), (.int (p2 &&& (127 : Int32))), (.int 62), (.int 60), (.int 47), (.int (p1 &&& (127 : Int32))), (.int 62)]) T190.heap n0 z196 P190_1 ⟨by decide, by decide⟩ rfl) 0 (Nat.le_of_eq rfl) (by decide) (by decide) (by rw [hml]; rfl) (argsL := [(.ref r_190), (.int 48), (.int 60)]) (st := []) (lenOf pd_25 rfl) rfl rfl (by decide) (by decide) eh207 hby at_314 ?_
    intro T208 v208 L208 X208 hQ208
    obtain ⟨rfl, Nq208, eh208⟩ := hQ208
    have N208 := Fr.app N207 Nq208
    refine own_sh (T := T208) 317 #[.val (.int p1), .val (.int p2), .val (.int p3), .val (.int (p1 &&& (127 : Int32))), .val (.int (p2 &&& (127 : Int32))), .val (.int 1), .val (.ref b82), .val (.int 1), .val (.int 1), .val (.ref r_190), .val (.int 38)] [(.int 1)] ?_
    refine own_ifNo X208.here hx hby at_317 ((if0 _ _).trans (feq (show ¬ ((1 : Int32) = (0 : Int32)) from (by decide))).1) ?_
    refine own_aload X208.here hx hby at_320 rfl rfl ?_
    refine own_iload X208.here hx hby at_322 rfl ?_
    refine own_bipush X208.here hx hby at_324 (v := (11 : Int32)) (by decide) ?_
    refine own_iadd X208.here hx hby at_326 (v := (49 : Int32)) (by decide) ?_
    refine own_bipush X208.here hx hby at_327 (v := (47 : Int32)) (by decide) ?_
    refine own_callS X208 hx hZ178 hown178 (own_w hw 289 rfl) (own_w hw 290 rfl) (own_w hw 291 rfl) (own_w hw 292 rfl) (by decide) (at_ l Z a0 hw [] r_190 kr_190 (52 : Int32) (49 : Int32) (47 : Int32) ([(.int 60), (.int 63), (.int 120), (.int 109), (.int 108), (.int 32), (.int 118), (.int 101), (.int 114), (.int 115), (.int 105), (.int 111), (.int 110), (.int 61), (.int 34), (.int 49), (.int 46), (.int 48), (.int 34), (.int 32), (.int 101), (.int 110), (.int 99), (.int 111), (.int 100), (.int 105), (.int 110), (.int 103), (.int 61), (.int 34), (.int 85), (.int 84), (.int 70), (.int 45), (.int 56), (.int 34), (.int 63), (.int 62), (.int 60), (.int (p1 &&& (127 : Int32))), (.int 62), (.int 60), (.int (p2 &&& (127 : Int32))), (.int 62), (.int 60), (.int 47), (.int (p2 &&& (127 : Int32))), (.int 62), (.int 60), (.int 47), (.int (p1 &&& (127 : Int32))), (.int 62)]) T190.heap n0 z196 P190_1 ⟨by decide, by decide⟩ rfl) 0 (Nat.le_of_eq rfl) (by decide) (by decide) (by rw [hml]; rfl) (argsL := [(.ref r_190), (.int 49), (.int 47)]) (st := []) (lenOf pd_25 rfl) rfl rfl (by decide) (by decide) eh208 hby at_329 ?_
    intro T209 v209 L209 X209 hQ209
    obtain ⟨rfl, Nq209, eh209⟩ := hQ209
    have N209 := Fr.app N208 Nq209
    refine own_sh (T := T209) 332 #[.val (.int p1), .val (.int p2), .val (.int p3), .val (.int (p1 &&& (127 : Int32))), .val (.int (p2 &&& (127 : Int32))), .val (.int 1), .val (.ref b82), .val (.int 1), .val (.int 1), .val (.ref r_190), .val (.int 38)] [(.int 1)] ?_
    refine own_ifNo X209.here hx hby at_332 ((if0 _ _).trans (feq (show ¬ ((1 : Int32) = (0 : Int32)) from (by decide))).1) ?_
    refine own_aload X209.here hx hby at_335 rfl rfl ?_
    refine own_iload X209.here hx hby at_337 rfl ?_
    refine own_bipush X209.here hx hby at_339 (v := (12 : Int32)) (by decide) ?_
    refine own_iadd X209.here hx hby at_341 (v := (50 : Int32)) (by decide) ?_
    refine own_iloadN X209.here hx hby at_342 rfl ?_
    refine own_callS X209 hx hZ178 hown178 (own_w hw 289 rfl) (own_w hw 290 rfl) (own_w hw 291 rfl) (own_w hw 292 rfl) (by decide) (at_ l Z a0 hw [] r_190 kr_190 (52 : Int32) (50 : Int32) (p1 &&& (127 : Int32)) ([(.int 60), (.int 63), (.int 120), (.int 109), (.int 108), (.int 32), (.int 118), (.int 101), (.int 114), (.int 115), (.int 105), (.int 111), (.int 110), (.int 61), (.int 34), (.int 49), (.int 46), (.int 48), (.int 34), (.int 32), (.int 101), (.int 110), (.int 99), (.int 111), (.int 100), (.int 105), (.int 110), (.int 103), (.int 61), (.int 34), (.int 85), (.int 84), (.int 70), (.int 45), (.int 56), (.int 34), (.int 63), (.int 62), (.int 60), (.int (p1 &&& (127 : Int32))), (.int 62), (.int 60), (.int (p2 &&& (127 : Int32))), (.int 62), (.int 60), (.int 47), (.int (p2 &&& (127 : Int32))), (.int 62), (.int 60), (.int 47), (.int (p1 &&& (127 : Int32))), (.int 62)]) T190.heap n0 z196 P190_1 ⟨by decide, by decide⟩ rfl) 0 (Nat.le_of_eq rfl) (by decide) (by decide) (by rw [hml]; rfl) (argsL := [(.ref r_190), (.int 50), (.int (p1 &&& (127 : Int32)))]) (st := []) (lenOf pd_25 rfl) rfl rfl (by decide) (by decide) eh209 hby at_343 ?_
    intro T210 v210 L210 X210 hQ210
    obtain ⟨rfl, Nq210, eh210⟩ := hQ210
    have N210 := Fr.app N209 Nq210
    refine own_sh (T := T210) 346 #[.val (.int p1), .val (.int p2), .val (.int p3), .val (.int (p1 &&& (127 : Int32))), .val (.int (p2 &&& (127 : Int32))), .val (.int 1), .val (.ref b82), .val (.int 1), .val (.int 1), .val (.ref r_190), .val (.int 38)] [(.int 1)] ?_
    refine own_ifNo X210.here hx hby at_346 ((if0 _ _).trans (feq (show ¬ ((1 : Int32) = (0 : Int32)) from (by decide))).1) ?_
    refine own_aload X210.here hx hby at_349 rfl rfl ?_
    refine own_iload X210.here hx hby at_351 rfl ?_
    refine own_bipush X210.here hx hby at_353 (v := (13 : Int32)) (by decide) ?_
    refine own_iadd X210.here hx hby at_355 (v := (51 : Int32)) (by decide) ?_
    refine own_bipush X210.here hx hby at_356 (v := (62 : Int32)) (by decide) ?_
    refine own_callS X210 hx hZ178 hown178 (own_w hw 289 rfl) (own_w hw 290 rfl) (own_w hw 291 rfl) (own_w hw 292 rfl) (by decide) (at_ l Z a0 hw [] r_190 kr_190 (52 : Int32) (51 : Int32) (62 : Int32) ([(.int 60), (.int 63), (.int 120), (.int 109), (.int 108), (.int 32), (.int 118), (.int 101), (.int 114), (.int 115), (.int 105), (.int 111), (.int 110), (.int 61), (.int 34), (.int 49), (.int 46), (.int 48), (.int 34), (.int 32), (.int 101), (.int 110), (.int 99), (.int 111), (.int 100), (.int 105), (.int 110), (.int 103), (.int 61), (.int 34), (.int 85), (.int 84), (.int 70), (.int 45), (.int 56), (.int 34), (.int 63), (.int 62), (.int 60), (.int (p1 &&& (127 : Int32))), (.int 62), (.int 60), (.int (p2 &&& (127 : Int32))), (.int 62), (.int 60), (.int 47), (.int (p2 &&& (127 : Int32))), (.int 62), (.int 60), (.int 47), (.int (p1 &&& (127 : Int32))), (.int 62)]) T190.heap n0 z196 P190_1 ⟨by decide, by decide⟩ rfl) 0 (Nat.le_of_eq rfl) (by decide) (by decide) (by rw [hml]; rfl) (argsL := [(.ref r_190), (.int 51), (.int 62)]) (st := []) (lenOf pd_25 rfl) rfl rfl (by decide) (by decide) eh210 hby at_358 ?_
    intro T211 v211 L211 X211 hQ211
    obtain ⟨rfl, Nq211, eh211⟩ := hQ211
    have N211 := Fr.app N210 Nq211
    refine own_sh (T := T211) 361 #[.val (.int p1), .val (.int p2), .val (.int p3), .val (.int (p1 &&& (127 : Int32))), .val (.int (p2 &&& (127 : Int32))), .val (.int 1), .val (.ref b82), .val (.int 1), .val (.int 1), .val (.ref r_190), .val (.int 38)] [(.int 1)] ?_
    refine own_ifNo X211.here hx hby at_361 ((if0 _ _).trans (feq (show ¬ ((1 : Int32) = (0 : Int32)) from (by decide))).1) ?_
    refine own_iconst X211.here hx hby at_364 (v := (1 : Int32)) (by decide) ?_
    refine own_goto X211.here hx hby (pc' := 369) at_365 (by decide) (by decide) ?_
    obtain ⟨fs, hr, hrun, hended, hRW⟩ := X211.leaveW hS178 (by rw [eh211]; omega) (v := some (.int 1)) (fun h => by rw [Bd.returns] at h; cases h) Bd.notSynchronized
    have hCf : CHr Z consts_1 s.vm s.heap T211.vm T211.heap := by
      rw [hh, eh211]
      exact C193.trans (CHv.at X211 hZ178 hEL C193.1)
    refine own_ret (t := T211.setFrames fs) ?_ ⟨_, hrun, hended, _, _, rfl, ?_, hCf, hRW.1, hRW.2.1, hRW.2.2.1, hRW.2.2.2.mono (by decide) (by decide)⟩
    · exact retN X211 hx (t := .boolean) Bd.returns (by simp) (hb hby at_369) hr
    · show Q_rm0 Z _ _ _ _ _ h0 n0 _ T211.heap _
      rw [eh211]
      exact ⟨rfl, N211, trivial⟩
set_option maxRecDepth 65536 in
set_option maxHeartbeats 40000000 in
theorem comes_1 {Post : Tables → Env → Array Value → State → Outcome → State → Prop} (hpost : ∀ tb e args s v u, (limb_1_1.after args s (.returned v) u = true ∧ limb_1_2.after args s (.returned v) u = true ∧ True) → ReturnedEndW s (.returned v) u (Jvm.fieldLocs frame_1_writes args s ++ Jvm.arrayLocs frame_1_arrays args s ++ Jvm.staticLocs frame_1_statics s) 40 2560 → Post tb e args s (.returned v) u) :
    ArmFor flags0 classFile x code maxLocals ret World_1 tables_1 room_1 Calls_1 rest_1 Pre_1 Post := by
  intro l hfl _ _ p e ha hc hk s m args below hf hA hF happ hP
  obtain ⟨hcalls, hrest, hpre⟩ := hP
  obtain ⟨-, -, -, hnamed, -, -, -, hat⟩ := (Spec.applies_iff hf).mp happ
  obtain ⟨hg, hn⟩ := and_e (Cond.before_iff.mp (show (Jvm.Cond.and given_1 narrow_1).before args s = true from hpre))
  obtain ⟨g1, g2⟩ := and_e hg
  obtain ⟨g3, g4⟩ := and_e g2
  obtain ⟨g5, g6⟩ := and_e g4
  obtain ⟨w0, w1, w2, rfl⟩ : ∃ w0 w1 w2 : Value, args = #[w0, w1, w2] := by
    have hs : args.size = 3 := by simpa [Cond.value, given_1] using g1
    obtain ⟨L⟩ := args
    match L, hs with
    | [w0, w1, w2], _ => exact ⟨w0, w1, w2, rfl⟩
  have hw := fun d (hd : d ∈ tables_1) => atoms_spec (ws := Jvm.Cond.code x code maxLocals ret :: tables_1) hat d (List.mem_cons_of_mem _ hd)
  have hfit : Fit s := fun {y c} hc i hi => by
    obtain ⟨ha, rfl⟩ := Array.getElem?_eq_some_iff.mp hc
    have q := List.all_eq_true.mp ((Array.all_eq_true_iff_forall_mem.mp hF) _ (Array.getElem_mem ha)) i (List.mem_range.mpr hi)
    simpa [Array.getElem?_eq_getElem hi] using q
  obtain ⟨hsets, hown0⟩ := atoms_of _ (rest_1_c_eq ▸ (show rest_1_c.before _ s = true from hrest))
  have hr0 := Cond.before_iff.mp hown0
  obtain ⟨i0, ei0⟩ := is_v g3
  obtain rfl : w0 = (.int i0) := Option.some.inj ei0
  obtain ⟨i1, ei1⟩ := is_v g5
  obtain rfl : w1 = (.int i1) := Option.some.inj ei1
  obtain ⟨i2, ei2⟩ := is_v g6
  obtain rfl : w2 = (.int i2) := Option.some.inj ei2
  have hCS := Cond.before_iff.mp (hsets _ (List.mem_of_getElem? (i := 1) rfl))
  obtain ⟨zC, evC⟩ := is_v hCS
  have StC := Sta.start evC (Or.inl (hsets _ (List.mem_of_getElem? (i := 0) rfl)))
  have hzC : ¬ (zC = (0 : Int32)) := fun e => by
    have q := not_v (Cond.before_iff.mp (hsets _ (List.mem_of_getElem? (i := 2) rfl)))
    have r := eq_i evC (Term.int_eval (0)) (by rw [e])
    exact absurd (q.symm.trans r) (by decide)
  obtain ⟨u8, evU⟩ := exa_v (Cond.before_iff.mp (hsets _ (List.mem_of_getElem? (i := 14) rfl)))
  obtain ⟨u9, evI⟩ := exa_v (Cond.before_iff.mp (hsets _ (List.mem_of_getElem? (i := 17) rfl)))
  have qU := Cond.before_iff.mp (hsets _ (List.mem_of_getElem? (i := 13) rfl))
  have eU := Option.some.inj ((eq_R evU evI rfl rfl).symm.trans qU)
  obtain rfl : u8 = u9 := Value.ref.inj (of_decide_eq_true eU)
  have StU := Sta.start evU (Or.inl (hsets _ (List.mem_of_getElem? (i := 10) rfl)))
  have StI := Sta.start evI (Or.inl (hsets _ (List.mem_of_getElem? (i := 12) rfl)))
  have CHs : CHv s consts_1 s.vm s.heap := CHv.start (own_EW hw) (fun p hp => hcalls.1 p hp) (hsets _ (List.mem_of_getElem? (i := 2) rfl)) (own_w hw 9 rfl) (own_w hw 8 rfl)
  obtain ⟨n, o, h1, h2, h3, _, L, rfl, ⟨rfl, N, -⟩, -, hq⟩ := rm0 l s _ hw tables_1 i0 i1 i2 zC u8 s.heap s.heap.size (Nat.le_refl _) StC hzC StU StI p e ha hc hk s m _ below hf ((Spec.applies_iff_loose hf).mp happ).1 ⟨rfl, State.Warmed39.refl s, rfl, CHs⟩ trivial
  refine ⟨n, _, h1, h2, h3, hpost _ _ _ _ _ _ ⟨Cond.after_iff.mpr rfl, Cond.after_iff.mpr (eq_i res_at (Term.int_eval (1)) rfl), trivial⟩ ⟨hq.1, hq.2.1, hq.2.2.1, (hq.2.2.2.sift fun y hy => Or.inr (N y hy)).mono (by decide) (by decide)⟩⟩
theorem main_1_1 : Claimed_1_1 := comes_1 fun _ _ _ _ _ _ h hF => ⟨h.1, hF⟩
theorem main_1_2 : Claimed_1_2 := comes_1 fun _ _ _ _ _ _ h hF => ⟨h.2.1, hF⟩
end Jvm.Pilot.@@N@@
namespace Jvm.Pilot.@@N@@
open Jvm Jvm.ClassFile Sem Op Lib Jvm.Free Jvm.Stand Jvm.Pilot.@@N@@.Jvm.D
/-! MADE BY PROGRAM (witnessworld.py) out of the Statement's table words and the real class files: 37 classes; the members and pool entries that the words name. The judged class is class 1, her method 2. -/
namespace start1
open Jvm.ClassFile
def u (s : String) : CpInfo := .utf8 (stringToUtf16 s)
/-- a pool by its gaps: so many unusable entries, then the entry; so many at the end -/
def gap : Nat → List CpInfo → List CpInfo
  | 0, r => r
  | n + 1, r => .unusable :: gap n r
def poolList (es : List (Nat × CpInfo)) (last : Nat) : List CpInfo := es.foldr (fun e r => gap e.1 (e.2 :: r)) (gap last [])
def pool (es : List (Nat × CpInfo)) (last : Nat) : Array CpInfo := ⟨poolList es last⟩
def fileOf (pool : Array CpInfo) (this : Nat) (attrs : Array Attribute := #[]) (ms : Array MethodInfo := #[]) (fl : Nat := 33) (sup : Nat := 0) (ifs : Array Nat := #[]) (fds : Array FieldInfo := #[]) : ClassFile where
  minorVersion := 0
  majorVersion := 65
  constantPool := pool
  accessFlags := fl
  thisClass := this
  superClass := sup
  interfaces := ifs
  fields := fds
  methods := ms
  attributes := attrs
def plain (name : String) (sup : Option ClassId) : Class where
  name := name
  kind := .ordinary
  loader := none
  accessFlags := 33
  super := sup
  interfaces := #[]
  cf := none
  fields := #[]
  methods := #[]
  instanceTypes := #[]
  staticTypes := #[]
  resolved := #[]
  callSites := []
  init := .initialized
  statics := none
  mirror := none

def pool0 : Array CpInfo := pool [(5, u "<init>"), (0, u "()V"), (1, .class_ 10), (1, u "java/lang/Object"), (85, u "clone"), (0, u "()Ljava/lang/Object;")] 26

def k0c0 : Code := { maxStack := 0, maxLocals := 1, code := object_method_1_code, exceptionTable := #[], attributes := #[] }
def k0m0 : Method := { name := "<init>", desc := "()V", sig := { parameters := [], returnType := none }, accessFlags := 1, code := some k0c0 }
def k0m1 : Method := { name := "clone", desc := "()Ljava/lang/Object;", sig := { parameters := [], returnType := some (.object "java/lang/Object") }, accessFlags := 260, code := none }
/-- java/lang/Object -/
def k0 : Class := { plain "java/lang/Object" none with
  accessFlags := 33
  interfaces := #[]
  cf := some (fileOf pool0 8 #[] #[{ accessFlags := 1, nameIndex := 5, descriptorIndex := 6, attributes := #[] }, { accessFlags := 260, nameIndex := 96, descriptorIndex := 97, attributes := #[] }] 33 0 #[] #[])
  fields := #[]
  methods := #[k0m0, k0m1]
  instanceTypes := #[]
  staticTypes := #[]
  resolved := Array.replicate 124 none
  statics := none }

def pool1 : Array CpInfo := pool [(2, .class_ 4), (0, .nameAndType 5 6), (0, u "java/lang/Object"), (0, u "<init>"), (0, u "()V"), (0, .class_ 8), (0, u "com/example/sluice/sluice/server/XmlWriter"), (0, .methodref 7 3), (0, .methodref 11 12), (0, .class_ 13), (0, .nameAndType 14 15), (0, u "java/lang/String"), (0, u "valueOf"), (0, u "(C)Ljava/lang/String;"), (0, .methodref 7 17), (0, .nameAndType 18 19), (0, u "start"), (0, u "(Ljava/lang/String;)Lcom/example/sluice/sluice/server/XmlWriter;"), (0, .methodref 7 21), (0, .nameAndType 22 23), (0, u "end"), (0, u "()Lcom/example/sluice/sluice/server/XmlWriter;"), (0, .methodref 7 25), (0, .nameAndType 26 27), (0, u "toUtf8"), (0, u "()[B"), (0, .methodref 29 30), (0, .class_ 31), (0, .nameAndType 32 33), (0, u "com/example/sluice/sluice/server/XmlWriterEndPinLaw"), (0, u "at"), (0, u "([BII)Z"), (3, u "law"), (0, u "(III)Z")] 4

def k1m0 : Method := { name := "<init>", desc := "()V", sig := { parameters := [], returnType := none }, accessFlags := 1, code := none }
def k1c1 : Code := { maxStack := 2, maxLocals := 3, code := method_2_code, exceptionTable := #[], attributes := #[] }
def k1m1 : Method := { name := "at", desc := "([BII)Z", sig := { parameters := [(.array .byte), .int, .int], returnType := some .boolean }, accessFlags := 10, code := some k1c1 }
def k1c2 : Code := { maxStack := 3, maxLocals := 11, code := code, exceptionTable := #[], attributes := #[] }
def k1m2 : Method := { name := "law", desc := "(III)Z", sig := { parameters := [.int, .int, .int], returnType := some .boolean }, accessFlags := 9, code := some k1c2 }
/-- com/example/sluice/sluice/server/XmlWriterEndPinLaw -/
def k1 : Class := { plain "com/example/sluice/sluice/server/XmlWriterEndPinLaw" (some 0) with
  accessFlags := 49
  interfaces := #[]
  cf := some (fileOf pool1 29 #[] #[{ accessFlags := 1, nameIndex := 5, descriptorIndex := 6, attributes := #[] }, { accessFlags := 10, nameIndex := 32, descriptorIndex := 33, attributes := #[] }, { accessFlags := 9, nameIndex := 37, descriptorIndex := 38, attributes := #[] }] 49 2 #[] #[])
  fields := #[]
  methods := #[k1m0, k1m1, k1m2]
  instanceTypes := #[]
  staticTypes := #[]
  resolved := Array.replicate 43 none
  statics := none }

def pool2 : Array CpInfo := pool [(1, .string 2), (0, u "<?xml version=\"1.0\" encoding=\"UTF-8\"?>"), (0, .methodref 4 5), (0, .class_ 6), (0, .nameAndType 7 8), (0, u "com/example/sluice/sluice/server/XmlWriter"), (0, u "<init>"), (0, u "(Ljava/lang/String;)V"), (0, .methodref 10 11), (0, .class_ 12), (0, .nameAndType 7 13), (0, u "java/lang/Object"), (0, u "()V"), (0, .class_ 15), (0, u "java/util/ArrayDeque"), (0, .methodref 14 11), (0, .fieldref 4 18), (0, .nameAndType 19 20), (0, u "open"), (0, u "Ljava/util/Deque;"), (0, .class_ 22), (0, u "java/lang/StringBuilder"), (0, .methodref 21 5), (0, .fieldref 4 25), (0, .nameAndType 26 27), (0, u "xml"), (0, u "Ljava/lang/StringBuilder;"), (2, .methodref 21 31), (0, .nameAndType 32 33), (0, u "append"), (0, u "(C)Ljava/lang/StringBuilder;"), (0, .methodref 21 35), (0, .nameAndType 32 36), (0, u "(Ljava/lang/String;)Ljava/lang/StringBuilder;"), (4, .interfaceMethodref 42 43), (0, .class_ 44), (0, .nameAndType 45 46), (0, u "java/util/Deque"), (0, u "push"), (0, u "(Ljava/lang/Object;)V"), (3, .string 51), (0, u "</"), (0, .interfaceMethodref 42 53), (0, .nameAndType 54 55), (0, u "pop"), (0, u "()Ljava/lang/Object;"), (0, .class_ 57), (0, u "java/lang/String"), (0, .interfaceMethodref 42 59), (0, .nameAndType 60 61), (0, u "isEmpty"), (0, u "()Z"), (10, .methodref 21 73), (0, .nameAndType 74 75), (0, u "toString"), (0, u "()Ljava/lang/String;"), (0, .fieldref 77 78), (0, .class_ 79), (0, .nameAndType 80 81), (0, u "java/nio/charset/StandardCharsets"), (0, u "UTF_8"), (0, u "Ljava/nio/charset/Charset;"), (0, .methodref 56 83), (0, .nameAndType 84 85), (0, u "getBytes"), (0, u "(Ljava/nio/charset/Charset;)[B"), (39, u "()Lcom/example/sluice/sluice/server/XmlWriter;"), (2, u "start"), (0, u "(Ljava/lang/String;)Lcom/example/sluice/sluice/server/XmlWriter;"), (1, u "end"), (0, u "toUtf8"), (0, u "()[B")] 18

def k2c0 : Code := { maxStack := 2, maxLocals := 1, code := prog_22_method_1_code, exceptionTable := #[], attributes := #[] }
def k2m0 : Method := { name := "<init>", desc := "()V", sig := { parameters := [], returnType := none }, accessFlags := 0, code := some k2c0 }
def k2c1 : Code := { maxStack := 4, maxLocals := 2, code := prog_22_method_2_code, exceptionTable := #[], attributes := #[] }
def k2m1 : Method := { name := "<init>", desc := "(Ljava/lang/String;)V", sig := { parameters := [(.object "java/lang/String")], returnType := none }, accessFlags := 2, code := some k2c1 }
def k2c2 : Code := { maxStack := 2, maxLocals := 2, code := prog_22_method_5_code, exceptionTable := #[], attributes := #[] }
def k2m2 : Method := { name := "start", desc := "(Ljava/lang/String;)Lcom/example/sluice/sluice/server/XmlWriter;", sig := { parameters := [(.object "java/lang/String")], returnType := some (.object "com/example/sluice/sluice/server/XmlWriter") }, accessFlags := 0, code := some k2c2 }
def k2c3 : Code := { maxStack := 2, maxLocals := 1, code := prog_22_method_7_code, exceptionTable := #[], attributes := #[] }
def k2m3 : Method := { name := "end", desc := "()Lcom/example/sluice/sluice/server/XmlWriter;", sig := { parameters := [], returnType := some (.object "com/example/sluice/sluice/server/XmlWriter") }, accessFlags := 0, code := some k2c3 }
def k2c4 : Code := { maxStack := 3, maxLocals := 1, code := prog_22_method_8_code, exceptionTable := #[], attributes := #[] }
def k2m4 : Method := { name := "toUtf8", desc := "()[B", sig := { parameters := [], returnType := some (.array .byte) }, accessFlags := 0, code := some k2c4 }
/-- com/example/sluice/sluice/server/XmlWriter -/
def k2 : Class := { plain "com/example/sluice/sluice/server/XmlWriter" (some 0) with
  accessFlags := 48
  interfaces := #[]
  cf := some (fileOf pool2 4 #[] #[{ accessFlags := 0, nameIndex := 7, descriptorIndex := 13, attributes := #[] }, { accessFlags := 2, nameIndex := 7, descriptorIndex := 8, attributes := #[] }, { accessFlags := 0, nameIndex := 128, descriptorIndex := 129, attributes := #[] }, { accessFlags := 0, nameIndex := 131, descriptorIndex := 125, attributes := #[] }, { accessFlags := 0, nameIndex := 132, descriptorIndex := 133, attributes := #[] }] 48 10 #[] #[{ accessFlags := 18, nameIndex := 26, descriptorIndex := 27, attributes := #[] }, { accessFlags := 18, nameIndex := 19, descriptorIndex := 20, attributes := #[] }])
  fields := #[{ name := "xml", type := (.object "java/lang/StringBuilder"), accessFlags := 18, slot := 0, constantValue := 0 }, { name := "open", type := (.object "java/util/Deque"), accessFlags := 18, slot := 1, constantValue := 0 }]
  methods := #[k2m0, k2m1, k2m2, k2m3, k2m4]
  instanceTypes := #[(.object "java/lang/StringBuilder"), (.object "java/util/Deque")]
  staticTypes := #[]
  resolved := Array.replicate 152 none
  statics := none }

def pool3 : Array CpInfo := pool [(1, .class_ 2), (0, u "java/io/Serializable"), (0, .class_ 4), (0, u "java/lang/Object")] 2

/-- java/io/Serializable -/
def k3 : Class := { plain "java/io/Serializable" (some 0) with
  accessFlags := 1537
  interfaces := #[]
  cf := some (fileOf pool3 1 #[] #[] 1537 3 #[] #[])
  fields := #[]
  methods := #[]
  instanceTypes := #[]
  staticTypes := #[]
  resolved := Array.replicate 7 none
  statics := none }

def pool4 : Array CpInfo := pool [(1, .class_ 2), (0, u "java/lang/Comparable"), (0, .class_ 4), (0, u "java/lang/Object")] 7

/-- java/lang/Comparable -/
def k4 : Class := { plain "java/lang/Comparable" (some 0) with
  accessFlags := 1537
  interfaces := #[]
  cf := some (fileOf pool4 1 #[] #[] 1537 3 #[] #[])
  fields := #[]
  methods := #[]
  instanceTypes := #[]
  staticTypes := #[]
  resolved := Array.replicate 12 none
  statics := none }

def pool5 : Array CpInfo := pool [(2, .class_ 4), (1, u "java/lang/CharSequence"), (42, .class_ 48), (0, u "java/lang/CharSequence$1CodePointIterator"), (10, .class_ 60), (0, u "java/lang/CharSequence$1CharIterator"), (5, .class_ 67), (0, u "java/lang/Object")] 63

/-- java/lang/CharSequence -/
def k5 : Class := { plain "java/lang/CharSequence" (some 0) with
  accessFlags := 1537
  interfaces := #[]
  cf := some (fileOf pool5 2 #[.nestMembers #[47, 59]] #[] 1537 66 #[] #[])
  fields := #[]
  methods := #[]
  instanceTypes := #[]
  staticTypes := #[]
  resolved := Array.replicate 131 none
  statics := none }

def pool6 : Array CpInfo := pool [(1, .class_ 2), (0, u "java/lang/constant/Constable"), (0, .class_ 4), (0, u "java/lang/Object")] 6

/-- java/lang/constant/Constable -/
def k6 : Class := { plain "java/lang/constant/Constable" (some 0) with
  accessFlags := 1537
  interfaces := #[]
  cf := some (fileOf pool6 1 #[] #[] 1537 3 #[] #[])
  fields := #[]
  methods := #[]
  instanceTypes := #[]
  staticTypes := #[]
  resolved := Array.replicate 11 none
  statics := none }

def pool7 : Array CpInfo := pool [(1, .class_ 2), (0, u "java/lang/constant/ConstantDesc"), (0, .class_ 4), (0, u "java/lang/Object")] 32

/-- java/lang/constant/ConstantDesc -/
def k7 : Class := { plain "java/lang/constant/ConstantDesc" (some 0) with
  accessFlags := 1537
  interfaces := #[]
  cf := some (fileOf pool7 1 #[] #[] 1537 3 #[] #[])
  fields := #[]
  methods := #[]
  instanceTypes := #[]
  staticTypes := #[]
  resolved := Array.replicate 37 none
  statics := none }

def pool8 : Array CpInfo := pool [(1, .methodref 2 3), (0, .class_ 4), (0, .nameAndType 5 6), (0, u "java/lang/Object"), (0, u "<init>"), (0, u "()V"), (2, .fieldref 10 11), (0, .class_ 12), (0, .nameAndType 13 14), (0, u "java/lang/String"), (0, u "value"), (0, u "[B"), (0, .fieldref 10 16), (0, .nameAndType 17 18), (0, u "coder"), (0, u "B"), (2, u "hash"), (0, u "I"), (2, u "hashIsZero"), (0, u "Z"), (11, .fieldref 10 39), (0, .nameAndType 40 26), (0, u "COMPACT_STRINGS"), (12, u "toBytes"), (0, .methodref 55 56), (0, .class_ 57), (0, .nameAndType 58 59), (0, u "java/util/Arrays"), (0, u "copyOfRange"), (0, u "([BII)[B"), (26, .fieldref 87 88), (0, .class_ 89), (0, .nameAndType 90 91), (0, u "sun/nio/cs/UTF_8"), (0, u "INSTANCE"), (0, u "Lsun/nio/cs/UTF_8;"), (1, .class_ 95), (1, u "java/lang/StringCoding"), (11, .class_ 109), (1, u "java/lang/StringLatin1"), (18, .methodref 93 129), (0, .nameAndType 130 131), (0, u "hasNegatives"), (0, u "([BII)Z"), (10, u "()Z"), (50, .class_ 195), (1, u "java/lang/System"), (13, .methodref 10 210), (0, .nameAndType 5 211), (0, u "([BB)V"), (0, .methodref 193 213), (0, .nameAndType 214 215), (0, u "arraycopy"), (0, u "(Ljava/lang/Object;ILjava/lang/Object;II)V"), (36, .methodref 10 253), (0, .nameAndType 254 255), (0, u "encodeUTF8"), (0, u "(B[BZ)[B"), (23, .methodref 280 281), (0, .class_ 14), (0, .nameAndType 282 283), (0, u "clone"), (0, u "()Ljava/lang/Object;"), (33, u "encode"), (16, u "()I"), (0, .methodref 10 336), (0, .nameAndType 17 337), (0, u "()B"), (2, u "()[B"), (28, u "(C)Z"), (119, .methodref 10 490), (0, .nameAndType 5 491), (0, u "(Ljava/lang/AbstractStringBuilder;Ljava/lang/Void;)V"), (1, .nameAndType 494 142), (0, u "isLatin1"), (11, .nameAndType 507 334), (0, u "length"), (24, u "getBytes"), (2, .methodref 10 536), (0, .nameAndType 317 537), (0, u "(Ljava/nio/charset/Charset;B[B)[B"), (11, .methodref 550 506), (0, .class_ 551), (0, u "java/lang/AbstractStringBuilder"), (0, .methodref 550 553), (0, .nameAndType 554 340), (0, u "getValue"), (20, .class_ 576), (0, u "java/lang/CharSequence"), (22, u "CASE_INSENSITIVE_ORDER"), (0, u "Ljava/util/Comparator;"), (181, u "valueOf"), (0, u "(C)Ljava/lang/String;"), (37, u "([BIB)V"), (193, .methodref 107 1016), (0, .nameAndType 1017 369), (0, u "canEncode"), (0, .methodref 107 1019), (0, .nameAndType 53 1020), (0, u "(C)[B"), (26, .methodref 550 493), (53, u "serialPersistentFields"), (0, u "[Ljava/io/ObjectStreamField;"), (0, .class_ 1104), (0, u "java/lang/String$CaseInsensitiveComparator"), (1, .class_ 1107), (0, u "java/io/Serializable"), (0, .class_ 1109), (0, u "java/lang/Comparable"), (0, .class_ 1111), (0, u "java/lang/constant/Constable"), (0, .class_ 1113), (0, u "java/lang/constant/ConstantDesc"), (2, u "serialVersionUID"), (0, u "J"), (3, u "REPL"), (0, u "C"), (2, u "LATIN1"), (1, u "UTF16"), (105, u "(Ljava/lang/StringBuilder;)V"), (11, u "(Ljava/nio/charset/Charset;)[B")] 205

def k8m0 : Method := { name := "<init>", desc := "()V", sig := { parameters := [], returnType := none }, accessFlags := 1, code := none }
def k8c1 : Code := { maxStack := 4, maxLocals := 3, code := jdk_42_method_18_code, exceptionTable := #[], attributes := #[] }
def k8m1 : Method := { name := "encode", desc := "(Ljava/nio/charset/Charset;B[B)[B", sig := { parameters := [(.object "java/nio/charset/Charset"), .byte, (.array .byte)], returnType := some (.array .byte) }, accessFlags := 10, code := some k8c1 }
def k8c2 : Code := { maxStack := 5, maxLocals := 9, code := jdk_42_method_46_code, exceptionTable := #[], attributes := #[] }
def k8m2 : Method := { name := "encodeUTF8", desc := "(B[BZ)[B", sig := { parameters := [.byte, (.array .byte), .boolean], returnType := some (.array .byte) }, accessFlags := 10, code := some k8c2 }
def k8c3 : Code := { maxStack := 3, maxLocals := 2, code := jdk_42_method_53_code, exceptionTable := #[], attributes := #[] }
def k8m3 : Method := { name := "<init>", desc := "(Ljava/lang/StringBuilder;)V", sig := { parameters := [(.object "java/lang/StringBuilder")], returnType := none }, accessFlags := 1, code := some k8c3 }
def k8c4 : Code := { maxStack := 2, maxLocals := 1, code := jdk_42_method_54_code, exceptionTable := #[], attributes := #[] }
def k8m4 : Method := { name := "length", desc := "()I", sig := { parameters := [], returnType := some .int }, accessFlags := 1, code := some k8c4 }
def k8c5 : Code := { maxStack := 3, maxLocals := 2, code := jdk_42_method_64_code, exceptionTable := #[], attributes := #[] }
def k8m5 : Method := { name := "getBytes", desc := "(Ljava/nio/charset/Charset;)[B", sig := { parameters := [(.object "java/nio/charset/Charset")], returnType := some (.array .byte) }, accessFlags := 1, code := some k8c5 }
def k8c6 : Code := { maxStack := 4, maxLocals := 1, code := jdk_42_method_139_code, exceptionTable := #[], attributes := #[] }
def k8m6 : Method := { name := "valueOf", desc := "(C)Ljava/lang/String;", sig := { parameters := [.char], returnType := some (.object "java/lang/String") }, accessFlags := 9, code := some k8c6 }
def k8c7 : Code := { maxStack := 5, maxLocals := 4, code := jdk_42_method_147_code, exceptionTable := #[], attributes := #[] }
def k8m7 : Method := { name := "getBytes", desc := "([BIB)V", sig := { parameters := [(.array .byte), .int, .byte], returnType := none }, accessFlags := 0, code := some k8c7 }
def k8c8 : Code := { maxStack := 5, maxLocals := 5, code := jdk_42_method_150_code, exceptionTable := #[], attributes := #[] }
def k8m8 : Method := { name := "<init>", desc := "(Ljava/lang/AbstractStringBuilder;Ljava/lang/Void;)V", sig := { parameters := [(.object "java/lang/AbstractStringBuilder"), (.object "java/lang/Void")], returnType := none }, accessFlags := 0, code := some k8c8 }
def k8c9 : Code := { maxStack := 2, maxLocals := 3, code := jdk_42_method_151_code, exceptionTable := #[], attributes := #[] }
def k8m9 : Method := { name := "<init>", desc := "([BB)V", sig := { parameters := [(.array .byte), .byte], returnType := none }, accessFlags := 0, code := some k8c9 }
def k8c10 : Code := { maxStack := 1, maxLocals := 1, code := jdk_42_method_152_code, exceptionTable := #[], attributes := #[] }
def k8m10 : Method := { name := "coder", desc := "()B", sig := { parameters := [], returnType := some .byte }, accessFlags := 0, code := some k8c10 }
/-- java/lang/String -/
def k8 : Class := { plain "java/lang/String" (some 0) with
  accessFlags := 49
  interfaces := #[3, 4, 5, 6, 7]
  cf := some (fileOf pool8 10 #[.nestMembers #[1103]] #[{ accessFlags := 1, nameIndex := 5, descriptorIndex := 6, attributes := #[] }, { accessFlags := 10, nameIndex := 317, descriptorIndex := 537, attributes := #[] }, { accessFlags := 10, nameIndex := 254, descriptorIndex := 255, attributes := #[] }, { accessFlags := 1, nameIndex := 5, descriptorIndex := 1233, attributes := #[] }, { accessFlags := 1, nameIndex := 507, descriptorIndex := 334, attributes := #[] }, { accessFlags := 1, nameIndex := 532, descriptorIndex := 1245, attributes := #[] }, { accessFlags := 9, nameIndex := 782, descriptorIndex := 783, attributes := #[] }, { accessFlags := 0, nameIndex := 532, descriptorIndex := 821, attributes := #[] }, { accessFlags := 0, nameIndex := 5, descriptorIndex := 491, attributes := #[] }, { accessFlags := 0, nameIndex := 5, descriptorIndex := 211, attributes := #[] }, { accessFlags := 0, nameIndex := 17, descriptorIndex := 337, attributes := #[] }] 49 2 #[1106, 1108, 575, 1110, 1112] #[{ accessFlags := 18, nameIndex := 13, descriptorIndex := 14, attributes := #[] }, { accessFlags := 18, nameIndex := 17, descriptorIndex := 18, attributes := #[] }, { accessFlags := 2, nameIndex := 21, descriptorIndex := 22, attributes := #[] }, { accessFlags := 2, nameIndex := 25, descriptorIndex := 26, attributes := #[] }, { accessFlags := 26, nameIndex := 1116, descriptorIndex := 1117, attributes := #[] }, { accessFlags := 24, nameIndex := 40, descriptorIndex := 26, attributes := #[] }, { accessFlags := 26, nameIndex := 1101, descriptorIndex := 1102, attributes := #[] }, { accessFlags := 26, nameIndex := 1121, descriptorIndex := 1122, attributes := #[] }, { accessFlags := 25, nameIndex := 599, descriptorIndex := 600, attributes := #[] }, { accessFlags := 24, nameIndex := 1125, descriptorIndex := 18, attributes := #[] }, { accessFlags := 24, nameIndex := 1127, descriptorIndex := 18, attributes := #[] }])
  fields := #[{ name := "value", type := (.array .byte), accessFlags := 18, slot := 0, constantValue := 0 }, { name := "coder", type := .byte, accessFlags := 18, slot := 1, constantValue := 0 }, { name := "hash", type := .int, accessFlags := 2, slot := 2, constantValue := 0 }, { name := "hashIsZero", type := .boolean, accessFlags := 2, slot := 3, constantValue := 0 }, { name := "serialVersionUID", type := .long, accessFlags := 26, slot := 0, constantValue := 0 }, { name := "COMPACT_STRINGS", type := .boolean, accessFlags := 24, slot := 1, constantValue := 0 }, { name := "serialPersistentFields", type := (.array (.object "java/io/ObjectStreamField")), accessFlags := 26, slot := 2, constantValue := 0 }, { name := "REPL", type := .char, accessFlags := 26, slot := 3, constantValue := 0 }, { name := "CASE_INSENSITIVE_ORDER", type := (.object "java/util/Comparator"), accessFlags := 25, slot := 4, constantValue := 0 }, { name := "LATIN1", type := .byte, accessFlags := 24, slot := 5, constantValue := 0 }, { name := "UTF16", type := .byte, accessFlags := 24, slot := 6, constantValue := 0 }]
  methods := #[k8m0, k8m1, k8m2, k8m3, k8m4, k8m5, k8m6, k8m7, k8m8, k8m9, k8m10]
  instanceTypes := #[(.array .byte), .byte, .int, .boolean]
  staticTypes := #[.long, .boolean, (.array (.object "java/io/ObjectStreamField")), .char, (.object "java/util/Comparator"), .byte, .byte]
  resolved := Array.replicate 1451 none
  statics := some 0 }

def pool9 : Array CpInfo := pool [(8, .class_ 10), (1, u "java/lang/Iterable"), (24, .class_ 36), (0, u "java/lang/Object")] 25

/-- java/lang/Iterable -/
def k9 : Class := { plain "java/lang/Iterable" (some 0) with
  accessFlags := 1537
  interfaces := #[]
  cf := some (fileOf pool9 8 #[] #[] 1537 35 #[] #[])
  fields := #[]
  methods := #[]
  instanceTypes := #[]
  staticTypes := #[]
  resolved := Array.replicate 62 none
  statics := none }

def pool10 : Array CpInfo := pool [(10, .class_ 12), (1, u "java/util/Collection"), (17, u "()Z"), (29, .class_ 61), (0, u "java/lang/Object"), (0, .class_ 63), (0, u "java/lang/Iterable"), (2, u "isEmpty")] 48

def k10m0 : Method := { name := "isEmpty", desc := "()Z", sig := { parameters := [], returnType := some .boolean }, accessFlags := 1025, code := none }
/-- java/util/Collection -/
def k10 : Class := { plain "java/util/Collection" (some 0) with
  accessFlags := 1537
  interfaces := #[9]
  cf := some (fileOf pool10 10 #[] #[{ accessFlags := 1025, nameIndex := 66, descriptorIndex := 30, attributes := #[] }] 1537 60 #[62] #[])
  fields := #[]
  methods := #[k10m0]
  instanceTypes := #[]
  staticTypes := #[]
  resolved := Array.replicate 115 none
  statics := none }

def pool11 : Array CpInfo := pool [(1, .methodref 2 3), (0, .class_ 4), (0, .nameAndType 5 6), (0, u "java/lang/Object"), (0, u "<init>"), (0, u "()V"), (1, .class_ 10), (1, u "java/util/AbstractCollection"), (66, .class_ 78), (0, u "java/util/Collection")] 81

def k11c0 : Code := { maxStack := 1, maxLocals := 1, code := jdk_22_method_1_code, exceptionTable := #[], attributes := #[] }
def k11m0 : Method := { name := "<init>", desc := "()V", sig := { parameters := [], returnType := none }, accessFlags := 4, code := some k11c0 }
/-- java/util/AbstractCollection -/
def k11 : Class := { plain "java/util/AbstractCollection" (some 0) with
  accessFlags := 1057
  interfaces := #[10]
  cf := some (fileOf pool11 8 #[] #[{ accessFlags := 4, nameIndex := 5, descriptorIndex := 6, attributes := #[] }] 1057 2 #[77] #[])
  fields := #[]
  methods := #[k11m0]
  instanceTypes := #[]
  staticTypes := #[]
  resolved := Array.replicate 160 none
  statics := none }

def pool12 : Array CpInfo := pool [(1, .class_ 2), (0, u "java/util/Queue"), (0, .class_ 4), (0, u "java/lang/Object"), (0, .class_ 6), (0, u "java/util/Collection")] 14

/-- java/util/Queue -/
def k12 : Class := { plain "java/util/Queue" (some 0) with
  accessFlags := 1537
  interfaces := #[10]
  cf := some (fileOf pool12 1 #[] #[] 1537 3 #[5] #[])
  fields := #[]
  methods := #[]
  instanceTypes := #[]
  staticTypes := #[]
  resolved := Array.replicate 21 none
  statics := none }

def pool13 : Array CpInfo := pool [(8, .class_ 10), (1, u "java/util/SequencedCollection"), (15, .class_ 27), (0, u "java/lang/Object"), (0, .class_ 29), (0, u "java/util/Collection")] 27

/-- java/util/SequencedCollection -/
def k13 : Class := { plain "java/util/SequencedCollection" (some 0) with
  accessFlags := 1537
  interfaces := #[10]
  cf := some (fileOf pool13 8 #[] #[] 1537 26 #[28] #[])
  fields := #[]
  methods := #[]
  instanceTypes := #[]
  staticTypes := #[]
  resolved := Array.replicate 57 none
  statics := none }

def pool14 : Array CpInfo := pool [(8, .class_ 10), (1, u "java/util/Deque"), (2, .class_ 14), (0, u "java/lang/Object"), (0, .class_ 16), (0, u "java/util/Queue"), (0, .class_ 18), (0, u "java/util/SequencedCollection"), (1, u "(Ljava/lang/Object;)V"), (8, u "()Ljava/lang/Object;"), (19, u "push"), (0, u "pop")] 19

def k14m0 : Method := { name := "push", desc := "(Ljava/lang/Object;)V", sig := { parameters := [(.object "java/lang/Object")], returnType := none }, accessFlags := 1025, code := none }
def k14m1 : Method := { name := "pop", desc := "()Ljava/lang/Object;", sig := { parameters := [], returnType := some (.object "java/lang/Object") }, accessFlags := 1025, code := none }
/-- java/util/Deque -/
def k14 : Class := { plain "java/util/Deque" (some 0) with
  accessFlags := 1537
  interfaces := #[12, 13]
  cf := some (fileOf pool14 8 #[] #[{ accessFlags := 1025, nameIndex := 49, descriptorIndex := 20, attributes := #[] }, { accessFlags := 1025, nameIndex := 50, descriptorIndex := 29, attributes := #[] }] 1537 13 #[15, 17] #[])
  fields := #[]
  methods := #[k14m0, k14m1]
  instanceTypes := #[]
  staticTypes := #[]
  resolved := Array.replicate 70 none
  statics := none }

def pool15 : Array CpInfo := pool [(1, .class_ 2), (0, u "java/lang/Cloneable"), (0, .class_ 4), (0, u "java/lang/Object")] 2

/-- java/lang/Cloneable -/
def k15 : Class := { plain "java/lang/Cloneable" (some 0) with
  accessFlags := 1537
  interfaces := #[]
  cf := some (fileOf pool15 1 #[] #[] 1537 3 #[] #[])
  fields := #[]
  methods := #[]
  instanceTypes := #[]
  staticTypes := #[]
  resolved := Array.replicate 7 none
  statics := none }

def pool16 : Array CpInfo := pool [(3, .fieldref 4 5), (0, .class_ 6), (0, .nameAndType 7 8), (0, u "java/util/ArrayDeque"), (0, u "elements"), (0, u "[Ljava/lang/Object;"), (4, u "(II)I"), (6, .fieldref 4 21), (0, .nameAndType 22 23), (0, u "tail"), (0, u "I"), (0, .fieldref 4 25), (0, .nameAndType 26 23), (0, u "head"), (12, u "<init>"), (2, .methodref 43 44), (0, .class_ 45), (0, .nameAndType 39 46), (0, u "java/util/AbstractCollection"), (0, u "()V"), (0, .class_ 48), (0, u "java/lang/Object"), (19, .methodref 4 69), (0, .nameAndType 70 13), (0, u "dec"), (3, .methodref 4 75), (0, .nameAndType 76 13), (0, u "inc"), (9, .methodref 4 87), (0, .nameAndType 88 89), (0, u "addFirst"), (0, u "(Ljava/lang/Object;)V"), (3, .methodref 4 94), (0, .nameAndType 95 96), (0, u "pollFirst"), (0, u "()Ljava/lang/Object;"), (6, .methodref 4 104), (0, .nameAndType 105 106), (0, u "elementAt"), (0, u "([Ljava/lang/Object;I)Ljava/lang/Object;"), (11, .methodref 4 119), (0, .nameAndType 120 96), (0, u "removeFirst"), (10, .class_ 132), (0, u "java/util/ArrayDeque$DeqIterator"), (3, .class_ 137), (0, u "java/util/ArrayDeque$DescendingIterator"), (1, .class_ 140), (0, u "java/util/ArrayDeque$DeqSpliterator"), (137, .class_ 279), (0, u "java/util/Deque"), (0, .class_ 281), (0, u "java/lang/Cloneable"), (0, .class_ 283), (0, u "java/io/Serializable"), (0, u "MAX_ARRAY_SIZE"), (1, u "serialVersionUID"), (0, u "J"), (54, u "push"), (0, u "pop"), (3, u "isEmpty"), (0, u "()Z")] 89

def k16c0 : Code := { maxStack := 2, maxLocals := 1, code := jdk_21_method_3_code, exceptionTable := #[], attributes := #[] }
def k16m0 : Method := { name := "<init>", desc := "()V", sig := { parameters := [], returnType := none }, accessFlags := 1, code := some k16c0 }
def k16c1 : Code := { maxStack := 2, maxLocals := 2, code := jdk_21_method_6_code, exceptionTable := #[], attributes := #[] }
def k16m1 : Method := { name := "inc", desc := "(II)I", sig := { parameters := [.int, .int], returnType := some .int }, accessFlags := 24, code := some k16c1 }
def k16c2 : Code := { maxStack := 2, maxLocals := 2, code := jdk_21_method_7_code, exceptionTable := #[], attributes := #[] }
def k16m2 : Method := { name := "dec", desc := "(II)I", sig := { parameters := [.int, .int], returnType := some .int }, accessFlags := 24, code := some k16c2 }
def k16c3 : Code := { maxStack := 2, maxLocals := 2, code := jdk_21_method_10_code, exceptionTable := #[], attributes := #[] }
def k16m3 : Method := { name := "elementAt", desc := "([Ljava/lang/Object;I)Ljava/lang/Object;", sig := { parameters := [(.array (.object "java/lang/Object")), .int], returnType := some (.object "java/lang/Object") }, accessFlags := 24, code := some k16c3 }
def k16c4 : Code := { maxStack := 4, maxLocals := 3, code := jdk_21_method_12_code, exceptionTable := #[], attributes := #[] }
def k16m4 : Method := { name := "addFirst", desc := "(Ljava/lang/Object;)V", sig := { parameters := [(.object "java/lang/Object")], returnType := none }, accessFlags := 1, code := some k16c4 }
def k16c5 : Code := { maxStack := 2, maxLocals := 2, code := jdk_21_method_18_code, exceptionTable := #[], attributes := #[] }
def k16m5 : Method := { name := "removeFirst", desc := "()Ljava/lang/Object;", sig := { parameters := [], returnType := some (.object "java/lang/Object") }, accessFlags := 1, code := some k16c5 }
def k16c6 : Code := { maxStack := 3, maxLocals := 4, code := jdk_21_method_20_code, exceptionTable := #[], attributes := #[] }
def k16m6 : Method := { name := "pollFirst", desc := "()Ljava/lang/Object;", sig := { parameters := [], returnType := some (.object "java/lang/Object") }, accessFlags := 1, code := some k16c6 }
def k16c7 : Code := { maxStack := 2, maxLocals := 2, code := jdk_21_method_34_code, exceptionTable := #[], attributes := #[] }
def k16m7 : Method := { name := "push", desc := "(Ljava/lang/Object;)V", sig := { parameters := [(.object "java/lang/Object")], returnType := none }, accessFlags := 1, code := some k16c7 }
def k16c8 : Code := { maxStack := 1, maxLocals := 1, code := jdk_21_method_35_code, exceptionTable := #[], attributes := #[] }
def k16m8 : Method := { name := "pop", desc := "()Ljava/lang/Object;", sig := { parameters := [], returnType := some (.object "java/lang/Object") }, accessFlags := 1, code := some k16c8 }
def k16c9 : Code := { maxStack := 2, maxLocals := 1, code := jdk_21_method_38_code, exceptionTable := #[], attributes := #[] }
def k16m9 : Method := { name := "isEmpty", desc := "()Z", sig := { parameters := [], returnType := some .boolean }, accessFlags := 1, code := some k16c9 }
/-- java/util/ArrayDeque -/
def k16 : Class := { plain "java/util/ArrayDeque" (some 11) with
  accessFlags := 33
  interfaces := #[14, 15, 3]
  cf := some (fileOf pool16 4 #[.nestMembers #[139, 136, 131]] #[{ accessFlags := 1, nameIndex := 39, descriptorIndex := 46, attributes := #[] }, { accessFlags := 24, nameIndex := 76, descriptorIndex := 13, attributes := #[] }, { accessFlags := 24, nameIndex := 70, descriptorIndex := 13, attributes := #[] }, { accessFlags := 24, nameIndex := 105, descriptorIndex := 106, attributes := #[] }, { accessFlags := 1, nameIndex := 88, descriptorIndex := 89, attributes := #[] }, { accessFlags := 1, nameIndex := 120, descriptorIndex := 96, attributes := #[] }, { accessFlags := 1, nameIndex := 95, descriptorIndex := 96, attributes := #[] }, { accessFlags := 1, nameIndex := 342, descriptorIndex := 89, attributes := #[] }, { accessFlags := 1, nameIndex := 343, descriptorIndex := 96, attributes := #[] }, { accessFlags := 1, nameIndex := 347, descriptorIndex := 348, attributes := #[] }] 33 43 #[278, 280, 282] #[{ accessFlags := 128, nameIndex := 7, descriptorIndex := 8, attributes := #[] }, { accessFlags := 128, nameIndex := 26, descriptorIndex := 23, attributes := #[] }, { accessFlags := 128, nameIndex := 22, descriptorIndex := 23, attributes := #[] }, { accessFlags := 26, nameIndex := 284, descriptorIndex := 23, attributes := #[] }, { accessFlags := 26, nameIndex := 286, descriptorIndex := 287, attributes := #[] }])
  fields := #[{ name := "elements", type := (.array (.object "java/lang/Object")), accessFlags := 128, slot := 0, constantValue := 0 }, { name := "head", type := .int, accessFlags := 128, slot := 1, constantValue := 0 }, { name := "tail", type := .int, accessFlags := 128, slot := 2, constantValue := 0 }, { name := "MAX_ARRAY_SIZE", type := .int, accessFlags := 26, slot := 0, constantValue := 0 }, { name := "serialVersionUID", type := .long, accessFlags := 26, slot := 1, constantValue := 0 }]
  methods := #[k16m0, k16m1, k16m2, k16m3, k16m4, k16m5, k16m6, k16m7, k16m8, k16m9]
  instanceTypes := #[(.array (.object "java/lang/Object")), .int, .int]
  staticTypes := #[.int, .long]
  resolved := Array.replicate 438 none
  statics := none }

def pool17 : Array CpInfo := pool [(1, .class_ 2), (0, u "java/lang/Appendable"), (0, .class_ 4), (0, u "java/lang/Object")] 9

/-- java/lang/Appendable -/
def k17 : Class := { plain "java/lang/Appendable" (some 0) with
  accessFlags := 1537
  interfaces := #[]
  cf := some (fileOf pool17 1 #[] #[] 1537 3 #[] #[])
  fields := #[]
  methods := #[]
  instanceTypes := #[]
  staticTypes := #[]
  resolved := Array.replicate 14 none
  statics := none }

def pool18 : Array CpInfo := pool [(1, .class_ 2), (0, u "java/lang/String"), (0, .methodref 4 5), (0, .class_ 6), (0, .nameAndType 7 8), (0, u "java/lang/Object"), (0, u "<init>"), (0, u "()V"), (1, .class_ 12), (1, u "java/lang/AbstractStringBuilder"), (0, u "EMPTYVALUE"), (0, u "[B"), (0, .fieldref 10 16), (0, .nameAndType 17 14), (0, u "value"), (0, .fieldref 1 19), (0, .nameAndType 20 21), (0, u "COMPACT_STRINGS"), (0, u "Z"), (0, .fieldref 10 23), (0, .nameAndType 24 25), (0, u "coder"), (0, u "B"), (6, .methodref 1 33), (0, .nameAndType 34 35), (0, u "length"), (0, u "()I"), (2, .integer 2147483631), (1, .methodref 1 41), (0, .nameAndType 24 42), (0, u "()B"), (0, .methodref 10 44), (0, .nameAndType 45 46), (0, u "append"), (0, u "(Ljava/lang/String;)Ljava/lang/AbstractStringBuilder;"), (1, .class_ 49), (0, u "java/lang/CharSequence"), (19, u "(Ljava/lang/String;)V"), (5, u "maybeLatin1"), (3, .fieldref 10 80), (0, .nameAndType 81 82), (0, u "count"), (0, u "I"), (0, .methodref 10 84), (0, .nameAndType 85 86), (0, u "isLatin1"), (0, u "()Z"), (1, .class_ 90), (1, u "java/lang/StringLatin1"), (9, .methodref 10 101), (0, .nameAndType 102 103), (0, u "ensureCapacityInternal"), (0, u "(I)V"), (87, .methodref 88 192), (0, .nameAndType 193 194), (0, u "canEncode"), (0, u "(C)Z"), (13, .methodref 10 209), (0, .nameAndType 210 211), (0, u "putStringAt"), (0, u "(ILjava/lang/String;)V"), (5, u "inflateIfNeededFor"), (2, .nameAndType 221 222), (0, u "getBytes"), (0, u "([BIB)V"), (69, u "(C)Ljava/lang/AbstractStringBuilder;"), (104, .methodref 10 398), (0, .nameAndType 217 69), (0, .methodref 1 220), (3, u "()[B"), (40, .class_ 445), (0, u "java/lang/Appendable"), (106, u "getValue")] 56

def k18m0 : Method := { name := "<init>", desc := "()V", sig := { parameters := [], returnType := none }, accessFlags := 0, code := none }
def k18c1 : Code := { maxStack := 2, maxLocals := 5, code := jdk_68_method_3_code, exceptionTable := #[], attributes := #[] }
def k18m1 : Method := { name := "<init>", desc := "(Ljava/lang/String;)V", sig := { parameters := [(.object "java/lang/String")], returnType := none }, accessFlags := 0, code := some k18c1 }
def k18c2 : Code := { maxStack := 1, maxLocals := 1, code := jdk_68_method_6_code, exceptionTable := #[], attributes := #[] }
def k18m2 : Method := { name := "length", desc := "()I", sig := { parameters := [], returnType := some .int }, accessFlags := 1, code := some k18c2 }
def k18c3 : Code := { maxStack := 4, maxLocals := 3, code := jdk_68_method_9_code, exceptionTable := #[], attributes := #[] }
def k18m3 : Method := { name := "ensureCapacityInternal", desc := "(I)V", sig := { parameters := [.int], returnType := none }, accessFlags := 2, code := some k18c3 }
def k18c4 : Code := { maxStack := 3, maxLocals := 3, code := jdk_68_method_22_code, exceptionTable := #[], attributes := #[] }
def k18m4 : Method := { name := "append", desc := "(Ljava/lang/String;)Ljava/lang/AbstractStringBuilder;", sig := { parameters := [(.object "java/lang/String")], returnType := some (.object "java/lang/AbstractStringBuilder") }, accessFlags := 1, code := some k18c4 }
def k18c5 : Code := { maxStack := 5, maxLocals := 2, code := jdk_68_method_31_code, exceptionTable := #[], attributes := #[] }
def k18m5 : Method := { name := "append", desc := "(C)Ljava/lang/AbstractStringBuilder;", sig := { parameters := [.char], returnType := some (.object "java/lang/AbstractStringBuilder") }, accessFlags := 1, code := some k18c5 }
def k18c6 : Code := { maxStack := 1, maxLocals := 1, code := jdk_68_method_64_code, exceptionTable := #[], attributes := #[] }
def k18m6 : Method := { name := "getValue", desc := "()[B", sig := { parameters := [], returnType := some (.array .byte) }, accessFlags := 16, code := some k18c6 }
def k18c7 : Code := { maxStack := 1, maxLocals := 1, code := jdk_68_method_68_code, exceptionTable := #[], attributes := #[] }
def k18m7 : Method := { name := "isLatin1", desc := "()Z", sig := { parameters := [], returnType := some .boolean }, accessFlags := 16, code := some k18c7 }
def k18c8 : Code := { maxStack := 2, maxLocals := 2, code := jdk_68_method_71_code, exceptionTable := #[], attributes := #[] }
def k18m8 : Method := { name := "inflateIfNeededFor", desc := "(Ljava/lang/String;)V", sig := { parameters := [(.object "java/lang/String")], returnType := none }, accessFlags := 2, code := some k18c8 }
def k18c9 : Code := { maxStack := 4, maxLocals := 3, code := jdk_68_method_73_code, exceptionTable := #[], attributes := #[] }
def k18m9 : Method := { name := "putStringAt", desc := "(ILjava/lang/String;)V", sig := { parameters := [.int, (.object "java/lang/String")], returnType := none }, accessFlags := 2, code := some k18c9 }
/-- java/lang/AbstractStringBuilder -/
def k18 : Class := { plain "java/lang/AbstractStringBuilder" (some 0) with
  accessFlags := 1056
  interfaces := #[17, 5]
  cf := some (fileOf pool18 10 #[] #[{ accessFlags := 0, nameIndex := 7, descriptorIndex := 8, attributes := #[] }, { accessFlags := 0, nameIndex := 7, descriptorIndex := 69, attributes := #[] }, { accessFlags := 1, nameIndex := 34, descriptorIndex := 35, attributes := #[] }, { accessFlags := 2, nameIndex := 102, descriptorIndex := 103, attributes := #[] }, { accessFlags := 1, nameIndex := 45, descriptorIndex := 46, attributes := #[] }, { accessFlags := 1, nameIndex := 45, descriptorIndex := 292, attributes := #[] }, { accessFlags := 16, nameIndex := 552, descriptorIndex := 403, attributes := #[] }, { accessFlags := 16, nameIndex := 85, descriptorIndex := 86, attributes := #[] }, { accessFlags := 2, nameIndex := 217, descriptorIndex := 69, attributes := #[] }, { accessFlags := 2, nameIndex := 210, descriptorIndex := 211, attributes := #[] }] 1056 4 #[444, 48] #[{ accessFlags := 0, nameIndex := 17, descriptorIndex := 14, attributes := #[] }, { accessFlags := 0, nameIndex := 24, descriptorIndex := 25, attributes := #[] }, { accessFlags := 0, nameIndex := 75, descriptorIndex := 21, attributes := #[] }, { accessFlags := 0, nameIndex := 81, descriptorIndex := 82, attributes := #[] }, { accessFlags := 26, nameIndex := 13, descriptorIndex := 14, attributes := #[] }])
  fields := #[{ name := "value", type := (.array .byte), accessFlags := 0, slot := 0, constantValue := 0 }, { name := "coder", type := .byte, accessFlags := 0, slot := 1, constantValue := 0 }, { name := "maybeLatin1", type := .boolean, accessFlags := 0, slot := 2, constantValue := 0 }, { name := "count", type := .int, accessFlags := 0, slot := 3, constantValue := 0 }, { name := "EMPTYVALUE", type := (.array .byte), accessFlags := 26, slot := 0, constantValue := 0 }]
  methods := #[k18m0, k18m1, k18m2, k18m3, k18m4, k18m5, k18m6, k18m7, k18m8, k18m9]
  instanceTypes := #[(.array .byte), .byte, .boolean, .int]
  staticTypes := #[(.array .byte)]
  resolved := Array.replicate 609 none
  statics := none }

def pool19 : Array CpInfo := pool [(2, .class_ 4), (1, u "java/lang/AbstractStringBuilder"), (0, u "<init>"), (1, .methodref 2 8), (0, .nameAndType 5 9), (0, u "(Ljava/lang/String;)V"), (8, .class_ 20), (1, u "java/lang/String"), (2, .methodref 24 25), (0, .class_ 26), (0, .nameAndType 27 28), (0, u "java/lang/StringBuilder"), (0, u "append"), (0, u "(Ljava/lang/String;)Ljava/lang/StringBuilder;"), (0, .methodref 2 30), (0, .nameAndType 27 31), (0, u "(Ljava/lang/String;)Ljava/lang/AbstractStringBuilder;"), (18, .methodref 2 51), (0, .nameAndType 27 52), (0, u "(C)Ljava/lang/AbstractStringBuilder;"), (84, .methodref 18 138), (0, .nameAndType 5 139), (0, u "(Ljava/lang/StringBuilder;)V"), (5, u "()V"), (10, u "()I"), (129, u "(C)Ljava/lang/StringBuilder;"), (56, .methodref 2 344), (0, .nameAndType 345 156), (0, u "length"), (3, .class_ 350), (0, u "java/lang/Appendable"), (0, .class_ 352), (0, u "java/io/Serializable"), (0, .class_ 354), (0, u "java/lang/Comparable"), (0, .class_ 356), (0, u "java/lang/CharSequence"), (0, u "serialVersionUID"), (0, u "J"), (40, u "toString"), (0, u "()Ljava/lang/String;")] 21

def k19m0 : Method := { name := "<init>", desc := "()V", sig := { parameters := [], returnType := none }, accessFlags := 1, code := none }
def k19c1 : Code := { maxStack := 2, maxLocals := 2, code := jdk_67_method_3_code, exceptionTable := #[], attributes := #[] }
def k19m1 : Method := { name := "<init>", desc := "(Ljava/lang/String;)V", sig := { parameters := [(.object "java/lang/String")], returnType := none }, accessFlags := 1, code := some k19c1 }
def k19c2 : Code := { maxStack := 2, maxLocals := 2, code := jdk_67_method_7_code, exceptionTable := #[], attributes := #[] }
def k19m2 : Method := { name := "append", desc := "(Ljava/lang/String;)Ljava/lang/StringBuilder;", sig := { parameters := [(.object "java/lang/String")], returnType := some (.object "java/lang/StringBuilder") }, accessFlags := 1, code := some k19c2 }
def k19c3 : Code := { maxStack := 2, maxLocals := 2, code := jdk_67_method_14_code, exceptionTable := #[], attributes := #[] }
def k19m3 : Method := { name := "append", desc := "(C)Ljava/lang/StringBuilder;", sig := { parameters := [.char], returnType := some (.object "java/lang/StringBuilder") }, accessFlags := 1, code := some k19c3 }
def k19c4 : Code := { maxStack := 3, maxLocals := 1, code := jdk_67_method_42_code, exceptionTable := #[], attributes := #[] }
def k19m4 : Method := { name := "toString", desc := "()Ljava/lang/String;", sig := { parameters := [], returnType := some (.object "java/lang/String") }, accessFlags := 1, code := some k19c4 }
def k19c5 : Code := { maxStack := 2, maxLocals := 2, code := jdk_67_method_80_code, exceptionTable := #[], attributes := #[] }
def k19m5 : Method := { name := "append", desc := "(Ljava/lang/String;)Ljava/lang/AbstractStringBuilder;", sig := { parameters := [(.object "java/lang/String")], returnType := some (.object "java/lang/AbstractStringBuilder") }, accessFlags := 4161, code := some k19c5 }
def k19c6 : Code := { maxStack := 1, maxLocals := 1, code := jdk_67_method_93_code, exceptionTable := #[], attributes := #[] }
def k19m6 : Method := { name := "length", desc := "()I", sig := { parameters := [], returnType := some .int }, accessFlags := 4161, code := some k19c6 }
/-- java/lang/StringBuilder -/
def k19 : Class := { plain "java/lang/StringBuilder" (some 18) with
  accessFlags := 49
  interfaces := #[17, 3, 4, 5]
  cf := some (fileOf pool19 24 #[] #[{ accessFlags := 1, nameIndex := 5, descriptorIndex := 145, attributes := #[] }, { accessFlags := 1, nameIndex := 5, descriptorIndex := 9, attributes := #[] }, { accessFlags := 1, nameIndex := 27, descriptorIndex := 28, attributes := #[] }, { accessFlags := 1, nameIndex := 27, descriptorIndex := 286, attributes := #[] }, { accessFlags := 1, nameIndex := 399, descriptorIndex := 400, attributes := #[] }, { accessFlags := 4161, nameIndex := 27, descriptorIndex := 31, attributes := #[] }, { accessFlags := 4161, nameIndex := 345, descriptorIndex := 156, attributes := #[] }] 49 2 #[349, 351, 353, 355] #[{ accessFlags := 24, nameIndex := 357, descriptorIndex := 358, attributes := #[] }])
  fields := #[{ name := "serialVersionUID", type := .long, accessFlags := 24, slot := 0, constantValue := 0 }]
  methods := #[k19m0, k19m1, k19m2, k19m3, k19m4, k19m5, k19m6]
  instanceTypes := #[(.array .byte), .byte, .boolean, .int]
  staticTypes := #[.long]
  resolved := Array.replicate 422 none
  statics := none }

def pool20 : Array CpInfo := pool [(2, .class_ 4), (1, u "java/lang/Object"), (0, u "<init>"), (0, u "()V"), (1, .class_ 10), (1, u "java/lang/System"), (0, u "allowSecurityManager"), (0, u "I"), (16, u "cons"), (0, u "Ljava/io/Console;"), (77, .class_ 110), (1, u "java/lang/System$CallersHolder"), (43, u "initialErrStream"), (0, u "Ljava/io/PrintStream;"), (19, u "security"), (0, u "Ljava/lang/SecurityManager;"), (31, .class_ 209), (0, u "java/lang/System$1"), (7, u "props"), (0, u "Ljava/util/Properties;"), (2, u "lineSeparator"), (0, u "Ljava/lang/String;"), (96, .class_ 321), (1, u "java/lang/System$LoggerFinder"), (5, .class_ 328), (0, u "java/lang/System$Logger"), (67, u "err"), (2, u "out"), (91, u "notSupportedJnuEncoding"), (15, u "in"), (17, u "initialIn"), (0, u "Ljava/io/InputStream;"), (35, u "bootLayer"), (0, u "Ljava/lang/ModuleLayer;"), (99, .class_ 664), (0, u "java/lang/System$2"), (9, u "NEVER"), (2, u "MAYBE"), (49, u "arraycopy"), (0, u "(Ljava/lang/Object;ILjava/lang/Object;II)V"), (72, .class_ 802), (0, u "java/lang/System$Logger$Level")] 31

def k20m0 : Method := { name := "<init>", desc := "()V", sig := { parameters := [], returnType := none }, accessFlags := 2, code := none }
def k20m1 : Method := { name := "arraycopy", desc := "(Ljava/lang/Object;ILjava/lang/Object;II)V", sig := { parameters := [(.object "java/lang/Object"), .int, (.object "java/lang/Object"), .int, .int], returnType := none }, accessFlags := 265, code := none }
/-- java/lang/System -/
def k20 : Class := { plain "java/lang/System" (some 0) with
  accessFlags := 49
  interfaces := #[]
  cf := some (fileOf pool20 8 #[.nestMembers #[319, 327, 801, 108, 663, 208]] #[{ accessFlags := 2, nameIndex := 5, descriptorIndex := 6, attributes := #[] }, { accessFlags := 265, nameIndex := 727, descriptorIndex := 728, attributes := #[] }] 49 2 #[] #[{ accessFlags := 25, nameIndex := 507, descriptorIndex := 526, attributes := #[] }, { accessFlags := 25, nameIndex := 399, descriptorIndex := 155, attributes := #[] }, { accessFlags := 25, nameIndex := 396, descriptorIndex := 155, attributes := #[] }, { accessFlags := 10, nameIndex := 525, descriptorIndex := 526, attributes := #[] }, { accessFlags := 26, nameIndex := 674, descriptorIndex := 12, attributes := #[] }, { accessFlags := 26, nameIndex := 677, descriptorIndex := 12, attributes := #[] }, { accessFlags := 10, nameIndex := 11, descriptorIndex := 12, attributes := #[] }, { accessFlags := 74, nameIndex := 175, descriptorIndex := 176, attributes := #[] }, { accessFlags := 10, nameIndex := 491, descriptorIndex := 222, attributes := #[] }, { accessFlags := 74, nameIndex := 29, descriptorIndex := 30, attributes := #[] }, { accessFlags := 74, nameIndex := 154, descriptorIndex := 155, attributes := #[] }, { accessFlags := 10, nameIndex := 217, descriptorIndex := 218, attributes := #[] }, { accessFlags := 10, nameIndex := 221, descriptorIndex := 222, attributes := #[] }, { accessFlags := 8, nameIndex := 562, descriptorIndex := 563, attributes := #[] }])
  fields := #[{ name := "in", type := (.object "java/io/InputStream"), accessFlags := 25, slot := 0, constantValue := 0 }, { name := "out", type := (.object "java/io/PrintStream"), accessFlags := 25, slot := 1, constantValue := 0 }, { name := "err", type := (.object "java/io/PrintStream"), accessFlags := 25, slot := 2, constantValue := 0 }, { name := "initialIn", type := (.object "java/io/InputStream"), accessFlags := 10, slot := 3, constantValue := 0 }, { name := "NEVER", type := .int, accessFlags := 26, slot := 4, constantValue := 0 }, { name := "MAYBE", type := .int, accessFlags := 26, slot := 5, constantValue := 0 }, { name := "allowSecurityManager", type := .int, accessFlags := 10, slot := 6, constantValue := 0 }, { name := "security", type := (.object "java/lang/SecurityManager"), accessFlags := 74, slot := 7, constantValue := 0 }, { name := "notSupportedJnuEncoding", type := (.object "java/lang/String"), accessFlags := 10, slot := 8, constantValue := 0 }, { name := "cons", type := (.object "java/io/Console"), accessFlags := 74, slot := 9, constantValue := 0 }, { name := "initialErrStream", type := (.object "java/io/PrintStream"), accessFlags := 74, slot := 10, constantValue := 0 }, { name := "props", type := (.object "java/util/Properties"), accessFlags := 10, slot := 11, constantValue := 0 }, { name := "lineSeparator", type := (.object "java/lang/String"), accessFlags := 10, slot := 12, constantValue := 0 }, { name := "bootLayer", type := (.object "java/lang/ModuleLayer"), accessFlags := 8, slot := 13, constantValue := 0 }]
  methods := #[k20m0, k20m1]
  instanceTypes := #[]
  staticTypes := #[(.object "java/io/InputStream"), (.object "java/io/PrintStream"), (.object "java/io/PrintStream"), (.object "java/io/InputStream"), .int, .int, .int, (.object "java/lang/SecurityManager"), (.object "java/lang/String"), (.object "java/io/Console"), (.object "java/io/PrintStream"), (.object "java/util/Properties"), (.object "java/lang/String"), (.object "java/lang/ModuleLayer")]
  resolved := Array.replicate 834 none
  statics := none }

def pool21 : Array CpInfo := pool [(4, .class_ 6), (1, u "java/lang/Object"), (0, u "<init>"), (0, u "()V"), (5, .class_ 16), (1, u "java/lang/StringLatin1"), (73, u "canEncode"), (14, u "(C)Z"), (15, u "$assertionsDisabled"), (0, u "Z"), (98, .class_ 223), (1, u "java/lang/StringLatin1$LinesSpliterator"), (156, u "toBytes"), (1, u "(C)[B"), (7, .class_ 391), (0, u "java/lang/StringLatin1$CharsSpliterator")] 3

def k21m0 : Method := { name := "<init>", desc := "()V", sig := { parameters := [], returnType := none }, accessFlags := 0, code := none }
def k21c1 : Code := { maxStack := 2, maxLocals := 1, code := jdk_43_method_3_code, exceptionTable := #[], attributes := #[] }
def k21m1 : Method := { name := "canEncode", desc := "(C)Z", sig := { parameters := [.char], returnType := some .boolean }, accessFlags := 9, code := some k21c1 }
def k21c2 : Code := { maxStack := 4, maxLocals := 1, code := jdk_43_method_46_code, exceptionTable := #[], attributes := #[] }
def k21m2 : Method := { name := "toBytes", desc := "(C)[B", sig := { parameters := [.char], returnType := some (.array .byte) }, accessFlags := 9, code := some k21c2 }
/-- java/lang/StringLatin1 -/
def k21 : Class := { plain "java/lang/StringLatin1" (some 0) with
  accessFlags := 48
  interfaces := #[]
  cf := some (fileOf pool21 14 #[.nestMembers #[390, 221]] #[{ accessFlags := 0, nameIndex := 7, descriptorIndex := 8, attributes := #[] }, { accessFlags := 9, nameIndex := 90, descriptorIndex := 105, attributes := #[] }, { accessFlags := 9, nameIndex := 380, descriptorIndex := 382, attributes := #[] }] 48 4 #[] #[{ accessFlags := 4120, nameIndex := 121, descriptorIndex := 122, attributes := #[] }])
  fields := #[{ name := "$assertionsDisabled", type := .boolean, accessFlags := 4120, slot := 0, constantValue := 0 }]
  methods := #[k21m0, k21m1, k21m2]
  instanceTypes := #[]
  staticTypes := #[.boolean]
  resolved := Array.replicate 395 none
  statics := none }

def pool22 : Array CpInfo := pool [(2, .class_ 4), (1, u "java/lang/Object"), (0, u "<init>"), (0, u "()V"), (7, .class_ 16), (1, u "java/util/Arrays"), (57, .class_ 76), (1, u "java/util/Arrays$NaturalOrder"), (36, .class_ 115), (1, u "java/util/Arrays$LegacyMergeSort"), (1, u "Z"), (21, u "copyOfRange"), (10, .methodref 151 152), (0, .class_ 153), (0, .nameAndType 154 155), (0, u "java/lang/System"), (0, u "arraycopy"), (0, u "(Ljava/lang/Object;ILjava/lang/Object;II)V"), (148, .methodref 305 306), (0, .class_ 307), (0, .nameAndType 308 309), (0, u "java/lang/Math"), (0, u "min"), (0, u "(II)I"), (29, .methodref 14 340), (0, .nameAndType 341 342), (0, u "copyOfRangeByte"), (0, u "([BII)[B"), (0, .methodref 14 344), (0, .nameAndType 345 346), (0, u "checkLength"), (0, u "(II)V"), (28, .class_ 376), (0, u "java/util/Arrays$ArrayList"), (68, u "$assertionsDisabled"), (269, u "MIN_ARRAY_SORT_GRAN"), (0, u "I"), (2, u "INSERTIONSORT_THRESHOLD"), (255, .class_ 976), (0, u "java/util/Arrays$ArrayItr")] 52

def k22m0 : Method := { name := "<init>", desc := "()V", sig := { parameters := [], returnType := none }, accessFlags := 2, code := none }
def k22c1 : Code := { maxStack := 4, maxLocals := 2, code := jdk_65_method_131_code, exceptionTable := #[], attributes := #[] }
def k22m1 : Method := { name := "checkLength", desc := "(II)V", sig := { parameters := [.int, .int], returnType := none }, accessFlags := 10, code := some k22c1 }
def k22c2 : Code := { maxStack := 3, maxLocals := 3, code := jdk_65_method_132_code, exceptionTable := #[], attributes := #[] }
def k22m2 : Method := { name := "copyOfRange", desc := "([BII)[B", sig := { parameters := [(.array .byte), .int, .int], returnType := some (.array .byte) }, accessFlags := 9, code := some k22c2 }
def k22c3 : Code := { maxStack := 6, maxLocals := 5, code := jdk_65_method_133_code, exceptionTable := #[], attributes := #[] }
def k22m3 : Method := { name := "copyOfRangeByte", desc := "([BII)[B", sig := { parameters := [(.array .byte), .int, .int], returnType := some (.array .byte) }, accessFlags := 10, code := some k22c3 }
/-- java/util/Arrays -/
def k22 : Class := { plain "java/util/Arrays" (some 0) with
  accessFlags := 49
  interfaces := #[]
  cf := some (fileOf pool22 14 #[.nestMembers #[975, 375, 113, 74]] #[{ accessFlags := 2, nameIndex := 5, descriptorIndex := 6, attributes := #[] }, { accessFlags := 10, nameIndex := 345, descriptorIndex := 346, attributes := #[] }, { accessFlags := 9, nameIndex := 139, descriptorIndex := 342, attributes := #[] }, { accessFlags := 10, nameIndex := 341, descriptorIndex := 342, attributes := #[] }] 49 2 #[] #[{ accessFlags := 26, nameIndex := 715, descriptorIndex := 716, attributes := #[] }, { accessFlags := 26, nameIndex := 719, descriptorIndex := 716, attributes := #[] }, { accessFlags := 4120, nameIndex := 445, descriptorIndex := 117, attributes := #[] }])
  fields := #[{ name := "MIN_ARRAY_SORT_GRAN", type := .int, accessFlags := 26, slot := 0, constantValue := 0 }, { name := "INSERTIONSORT_THRESHOLD", type := .int, accessFlags := 26, slot := 1, constantValue := 0 }, { name := "$assertionsDisabled", type := .boolean, accessFlags := 4120, slot := 2, constantValue := 0 }]
  methods := #[k22m0, k22m1, k22m2, k22m3]
  instanceTypes := #[]
  staticTypes := #[.int, .int, .boolean]
  resolved := Array.replicate 1029 none
  statics := none }

def pool23 : Array CpInfo := pool [(1, .class_ 2), (0, u "java/lang/Math"), (1, .class_ 6), (1, u "java/lang/Object"), (0, u "<init>"), (0, u "()V"), (89, .class_ 100), (1, u "java/lang/Math$RandomNumberGeneratorHolder"), (71, u "negativeZeroFloatBits"), (0, u "J"), (2, u "negativeZeroDoubleBits"), (24, u "min"), (43, u "$assertionsDisabled"), (0, u "Z"), (88, u "(II)I"), (2, u "twoToTheDoubleScaleDown"), (0, u "D"), (4, u "twoToTheDoubleScaleUp"), (9, u "E"), (3, u "PI"), (2, u "TAU"), (2, u "DEGREES_TO_RADIANS"), (0, u "RADIANS_TO_DEGREES")] 94

def k23m0 : Method := { name := "<init>", desc := "()V", sig := { parameters := [], returnType := none }, accessFlags := 2, code := none }
def k23c1 : Code := { maxStack := 2, maxLocals := 2, code := jdk_29_method_69_code, exceptionTable := #[], attributes := #[] }
def k23m1 : Method := { name := "min", desc := "(II)I", sig := { parameters := [.int, .int], returnType := some .int }, accessFlags := 9, code := some k23c1 }
/-- java/lang/Math -/
def k23 : Class := { plain "java/lang/Math" (some 0) with
  accessFlags := 49
  interfaces := #[]
  cf := some (fileOf pool23 1 #[.nestMembers #[98]] #[{ accessFlags := 2, nameIndex := 7, descriptorIndex := 8, attributes := #[] }, { accessFlags := 9, nameIndex := 201, descriptorIndex := 335, attributes := #[] }] 49 4 #[] #[{ accessFlags := 25, nameIndex := 354, descriptorIndex := 339, attributes := #[] }, { accessFlags := 25, nameIndex := 358, descriptorIndex := 339, attributes := #[] }, { accessFlags := 25, nameIndex := 361, descriptorIndex := 339, attributes := #[] }, { accessFlags := 26, nameIndex := 364, descriptorIndex := 339, attributes := #[] }, { accessFlags := 26, nameIndex := 365, descriptorIndex := 339, attributes := #[] }, { accessFlags := 26, nameIndex := 172, descriptorIndex := 173, attributes := #[] }, { accessFlags := 26, nameIndex := 176, descriptorIndex := 173, attributes := #[] }, { accessFlags := 8, nameIndex := 344, descriptorIndex := 339, attributes := #[] }, { accessFlags := 8, nameIndex := 338, descriptorIndex := 339, attributes := #[] }, { accessFlags := 4120, nameIndex := 245, descriptorIndex := 246, attributes := #[] }])
  fields := #[{ name := "E", type := .double, accessFlags := 25, slot := 0, constantValue := 0 }, { name := "PI", type := .double, accessFlags := 25, slot := 1, constantValue := 0 }, { name := "TAU", type := .double, accessFlags := 25, slot := 2, constantValue := 0 }, { name := "DEGREES_TO_RADIANS", type := .double, accessFlags := 26, slot := 3, constantValue := 0 }, { name := "RADIANS_TO_DEGREES", type := .double, accessFlags := 26, slot := 4, constantValue := 0 }, { name := "negativeZeroFloatBits", type := .long, accessFlags := 26, slot := 5, constantValue := 0 }, { name := "negativeZeroDoubleBits", type := .long, accessFlags := 26, slot := 6, constantValue := 0 }, { name := "twoToTheDoubleScaleUp", type := .double, accessFlags := 8, slot := 7, constantValue := 0 }, { name := "twoToTheDoubleScaleDown", type := .double, accessFlags := 8, slot := 8, constantValue := 0 }, { name := "$assertionsDisabled", type := .boolean, accessFlags := 4120, slot := 9, constantValue := 0 }]
  methods := #[k23m0, k23m1]
  instanceTypes := #[]
  staticTypes := #[.double, .double, .double, .double, .double, .long, .long, .double, .double, .boolean]
  resolved := Array.replicate 460 none
  statics := none }

def pool24 : Array CpInfo := pool [(2, .class_ 4), (1, u "java/lang/Object"), (0, u "<init>"), (0, u "()V"), (14, .class_ 23), (1, u "java/nio/charset/StandardCharsets"), (0, u "US_ASCII"), (0, u "Ljava/nio/charset/Charset;"), (7, u "ISO_8859_1"), (7, u "UTF_8"), (5, u "UTF_16BE"), (5, u "UTF_16LE"), (5, u "UTF_16")] 8

def k24m0 : Method := { name := "<init>", desc := "()V", sig := { parameters := [], returnType := none }, accessFlags := 2, code := none }
/-- java/nio/charset/StandardCharsets -/
def k24 : Class := { plain "java/nio/charset/StandardCharsets" (some 0) with
  accessFlags := 49
  interfaces := #[]
  cf := some (fileOf pool24 21 #[] #[{ accessFlags := 2, nameIndex := 5, descriptorIndex := 6, attributes := #[] }] 49 2 #[] #[{ accessFlags := 25, nameIndex := 24, descriptorIndex := 25, attributes := #[] }, { accessFlags := 25, nameIndex := 33, descriptorIndex := 25, attributes := #[] }, { accessFlags := 25, nameIndex := 41, descriptorIndex := 25, attributes := #[] }, { accessFlags := 25, nameIndex := 47, descriptorIndex := 25, attributes := #[] }, { accessFlags := 25, nameIndex := 53, descriptorIndex := 25, attributes := #[] }, { accessFlags := 25, nameIndex := 59, descriptorIndex := 25, attributes := #[] }])
  fields := #[{ name := "US_ASCII", type := (.object "java/nio/charset/Charset"), accessFlags := 25, slot := 0, constantValue := 0 }, { name := "ISO_8859_1", type := (.object "java/nio/charset/Charset"), accessFlags := 25, slot := 1, constantValue := 0 }, { name := "UTF_8", type := (.object "java/nio/charset/Charset"), accessFlags := 25, slot := 2, constantValue := 0 }, { name := "UTF_16BE", type := (.object "java/nio/charset/Charset"), accessFlags := 25, slot := 3, constantValue := 0 }, { name := "UTF_16LE", type := (.object "java/nio/charset/Charset"), accessFlags := 25, slot := 4, constantValue := 0 }, { name := "UTF_16", type := (.object "java/nio/charset/Charset"), accessFlags := 25, slot := 5, constantValue := 0 }]
  methods := #[k24m0]
  instanceTypes := #[]
  staticTypes := #[(.object "java/nio/charset/Charset"), (.object "java/nio/charset/Charset"), (.object "java/nio/charset/Charset"), (.object "java/nio/charset/Charset"), (.object "java/nio/charset/Charset"), (.object "java/nio/charset/Charset")]
  resolved := Array.replicate 68 none
  statics := some 1 }

def pool25 : Array CpInfo := pool [(18, .class_ 20), (1, u "java/nio/charset/Charset"), (0, u "cache1"), (0, u "[Ljava/lang/Object;"), (2, u "cache2"), (0, .class_ 27), (0, u "java/lang/Object"), (0, .class_ 29), (0, u "java/nio/charset/Charset$1"), (4, .class_ 36), (1, u "java/nio/charset/Charset$ThreadTrackHolder"), (21, .class_ 59), (0, u "java/nio/charset/Charset$2"), (11, .class_ 73), (1, u "java/nio/charset/Charset$ExtendedProviderHolder"), (22, u "standardProvider"), (0, u "Ljava/nio/charset/spi/CharsetProvider;"), (29, u "name"), (7, .class_ 136), (0, u "java/nio/charset/Charset$3"), (5, u "defaultCharset"), (0, u "Ljava/nio/charset/Charset;"), (14, u "zeroAliases"), (0, u "[Ljava/lang/String;"), (29, u "Ljava/lang/String;"), (2, u "aliases"), (2, u "aliasSet"), (0, u "Ljava/util/Set;"), (82, .class_ 280), (0, u "java/lang/Comparable"), (84, .class_ 366), (0, u "java/nio/charset/Charset$ExtendedProviderHolder$1")] 3

/-- java/nio/charset/Charset -/
def k25 : Class := { plain "java/nio/charset/Charset" (some 0) with
  accessFlags := 1057
  interfaces := #[4]
  cf := some (fileOf pool25 18 #[.nestMembers #[71, 365, 34, 135, 58, 28]] #[] 1057 26 #[279] #[{ accessFlags := 26, nameIndex := 96, descriptorIndex := 97, attributes := #[] }, { accessFlags := 26, nameIndex := 158, descriptorIndex := 159, attributes := #[] }, { accessFlags := 74, nameIndex := 21, descriptorIndex := 22, attributes := #[] }, { accessFlags := 74, nameIndex := 25, descriptorIndex := 22, attributes := #[] }, { accessFlags := 10, nameIndex := 142, descriptorIndex := 143, attributes := #[] }, { accessFlags := 18, nameIndex := 127, descriptorIndex := 189, attributes := #[] }, { accessFlags := 18, nameIndex := 192, descriptorIndex := 159, attributes := #[] }, { accessFlags := 2, nameIndex := 195, descriptorIndex := 196, attributes := #[] }])
  fields := #[{ name := "standardProvider", type := (.object "java/nio/charset/spi/CharsetProvider"), accessFlags := 26, slot := 0, constantValue := 0 }, { name := "zeroAliases", type := (.array (.object "java/lang/String")), accessFlags := 26, slot := 1, constantValue := 0 }, { name := "cache1", type := (.array (.object "java/lang/Object")), accessFlags := 74, slot := 2, constantValue := 0 }, { name := "cache2", type := (.array (.object "java/lang/Object")), accessFlags := 74, slot := 3, constantValue := 0 }, { name := "defaultCharset", type := (.object "java/nio/charset/Charset"), accessFlags := 10, slot := 4, constantValue := 0 }, { name := "name", type := (.object "java/lang/String"), accessFlags := 18, slot := 0, constantValue := 0 }, { name := "aliases", type := (.array (.object "java/lang/String")), accessFlags := 18, slot := 1, constantValue := 0 }, { name := "aliasSet", type := (.object "java/util/Set"), accessFlags := 2, slot := 2, constantValue := 0 }]
  methods := #[]
  instanceTypes := #[(.object "java/lang/String"), (.array (.object "java/lang/String")), (.object "java/util/Set")]
  staticTypes := #[(.object "java/nio/charset/spi/CharsetProvider"), (.array (.object "java/lang/String")), (.array (.object "java/lang/Object")), (.array (.object "java/lang/Object")), (.object "java/nio/charset/Charset")]
  resolved := Array.replicate 370 none
  statics := none }

def pool26 : Array CpInfo := pool [(1, .class_ 2), (0, u "sun/nio/cs/HistoricallyNamedCharset"), (0, .class_ 4), (0, u "java/lang/Object")] 4

/-- sun/nio/cs/HistoricallyNamedCharset -/
def k26 : Class := { plain "sun/nio/cs/HistoricallyNamedCharset" (some 0) with
  accessFlags := 1537
  interfaces := #[]
  cf := some (fileOf pool26 1 #[] #[] 1537 3 #[] #[])
  fields := #[]
  methods := #[]
  instanceTypes := #[]
  staticTypes := #[]
  resolved := Array.replicate 9 none
  statics := none }

def pool27 : Array CpInfo := pool [(2, .class_ 4), (1, u "java/nio/charset/Charset"), (130, .class_ 136), (0, u "sun/nio/cs/Unicode"), (0, .class_ 138), (0, u "sun/nio/cs/HistoricallyNamedCharset")] 15

/-- sun/nio/cs/Unicode -/
def k27 : Class := { plain "sun/nio/cs/Unicode" (some 25) with
  accessFlags := 1056
  interfaces := #[26]
  cf := some (fileOf pool27 135 #[] #[] 1056 2 #[137] #[])
  fields := #[]
  methods := #[]
  instanceTypes := #[(.object "java/lang/String"), (.array (.object "java/lang/String")), (.object "java/util/Set")]
  staticTypes := #[]
  resolved := Array.replicate 154 none
  statics := none }

def pool28 : Array CpInfo := pool [(10, .class_ 12), (1, u "sun/nio/cs/Unicode"), (0, u "<init>"), (3, .class_ 18), (0, u "sun/nio/cs/UTF_8$Decoder"), (3, .class_ 23), (0, u "sun/nio/cs/UTF_8$Encoder"), (15, .class_ 40), (0, u "sun/nio/cs/UTF_8"), (2, u "()V"), (2, u "INSTANCE"), (0, u "Lsun/nio/cs/UTF_8;"), (8, u "JLA"), (0, u "Ljdk/internal/access/JavaLangAccess;")] 26

def k28m0 : Method := { name := "<init>", desc := "()V", sig := { parameters := [], returnType := none }, accessFlags := 1, code := none }
/-- sun/nio/cs/UTF_8 -/
def k28 : Class := { plain "sun/nio/cs/UTF_8" (some 27) with
  accessFlags := 49
  interfaces := #[]
  cf := some (fileOf pool28 39 #[.nestMembers #[22, 17]] #[{ accessFlags := 1, nameIndex := 13, descriptorIndex := 43, attributes := #[] }] 49 10 #[] #[{ accessFlags := 25, nameIndex := 46, descriptorIndex := 47, attributes := #[] }, { accessFlags := 26, nameIndex := 56, descriptorIndex := 57, attributes := #[] }])
  fields := #[{ name := "INSTANCE", type := (.object "sun/nio/cs/UTF_8"), accessFlags := 25, slot := 0, constantValue := 0 }, { name := "JLA", type := (.object "jdk/internal/access/JavaLangAccess"), accessFlags := 26, slot := 1, constantValue := 0 }]
  methods := #[k28m0]
  instanceTypes := #[(.object "java/lang/String"), (.array (.object "java/lang/String")), (.object "java/util/Set")]
  staticTypes := #[(.object "sun/nio/cs/UTF_8"), (.object "jdk/internal/access/JavaLangAccess")]
  resolved := Array.replicate 84 none
  statics := some 2 }

def pool29 : Array CpInfo := pool [(2, .class_ 4), (1, u "java/lang/Object"), (0, u "<init>"), (0, u "()V"), (0, .methodref 8 9), (0, .class_ 10), (0, .nameAndType 11 12), (0, u "java/lang/StringCoding"), (0, u "countPositives"), (0, u "([BII)I"), (11, u "hasNegatives"), (0, u "([BII)Z")] 23

def k29m0 : Method := { name := "<init>", desc := "()V", sig := { parameters := [], returnType := none }, accessFlags := 2, code := none }
def k29c1 : Code := { maxStack := 3, maxLocals := 3, code := jdk_123_method_2_code, exceptionTable := #[], attributes := #[] }
def k29m1 : Method := { name := "hasNegatives", desc := "([BII)Z", sig := { parameters := [(.array .byte), .int, .int], returnType := some .boolean }, accessFlags := 9, code := some k29c1 }
def k29c2 : Code := { maxStack := 2, maxLocals := 5, code := jdk_123_method_3_code, exceptionTable := #[], attributes := #[] }
def k29m2 : Method := { name := "countPositives", desc := "([BII)I", sig := { parameters := [(.array .byte), .int, .int], returnType := some .int }, accessFlags := 9, code := some k29c2 }
/-- java/lang/StringCoding -/
def k29 : Class := { plain "java/lang/StringCoding" (some 0) with
  accessFlags := 32
  interfaces := #[]
  cf := some (fileOf pool29 8 #[] #[{ accessFlags := 2, nameIndex := 5, descriptorIndex := 6, attributes := #[] }, { accessFlags := 9, nameIndex := 24, descriptorIndex := 25, attributes := #[] }, { accessFlags := 9, nameIndex := 11, descriptorIndex := 12, attributes := #[] }] 32 2 #[] #[])
  fields := #[]
  methods := #[k29m0, k29m1, k29m2]
  instanceTypes := #[]
  staticTypes := #[]
  resolved := Array.replicate 49 none
  statics := none }

def pool30 : Array CpInfo := pool [(2, .class_ 4), (1, u "java/lang/Object"), (0, u "<init>"), (0, u "()V"), (17, .class_ 26), (1, u "jdk/internal/util/Preconditions"), (28, .class_ 56), (0, u "jdk/internal/util/Preconditions$4"), (57, .class_ 115), (0, u "jdk/internal/util/Preconditions$1"), (7, u "SIOOBE_FORMATTER"), (0, u "Ljava/util/function/BiFunction;"), (0, .class_ 126), (0, u "jdk/internal/util/Preconditions$2"), (3, u "AIOOBE_FORMATTER"), (0, .class_ 132), (0, u "jdk/internal/util/Preconditions$3"), (3, u "IOOBE_FORMATTER")] 57

def k30m0 : Method := { name := "<init>", desc := "()V", sig := { parameters := [], returnType := none }, accessFlags := 1, code := none }
/-- jdk/internal/util/Preconditions -/
def k30 : Class := { plain "jdk/internal/util/Preconditions" (some 0) with
  accessFlags := 33
  interfaces := #[]
  cf := some (fileOf pool30 24 #[.nestMembers #[55, 131, 125, 114]] #[{ accessFlags := 1, nameIndex := 5, descriptorIndex := 6, attributes := #[] }] 33 2 #[] #[{ accessFlags := 25, nameIndex := 123, descriptorIndex := 124, attributes := #[] }, { accessFlags := 25, nameIndex := 130, descriptorIndex := 124, attributes := #[] }, { accessFlags := 25, nameIndex := 136, descriptorIndex := 124, attributes := #[] }])
  fields := #[{ name := "SIOOBE_FORMATTER", type := (.object "java/util/function/BiFunction"), accessFlags := 25, slot := 0, constantValue := 0 }, { name := "AIOOBE_FORMATTER", type := (.object "java/util/function/BiFunction"), accessFlags := 25, slot := 1, constantValue := 0 }, { name := "IOOBE_FORMATTER", type := (.object "java/util/function/BiFunction"), accessFlags := 25, slot := 2, constantValue := 0 }]
  methods := #[k30m0]
  instanceTypes := #[]
  staticTypes := #[(.object "java/util/function/BiFunction"), (.object "java/util/function/BiFunction"), (.object "java/util/function/BiFunction")]
  resolved := Array.replicate 194 none
  statics := some 3 }

def pool31 : Array CpInfo := pool [(9, u "<init>"), (6, .class_ 18), (1, u "java/lang/Object"), (0, u "()V"), (1, .class_ 23), (1, u "jdk/internal/util/ArraysSupport"), (0, u "LOG2_ARRAY_LONG_INDEX_SCALE"), (0, u "I"), (2, u "U"), (0, u "Ljdk/internal/misc/Unsafe;"), (8, u "BIG_ENDIAN"), (0, u "Z"), (8, u "LOG2_BYTE_BIT_SIZE"), (4, u "LOG2_ARRAY_INT_INDEX_SCALE"), (54, u "JLA"), (0, u "Ljdk/internal/access/JavaLangAccess;"), (11, u "LOG2_ARRAY_BOOLEAN_INDEX_SCALE"), (9, u "LOG2_ARRAY_BYTE_INDEX_SCALE"), (5, u "LOG2_ARRAY_CHAR_INDEX_SCALE"), (5, u "LOG2_ARRAY_SHORT_INDEX_SCALE"), (18, u "LOG2_ARRAY_FLOAT_INDEX_SCALE"), (24, u "LOG2_ARRAY_DOUBLE_INDEX_SCALE"), (89, u "T_BOOLEAN"), (2, u "T_CHAR"), (1, u "T_FLOAT"), (1, u "T_DOUBLE"), (1, u "T_BYTE"), (1, u "T_SHORT"), (1, u "T_INT"), (1, u "T_LONG"), (1, u "SOFT_MAX_ARRAY_LENGTH")] 83

def k31m0 : Method := { name := "<init>", desc := "()V", sig := { parameters := [], returnType := none }, accessFlags := 2, code := none }
/-- jdk/internal/util/ArraysSupport -/
def k31 : Class := { plain "jdk/internal/util/ArraysSupport" (some 0) with
  accessFlags := 33
  interfaces := #[]
  cf := some (fileOf pool31 21 #[] #[{ accessFlags := 2, nameIndex := 9, descriptorIndex := 19, attributes := #[] }] 33 16 #[] #[{ accessFlags := 24, nameIndex := 28, descriptorIndex := 29, attributes := #[] }, { accessFlags := 26, nameIndex := 38, descriptorIndex := 39, attributes := #[] }, { accessFlags := 25, nameIndex := 121, descriptorIndex := 25, attributes := #[] }, { accessFlags := 25, nameIndex := 131, descriptorIndex := 25, attributes := #[] }, { accessFlags := 25, nameIndex := 137, descriptorIndex := 25, attributes := #[] }, { accessFlags := 25, nameIndex := 143, descriptorIndex := 25, attributes := #[] }, { accessFlags := 25, nameIndex := 53, descriptorIndex := 25, attributes := #[] }, { accessFlags := 25, nameIndex := 24, descriptorIndex := 25, attributes := #[] }, { accessFlags := 25, nameIndex := 162, descriptorIndex := 25, attributes := #[] }, { accessFlags := 25, nameIndex := 187, descriptorIndex := 25, attributes := #[] }, { accessFlags := 26, nameIndex := 48, descriptorIndex := 25, attributes := #[] }, { accessFlags := 25, nameIndex := 277, descriptorIndex := 25, attributes := #[] }, { accessFlags := 25, nameIndex := 280, descriptorIndex := 25, attributes := #[] }, { accessFlags := 25, nameIndex := 282, descriptorIndex := 25, attributes := #[] }, { accessFlags := 25, nameIndex := 284, descriptorIndex := 25, attributes := #[] }, { accessFlags := 25, nameIndex := 286, descriptorIndex := 25, attributes := #[] }, { accessFlags := 25, nameIndex := 288, descriptorIndex := 25, attributes := #[] }, { accessFlags := 25, nameIndex := 290, descriptorIndex := 25, attributes := #[] }, { accessFlags := 25, nameIndex := 292, descriptorIndex := 25, attributes := #[] }, { accessFlags := 26, nameIndex := 108, descriptorIndex := 109, attributes := #[] }, { accessFlags := 25, nameIndex := 294, descriptorIndex := 25, attributes := #[] }])
  fields := #[{ name := "U", type := (.object "jdk/internal/misc/Unsafe"), accessFlags := 24, slot := 0, constantValue := 0 }, { name := "BIG_ENDIAN", type := .boolean, accessFlags := 26, slot := 1, constantValue := 0 }, { name := "LOG2_ARRAY_BOOLEAN_INDEX_SCALE", type := .int, accessFlags := 25, slot := 2, constantValue := 0 }, { name := "LOG2_ARRAY_BYTE_INDEX_SCALE", type := .int, accessFlags := 25, slot := 3, constantValue := 0 }, { name := "LOG2_ARRAY_CHAR_INDEX_SCALE", type := .int, accessFlags := 25, slot := 4, constantValue := 0 }, { name := "LOG2_ARRAY_SHORT_INDEX_SCALE", type := .int, accessFlags := 25, slot := 5, constantValue := 0 }, { name := "LOG2_ARRAY_INT_INDEX_SCALE", type := .int, accessFlags := 25, slot := 6, constantValue := 0 }, { name := "LOG2_ARRAY_LONG_INDEX_SCALE", type := .int, accessFlags := 25, slot := 7, constantValue := 0 }, { name := "LOG2_ARRAY_FLOAT_INDEX_SCALE", type := .int, accessFlags := 25, slot := 8, constantValue := 0 }, { name := "LOG2_ARRAY_DOUBLE_INDEX_SCALE", type := .int, accessFlags := 25, slot := 9, constantValue := 0 }, { name := "LOG2_BYTE_BIT_SIZE", type := .int, accessFlags := 26, slot := 10, constantValue := 0 }, { name := "T_BOOLEAN", type := .int, accessFlags := 25, slot := 11, constantValue := 0 }, { name := "T_CHAR", type := .int, accessFlags := 25, slot := 12, constantValue := 0 }, { name := "T_FLOAT", type := .int, accessFlags := 25, slot := 13, constantValue := 0 }, { name := "T_DOUBLE", type := .int, accessFlags := 25, slot := 14, constantValue := 0 }, { name := "T_BYTE", type := .int, accessFlags := 25, slot := 15, constantValue := 0 }, { name := "T_SHORT", type := .int, accessFlags := 25, slot := 16, constantValue := 0 }, { name := "T_INT", type := .int, accessFlags := 25, slot := 17, constantValue := 0 }, { name := "T_LONG", type := .int, accessFlags := 25, slot := 18, constantValue := 0 }, { name := "JLA", type := (.object "jdk/internal/access/JavaLangAccess"), accessFlags := 26, slot := 19, constantValue := 0 }, { name := "SOFT_MAX_ARRAY_LENGTH", type := .int, accessFlags := 25, slot := 20, constantValue := 0 }]
  methods := #[k31m0]
  instanceTypes := #[]
  staticTypes := #[(.object "jdk/internal/misc/Unsafe"), .boolean, .int, .int, .int, .int, .int, .int, .int, .int, .int, .int, .int, .int, .int, .int, .int, .int, .int, (.object "jdk/internal/access/JavaLangAccess"), .int]
  resolved := Array.replicate 378 none
  statics := none }

/-- the primitive byte -/
def k32 : Class := { plain "byte" none with kind := .primitive 'B', accessFlags := 0x411 }
/-- [B -/
def k33 : Class := { plain "[B" (some 0) with kind := .array 32 .byte, interfaces := #[15, 3], accessFlags := 1041 }

/-- the primitive int -/
def k34 : Class := { plain "int" none with kind := .primitive 'I', accessFlags := 0x411 }
/-- [I -/
def k35 : Class := { plain "[I" (some 0) with kind := .array 34 .int, interfaces := #[15, 3], accessFlags := 1041 }

/-- [Ljava/lang/Object; -/
def k36 : Class := { plain "[Ljava/lang/Object;" (some 0) with kind := .array 0 (.object "java/lang/Object"), interfaces := #[15, 3], accessFlags := 1041 }

def heap : Heap := #[{ cls := 8, slots := #[.long 0, .int 1, .null, .int 0, .null, .int 0, .int 0], vm := .statics 8 },
  { cls := 24, slots := #[.null, .null, .ref 4, .null, .null, .null], vm := .statics 24 },
  { cls := 28, slots := #[.ref 4, .null], vm := .statics 28 },
  { cls := 30, slots := #[.null, .null, .null], vm := .statics 30 },
  { cls := 28, slots := #[.null, .null, .null], vm := .none }]
def classes : Array Class := #[k0, k1, k2, k3, k4, k5, k6, k7, k8, k9, k10, k11, k12, k13, k14, k15, k16, k17, k18, k19, k20, k21, k22, k23, k24, k25, k26, k27, k28, k29, k30, k31, k32, k33, k34, k35, k36]
def interned : List (Array UInt16 × Addr) := []
def slotsUsed : Nat := 21
def theMethod : MethodId := ⟨1, 2⟩
def args0 : Array Value := #[.int 65, .int 66, .int 1]
def aboutOver (below : List Frame) : State where
  vm := { classes := classes, interned := interned.toArray }
  heap := heap
  slotsUsed := slotsUsed
  threads := #[{ frames := .invoking theMethod args0 :: below }]
def below0 : List Frame := [.native { method := ⟨0, 0⟩, args := #[] }]
def about1 : State := aboutOver below0
def p0 : Program := .bare "" "" ""
def e0 : Env := launch0.env 0 0 0
theorem w_frames : about1.frames = Frame.invoking theMethod args0 :: below0 := rfl
set_option maxRecDepth 65536 in
theorem w_args : argsFit about1.vm theMethod args0 = true := by decide +kernel
set_option maxRecDepth 65536 in
theorem w_heap : heapFits about1 = true := by decide +kernel
set_option maxRecDepth 65536 in
theorem w_runnable : about1.curStatus? = some .runnable := by decide +kernel
set_option maxRecDepth 65536 in
theorem w_alone : about1.alone = true := by decide +kernel
set_option maxRecDepth 65536 in
theorem w_named : about1.methodNamed? x = some theMethod := by decide +kernel
set_option maxRecDepth 65536 in
theorem w_hears : about1.hears theMethod below0 = true := by decide +kernel
set_option maxRecDepth 65536 in
theorem w_ripe : about1.ripe theMethod args0 below0 = true := by decide +kernel
theorem w_running : about1.status = .running := rfl
set_option maxRecDepth 65536 in
theorem w_room : about1.hasRoom e0.platform room_1 = true :=
  launch0.hasRoom_least _ room_1 (by decide +kernel) (by decide +kernel) (by decide +kernel) (by decide +kernel) (by decide +kernel) (by decide +kernel)
theorem allAtoms_all (ts : List Jvm.Cond) (a : Array Jvm.Value) (st : Jvm.State) : (allAtoms ts).before a st = ts.all (fun c => c.before a st) := by
  induction ts with
  | nil => rfl
  | cons c t ih =>
    show (Jvm.Cond.and c (allAtoms t)).before a st = _
    rw [Jvm.Cond.before_and, ih, List.all_cons]
def words1 : List Jvm.Cond := Jvm.Cond.code x code maxLocals ret :: tables_1
/-- a 'code' word, met by the world's own term for the bytes: nothing is compared byte by byte -/
theorem code_word {y : MethodName} {bytes : ByteArray} {mx : Nat} {rt : Option FieldType} {a : Array Value} {s : State} {m : MethodId} {meth : Method} {c : Code} (h1 : s.methodNamed? y = some m) (h2 : s.vm.method? m = some meth) (h3 : meth.code = some c) (h4 : c.code = bytes)
    (h5 : (c.maxLocals == mx && c.exceptionTable.isEmpty && decide (c.maxStack ≤ mostOperands) && decide (meth.sig.returnType = rt) && !meth.locks && decide (parseMethodDescriptor y.desc = some meth.sig)) = true) : (Jvm.Cond.code y bytes mx rt).before a s = true := by
  simp only [Bool.and_eq_true, beq_iff_eq, Bool.not_eq_true', decide_eq_true_eq] at h5
  obtain ⟨⟨⟨⟨⟨g1, g2⟩, g3⟩, g4⟩, g5⟩, g6⟩ := h5
  simp [Cond.before, Cond.holds, Cond.value, h1, h2, h3, h4, g1, g2, g3, g4, g5, g6]
def isCode : Jvm.Cond → Bool
  | .code _ _ _ _ => true
  | _ => false
theorem all_split {L : List Jvm.Cond} {P : Jvm.Cond → Bool} (h1 : L.all (fun c => isCode c || P c) = true) (h2 : ∀ c ∈ L.filter isCode, P c = true) : L.all P = true := by
  refine List.all_eq_true.mpr fun c hc => ?_
  have h := List.all_eq_true.mp h1 c hc
  rcases Bool.eq_false_or_eq_true (isCode c) with hi | hi
  · exact h2 c (List.mem_filter.mpr ⟨hc, hi⟩)
  · simpa [hi] using h
set_option maxRecDepth 65536 in
theorem w_c0 : (Jvm.Cond.code x code maxLocals ret).before args0 about1 = true := code_word (m := ⟨1, 2⟩) (meth := k1m2) (c := k1c2) (by decide +kernel) rfl rfl rfl (by decide +kernel)
set_option maxRecDepth 65536 in
theorem w_c1 : (Jvm.Cond.code ({ cls := "com/example/sluice/sluice/server/XmlWriter", name := "<init>", desc := "()V" } : Jvm.MethodName) prog_22_method_1_code (1 : Nat) (Option.none : Option Jvm.ClassFile.FieldType)).before args0 about1 = true := code_word (m := ⟨2, 0⟩) (meth := k2m0) (c := k2c0) (by decide +kernel) rfl rfl rfl (by decide +kernel)
set_option maxRecDepth 65536 in
theorem w_c2 : (Jvm.Cond.code ({ cls := "com/example/sluice/sluice/server/XmlWriter", name := "<init>", desc := "(Ljava/lang/String;)V" } : Jvm.MethodName) prog_22_method_2_code (2 : Nat) (Option.none : Option Jvm.ClassFile.FieldType)).before args0 about1 = true := code_word (m := ⟨2, 1⟩) (meth := k2m1) (c := k2c1) (by decide +kernel) rfl rfl rfl (by decide +kernel)
set_option maxRecDepth 65536 in
theorem w_c3 : (Jvm.Cond.code ({ cls := "java/lang/Object", name := "<init>", desc := "()V" } : Jvm.MethodName) object_method_1_code (1 : Nat) (Option.none : Option Jvm.ClassFile.FieldType)).before args0 about1 = true := code_word (m := ⟨0, 0⟩) (meth := k0m0) (c := k0c0) (by decide +kernel) rfl rfl rfl (by decide +kernel)
set_option maxRecDepth 65536 in
theorem w_c4 : (Jvm.Cond.code ({ cls := "java/util/ArrayDeque", name := "<init>", desc := "()V" } : Jvm.MethodName) jdk_21_method_3_code (1 : Nat) (Option.none : Option Jvm.ClassFile.FieldType)).before args0 about1 = true := code_word (m := ⟨16, 0⟩) (meth := k16m0) (c := k16c0) (by decide +kernel) rfl rfl rfl (by decide +kernel)
set_option maxRecDepth 65536 in
theorem w_c5 : (Jvm.Cond.code ({ cls := "java/util/AbstractCollection", name := "<init>", desc := "()V" } : Jvm.MethodName) jdk_22_method_1_code (1 : Nat) (Option.none : Option Jvm.ClassFile.FieldType)).before args0 about1 = true := code_word (m := ⟨11, 0⟩) (meth := k11m0) (c := k11c0) (by decide +kernel) rfl rfl rfl (by decide +kernel)
set_option maxRecDepth 65536 in
theorem w_c6 : (Jvm.Cond.code ({ cls := "java/lang/StringBuilder", name := "<init>", desc := "(Ljava/lang/String;)V" } : Jvm.MethodName) jdk_67_method_3_code (2 : Nat) (Option.none : Option Jvm.ClassFile.FieldType)).before args0 about1 = true := code_word (m := ⟨19, 1⟩) (meth := k19m1) (c := k19c1) (by decide +kernel) rfl rfl rfl (by decide +kernel)
set_option maxRecDepth 65536 in
theorem w_c7 : (Jvm.Cond.code ({ cls := "java/lang/AbstractStringBuilder", name := "<init>", desc := "(Ljava/lang/String;)V" } : Jvm.MethodName) jdk_68_method_3_code (5 : Nat) (Option.none : Option Jvm.ClassFile.FieldType)).before args0 about1 = true := code_word (m := ⟨18, 1⟩) (meth := k18m1) (c := k18c1) (by decide +kernel) rfl rfl rfl (by decide +kernel)
set_option maxRecDepth 65536 in
theorem w_c8 : (Jvm.Cond.code ({ cls := "java/lang/String", name := "length", desc := "()I" } : Jvm.MethodName) jdk_42_method_54_code (1 : Nat) (Option.some Jvm.ClassFile.FieldType.int)).before args0 about1 = true := code_word (m := ⟨8, 4⟩) (meth := k8m4) (c := k8c4) (by decide +kernel) rfl rfl rfl (by decide +kernel)
set_option maxRecDepth 65536 in
theorem w_c9 : (Jvm.Cond.code ({ cls := "java/lang/String", name := "coder", desc := "()B" } : Jvm.MethodName) jdk_42_method_152_code (1 : Nat) (Option.some Jvm.ClassFile.FieldType.byte)).before args0 about1 = true := code_word (m := ⟨8, 10⟩) (meth := k8m10) (c := k8c10) (by decide +kernel) rfl rfl rfl (by decide +kernel)
set_option maxRecDepth 65536 in
theorem w_c10 : (Jvm.Cond.code ({ cls := "java/lang/StringBuilder", name := "append", desc := "(Ljava/lang/String;)Ljava/lang/AbstractStringBuilder;" } : Jvm.MethodName) jdk_67_method_80_code (2 : Nat) (Option.some (Jvm.ClassFile.FieldType.object "java/lang/AbstractStringBuilder"))).before args0 about1 = true := code_word (m := ⟨19, 5⟩) (meth := k19m5) (c := k19c5) (by decide +kernel) rfl rfl rfl (by decide +kernel)
set_option maxRecDepth 65536 in
theorem w_c11 : (Jvm.Cond.code ({ cls := "java/lang/StringBuilder", name := "append", desc := "(Ljava/lang/String;)Ljava/lang/StringBuilder;" } : Jvm.MethodName) jdk_67_method_7_code (2 : Nat) (Option.some (Jvm.ClassFile.FieldType.object "java/lang/StringBuilder"))).before args0 about1 = true := code_word (m := ⟨19, 2⟩) (meth := k19m2) (c := k19c2) (by decide +kernel) rfl rfl rfl (by decide +kernel)
set_option maxRecDepth 65536 in
theorem w_c12 : (Jvm.Cond.code ({ cls := "java/lang/AbstractStringBuilder", name := "append", desc := "(Ljava/lang/String;)Ljava/lang/AbstractStringBuilder;" } : Jvm.MethodName) jdk_68_method_22_code (3 : Nat) (Option.some (Jvm.ClassFile.FieldType.object "java/lang/AbstractStringBuilder"))).before args0 about1 = true := code_word (m := ⟨18, 4⟩) (meth := k18m4) (c := k18c4) (by decide +kernel) rfl rfl rfl (by decide +kernel)
set_option maxRecDepth 65536 in
theorem w_c13 : (Jvm.Cond.code ({ cls := "java/lang/AbstractStringBuilder", name := "ensureCapacityInternal", desc := "(I)V" } : Jvm.MethodName) jdk_68_method_9_code (3 : Nat) (Option.none : Option Jvm.ClassFile.FieldType)).before args0 about1 = true := code_word (m := ⟨18, 3⟩) (meth := k18m3) (c := k18c3) (by decide +kernel) rfl rfl rfl (by decide +kernel)
set_option maxRecDepth 65536 in
theorem w_c14 : (Jvm.Cond.code ({ cls := "java/lang/AbstractStringBuilder", name := "putStringAt", desc := "(ILjava/lang/String;)V" } : Jvm.MethodName) jdk_68_method_73_code (3 : Nat) (Option.none : Option Jvm.ClassFile.FieldType)).before args0 about1 = true := code_word (m := ⟨18, 9⟩) (meth := k18m9) (c := k18c9) (by decide +kernel) rfl rfl rfl (by decide +kernel)
set_option maxRecDepth 65536 in
theorem w_c15 : (Jvm.Cond.code ({ cls := "java/lang/AbstractStringBuilder", name := "inflateIfNeededFor", desc := "(Ljava/lang/String;)V" } : Jvm.MethodName) jdk_68_method_71_code (2 : Nat) (Option.none : Option Jvm.ClassFile.FieldType)).before args0 about1 = true := code_word (m := ⟨18, 8⟩) (meth := k18m8) (c := k18c8) (by decide +kernel) rfl rfl rfl (by decide +kernel)
set_option maxRecDepth 65536 in
theorem w_c16 : (Jvm.Cond.code ({ cls := "java/lang/String", name := "getBytes", desc := "([BIB)V" } : Jvm.MethodName) jdk_42_method_147_code (4 : Nat) (Option.none : Option Jvm.ClassFile.FieldType)).before args0 about1 = true := code_word (m := ⟨8, 7⟩) (meth := k8m7) (c := k8c7) (by decide +kernel) rfl rfl rfl (by decide +kernel)
set_option maxRecDepth 65536 in
theorem w_c17 : (Jvm.Cond.code ({ cls := "java/lang/String", name := "valueOf", desc := "(C)Ljava/lang/String;" } : Jvm.MethodName) jdk_42_method_139_code (1 : Nat) (Option.some (Jvm.ClassFile.FieldType.object "java/lang/String"))).before args0 about1 = true := code_word (m := ⟨8, 6⟩) (meth := k8m6) (c := k8c6) (by decide +kernel) rfl rfl rfl (by decide +kernel)
set_option maxRecDepth 65536 in
theorem w_c18 : (Jvm.Cond.code ({ cls := "java/lang/StringLatin1", name := "canEncode", desc := "(C)Z" } : Jvm.MethodName) jdk_43_method_3_code (1 : Nat) (Option.some Jvm.ClassFile.FieldType.boolean)).before args0 about1 = true := code_word (m := ⟨21, 1⟩) (meth := k21m1) (c := k21c1) (by decide +kernel) rfl rfl rfl (by decide +kernel)
set_option maxRecDepth 65536 in
theorem w_c19 : (Jvm.Cond.code ({ cls := "java/lang/StringLatin1", name := "toBytes", desc := "(C)[B" } : Jvm.MethodName) jdk_43_method_46_code (1 : Nat) (Option.some (Jvm.ClassFile.FieldType.array Jvm.ClassFile.FieldType.byte))).before args0 about1 = true := code_word (m := ⟨21, 2⟩) (meth := k21m2) (c := k21c2) (by decide +kernel) rfl rfl rfl (by decide +kernel)
set_option maxRecDepth 65536 in
theorem w_c20 : (Jvm.Cond.code ({ cls := "java/lang/String", name := "<init>", desc := "([BB)V" } : Jvm.MethodName) jdk_42_method_151_code (3 : Nat) (Option.none : Option Jvm.ClassFile.FieldType)).before args0 about1 = true := code_word (m := ⟨8, 9⟩) (meth := k8m9) (c := k8c9) (by decide +kernel) rfl rfl rfl (by decide +kernel)
set_option maxRecDepth 65536 in
theorem w_c21 : (Jvm.Cond.code ({ cls := "com/example/sluice/sluice/server/XmlWriter", name := "start", desc := "(Ljava/lang/String;)Lcom/example/sluice/sluice/server/XmlWriter;" } : Jvm.MethodName) prog_22_method_5_code (2 : Nat) (Option.some (Jvm.ClassFile.FieldType.object "com/example/sluice/sluice/server/XmlWriter"))).before args0 about1 = true := code_word (m := ⟨2, 2⟩) (meth := k2m2) (c := k2c2) (by decide +kernel) rfl rfl rfl (by decide +kernel)
set_option maxRecDepth 65536 in
theorem w_c22 : (Jvm.Cond.code ({ cls := "java/lang/StringBuilder", name := "append", desc := "(C)Ljava/lang/StringBuilder;" } : Jvm.MethodName) jdk_67_method_14_code (2 : Nat) (Option.some (Jvm.ClassFile.FieldType.object "java/lang/StringBuilder"))).before args0 about1 = true := code_word (m := ⟨19, 3⟩) (meth := k19m3) (c := k19c3) (by decide +kernel) rfl rfl rfl (by decide +kernel)
set_option maxRecDepth 65536 in
theorem w_c23 : (Jvm.Cond.code ({ cls := "java/lang/AbstractStringBuilder", name := "append", desc := "(C)Ljava/lang/AbstractStringBuilder;" } : Jvm.MethodName) jdk_68_method_31_code (2 : Nat) (Option.some (Jvm.ClassFile.FieldType.object "java/lang/AbstractStringBuilder"))).before args0 about1 = true := code_word (m := ⟨18, 5⟩) (meth := k18m5) (c := k18c5) (by decide +kernel) rfl rfl rfl (by decide +kernel)
set_option maxRecDepth 65536 in
theorem w_c24 : (Jvm.Cond.code ({ cls := "java/lang/AbstractStringBuilder", name := "isLatin1", desc := "()Z" } : Jvm.MethodName) jdk_68_method_68_code (1 : Nat) (Option.some Jvm.ClassFile.FieldType.boolean)).before args0 about1 = true := code_word (m := ⟨18, 7⟩) (meth := k18m7) (c := k18c7) (by decide +kernel) rfl rfl rfl (by decide +kernel)
set_option maxRecDepth 65536 in
theorem w_c25 : (Jvm.Cond.code ({ cls := "java/util/ArrayDeque", name := "push", desc := "(Ljava/lang/Object;)V" } : Jvm.MethodName) jdk_21_method_34_code (2 : Nat) (Option.none : Option Jvm.ClassFile.FieldType)).before args0 about1 = true := code_word (m := ⟨16, 7⟩) (meth := k16m7) (c := k16c7) (by decide +kernel) rfl rfl rfl (by decide +kernel)
set_option maxRecDepth 65536 in
theorem w_c26 : (Jvm.Cond.code ({ cls := "java/util/ArrayDeque", name := "addFirst", desc := "(Ljava/lang/Object;)V" } : Jvm.MethodName) jdk_21_method_12_code (3 : Nat) (Option.none : Option Jvm.ClassFile.FieldType)).before args0 about1 = true := code_word (m := ⟨16, 4⟩) (meth := k16m4) (c := k16c4) (by decide +kernel) rfl rfl rfl (by decide +kernel)
set_option maxRecDepth 65536 in
theorem w_c27 : (Jvm.Cond.code ({ cls := "java/util/ArrayDeque", name := "dec", desc := "(II)I" } : Jvm.MethodName) jdk_21_method_7_code (2 : Nat) (Option.some Jvm.ClassFile.FieldType.int)).before args0 about1 = true := code_word (m := ⟨16, 2⟩) (meth := k16m2) (c := k16c2) (by decide +kernel) rfl rfl rfl (by decide +kernel)
set_option maxRecDepth 65536 in
theorem w_c28 : (Jvm.Cond.code ({ cls := "com/example/sluice/sluice/server/XmlWriter", name := "end", desc := "()Lcom/example/sluice/sluice/server/XmlWriter;" } : Jvm.MethodName) prog_22_method_7_code (1 : Nat) (Option.some (Jvm.ClassFile.FieldType.object "com/example/sluice/sluice/server/XmlWriter"))).before args0 about1 = true := code_word (m := ⟨2, 3⟩) (meth := k2m3) (c := k2c3) (by decide +kernel) rfl rfl rfl (by decide +kernel)
set_option maxRecDepth 65536 in
theorem w_c29 : (Jvm.Cond.code ({ cls := "java/util/ArrayDeque", name := "pop", desc := "()Ljava/lang/Object;" } : Jvm.MethodName) jdk_21_method_35_code (1 : Nat) (Option.some (Jvm.ClassFile.FieldType.object "java/lang/Object"))).before args0 about1 = true := code_word (m := ⟨16, 8⟩) (meth := k16m8) (c := k16c8) (by decide +kernel) rfl rfl rfl (by decide +kernel)
set_option maxRecDepth 65536 in
theorem w_c30 : (Jvm.Cond.code ({ cls := "java/util/ArrayDeque", name := "removeFirst", desc := "()Ljava/lang/Object;" } : Jvm.MethodName) jdk_21_method_18_code (2 : Nat) (Option.some (Jvm.ClassFile.FieldType.object "java/lang/Object"))).before args0 about1 = true := code_word (m := ⟨16, 5⟩) (meth := k16m5) (c := k16c5) (by decide +kernel) rfl rfl rfl (by decide +kernel)
set_option maxRecDepth 65536 in
theorem w_c31 : (Jvm.Cond.code ({ cls := "java/util/ArrayDeque", name := "pollFirst", desc := "()Ljava/lang/Object;" } : Jvm.MethodName) jdk_21_method_20_code (4 : Nat) (Option.some (Jvm.ClassFile.FieldType.object "java/lang/Object"))).before args0 about1 = true := code_word (m := ⟨16, 6⟩) (meth := k16m6) (c := k16c6) (by decide +kernel) rfl rfl rfl (by decide +kernel)
set_option maxRecDepth 65536 in
theorem w_c32 : (Jvm.Cond.code ({ cls := "java/util/ArrayDeque", name := "elementAt", desc := "([Ljava/lang/Object;I)Ljava/lang/Object;" } : Jvm.MethodName) jdk_21_method_10_code (2 : Nat) (Option.some (Jvm.ClassFile.FieldType.object "java/lang/Object"))).before args0 about1 = true := code_word (m := ⟨16, 3⟩) (meth := k16m3) (c := k16c3) (by decide +kernel) rfl rfl rfl (by decide +kernel)
set_option maxRecDepth 65536 in
theorem w_c33 : (Jvm.Cond.code ({ cls := "java/util/ArrayDeque", name := "inc", desc := "(II)I" } : Jvm.MethodName) jdk_21_method_6_code (2 : Nat) (Option.some Jvm.ClassFile.FieldType.int)).before args0 about1 = true := code_word (m := ⟨16, 1⟩) (meth := k16m1) (c := k16c1) (by decide +kernel) rfl rfl rfl (by decide +kernel)
set_option maxRecDepth 65536 in
theorem w_c34 : (Jvm.Cond.code ({ cls := "com/example/sluice/sluice/server/XmlWriter", name := "toUtf8", desc := "()[B" } : Jvm.MethodName) prog_22_method_8_code (1 : Nat) (Option.some (Jvm.ClassFile.FieldType.array Jvm.ClassFile.FieldType.byte))).before args0 about1 = true := code_word (m := ⟨2, 4⟩) (meth := k2m4) (c := k2c4) (by decide +kernel) rfl rfl rfl (by decide +kernel)
set_option maxRecDepth 65536 in
theorem w_c35 : (Jvm.Cond.code ({ cls := "java/util/ArrayDeque", name := "isEmpty", desc := "()Z" } : Jvm.MethodName) jdk_21_method_38_code (1 : Nat) (Option.some Jvm.ClassFile.FieldType.boolean)).before args0 about1 = true := code_word (m := ⟨16, 9⟩) (meth := k16m9) (c := k16c9) (by decide +kernel) rfl rfl rfl (by decide +kernel)
set_option maxRecDepth 65536 in
theorem w_c36 : (Jvm.Cond.code ({ cls := "java/lang/StringBuilder", name := "toString", desc := "()Ljava/lang/String;" } : Jvm.MethodName) jdk_67_method_42_code (1 : Nat) (Option.some (Jvm.ClassFile.FieldType.object "java/lang/String"))).before args0 about1 = true := code_word (m := ⟨19, 4⟩) (meth := k19m4) (c := k19c4) (by decide +kernel) rfl rfl rfl (by decide +kernel)
set_option maxRecDepth 65536 in
theorem w_c37 : (Jvm.Cond.code ({ cls := "java/lang/String", name := "<init>", desc := "(Ljava/lang/StringBuilder;)V" } : Jvm.MethodName) jdk_42_method_53_code (2 : Nat) (Option.none : Option Jvm.ClassFile.FieldType)).before args0 about1 = true := code_word (m := ⟨8, 3⟩) (meth := k8m3) (c := k8c3) (by decide +kernel) rfl rfl rfl (by decide +kernel)
set_option maxRecDepth 65536 in
theorem w_c38 : (Jvm.Cond.code ({ cls := "java/lang/String", name := "<init>", desc := "(Ljava/lang/AbstractStringBuilder;Ljava/lang/Void;)V" } : Jvm.MethodName) jdk_42_method_150_code (5 : Nat) (Option.none : Option Jvm.ClassFile.FieldType)).before args0 about1 = true := code_word (m := ⟨8, 8⟩) (meth := k8m8) (c := k8c8) (by decide +kernel) rfl rfl rfl (by decide +kernel)
set_option maxRecDepth 65536 in
theorem w_c39 : (Jvm.Cond.code ({ cls := "java/lang/AbstractStringBuilder", name := "getValue", desc := "()[B" } : Jvm.MethodName) jdk_68_method_64_code (1 : Nat) (Option.some (Jvm.ClassFile.FieldType.array Jvm.ClassFile.FieldType.byte))).before args0 about1 = true := code_word (m := ⟨18, 6⟩) (meth := k18m6) (c := k18c6) (by decide +kernel) rfl rfl rfl (by decide +kernel)
set_option maxRecDepth 65536 in
theorem w_c40 : (Jvm.Cond.code ({ cls := "java/lang/StringBuilder", name := "length", desc := "()I" } : Jvm.MethodName) jdk_67_method_93_code (1 : Nat) (Option.some Jvm.ClassFile.FieldType.int)).before args0 about1 = true := code_word (m := ⟨19, 6⟩) (meth := k19m6) (c := k19c6) (by decide +kernel) rfl rfl rfl (by decide +kernel)
set_option maxRecDepth 65536 in
theorem w_c41 : (Jvm.Cond.code ({ cls := "java/lang/AbstractStringBuilder", name := "length", desc := "()I" } : Jvm.MethodName) jdk_68_method_6_code (1 : Nat) (Option.some Jvm.ClassFile.FieldType.int)).before args0 about1 = true := code_word (m := ⟨18, 2⟩) (meth := k18m2) (c := k18c2) (by decide +kernel) rfl rfl rfl (by decide +kernel)
set_option maxRecDepth 65536 in
theorem w_c42 : (Jvm.Cond.code ({ cls := "java/util/Arrays", name := "copyOfRange", desc := "([BII)[B" } : Jvm.MethodName) jdk_65_method_132_code (3 : Nat) (Option.some (Jvm.ClassFile.FieldType.array Jvm.ClassFile.FieldType.byte))).before args0 about1 = true := code_word (m := ⟨22, 2⟩) (meth := k22m2) (c := k22c2) (by decide +kernel) rfl rfl rfl (by decide +kernel)
set_option maxRecDepth 65536 in
theorem w_c43 : (Jvm.Cond.code ({ cls := "java/util/Arrays", name := "copyOfRangeByte", desc := "([BII)[B" } : Jvm.MethodName) jdk_65_method_133_code (5 : Nat) (Option.some (Jvm.ClassFile.FieldType.array Jvm.ClassFile.FieldType.byte))).before args0 about1 = true := code_word (m := ⟨22, 3⟩) (meth := k22m3) (c := k22c3) (by decide +kernel) rfl rfl rfl (by decide +kernel)
set_option maxRecDepth 65536 in
theorem w_c44 : (Jvm.Cond.code ({ cls := "java/util/Arrays", name := "checkLength", desc := "(II)V" } : Jvm.MethodName) jdk_65_method_131_code (2 : Nat) (Option.none : Option Jvm.ClassFile.FieldType)).before args0 about1 = true := code_word (m := ⟨22, 1⟩) (meth := k22m1) (c := k22c1) (by decide +kernel) rfl rfl rfl (by decide +kernel)
set_option maxRecDepth 65536 in
theorem w_c45 : (Jvm.Cond.code ({ cls := "java/lang/Math", name := "min", desc := "(II)I" } : Jvm.MethodName) jdk_29_method_69_code (2 : Nat) (Option.some Jvm.ClassFile.FieldType.int)).before args0 about1 = true := code_word (m := ⟨23, 1⟩) (meth := k23m1) (c := k23c1) (by decide +kernel) rfl rfl rfl (by decide +kernel)
set_option maxRecDepth 65536 in
theorem w_c46 : (Jvm.Cond.code ({ cls := "java/lang/String", name := "getBytes", desc := "(Ljava/nio/charset/Charset;)[B" } : Jvm.MethodName) jdk_42_method_64_code (2 : Nat) (Option.some (Jvm.ClassFile.FieldType.array Jvm.ClassFile.FieldType.byte))).before args0 about1 = true := code_word (m := ⟨8, 5⟩) (meth := k8m5) (c := k8c5) (by decide +kernel) rfl rfl rfl (by decide +kernel)
set_option maxRecDepth 65536 in
theorem w_c47 : (Jvm.Cond.code ({ cls := "java/lang/String", name := "encode", desc := "(Ljava/nio/charset/Charset;B[B)[B" } : Jvm.MethodName) jdk_42_method_18_code (3 : Nat) (Option.some (Jvm.ClassFile.FieldType.array Jvm.ClassFile.FieldType.byte))).before args0 about1 = true := code_word (m := ⟨8, 1⟩) (meth := k8m1) (c := k8c1) (by decide +kernel) rfl rfl rfl (by decide +kernel)
set_option maxRecDepth 65536 in
theorem w_c48 : (Jvm.Cond.code ({ cls := "java/lang/String", name := "encodeUTF8", desc := "(B[BZ)[B" } : Jvm.MethodName) jdk_42_method_46_code (9 : Nat) (Option.some (Jvm.ClassFile.FieldType.array Jvm.ClassFile.FieldType.byte))).before args0 about1 = true := code_word (m := ⟨8, 2⟩) (meth := k8m2) (c := k8c2) (by decide +kernel) rfl rfl rfl (by decide +kernel)
set_option maxRecDepth 65536 in
theorem w_c49 : (Jvm.Cond.code ({ cls := "java/lang/StringCoding", name := "hasNegatives", desc := "([BII)Z" } : Jvm.MethodName) jdk_123_method_2_code (3 : Nat) (Option.some Jvm.ClassFile.FieldType.boolean)).before args0 about1 = true := code_word (m := ⟨29, 1⟩) (meth := k29m1) (c := k29c1) (by decide +kernel) rfl rfl rfl (by decide +kernel)
set_option maxRecDepth 65536 in
theorem w_c50 : (Jvm.Cond.code ({ cls := "java/lang/StringCoding", name := "countPositives", desc := "([BII)I" } : Jvm.MethodName) jdk_123_method_3_code (5 : Nat) (Option.some Jvm.ClassFile.FieldType.int)).before args0 about1 = true := code_word (m := ⟨29, 2⟩) (meth := k29m2) (c := k29c2) (by decide +kernel) rfl rfl rfl (by decide +kernel)
set_option maxRecDepth 65536 in
theorem w_c51 : (Jvm.Cond.code ({ cls := "com/example/sluice/sluice/server/XmlWriterEndPinLaw", name := "at", desc := "([BII)Z" } : Jvm.MethodName) method_2_code (3 : Nat) (Option.some Jvm.ClassFile.FieldType.boolean)).before args0 about1 = true := code_word (m := ⟨1, 1⟩) (meth := k1m1) (c := k1c1) (by decide +kernel) rfl rfl rfl (by decide +kernel)
def codes1 : List Jvm.Cond := [Jvm.Cond.code x code maxLocals ret, Jvm.Cond.code ({ cls := "com/example/sluice/sluice/server/XmlWriter", name := "<init>", desc := "()V" } : Jvm.MethodName) prog_22_method_1_code (1 : Nat) (Option.none : Option Jvm.ClassFile.FieldType), Jvm.Cond.code ({ cls := "com/example/sluice/sluice/server/XmlWriter", name := "<init>", desc := "(Ljava/lang/String;)V" } : Jvm.MethodName) prog_22_method_2_code (2 : Nat) (Option.none : Option Jvm.ClassFile.FieldType), Jvm.Cond.code ({ cls := "java/lang/Object", name := "<init>", desc := "()V" } : Jvm.MethodName) object_method_1_code (1 : Nat) (Option.none : Option Jvm.ClassFile.FieldType), Jvm.Cond.code ({ cls := "java/util/ArrayDeque", name := "<init>", desc := "()V" } : Jvm.MethodName) jdk_21_method_3_code (1 : Nat) (Option.none : Option Jvm.ClassFile.FieldType), Jvm.Cond.code ({ cls := "java/util/AbstractCollection", name := "<init>", desc := "()V" } : Jvm.MethodName) jdk_22_method_1_code (1 : Nat) (Option.none : Option Jvm.ClassFile.FieldType), Jvm.Cond.code ({ cls := "java/lang/StringBuilder", name := "<init>", desc := "(Ljava/lang/String;)V" } : Jvm.MethodName) jdk_67_method_3_code (2 : Nat) (Option.none : Option Jvm.ClassFile.FieldType), Jvm.Cond.code ({ cls := "java/lang/AbstractStringBuilder", name := "<init>", desc := "(Ljava/lang/String;)V" } : Jvm.MethodName) jdk_68_method_3_code (5 : Nat) (Option.none : Option Jvm.ClassFile.FieldType), Jvm.Cond.code ({ cls := "java/lang/String", name := "length", desc := "()I" } : Jvm.MethodName) jdk_42_method_54_code (1 : Nat) (Option.some Jvm.ClassFile.FieldType.int), Jvm.Cond.code ({ cls := "java/lang/String", name := "coder", desc := "()B" } : Jvm.MethodName) jdk_42_method_152_code (1 : Nat) (Option.some Jvm.ClassFile.FieldType.byte), Jvm.Cond.code ({ cls := "java/lang/StringBuilder", name := "append", desc := "(Ljava/lang/String;)Ljava/lang/AbstractStringBuilder;" } : Jvm.MethodName) jdk_67_method_80_code (2 : Nat) (Option.some (Jvm.ClassFile.FieldType.object "java/lang/AbstractStringBuilder")), Jvm.Cond.code ({ cls := "java/lang/StringBuilder", name := "append", desc := "(Ljava/lang/String;)Ljava/lang/StringBuilder;" } : Jvm.MethodName) jdk_67_method_7_code (2 : Nat) (Option.some (Jvm.ClassFile.FieldType.object "java/lang/StringBuilder")), Jvm.Cond.code ({ cls := "java/lang/AbstractStringBuilder", name := "append", desc := "(Ljava/lang/String;)Ljava/lang/AbstractStringBuilder;" } : Jvm.MethodName) jdk_68_method_22_code (3 : Nat) (Option.some (Jvm.ClassFile.FieldType.object "java/lang/AbstractStringBuilder")), Jvm.Cond.code ({ cls := "java/lang/AbstractStringBuilder", name := "ensureCapacityInternal", desc := "(I)V" } : Jvm.MethodName) jdk_68_method_9_code (3 : Nat) (Option.none : Option Jvm.ClassFile.FieldType), Jvm.Cond.code ({ cls := "java/lang/AbstractStringBuilder", name := "putStringAt", desc := "(ILjava/lang/String;)V" } : Jvm.MethodName) jdk_68_method_73_code (3 : Nat) (Option.none : Option Jvm.ClassFile.FieldType), Jvm.Cond.code ({ cls := "java/lang/AbstractStringBuilder", name := "inflateIfNeededFor", desc := "(Ljava/lang/String;)V" } : Jvm.MethodName) jdk_68_method_71_code (2 : Nat) (Option.none : Option Jvm.ClassFile.FieldType), Jvm.Cond.code ({ cls := "java/lang/String", name := "getBytes", desc := "([BIB)V" } : Jvm.MethodName) jdk_42_method_147_code (4 : Nat) (Option.none : Option Jvm.ClassFile.FieldType), Jvm.Cond.code ({ cls := "java/lang/String", name := "valueOf", desc := "(C)Ljava/lang/String;" } : Jvm.MethodName) jdk_42_method_139_code (1 : Nat) (Option.some (Jvm.ClassFile.FieldType.object "java/lang/String")), Jvm.Cond.code ({ cls := "java/lang/StringLatin1", name := "canEncode", desc := "(C)Z" } : Jvm.MethodName) jdk_43_method_3_code (1 : Nat) (Option.some Jvm.ClassFile.FieldType.boolean), Jvm.Cond.code ({ cls := "java/lang/StringLatin1", name := "toBytes", desc := "(C)[B" } : Jvm.MethodName) jdk_43_method_46_code (1 : Nat) (Option.some (Jvm.ClassFile.FieldType.array Jvm.ClassFile.FieldType.byte)), Jvm.Cond.code ({ cls := "java/lang/String", name := "<init>", desc := "([BB)V" } : Jvm.MethodName) jdk_42_method_151_code (3 : Nat) (Option.none : Option Jvm.ClassFile.FieldType), Jvm.Cond.code ({ cls := "com/example/sluice/sluice/server/XmlWriter", name := "start", desc := "(Ljava/lang/String;)Lcom/example/sluice/sluice/server/XmlWriter;" } : Jvm.MethodName) prog_22_method_5_code (2 : Nat) (Option.some (Jvm.ClassFile.FieldType.object "com/example/sluice/sluice/server/XmlWriter")), Jvm.Cond.code ({ cls := "java/lang/StringBuilder", name := "append", desc := "(C)Ljava/lang/StringBuilder;" } : Jvm.MethodName) jdk_67_method_14_code (2 : Nat) (Option.some (Jvm.ClassFile.FieldType.object "java/lang/StringBuilder")), Jvm.Cond.code ({ cls := "java/lang/AbstractStringBuilder", name := "append", desc := "(C)Ljava/lang/AbstractStringBuilder;" } : Jvm.MethodName) jdk_68_method_31_code (2 : Nat) (Option.some (Jvm.ClassFile.FieldType.object "java/lang/AbstractStringBuilder")), Jvm.Cond.code ({ cls := "java/lang/AbstractStringBuilder", name := "isLatin1", desc := "()Z" } : Jvm.MethodName) jdk_68_method_68_code (1 : Nat) (Option.some Jvm.ClassFile.FieldType.boolean), Jvm.Cond.code ({ cls := "java/util/ArrayDeque", name := "push", desc := "(Ljava/lang/Object;)V" } : Jvm.MethodName) jdk_21_method_34_code (2 : Nat) (Option.none : Option Jvm.ClassFile.FieldType), Jvm.Cond.code ({ cls := "java/util/ArrayDeque", name := "addFirst", desc := "(Ljava/lang/Object;)V" } : Jvm.MethodName) jdk_21_method_12_code (3 : Nat) (Option.none : Option Jvm.ClassFile.FieldType), Jvm.Cond.code ({ cls := "java/util/ArrayDeque", name := "dec", desc := "(II)I" } : Jvm.MethodName) jdk_21_method_7_code (2 : Nat) (Option.some Jvm.ClassFile.FieldType.int), Jvm.Cond.code ({ cls := "com/example/sluice/sluice/server/XmlWriter", name := "end", desc := "()Lcom/example/sluice/sluice/server/XmlWriter;" } : Jvm.MethodName) prog_22_method_7_code (1 : Nat) (Option.some (Jvm.ClassFile.FieldType.object "com/example/sluice/sluice/server/XmlWriter")), Jvm.Cond.code ({ cls := "java/util/ArrayDeque", name := "pop", desc := "()Ljava/lang/Object;" } : Jvm.MethodName) jdk_21_method_35_code (1 : Nat) (Option.some (Jvm.ClassFile.FieldType.object "java/lang/Object")), Jvm.Cond.code ({ cls := "java/util/ArrayDeque", name := "removeFirst", desc := "()Ljava/lang/Object;" } : Jvm.MethodName) jdk_21_method_18_code (2 : Nat) (Option.some (Jvm.ClassFile.FieldType.object "java/lang/Object")), Jvm.Cond.code ({ cls := "java/util/ArrayDeque", name := "pollFirst", desc := "()Ljava/lang/Object;" } : Jvm.MethodName) jdk_21_method_20_code (4 : Nat) (Option.some (Jvm.ClassFile.FieldType.object "java/lang/Object")), Jvm.Cond.code ({ cls := "java/util/ArrayDeque", name := "elementAt", desc := "([Ljava/lang/Object;I)Ljava/lang/Object;" } : Jvm.MethodName) jdk_21_method_10_code (2 : Nat) (Option.some (Jvm.ClassFile.FieldType.object "java/lang/Object")), Jvm.Cond.code ({ cls := "java/util/ArrayDeque", name := "inc", desc := "(II)I" } : Jvm.MethodName) jdk_21_method_6_code (2 : Nat) (Option.some Jvm.ClassFile.FieldType.int), Jvm.Cond.code ({ cls := "com/example/sluice/sluice/server/XmlWriter", name := "toUtf8", desc := "()[B" } : Jvm.MethodName) prog_22_method_8_code (1 : Nat) (Option.some (Jvm.ClassFile.FieldType.array Jvm.ClassFile.FieldType.byte)), Jvm.Cond.code ({ cls := "java/util/ArrayDeque", name := "isEmpty", desc := "()Z" } : Jvm.MethodName) jdk_21_method_38_code (1 : Nat) (Option.some Jvm.ClassFile.FieldType.boolean), Jvm.Cond.code ({ cls := "java/lang/StringBuilder", name := "toString", desc := "()Ljava/lang/String;" } : Jvm.MethodName) jdk_67_method_42_code (1 : Nat) (Option.some (Jvm.ClassFile.FieldType.object "java/lang/String")), Jvm.Cond.code ({ cls := "java/lang/String", name := "<init>", desc := "(Ljava/lang/StringBuilder;)V" } : Jvm.MethodName) jdk_42_method_53_code (2 : Nat) (Option.none : Option Jvm.ClassFile.FieldType), Jvm.Cond.code ({ cls := "java/lang/String", name := "<init>", desc := "(Ljava/lang/AbstractStringBuilder;Ljava/lang/Void;)V" } : Jvm.MethodName) jdk_42_method_150_code (5 : Nat) (Option.none : Option Jvm.ClassFile.FieldType), Jvm.Cond.code ({ cls := "java/lang/AbstractStringBuilder", name := "getValue", desc := "()[B" } : Jvm.MethodName) jdk_68_method_64_code (1 : Nat) (Option.some (Jvm.ClassFile.FieldType.array Jvm.ClassFile.FieldType.byte)), Jvm.Cond.code ({ cls := "java/lang/StringBuilder", name := "length", desc := "()I" } : Jvm.MethodName) jdk_67_method_93_code (1 : Nat) (Option.some Jvm.ClassFile.FieldType.int), Jvm.Cond.code ({ cls := "java/lang/AbstractStringBuilder", name := "length", desc := "()I" } : Jvm.MethodName) jdk_68_method_6_code (1 : Nat) (Option.some Jvm.ClassFile.FieldType.int), Jvm.Cond.code ({ cls := "java/util/Arrays", name := "copyOfRange", desc := "([BII)[B" } : Jvm.MethodName) jdk_65_method_132_code (3 : Nat) (Option.some (Jvm.ClassFile.FieldType.array Jvm.ClassFile.FieldType.byte)), Jvm.Cond.code ({ cls := "java/util/Arrays", name := "copyOfRangeByte", desc := "([BII)[B" } : Jvm.MethodName) jdk_65_method_133_code (5 : Nat) (Option.some (Jvm.ClassFile.FieldType.array Jvm.ClassFile.FieldType.byte)), Jvm.Cond.code ({ cls := "java/util/Arrays", name := "checkLength", desc := "(II)V" } : Jvm.MethodName) jdk_65_method_131_code (2 : Nat) (Option.none : Option Jvm.ClassFile.FieldType), Jvm.Cond.code ({ cls := "java/lang/Math", name := "min", desc := "(II)I" } : Jvm.MethodName) jdk_29_method_69_code (2 : Nat) (Option.some Jvm.ClassFile.FieldType.int), Jvm.Cond.code ({ cls := "java/lang/String", name := "getBytes", desc := "(Ljava/nio/charset/Charset;)[B" } : Jvm.MethodName) jdk_42_method_64_code (2 : Nat) (Option.some (Jvm.ClassFile.FieldType.array Jvm.ClassFile.FieldType.byte)), Jvm.Cond.code ({ cls := "java/lang/String", name := "encode", desc := "(Ljava/nio/charset/Charset;B[B)[B" } : Jvm.MethodName) jdk_42_method_18_code (3 : Nat) (Option.some (Jvm.ClassFile.FieldType.array Jvm.ClassFile.FieldType.byte)), Jvm.Cond.code ({ cls := "java/lang/String", name := "encodeUTF8", desc := "(B[BZ)[B" } : Jvm.MethodName) jdk_42_method_46_code (9 : Nat) (Option.some (Jvm.ClassFile.FieldType.array Jvm.ClassFile.FieldType.byte)), Jvm.Cond.code ({ cls := "java/lang/StringCoding", name := "hasNegatives", desc := "([BII)Z" } : Jvm.MethodName) jdk_123_method_2_code (3 : Nat) (Option.some Jvm.ClassFile.FieldType.boolean), Jvm.Cond.code ({ cls := "java/lang/StringCoding", name := "countPositives", desc := "([BII)I" } : Jvm.MethodName) jdk_123_method_3_code (5 : Nat) (Option.some Jvm.ClassFile.FieldType.int), Jvm.Cond.code ({ cls := "com/example/sluice/sluice/server/XmlWriterEndPinLaw", name := "at", desc := "([BII)Z" } : Jvm.MethodName) method_2_code (3 : Nat) (Option.some Jvm.ClassFile.FieldType.boolean)]
set_option maxRecDepth 65536 in
theorem codes_eq : words1.filter isCode = codes1 := rfl
theorem w_codes : ∀ c ∈ words1.filter isCode, c.before args0 about1 = true := by
  rw [codes_eq]
  intro c hc
  simp only [codes1, List.mem_cons, List.not_mem_nil, or_false] at hc
  rcases hc with rfl | rfl | rfl | rfl | rfl | rfl | rfl | rfl | rfl | rfl | rfl | rfl | rfl | rfl | rfl | rfl | rfl | rfl | rfl | rfl | rfl | rfl | rfl | rfl | rfl | rfl | rfl | rfl | rfl | rfl | rfl | rfl | rfl | rfl | rfl | rfl | rfl | rfl | rfl | rfl | rfl | rfl | rfl | rfl | rfl | rfl | rfl | rfl | rfl | rfl | rfl | rfl
  · exact w_c0
  · exact w_c1
  · exact w_c2
  · exact w_c3
  · exact w_c4
  · exact w_c5
  · exact w_c6
  · exact w_c7
  · exact w_c8
  · exact w_c9
  · exact w_c10
  · exact w_c11
  · exact w_c12
  · exact w_c13
  · exact w_c14
  · exact w_c15
  · exact w_c16
  · exact w_c17
  · exact w_c18
  · exact w_c19
  · exact w_c20
  · exact w_c21
  · exact w_c22
  · exact w_c23
  · exact w_c24
  · exact w_c25
  · exact w_c26
  · exact w_c27
  · exact w_c28
  · exact w_c29
  · exact w_c30
  · exact w_c31
  · exact w_c32
  · exact w_c33
  · exact w_c34
  · exact w_c35
  · exact w_c36
  · exact w_c37
  · exact w_c38
  · exact w_c39
  · exact w_c40
  · exact w_c41
  · exact w_c42
  · exact w_c43
  · exact w_c44
  · exact w_c45
  · exact w_c46
  · exact w_c47
  · exact w_c48
  · exact w_c49
  · exact w_c50
  · exact w_c51
set_option maxRecDepth 65536 in
theorem w_t1 : (words1.take 24).all (fun c => isCode c || c.before args0 about1) = true := by decide +kernel
set_option maxRecDepth 65536 in
theorem w_t2 : ((words1.drop 24).take 24).all (fun c => isCode c || c.before args0 about1) = true := by decide +kernel
set_option maxRecDepth 65536 in
theorem w_t3 : (((words1.drop 24).drop 24).take 24).all (fun c => isCode c || c.before args0 about1) = true := by decide +kernel
set_option maxRecDepth 65536 in
theorem w_t4 : ((((words1.drop 24).drop 24).drop 24).take 24).all (fun c => isCode c || c.before args0 about1) = true := by decide +kernel
set_option maxRecDepth 65536 in
theorem w_t5 : (((((words1.drop 24).drop 24).drop 24).drop 24).take 24).all (fun c => isCode c || c.before args0 about1) = true := by decide +kernel
set_option maxRecDepth 65536 in
theorem w_t6 : ((((((words1.drop 24).drop 24).drop 24).drop 24).drop 24).take 24).all (fun c => isCode c || c.before args0 about1) = true := by decide +kernel
set_option maxRecDepth 65536 in
theorem w_t7 : (((((((words1.drop 24).drop 24).drop 24).drop 24).drop 24).drop 24).take 24).all (fun c => isCode c || c.before args0 about1) = true := by decide +kernel
set_option maxRecDepth 65536 in
theorem w_t8 : ((((((((words1.drop 24).drop 24).drop 24).drop 24).drop 24).drop 24).drop 24).take 24).all (fun c => isCode c || c.before args0 about1) = true := by decide +kernel
set_option maxRecDepth 65536 in
theorem w_t9 : (((((((((words1.drop 24).drop 24).drop 24).drop 24).drop 24).drop 24).drop 24).drop 24).take 24).all (fun c => isCode c || c.before args0 about1) = true := by decide +kernel
set_option maxRecDepth 65536 in
theorem w_t10 : ((((((((((words1.drop 24).drop 24).drop 24).drop 24).drop 24).drop 24).drop 24).drop 24).drop 24).take 24).all (fun c => isCode c || c.before args0 about1) = true := by decide +kernel
set_option maxRecDepth 65536 in
theorem w_t11 : (((((((((((words1.drop 24).drop 24).drop 24).drop 24).drop 24).drop 24).drop 24).drop 24).drop 24).drop 24).take 24).all (fun c => isCode c || c.before args0 about1) = true := by decide +kernel
set_option maxRecDepth 65536 in
theorem w_t12 : ((((((((((((words1.drop 24).drop 24).drop 24).drop 24).drop 24).drop 24).drop 24).drop 24).drop 24).drop 24).drop 24).take 24).all (fun c => isCode c || c.before args0 about1) = true := by decide +kernel
set_option maxRecDepth 65536 in
theorem w_t13 : ((((((((((((words1.drop 24).drop 24).drop 24).drop 24).drop 24).drop 24).drop 24).drop 24).drop 24).drop 24).drop 24).drop 24).all (fun c => isCode c || c.before args0 about1) = true := by decide +kernel
theorem w_tables : (allAtoms (Jvm.Cond.code x code maxLocals ret :: tables_1)).before args0 about1 = true := by
  rw [allAtoms_all]
  show words1.all (fun c => c.before args0 about1) = true
  refine all_split ?_ w_codes
  rw [← List.take_append_drop 24 words1, List.all_append, w_t1, ← List.take_append_drop 24 (words1.drop 24), List.all_append, w_t2, ← List.take_append_drop 24 ((words1.drop 24).drop 24), List.all_append, w_t3, ← List.take_append_drop 24 (((words1.drop 24).drop 24).drop 24), List.all_append, w_t4, ← List.take_append_drop 24 ((((words1.drop 24).drop 24).drop 24).drop 24), List.all_append, w_t5, ← List.take_append_drop 24 (((((words1.drop 24).drop 24).drop 24).drop 24).drop 24), List.all_append, w_t6, ← List.take_append_drop 24 ((((((words1.drop 24).drop 24).drop 24).drop 24).drop 24).drop 24), List.all_append, w_t7, ← List.take_append_drop 24 (((((((words1.drop 24).drop 24).drop 24).drop 24).drop 24).drop 24).drop 24), List.all_append, w_t8, ← List.take_append_drop 24 ((((((((words1.drop 24).drop 24).drop 24).drop 24).drop 24).drop 24).drop 24).drop 24), List.all_append, w_t9, ← List.take_append_drop 24 (((((((((words1.drop 24).drop 24).drop 24).drop 24).drop 24).drop 24).drop 24).drop 24).drop 24), List.all_append, w_t10, ← List.take_append_drop 24 ((((((((((words1.drop 24).drop 24).drop 24).drop 24).drop 24).drop 24).drop 24).drop 24).drop 24).drop 24), List.all_append, w_t11, ← List.take_append_drop 24 (((((((((((words1.drop 24).drop 24).drop 24).drop 24).drop 24).drop 24).drop 24).drop 24).drop 24).drop 24).drop 24), List.all_append, w_t12, w_t13]
  rfl
set_option maxRecDepth 65536 in
theorem w_rest : rest_1_c.before args0 about1 = true := by decide +kernel
set_option maxRecDepth 65536 in
theorem w_case : (Jvm.Cond.and given_1 narrow_1).before args0 about1 = true := by decide +kernel
set_option maxRecDepth 65536 in
theorem w_consts : constsHeld consts_1 about1 := Jvm.Lit.constsHeldB_iff.mp (by decide +kernel)
theorem w_applies : (headSpec (Jvm.Cond.code x code maxLocals ret :: tables_1) room_1).applies x e0.platform about1 = true :=
  (Spec.applies_iff w_frames).mpr ⟨w_running, w_runnable, w_alone, w_named, w_hears, w_ripe, w_room, w_tables⟩
theorem atStart : AtStart classFile x code maxLocals ret World_1 tables_1 room_1 Calls_1 rest_1 Pre_1 launch0 p0 e0 about1 theMethod args0 below0 :=
  ⟨lists_1, trivial, launch0.admits_env _ _ _, launch0.least_env, fairChoices_fair.cas, fairChoices_fair.clock, w_frames, w_args, w_heap, w_applies, ⟨w_consts, trivial⟩, w_rest, w_case⟩
end start1
theorem witness_1 : WitnessClaimed_1 := ⟨start1.p0, start1.e0, start1.about1, start1.theMethod, start1.args0, start1.below0, start1.atStart⟩
end Jvm.Pilot.@@N@@
