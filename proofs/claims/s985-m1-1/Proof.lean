import JvmDerived
import JvmDerived.Pilot.@@N@@Statement
import JvmDerived.Pilot.@@N@@Code
set_option linter.unusedVariables false
set_option linter.unusedSimpArgs false
namespace Jvm.Pilot.@@N@@
open Jvm Jvm.ClassFile Sem Op Lib Jvm.Free Jvm.Stand Jvm.LawKit Jvm.RoadKit Bundle Jvm.Pilot.@@N@@.Jvm.D
def own_Go (tb : Tables) (e : Env) (below : List Frame) (P : State → Prop) (A : State) : Prop := ∃ t, Steps tb e below A t ∧ P t
theorem own_go {tb : Tables} {e : Env} {below : List Frame} {P : State → Prop} {A B : State} (h : ∀ t, Steps tb e below B t → Steps tb e below A t) (g : own_Go tb e below P B) : own_Go tb e below P A := by
  obtain ⟨t, h1, h2⟩ := g
  exact ⟨t, h t h1, h2⟩
theorem own_fin {tb : Tables} {e : Env} {below : List Frame} {A : State} {Qq : Outcome → State → Prop} (g : own_Go tb e below (fun t => ∃ o, t.status = .running ∧ Ended t below o ∧ Qq o t) A) : ∃ t o, Steps tb e below A t ∧ t.status = .running ∧ Ended t below o ∧ Qq o t := by
  obtain ⟨t, h1, o, h2, h3, h4⟩ := g
  exact ⟨t, o, h1, h2, h3, h4⟩
theorem own_ret {tb : Tables} {e : Env} {below : List Frame} {P : State → Prop} {A t : State} (h : Steps tb e below A t) (q : P t) : own_Go tb e below P A := ⟨t, h, q⟩
def own_M (l : Launch) (y : MethodName) (bytes : ByteArray) (maxL : Nat) (ret : Option FieldType) (ws : List Jvm.Cond) (rm : Room) (Z : State) (as : Array Value) (h0 : Heap) (Q : Option Value → Heap → List Loc → Prop) : Prop := MetFree l y (head1 (Jvm.Cond.code y bytes maxL ret :: ws) rm) (fun aR UR => aR = as ∧ Z.Warmed39 UR.vm ∧ UR.heap = h0) (fun _ _ _ _ _ => True) (fun _ UR oR UR' => ∃ vR LR, oR = .returned vR ∧ Q vR UR'.heap LR ∧ FrameEnd UR oR UR' LR rm.cells rm.slots)
theorem own_body {l : Launch} {y : MethodName} {bytes : ByteArray} {maxL : Nat} {ret : Option FieldType} {ws : List Jvm.Cond} {rm : Room} {Z : State} {as : Array Value} {h0 : Heap} {Q : Option Value → Heap → List Loc → Prop} {own : String} {f : MethodId → JFrame} (ho : y.cls = own) (hx : plainFor y = true) (ef : ∀ m, entryFrame m as maxL = f m) (k : ∀ (p : Program) (e : Env) (s : State) (m : MethodId) (below : List Frame) (meth : Method) (c : Code) (s₁ : State), BodyLoose p l y (head1 (Jvm.Cond.code y bytes maxL ret :: ws) rm) bytes maxL ret e s m as below meth c s₁ → c.maxLocals = maxL → Z.Warmed39 s.vm → s.heap = h0 → p.tables.exec = Jvm.exec → c.code = bytes → s.vm.findClass own = some m.cls → Stand p l e rm s m as below meth c s₁ [] 0 0 → s₁.heap = h0 → own_Go p.tables e below (fun t => ∃ o, t.status = .running ∧ Ended t below o ∧ ∃ vR LR, o = .returned vR ∧ Q vR t.heap LR ∧ FrameEnd s o t LR rm.cells rm.slots) (s₁.setTop (f m))) : own_M l y bytes maxL ret ws rm Z as h0 Q := by
  subst ho
  refine MetFree.of_bodySF hx hisR ?_
  intro p e s m args below meth c s₁ Bd hml hP hK
  obtain ⟨rfl, hZ, hh⟩ := hP
  exact own_fin (own_go (fun tT kK => castTop (ef m) kK) (k p e s m below meth c s₁ Bd hml hZ hh Bd.exec Bd.bytes (findClass_of_methodNamed Bd.named) (Stand.of_body Bd) (by rw [← hh, Bd.state]; rfl)))
theorem own_sh {tb : Tables} {e : Env} {below : List Frame} {P : State → Prop} {T : State} {m : MethodId} (pc : Nat) (Ls : Array Slot) (st : List Value) (g : own_Go tb e below P (T.setTop (mkF m pc Ls st))) : own_Go tb e below P (T.setTop (mkF m pc Ls st)) := g
theorem own_nn {a b : Nat} (h : ¬ a = b) : a ≠ b := h
theorem own_w {Z : State} {a0 : Array Value} {tab : List Jvm.Cond} (hw : ∀ d ∈ tab, d.before a0 Z = true) (i : Nat) {d : Jvm.Cond} (h : tab[i]? = some d) : d.before a0 Z = true := hw d (List.mem_of_getElem? h)
theorem own_iloadN {tb : Tables} [Ours tb] {e : Env} {below : List Frame} {T : State} {m : MethodId} {c : Code} {P : State → Prop} {pc : Nat} {Ls : Array Slot} {st : List Value} {bc : ByteArray} (h : At T m c below) (hx : tb.exec = Jvm.exec) (hby : c.code = bc) {k : Fin 4} {v : Int32} (hd : decode bc pc = .ok (.iload_n k, 1)) (hl : Ls[k.val]? = some (.val (.int v))) (g : own_Go tb e below P (T.setTop (mkF m (pc + 1) Ls ((.int v) :: st)))) : own_Go tb e below P (T.setTop (mkF m pc Ls (st))) := own_go (fun t k => XS.iloadN h hx rfl (hb hby hd) hl k) g
theorem own_iload {tb : Tables} [Ours tb] {e : Env} {below : List Frame} {T : State} {m : MethodId} {c : Code} {P : State → Prop} {pc : Nat} {Ls : Array Slot} {st : List Value} {bc : ByteArray} (h : At T m c below) (hx : tb.exec = Jvm.exec) (hby : c.code = bc) {k : Nat} {v : Int32} (hd : decode bc pc = .ok (.iload k, 2)) (hl : Ls[k]? = some (.val (.int v))) (g : own_Go tb e below P (T.setTop (mkF m (pc + 2) Ls ((.int v) :: st)))) : own_Go tb e below P (T.setTop (mkF m pc Ls (st))) := own_go (fun t k => XS.iload h hx rfl (hb hby hd) hl k) g
theorem own_aloadN {tb : Tables} [Ours tb] {e : Env} {below : List Frame} {T : State} {m : MethodId} {c : Code} {P : State → Prop} {pc : Nat} {Ls : Array Slot} {st : List Value} {bc : ByteArray} (h : At T m c below) (hx : tb.exec = Jvm.exec) (hby : c.code = bc) {k : Fin 4} {v : Value} (hd : decode bc pc = .ok (.aload_n k, 1)) (hl : Ls[k.val]? = some (.val v)) (hv : v.isRef = true) (g : own_Go tb e below P (T.setTop (mkF m (pc + 1) Ls (v :: st)))) : own_Go tb e below P (T.setTop (mkF m pc Ls (st))) := own_go (fun t k => XS.aloadN h hx rfl (hb hby hd) hl hv k) g
theorem own_aload {tb : Tables} [Ours tb] {e : Env} {below : List Frame} {T : State} {m : MethodId} {c : Code} {P : State → Prop} {pc : Nat} {Ls : Array Slot} {st : List Value} {bc : ByteArray} (h : At T m c below) (hx : tb.exec = Jvm.exec) (hby : c.code = bc) {k : Nat} {v : Value} (hd : decode bc pc = .ok (.aload k, 2)) (hl : Ls[k]? = some (.val v)) (hv : v.isRef = true) (g : own_Go tb e below P (T.setTop (mkF m (pc + 2) Ls (v :: st)))) : own_Go tb e below P (T.setTop (mkF m pc Ls (st))) := own_go (fun t k => XS.aload h hx rfl (hb hby hd) hl hv k) g
theorem own_istore {tb : Tables} [Ours tb] {e : Env} {below : List Frame} {T : State} {m : MethodId} {c : Code} {P : State → Prop} {pc : Nat} {Ls : Array Slot} {st : List Value} {bc : ByteArray} (h : At T m c below) (hx : tb.exec = Jvm.exec) (hby : c.code = bc) {k : Nat} {x : Int32} {l' : Array Slot} (hd : decode bc pc = .ok (.istore k, 2)) (hl : storeLocals Ls k (.int x) = some l') (g : own_Go tb e below P (T.setTop (mkF m (pc + 2) l' (st)))) : own_Go tb e below P (T.setTop (mkF m pc Ls ((.int x) :: st))) := own_go (fun t k => XS.istore h hx rfl (hb hby hd) rfl hl k) g
theorem own_astore {tb : Tables} [Ours tb] {e : Env} {below : List Frame} {T : State} {m : MethodId} {c : Code} {P : State → Prop} {pc : Nat} {Ls : Array Slot} {st : List Value} {bc : ByteArray} (h : At T m c below) (hx : tb.exec = Jvm.exec) (hby : c.code = bc) {k : Nat} {x : Value} {l' : Array Slot} (hd : decode bc pc = .ok (.astore k, 2)) (hv : x.isRef = true) (hl : storeLocals Ls k x = some l') (g : own_Go tb e below P (T.setTop (mkF m (pc + 2) l' (st)))) : own_Go tb e below P (T.setTop (mkF m pc Ls (x :: st))) := own_go (fun t k => XS.astore h hx rfl (hb hby hd) rfl hv hl k) g
theorem own_iconst {tb : Tables} [Ours tb] {e : Env} {below : List Frame} {T : State} {m : MethodId} {c : Code} {P : State → Prop} {pc : Nat} {Ls : Array Slot} {st : List Value} {bc : ByteArray} (h : At T m c below) (hx : tb.exec = Jvm.exec) (hby : c.code = bc) {i : Int} {v : Int32} (hd : decode bc pc = .ok (.iconst i, 1)) (hv : Int32.ofInt i = v) (g : own_Go tb e below P (T.setTop (mkF m (pc + 1) Ls ((.int v) :: st)))) : own_Go tb e below P (T.setTop (mkF m pc Ls st)) := by
  subst hv
  exact own_go (fun t k => XS.iconst h hx rfl (hb hby hd) k) g
theorem own_bipush {tb : Tables} [Ours tb] {e : Env} {below : List Frame} {T : State} {m : MethodId} {c : Code} {P : State → Prop} {pc : Nat} {Ls : Array Slot} {st : List Value} {bc : ByteArray} (h : At T m c below) (hx : tb.exec = Jvm.exec) (hby : c.code = bc) {i : Int} {v : Int32} (hd : decode bc pc = .ok (.bipush i, 2)) (hv : (Int8.ofInt i).toInt32 = v) (g : own_Go tb e below P (T.setTop (mkF m (pc + 2) Ls ((.int v) :: st)))) : own_Go tb e below P (T.setTop (mkF m pc Ls st)) := by
  subst hv
  exact own_go (fun t k => XS.bipush h hx rfl (hb hby hd) k) g
theorem own_sipush {tb : Tables} [Ours tb] {e : Env} {below : List Frame} {T : State} {m : MethodId} {c : Code} {P : State → Prop} {pc : Nat} {Ls : Array Slot} {st : List Value} {bc : ByteArray} (h : At T m c below) (hx : tb.exec = Jvm.exec) (hby : c.code = bc) {i : Int} {v : Int32} (hd : decode bc pc = .ok (.sipush i, 3)) (hv : (Int16.ofInt i).toInt32 = v) (g : own_Go tb e below P (T.setTop (mkF m (pc + 3) Ls ((.int v) :: st)))) : own_Go tb e below P (T.setTop (mkF m pc Ls st)) := by
  subst hv
  exact own_go (fun t k => XS.sipush h hx rfl (hb hby hd) k) g
theorem own_aconstNull {tb : Tables} [Ours tb] {e : Env} {below : List Frame} {T : State} {m : MethodId} {c : Code} {P : State → Prop} {pc : Nat} {Ls : Array Slot} {st : List Value} {bc : ByteArray} (h : At T m c below) (hx : tb.exec = Jvm.exec) (hby : c.code = bc)  (hd : decode bc pc = .ok (.aconst_null, 1)) (g : own_Go tb e below P (T.setTop (mkF m (pc + 1) Ls (.null :: st)))) : own_Go tb e below P (T.setTop (mkF m pc Ls (st))) := own_go (fun t k => XS.aconstNull h hx rfl (hb hby hd)  k) g
theorem own_iadd {tb : Tables} [Ours tb] {e : Env} {below : List Frame} {T : State} {m : MethodId} {c : Code} {P : State → Prop} {pc : Nat} {Ls : Array Slot} {st : List Value} {bc : ByteArray} (h : At T m c below) (hx : tb.exec = Jvm.exec) (hby : c.code = bc) {x y v : Int32} (hd : decode bc pc = .ok (.iadd, 1)) (hv : (x + y) = v) (g : own_Go tb e below P (T.setTop (mkF m (pc + 1) Ls ((.int v) :: st)))) : own_Go tb e below P (T.setTop (mkF m pc Ls ((.int y) :: (.int x) :: st))) := by
  subst hv
  exact own_go (fun t k => XS.iadd h hx rfl (hb hby hd) rfl k) g
theorem own_imul {tb : Tables} [Ours tb] {e : Env} {below : List Frame} {T : State} {m : MethodId} {c : Code} {P : State → Prop} {pc : Nat} {Ls : Array Slot} {st : List Value} {bc : ByteArray} (h : At T m c below) (hx : tb.exec = Jvm.exec) (hby : c.code = bc) {x y v : Int32} (hd : decode bc pc = .ok (.imul, 1)) (hv : (x * y) = v) (g : own_Go tb e below P (T.setTop (mkF m (pc + 1) Ls ((.int v) :: st)))) : own_Go tb e below P (T.setTop (mkF m pc Ls ((.int y) :: (.int x) :: st))) := by
  subst hv
  exact own_go (fun t k => XS.imul h hx rfl (hb hby hd) rfl k) g
theorem own_iand {tb : Tables} [Ours tb] {e : Env} {below : List Frame} {T : State} {m : MethodId} {c : Code} {P : State → Prop} {pc : Nat} {Ls : Array Slot} {st : List Value} {bc : ByteArray} (h : At T m c below) (hx : tb.exec = Jvm.exec) (hby : c.code = bc) {x y v : Int32} (hd : decode bc pc = .ok (.iand, 1)) (hv : (x &&& y) = v) (g : own_Go tb e below P (T.setTop (mkF m (pc + 1) Ls ((.int v) :: st)))) : own_Go tb e below P (T.setTop (mkF m pc Ls ((.int y) :: (.int x) :: st))) := by
  subst hv
  exact own_go (fun t k => XS.iand h hx rfl (hb hby hd) rfl k) g
theorem own_iushr {tb : Tables} [Ours tb] {e : Env} {below : List Frame} {T : State} {m : MethodId} {c : Code} {P : State → Prop} {pc : Nat} {Ls : Array Slot} {st : List Value} {bc : ByteArray} (h : At T m c below) (hx : tb.exec = Jvm.exec) (hby : c.code = bc) {x y v : Int32} (hd : decode bc pc = .ok (.iushr, 1)) (hv : ((x.toUInt32 >>> (y &&& 31).toUInt32).toInt32) = v) (g : own_Go tb e below P (T.setTop (mkF m (pc + 1) Ls ((.int v) :: st)))) : own_Go tb e below P (T.setTop (mkF m pc Ls ((.int y) :: (.int x) :: st))) := by
  subst hv
  exact own_go (fun t k => XS.iushr h hx rfl (hb hby hd) rfl k) g
theorem own_dup {tb : Tables} [Ours tb] {e : Env} {below : List Frame} {T : State} {m : MethodId} {c : Code} {P : State → Prop} {pc : Nat} {Ls : Array Slot} {st : List Value} {bc : ByteArray} (h : At T m c below) (hx : tb.exec = Jvm.exec) (hby : c.code = bc) {x : Value} (hd : decode bc pc = .ok (.dup, 1)) (hc : x.category = 1) (g : own_Go tb e below P (T.setTop (mkF m (pc + 1) Ls (x :: x :: st)))) : own_Go tb e below P (T.setTop (mkF m pc Ls (x :: st))) := own_go (fun t k => XS.dup h hx rfl (hb hby hd) rfl hc k) g
theorem own_pop {tb : Tables} [Ours tb] {e : Env} {below : List Frame} {T : State} {m : MethodId} {c : Code} {P : State → Prop} {pc : Nat} {Ls : Array Slot} {st : List Value} {bc : ByteArray} (h : At T m c below) (hx : tb.exec = Jvm.exec) (hby : c.code = bc) {x : Value} (hd : decode bc pc = .ok (.pop, 1)) (hc : x.category = 1) (g : own_Go tb e below P (T.setTop (mkF m (pc + 1) Ls (st)))) : own_Go tb e below P (T.setTop (mkF m pc Ls (x :: st))) := own_go (fun t k => XS.pop h hx rfl (hb hby hd) rfl hc k) g
theorem own_dupX1 {tb : Tables} [Ours tb] {e : Env} {below : List Frame} {T : State} {m : MethodId} {c : Code} {P : State → Prop} {pc : Nat} {Ls : Array Slot} {st : List Value} {bc : ByteArray} (h : At T m c below) (hx : tb.exec = Jvm.exec) (hby : c.code = bc) {x y : Value} (hd : decode bc pc = .ok (.dup_x1, 1)) (hc : x.category = 1) (hc' : y.category = 1) (g : own_Go tb e below P (T.setTop (mkF m (pc + 1) Ls (x :: y :: x :: st)))) : own_Go tb e below P (T.setTop (mkF m pc Ls (x :: y :: st))) := own_go (fun t k => XS.dupX1 h hx rfl (hb hby hd) rfl hc hc' k) g
theorem own_goto {tb : Tables} [Ours tb] {e : Env} {below : List Frame} {T : State} {m : MethodId} {c : Code} {P : State → Prop} {pc : Nat} {Ls : Array Slot} {st : List Value} {bc : ByteArray} (h : At T m c below) (hx : tb.exec = Jvm.exec) (hby : c.code = bc) {o : Int} {pc' : Nat} (hd : decode bc pc = .ok (.goto o, 3)) (ho : 0 ≤ (pc : Int) + o) (hp : ((pc : Int) + o).toNat = pc') (g : own_Go tb e below P (T.setTop (mkF m pc' Ls st))) : own_Go tb e below P (T.setTop (mkF m pc Ls st)) := own_go (fun t k => XS.goto h hx rfl (pc0 := pc) rfl (hb hby hd) ho hp k) g
theorem own_ifYes {tb : Tables} [Ours tb] {e : Env} {below : List Frame} {T : State} {m : MethodId} {c : Code} {P : State → Prop} {pc : Nat} {Ls : Array Slot} {st : List Value} {bc : ByteArray} (h : At T m c below) (hx : tb.exec = Jvm.exec) (hby : c.code = bc) {cd : ClassFile.Cond} {o : Int} {pc' : Nat} {x : Int32} (hd : decode bc pc = .ok (.ifCond cd o, 3)) (hc : ifCond.holds cd x = true) (ho : 0 ≤ (pc : Int) + o) (hp : ((pc : Int) + o).toNat = pc') (g : own_Go tb e below P (T.setTop (mkF m pc' Ls st))) : own_Go tb e below P (T.setTop (mkF m pc Ls ((.int x) :: st))) := own_go (fun t k => XS.ifYes h hx rfl (pc0 := pc) rfl (hb hby hd) rfl hc ho hp k) g
theorem own_ifNo {tb : Tables} [Ours tb] {e : Env} {below : List Frame} {T : State} {m : MethodId} {c : Code} {P : State → Prop} {pc : Nat} {Ls : Array Slot} {st : List Value} {bc : ByteArray} (h : At T m c below) (hx : tb.exec = Jvm.exec) (hby : c.code = bc) {cd : ClassFile.Cond} {o : Int} {x : Int32} (hd : decode bc pc = .ok (.ifCond cd o, 3)) (hc : ifCond.holds cd x = false) (g : own_Go tb e below P (T.setTop (mkF m (pc + 3) Ls st))) : own_Go tb e below P (T.setTop (mkF m pc Ls ((.int x) :: st))) := own_go (fun t k => XS.ifNo h hx rfl (hb hby hd) rfl hc k) g
theorem own_icmpYes {tb : Tables} [Ours tb] {e : Env} {below : List Frame} {T : State} {m : MethodId} {c : Code} {P : State → Prop} {pc : Nat} {Ls : Array Slot} {st : List Value} {bc : ByteArray} (h : At T m c below) (hx : tb.exec = Jvm.exec) (hby : c.code = bc) {cd : ClassFile.Cond} {o : Int} {pc' : Nat} {x y : Int32} (hd : decode bc pc = .ok (.if_icmp cd o, 3)) (hc : if_icmp.holds cd x y = true) (ho : 0 ≤ (pc : Int) + o) (hp : ((pc : Int) + o).toNat = pc') (g : own_Go tb e below P (T.setTop (mkF m pc' Ls st))) : own_Go tb e below P (T.setTop (mkF m pc Ls ((.int y) :: (.int x) :: st))) := own_go (fun t k => XS.icmpYes h hx rfl (pc0 := pc) rfl (hb hby hd) rfl hc ho hp k) g
theorem own_icmpNo {tb : Tables} [Ours tb] {e : Env} {below : List Frame} {T : State} {m : MethodId} {c : Code} {P : State → Prop} {pc : Nat} {Ls : Array Slot} {st : List Value} {bc : ByteArray} (h : At T m c below) (hx : tb.exec = Jvm.exec) (hby : c.code = bc) {cd : ClassFile.Cond} {o : Int} {x y : Int32} (hd : decode bc pc = .ok (.if_icmp cd o, 3)) (hc : if_icmp.holds cd x y = false) (g : own_Go tb e below P (T.setTop (mkF m (pc + 3) Ls st))) : own_Go tb e below P (T.setTop (mkF m pc Ls ((.int y) :: (.int x) :: st))) := own_go (fun t k => XS.icmpNo h hx rfl (hb hby hd) rfl hc k) g
section OwnGo
variable {p : Program} {l : Launch} {e : Env} {R : Room} {s : State} {m : MethodId} {args : Array Value} {below : List Frame} {meth : Method} {c : Code} {T : State} {locs : List Loc} {cells slots : Nat} {Z : State} {a0 : Array Value} {h : Heap} {P : State → Prop} {pc : Nat} {Ls : Array Slot} {st : List Value} {bc : ByteArray} {n0 : Nat}
theorem own_getF (X : Stand p l e R s m args below meth c T locs cells slots) (hx : p.tables.exec = Jvm.exec) (hZ : Z.Warmed39 s.vm) {own R0 O n d host : String} {index : Nat} (hown : s.vm.findClass own = some m.cls) (w : (Cond.fieldLink own index R0 n d).before a0 Z = true ∨ (Cond.fieldLinkNest own index R0 n d host).before a0 Z = true) (via : Via Z R0 O n d) (eT : T.heap = h) {a : Addr} {v : Value} (F : Fld Z h a O n d v) (hby : c.code = bc) (hd : decode bc pc = .ok (.getfield index, 3)) (k : ∀ T', Stand p l e R s m args below meth c T' locs cells slots → T'.heap = h → own_Go p.tables e below P (T'.setTop (mkF m (pc + 3) Ls (v :: st)))) : own_Go p.tables e below P (T.setTop (mkF m pc Ls ((.ref a) :: st))) := by
  obtain ⟨T', X', e', sp⟩ := getF X hx hZ hown w via eT F (g := mkF m pc Ls ((.ref a) :: st)) rfl rfl (hb hby hd)
  exact own_go sp (k T' X' e')
theorem own_putF (X : Stand p l e R s m args below meth c T locs cells slots) (hx : p.tables.exec = Jvm.exec) (hZ : Z.Warmed39 s.vm) {C : String} {kk : Nat} {ty : FieldType} {own R0 O n d host : String} {index : Nat} (hown : s.vm.findClass own = some m.cls) (w : (Cond.fieldLink own index R0 n d).before a0 Z = true ∨ (Cond.fieldLinkNest own index R0 n d host).before a0 Z = true) (via : Via Z R0 O n d) (eT : T.heap = h) {a : Addr} {v old : Value} (F : Fld Z h a O n d old) (E : Exa Z h a C) (L : (Cond.lays C O n d).before a0 Z = true ∨ ((Cond.laysFinal C O n d).before a0 Z = true ∧ own = O ∧ meth.name = "<init>")) (wi : (Cond.instantiable C kk).before a0 Z = true) (hty : parseFieldDescriptor d = some ty) (hn : narrow ty v = v) (hf : fits ty v = true) (hby : c.code = bc) (hd : decode bc pc = .ok (.putfield index, 3)) (N : Fr n0 locs) (ge : n0 ≤ a) (k : ∀ T' h' locs', Stand p l e R s m args below meth c T' locs' cells slots → T'.heap = h' → Fr n0 locs' → Wr h h' a (Jvm.RoadKit.slotOf Z O n d) v → Fld Z h' a O n d v → h.size ≤ h'.size → own_Go p.tables e below P (T'.setTop (mkF m (pc + 3) Ls st))) : own_Go p.tables e below P (T.setTop (mkF m pc Ls (v :: (.ref a) :: st))) := by
  obtain ⟨T', h', X', e', W, sp⟩ := putF X hx hZ hown w via eT F E L wi hty hn hf (g := mkF m pc Ls (v :: (.ref a) :: st)) rfl rfl (hb hby hd)
  exact own_go sp (k T' h' _ X' e' (Fr.snoc X' N ge) W (F.same W) (Keep.of_wr W).1)
theorem own_newO (X : Stand p l e R s m args below meth c T locs cells slots) (hx : p.tables.exec = Jvm.exec) (hZ : Z.Warmed39 s.vm) {own C : String} {index n : Nat} (hown : s.vm.findClass own = some m.cls) (w : (Cond.classLink own index C).before a0 Z = true) (wi : (Cond.instantiable C n).before a0 Z = true) (wz : (Cond.initialized C).before a0 Z = true) (eT : T.heap = h) (hby : c.code = bc) (hd : decode bc pc = .ok (.new index, 3)) (hc : cells + 1 ≤ R.cells) (hl : slots + n ≤ R.slots) (k : ∀ T' h' b, Stand p l e R s m args below meth c T' locs (cells + 1) (slots + n) → T'.heap = h' → Ext h h' → b = h.size → Exa Z h' b C → (∀ {O nm d : String} {ty : FieldType}, Laid Z a0 C O nm d → parseFieldDescriptor d = some ty → Fld Z h' b O nm d (defaultValue ty)) → b < h'.size → own_Go p.tables e below P (T'.setTop (mkF m (pc + 3) Ls ((.ref b) :: st)))) : own_Go p.tables e below P (T.setTop (mkF m pc Ls st)) := by
  obtain ⟨T', h', X', e', E, A, D, -, sp⟩ := newO X hx hZ hown w wi wz eT (g := mkF m pc Ls st) rfl (hb hby hd) hc hl
  exact own_go sp (k T' h' _ X' e' E rfl A D A.lt)
theorem own_newP (X : Stand p l e R s m args below meth c T locs cells slots) (hx : p.tables.exec = Jvm.exec) (hZ : Z.Warmed39 s.vm) {aty : ArrayType} (w : (Cond.arrayClass (newarray.typeOf aty)).before a0 Z = true) (eT : T.heap = h) (hby : c.code = bc) (hd : decode bc pc = .ok (.newarray aty, 2)) {n : Int32} (hn : ¬ n < 0) (cap : Nat) (hcap : n.toNatClampNeg ≤ cap) (hb8 : cap * 8 ≤ 536870912) (hc : cells + 1 ≤ R.cells) (hl : slots + cap ≤ R.slots) {ad : String} (had : "[" ++ (newarray.typeOf aty).toString = ad) (k : ∀ T' h' cA b, Stand p l e R s m args below meth c T' locs (cells + 1) (slots + cap) → T'.heap = h' → Ext h h' → b = h.size → Arv Z h' b cA (newarray.typeOf aty) n [] (defaultValue (newarray.typeOf aty)) → Exa Z h' b ad → b < h'.size → own_Go p.tables e below P (T'.setTop (mkF m (pc + 2) Ls ((.ref b) :: st)))) : own_Go p.tables e below P (T.setTop (mkF m pc Ls ((.int n) :: st))) := by
  obtain ⟨T', h', cA, X', e', E, A, C, sp⟩ := newPE X hx hZ w eT (g := mkF m pc Ls ((.int n) :: st)) rfl (hb hby hd) rfl hn (cap := cap) hcap hb8 hc hl had
  exact own_go sp (k T' h' cA _ X' e' E rfl (Arv.new A hn) C C.lt)
theorem own_newR (X : Stand p l e R s m args below meth c T locs cells slots) (hx : p.tables.exec = Jvm.exec) (hZ : Z.Warmed39 s.vm) {own C : String} {index : Nat} (hown : s.vm.findClass own = some m.cls) (w1 : (Cond.classLink own index C).before a0 Z = true) (w2 : (Cond.arrayOver (.object C)).before a0 Z = true) (eT : T.heap = h) (hby : c.code = bc) (hd : decode bc pc = .ok (.anewarray index, 3)) {n : Int32} (hn : ¬ n < 0) (cap : Nat) (hcap : n.toNatClampNeg ≤ cap) (hb8 : cap * 8 ≤ 536870912) (hc : cells + 1 ≤ R.cells) (hl : slots + cap ≤ R.slots) {ad : String} (had : "[" ++ (FieldType.object C).toString = ad) (k : ∀ T' h' cA b, Stand p l e R s m args below meth c T' locs (cells + 1) (slots + cap) → T'.heap = h' → Ext h h' → b = h.size → Arv Z h' b cA (.object C) n [] .null → Exa Z h' b ad → Ovr Z cA C → b < h'.size → own_Go p.tables e below P (T'.setTop (mkF m (pc + 3) Ls ((.ref b) :: st)))) : own_Go p.tables e below P (T.setTop (mkF m pc Ls ((.int n) :: st))) := by
  obtain ⟨T', h', cA, X', e', E, A, C, O, sp⟩ := newRE X hx hZ hown w1 w2 eT (g := mkF m pc Ls ((.int n) :: st)) rfl (hb hby hd) rfl hn (cap := cap) hcap hb8 hc hl had
  exact own_go sp (k T' h' cA _ X' e' E rfl (Arv.new A hn) C O C.lt)
theorem own_newRA (X : Stand p l e R s m args below meth c T locs cells slots) (hx : p.tables.exec = Jvm.exec) (hZ : Z.Warmed39 s.vm) {own C : String} {ty : FieldType} {index : Nat} (hown : s.vm.findClass own = some m.cls) (hC : (FieldType.array ty).toString = C) (w1 : (Cond.classLink own index C).before a0 Z = true) (w2 : (Cond.arrayOver (.array ty)).before a0 Z = true) (eT : T.heap = h) (hby : c.code = bc) (hd : decode bc pc = .ok (.anewarray index, 3)) {n : Int32} (hn : ¬ n < 0) (cap : Nat) (hcap : n.toNatClampNeg ≤ cap) (hb8 : cap * 8 ≤ 536870912) (hc : cells + 1 ≤ R.cells) (hl : slots + cap ≤ R.slots) {ad : String} (had : "[" ++ C = ad) (k : ∀ T' h' cA b, Stand p l e R s m args below meth c T' locs (cells + 1) (slots + cap) → T'.heap = h' → Ext h h' → b = h.size → Arv Z h' b cA (.array ty) n [] .null → Exa Z h' b ad → OvrA Z cA ty C → b < h'.size → own_Go p.tables e below P (T'.setTop (mkF m (pc + 3) Ls ((.ref b) :: st)))) : own_Go p.tables e below P (T.setTop (mkF m pc Ls ((.int n) :: st))) := by
  obtain ⟨T', h', cA, X', e', E, A, C, O, sp⟩ := newRA X hx hZ hown hC w1 w2 eT (g := mkF m pc Ls ((.int n) :: st)) rfl (hb hby hd) rfl hn (cap := cap) hcap hb8 hc hl had
  exact own_go sp (k T' h' cA _ X' e' E rfl (Arv.new A hn) C O C.lt)
theorem own_iastore (X : Stand p l e R s m args below meth c T locs cells slots) (hx : p.tables.exec = Jvm.exec) (hZ : Z.Warmed39 s.vm) (eT : T.heap = h) {a : Addr} {kc : ClassId} {z j : Int32} {x : Int32} {w : Value} {vs : List Value} {dv : Value} (V : Arv Z h a kc .int z vs dv) (hj : ¬ j < 0 ∧ j < z) (i : Nat) (hi : j.toNatClampNeg = i) (hl : i < vs.length) (hv : (.int x) = w) (hby : c.code = bc) (hd : decode bc pc = .ok (.iastore, 1)) (N : Fr n0 locs) (ge : n0 ≤ a) (k : ∀ T' h' locs', Stand p l e R s m args below meth c T' locs' cells slots → T'.heap = h' → Fr n0 locs' → Wr h h' a i w → Arv Z h' a kc .int z (vs.set i w) dv → h.size ≤ h'.size → own_Go p.tables e below P (T'.setTop (mkF m (pc + 1) Ls st))) : own_Go p.tables e below P (T.setTop (mkF m pc Ls ((.int x) :: (.int j) :: (.ref a) :: st))) := by
  subst hv hi
  obtain ⟨cl, A, q, S, M, H, G⟩ := V
  obtain ⟨T', h', X', e', W, sp⟩ := stI X hx hZ eT A (j := j) (inb_of S hj) (g := mkF m pc Ls ((.int x) :: (.int j) :: (.ref a) :: st)) rfl rfl (hb hby hd)
  exact own_go sp (k T' h' _ X' e' (Fr.snoc X' N ge) W (Arv.set A q S M H G rfl W _ rfl hl) (Keep.of_wr W).1)
theorem own_aastore (X : Stand p l e R s m args below meth c T locs cells slots) (hx : p.tables.exec = Jvm.exec) (hZ : Z.Warmed39 s.vm) (eT : T.heap = h) {a : Addr} {kc : ClassId} {ty : FieldType} {z j : Int32} {v : Value} {vs : List Value} {dv : Value} (V : Arv Z h a kc ty z vs dv) (hty : ty.isReference = true) (hfit : fits ty v = true) (F : Sto Z h a v) (hj : ¬ j < 0 ∧ j < z) (i : Nat) (hi : j.toNatClampNeg = i) (hl : i < vs.length) (hby : c.code = bc) (hd : decode bc pc = .ok (.aastore, 1)) (N : Fr n0 locs) (ge : n0 ≤ a) (k : ∀ T' h' locs', Stand p l e R s m args below meth c T' locs' cells slots → T'.heap = h' → Fr n0 locs' → Wr h h' a i v → Arv Z h' a kc ty z (vs.set i v) dv → h.size ≤ h'.size → own_Go p.tables e below P (T'.setTop (mkF m (pc + 1) Ls st))) : own_Go p.tables e below P (T.setTop (mkF m pc Ls (v :: (.int j) :: (.ref a) :: st))) := by
  subst hi
  obtain ⟨cl, A, q, S, M, H, G⟩ := V
  obtain ⟨T', h', X', e', W, sp⟩ := stR X hx hZ eT A (j := j) (inb_of S hj) hty F (g := mkF m pc Ls (v :: (.int j) :: (.ref a) :: st)) rfl rfl (hb hby hd)
  exact own_go sp (k T' h' _ X' e' (Fr.snoc X' N ge) W (Arv.set A q S M H G hfit W _ rfl hl) (Keep.of_wr W).1)
theorem own_stoVA {a y : Addr} {kc : ClassId} {ty t2 : FieldType} {z : Int32} {vs : List Value} {dv : Value} {C : String} (V : Arv Z h a kc ty z vs dv) (O : OvrA Z kc t2 C) (I : Ins Z h y C true) : Sto Z h a (.ref y) := by
  obtain ⟨cl, A, q, -⟩ := V
  exact Sto.ofVA A q O I
theorem own_iaload (X : Stand p l e R s m args below meth c T locs cells slots) (hx : p.tables.exec = Jvm.exec) (hZ : Z.Warmed39 s.vm) (eT : T.heap = h) {a : Addr} {kc : ClassId} {z j : Int32} {v : Value} {vs : List Value} {dv : Value} (V : Arv Z h a kc .int z vs dv) (hj : ¬ j < 0 ∧ j < z) (hv : vs.getD j.toNatClampNeg dv = v) (hby : c.code = bc) (hd : decode bc pc = .ok (.iaload, 1)) (k : own_Go p.tables e below P (T.setTop (mkF m (pc + 1) Ls (v :: st)))) : own_Go p.tables e below P (T.setTop (mkF m pc Ls ((.int j) :: (.ref a) :: st))) := by
  obtain ⟨cl, A, q, S, M, H, G⟩ := V
  exact own_go (fun t q => X.iaload hx (by rw [eT]; exact A.1) (State.isArrayOf_alike hZ.alike A.2.1) A.2.2 (inb_of S hj) (Has.at H (inb_of S hj) hv) (g := mkF m pc Ls ((.int j) :: (.ref a) :: st)) rfl rfl (hb hby hd) t q) k
theorem own_aaload (X : Stand p l e R s m args below meth c T locs cells slots) (hx : p.tables.exec = Jvm.exec) (hZ : Z.Warmed39 s.vm) (eT : T.heap = h) {a : Addr} {kc : ClassId} {ty : FieldType} {z j : Int32} {v : Value} {vs : List Value} {dv : Value} (V : Arv Z h a kc ty z vs dv) (hty : ty.isReference = true) (hj : ¬ j < 0 ∧ j < z) (hv : vs.getD j.toNatClampNeg dv = v) (hby : c.code = bc) (hd : decode bc pc = .ok (.aaload, 1)) (k : own_Go p.tables e below P (T.setTop (mkF m (pc + 1) Ls (v :: st)))) : own_Go p.tables e below P (T.setTop (mkF m pc Ls ((.int j) :: (.ref a) :: st))) := by
  obtain ⟨cl, A, q, S, M, H, G⟩ := V
  exact own_go (fun t q => X.aaload hx (by rw [eT]; exact A.1) (State.isArrayOf_alike hZ.alike A.2.1) hty A.2.2 (inb_of S hj) (Has.at H (inb_of S hj) hv) (g := mkF m pc Ls ((.int j) :: (.ref a) :: st)) rfl rfl (hb hby hd) t q) k
theorem own_alen (X : Stand p l e R s m args below meth c T locs cells slots) (hx : p.tables.exec = Jvm.exec) (hZ : Z.Warmed39 s.vm) (eT : T.heap = h) {a : Addr} {kc : ClassId} {ty : FieldType} {z : Int32} {vs : List Value} {dv : Value} (V : Arv Z h a kc ty z vs dv) (hby : c.code = bc) (hd : decode bc pc = .ok (.arraylength, 1)) (k : own_Go p.tables e below P (T.setTop (mkF m (pc + 1) Ls ((.int z) :: st)))) : own_Go p.tables e below P (T.setTop (mkF m pc Ls ((.ref a) :: st))) := by
  obtain ⟨cl, A, q, S, M, H, G⟩ := V
  refine own_go (fun t q => X.arraylength hx (by rw [eT]; exact A.1) (State.isArrayOf_alike hZ.alike A.2.1) (g := mkF m pc Ls ((.ref a) :: st)) rfl rfl (hb hby hd) t q) ?_
  rw [len_of S M]; exact k
theorem own_initO (X : Stand p l e R s m args below meth c T locs cells slots) (hx : p.tables.exec = Jvm.exec) (hZ : Z.Warmed39 s.vm) {own : String} {idx : Nat} (hown : s.vm.findClass own = some m.cls) (w1 : (Cond.methodLink own idx Lib.objectInit).before a0 Z = true) (w2 : (Cond.instanceMethod Lib.objectInit).before a0 Z = true) (w3 : (Cond.code Lib.objectInit ⟨#[0xb1]⟩ 1 none).before a0 Z = true) (eT : T.heap = h) (hsize : Ls.size = c.maxLocals) {a : Addr} (hby : c.code = bc) (hd : decode bc pc = .ok (.invokespecial idx, 3)) (hf : 1 ≤ R.frames) (W : Nat) (hW : 2 * 0 + (st.map fun v => v.category).sum ≤ W) (hl : W + 12 ≤ R.locals) (k : ∀ T', Stand p l e R s m args below meth c T' locs cells slots → T'.heap = h → own_Go p.tables e below P (T'.setTop (mkF m (pc + 3) Ls st))) : own_Go p.tables e below P (T.setTop (mkF m pc Ls ((.ref a) :: st))) := by
  obtain ⟨T', X', e', sp⟩ := initO X hx hZ hown w1 w2 w3 eT (g := mkF m pc Ls ((.ref a) :: st)) rfl hsize rfl (hb hby hd) hf (W := W) hW hl
  exact own_go sp (k T' X' e')
theorem own_special (X : Stand p l e R s m args below meth c T locs cells slots) (hx : p.tables.exec = Jvm.exec) (hZ : Z.Warmed39 s.vm) {own : String} {index : Nat} {y : MethodName} {bytes : ByteArray} {maxL : Nat} {rm : Room} {Qc : Option Value → Heap → List Loc → Prop} {as' : Array Value} (hy1 : y.name = "<init>") (hown : s.vm.findClass own = some m.cls) (w1 : (Cond.methodLink own index y).before a0 Z = true) (w2 : (Cond.instanceMethod y).before a0 Z = true) (w3 : (Cond.initialized y.cls).before a0 Z = true) (w4 : (Cond.code y bytes maxL none).before a0 Z = true) (hy : y.cls ≠ "java/lang/invoke/MethodHandle" ∧ y.cls ≠ "java/lang/invoke/VarHandle") (hM : MetFree l y (head1 [Cond.code y bytes maxL none] rm) (fun a U => a = as' ∧ Z.Warmed39 U.vm ∧ U.heap = h) (fun _ _ _ _ _ => True) (fun _ U o U' => ∃ v L, o = .returned v ∧ Qc v U'.heap L ∧ FrameEnd U o U' L rm.cells rm.slots)) (W : Nat) (hW : 2 * 0 + (st.map fun v => v.category).sum ≤ W) (hf : rm.frames + 1 ≤ R.frames) (hl : W + (maxL + 11) + rm.locals ≤ R.locals) (hsize : Ls.size = c.maxLocals) {argsL stk : List Value} {a : Addr} (hlen : ∀ sig, parseMethodDescriptor y.desc = some sig → argsL.length = sig.parameters.length) (hstk : stk = argsL.reverse ++ (.ref a) :: st) (has : ((.ref a) :: argsL).toArray = as') (hc : cells + rm.cells ≤ R.cells) (hs : slots + rm.slots ≤ R.slots) (eT : T.heap = h) (hby : c.code = bc) (hd : decode bc pc = .ok (.invokespecial index, 3)) (k : ∀ T' v L, Stand p l e R s m args below meth c T' (locs ++ L) (cells + rm.cells) (slots + rm.slots) → Qc v T'.heap L → own_Go p.tables e below P (T'.setTop (mkF m (pc + 3) Ls (v.toList ++ st)))) : own_Go p.tables e below P (T.setTop (mkF m pc Ls stk)) := by
  subst hstk
  obtain ⟨v, _, ⟨T', L', k', n'⟩, -, X', ⟨L, hQ, hl', hy', hz'⟩, sp⟩ := X.specialBack hx hy1 hown (mvT hZ w1) (mvT hZ w2) (mvT hZ w4) hy (backOf (W := W) hM hZ w4 w3 hf hl) (g := mkF m pc Ls (argsL.reverse ++ (.ref a) :: st)) rfl hsize (Steps.refl _) (a := a) (argsL := argsL) (rest := st) hlen rfl hW (hb hby hd) (fun _ _ => ⟨has, eT, hc, hs⟩)
  dsimp only [Pt.U, Pt.locs, Pt.cells, Pt.slots] at X' hl' hy' hz' sp hQ
  subst hl' hy' hz'
  exact own_go (fun t q => sp.trans q) (k T' v L X' hQ)
theorem own_virtual (X : Stand p l e R s m args below meth c T locs cells slots) (hx : p.tables.exec = Jvm.exec) (hZ : Z.Warmed39 s.vm) {own C : String} {index : Nat} {y z : MethodName} {bytes : ByteArray} {maxL : Nat} {ret : Option FieldType} {rm : Room} {Qc : Option Value → Heap → List Loc → Prop} {as' : Array Value} (hown : s.vm.findClass own = some m.cls) (w1 : (Cond.methodLink own index y).before a0 Z = true) (w2 : (Cond.declares y).before a0 Z = true) (nf : NotFace s y) (w5 : (Cond.selects C y z).before a0 Z = true) (w6 : (Cond.instanceMethod z).before a0 Z = true) (w3 : (Cond.initialized z.cls).before a0 Z = true) (w4 : (Cond.code z bytes maxL ret).before a0 Z = true) (hy : y.cls ≠ "java/lang/invoke/MethodHandle" ∧ y.cls ≠ "java/lang/invoke/VarHandle") (hM : MetFree l z (head1 [Cond.code z bytes maxL ret] rm) (fun a U => a = as' ∧ Z.Warmed39 U.vm ∧ U.heap = h) (fun _ _ _ _ _ => True) (fun _ U o U' => ∃ v L, o = .returned v ∧ Qc v U'.heap L ∧ FrameEnd U o U' L rm.cells rm.slots)) (W : Nat) (hW : 2 * 0 + (st.map fun v => v.category).sum ≤ W) (hf : rm.frames + 1 ≤ R.frames) (hl : W + (maxL + 11) + rm.locals ≤ R.locals) (hsize : Ls.size = c.maxLocals) {argsL stk : List Value} {a : Addr} (E : Exa Z h a C) (hlen : ∀ sig, parseMethodDescriptor y.desc = some sig → argsL.length = sig.parameters.length) (hstk : stk = argsL.reverse ++ (.ref a) :: st) (has : ((.ref a) :: argsL).toArray = as') (hc : cells + rm.cells ≤ R.cells) (hs : slots + rm.slots ≤ R.slots) (eT : T.heap = h) (hby : c.code = bc) (hd : decode bc pc = .ok (.invokevirtual index, 3)) (k : ∀ T' v L, Stand p l e R s m args below meth c T' (locs ++ L) (cells + rm.cells) (slots + rm.slots) → Qc v T'.heap L → own_Go p.tables e below P (T'.setTop (mkF m (pc + 3) Ls (v.toList ++ st)))) : own_Go p.tables e below P (T.setTop (mkF m pc Ls stk)) := by
  subst hstk
  obtain ⟨cq, kq, qa, qb, qc⟩ := isOf hZ eT E
  obtain ⟨v, _, ⟨T', L', k', n'⟩, -, X', ⟨L, hQ, hl', hy', hz'⟩, sp⟩ := X.virtualBack hx hown (mvT hZ w1) (mvT hZ w2) nf (mvT hZ w5) (mvT hZ w6) hy (backOf (W := W) hM hZ w4 w3 hf hl) qa qc (g := mkF m pc Ls (argsL.reverse ++ (.ref a) :: st)) rfl hsize (Steps.refl _) (argsL := argsL) (rest := st) hlen rfl hW (hb hby hd) (fun _ _ => ⟨has, eT, hc, hs⟩)
  dsimp only [Pt.U, Pt.locs, Pt.cells, Pt.slots] at X' hl' hy' hz' sp hQ
  subst hl' hy' hz'
  exact own_go (fun t q => sp.trans q) (k T' v L X' hQ)
theorem own_private (X : Stand p l e R s m args below meth c T locs cells slots) (hx : p.tables.exec = Jvm.exec) (hZ : Z.Warmed39 s.vm) {own C : String} {index kk : Nat} {y : MethodName} {bytes : ByteArray} {maxL : Nat} {ret : Option FieldType} {rm : Room} {Qc : Option Value → Heap → List Loc → Prop} {as' : Array Value} (hown : s.vm.findClass own = some m.cls) (w1 : (Cond.methodLink own index y).before a0 Z = true) (w6 : (Cond.instanceMethod y).before a0 Z = true) (w5 : (Cond.instantiable y.cls kk).before a0 Z = true) (w7 : (Cond.privateMethod y).before a0 Z = true) (w3 : (Cond.initialized y.cls).before a0 Z = true) (w4 : (Cond.code y bytes maxL ret).before a0 Z = true) (hy : y.cls ≠ "java/lang/invoke/MethodHandle" ∧ y.cls ≠ "java/lang/invoke/VarHandle") (hM : MetFree l y (head1 [Cond.code y bytes maxL ret] rm) (fun a U => a = as' ∧ Z.Warmed39 U.vm ∧ U.heap = h) (fun _ _ _ _ _ => True) (fun _ U o U' => ∃ v L, o = .returned v ∧ Qc v U'.heap L ∧ FrameEnd U o U' L rm.cells rm.slots)) (W : Nat) (hW : 2 * 0 + (st.map fun v => v.category).sum ≤ W) (hf : rm.frames + 1 ≤ R.frames) (hl : W + (maxL + 11) + rm.locals ≤ R.locals) (hsize : Ls.size = c.maxLocals) {argsL stk : List Value} {a : Addr} (E : Exa Z h a C) (hlen : ∀ sig, parseMethodDescriptor y.desc = some sig → argsL.length = sig.parameters.length) (hstk : stk = argsL.reverse ++ (.ref a) :: st) (has : ((.ref a) :: argsL).toArray = as') (hc : cells + rm.cells ≤ R.cells) (hs : slots + rm.slots ≤ R.slots) (eT : T.heap = h) (hby : c.code = bc) (hd : decode bc pc = .ok (.invokevirtual index, 3)) (k : ∀ T' v L, Stand p l e R s m args below meth c T' (locs ++ L) (cells + rm.cells) (slots + rm.slots) → Qc v T'.heap L → own_Go p.tables e below P (T'.setTop (mkF m (pc + 3) Ls (v.toList ++ st)))) : own_Go p.tables e below P (T.setTop (mkF m pc Ls stk)) := by
  subst hstk
  obtain ⟨cq, q1, q2⟩ := E.cell
  have hp : s.PrivateAt y := Cond.privateMethod_at (mvP hZ w7 (args := #[]))
  obtain ⟨ci, ki, hci, hki, -, hni, -, -⟩ := Cond.instantiable_spec (mvT (args := args) hZ w5)
  obtain ⟨v, _, ⟨T', L', k', n'⟩, -, X', ⟨L, hQ, hl', hy', hz'⟩, sp⟩ := X.privateBack hx hown (mvT hZ w1) (mvT hZ w6) (selects_self_of_private hci hki (Bool.or_eq_false_iff.mp hni).1 hp (mvT hZ w6) hy) hp (mvT hZ w4) hy (backOf (W := W) hM hZ w4 w3 hf hl) (g := mkF m pc Ls (argsL.reverse ++ (.ref a) :: st)) rfl hsize (Steps.refl _) (a := a) (by rw [eT]; exact q1) q2 (argsL := argsL) (rest := st) hlen rfl hW (hb hby hd) (fun _ _ => ⟨has, eT, hc, hs⟩)
  dsimp only [Pt.U, Pt.locs, Pt.cells, Pt.slots] at X' hl' hy' hz' sp hQ
  subst hl' hy' hz'
  exact own_go (fun t q => sp.trans q) (k T' v L X' hQ)
end OwnGo
theorem own_ne_oa {Z : State} {h : Heap} {a b : Addr} {C : String} {a0 : Array Value} {kk : Nat} {k : ClassId} {ty : FieldType} {n : Int32} {vs : List Value} {d : Value} (F : Exa Z h a C) (wi : (Cond.instantiable C kk).before a0 Z = true) (G : Arv Z h b k ty n vs d) : a ≠ b := by
  obtain ⟨c, A, -⟩ := G
  exact ne_arr F wi A
theorem own_ne_aa {Z : State} {h : Heap} {a b : Addr} {k k' : ClassId} {ty ty' : FieldType} {n n' : Int32} {vs vs' : List Value} {d d' : Value} (F : Arv Z h a k ty n vs d) (G : Arv Z h b k' ty' n' vs' d') (q : ty ≠ ty') : a ≠ b := by
  intro e
  subst e
  obtain ⟨c, A, -⟩ := F
  obtain ⟨c', B, -⟩ := G
  cases A.1.symm.trans B.1
  obtain ⟨-, k1, e1, comp, e2⟩ := A.2.1
  obtain ⟨-, k2, f1, comp', f2⟩ := B.2.1
  cases e1.symm.trans f1
  rw [e2] at f2
  cases f2
  exact q rfl
theorem ef_tabInit (m : MethodId) (x0 : Nat) (x1 : Nat) : entryFrame m #[(.ref x0), (.ref x1)] 2 = mkF m 0 #[.val (.ref x0), .val (.ref x1)] [] := by first | (simp [entryFrame, mkF, argsToLocals, Value.category]; done) | rfl
theorem pn_1 : plainName "com/example/boxwood/boxwood/XmlNodeTable" = true := by first | (simp [plainName, overriddenIn]; done) | decide +kernel
theorem d1_0 : decode prog_60_method_1_code 0 = .ok (.aload_n 0, 1) := by decide +kernel
theorem d1_1 : decode prog_60_method_1_code 1 = .ok (.invokespecial 3, 3) := by decide +kernel
theorem d1_4 : decode prog_60_method_1_code 4 = .ok (.aload_n 0, 1) := by decide +kernel
theorem d1_5 : decode prog_60_method_1_code 5 = .ok (.iconst 1, 1) := by decide +kernel
theorem d1_6 : decode prog_60_method_1_code 6 = .ok (.anewarray 9, 3) := by decide +kernel
theorem d1_9 : decode prog_60_method_1_code 9 = .ok (.putfield 11, 3) := by decide +kernel
theorem d1_12 : decode prog_60_method_1_code 12 = .ok (.aload_n 0, 1) := by decide +kernel
theorem d1_13 : decode prog_60_method_1_code 13 = .ok (.iconst 1, 1) := by decide +kernel
theorem d1_14 : decode prog_60_method_1_code 14 = .ok (.anewarray 15, 3) := by decide +kernel
theorem d1_17 : decode prog_60_method_1_code 17 = .ok (.putfield 17, 3) := by decide +kernel
theorem d1_20 : decode prog_60_method_1_code 20 = .ok (.aload_n 0, 1) := by decide +kernel
theorem d1_21 : decode prog_60_method_1_code 21 = .ok (.iconst 1, 1) := by decide +kernel
theorem d1_22 : decode prog_60_method_1_code 22 = .ok (.anewarray 9, 3) := by decide +kernel
theorem d1_25 : decode prog_60_method_1_code 25 = .ok (.putfield 21, 3) := by decide +kernel
theorem d1_28 : decode prog_60_method_1_code 28 = .ok (.aload_n 0, 1) := by decide +kernel
theorem d1_29 : decode prog_60_method_1_code 29 = .ok (.iconst 1, 1) := by decide +kernel
theorem d1_30 : decode prog_60_method_1_code 30 = .ok (.anewarray 15, 3) := by decide +kernel
theorem d1_33 : decode prog_60_method_1_code 33 = .ok (.putfield 24, 3) := by decide +kernel
theorem d1_36 : decode prog_60_method_1_code 36 = .ok (.aload_n 0, 1) := by decide +kernel
theorem d1_37 : decode prog_60_method_1_code 37 = .ok (.iconst 1, 1) := by decide +kernel
theorem d1_38 : decode prog_60_method_1_code 38 = .ok (.anewarray 27, 3) := by decide +kernel
theorem d1_41 : decode prog_60_method_1_code 41 = .ok (.putfield 29, 3) := by decide +kernel
theorem d1_44 : decode prog_60_method_1_code 44 = .ok (.aload_n 0, 1) := by decide +kernel
theorem d1_45 : decode prog_60_method_1_code 45 = .ok (.aload_n 1, 1) := by decide +kernel
theorem d1_46 : decode prog_60_method_1_code 46 = .ok (.putfield 33, 3) := by decide +kernel
theorem d1_49 : decode prog_60_method_1_code 49 = .ok (.return_, 1) := by decide +kernel
def Q_tabInit (Z : State) (t : Nat) (ct : Nat) (h0 : Heap) (n0 : Nat) (vR : Option Value) (hR : Heap) (LR : List Loc) : Prop := ∃ (aN : Nat) (kaN : ClassId) (aS : Nat) (kaS : ClassId) (aA : Nat) (kaA : ClassId) (aM : Nat) (kaM : ClassId) (aW : Nat) (kaW : ClassId), vR = none ∧ Fr n0 LR ∧ Keep h0 hR [t] ∧ (Exa Z hR t "com/example/boxwood/boxwood/XmlNodeTable") ∧ (Fld Z hR t "com/example/boxwood/boxwood/XmlNodeTable" "size" "I" (.int 0)) ∧ (Fld Z hR t "com/example/boxwood/boxwood/XmlNodeTable" "attributeCount" "I" (.int 0)) ∧ h0.size ≤ aN ∧ (Fld Z hR t "com/example/boxwood/boxwood/XmlNodeTable" "numbers" "[[I" (.ref aN)) ∧ (Arv Z hR aN kaN (.array .int) (1 : Int32) [.null] .null) ∧ (OvrA Z kaN .int "[I") ∧ h0.size ≤ aS ∧ (Fld Z hR t "com/example/boxwood/boxwood/XmlNodeTable" "strings" "[[Ljava/lang/String;" (.ref aS)) ∧ (Arv Z hR aS kaS (.array (.object "java/lang/String")) (1 : Int32) [.null] .null) ∧ (OvrA Z kaS (.object "java/lang/String") "[Ljava/lang/String;") ∧ h0.size ≤ aA ∧ (Fld Z hR t "com/example/boxwood/boxwood/XmlNodeTable" "attributeNumbers" "[[I" (.ref aA)) ∧ (Arv Z hR aA kaA (.array .int) (1 : Int32) [.null] .null) ∧ (OvrA Z kaA .int "[I") ∧ h0.size ≤ aM ∧ (Fld Z hR t "com/example/boxwood/boxwood/XmlNodeTable" "attributeNames" "[[Ljava/lang/String;" (.ref aM)) ∧ (Arv Z hR aM kaM (.array (.object "java/lang/String")) (1 : Int32) [.null] .null) ∧ (OvrA Z kaM (.object "java/lang/String") "[Ljava/lang/String;") ∧ h0.size ≤ aW ∧ (Fld Z hR t "com/example/boxwood/boxwood/XmlNodeTable" "attributeValues" "[[Lcom/example/boxwood/boxwood/XmlValue;" (.ref aW)) ∧ (Arv Z hR aW kaW (.array (.object "com/example/boxwood/boxwood/XmlValue")) (1 : Int32) [.null] .null) ∧ (OvrA Z kaW (.object "com/example/boxwood/boxwood/XmlValue") "[Lcom/example/boxwood/boxwood/XmlValue;") ∧ (aN < aS) ∧ (aS < aA) ∧ (aA < aM) ∧ (aM < aW)
set_option maxRecDepth 65536 in
set_option maxHeartbeats 40000000 in
theorem tabInit (l : Launch) (Z : State) (a0 : Array Value) (hw : ∀ d ∈ tables_1, d.before a0 Z = true) (ws : List Jvm.Cond) (t : Nat) (ct : Nat) (h0 : Heap) (n0 : Nat) (Z0 : n0 ≤ h0.size) (E_t : Exa Z h0 t "com/example/boxwood/boxwood/XmlNodeTable") (F_content_t : Fld Z h0 t "com/example/boxwood/boxwood/XmlNodeTable" "content" "[B" .null) (g_t : n0 ≤ t) (F_numbers_t : Fld Z h0 t "com/example/boxwood/boxwood/XmlNodeTable" "numbers" "[[I" .null) (F_strings_t : Fld Z h0 t "com/example/boxwood/boxwood/XmlNodeTable" "strings" "[[Ljava/lang/String;" .null) (F_attributeNumbers_t : Fld Z h0 t "com/example/boxwood/boxwood/XmlNodeTable" "attributeNumbers" "[[I" .null) (F_attributeNames_t : Fld Z h0 t "com/example/boxwood/boxwood/XmlNodeTable" "attributeNames" "[[Ljava/lang/String;" .null) (F_attributeValues_t : Fld Z h0 t "com/example/boxwood/boxwood/XmlNodeTable" "attributeValues" "[[Lcom/example/boxwood/boxwood/XmlValue;" .null) (F_size_t : Fld Z h0 t "com/example/boxwood/boxwood/XmlNodeTable" "size" "I" (.int 0)) (F_attributeCount_t : Fld Z h0 t "com/example/boxwood/boxwood/XmlNodeTable" "attributeCount" "I" (.int 0)) :
    own_M l (⟨"com/example/boxwood/boxwood/XmlNodeTable", "<init>", "([B)V"⟩ : MethodName) prog_60_method_1_code 2 none ws ({ frames := 1, cells := 5, slots := 5, locals := 12 } : Room) Z #[(.ref t), (.ref ct)] h0 (Q_tabInit Z t ct h0 n0) := by
  refine own_body (own := "com/example/boxwood/boxwood/XmlNodeTable") rfl (plainFor_of_name pn_1) (fun m => ef_tabInit m t ct) ?_
  intro p e s m below meth c s₁ Bd hml hZ hh hx hby hown X0 e0
  have N0 := Fr.nil n0
  have lt1 : h0.size > t := E_t.lt
  refine own_aloadN X0.here hx hby d1_0 rfl rfl ?_
  refine own_initO X0 hx hZ hown (own_w hw 7 rfl) (own_w hw 8 rfl) (own_w hw 9 rfl) e0 (by rw [hml]; rfl) hby d1_1 (by decide) 0 (Nat.le_of_eq rfl) (by decide) ?_
  intro T2 X2 e2
  refine own_aloadN X2.here hx hby d1_4 rfl rfl ?_
  refine own_iconst X2.here hx hby d1_5 (v := (1 : Int32)) (by decide) ?_
  refine own_newRA X2 hx hZ (C := "[I") (ty := .int) hown (by decide) (own_w hw 10 rfl) (own_w hw 11 rfl) e2 hby d1_6 (by decide) 1 (by decide) (by decide) (by decide) (by decide) (ad := "[[I") (by decide) ?_
  intro T3 h3 k3 b3 X3 e3 E3 g3 V3 C3 O3 lt3
  have z4 : h0.size ≤ h3.size := E3.1
  have V5 : Arv Z h3 b3 k3 (.array .int) (1 : Int32) [.null] .null := V3.pad (pad_rep [] .null 1)
  have f6 : Exa Z h3 t "com/example/boxwood/boxwood/XmlNodeTable" := (E_t.ext E3)
  have f7 : Fld Z h3 t "com/example/boxwood/boxwood/XmlNodeTable" "numbers" "[[I" .null := (F_numbers_t.ext E3)
  refine own_putF X3 hx hZ (ty := (.array (.array .int))) hown (host := "") (Or.inl (own_w hw 12 rfl)) Via.refl e3 f7 f6 (Or.inl (own_w hw 13 rfl)) (own_w hw 1 rfl) (by decide) rfl rfl hby d1_9 N0 g_t ?_
  intro T8 h8 lo8 X8 e8 N8 W8 F8 z8
  refine own_aloadN X8.here hx hby d1_12 rfl rfl ?_
  refine own_iconst X8.here hx hby d1_13 (v := (1 : Int32)) (by decide) ?_
  refine own_newRA X8 hx hZ (C := "[Ljava/lang/String;") (ty := (.object "java/lang/String")) hown (by decide) (own_w hw 14 rfl) (own_w hw 15 rfl) e8 hby d1_14 (by decide) 1 (by decide) (by decide) (by decide) (by decide) (ad := "[[Ljava/lang/String;") (by decide) ?_
  intro T9 h9 k9 b9 X9 e9 E9 g9 V9 C9 O9 lt9
  have z10 : h8.size ≤ h9.size := E9.1
  have V11 : Arv Z h9 b9 k9 (.array (.object "java/lang/String")) (1 : Int32) [.null] .null := V9.pad (pad_rep [] .null 1)
  have f12 : Exa Z h9 t "com/example/boxwood/boxwood/XmlNodeTable" := ((f6.wr W8).ext E9)
  have f13 : Fld Z h9 t "com/example/boxwood/boxwood/XmlNodeTable" "strings" "[[Ljava/lang/String;" .null := (((F_strings_t.ext E3).other W8 (Or.inr (slot_ne (Or.inl (own_w hw 17 rfl)) (Or.inl (own_w hw 13 rfl)) (by decide) (t := (.array (.array (.object "java/lang/String")))) (t' := (.array (.array .int))) (by decide) (by decide)))).ext E9)
  refine own_putF X9 hx hZ (ty := (.array (.array (.object "java/lang/String")))) hown (host := "") (Or.inl (own_w hw 16 rfl)) Via.refl e9 f13 f12 (Or.inl (own_w hw 17 rfl)) (own_w hw 1 rfl) (by decide) rfl rfl hby d1_17 N8 g_t ?_
  intro T14 h14 lo14 X14 e14 N14 W14 F14 z14
  refine own_aloadN X14.here hx hby d1_20 rfl rfl ?_
  refine own_iconst X14.here hx hby d1_21 (v := (1 : Int32)) (by decide) ?_
  refine own_newRA X14 hx hZ (C := "[I") (ty := .int) hown (by decide) (own_w hw 10 rfl) (own_w hw 11 rfl) e14 hby d1_22 (by decide) 1 (by decide) (by decide) (by decide) (by decide) (ad := "[[I") (by decide) ?_
  intro T15 h15 k15 b15 X15 e15 E15 g15 V15 C15 O15 lt15
  have z16 : h14.size ≤ h15.size := E15.1
  have V17 : Arv Z h15 b15 k15 (.array .int) (1 : Int32) [.null] .null := V15.pad (pad_rep [] .null 1)
  have f18 : Exa Z h15 t "com/example/boxwood/boxwood/XmlNodeTable" := ((f12.wr W14).ext E15)
  have f19 : Fld Z h15 t "com/example/boxwood/boxwood/XmlNodeTable" "attributeNumbers" "[[I" .null := (((((F_attributeNumbers_t.ext E3).other W8 (Or.inr (slot_ne (Or.inl (own_w hw 19 rfl)) (Or.inl (own_w hw 13 rfl)) (by decide) (t := (.array (.array .int))) (t' := (.array (.array .int))) (by decide) (by decide)))).ext E9).other W14 (Or.inr (slot_ne (Or.inl (own_w hw 19 rfl)) (Or.inl (own_w hw 17 rfl)) (by decide) (t := (.array (.array .int))) (t' := (.array (.array (.object "java/lang/String")))) (by decide) (by decide)))).ext E15)
  refine own_putF X15 hx hZ (ty := (.array (.array .int))) hown (host := "") (Or.inl (own_w hw 18 rfl)) Via.refl e15 f19 f18 (Or.inl (own_w hw 19 rfl)) (own_w hw 1 rfl) (by decide) rfl rfl hby d1_25 N14 g_t ?_
  intro T20 h20 lo20 X20 e20 N20 W20 F20 z20
  refine own_aloadN X20.here hx hby d1_28 rfl rfl ?_
  refine own_iconst X20.here hx hby d1_29 (v := (1 : Int32)) (by decide) ?_
  refine own_newRA X20 hx hZ (C := "[Ljava/lang/String;") (ty := (.object "java/lang/String")) hown (by decide) (own_w hw 14 rfl) (own_w hw 15 rfl) e20 hby d1_30 (by decide) 1 (by decide) (by decide) (by decide) (by decide) (ad := "[[Ljava/lang/String;") (by decide) ?_
  intro T21 h21 k21 b21 X21 e21 E21 g21 V21 C21 O21 lt21
  have z22 : h20.size ≤ h21.size := E21.1
  have V23 : Arv Z h21 b21 k21 (.array (.object "java/lang/String")) (1 : Int32) [.null] .null := V21.pad (pad_rep [] .null 1)
  have f24 : Exa Z h21 t "com/example/boxwood/boxwood/XmlNodeTable" := ((f18.wr W20).ext E21)
  have f25 : Fld Z h21 t "com/example/boxwood/boxwood/XmlNodeTable" "attributeNames" "[[Ljava/lang/String;" .null := (((((((F_attributeNames_t.ext E3).other W8 (Or.inr (slot_ne (Or.inl (own_w hw 21 rfl)) (Or.inl (own_w hw 13 rfl)) (by decide) (t := (.array (.array (.object "java/lang/String")))) (t' := (.array (.array .int))) (by decide) (by decide)))).ext E9).other W14 (Or.inr (slot_ne (Or.inl (own_w hw 21 rfl)) (Or.inl (own_w hw 17 rfl)) (by decide) (t := (.array (.array (.object "java/lang/String")))) (t' := (.array (.array (.object "java/lang/String")))) (by decide) (by decide)))).ext E15).other W20 (Or.inr (slot_ne (Or.inl (own_w hw 21 rfl)) (Or.inl (own_w hw 19 rfl)) (by decide) (t := (.array (.array (.object "java/lang/String")))) (t' := (.array (.array .int))) (by decide) (by decide)))).ext E21)
  refine own_putF X21 hx hZ (ty := (.array (.array (.object "java/lang/String")))) hown (host := "") (Or.inl (own_w hw 20 rfl)) Via.refl e21 f25 f24 (Or.inl (own_w hw 21 rfl)) (own_w hw 1 rfl) (by decide) rfl rfl hby d1_33 N20 g_t ?_
  intro T26 h26 lo26 X26 e26 N26 W26 F26 z26
  refine own_aloadN X26.here hx hby d1_36 rfl rfl ?_
  refine own_iconst X26.here hx hby d1_37 (v := (1 : Int32)) (by decide) ?_
  refine own_newRA X26 hx hZ (C := "[Lcom/example/boxwood/boxwood/XmlValue;") (ty := (.object "com/example/boxwood/boxwood/XmlValue")) hown (by decide) (own_w hw 22 rfl) (own_w hw 23 rfl) e26 hby d1_38 (by decide) 1 (by decide) (by decide) (by decide) (by decide) (ad := "[[Lcom/example/boxwood/boxwood/XmlValue;") (by decide) ?_
  intro T27 h27 k27 b27 X27 e27 E27 g27 V27 C27 O27 lt27
  have z28 : h26.size ≤ h27.size := E27.1
  have V29 : Arv Z h27 b27 k27 (.array (.object "com/example/boxwood/boxwood/XmlValue")) (1 : Int32) [.null] .null := V27.pad (pad_rep [] .null 1)
  have f30 : Exa Z h27 t "com/example/boxwood/boxwood/XmlNodeTable" := ((f24.wr W26).ext E27)
  have f31 : Fld Z h27 t "com/example/boxwood/boxwood/XmlNodeTable" "attributeValues" "[[Lcom/example/boxwood/boxwood/XmlValue;" .null := (((((((((F_attributeValues_t.ext E3).other W8 (Or.inr (slot_ne (Or.inl (own_w hw 25 rfl)) (Or.inl (own_w hw 13 rfl)) (by decide) (t := (.array (.array (.object "com/example/boxwood/boxwood/XmlValue")))) (t' := (.array (.array .int))) (by decide) (by decide)))).ext E9).other W14 (Or.inr (slot_ne (Or.inl (own_w hw 25 rfl)) (Or.inl (own_w hw 17 rfl)) (by decide) (t := (.array (.array (.object "com/example/boxwood/boxwood/XmlValue")))) (t' := (.array (.array (.object "java/lang/String")))) (by decide) (by decide)))).ext E15).other W20 (Or.inr (slot_ne (Or.inl (own_w hw 25 rfl)) (Or.inl (own_w hw 19 rfl)) (by decide) (t := (.array (.array (.object "com/example/boxwood/boxwood/XmlValue")))) (t' := (.array (.array .int))) (by decide) (by decide)))).ext E21).other W26 (Or.inr (slot_ne (Or.inl (own_w hw 25 rfl)) (Or.inl (own_w hw 21 rfl)) (by decide) (t := (.array (.array (.object "com/example/boxwood/boxwood/XmlValue")))) (t' := (.array (.array (.object "java/lang/String")))) (by decide) (by decide)))).ext E27)
  refine own_putF X27 hx hZ (ty := (.array (.array (.object "com/example/boxwood/boxwood/XmlValue")))) hown (host := "") (Or.inl (own_w hw 24 rfl)) Via.refl e27 f31 f30 (Or.inl (own_w hw 25 rfl)) (own_w hw 1 rfl) (by decide) rfl rfl hby d1_41 N26 g_t ?_
  intro T32 h32 lo32 X32 e32 N32 W32 F32 z32
  refine own_aloadN X32.here hx hby d1_44 rfl rfl ?_
  refine own_aloadN X32.here hx hby d1_45 rfl rfl ?_
  have f33 : Exa Z h32 t "com/example/boxwood/boxwood/XmlNodeTable" := (f30.wr W32)
  have f34 : Fld Z h32 t "com/example/boxwood/boxwood/XmlNodeTable" "content" "[B" .null := ((((((((((F_content_t.ext E3).other W8 (Or.inr (slot_ne (Or.inr (own_w hw 27 rfl)) (Or.inl (own_w hw 13 rfl)) (by decide) (t := (.array .byte)) (t' := (.array (.array .int))) (by decide) (by decide)))).ext E9).other W14 (Or.inr (slot_ne (Or.inr (own_w hw 27 rfl)) (Or.inl (own_w hw 17 rfl)) (by decide) (t := (.array .byte)) (t' := (.array (.array (.object "java/lang/String")))) (by decide) (by decide)))).ext E15).other W20 (Or.inr (slot_ne (Or.inr (own_w hw 27 rfl)) (Or.inl (own_w hw 19 rfl)) (by decide) (t := (.array .byte)) (t' := (.array (.array .int))) (by decide) (by decide)))).ext E21).other W26 (Or.inr (slot_ne (Or.inr (own_w hw 27 rfl)) (Or.inl (own_w hw 21 rfl)) (by decide) (t := (.array .byte)) (t' := (.array (.array (.object "java/lang/String")))) (by decide) (by decide)))).ext E27).other W32 (Or.inr (slot_ne (Or.inr (own_w hw 27 rfl)) (Or.inl (own_w hw 25 rfl)) (by decide) (t := (.array .byte)) (t' := (.array (.array (.object "com/example/boxwood/boxwood/XmlValue")))) (by decide) (by decide))))
  refine own_putF X32 hx hZ (ty := (.array .byte)) hown (host := "") (Or.inl (own_w hw 26 rfl)) Via.refl e32 f34 f33 (Or.inr ⟨(own_w hw 27 rfl), rfl, (name_of_methodNamed Bd.named Bd.method).1⟩) (own_w hw 1 rfl) (by decide) rfl rfl hby d1_46 N32 g_t ?_
  intro T35 h35 lo35 X35 e35 N35 W35 F35 z35
  have K36 : Keep h0 h35 [t] := ((((((((((((Keep.refl h0 [t]).ext E3).wr W8 (Or.inl (List.mem_of_getElem? (i := 0) rfl))).ext E9).wr W14 (Or.inl (List.mem_of_getElem? (i := 0) rfl))).ext E15).wr W20 (Or.inl (List.mem_of_getElem? (i := 0) rfl))).ext E21).wr W26 (Or.inl (List.mem_of_getElem? (i := 0) rfl))).ext E27).wr W32 (Or.inl (List.mem_of_getElem? (i := 0) rfl))).wr W35 (Or.inl (List.mem_of_getElem? (i := 0) rfl)))
  have f37 : Exa Z h35 t "com/example/boxwood/boxwood/XmlNodeTable" := (f33.wr W35)
  have f38 : Fld Z h35 t "com/example/boxwood/boxwood/XmlNodeTable" "size" "I" (.int 0) := (((((((((((F_size_t.ext E3).other W8 (Or.inr (slot_ne (Or.inl (own_w hw 38 rfl)) (Or.inl (own_w hw 13 rfl)) (by decide) (t := .int) (t' := (.array (.array .int))) (by decide) (by decide)))).ext E9).other W14 (Or.inr (slot_ne (Or.inl (own_w hw 38 rfl)) (Or.inl (own_w hw 17 rfl)) (by decide) (t := .int) (t' := (.array (.array (.object "java/lang/String")))) (by decide) (by decide)))).ext E15).other W20 (Or.inr (slot_ne (Or.inl (own_w hw 38 rfl)) (Or.inl (own_w hw 19 rfl)) (by decide) (t := .int) (t' := (.array (.array .int))) (by decide) (by decide)))).ext E21).other W26 (Or.inr (slot_ne (Or.inl (own_w hw 38 rfl)) (Or.inl (own_w hw 21 rfl)) (by decide) (t := .int) (t' := (.array (.array (.object "java/lang/String")))) (by decide) (by decide)))).ext E27).other W32 (Or.inr (slot_ne (Or.inl (own_w hw 38 rfl)) (Or.inl (own_w hw 25 rfl)) (by decide) (t := .int) (t' := (.array (.array (.object "com/example/boxwood/boxwood/XmlValue")))) (by decide) (by decide)))).other W35 (Or.inr (slot_ne (Or.inl (own_w hw 38 rfl)) (Or.inr (own_w hw 27 rfl)) (by decide) (t := .int) (t' := (.array .byte)) (by decide) (by decide))))
  have f39 : Fld Z h35 t "com/example/boxwood/boxwood/XmlNodeTable" "attributeCount" "I" (.int 0) := (((((((((((F_attributeCount_t.ext E3).other W8 (Or.inr (slot_ne (Or.inl (own_w hw 45 rfl)) (Or.inl (own_w hw 13 rfl)) (by decide) (t := .int) (t' := (.array (.array .int))) (by decide) (by decide)))).ext E9).other W14 (Or.inr (slot_ne (Or.inl (own_w hw 45 rfl)) (Or.inl (own_w hw 17 rfl)) (by decide) (t := .int) (t' := (.array (.array (.object "java/lang/String")))) (by decide) (by decide)))).ext E15).other W20 (Or.inr (slot_ne (Or.inl (own_w hw 45 rfl)) (Or.inl (own_w hw 19 rfl)) (by decide) (t := .int) (t' := (.array (.array .int))) (by decide) (by decide)))).ext E21).other W26 (Or.inr (slot_ne (Or.inl (own_w hw 45 rfl)) (Or.inl (own_w hw 21 rfl)) (by decide) (t := .int) (t' := (.array (.array (.object "java/lang/String")))) (by decide) (by decide)))).ext E27).other W32 (Or.inr (slot_ne (Or.inl (own_w hw 45 rfl)) (Or.inl (own_w hw 25 rfl)) (by decide) (t := .int) (t' := (.array (.array (.object "com/example/boxwood/boxwood/XmlValue")))) (by decide) (by decide)))).other W35 (Or.inr (slot_ne (Or.inl (own_w hw 45 rfl)) (Or.inr (own_w hw 27 rfl)) (by decide) (t := .int) (t' := (.array .byte)) (by decide) (by decide))))
  have f40 : Fld Z h35 t "com/example/boxwood/boxwood/XmlNodeTable" "numbers" "[[I" (.ref b3) := (((((((((F8.ext E9).other W14 (Or.inr (slot_ne (Or.inl (own_w hw 13 rfl)) (Or.inl (own_w hw 17 rfl)) (by decide) (t := (.array (.array .int))) (t' := (.array (.array (.object "java/lang/String")))) (by decide) (by decide)))).ext E15).other W20 (Or.inr (slot_ne (Or.inl (own_w hw 13 rfl)) (Or.inl (own_w hw 19 rfl)) (by decide) (t := (.array (.array .int))) (t' := (.array (.array .int))) (by decide) (by decide)))).ext E21).other W26 (Or.inr (slot_ne (Or.inl (own_w hw 13 rfl)) (Or.inl (own_w hw 21 rfl)) (by decide) (t := (.array (.array .int))) (t' := (.array (.array (.object "java/lang/String")))) (by decide) (by decide)))).ext E27).other W32 (Or.inr (slot_ne (Or.inl (own_w hw 13 rfl)) (Or.inl (own_w hw 25 rfl)) (by decide) (t := (.array (.array .int))) (t' := (.array (.array (.object "com/example/boxwood/boxwood/XmlValue")))) (by decide) (by decide)))).other W35 (Or.inr (slot_ne (Or.inl (own_w hw 13 rfl)) (Or.inr (own_w hw 27 rfl)) (by decide) (t := (.array (.array .int))) (t' := (.array .byte)) (by decide) (by decide))))
  have f41 : Arv Z h35 b3 k3 (.array .int) (1 : Int32) [.null] .null := ((((((((((V5.other W8 (own_nn (by omega))).ext E9).other W14 (own_nn (by omega))).ext E15).other W20 (own_nn (by omega))).ext E21).other W26 (own_nn (by omega))).ext E27).other W32 (own_nn (by omega))).other W35 (own_nn (by omega)))
  have f42 : Fld Z h35 t "com/example/boxwood/boxwood/XmlNodeTable" "strings" "[[Ljava/lang/String;" (.ref b9) := (((((((F14.ext E15).other W20 (Or.inr (slot_ne (Or.inl (own_w hw 17 rfl)) (Or.inl (own_w hw 19 rfl)) (by decide) (t := (.array (.array (.object "java/lang/String")))) (t' := (.array (.array .int))) (by decide) (by decide)))).ext E21).other W26 (Or.inr (slot_ne (Or.inl (own_w hw 17 rfl)) (Or.inl (own_w hw 21 rfl)) (by decide) (t := (.array (.array (.object "java/lang/String")))) (t' := (.array (.array (.object "java/lang/String")))) (by decide) (by decide)))).ext E27).other W32 (Or.inr (slot_ne (Or.inl (own_w hw 17 rfl)) (Or.inl (own_w hw 25 rfl)) (by decide) (t := (.array (.array (.object "java/lang/String")))) (t' := (.array (.array (.object "com/example/boxwood/boxwood/XmlValue")))) (by decide) (by decide)))).other W35 (Or.inr (slot_ne (Or.inl (own_w hw 17 rfl)) (Or.inr (own_w hw 27 rfl)) (by decide) (t := (.array (.array (.object "java/lang/String")))) (t' := (.array .byte)) (by decide) (by decide))))
  have f43 : Arv Z h35 b9 k9 (.array (.object "java/lang/String")) (1 : Int32) [.null] .null := ((((((((V11.other W14 (own_nn (by omega))).ext E15).other W20 (own_nn (by omega))).ext E21).other W26 (own_nn (by omega))).ext E27).other W32 (own_nn (by omega))).other W35 (own_nn (by omega)))
  have f44 : Fld Z h35 t "com/example/boxwood/boxwood/XmlNodeTable" "attributeNumbers" "[[I" (.ref b15) := (((((F20.ext E21).other W26 (Or.inr (slot_ne (Or.inl (own_w hw 19 rfl)) (Or.inl (own_w hw 21 rfl)) (by decide) (t := (.array (.array .int))) (t' := (.array (.array (.object "java/lang/String")))) (by decide) (by decide)))).ext E27).other W32 (Or.inr (slot_ne (Or.inl (own_w hw 19 rfl)) (Or.inl (own_w hw 25 rfl)) (by decide) (t := (.array (.array .int))) (t' := (.array (.array (.object "com/example/boxwood/boxwood/XmlValue")))) (by decide) (by decide)))).other W35 (Or.inr (slot_ne (Or.inl (own_w hw 19 rfl)) (Or.inr (own_w hw 27 rfl)) (by decide) (t := (.array (.array .int))) (t' := (.array .byte)) (by decide) (by decide))))
  have f45 : Arv Z h35 b15 k15 (.array .int) (1 : Int32) [.null] .null := ((((((V17.other W20 (own_nn (by omega))).ext E21).other W26 (own_nn (by omega))).ext E27).other W32 (own_nn (by omega))).other W35 (own_nn (by omega)))
  have f46 : Fld Z h35 t "com/example/boxwood/boxwood/XmlNodeTable" "attributeNames" "[[Ljava/lang/String;" (.ref b21) := (((F26.ext E27).other W32 (Or.inr (slot_ne (Or.inl (own_w hw 21 rfl)) (Or.inl (own_w hw 25 rfl)) (by decide) (t := (.array (.array (.object "java/lang/String")))) (t' := (.array (.array (.object "com/example/boxwood/boxwood/XmlValue")))) (by decide) (by decide)))).other W35 (Or.inr (slot_ne (Or.inl (own_w hw 21 rfl)) (Or.inr (own_w hw 27 rfl)) (by decide) (t := (.array (.array (.object "java/lang/String")))) (t' := (.array .byte)) (by decide) (by decide))))
  have f47 : Arv Z h35 b21 k21 (.array (.object "java/lang/String")) (1 : Int32) [.null] .null := ((((V23.other W26 (own_nn (by omega))).ext E27).other W32 (own_nn (by omega))).other W35 (own_nn (by omega)))
  have f48 : Fld Z h35 t "com/example/boxwood/boxwood/XmlNodeTable" "attributeValues" "[[Lcom/example/boxwood/boxwood/XmlValue;" (.ref b27) := (F32.other W35 (Or.inr (slot_ne (Or.inl (own_w hw 25 rfl)) (Or.inr (own_w hw 27 rfl)) (by decide) (t := (.array (.array (.object "com/example/boxwood/boxwood/XmlValue")))) (t' := (.array .byte)) (by decide) (by decide))))
  have f49 : Arv Z h35 b27 k27 (.array (.object "com/example/boxwood/boxwood/XmlValue")) (1 : Int32) [.null] .null := ((V29.other W32 (own_nn (by omega))).other W35 (own_nn (by omega)))
  obtain ⟨fs, hr, hrun, hended, hW, hsame⟩ := X35.leave (v := none) (fun _ => rfl)
  refine own_ret (t := T35.setFrames fs) ?_ ⟨_, hrun, hended, _, _, rfl, ?_, ⟨_, rfl⟩, hW, hsame.mono (by decide) (by decide)⟩
  · exact X35.returnOut hx Bd.returns (hb hby d1_49) hr
  · show Q_tabInit Z t ct h0 n0 _ T35.heap _
    rw [e35]
    exact ⟨b3, k3, b9, k9, b15, k15, b21, k21, b27, k27, rfl, N35, K36, f37, f38, f39, (by omega), f40, f41, O3, (by omega), f42, f43, O9, (by omega), f44, f45, O15, (by omega), f46, f47, O21, (by omega), f48, f49, O27, (by first | decide | omega | assumption), (by first | decide | omega | assumption), (by first | decide | omega | assumption), (by first | decide | omega | assumption)⟩
theorem ef_add_0 (m : MethodId) (x0 : Nat) (x1 : Int32) (x2 : Int32) (x3 : Int32) : entryFrame m #[(.ref x0), (.int x1), (.int x2), (.int x3)] 7 = mkF m 0 #[.val (.ref x0), .val (.int x1), .val (.int x2), .val (.int x3), .unset, .unset, .unset] [] := by first | (simp [entryFrame, mkF, argsToLocals, Value.category]; done) | rfl
theorem pn_4 : plainName "com/example/boxwood/boxwood/XmlNodeTable" = true := by first | (simp [plainName, overriddenIn]; done) | decide +kernel
theorem d4_0 : decode prog_60_method_24_code 0 = .ok (.aload_n 0, 1) := by decide +kernel
theorem d4_1 : decode prog_60_method_24_code 1 = .ok (.dup, 1) := by decide +kernel
theorem d4_2 : decode prog_60_method_24_code 2 = .ok (.getfield 53, 3) := by decide +kernel
theorem d4_5 : decode prog_60_method_24_code 5 = .ok (.dup_x1, 1) := by decide +kernel
theorem d4_6 : decode prog_60_method_24_code 6 = .ok (.iconst 1, 1) := by decide +kernel
theorem d4_7 : decode prog_60_method_24_code 7 = .ok (.iadd, 1) := by decide +kernel
theorem d4_8 : decode prog_60_method_24_code 8 = .ok (.putfield 53, 3) := by decide +kernel
theorem d4_11 : decode prog_60_method_24_code 11 = .ok (.istore 4, 2) := by decide +kernel
theorem d4_13 : decode prog_60_method_24_code 13 = .ok (.iload 4, 2) := by decide +kernel
theorem d4_15 : decode prog_60_method_24_code 15 = .ok (.sipush 4095, 3) := by decide +kernel
theorem d4_18 : decode prog_60_method_24_code 18 = .ok (.iand, 1) := by decide +kernel
theorem d4_19 : decode prog_60_method_24_code 19 = .ok (.ifCond .ne 81, 3) := by decide +kernel
theorem d4_22 : decode prog_60_method_24_code 22 = .ok (.iload 4, 2) := by decide +kernel
theorem d4_24 : decode prog_60_method_24_code 24 = .ok (.bipush 12, 2) := by decide +kernel
theorem d4_26 : decode prog_60_method_24_code 26 = .ok (.iushr, 1) := by decide +kernel
theorem d4_27 : decode prog_60_method_24_code 27 = .ok (.istore 5, 2) := by decide +kernel
theorem d4_29 : decode prog_60_method_24_code 29 = .ok (.iload 5, 2) := by decide +kernel
theorem d4_31 : decode prog_60_method_24_code 31 = .ok (.aload_n 0, 1) := by decide +kernel
theorem d4_32 : decode prog_60_method_24_code 32 = .ok (.getfield 11, 3) := by decide +kernel
theorem d4_35 : decode prog_60_method_24_code 35 = .ok (.arraylength, 1) := by decide +kernel
theorem d4_36 : decode prog_60_method_24_code 36 = .ok (.if_icmp .ne 39, 3) := by decide +kernel
theorem d4_75 : decode prog_60_method_24_code 75 = .ok (.aload_n 0, 1) := by decide +kernel
theorem d4_76 : decode prog_60_method_24_code 76 = .ok (.getfield 11, 3) := by decide +kernel
theorem d4_79 : decode prog_60_method_24_code 79 = .ok (.iload 5, 2) := by decide +kernel
theorem d4_81 : decode prog_60_method_24_code 81 = .ok (.sipush 28672, 3) := by decide +kernel
theorem d4_84 : decode prog_60_method_24_code 84 = .ok (.newarray .int, 2) := by decide +kernel
theorem d4_86 : decode prog_60_method_24_code 86 = .ok (.aastore, 1) := by decide +kernel
theorem d4_87 : decode prog_60_method_24_code 87 = .ok (.aload_n 0, 1) := by decide +kernel
theorem d4_88 : decode prog_60_method_24_code 88 = .ok (.getfield 17, 3) := by decide +kernel
theorem d4_91 : decode prog_60_method_24_code 91 = .ok (.iload 5, 2) := by decide +kernel
theorem d4_93 : decode prog_60_method_24_code 93 = .ok (.sipush 4096, 3) := by decide +kernel
theorem d4_96 : decode prog_60_method_24_code 96 = .ok (.anewarray 60, 3) := by decide +kernel
theorem d4_99 : decode prog_60_method_24_code 99 = .ok (.aastore, 1) := by decide +kernel
theorem d4_100 : decode prog_60_method_24_code 100 = .ok (.aload_n 0, 1) := by decide +kernel
theorem d4_101 : decode prog_60_method_24_code 101 = .ok (.getfield 11, 3) := by decide +kernel
theorem d4_104 : decode prog_60_method_24_code 104 = .ok (.iload 4, 2) := by decide +kernel
theorem d4_106 : decode prog_60_method_24_code 106 = .ok (.bipush 12, 2) := by decide +kernel
theorem d4_108 : decode prog_60_method_24_code 108 = .ok (.iushr, 1) := by decide +kernel
theorem d4_109 : decode prog_60_method_24_code 109 = .ok (.aaload, 1) := by decide +kernel
theorem d4_110 : decode prog_60_method_24_code 110 = .ok (.astore 5, 2) := by decide +kernel
theorem d4_112 : decode prog_60_method_24_code 112 = .ok (.iload 4, 2) := by decide +kernel
theorem d4_114 : decode prog_60_method_24_code 114 = .ok (.sipush 4095, 3) := by decide +kernel
theorem d4_117 : decode prog_60_method_24_code 117 = .ok (.iand, 1) := by decide +kernel
theorem d4_118 : decode prog_60_method_24_code 118 = .ok (.bipush 7, 2) := by decide +kernel
theorem d4_120 : decode prog_60_method_24_code 120 = .ok (.imul, 1) := by decide +kernel
theorem d4_121 : decode prog_60_method_24_code 121 = .ok (.istore 6, 2) := by decide +kernel
theorem d4_123 : decode prog_60_method_24_code 123 = .ok (.aload 5, 2) := by decide +kernel
theorem d4_125 : decode prog_60_method_24_code 125 = .ok (.iload 6, 2) := by decide +kernel
theorem d4_127 : decode prog_60_method_24_code 127 = .ok (.iconst 0, 1) := by decide +kernel
theorem d4_128 : decode prog_60_method_24_code 128 = .ok (.iadd, 1) := by decide +kernel
theorem d4_129 : decode prog_60_method_24_code 129 = .ok (.iload_n 1, 1) := by decide +kernel
theorem d4_130 : decode prog_60_method_24_code 130 = .ok (.iastore, 1) := by decide +kernel
theorem d4_131 : decode prog_60_method_24_code 131 = .ok (.aload 5, 2) := by decide +kernel
theorem d4_133 : decode prog_60_method_24_code 133 = .ok (.iload 6, 2) := by decide +kernel
theorem d4_135 : decode prog_60_method_24_code 135 = .ok (.iconst 1, 1) := by decide +kernel
theorem d4_136 : decode prog_60_method_24_code 136 = .ok (.iadd, 1) := by decide +kernel
theorem d4_137 : decode prog_60_method_24_code 137 = .ok (.iload_n 2, 1) := by decide +kernel
theorem d4_138 : decode prog_60_method_24_code 138 = .ok (.iastore, 1) := by decide +kernel
theorem d4_139 : decode prog_60_method_24_code 139 = .ok (.aload 5, 2) := by decide +kernel
theorem d4_141 : decode prog_60_method_24_code 141 = .ok (.iload 6, 2) := by decide +kernel
theorem d4_143 : decode prog_60_method_24_code 143 = .ok (.iconst 2, 1) := by decide +kernel
theorem d4_144 : decode prog_60_method_24_code 144 = .ok (.iadd, 1) := by decide +kernel
theorem d4_145 : decode prog_60_method_24_code 145 = .ok (.iload_n 3, 1) := by decide +kernel
theorem d4_146 : decode prog_60_method_24_code 146 = .ok (.iastore, 1) := by decide +kernel
theorem d4_147 : decode prog_60_method_24_code 147 = .ok (.aload 5, 2) := by decide +kernel
theorem d4_149 : decode prog_60_method_24_code 149 = .ok (.iload 6, 2) := by decide +kernel
theorem d4_151 : decode prog_60_method_24_code 151 = .ok (.iconst 3, 1) := by decide +kernel
theorem d4_152 : decode prog_60_method_24_code 152 = .ok (.iadd, 1) := by decide +kernel
theorem d4_153 : decode prog_60_method_24_code 153 = .ok (.iload 4, 2) := by decide +kernel
theorem d4_155 : decode prog_60_method_24_code 155 = .ok (.iconst 1, 1) := by decide +kernel
theorem d4_156 : decode prog_60_method_24_code 156 = .ok (.iadd, 1) := by decide +kernel
theorem d4_157 : decode prog_60_method_24_code 157 = .ok (.iastore, 1) := by decide +kernel
theorem d4_158 : decode prog_60_method_24_code 158 = .ok (.aload 5, 2) := by decide +kernel
theorem d4_160 : decode prog_60_method_24_code 160 = .ok (.iload 6, 2) := by decide +kernel
theorem d4_162 : decode prog_60_method_24_code 162 = .ok (.bipush 6, 2) := by decide +kernel
theorem d4_164 : decode prog_60_method_24_code 164 = .ok (.iadd, 1) := by decide +kernel
theorem d4_165 : decode prog_60_method_24_code 165 = .ok (.aload_n 0, 1) := by decide +kernel
theorem d4_166 : decode prog_60_method_24_code 166 = .ok (.getfield 57, 3) := by decide +kernel
theorem d4_169 : decode prog_60_method_24_code 169 = .ok (.iastore, 1) := by decide +kernel
theorem d4_170 : decode prog_60_method_24_code 170 = .ok (.iload 4, 2) := by decide +kernel
theorem d4_172 : decode prog_60_method_24_code 172 = .ok (.ireturn, 1) := by decide +kernel
def Q_add_0 (Z : State) (t : Nat) (aN : Nat) (aS : Nat) (p1 : Int32) (p2 : Int32) (p3 : Int32) (ac : Int32) (kN : ClassId) (kS : ClassId) (h0 : Heap) (n0 : Nat) (vR : Option Value) (hR : Heap) (LR : List Loc) : Prop := ∃ (bN : Nat) (bS : Nat) (kb : ClassId) (kc : ClassId), vR = some (.int 0) ∧ Fr n0 LR ∧ Keep h0 hR [t, aN, aS] ∧ (Exa Z hR t "com/example/boxwood/boxwood/XmlNodeTable") ∧ (Fld Z hR t "com/example/boxwood/boxwood/XmlNodeTable" "size" "I" (.int 1)) ∧ (Arv Z hR aN kN (.array .int) (1 : Int32) [(.ref bN)] .null) ∧ (Arv Z hR aS kS (.array (.object "java/lang/String")) (1 : Int32) [(.ref bS)] .null) ∧ h0.size ≤ bN ∧ h0.size ≤ bS ∧ (bN < bS) ∧ (Arv Z hR bN kb .int (28672 : Int32) [(.int p1), (.int p2), (.int p3), (.int 1), (.int 0), (.int 0), (.int ac)] (.int 0)) ∧ (Arv Z hR bS kc (.object "java/lang/String") (4096 : Int32) [] .null) ∧ (Ovr Z kc "java/lang/String") ∧ (Fld Z hR t "com/example/boxwood/boxwood/XmlNodeTable" "numbers" "[[I" (.ref aN)) ∧ (Fld Z hR t "com/example/boxwood/boxwood/XmlNodeTable" "strings" "[[Ljava/lang/String;" (.ref aS)) ∧ (Fld Z hR t "com/example/boxwood/boxwood/XmlNodeTable" "attributeCount" "I" (.int ac))
set_option maxRecDepth 65536 in
set_option maxHeartbeats 40000000 in
theorem add_0 (l : Launch) (Z : State) (a0 : Array Value) (hw : ∀ d ∈ tables_1, d.before a0 Z = true) (ws : List Jvm.Cond) (t : Nat) (aN : Nat) (aS : Nat) (p1 : Int32) (p2 : Int32) (p3 : Int32) (ac : Int32) (kN : ClassId) (kS : ClassId) (h0 : Heap) (n0 : Nat) (Z0 : n0 ≤ h0.size) (E_t : Exa Z h0 t "com/example/boxwood/boxwood/XmlNodeTable") (F_size_t : Fld Z h0 t "com/example/boxwood/boxwood/XmlNodeTable" "size" "I" (.int 0)) (F_numbers_t : Fld Z h0 t "com/example/boxwood/boxwood/XmlNodeTable" "numbers" "[[I" (.ref aN)) (F_attributeCount_t : Fld Z h0 t "com/example/boxwood/boxwood/XmlNodeTable" "attributeCount" "I" (.int ac)) (V_aN : Arv Z h0 aN kN (.array .int) (1 : Int32) [.null] .null) (F_strings_t : Fld Z h0 t "com/example/boxwood/boxwood/XmlNodeTable" "strings" "[[Ljava/lang/String;" (.ref aS)) (V_aS : Arv Z h0 aS kS (.array (.object "java/lang/String")) (1 : Int32) [.null] .null) (O_aN : OvrA Z kN .int "[I") (O_aS : OvrA Z kS (.object "java/lang/String") "[Ljava/lang/String;") (g_t : n0 ≤ t) (g_aN : n0 ≤ aN) (g_aS : n0 ≤ aS) :
    own_M l (⟨"com/example/boxwood/boxwood/XmlNodeTable", "add", "(III)I"⟩ : MethodName) prog_60_method_24_code 7 (some .int) ws ({ frames := 0, cells := 2, slots := 32768, locals := 0 } : Room) Z #[(.ref t), (.int p1), (.int p2), (.int p3)] h0 (Q_add_0 Z t aN aS p1 p2 p3 ac kN kS h0 n0) := by
  refine own_body (own := "com/example/boxwood/boxwood/XmlNodeTable") rfl (plainFor_of_name pn_4) (fun m => ef_add_0 m t p1 p2 p3) ?_
  intro p e s m below meth c s₁ Bd hml hZ hh hx hby hown X0 e0
  have N0 := Fr.nil n0
  have lt4 : h0.size > t := E_t.lt
  have lt5 : h0.size > aN := V_aN.lt
  have lt6 : h0.size > aS := V_aS.lt
  refine own_aloadN X0.here hx hby d4_0 rfl rfl ?_
  refine own_dup X0.here hx hby d4_1 rfl ?_
  refine own_getF X0 hx hZ hown (host := "") (Or.inl (own_w hw 37 rfl)) Via.refl e0 F_size_t hby d4_2 ?_
  intro T7 X7 e7
  refine own_dupX1 X7.here hx hby d4_5 rfl rfl ?_
  refine own_iconst X7.here hx hby d4_6 (v := (1 : Int32)) (by decide) ?_
  refine own_iadd X7.here hx hby d4_7 (v := (1 : Int32)) (by decide) ?_
  refine own_putF X7 hx hZ (ty := .int) hown (host := "") (Or.inl (own_w hw 37 rfl)) Via.refl e7 F_size_t E_t (Or.inl (own_w hw 38 rfl)) (own_w hw 1 rfl) (by decide) rfl rfl hby d4_8 N0 g_t ?_
  intro T8 h8 lo8 X8 e8 N8 W8 F8 z8
  refine own_istore X8.here hx hby d4_11 (l' := #[.val (.ref t), .val (.int p1), .val (.int p2), .val (.int p3), .val (.int 0), .unset, .unset]) rfl ?_
  refine own_iload X8.here hx hby d4_13 rfl ?_
  refine own_sipush X8.here hx hby d4_15 (v := (4095 : Int32)) (by decide) ?_
  refine own_iand X8.here hx hby d4_18 (v := (0 : Int32)) (by decide) ?_
  refine own_ifNo X8.here hx hby d4_19 ((if0 _ _).trans (teq (show (0 : Int32) = (0 : Int32) from (by decide))).2) ?_
  refine own_iload X8.here hx hby d4_22 rfl ?_
  refine own_bipush X8.here hx hby d4_24 (v := (12 : Int32)) (by decide) ?_
  refine own_iushr X8.here hx hby d4_26 (v := (0 : Int32)) (by decide) ?_
  refine own_istore X8.here hx hby d4_27 (l' := #[.val (.ref t), .val (.int p1), .val (.int p2), .val (.int p3), .val (.int 0), .val (.int 0), .unset]) rfl ?_
  refine own_iload X8.here hx hby d4_29 rfl ?_
  refine own_aloadN X8.here hx hby d4_31 rfl rfl ?_
  have f9 : Fld Z h8 t "com/example/boxwood/boxwood/XmlNodeTable" "numbers" "[[I" (.ref aN) := (F_numbers_t.other W8 (Or.inr (slot_ne (Or.inl (own_w hw 13 rfl)) (Or.inl (own_w hw 38 rfl)) (by decide) (t := (.array (.array .int))) (t' := .int) (by decide) (by decide))))
  refine own_getF X8 hx hZ hown (host := "") (Or.inl (own_w hw 12 rfl)) Via.refl e8 f9 hby d4_32 ?_
  intro T10 X10 e10
  have f11 : Arv Z h8 aN kN (.array .int) (1 : Int32) [.null] .null := (V_aN.other W8 (Ne.symm (own_ne_oa E_t (own_w hw 1 rfl) V_aN)))
  refine own_alen X10 hx hZ e10 f11 hby d4_35 ?_
  refine own_icmpYes X10.here hx hby (pc' := 75) d4_36 (feq (show ¬ ((0 : Int32) = (1 : Int32)) from (by decide))).2 (by decide) (by decide) ?_
  refine own_aloadN X10.here hx hby d4_75 rfl rfl ?_
  refine own_getF X10 hx hZ hown (host := "") (Or.inl (own_w hw 12 rfl)) Via.refl e10 f9 hby d4_76 ?_
  intro T12 X12 e12
  refine own_iload X12.here hx hby d4_79 rfl ?_
  refine own_sipush X12.here hx hby d4_81 (v := (28672 : Int32)) (by decide) ?_
  refine own_newP X12 hx hZ (aty := .int) (own_w hw 39 rfl) e12 hby d4_84 (by decide) 28672 (by decide) (by decide) (by decide) (by decide) (ad := "[I") (by decide) ?_
  intro T13 h13 k13 b13 X13 e13 E13 g13 V13 C13 lt13
  have z14 : h8.size ≤ h13.size := E13.1
  have V15 : Arv Z h13 b13 k13 .int (28672 : Int32) [] (.int 0) := V13
  have f16 : Arv Z h13 aN kN (.array .int) (1 : Int32) [.null] .null := (f11.ext E13)
  refine own_aastore X13 hx hZ e13 f16 rfl rfl (own_stoVA f16 O_aN (Ins.self C13)) ⟨by decide, by decide⟩ 0 (by decide) (Nat.le_of_ble_eq_true rfl) hby d4_86 N8 g_aN ?_
  intro T17 h17 lo17 X17 e17 N17 W17 V17 z17
  have V18 : Arv Z h17 aN kN (.array .int) (1 : Int32) [(.ref b13)] .null := V17
  refine own_aloadN X17.here hx hby d4_87 rfl rfl ?_
  have f19 : Fld Z h17 t "com/example/boxwood/boxwood/XmlNodeTable" "strings" "[[Ljava/lang/String;" (.ref aS) := (((F_strings_t.other W8 (Or.inr (slot_ne (Or.inl (own_w hw 17 rfl)) (Or.inl (own_w hw 38 rfl)) (by decide) (t := (.array (.array (.object "java/lang/String")))) (t' := .int) (by decide) (by decide)))).ext E13).other W17 (Or.inl (own_ne_oa E_t (own_w hw 1 rfl) V_aN)))
  refine own_getF X17 hx hZ hown (host := "") (Or.inl (own_w hw 16 rfl)) Via.refl e17 f19 hby d4_88 ?_
  intro T20 X20 e20
  refine own_iload X20.here hx hby d4_91 rfl ?_
  refine own_sipush X20.here hx hby d4_93 (v := (4096 : Int32)) (by decide) ?_
  refine own_newR X20 hx hZ hown (own_w hw 41 rfl) (own_w hw 42 rfl) e20 hby d4_96 (by decide) 4096 (by decide) (by decide) (by decide) (by decide) (ad := "[Ljava/lang/String;") (by decide) ?_
  intro T21 h21 k21 b21 X21 e21 E21 g21 V21 C21 O21 lt21
  have z22 : h17.size ≤ h21.size := E21.1
  have V23 : Arv Z h21 b21 k21 (.object "java/lang/String") (4096 : Int32) [] .null := V21
  have f24 : Arv Z h21 aS kS (.array (.object "java/lang/String")) (1 : Int32) [.null] .null := ((((V_aS.other W8 (Ne.symm (own_ne_oa E_t (own_w hw 1 rfl) V_aS))).ext E13).other W17 (own_ne_aa V_aS V_aN (by decide))).ext E21)
  refine own_aastore X21 hx hZ e21 f24 rfl rfl (own_stoVA f24 O_aS (Ins.self C21)) ⟨by decide, by decide⟩ 0 (by decide) (Nat.le_of_ble_eq_true rfl) hby d4_99 N17 g_aS ?_
  intro T25 h25 lo25 X25 e25 N25 W25 V25 z25
  have V26 : Arv Z h25 aS kS (.array (.object "java/lang/String")) (1 : Int32) [(.ref b21)] .null := V25
  refine own_aloadN X25.here hx hby d4_100 rfl rfl ?_
  have f27 : Fld Z h25 t "com/example/boxwood/boxwood/XmlNodeTable" "numbers" "[[I" (.ref aN) := ((((f9.ext E13).other W17 (Or.inl (own_ne_oa E_t (own_w hw 1 rfl) V_aN))).ext E21).other W25 (Or.inl (own_ne_oa E_t (own_w hw 1 rfl) V_aS)))
  refine own_getF X25 hx hZ hown (host := "") (Or.inl (own_w hw 12 rfl)) Via.refl e25 f27 hby d4_101 ?_
  intro T28 X28 e28
  refine own_iload X28.here hx hby d4_104 rfl ?_
  refine own_bipush X28.here hx hby d4_106 (v := (12 : Int32)) (by decide) ?_
  refine own_iushr X28.here hx hby d4_108 (v := (0 : Int32)) (by decide) ?_
  have f29 : Arv Z h25 aN kN (.array .int) (1 : Int32) [(.ref b13)] .null := ((V18.ext E21).other W25 (own_ne_aa V_aN V_aS (by decide)))
  refine own_aaload X28 hx hZ e28 f29 rfl ⟨by decide, by decide⟩ (v := (.ref b13)) rfl hby d4_109 ?_
  refine own_astore X28.here hx hby d4_110 rfl (l' := #[.val (.ref t), .val (.int p1), .val (.int p2), .val (.int p3), .val (.int 0), .val (.ref b13), .unset]) rfl ?_
  refine own_iload X28.here hx hby d4_112 rfl ?_
  refine own_sipush X28.here hx hby d4_114 (v := (4095 : Int32)) (by decide) ?_
  refine own_iand X28.here hx hby d4_117 (v := (0 : Int32)) (by decide) ?_
  refine own_bipush X28.here hx hby d4_118 (v := (7 : Int32)) (by decide) ?_
  refine own_imul X28.here hx hby d4_120 (v := (0 : Int32)) (by decide) ?_
  refine own_istore X28.here hx hby d4_121 (l' := #[.val (.ref t), .val (.int p1), .val (.int p2), .val (.int p3), .val (.int 0), .val (.ref b13), .val (.int 0)]) rfl ?_
  refine own_aload X28.here hx hby d4_123 rfl rfl ?_
  refine own_iload X28.here hx hby d4_125 rfl ?_
  refine own_iconst X28.here hx hby d4_127 (v := (0 : Int32)) (by decide) ?_
  refine own_iadd X28.here hx hby d4_128 (v := (0 : Int32)) (by decide) ?_
  refine own_iloadN X28.here hx hby d4_129 rfl ?_
  have f30 : Arv Z h25 b13 k13 .int (28672 : Int32) [] (.int 0) := (((V15.other W17 (own_nn (by omega))).ext E21).other W25 (own_nn (by omega)))
  have V32 : Arv Z h25 b13 k13 .int (28672 : Int32) [(.int 0)] (.int 0) := f30.pad (pad_rep [] (.int 0) 1)
  refine own_iastore X28 hx hZ e28 V32 ⟨by decide, by decide⟩ 0 (by decide) (Nat.le_of_ble_eq_true rfl) rfl hby d4_130 N25 (by omega) ?_
  intro T31 h31 lo31 X31 e31 N31 W31 V31 z31
  have V33 : Arv Z h31 b13 k13 .int (28672 : Int32) [(.int p1)] (.int 0) := V31
  refine own_aload X31.here hx hby d4_131 rfl rfl ?_
  refine own_iload X31.here hx hby d4_133 rfl ?_
  refine own_iconst X31.here hx hby d4_135 (v := (1 : Int32)) (by decide) ?_
  refine own_iadd X31.here hx hby d4_136 (v := (1 : Int32)) (by decide) ?_
  refine own_iloadN X31.here hx hby d4_137 rfl ?_
  have V35 : Arv Z h31 b13 k13 .int (28672 : Int32) [(.int p1), (.int 0)] (.int 0) := V33.pad (pad_rep [(.int p1)] (.int 0) 1)
  refine own_iastore X31 hx hZ e31 V35 ⟨by decide, by decide⟩ 1 (by decide) (Nat.le_of_ble_eq_true rfl) rfl hby d4_138 N31 (by omega) ?_
  intro T34 h34 lo34 X34 e34 N34 W34 V34 z34
  have V36 : Arv Z h34 b13 k13 .int (28672 : Int32) [(.int p1), (.int p2)] (.int 0) := V34
  refine own_aload X34.here hx hby d4_139 rfl rfl ?_
  refine own_iload X34.here hx hby d4_141 rfl ?_
  refine own_iconst X34.here hx hby d4_143 (v := (2 : Int32)) (by decide) ?_
  refine own_iadd X34.here hx hby d4_144 (v := (2 : Int32)) (by decide) ?_
  refine own_iloadN X34.here hx hby d4_145 rfl ?_
  have V38 : Arv Z h34 b13 k13 .int (28672 : Int32) [(.int p1), (.int p2), (.int 0)] (.int 0) := V36.pad (pad_rep [(.int p1), (.int p2)] (.int 0) 1)
  refine own_iastore X34 hx hZ e34 V38 ⟨by decide, by decide⟩ 2 (by decide) (Nat.le_of_ble_eq_true rfl) rfl hby d4_146 N34 (by omega) ?_
  intro T37 h37 lo37 X37 e37 N37 W37 V37 z37
  have V39 : Arv Z h37 b13 k13 .int (28672 : Int32) [(.int p1), (.int p2), (.int p3)] (.int 0) := V37
  refine own_aload X37.here hx hby d4_147 rfl rfl ?_
  refine own_iload X37.here hx hby d4_149 rfl ?_
  refine own_iconst X37.here hx hby d4_151 (v := (3 : Int32)) (by decide) ?_
  refine own_iadd X37.here hx hby d4_152 (v := (3 : Int32)) (by decide) ?_
  refine own_iload X37.here hx hby d4_153 rfl ?_
  refine own_iconst X37.here hx hby d4_155 (v := (1 : Int32)) (by decide) ?_
  refine own_iadd X37.here hx hby d4_156 (v := (1 : Int32)) (by decide) ?_
  have V41 : Arv Z h37 b13 k13 .int (28672 : Int32) [(.int p1), (.int p2), (.int p3), (.int 0)] (.int 0) := V39.pad (pad_rep [(.int p1), (.int p2), (.int p3)] (.int 0) 1)
  refine own_iastore X37 hx hZ e37 V41 ⟨by decide, by decide⟩ 3 (by decide) (Nat.le_of_ble_eq_true rfl) rfl hby d4_157 N37 (by omega) ?_
  intro T40 h40 lo40 X40 e40 N40 W40 V40 z40
  have V42 : Arv Z h40 b13 k13 .int (28672 : Int32) [(.int p1), (.int p2), (.int p3), (.int 1)] (.int 0) := V40
  refine own_aload X40.here hx hby d4_158 rfl rfl ?_
  refine own_iload X40.here hx hby d4_160 rfl ?_
  refine own_bipush X40.here hx hby d4_162 (v := (6 : Int32)) (by decide) ?_
  refine own_iadd X40.here hx hby d4_164 (v := (6 : Int32)) (by decide) ?_
  refine own_aloadN X40.here hx hby d4_165 rfl rfl ?_
  have f43 : Fld Z h40 t "com/example/boxwood/boxwood/XmlNodeTable" "attributeCount" "I" (.int ac) := (((((((((F_attributeCount_t.other W8 (Or.inr (slot_ne (Or.inl (own_w hw 45 rfl)) (Or.inl (own_w hw 38 rfl)) (by decide) (t := .int) (t' := .int) (by decide) (by decide)))).ext E13).other W17 (Or.inl (own_ne_oa E_t (own_w hw 1 rfl) V_aN))).ext E21).other W25 (Or.inl (own_ne_oa E_t (own_w hw 1 rfl) V_aS))).other W31 (Or.inl (own_nn (by omega)))).other W34 (Or.inl (own_nn (by omega)))).other W37 (Or.inl (own_nn (by omega)))).other W40 (Or.inl (own_nn (by omega))))
  refine own_getF X40 hx hZ hown (host := "") (Or.inl (own_w hw 44 rfl)) Via.refl e40 f43 hby d4_166 ?_
  intro T44 X44 e44
  have V46 : Arv Z h40 b13 k13 .int (28672 : Int32) [(.int p1), (.int p2), (.int p3), (.int 1), (.int 0), (.int 0), (.int 0)] (.int 0) := V42.pad (pad_rep [(.int p1), (.int p2), (.int p3), (.int 1)] (.int 0) 3)
  refine own_iastore X44 hx hZ e44 V46 ⟨by decide, by decide⟩ 6 (by decide) (Nat.le_of_ble_eq_true rfl) rfl hby d4_169 N40 (by omega) ?_
  intro T45 h45 lo45 X45 e45 N45 W45 V45 z45
  have V47 : Arv Z h45 b13 k13 .int (28672 : Int32) [(.int p1), (.int p2), (.int p3), (.int 1), (.int 0), (.int 0), (.int ac)] (.int 0) := V45
  refine own_iload X45.here hx hby d4_170 rfl ?_
  have K48 : Keep h0 h45 [t, aN, aS] := (((((((((((Keep.refl h0 [t, aN, aS]).wr W8 (Or.inl (List.mem_of_getElem? (i := 0) rfl))).ext E13).wr W17 (Or.inl (List.mem_of_getElem? (i := 1) rfl))).ext E21).wr W25 (Or.inl (List.mem_of_getElem? (i := 2) rfl))).wr W31 (Or.inr (by omega))).wr W34 (Or.inr (by omega))).wr W37 (Or.inr (by omega))).wr W40 (Or.inr (by omega))).wr W45 (Or.inr (by omega)))
  have f49 : Exa Z h45 t "com/example/boxwood/boxwood/XmlNodeTable" := ((((((((((E_t.wr W8).ext E13).wr W17).ext E21).wr W25).wr W31).wr W34).wr W37).wr W40).wr W45)
  have f50 : Fld Z h45 t "com/example/boxwood/boxwood/XmlNodeTable" "size" "I" (.int 1) := (((((((((F8.ext E13).other W17 (Or.inl (own_ne_oa E_t (own_w hw 1 rfl) V_aN))).ext E21).other W25 (Or.inl (own_ne_oa E_t (own_w hw 1 rfl) V_aS))).other W31 (Or.inl (own_nn (by omega)))).other W34 (Or.inl (own_nn (by omega)))).other W37 (Or.inl (own_nn (by omega)))).other W40 (Or.inl (own_nn (by omega)))).other W45 (Or.inl (own_nn (by omega))))
  have f51 : Arv Z h45 aN kN (.array .int) (1 : Int32) [(.ref b13)] .null := (((((f29.other W31 (own_nn (by omega))).other W34 (own_nn (by omega))).other W37 (own_nn (by omega))).other W40 (own_nn (by omega))).other W45 (own_nn (by omega)))
  have f52 : Arv Z h45 aS kS (.array (.object "java/lang/String")) (1 : Int32) [(.ref b21)] .null := (((((V26.other W31 (own_nn (by omega))).other W34 (own_nn (by omega))).other W37 (own_nn (by omega))).other W40 (own_nn (by omega))).other W45 (own_nn (by omega)))
  have f53 : Arv Z h45 b21 k21 (.object "java/lang/String") (4096 : Int32) [] .null := ((((((V23.other W25 (own_nn (by omega))).other W31 (own_nn (by omega))).other W34 (own_nn (by omega))).other W37 (own_nn (by omega))).other W40 (own_nn (by omega))).other W45 (own_nn (by omega)))
  have f54 : Fld Z h45 t "com/example/boxwood/boxwood/XmlNodeTable" "numbers" "[[I" (.ref aN) := (((((f27.other W31 (Or.inl (own_nn (by omega)))).other W34 (Or.inl (own_nn (by omega)))).other W37 (Or.inl (own_nn (by omega)))).other W40 (Or.inl (own_nn (by omega)))).other W45 (Or.inl (own_nn (by omega))))
  have f55 : Fld Z h45 t "com/example/boxwood/boxwood/XmlNodeTable" "strings" "[[Ljava/lang/String;" (.ref aS) := (((((((f19.ext E21).other W25 (Or.inl (own_ne_oa E_t (own_w hw 1 rfl) V_aS))).other W31 (Or.inl (own_nn (by omega)))).other W34 (Or.inl (own_nn (by omega)))).other W37 (Or.inl (own_nn (by omega)))).other W40 (Or.inl (own_nn (by omega)))).other W45 (Or.inl (own_nn (by omega))))
  have f56 : Fld Z h45 t "com/example/boxwood/boxwood/XmlNodeTable" "attributeCount" "I" (.int ac) := (f43.other W45 (Or.inl (own_nn (by omega))))
  obtain ⟨fs, hr, hrun, hended, hW, hsame⟩ := X45.leave (v := some (.int 0)) (fun h => by rw [Bd.returns] at h; cases h)
  refine own_ret (t := T45.setFrames fs) ?_ ⟨_, hrun, hended, _, _, rfl, ?_, ⟨_, rfl⟩, hW, hsame.mono (by decide) (by decide)⟩
  · exact retOut X45 hx Bd.returns rfl (Or.inl ⟨rfl, Or.inl rfl, _, rfl⟩) (hb hby d4_172) hr
  · show Q_add_0 Z t aN aS p1 p2 p3 ac kN kS h0 n0 _ T45.heap _
    rw [e45]
    exact ⟨b13, b21, k13, k21, rfl, N45, K48, f49, f50, f51, f52, (by omega), (by omega), (by first | decide | omega | assumption), V47, f53, O21, f54, f55, f56⟩
def Q_add_1 (Z : State) (t : Nat) (aN : Nat) (bN : Nat) (p1 : Int32) (p2 : Int32) (p3 : Int32) (ac : Int32) (kN : ClassId) (kb : ClassId) (x0 : Int32) (x1 : Int32) (x2 : Int32) (x3 : Int32) (x4 : Int32) (x5 : Int32) (x6 : Int32) (aS : Nat) (h0 : Heap) (n0 : Nat) (vR : Option Value) (hR : Heap) (LR : List Loc) : Prop := vR = some (.int 1) ∧ Fr n0 LR ∧ Keep h0 hR [t, bN] ∧ (Exa Z hR t "com/example/boxwood/boxwood/XmlNodeTable") ∧ (Fld Z hR t "com/example/boxwood/boxwood/XmlNodeTable" "size" "I" (.int 2)) ∧ (Fld Z hR t "com/example/boxwood/boxwood/XmlNodeTable" "numbers" "[[I" (.ref aN)) ∧ (Fld Z hR t "com/example/boxwood/boxwood/XmlNodeTable" "attributeCount" "I" (.int ac)) ∧ (Arv Z hR bN kb .int (28672 : Int32) [(.int x0), (.int x1), (.int x2), (.int x3), (.int x4), (.int x5), (.int x6), (.int p1), (.int p2), (.int p3), (.int 2), (.int 0), (.int 0), (.int ac)] (.int 0)) ∧ (Fld Z hR t "com/example/boxwood/boxwood/XmlNodeTable" "strings" "[[Ljava/lang/String;" (.ref aS))
set_option maxRecDepth 65536 in
set_option maxHeartbeats 40000000 in
theorem add_1 (l : Launch) (Z : State) (a0 : Array Value) (hw : ∀ d ∈ tables_1, d.before a0 Z = true) (ws : List Jvm.Cond) (t : Nat) (aN : Nat) (bN : Nat) (p1 : Int32) (p2 : Int32) (p3 : Int32) (ac : Int32) (kN : ClassId) (kb : ClassId) (x0 : Int32) (x1 : Int32) (x2 : Int32) (x3 : Int32) (x4 : Int32) (x5 : Int32) (x6 : Int32) (aS : Nat) (h0 : Heap) (n0 : Nat) (Z0 : n0 ≤ h0.size) (E_t : Exa Z h0 t "com/example/boxwood/boxwood/XmlNodeTable") (F_size_t : Fld Z h0 t "com/example/boxwood/boxwood/XmlNodeTable" "size" "I" (.int 1)) (F_numbers_t : Fld Z h0 t "com/example/boxwood/boxwood/XmlNodeTable" "numbers" "[[I" (.ref aN)) (F_attributeCount_t : Fld Z h0 t "com/example/boxwood/boxwood/XmlNodeTable" "attributeCount" "I" (.int ac)) (V_aN : Arv Z h0 aN kN (.array .int) (1 : Int32) [(.ref bN)] .null) (V_bN : Arv Z h0 bN kb .int (28672 : Int32) [(.int x0), (.int x1), (.int x2), (.int x3), (.int x4), (.int x5), (.int x6)] (.int 0)) (g_t : n0 ≤ t) (g_bN : n0 ≤ bN) (F_strings_t : Fld Z h0 t "com/example/boxwood/boxwood/XmlNodeTable" "strings" "[[Ljava/lang/String;" (.ref aS)) :
    own_M l (⟨"com/example/boxwood/boxwood/XmlNodeTable", "add", "(III)I"⟩ : MethodName) prog_60_method_24_code 7 (some .int) ws ({ frames := 0, cells := 0, slots := 0, locals := 0 } : Room) Z #[(.ref t), (.int p1), (.int p2), (.int p3)] h0 (Q_add_1 Z t aN bN p1 p2 p3 ac kN kb x0 x1 x2 x3 x4 x5 x6 aS h0 n0) := by
  refine own_body (own := "com/example/boxwood/boxwood/XmlNodeTable") rfl (plainFor_of_name pn_4) (fun m => ef_add_0 m t p1 p2 p3) ?_
  intro p e s m below meth c s₁ Bd hml hZ hh hx hby hown X0 e0
  have N0 := Fr.nil n0
  have lt7 : h0.size > t := E_t.lt
  have lt8 : h0.size > aN := V_aN.lt
  have lt9 : h0.size > bN := V_bN.lt
  refine own_aloadN X0.here hx hby d4_0 rfl rfl ?_
  refine own_dup X0.here hx hby d4_1 rfl ?_
  refine own_getF X0 hx hZ hown (host := "") (Or.inl (own_w hw 37 rfl)) Via.refl e0 F_size_t hby d4_2 ?_
  intro T10 X10 e10
  refine own_dupX1 X10.here hx hby d4_5 rfl rfl ?_
  refine own_iconst X10.here hx hby d4_6 (v := (1 : Int32)) (by decide) ?_
  refine own_iadd X10.here hx hby d4_7 (v := (2 : Int32)) (by decide) ?_
  refine own_putF X10 hx hZ (ty := .int) hown (host := "") (Or.inl (own_w hw 37 rfl)) Via.refl e10 F_size_t E_t (Or.inl (own_w hw 38 rfl)) (own_w hw 1 rfl) (by decide) rfl rfl hby d4_8 N0 g_t ?_
  intro T11 h11 lo11 X11 e11 N11 W11 F11 z11
  refine own_istore X11.here hx hby d4_11 (l' := #[.val (.ref t), .val (.int p1), .val (.int p2), .val (.int p3), .val (.int 1), .unset, .unset]) rfl ?_
  refine own_iload X11.here hx hby d4_13 rfl ?_
  refine own_sipush X11.here hx hby d4_15 (v := (4095 : Int32)) (by decide) ?_
  refine own_iand X11.here hx hby d4_18 (v := (1 : Int32)) (by decide) ?_
  refine own_ifYes X11.here hx hby (pc' := 100) d4_19 ((if0 _ _).trans (feq (show ¬ ((1 : Int32) = (0 : Int32)) from (by decide))).2) (by decide) (by decide) ?_
  refine own_aloadN X11.here hx hby d4_100 rfl rfl ?_
  have f12 : Fld Z h11 t "com/example/boxwood/boxwood/XmlNodeTable" "numbers" "[[I" (.ref aN) := (F_numbers_t.other W11 (Or.inr (slot_ne (Or.inl (own_w hw 13 rfl)) (Or.inl (own_w hw 38 rfl)) (by decide) (t := (.array (.array .int))) (t' := .int) (by decide) (by decide))))
  refine own_getF X11 hx hZ hown (host := "") (Or.inl (own_w hw 12 rfl)) Via.refl e11 f12 hby d4_101 ?_
  intro T13 X13 e13
  refine own_iload X13.here hx hby d4_104 rfl ?_
  refine own_bipush X13.here hx hby d4_106 (v := (12 : Int32)) (by decide) ?_
  refine own_iushr X13.here hx hby d4_108 (v := (0 : Int32)) (by decide) ?_
  have f14 : Arv Z h11 aN kN (.array .int) (1 : Int32) [(.ref bN)] .null := (V_aN.other W11 (Ne.symm (own_ne_oa E_t (own_w hw 1 rfl) V_aN)))
  refine own_aaload X13 hx hZ e13 f14 rfl ⟨by decide, by decide⟩ (v := (.ref bN)) rfl hby d4_109 ?_
  refine own_astore X13.here hx hby d4_110 rfl (l' := #[.val (.ref t), .val (.int p1), .val (.int p2), .val (.int p3), .val (.int 1), .val (.ref bN), .unset]) rfl ?_
  refine own_iload X13.here hx hby d4_112 rfl ?_
  refine own_sipush X13.here hx hby d4_114 (v := (4095 : Int32)) (by decide) ?_
  refine own_iand X13.here hx hby d4_117 (v := (1 : Int32)) (by decide) ?_
  refine own_bipush X13.here hx hby d4_118 (v := (7 : Int32)) (by decide) ?_
  refine own_imul X13.here hx hby d4_120 (v := (7 : Int32)) (by decide) ?_
  refine own_istore X13.here hx hby d4_121 (l' := #[.val (.ref t), .val (.int p1), .val (.int p2), .val (.int p3), .val (.int 1), .val (.ref bN), .val (.int 7)]) rfl ?_
  refine own_aload X13.here hx hby d4_123 rfl rfl ?_
  refine own_iload X13.here hx hby d4_125 rfl ?_
  refine own_iconst X13.here hx hby d4_127 (v := (0 : Int32)) (by decide) ?_
  refine own_iadd X13.here hx hby d4_128 (v := (7 : Int32)) (by decide) ?_
  refine own_iloadN X13.here hx hby d4_129 rfl ?_
  have f15 : Arv Z h11 bN kb .int (28672 : Int32) [(.int x0), (.int x1), (.int x2), (.int x3), (.int x4), (.int x5), (.int x6)] (.int 0) := (V_bN.other W11 (Ne.symm (own_ne_oa E_t (own_w hw 1 rfl) V_bN)))
  have V17 : Arv Z h11 bN kb .int (28672 : Int32) [(.int x0), (.int x1), (.int x2), (.int x3), (.int x4), (.int x5), (.int x6), (.int 0)] (.int 0) := f15.pad (pad_rep [(.int x0), (.int x1), (.int x2), (.int x3), (.int x4), (.int x5), (.int x6)] (.int 0) 1)
  refine own_iastore X13 hx hZ e13 V17 ⟨by decide, by decide⟩ 7 (by decide) (Nat.le_of_ble_eq_true rfl) rfl hby d4_130 N11 g_bN ?_
  intro T16 h16 lo16 X16 e16 N16 W16 V16 z16
  have V18 : Arv Z h16 bN kb .int (28672 : Int32) [(.int x0), (.int x1), (.int x2), (.int x3), (.int x4), (.int x5), (.int x6), (.int p1)] (.int 0) := V16
  refine own_aload X16.here hx hby d4_131 rfl rfl ?_
  refine own_iload X16.here hx hby d4_133 rfl ?_
  refine own_iconst X16.here hx hby d4_135 (v := (1 : Int32)) (by decide) ?_
  refine own_iadd X16.here hx hby d4_136 (v := (8 : Int32)) (by decide) ?_
  refine own_iloadN X16.here hx hby d4_137 rfl ?_
  have V20 : Arv Z h16 bN kb .int (28672 : Int32) [(.int x0), (.int x1), (.int x2), (.int x3), (.int x4), (.int x5), (.int x6), (.int p1), (.int 0)] (.int 0) := V18.pad (pad_rep [(.int x0), (.int x1), (.int x2), (.int x3), (.int x4), (.int x5), (.int x6), (.int p1)] (.int 0) 1)
  refine own_iastore X16 hx hZ e16 V20 ⟨by decide, by decide⟩ 8 (by decide) (Nat.le_of_ble_eq_true rfl) rfl hby d4_138 N16 g_bN ?_
  intro T19 h19 lo19 X19 e19 N19 W19 V19 z19
  have V21 : Arv Z h19 bN kb .int (28672 : Int32) [(.int x0), (.int x1), (.int x2), (.int x3), (.int x4), (.int x5), (.int x6), (.int p1), (.int p2)] (.int 0) := V19
  refine own_aload X19.here hx hby d4_139 rfl rfl ?_
  refine own_iload X19.here hx hby d4_141 rfl ?_
  refine own_iconst X19.here hx hby d4_143 (v := (2 : Int32)) (by decide) ?_
  refine own_iadd X19.here hx hby d4_144 (v := (9 : Int32)) (by decide) ?_
  refine own_iloadN X19.here hx hby d4_145 rfl ?_
  have V23 : Arv Z h19 bN kb .int (28672 : Int32) [(.int x0), (.int x1), (.int x2), (.int x3), (.int x4), (.int x5), (.int x6), (.int p1), (.int p2), (.int 0)] (.int 0) := V21.pad (pad_rep [(.int x0), (.int x1), (.int x2), (.int x3), (.int x4), (.int x5), (.int x6), (.int p1), (.int p2)] (.int 0) 1)
  refine own_iastore X19 hx hZ e19 V23 ⟨by decide, by decide⟩ 9 (by decide) (Nat.le_of_ble_eq_true rfl) rfl hby d4_146 N19 g_bN ?_
  intro T22 h22 lo22 X22 e22 N22 W22 V22 z22
  have V24 : Arv Z h22 bN kb .int (28672 : Int32) [(.int x0), (.int x1), (.int x2), (.int x3), (.int x4), (.int x5), (.int x6), (.int p1), (.int p2), (.int p3)] (.int 0) := V22
  refine own_aload X22.here hx hby d4_147 rfl rfl ?_
  refine own_iload X22.here hx hby d4_149 rfl ?_
  refine own_iconst X22.here hx hby d4_151 (v := (3 : Int32)) (by decide) ?_
  refine own_iadd X22.here hx hby d4_152 (v := (10 : Int32)) (by decide) ?_
  refine own_iload X22.here hx hby d4_153 rfl ?_
  refine own_iconst X22.here hx hby d4_155 (v := (1 : Int32)) (by decide) ?_
  refine own_iadd X22.here hx hby d4_156 (v := (2 : Int32)) (by decide) ?_
  have V26 : Arv Z h22 bN kb .int (28672 : Int32) [(.int x0), (.int x1), (.int x2), (.int x3), (.int x4), (.int x5), (.int x6), (.int p1), (.int p2), (.int p3), (.int 0)] (.int 0) := V24.pad (pad_rep [(.int x0), (.int x1), (.int x2), (.int x3), (.int x4), (.int x5), (.int x6), (.int p1), (.int p2), (.int p3)] (.int 0) 1)
  refine own_iastore X22 hx hZ e22 V26 ⟨by decide, by decide⟩ 10 (by decide) (Nat.le_of_ble_eq_true rfl) rfl hby d4_157 N22 g_bN ?_
  intro T25 h25 lo25 X25 e25 N25 W25 V25 z25
  have V27 : Arv Z h25 bN kb .int (28672 : Int32) [(.int x0), (.int x1), (.int x2), (.int x3), (.int x4), (.int x5), (.int x6), (.int p1), (.int p2), (.int p3), (.int 2)] (.int 0) := V25
  refine own_aload X25.here hx hby d4_158 rfl rfl ?_
  refine own_iload X25.here hx hby d4_160 rfl ?_
  refine own_bipush X25.here hx hby d4_162 (v := (6 : Int32)) (by decide) ?_
  refine own_iadd X25.here hx hby d4_164 (v := (13 : Int32)) (by decide) ?_
  refine own_aloadN X25.here hx hby d4_165 rfl rfl ?_
  have f28 : Fld Z h25 t "com/example/boxwood/boxwood/XmlNodeTable" "attributeCount" "I" (.int ac) := (((((F_attributeCount_t.other W11 (Or.inr (slot_ne (Or.inl (own_w hw 45 rfl)) (Or.inl (own_w hw 38 rfl)) (by decide) (t := .int) (t' := .int) (by decide) (by decide)))).other W16 (Or.inl (own_ne_oa E_t (own_w hw 1 rfl) V_bN))).other W19 (Or.inl (own_ne_oa E_t (own_w hw 1 rfl) V_bN))).other W22 (Or.inl (own_ne_oa E_t (own_w hw 1 rfl) V_bN))).other W25 (Or.inl (own_ne_oa E_t (own_w hw 1 rfl) V_bN)))
  refine own_getF X25 hx hZ hown (host := "") (Or.inl (own_w hw 44 rfl)) Via.refl e25 f28 hby d4_166 ?_
  intro T29 X29 e29
  have V31 : Arv Z h25 bN kb .int (28672 : Int32) [(.int x0), (.int x1), (.int x2), (.int x3), (.int x4), (.int x5), (.int x6), (.int p1), (.int p2), (.int p3), (.int 2), (.int 0), (.int 0), (.int 0)] (.int 0) := V27.pad (pad_rep [(.int x0), (.int x1), (.int x2), (.int x3), (.int x4), (.int x5), (.int x6), (.int p1), (.int p2), (.int p3), (.int 2)] (.int 0) 3)
  refine own_iastore X29 hx hZ e29 V31 ⟨by decide, by decide⟩ 13 (by decide) (Nat.le_of_ble_eq_true rfl) rfl hby d4_169 N25 g_bN ?_
  intro T30 h30 lo30 X30 e30 N30 W30 V30 z30
  have V32 : Arv Z h30 bN kb .int (28672 : Int32) [(.int x0), (.int x1), (.int x2), (.int x3), (.int x4), (.int x5), (.int x6), (.int p1), (.int p2), (.int p3), (.int 2), (.int 0), (.int 0), (.int ac)] (.int 0) := V30
  refine own_iload X30.here hx hby d4_170 rfl ?_
  have K33 : Keep h0 h30 [t, bN] := (((((((Keep.refl h0 [t, bN]).wr W11 (Or.inl (List.mem_of_getElem? (i := 0) rfl))).wr W16 (Or.inl (List.mem_of_getElem? (i := 1) rfl))).wr W19 (Or.inl (List.mem_of_getElem? (i := 1) rfl))).wr W22 (Or.inl (List.mem_of_getElem? (i := 1) rfl))).wr W25 (Or.inl (List.mem_of_getElem? (i := 1) rfl))).wr W30 (Or.inl (List.mem_of_getElem? (i := 1) rfl)))
  have f34 : Exa Z h30 t "com/example/boxwood/boxwood/XmlNodeTable" := ((((((E_t.wr W11).wr W16).wr W19).wr W22).wr W25).wr W30)
  have f35 : Fld Z h30 t "com/example/boxwood/boxwood/XmlNodeTable" "size" "I" (.int 2) := (((((F11.other W16 (Or.inl (own_ne_oa E_t (own_w hw 1 rfl) V_bN))).other W19 (Or.inl (own_ne_oa E_t (own_w hw 1 rfl) V_bN))).other W22 (Or.inl (own_ne_oa E_t (own_w hw 1 rfl) V_bN))).other W25 (Or.inl (own_ne_oa E_t (own_w hw 1 rfl) V_bN))).other W30 (Or.inl (own_ne_oa E_t (own_w hw 1 rfl) V_bN)))
  have f36 : Fld Z h30 t "com/example/boxwood/boxwood/XmlNodeTable" "numbers" "[[I" (.ref aN) := (((((f12.other W16 (Or.inl (own_ne_oa E_t (own_w hw 1 rfl) V_bN))).other W19 (Or.inl (own_ne_oa E_t (own_w hw 1 rfl) V_bN))).other W22 (Or.inl (own_ne_oa E_t (own_w hw 1 rfl) V_bN))).other W25 (Or.inl (own_ne_oa E_t (own_w hw 1 rfl) V_bN))).other W30 (Or.inl (own_ne_oa E_t (own_w hw 1 rfl) V_bN)))
  have f37 : Fld Z h30 t "com/example/boxwood/boxwood/XmlNodeTable" "attributeCount" "I" (.int ac) := (f28.other W30 (Or.inl (own_ne_oa E_t (own_w hw 1 rfl) V_bN)))
  have f38 : Fld Z h30 t "com/example/boxwood/boxwood/XmlNodeTable" "strings" "[[Ljava/lang/String;" (.ref aS) := ((((((F_strings_t.other W11 (Or.inr (slot_ne (Or.inl (own_w hw 17 rfl)) (Or.inl (own_w hw 38 rfl)) (by decide) (t := (.array (.array (.object "java/lang/String")))) (t' := .int) (by decide) (by decide)))).other W16 (Or.inl (own_ne_oa E_t (own_w hw 1 rfl) V_bN))).other W19 (Or.inl (own_ne_oa E_t (own_w hw 1 rfl) V_bN))).other W22 (Or.inl (own_ne_oa E_t (own_w hw 1 rfl) V_bN))).other W25 (Or.inl (own_ne_oa E_t (own_w hw 1 rfl) V_bN))).other W30 (Or.inl (own_ne_oa E_t (own_w hw 1 rfl) V_bN)))
  obtain ⟨fs, hr, hrun, hended, hW, hsame⟩ := X30.leave (v := some (.int 1)) (fun h => by rw [Bd.returns] at h; cases h)
  refine own_ret (t := T30.setFrames fs) ?_ ⟨_, hrun, hended, _, _, rfl, ?_, ⟨_, rfl⟩, hW, hsame.mono (by decide) (by decide)⟩
  · exact retOut X30 hx Bd.returns rfl (Or.inl ⟨rfl, Or.inl rfl, _, rfl⟩) (hb hby d4_172) hr
  · show Q_add_1 Z t aN bN p1 p2 p3 ac kN kb x0 x1 x2 x3 x4 x5 x6 aS h0 n0 _ T30.heap _
    rw [e30]
    exact ⟨rfl, N30, K33, f34, f35, f36, f37, V32, f38⟩
def Q_add_2 (Z : State) (t : Nat) (aN : Nat) (bN : Nat) (p1 : Int32) (p2 : Int32) (p3 : Int32) (ac : Int32) (kN : ClassId) (kb : ClassId) (x0 : Int32) (x1 : Int32) (x2 : Int32) (x3 : Int32) (x4 : Int32) (x5 : Int32) (x6 : Int32) (x7 : Int32) (x8 : Int32) (x9 : Int32) (x10 : Int32) (x11 : Int32) (x12 : Int32) (x13 : Int32) (aS : Nat) (h0 : Heap) (n0 : Nat) (vR : Option Value) (hR : Heap) (LR : List Loc) : Prop := vR = some (.int 2) ∧ Fr n0 LR ∧ Keep h0 hR [t, bN] ∧ (Exa Z hR t "com/example/boxwood/boxwood/XmlNodeTable") ∧ (Fld Z hR t "com/example/boxwood/boxwood/XmlNodeTable" "size" "I" (.int 3)) ∧ (Fld Z hR t "com/example/boxwood/boxwood/XmlNodeTable" "numbers" "[[I" (.ref aN)) ∧ (Fld Z hR t "com/example/boxwood/boxwood/XmlNodeTable" "attributeCount" "I" (.int ac)) ∧ (Arv Z hR bN kb .int (28672 : Int32) [(.int x0), (.int x1), (.int x2), (.int x3), (.int x4), (.int x5), (.int x6), (.int x7), (.int x8), (.int x9), (.int x10), (.int x11), (.int x12), (.int x13), (.int p1), (.int p2), (.int p3), (.int 3), (.int 0), (.int 0), (.int ac)] (.int 0)) ∧ (Fld Z hR t "com/example/boxwood/boxwood/XmlNodeTable" "strings" "[[Ljava/lang/String;" (.ref aS))
set_option maxRecDepth 65536 in
set_option maxHeartbeats 40000000 in
theorem add_2 (l : Launch) (Z : State) (a0 : Array Value) (hw : ∀ d ∈ tables_1, d.before a0 Z = true) (ws : List Jvm.Cond) (t : Nat) (aN : Nat) (bN : Nat) (p1 : Int32) (p2 : Int32) (p3 : Int32) (ac : Int32) (kN : ClassId) (kb : ClassId) (x0 : Int32) (x1 : Int32) (x2 : Int32) (x3 : Int32) (x4 : Int32) (x5 : Int32) (x6 : Int32) (x7 : Int32) (x8 : Int32) (x9 : Int32) (x10 : Int32) (x11 : Int32) (x12 : Int32) (x13 : Int32) (aS : Nat) (h0 : Heap) (n0 : Nat) (Z0 : n0 ≤ h0.size) (E_t : Exa Z h0 t "com/example/boxwood/boxwood/XmlNodeTable") (F_size_t : Fld Z h0 t "com/example/boxwood/boxwood/XmlNodeTable" "size" "I" (.int 2)) (F_numbers_t : Fld Z h0 t "com/example/boxwood/boxwood/XmlNodeTable" "numbers" "[[I" (.ref aN)) (F_attributeCount_t : Fld Z h0 t "com/example/boxwood/boxwood/XmlNodeTable" "attributeCount" "I" (.int ac)) (V_aN : Arv Z h0 aN kN (.array .int) (1 : Int32) [(.ref bN)] .null) (V_bN : Arv Z h0 bN kb .int (28672 : Int32) [(.int x0), (.int x1), (.int x2), (.int x3), (.int x4), (.int x5), (.int x6), (.int x7), (.int x8), (.int x9), (.int x10), (.int x11), (.int x12), (.int x13)] (.int 0)) (g_t : n0 ≤ t) (g_bN : n0 ≤ bN) (F_strings_t : Fld Z h0 t "com/example/boxwood/boxwood/XmlNodeTable" "strings" "[[Ljava/lang/String;" (.ref aS)) :
    own_M l (⟨"com/example/boxwood/boxwood/XmlNodeTable", "add", "(III)I"⟩ : MethodName) prog_60_method_24_code 7 (some .int) ws ({ frames := 0, cells := 0, slots := 0, locals := 0 } : Room) Z #[(.ref t), (.int p1), (.int p2), (.int p3)] h0 (Q_add_2 Z t aN bN p1 p2 p3 ac kN kb x0 x1 x2 x3 x4 x5 x6 x7 x8 x9 x10 x11 x12 x13 aS h0 n0) := by
  refine own_body (own := "com/example/boxwood/boxwood/XmlNodeTable") rfl (plainFor_of_name pn_4) (fun m => ef_add_0 m t p1 p2 p3) ?_
  intro p e s m below meth c s₁ Bd hml hZ hh hx hby hown X0 e0
  have N0 := Fr.nil n0
  have lt14 : h0.size > t := E_t.lt
  have lt15 : h0.size > aN := V_aN.lt
  have lt16 : h0.size > bN := V_bN.lt
  refine own_aloadN X0.here hx hby d4_0 rfl rfl ?_
  refine own_dup X0.here hx hby d4_1 rfl ?_
  refine own_getF X0 hx hZ hown (host := "") (Or.inl (own_w hw 37 rfl)) Via.refl e0 F_size_t hby d4_2 ?_
  intro T17 X17 e17
  refine own_dupX1 X17.here hx hby d4_5 rfl rfl ?_
  refine own_iconst X17.here hx hby d4_6 (v := (1 : Int32)) (by decide) ?_
  refine own_iadd X17.here hx hby d4_7 (v := (3 : Int32)) (by decide) ?_
  refine own_putF X17 hx hZ (ty := .int) hown (host := "") (Or.inl (own_w hw 37 rfl)) Via.refl e17 F_size_t E_t (Or.inl (own_w hw 38 rfl)) (own_w hw 1 rfl) (by decide) rfl rfl hby d4_8 N0 g_t ?_
  intro T18 h18 lo18 X18 e18 N18 W18 F18 z18
  refine own_istore X18.here hx hby d4_11 (l' := #[.val (.ref t), .val (.int p1), .val (.int p2), .val (.int p3), .val (.int 2), .unset, .unset]) rfl ?_
  refine own_iload X18.here hx hby d4_13 rfl ?_
  refine own_sipush X18.here hx hby d4_15 (v := (4095 : Int32)) (by decide) ?_
  refine own_iand X18.here hx hby d4_18 (v := (2 : Int32)) (by decide) ?_
  refine own_ifYes X18.here hx hby (pc' := 100) d4_19 ((if0 _ _).trans (feq (show ¬ ((2 : Int32) = (0 : Int32)) from (by decide))).2) (by decide) (by decide) ?_
  refine own_aloadN X18.here hx hby d4_100 rfl rfl ?_
  have f19 : Fld Z h18 t "com/example/boxwood/boxwood/XmlNodeTable" "numbers" "[[I" (.ref aN) := (F_numbers_t.other W18 (Or.inr (slot_ne (Or.inl (own_w hw 13 rfl)) (Or.inl (own_w hw 38 rfl)) (by decide) (t := (.array (.array .int))) (t' := .int) (by decide) (by decide))))
  refine own_getF X18 hx hZ hown (host := "") (Or.inl (own_w hw 12 rfl)) Via.refl e18 f19 hby d4_101 ?_
  intro T20 X20 e20
  refine own_iload X20.here hx hby d4_104 rfl ?_
  refine own_bipush X20.here hx hby d4_106 (v := (12 : Int32)) (by decide) ?_
  refine own_iushr X20.here hx hby d4_108 (v := (0 : Int32)) (by decide) ?_
  have f21 : Arv Z h18 aN kN (.array .int) (1 : Int32) [(.ref bN)] .null := (V_aN.other W18 (Ne.symm (own_ne_oa E_t (own_w hw 1 rfl) V_aN)))
  refine own_aaload X20 hx hZ e20 f21 rfl ⟨by decide, by decide⟩ (v := (.ref bN)) rfl hby d4_109 ?_
  refine own_astore X20.here hx hby d4_110 rfl (l' := #[.val (.ref t), .val (.int p1), .val (.int p2), .val (.int p3), .val (.int 2), .val (.ref bN), .unset]) rfl ?_
  refine own_iload X20.here hx hby d4_112 rfl ?_
  refine own_sipush X20.here hx hby d4_114 (v := (4095 : Int32)) (by decide) ?_
  refine own_iand X20.here hx hby d4_117 (v := (2 : Int32)) (by decide) ?_
  refine own_bipush X20.here hx hby d4_118 (v := (7 : Int32)) (by decide) ?_
  refine own_imul X20.here hx hby d4_120 (v := (14 : Int32)) (by decide) ?_
  refine own_istore X20.here hx hby d4_121 (l' := #[.val (.ref t), .val (.int p1), .val (.int p2), .val (.int p3), .val (.int 2), .val (.ref bN), .val (.int 14)]) rfl ?_
  refine own_aload X20.here hx hby d4_123 rfl rfl ?_
  refine own_iload X20.here hx hby d4_125 rfl ?_
  refine own_iconst X20.here hx hby d4_127 (v := (0 : Int32)) (by decide) ?_
  refine own_iadd X20.here hx hby d4_128 (v := (14 : Int32)) (by decide) ?_
  refine own_iloadN X20.here hx hby d4_129 rfl ?_
  have f22 : Arv Z h18 bN kb .int (28672 : Int32) [(.int x0), (.int x1), (.int x2), (.int x3), (.int x4), (.int x5), (.int x6), (.int x7), (.int x8), (.int x9), (.int x10), (.int x11), (.int x12), (.int x13)] (.int 0) := (V_bN.other W18 (Ne.symm (own_ne_oa E_t (own_w hw 1 rfl) V_bN)))
  have V24 : Arv Z h18 bN kb .int (28672 : Int32) [(.int x0), (.int x1), (.int x2), (.int x3), (.int x4), (.int x5), (.int x6), (.int x7), (.int x8), (.int x9), (.int x10), (.int x11), (.int x12), (.int x13), (.int 0)] (.int 0) := f22.pad (pad_rep [(.int x0), (.int x1), (.int x2), (.int x3), (.int x4), (.int x5), (.int x6), (.int x7), (.int x8), (.int x9), (.int x10), (.int x11), (.int x12), (.int x13)] (.int 0) 1)
  refine own_iastore X20 hx hZ e20 V24 ⟨by decide, by decide⟩ 14 (by decide) (Nat.le_of_ble_eq_true rfl) rfl hby d4_130 N18 g_bN ?_
  intro T23 h23 lo23 X23 e23 N23 W23 V23 z23
  have V25 : Arv Z h23 bN kb .int (28672 : Int32) [(.int x0), (.int x1), (.int x2), (.int x3), (.int x4), (.int x5), (.int x6), (.int x7), (.int x8), (.int x9), (.int x10), (.int x11), (.int x12), (.int x13), (.int p1)] (.int 0) := V23
  refine own_aload X23.here hx hby d4_131 rfl rfl ?_
  refine own_iload X23.here hx hby d4_133 rfl ?_
  refine own_iconst X23.here hx hby d4_135 (v := (1 : Int32)) (by decide) ?_
  refine own_iadd X23.here hx hby d4_136 (v := (15 : Int32)) (by decide) ?_
  refine own_iloadN X23.here hx hby d4_137 rfl ?_
  have V27 : Arv Z h23 bN kb .int (28672 : Int32) [(.int x0), (.int x1), (.int x2), (.int x3), (.int x4), (.int x5), (.int x6), (.int x7), (.int x8), (.int x9), (.int x10), (.int x11), (.int x12), (.int x13), (.int p1), (.int 0)] (.int 0) := V25.pad (pad_rep [(.int x0), (.int x1), (.int x2), (.int x3), (.int x4), (.int x5), (.int x6), (.int x7), (.int x8), (.int x9), (.int x10), (.int x11), (.int x12), (.int x13), (.int p1)] (.int 0) 1)
  refine own_iastore X23 hx hZ e23 V27 ⟨by decide, by decide⟩ 15 (by decide) (Nat.le_of_ble_eq_true rfl) rfl hby d4_138 N23 g_bN ?_
  intro T26 h26 lo26 X26 e26 N26 W26 V26 z26
  have V28 : Arv Z h26 bN kb .int (28672 : Int32) [(.int x0), (.int x1), (.int x2), (.int x3), (.int x4), (.int x5), (.int x6), (.int x7), (.int x8), (.int x9), (.int x10), (.int x11), (.int x12), (.int x13), (.int p1), (.int p2)] (.int 0) := V26
  refine own_aload X26.here hx hby d4_139 rfl rfl ?_
  refine own_iload X26.here hx hby d4_141 rfl ?_
  refine own_iconst X26.here hx hby d4_143 (v := (2 : Int32)) (by decide) ?_
  refine own_iadd X26.here hx hby d4_144 (v := (16 : Int32)) (by decide) ?_
  refine own_iloadN X26.here hx hby d4_145 rfl ?_
  have V30 : Arv Z h26 bN kb .int (28672 : Int32) [(.int x0), (.int x1), (.int x2), (.int x3), (.int x4), (.int x5), (.int x6), (.int x7), (.int x8), (.int x9), (.int x10), (.int x11), (.int x12), (.int x13), (.int p1), (.int p2), (.int 0)] (.int 0) := V28.pad (pad_rep [(.int x0), (.int x1), (.int x2), (.int x3), (.int x4), (.int x5), (.int x6), (.int x7), (.int x8), (.int x9), (.int x10), (.int x11), (.int x12), (.int x13), (.int p1), (.int p2)] (.int 0) 1)
  refine own_iastore X26 hx hZ e26 V30 ⟨by decide, by decide⟩ 16 (by decide) (Nat.le_of_ble_eq_true rfl) rfl hby d4_146 N26 g_bN ?_
  intro T29 h29 lo29 X29 e29 N29 W29 V29 z29
  have V31 : Arv Z h29 bN kb .int (28672 : Int32) [(.int x0), (.int x1), (.int x2), (.int x3), (.int x4), (.int x5), (.int x6), (.int x7), (.int x8), (.int x9), (.int x10), (.int x11), (.int x12), (.int x13), (.int p1), (.int p2), (.int p3)] (.int 0) := V29
  refine own_aload X29.here hx hby d4_147 rfl rfl ?_
  refine own_iload X29.here hx hby d4_149 rfl ?_
  refine own_iconst X29.here hx hby d4_151 (v := (3 : Int32)) (by decide) ?_
  refine own_iadd X29.here hx hby d4_152 (v := (17 : Int32)) (by decide) ?_
  refine own_iload X29.here hx hby d4_153 rfl ?_
  refine own_iconst X29.here hx hby d4_155 (v := (1 : Int32)) (by decide) ?_
  refine own_iadd X29.here hx hby d4_156 (v := (3 : Int32)) (by decide) ?_
  have V33 : Arv Z h29 bN kb .int (28672 : Int32) [(.int x0), (.int x1), (.int x2), (.int x3), (.int x4), (.int x5), (.int x6), (.int x7), (.int x8), (.int x9), (.int x10), (.int x11), (.int x12), (.int x13), (.int p1), (.int p2), (.int p3), (.int 0)] (.int 0) := V31.pad (pad_rep [(.int x0), (.int x1), (.int x2), (.int x3), (.int x4), (.int x5), (.int x6), (.int x7), (.int x8), (.int x9), (.int x10), (.int x11), (.int x12), (.int x13), (.int p1), (.int p2), (.int p3)] (.int 0) 1)
  refine own_iastore X29 hx hZ e29 V33 ⟨by decide, by decide⟩ 17 (by decide) (Nat.le_of_ble_eq_true rfl) rfl hby d4_157 N29 g_bN ?_
  intro T32 h32 lo32 X32 e32 N32 W32 V32 z32
  have V34 : Arv Z h32 bN kb .int (28672 : Int32) [(.int x0), (.int x1), (.int x2), (.int x3), (.int x4), (.int x5), (.int x6), (.int x7), (.int x8), (.int x9), (.int x10), (.int x11), (.int x12), (.int x13), (.int p1), (.int p2), (.int p3), (.int 3)] (.int 0) := V32
  refine own_aload X32.here hx hby d4_158 rfl rfl ?_
  refine own_iload X32.here hx hby d4_160 rfl ?_
  refine own_bipush X32.here hx hby d4_162 (v := (6 : Int32)) (by decide) ?_
  refine own_iadd X32.here hx hby d4_164 (v := (20 : Int32)) (by decide) ?_
  refine own_aloadN X32.here hx hby d4_165 rfl rfl ?_
  have f35 : Fld Z h32 t "com/example/boxwood/boxwood/XmlNodeTable" "attributeCount" "I" (.int ac) := (((((F_attributeCount_t.other W18 (Or.inr (slot_ne (Or.inl (own_w hw 45 rfl)) (Or.inl (own_w hw 38 rfl)) (by decide) (t := .int) (t' := .int) (by decide) (by decide)))).other W23 (Or.inl (own_ne_oa E_t (own_w hw 1 rfl) V_bN))).other W26 (Or.inl (own_ne_oa E_t (own_w hw 1 rfl) V_bN))).other W29 (Or.inl (own_ne_oa E_t (own_w hw 1 rfl) V_bN))).other W32 (Or.inl (own_ne_oa E_t (own_w hw 1 rfl) V_bN)))
  refine own_getF X32 hx hZ hown (host := "") (Or.inl (own_w hw 44 rfl)) Via.refl e32 f35 hby d4_166 ?_
  intro T36 X36 e36
  have V38 : Arv Z h32 bN kb .int (28672 : Int32) [(.int x0), (.int x1), (.int x2), (.int x3), (.int x4), (.int x5), (.int x6), (.int x7), (.int x8), (.int x9), (.int x10), (.int x11), (.int x12), (.int x13), (.int p1), (.int p2), (.int p3), (.int 3), (.int 0), (.int 0), (.int 0)] (.int 0) := V34.pad (pad_rep [(.int x0), (.int x1), (.int x2), (.int x3), (.int x4), (.int x5), (.int x6), (.int x7), (.int x8), (.int x9), (.int x10), (.int x11), (.int x12), (.int x13), (.int p1), (.int p2), (.int p3), (.int 3)] (.int 0) 3)
  refine own_iastore X36 hx hZ e36 V38 ⟨by decide, by decide⟩ 20 (by decide) (Nat.le_of_ble_eq_true rfl) rfl hby d4_169 N32 g_bN ?_
  intro T37 h37 lo37 X37 e37 N37 W37 V37 z37
  have V39 : Arv Z h37 bN kb .int (28672 : Int32) [(.int x0), (.int x1), (.int x2), (.int x3), (.int x4), (.int x5), (.int x6), (.int x7), (.int x8), (.int x9), (.int x10), (.int x11), (.int x12), (.int x13), (.int p1), (.int p2), (.int p3), (.int 3), (.int 0), (.int 0), (.int ac)] (.int 0) := V37
  refine own_iload X37.here hx hby d4_170 rfl ?_
  have K40 : Keep h0 h37 [t, bN] := (((((((Keep.refl h0 [t, bN]).wr W18 (Or.inl (List.mem_of_getElem? (i := 0) rfl))).wr W23 (Or.inl (List.mem_of_getElem? (i := 1) rfl))).wr W26 (Or.inl (List.mem_of_getElem? (i := 1) rfl))).wr W29 (Or.inl (List.mem_of_getElem? (i := 1) rfl))).wr W32 (Or.inl (List.mem_of_getElem? (i := 1) rfl))).wr W37 (Or.inl (List.mem_of_getElem? (i := 1) rfl)))
  have f41 : Exa Z h37 t "com/example/boxwood/boxwood/XmlNodeTable" := ((((((E_t.wr W18).wr W23).wr W26).wr W29).wr W32).wr W37)
  have f42 : Fld Z h37 t "com/example/boxwood/boxwood/XmlNodeTable" "size" "I" (.int 3) := (((((F18.other W23 (Or.inl (own_ne_oa E_t (own_w hw 1 rfl) V_bN))).other W26 (Or.inl (own_ne_oa E_t (own_w hw 1 rfl) V_bN))).other W29 (Or.inl (own_ne_oa E_t (own_w hw 1 rfl) V_bN))).other W32 (Or.inl (own_ne_oa E_t (own_w hw 1 rfl) V_bN))).other W37 (Or.inl (own_ne_oa E_t (own_w hw 1 rfl) V_bN)))
  have f43 : Fld Z h37 t "com/example/boxwood/boxwood/XmlNodeTable" "numbers" "[[I" (.ref aN) := (((((f19.other W23 (Or.inl (own_ne_oa E_t (own_w hw 1 rfl) V_bN))).other W26 (Or.inl (own_ne_oa E_t (own_w hw 1 rfl) V_bN))).other W29 (Or.inl (own_ne_oa E_t (own_w hw 1 rfl) V_bN))).other W32 (Or.inl (own_ne_oa E_t (own_w hw 1 rfl) V_bN))).other W37 (Or.inl (own_ne_oa E_t (own_w hw 1 rfl) V_bN)))
  have f44 : Fld Z h37 t "com/example/boxwood/boxwood/XmlNodeTable" "attributeCount" "I" (.int ac) := (f35.other W37 (Or.inl (own_ne_oa E_t (own_w hw 1 rfl) V_bN)))
  have f45 : Fld Z h37 t "com/example/boxwood/boxwood/XmlNodeTable" "strings" "[[Ljava/lang/String;" (.ref aS) := ((((((F_strings_t.other W18 (Or.inr (slot_ne (Or.inl (own_w hw 17 rfl)) (Or.inl (own_w hw 38 rfl)) (by decide) (t := (.array (.array (.object "java/lang/String")))) (t' := .int) (by decide) (by decide)))).other W23 (Or.inl (own_ne_oa E_t (own_w hw 1 rfl) V_bN))).other W26 (Or.inl (own_ne_oa E_t (own_w hw 1 rfl) V_bN))).other W29 (Or.inl (own_ne_oa E_t (own_w hw 1 rfl) V_bN))).other W32 (Or.inl (own_ne_oa E_t (own_w hw 1 rfl) V_bN))).other W37 (Or.inl (own_ne_oa E_t (own_w hw 1 rfl) V_bN)))
  obtain ⟨fs, hr, hrun, hended, hW, hsame⟩ := X37.leave (v := some (.int 2)) (fun h => by rw [Bd.returns] at h; cases h)
  refine own_ret (t := T37.setFrames fs) ?_ ⟨_, hrun, hended, _, _, rfl, ?_, ⟨_, rfl⟩, hW, hsame.mono (by decide) (by decide)⟩
  · exact retOut X37 hx Bd.returns rfl (Or.inl ⟨rfl, Or.inl rfl, _, rfl⟩) (hb hby d4_172) hr
  · show Q_add_2 Z t aN bN p1 p2 p3 ac kN kb x0 x1 x2 x3 x4 x5 x6 x7 x8 x9 x10 x11 x12 x13 aS h0 n0 _ T37.heap _
    rw [e37]
    exact ⟨rfl, N37, K40, f41, f42, f43, f44, V39, f45⟩
theorem ef_set_0_4_7 (m : MethodId) (x0 : Nat) (x1 : Int32) (x2 : Int32) (x3 : Int32) : entryFrame m #[(.ref x0), (.int x1), (.int x2), (.int x3)] 4 = mkF m 0 #[.val (.ref x0), .val (.int x1), .val (.int x2), .val (.int x3)] [] := by first | (simp [entryFrame, mkF, argsToLocals, Value.category]; done) | rfl
theorem pn_5 : plainName "com/example/boxwood/boxwood/XmlNodeTable" = true := by first | (simp [plainName, overriddenIn]; done) | decide +kernel
theorem d5_0 : decode prog_60_method_27_code 0 = .ok (.aload_n 0, 1) := by decide +kernel
theorem d5_1 : decode prog_60_method_27_code 1 = .ok (.getfield 11, 3) := by decide +kernel
theorem d5_4 : decode prog_60_method_27_code 4 = .ok (.iload_n 1, 1) := by decide +kernel
theorem d5_5 : decode prog_60_method_27_code 5 = .ok (.bipush 12, 2) := by decide +kernel
theorem d5_7 : decode prog_60_method_27_code 7 = .ok (.iushr, 1) := by decide +kernel
theorem d5_8 : decode prog_60_method_27_code 8 = .ok (.aaload, 1) := by decide +kernel
theorem d5_9 : decode prog_60_method_27_code 9 = .ok (.iload_n 1, 1) := by decide +kernel
theorem d5_10 : decode prog_60_method_27_code 10 = .ok (.sipush 4095, 3) := by decide +kernel
theorem d5_13 : decode prog_60_method_27_code 13 = .ok (.iand, 1) := by decide +kernel
theorem d5_14 : decode prog_60_method_27_code 14 = .ok (.bipush 7, 2) := by decide +kernel
theorem d5_16 : decode prog_60_method_27_code 16 = .ok (.imul, 1) := by decide +kernel
theorem d5_17 : decode prog_60_method_27_code 17 = .ok (.iload_n 2, 1) := by decide +kernel
theorem d5_18 : decode prog_60_method_27_code 18 = .ok (.iadd, 1) := by decide +kernel
theorem d5_19 : decode prog_60_method_27_code 19 = .ok (.iload_n 3, 1) := by decide +kernel
theorem d5_20 : decode prog_60_method_27_code 20 = .ok (.iastore, 1) := by decide +kernel
theorem d5_21 : decode prog_60_method_27_code 21 = .ok (.return_, 1) := by decide +kernel
def Q_set_0_4_7 (Z : State) (t : Nat) (aN : Nat) (bN : Nat) (p3 : Int32) (kN : ClassId) (kb : ClassId) (x0 : Int32) (x1 : Int32) (x2 : Int32) (x3 : Int32) (x4 : Int32) (x5 : Int32) (x6 : Int32) (h0 : Heap) (n0 : Nat) (vR : Option Value) (hR : Heap) (LR : List Loc) : Prop := vR = none ∧ Fr n0 LR ∧ Keep h0 hR [bN] ∧ (Arv Z hR bN kb .int (28672 : Int32) [(.int x0), (.int x1), (.int x2), (.int x3), (.int p3), (.int x5), (.int x6)] (.int 0))
set_option maxRecDepth 65536 in
set_option maxHeartbeats 40000000 in
theorem set_0_4_7 (l : Launch) (Z : State) (a0 : Array Value) (hw : ∀ d ∈ tables_1, d.before a0 Z = true) (ws : List Jvm.Cond) (t : Nat) (aN : Nat) (bN : Nat) (p3 : Int32) (kN : ClassId) (kb : ClassId) (x0 : Int32) (x1 : Int32) (x2 : Int32) (x3 : Int32) (x4 : Int32) (x5 : Int32) (x6 : Int32) (h0 : Heap) (n0 : Nat) (Z0 : n0 ≤ h0.size) (F_numbers_t : Fld Z h0 t "com/example/boxwood/boxwood/XmlNodeTable" "numbers" "[[I" (.ref aN)) (V_aN : Arv Z h0 aN kN (.array .int) (1 : Int32) [(.ref bN)] .null) (V_bN : Arv Z h0 bN kb .int (28672 : Int32) [(.int x0), (.int x1), (.int x2), (.int x3), (.int x4), (.int x5), (.int x6)] (.int 0)) (g_bN : n0 ≤ bN) :
    own_M l (⟨"com/example/boxwood/boxwood/XmlNodeTable", "set", "(III)V"⟩ : MethodName) prog_60_method_27_code 4 none ws ({ frames := 0, cells := 0, slots := 0, locals := 0 } : Room) Z #[(.ref t), (.int 0), (.int 4), (.int p3)] h0 (Q_set_0_4_7 Z t aN bN p3 kN kb x0 x1 x2 x3 x4 x5 x6 h0 n0) := by
  refine own_body (own := "com/example/boxwood/boxwood/XmlNodeTable") rfl (plainFor_of_name pn_5) (fun m => ef_set_0_4_7 m t (0 : Int32) (4 : Int32) p3) ?_
  intro p e s m below meth c s₁ Bd hml hZ hh hx hby hown X0 e0
  have N0 := Fr.nil n0
  have lt7 : h0.size > t := F_numbers_t.lt
  have lt8 : h0.size > aN := V_aN.lt
  have lt9 : h0.size > bN := V_bN.lt
  refine own_aloadN X0.here hx hby d5_0 rfl rfl ?_
  refine own_getF X0 hx hZ hown (host := "") (Or.inl (own_w hw 12 rfl)) Via.refl e0 F_numbers_t hby d5_1 ?_
  intro T10 X10 e10
  refine own_iloadN X10.here hx hby d5_4 rfl ?_
  refine own_bipush X10.here hx hby d5_5 (v := (12 : Int32)) (by decide) ?_
  refine own_iushr X10.here hx hby d5_7 (v := (0 : Int32)) (by decide) ?_
  refine own_aaload X10 hx hZ e10 V_aN rfl ⟨by decide, by decide⟩ (v := (.ref bN)) rfl hby d5_8 ?_
  refine own_iloadN X10.here hx hby d5_9 rfl ?_
  refine own_sipush X10.here hx hby d5_10 (v := (4095 : Int32)) (by decide) ?_
  refine own_iand X10.here hx hby d5_13 (v := (0 : Int32)) (by decide) ?_
  refine own_bipush X10.here hx hby d5_14 (v := (7 : Int32)) (by decide) ?_
  refine own_imul X10.here hx hby d5_16 (v := (0 : Int32)) (by decide) ?_
  refine own_iloadN X10.here hx hby d5_17 rfl ?_
  refine own_iadd X10.here hx hby d5_18 (v := (4 : Int32)) (by decide) ?_
  refine own_iloadN X10.here hx hby d5_19 rfl ?_
  refine own_iastore X10 hx hZ e10 V_bN ⟨by decide, by decide⟩ 4 (by decide) (Nat.le_of_ble_eq_true rfl) rfl hby d5_20 N0 g_bN ?_
  intro T11 h11 lo11 X11 e11 N11 W11 V11 z11
  have V12 : Arv Z h11 bN kb .int (28672 : Int32) [(.int x0), (.int x1), (.int x2), (.int x3), (.int p3), (.int x5), (.int x6)] (.int 0) := V11
  have K13 : Keep h0 h11 [bN] := ((Keep.refl h0 [bN]).wr W11 (Or.inl (List.mem_of_getElem? (i := 0) rfl)))
  obtain ⟨fs, hr, hrun, hended, hW, hsame⟩ := X11.leave (v := none) (fun _ => rfl)
  refine own_ret (t := T11.setFrames fs) ?_ ⟨_, hrun, hended, _, _, rfl, ?_, ⟨_, rfl⟩, hW, hsame.mono (by decide) (by decide)⟩
  · exact X11.returnOut hx Bd.returns (hb hby d5_21) hr
  · show Q_set_0_4_7 Z t aN bN p3 kN kb x0 x1 x2 x3 x4 x5 x6 h0 n0 _ T11.heap _
    rw [e11]
    exact ⟨rfl, N11, K13, V12⟩
theorem ef_start_0n (m : MethodId) (x0 : Nat) (x2 : Int32) (x3 : Int32) : entryFrame m #[(.ref x0), .null, (.int x2), (.int x3)] 5 = mkF m 0 #[.val (.ref x0), .val .null, .val (.int x2), .val (.int x3), .unset] [] := by first | (simp [entryFrame, mkF, argsToLocals, Value.category]; done) | rfl
theorem pn_3 : plainName "com/example/boxwood/boxwood/XmlNodeTable" = true := by first | (simp [plainName, overriddenIn]; done) | decide +kernel
theorem d3_0 : decode prog_60_method_3_code 0 = .ok (.aload_n 0, 1) := by decide +kernel
theorem d3_1 : decode prog_60_method_3_code 1 = .ok (.iconst 0, 1) := by decide +kernel
theorem d3_2 : decode prog_60_method_3_code 2 = .ok (.iload_n 2, 1) := by decide +kernel
theorem d3_3 : decode prog_60_method_3_code 3 = .ok (.iconst (-1), 1) := by decide +kernel
theorem d3_4 : decode prog_60_method_3_code 4 = .ok (.invokevirtual 37, 3) := by decide +kernel
theorem pd_0 : parseMethodDescriptor "(III)I" = some ⟨[.int, .int, .int], some .int⟩ := by decide +kernel
theorem d3_7 : decode prog_60_method_3_code 7 = .ok (.istore 4, 2) := by decide +kernel
theorem d3_9 : decode prog_60_method_3_code 9 = .ok (.aload_n 0, 1) := by decide +kernel
theorem d3_10 : decode prog_60_method_3_code 10 = .ok (.getfield 17, 3) := by decide +kernel
theorem d3_13 : decode prog_60_method_3_code 13 = .ok (.iload 4, 2) := by decide +kernel
theorem d3_15 : decode prog_60_method_3_code 15 = .ok (.bipush 12, 2) := by decide +kernel
theorem d3_17 : decode prog_60_method_3_code 17 = .ok (.iushr, 1) := by decide +kernel
theorem d3_18 : decode prog_60_method_3_code 18 = .ok (.aaload, 1) := by decide +kernel
theorem d3_19 : decode prog_60_method_3_code 19 = .ok (.iload 4, 2) := by decide +kernel
theorem d3_21 : decode prog_60_method_3_code 21 = .ok (.sipush 4095, 3) := by decide +kernel
theorem d3_24 : decode prog_60_method_3_code 24 = .ok (.iand, 1) := by decide +kernel
theorem d3_25 : decode prog_60_method_3_code 25 = .ok (.aload_n 1, 1) := by decide +kernel
theorem d3_26 : decode prog_60_method_3_code 26 = .ok (.aastore, 1) := by decide +kernel
theorem d3_27 : decode prog_60_method_3_code 27 = .ok (.aload_n 0, 1) := by decide +kernel
theorem d3_28 : decode prog_60_method_3_code 28 = .ok (.iload 4, 2) := by decide +kernel
theorem d3_30 : decode prog_60_method_3_code 30 = .ok (.iconst 4, 1) := by decide +kernel
theorem d3_31 : decode prog_60_method_3_code 31 = .ok (.iload_n 3, 1) := by decide +kernel
theorem d3_32 : decode prog_60_method_3_code 32 = .ok (.invokevirtual 41, 3) := by decide +kernel
theorem pd_1 : parseMethodDescriptor "(III)V" = some ⟨[.int, .int, .int], none⟩ := by decide +kernel
theorem d3_35 : decode prog_60_method_3_code 35 = .ok (.iload 4, 2) := by decide +kernel
theorem d3_37 : decode prog_60_method_3_code 37 = .ok (.ireturn, 1) := by decide +kernel
def Q_start_0n (Z : State) (t : Nat) (aN : Nat) (aS : Nat) (p1 : Int32) (p2 : Int32) (ac : Int32) (kN : ClassId) (kS : ClassId) (h0 : Heap) (n0 : Nat) (vR : Option Value) (hR : Heap) (LR : List Loc) : Prop := ∃ (bN : Nat) (bS : Nat) (kb : ClassId) (kc : ClassId), vR = some (.int 0) ∧ Fr n0 LR ∧ Keep h0 hR [t, aN, aS] ∧ (Exa Z hR t "com/example/boxwood/boxwood/XmlNodeTable") ∧ (Fld Z hR t "com/example/boxwood/boxwood/XmlNodeTable" "size" "I" (.int 1)) ∧ (Arv Z hR aN kN (.array .int) (1 : Int32) [(.ref bN)] .null) ∧ (Arv Z hR aS kS (.array (.object "java/lang/String")) (1 : Int32) [(.ref bS)] .null) ∧ h0.size ≤ bN ∧ h0.size ≤ bS ∧ (bN < bS) ∧ (Arv Z hR bN kb .int (28672 : Int32) [(.int 0), (.int p1), (.int (-1)), (.int 1), (.int p2), (.int 0), (.int ac)] (.int 0)) ∧ (Arv Z hR bS kc (.object "java/lang/String") (4096 : Int32) [.null] .null) ∧ (Ovr Z kc "java/lang/String") ∧ (Fld Z hR t "com/example/boxwood/boxwood/XmlNodeTable" "numbers" "[[I" (.ref aN)) ∧ (Fld Z hR t "com/example/boxwood/boxwood/XmlNodeTable" "strings" "[[Ljava/lang/String;" (.ref aS)) ∧ (Fld Z hR t "com/example/boxwood/boxwood/XmlNodeTable" "attributeCount" "I" (.int ac))
set_option maxRecDepth 65536 in
set_option maxHeartbeats 40000000 in
theorem start_0n (l : Launch) (Z : State) (a0 : Array Value) (hw : ∀ d ∈ tables_1, d.before a0 Z = true) (ws : List Jvm.Cond) (t : Nat) (aN : Nat) (aS : Nat) (p1 : Int32) (p2 : Int32) (ac : Int32) (kN : ClassId) (kS : ClassId) (h0 : Heap) (n0 : Nat) (Z0 : n0 ≤ h0.size) (E_t : Exa Z h0 t "com/example/boxwood/boxwood/XmlNodeTable") (F_size_t : Fld Z h0 t "com/example/boxwood/boxwood/XmlNodeTable" "size" "I" (.int 0)) (F_numbers_t : Fld Z h0 t "com/example/boxwood/boxwood/XmlNodeTable" "numbers" "[[I" (.ref aN)) (F_attributeCount_t : Fld Z h0 t "com/example/boxwood/boxwood/XmlNodeTable" "attributeCount" "I" (.int ac)) (V_aN : Arv Z h0 aN kN (.array .int) (1 : Int32) [.null] .null) (F_strings_t : Fld Z h0 t "com/example/boxwood/boxwood/XmlNodeTable" "strings" "[[Ljava/lang/String;" (.ref aS)) (V_aS : Arv Z h0 aS kS (.array (.object "java/lang/String")) (1 : Int32) [.null] .null) (O_aN : OvrA Z kN .int "[I") (O_aS : OvrA Z kS (.object "java/lang/String") "[Ljava/lang/String;") (g_t : n0 ≤ t) (g_aN : n0 ≤ aN) (g_aS : n0 ≤ aS) :
    own_M l (⟨"com/example/boxwood/boxwood/XmlNodeTable", "startElement", "(Ljava/lang/String;II)I"⟩ : MethodName) prog_60_method_3_code 5 (some .int) ws ({ frames := 1, cells := 2, slots := 32768, locals := 18 } : Room) Z #[(.ref t), .null, (.int p1), (.int p2)] h0 (Q_start_0n Z t aN aS p1 p2 ac kN kS h0 n0) := by
  refine own_body (own := "com/example/boxwood/boxwood/XmlNodeTable") rfl (plainFor_of_name pn_3) (fun m => ef_start_0n m t p1 p2) ?_
  intro p e s m below meth c s₁ Bd hml hZ hh hx hby hown X0 e0
  have N0 := Fr.nil n0
  have lt3 : h0.size > t := E_t.lt
  have lt4 : h0.size > aN := V_aN.lt
  have lt5 : h0.size > aS := V_aS.lt
  refine own_aloadN X0.here hx hby d3_0 rfl rfl ?_
  refine own_iconst X0.here hx hby d3_1 (v := (0 : Int32)) (by decide) ?_
  refine own_iloadN X0.here hx hby d3_2 rfl ?_
  refine own_iconst X0.here hx hby d3_3 (v := (-1 : Int32)) (by decide) ?_
  refine own_private X0 hx hZ hown (own_w hw 33 rfl) (own_w hw 34 rfl) (own_w hw 1 rfl) (own_w hw 35 rfl) (own_w hw 2 rfl) (own_w hw 36 rfl) (by decide) (add_0 l Z a0 hw [] t aN aS (0 : Int32) p1 (-1 : Int32) ac kN kS h0 n0 Z0 E_t F_size_t F_numbers_t F_attributeCount_t V_aN F_strings_t V_aS O_aN O_aS g_t g_aN g_aS) 0 (Nat.le_of_eq rfl) (by decide) (by decide) (by rw [hml]; rfl) (argsL := [(.int 0), (.int p1), (.int (-1))]) (st := []) E_t (lenOf pd_0 rfl) rfl rfl (by decide) (by decide) e0 hby d3_4 ?_
  intro T6 v6 L6 X6 hQ6
  obtain ⟨bN_6, bS_6, kb_6, kc_6, rfl, Nq6, K6, P6_0, P6_1, P6_2, P6_3, P6_4, P6_5, P6_6, P6_7, P6_8, P6_9, P6_10, P6_11, P6_12⟩ := hQ6
  have N6 := Fr.app N0 Nq6
  have z7 : h0.size ≤ T6.heap.size := K6.1
  have lt8 : T6.heap.size > t := P6_0.lt
  have lt9 : T6.heap.size > aN := P6_2.lt
  have lt10 : T6.heap.size > aS := P6_3.lt
  have lt11 : T6.heap.size > bN_6 := P6_7.lt
  have lt12 : T6.heap.size > bS_6 := P6_8.lt
  refine own_sh (T := T6) 7 #[.val (.ref t), .val .null, .val (.int p1), .val (.int p2), .unset] [(.int 0)] ?_
  refine own_istore X6.here hx hby d3_7 (l' := #[.val (.ref t), .val .null, .val (.int p1), .val (.int p2), .val (.int 0)]) rfl ?_
  refine own_aloadN X6.here hx hby d3_9 rfl rfl ?_
  refine own_getF X6 hx hZ hown (host := "") (Or.inl (own_w hw 16 rfl)) Via.refl rfl P6_11 hby d3_10 ?_
  intro T13 X13 e13
  refine own_iload X13.here hx hby d3_13 rfl ?_
  refine own_bipush X13.here hx hby d3_15 (v := (12 : Int32)) (by decide) ?_
  refine own_iushr X13.here hx hby d3_17 (v := (0 : Int32)) (by decide) ?_
  refine own_aaload X13 hx hZ e13 P6_3 rfl ⟨by decide, by decide⟩ (v := (.ref bS_6)) rfl hby d3_18 ?_
  refine own_iload X13.here hx hby d3_19 rfl ?_
  refine own_sipush X13.here hx hby d3_21 (v := (4095 : Int32)) (by decide) ?_
  refine own_iand X13.here hx hby d3_24 (v := (0 : Int32)) (by decide) ?_
  refine own_aloadN X13.here hx hby d3_25 rfl rfl ?_
  have V15 : Arv Z T6.heap bS_6 kc_6 (.object "java/lang/String") (4096 : Int32) [.null] .null := P6_8.pad (pad_rep [] .null 1)
  refine own_aastore X13 hx hZ e13 V15 rfl rfl (Or.inl rfl) ⟨by decide, by decide⟩ 0 (by decide) (Nat.le_of_ble_eq_true rfl) hby d3_26 N6 (by omega) ?_
  intro T14 h14 lo14 X14 e14 N14 W14 V14 z14
  have V16 : Arv Z h14 bS_6 kc_6 (.object "java/lang/String") (4096 : Int32) [.null] .null := V14
  refine own_aloadN X14.here hx hby d3_27 rfl rfl ?_
  refine own_iload X14.here hx hby d3_28 rfl ?_
  refine own_iconst X14.here hx hby d3_30 (v := (4 : Int32)) (by decide) ?_
  refine own_iloadN X14.here hx hby d3_31 rfl ?_
  have f17 : Fld Z h14 t "com/example/boxwood/boxwood/XmlNodeTable" "numbers" "[[I" (.ref aN) := (P6_10.other W14 (Or.inl (own_nn (by omega))))
  have f18 : Arv Z h14 aN kN (.array .int) (1 : Int32) [(.ref bN_6)] .null := (P6_2.other W14 (own_nn (by omega)))
  have f19 : Arv Z h14 bN_6 kb_6 .int (28672 : Int32) [(.int 0), (.int p1), (.int (-1)), (.int 1), (.int 0), (.int 0), (.int ac)] (.int 0) := (P6_7.other W14 (own_nn (by omega)))
  have z21 : n0 ≤ h14.size := by omega
  have f22 : Exa Z h14 t "com/example/boxwood/boxwood/XmlNodeTable" := (P6_0.wr W14)
  refine own_private X14 hx hZ hown (own_w hw 46 rfl) (own_w hw 47 rfl) (own_w hw 1 rfl) (own_w hw 48 rfl) (own_w hw 2 rfl) (own_w hw 49 rfl) (by decide) (set_0_4_7 l Z a0 hw [] t aN bN_6 p2 kN kb_6 (0 : Int32) p1 (-1 : Int32) (1 : Int32) (0 : Int32) (0 : Int32) ac h14 n0 z21 f17 f18 f19 (by omega)) 0 (Nat.le_of_eq rfl) (by decide) (by decide) (by rw [hml]; rfl) (argsL := [(.int 0), (.int 4), (.int p2)]) (st := []) f22 (lenOf pd_1 rfl) rfl rfl (by decide) (by decide) e14 hby d3_32 ?_
  intro T20 v20 L20 X20 hQ20
  obtain ⟨rfl, Nq20, K20, P20_0⟩ := hQ20
  have N20 := Fr.app N14 Nq20
  have z23 : h14.size ≤ T20.heap.size := K20.1
  have lt24 : T20.heap.size > bN_6 := P20_0.lt
  refine own_sh (T := T20) 35 #[.val (.ref t), .val .null, .val (.int p1), .val (.int p2), .val (.int 0)] [] ?_
  refine own_iload X20.here hx hby d3_35 rfl ?_
  have K25 : Keep h0 T20.heap [t, aN, aS] := ((((Keep.refl h0 [t, aN, aS]).trans K6 (allS (P := fun xq_ => xq_ ∈ [t, aN, aS] ∨ h0.size ≤ xq_) (Or.inl (List.mem_of_getElem? (i := 0) rfl)) (allS (P := fun xq_ => xq_ ∈ [t, aN, aS] ∨ h0.size ≤ xq_) (Or.inl (List.mem_of_getElem? (i := 1) rfl)) (allS (P := fun xq_ => xq_ ∈ [t, aN, aS] ∨ h0.size ≤ xq_) (Or.inl (List.mem_of_getElem? (i := 2) rfl)) all0)))).wr W14 (Or.inr (by omega))).trans K20 (allS (P := fun xq_ => xq_ ∈ [t, aN, aS] ∨ h0.size ≤ xq_) (Or.inr (by omega)) all0))
  have f26 : Exa Z T20.heap t "com/example/boxwood/boxwood/XmlNodeTable" := (f22.keep K20)
  have f27 : Fld Z T20.heap t "com/example/boxwood/boxwood/XmlNodeTable" "size" "I" (.int 1) := ((P6_1.other W14 (Or.inl (own_nn (by omega)))).keep K20 (ninS (own_nn (by omega)) nin0))
  have f28 : Arv Z T20.heap aN kN (.array .int) (1 : Int32) [(.ref bN_6)] .null := (f18.keep K20 (ninS (own_nn (by omega)) nin0))
  have f29 : Arv Z T20.heap aS kS (.array (.object "java/lang/String")) (1 : Int32) [(.ref bS_6)] .null := ((P6_3.other W14 (own_nn (by omega))).keep K20 (ninS (own_nn (by omega)) nin0))
  have f30 : Arv Z T20.heap bS_6 kc_6 (.object "java/lang/String") (4096 : Int32) [.null] .null := (V16.keep K20 (ninS (own_nn (by omega)) nin0))
  have f31 : Fld Z T20.heap t "com/example/boxwood/boxwood/XmlNodeTable" "numbers" "[[I" (.ref aN) := (f17.keep K20 (ninS (own_nn (by omega)) nin0))
  have f32 : Fld Z T20.heap t "com/example/boxwood/boxwood/XmlNodeTable" "strings" "[[Ljava/lang/String;" (.ref aS) := ((P6_11.other W14 (Or.inl (own_nn (by omega)))).keep K20 (ninS (own_nn (by omega)) nin0))
  have f33 : Fld Z T20.heap t "com/example/boxwood/boxwood/XmlNodeTable" "attributeCount" "I" (.int ac) := ((P6_12.other W14 (Or.inl (own_nn (by omega)))).keep K20 (ninS (own_nn (by omega)) nin0))
  obtain ⟨fs, hr, hrun, hended, hW, hsame⟩ := X20.leave (v := some (.int 0)) (fun h => by rw [Bd.returns] at h; cases h)
  refine own_ret (t := T20.setFrames fs) ?_ ⟨_, hrun, hended, _, _, rfl, ?_, ⟨_, rfl⟩, hW, hsame.mono (by decide) (by decide)⟩
  · exact retOut X20 hx Bd.returns rfl (Or.inl ⟨rfl, Or.inl rfl, _, rfl⟩) (hb hby d3_37) hr
  · show Q_start_0n Z t aN aS p1 p2 ac kN kS h0 n0 _ T20.heap _
    exact ⟨bN_6, bS_6, kb_6, kc_6, rfl, N20, K25, f26, f27, f28, f29, (by omega), (by omega), (by first | decide | omega | assumption), P20_0, f30, P6_9, f31, f32, f33⟩
def Q_set_1_4_14 (Z : State) (t : Nat) (aN : Nat) (bN : Nat) (p3 : Int32) (kN : ClassId) (kb : ClassId) (x0 : Int32) (x1 : Int32) (x2 : Int32) (x3 : Int32) (x4 : Int32) (x5 : Int32) (x6 : Int32) (x7 : Int32) (x8 : Int32) (x9 : Int32) (x10 : Int32) (x11 : Int32) (x12 : Int32) (x13 : Int32) (h0 : Heap) (n0 : Nat) (vR : Option Value) (hR : Heap) (LR : List Loc) : Prop := vR = none ∧ Fr n0 LR ∧ Keep h0 hR [bN] ∧ (Arv Z hR bN kb .int (28672 : Int32) [(.int x0), (.int x1), (.int x2), (.int x3), (.int x4), (.int x5), (.int x6), (.int x7), (.int x8), (.int x9), (.int x10), (.int p3), (.int x12), (.int x13)] (.int 0))
set_option maxRecDepth 65536 in
set_option maxHeartbeats 40000000 in
theorem set_1_4_14 (l : Launch) (Z : State) (a0 : Array Value) (hw : ∀ d ∈ tables_1, d.before a0 Z = true) (ws : List Jvm.Cond) (t : Nat) (aN : Nat) (bN : Nat) (p3 : Int32) (kN : ClassId) (kb : ClassId) (x0 : Int32) (x1 : Int32) (x2 : Int32) (x3 : Int32) (x4 : Int32) (x5 : Int32) (x6 : Int32) (x7 : Int32) (x8 : Int32) (x9 : Int32) (x10 : Int32) (x11 : Int32) (x12 : Int32) (x13 : Int32) (h0 : Heap) (n0 : Nat) (Z0 : n0 ≤ h0.size) (F_numbers_t : Fld Z h0 t "com/example/boxwood/boxwood/XmlNodeTable" "numbers" "[[I" (.ref aN)) (V_aN : Arv Z h0 aN kN (.array .int) (1 : Int32) [(.ref bN)] .null) (V_bN : Arv Z h0 bN kb .int (28672 : Int32) [(.int x0), (.int x1), (.int x2), (.int x3), (.int x4), (.int x5), (.int x6), (.int x7), (.int x8), (.int x9), (.int x10), (.int x11), (.int x12), (.int x13)] (.int 0)) (g_bN : n0 ≤ bN) :
    own_M l (⟨"com/example/boxwood/boxwood/XmlNodeTable", "set", "(III)V"⟩ : MethodName) prog_60_method_27_code 4 none ws ({ frames := 0, cells := 0, slots := 0, locals := 0 } : Room) Z #[(.ref t), (.int 1), (.int 4), (.int p3)] h0 (Q_set_1_4_14 Z t aN bN p3 kN kb x0 x1 x2 x3 x4 x5 x6 x7 x8 x9 x10 x11 x12 x13 h0 n0) := by
  refine own_body (own := "com/example/boxwood/boxwood/XmlNodeTable") rfl (plainFor_of_name pn_5) (fun m => ef_set_0_4_7 m t (1 : Int32) (4 : Int32) p3) ?_
  intro p e s m below meth c s₁ Bd hml hZ hh hx hby hown X0 e0
  have N0 := Fr.nil n0
  have lt14 : h0.size > t := F_numbers_t.lt
  have lt15 : h0.size > aN := V_aN.lt
  have lt16 : h0.size > bN := V_bN.lt
  refine own_aloadN X0.here hx hby d5_0 rfl rfl ?_
  refine own_getF X0 hx hZ hown (host := "") (Or.inl (own_w hw 12 rfl)) Via.refl e0 F_numbers_t hby d5_1 ?_
  intro T17 X17 e17
  refine own_iloadN X17.here hx hby d5_4 rfl ?_
  refine own_bipush X17.here hx hby d5_5 (v := (12 : Int32)) (by decide) ?_
  refine own_iushr X17.here hx hby d5_7 (v := (0 : Int32)) (by decide) ?_
  refine own_aaload X17 hx hZ e17 V_aN rfl ⟨by decide, by decide⟩ (v := (.ref bN)) rfl hby d5_8 ?_
  refine own_iloadN X17.here hx hby d5_9 rfl ?_
  refine own_sipush X17.here hx hby d5_10 (v := (4095 : Int32)) (by decide) ?_
  refine own_iand X17.here hx hby d5_13 (v := (1 : Int32)) (by decide) ?_
  refine own_bipush X17.here hx hby d5_14 (v := (7 : Int32)) (by decide) ?_
  refine own_imul X17.here hx hby d5_16 (v := (7 : Int32)) (by decide) ?_
  refine own_iloadN X17.here hx hby d5_17 rfl ?_
  refine own_iadd X17.here hx hby d5_18 (v := (11 : Int32)) (by decide) ?_
  refine own_iloadN X17.here hx hby d5_19 rfl ?_
  refine own_iastore X17 hx hZ e17 V_bN ⟨by decide, by decide⟩ 11 (by decide) (Nat.le_of_ble_eq_true rfl) rfl hby d5_20 N0 g_bN ?_
  intro T18 h18 lo18 X18 e18 N18 W18 V18 z18
  have V19 : Arv Z h18 bN kb .int (28672 : Int32) [(.int x0), (.int x1), (.int x2), (.int x3), (.int x4), (.int x5), (.int x6), (.int x7), (.int x8), (.int x9), (.int x10), (.int p3), (.int x12), (.int x13)] (.int 0) := V18
  have K20 : Keep h0 h18 [bN] := ((Keep.refl h0 [bN]).wr W18 (Or.inl (List.mem_of_getElem? (i := 0) rfl)))
  obtain ⟨fs, hr, hrun, hended, hW, hsame⟩ := X18.leave (v := none) (fun _ => rfl)
  refine own_ret (t := T18.setFrames fs) ?_ ⟨_, hrun, hended, _, _, rfl, ?_, ⟨_, rfl⟩, hW, hsame.mono (by decide) (by decide)⟩
  · exact X18.returnOut hx Bd.returns (hb hby d5_21) hr
  · show Q_set_1_4_14 Z t aN bN p3 kN kb x0 x1 x2 x3 x4 x5 x6 x7 x8 x9 x10 x11 x12 x13 h0 n0 _ T18.heap _
    rw [e18]
    exact ⟨rfl, N18, K20, V19⟩
def Q_start_1n (Z : State) (t : Nat) (aN : Nat) (bN : Nat) (aS : Nat) (bS : Nat) (p1 : Int32) (p2 : Int32) (ac : Int32) (kN : ClassId) (kb : ClassId) (kS : ClassId) (kc : ClassId) (x0 : Int32) (x1 : Int32) (x2 : Int32) (x3 : Int32) (x4 : Int32) (x5 : Int32) (x6 : Int32) (h0 : Heap) (n0 : Nat) (vR : Option Value) (hR : Heap) (LR : List Loc) : Prop := vR = some (.int 1) ∧ Fr n0 LR ∧ Keep h0 hR [t, bN, bS] ∧ (Exa Z hR t "com/example/boxwood/boxwood/XmlNodeTable") ∧ (Fld Z hR t "com/example/boxwood/boxwood/XmlNodeTable" "size" "I" (.int 2)) ∧ (Fld Z hR t "com/example/boxwood/boxwood/XmlNodeTable" "numbers" "[[I" (.ref aN)) ∧ (Fld Z hR t "com/example/boxwood/boxwood/XmlNodeTable" "strings" "[[Ljava/lang/String;" (.ref aS)) ∧ (Fld Z hR t "com/example/boxwood/boxwood/XmlNodeTable" "attributeCount" "I" (.int ac)) ∧ (Arv Z hR bN kb .int (28672 : Int32) [(.int x0), (.int x1), (.int x2), (.int x3), (.int x4), (.int x5), (.int x6), (.int 0), (.int p1), (.int (-1)), (.int 2), (.int p2), (.int 0), (.int ac)] (.int 0)) ∧ (Arv Z hR bS kc (.object "java/lang/String") (4096 : Int32) [.null, .null] .null)
set_option maxRecDepth 65536 in
set_option maxHeartbeats 40000000 in
theorem start_1n (l : Launch) (Z : State) (a0 : Array Value) (hw : ∀ d ∈ tables_1, d.before a0 Z = true) (ws : List Jvm.Cond) (t : Nat) (aN : Nat) (bN : Nat) (aS : Nat) (bS : Nat) (p1 : Int32) (p2 : Int32) (ac : Int32) (kN : ClassId) (kb : ClassId) (kS : ClassId) (kc : ClassId) (x0 : Int32) (x1 : Int32) (x2 : Int32) (x3 : Int32) (x4 : Int32) (x5 : Int32) (x6 : Int32) (h0 : Heap) (n0 : Nat) (Z0 : n0 ≤ h0.size) (E_t : Exa Z h0 t "com/example/boxwood/boxwood/XmlNodeTable") (F_size_t : Fld Z h0 t "com/example/boxwood/boxwood/XmlNodeTable" "size" "I" (.int 1)) (F_numbers_t : Fld Z h0 t "com/example/boxwood/boxwood/XmlNodeTable" "numbers" "[[I" (.ref aN)) (F_attributeCount_t : Fld Z h0 t "com/example/boxwood/boxwood/XmlNodeTable" "attributeCount" "I" (.int ac)) (V_aN : Arv Z h0 aN kN (.array .int) (1 : Int32) [(.ref bN)] .null) (V_bN : Arv Z h0 bN kb .int (28672 : Int32) [(.int x0), (.int x1), (.int x2), (.int x3), (.int x4), (.int x5), (.int x6)] (.int 0)) (F_strings_t : Fld Z h0 t "com/example/boxwood/boxwood/XmlNodeTable" "strings" "[[Ljava/lang/String;" (.ref aS)) (V_aS : Arv Z h0 aS kS (.array (.object "java/lang/String")) (1 : Int32) [(.ref bS)] .null) (V_bS : Arv Z h0 bS kc (.object "java/lang/String") (4096 : Int32) [.null] .null) (O_bS : Ovr Z kc "java/lang/String") (g_t : n0 ≤ t) (g_bN : n0 ≤ bN) (g_bS : n0 ≤ bS) :
    own_M l (⟨"com/example/boxwood/boxwood/XmlNodeTable", "startElement", "(Ljava/lang/String;II)I"⟩ : MethodName) prog_60_method_3_code 5 (some .int) ws ({ frames := 1, cells := 0, slots := 0, locals := 18 } : Room) Z #[(.ref t), .null, (.int p1), (.int p2)] h0 (Q_start_1n Z t aN bN aS bS p1 p2 ac kN kb kS kc x0 x1 x2 x3 x4 x5 x6 h0 n0) := by
  refine own_body (own := "com/example/boxwood/boxwood/XmlNodeTable") rfl (plainFor_of_name pn_3) (fun m => ef_start_0n m t p1 p2) ?_
  intro p e s m below meth c s₁ Bd hml hZ hh hx hby hown X0 e0
  have N0 := Fr.nil n0
  have lt7 : h0.size > t := E_t.lt
  have lt8 : h0.size > aN := V_aN.lt
  have lt9 : h0.size > bN := V_bN.lt
  have lt10 : h0.size > aS := V_aS.lt
  have lt11 : h0.size > bS := V_bS.lt
  refine own_aloadN X0.here hx hby d3_0 rfl rfl ?_
  refine own_iconst X0.here hx hby d3_1 (v := (0 : Int32)) (by decide) ?_
  refine own_iloadN X0.here hx hby d3_2 rfl ?_
  refine own_iconst X0.here hx hby d3_3 (v := (-1 : Int32)) (by decide) ?_
  refine own_private X0 hx hZ hown (own_w hw 33 rfl) (own_w hw 34 rfl) (own_w hw 1 rfl) (own_w hw 35 rfl) (own_w hw 2 rfl) (own_w hw 36 rfl) (by decide) (add_1 l Z a0 hw [] t aN bN (0 : Int32) p1 (-1 : Int32) ac kN kb x0 x1 x2 x3 x4 x5 x6 aS h0 n0 Z0 E_t F_size_t F_numbers_t F_attributeCount_t V_aN V_bN g_t g_bN F_strings_t) 0 (Nat.le_of_eq rfl) (by decide) (by decide) (by rw [hml]; rfl) (argsL := [(.int 0), (.int p1), (.int (-1))]) (st := []) E_t (lenOf pd_0 rfl) rfl rfl (by decide) (by decide) e0 hby d3_4 ?_
  intro T12 v12 L12 X12 hQ12
  obtain ⟨rfl, Nq12, K12, P12_0, P12_1, P12_2, P12_3, P12_4, P12_5⟩ := hQ12
  have N12 := Fr.app N0 Nq12
  have z13 : h0.size ≤ T12.heap.size := K12.1
  have lt14 : T12.heap.size > t := P12_0.lt
  have lt15 : T12.heap.size > bN := P12_4.lt
  refine own_sh (T := T12) 7 #[.val (.ref t), .val .null, .val (.int p1), .val (.int p2), .unset] [(.int 1)] ?_
  refine own_istore X12.here hx hby d3_7 (l' := #[.val (.ref t), .val .null, .val (.int p1), .val (.int p2), .val (.int 1)]) rfl ?_
  refine own_aloadN X12.here hx hby d3_9 rfl rfl ?_
  refine own_getF X12 hx hZ hown (host := "") (Or.inl (own_w hw 16 rfl)) Via.refl rfl P12_5 hby d3_10 ?_
  intro T16 X16 e16
  refine own_iload X16.here hx hby d3_13 rfl ?_
  refine own_bipush X16.here hx hby d3_15 (v := (12 : Int32)) (by decide) ?_
  refine own_iushr X16.here hx hby d3_17 (v := (0 : Int32)) (by decide) ?_
  have f17 : Arv Z T12.heap aS kS (.array (.object "java/lang/String")) (1 : Int32) [(.ref bS)] .null := (V_aS.keep K12 (ninS (Ne.symm (own_ne_oa E_t (own_w hw 1 rfl) V_aS)) (ninS (own_ne_aa V_aS V_bN (by decide)) nin0)))
  refine own_aaload X16 hx hZ e16 f17 rfl ⟨by decide, by decide⟩ (v := (.ref bS)) rfl hby d3_18 ?_
  refine own_iload X16.here hx hby d3_19 rfl ?_
  refine own_sipush X16.here hx hby d3_21 (v := (4095 : Int32)) (by decide) ?_
  refine own_iand X16.here hx hby d3_24 (v := (1 : Int32)) (by decide) ?_
  refine own_aloadN X16.here hx hby d3_25 rfl rfl ?_
  have f18 : Arv Z T12.heap bS kc (.object "java/lang/String") (4096 : Int32) [.null] .null := (V_bS.keep K12 (ninS (Ne.symm (own_ne_oa E_t (own_w hw 1 rfl) V_bS)) (ninS (own_ne_aa V_bS V_bN (by decide)) nin0)))
  have V20 : Arv Z T12.heap bS kc (.object "java/lang/String") (4096 : Int32) [.null, .null] .null := f18.pad (pad_rep [.null] .null 1)
  refine own_aastore X16 hx hZ e16 V20 rfl rfl (Or.inl rfl) ⟨by decide, by decide⟩ 1 (by decide) (Nat.le_of_ble_eq_true rfl) hby d3_26 N12 g_bS ?_
  intro T19 h19 lo19 X19 e19 N19 W19 V19 z19
  have V21 : Arv Z h19 bS kc (.object "java/lang/String") (4096 : Int32) [.null, .null] .null := V19
  refine own_aloadN X19.here hx hby d3_27 rfl rfl ?_
  refine own_iload X19.here hx hby d3_28 rfl ?_
  refine own_iconst X19.here hx hby d3_30 (v := (4 : Int32)) (by decide) ?_
  refine own_iloadN X19.here hx hby d3_31 rfl ?_
  have f22 : Fld Z h19 t "com/example/boxwood/boxwood/XmlNodeTable" "numbers" "[[I" (.ref aN) := (P12_2.other W19 (Or.inl (own_ne_oa E_t (own_w hw 1 rfl) V_bS)))
  have f23 : Arv Z h19 aN kN (.array .int) (1 : Int32) [(.ref bN)] .null := ((V_aN.keep K12 (ninS (Ne.symm (own_ne_oa E_t (own_w hw 1 rfl) V_aN)) (ninS (own_ne_aa V_aN V_bN (by decide)) nin0))).other W19 (own_ne_aa V_aN V_bS (by decide)))
  have f24 : Arv Z h19 bN kb .int (28672 : Int32) [(.int x0), (.int x1), (.int x2), (.int x3), (.int x4), (.int x5), (.int x6), (.int 0), (.int p1), (.int (-1)), (.int 2), (.int 0), (.int 0), (.int ac)] (.int 0) := (P12_4.other W19 (own_ne_aa V_bN V_bS (by decide)))
  have z26 : n0 ≤ h19.size := by omega
  have f27 : Exa Z h19 t "com/example/boxwood/boxwood/XmlNodeTable" := (P12_0.wr W19)
  refine own_private X19 hx hZ hown (own_w hw 46 rfl) (own_w hw 47 rfl) (own_w hw 1 rfl) (own_w hw 48 rfl) (own_w hw 2 rfl) (own_w hw 49 rfl) (by decide) (set_1_4_14 l Z a0 hw [] t aN bN p2 kN kb x0 x1 x2 x3 x4 x5 x6 (0 : Int32) p1 (-1 : Int32) (2 : Int32) (0 : Int32) (0 : Int32) ac h19 n0 z26 f22 f23 f24 g_bN) 0 (Nat.le_of_eq rfl) (by decide) (by decide) (by rw [hml]; rfl) (argsL := [(.int 1), (.int 4), (.int p2)]) (st := []) f27 (lenOf pd_1 rfl) rfl rfl (by decide) (by decide) e19 hby d3_32 ?_
  intro T25 v25 L25 X25 hQ25
  obtain ⟨rfl, Nq25, K25, P25_0⟩ := hQ25
  have N25 := Fr.app N19 Nq25
  have z28 : h19.size ≤ T25.heap.size := K25.1
  have lt29 : T25.heap.size > bN := P25_0.lt
  refine own_sh (T := T25) 35 #[.val (.ref t), .val .null, .val (.int p1), .val (.int p2), .val (.int 1)] [] ?_
  refine own_iload X25.here hx hby d3_35 rfl ?_
  have K30 : Keep h0 T25.heap [t, bN, bS] := ((((Keep.refl h0 [t, bN, bS]).trans K12 (allS (P := fun xq_ => xq_ ∈ [t, bN, bS] ∨ h0.size ≤ xq_) (Or.inl (List.mem_of_getElem? (i := 0) rfl)) (allS (P := fun xq_ => xq_ ∈ [t, bN, bS] ∨ h0.size ≤ xq_) (Or.inl (List.mem_of_getElem? (i := 1) rfl)) all0))).wr W19 (Or.inl (List.mem_of_getElem? (i := 2) rfl))).trans K25 (allS (P := fun xq_ => xq_ ∈ [t, bN, bS] ∨ h0.size ≤ xq_) (Or.inl (List.mem_of_getElem? (i := 1) rfl)) all0))
  have f31 : Exa Z T25.heap t "com/example/boxwood/boxwood/XmlNodeTable" := (f27.keep K25)
  have f32 : Fld Z T25.heap t "com/example/boxwood/boxwood/XmlNodeTable" "size" "I" (.int 2) := ((P12_1.other W19 (Or.inl (own_ne_oa E_t (own_w hw 1 rfl) V_bS))).keep K25 (ninS (own_ne_oa E_t (own_w hw 1 rfl) V_bN) nin0))
  have f33 : Fld Z T25.heap t "com/example/boxwood/boxwood/XmlNodeTable" "numbers" "[[I" (.ref aN) := (f22.keep K25 (ninS (own_ne_oa E_t (own_w hw 1 rfl) V_bN) nin0))
  have f34 : Fld Z T25.heap t "com/example/boxwood/boxwood/XmlNodeTable" "strings" "[[Ljava/lang/String;" (.ref aS) := ((P12_5.other W19 (Or.inl (own_ne_oa E_t (own_w hw 1 rfl) V_bS))).keep K25 (ninS (own_ne_oa E_t (own_w hw 1 rfl) V_bN) nin0))
  have f35 : Fld Z T25.heap t "com/example/boxwood/boxwood/XmlNodeTable" "attributeCount" "I" (.int ac) := ((P12_3.other W19 (Or.inl (own_ne_oa E_t (own_w hw 1 rfl) V_bS))).keep K25 (ninS (own_ne_oa E_t (own_w hw 1 rfl) V_bN) nin0))
  have f36 : Arv Z T25.heap bS kc (.object "java/lang/String") (4096 : Int32) [.null, .null] .null := (V21.keep K25 (ninS (own_ne_aa V_bS V_bN (by decide)) nin0))
  obtain ⟨fs, hr, hrun, hended, hW, hsame⟩ := X25.leave (v := some (.int 1)) (fun h => by rw [Bd.returns] at h; cases h)
  refine own_ret (t := T25.setFrames fs) ?_ ⟨_, hrun, hended, _, _, rfl, ?_, ⟨_, rfl⟩, hW, hsame.mono (by decide) (by decide)⟩
  · exact retOut X25 hx Bd.returns rfl (Or.inl ⟨rfl, Or.inl rfl, _, rfl⟩) (hb hby d3_37) hr
  · show Q_start_1n Z t aN bN aS bS p1 p2 ac kN kb kS kc x0 x1 x2 x3 x4 x5 x6 h0 n0 _ T25.heap _
    exact ⟨rfl, N25, K30, f31, f32, f33, f34, f35, P25_0, f36⟩
theorem ef_verb_2 (m : MethodId) (x0 : Nat) (x1 : Int32) (x2 : Int32) : entryFrame m #[(.ref x0), (.int x1), (.int x2)] 3 = mkF m 0 #[.val (.ref x0), .val (.int x1), .val (.int x2)] [] := by first | (simp [entryFrame, mkF, argsToLocals, Value.category]; done) | rfl
theorem pn_13 : plainName "com/example/boxwood/boxwood/XmlNodeTable" = true := by first | (simp [plainName, overriddenIn]; done) | decide +kernel
theorem d13_0 : decode prog_60_method_9_code 0 = .ok (.aload_n 0, 1) := by decide +kernel
theorem d13_1 : decode prog_60_method_9_code 1 = .ok (.iconst 2, 1) := by decide +kernel
theorem d13_2 : decode prog_60_method_9_code 2 = .ok (.iload_n 1, 1) := by decide +kernel
theorem d13_3 : decode prog_60_method_9_code 3 = .ok (.iload_n 2, 1) := by decide +kernel
theorem d13_4 : decode prog_60_method_9_code 4 = .ok (.invokevirtual 37, 3) := by decide +kernel
theorem d13_7 : decode prog_60_method_9_code 7 = .ok (.pop, 1) := by decide +kernel
theorem d13_8 : decode prog_60_method_9_code 8 = .ok (.return_, 1) := by decide +kernel
def Q_verb_2 (Z : State) (t : Nat) (aN : Nat) (bN : Nat) (p1 : Int32) (p2 : Int32) (ac : Int32) (kN : ClassId) (kb : ClassId) (x0 : Int32) (x1 : Int32) (x2 : Int32) (x3 : Int32) (x4 : Int32) (x5 : Int32) (x6 : Int32) (x7 : Int32) (x8 : Int32) (x9 : Int32) (x10 : Int32) (x11 : Int32) (x12 : Int32) (x13 : Int32) (aS : Nat) (h0 : Heap) (n0 : Nat) (vR : Option Value) (hR : Heap) (LR : List Loc) : Prop := vR = none ∧ Fr n0 LR ∧ Keep h0 hR [t, bN] ∧ (Exa Z hR t "com/example/boxwood/boxwood/XmlNodeTable") ∧ (Fld Z hR t "com/example/boxwood/boxwood/XmlNodeTable" "size" "I" (.int 3)) ∧ (Fld Z hR t "com/example/boxwood/boxwood/XmlNodeTable" "numbers" "[[I" (.ref aN)) ∧ (Fld Z hR t "com/example/boxwood/boxwood/XmlNodeTable" "attributeCount" "I" (.int ac)) ∧ (Arv Z hR bN kb .int (28672 : Int32) [(.int x0), (.int x1), (.int x2), (.int x3), (.int x4), (.int x5), (.int x6), (.int x7), (.int x8), (.int x9), (.int x10), (.int x11), (.int x12), (.int x13), (.int 2), (.int p1), (.int p2), (.int 3), (.int 0), (.int 0), (.int ac)] (.int 0)) ∧ (Fld Z hR t "com/example/boxwood/boxwood/XmlNodeTable" "strings" "[[Ljava/lang/String;" (.ref aS))
set_option maxRecDepth 65536 in
set_option maxHeartbeats 40000000 in
theorem verb_2 (l : Launch) (Z : State) (a0 : Array Value) (hw : ∀ d ∈ tables_1, d.before a0 Z = true) (ws : List Jvm.Cond) (t : Nat) (aN : Nat) (bN : Nat) (p1 : Int32) (p2 : Int32) (ac : Int32) (kN : ClassId) (kb : ClassId) (x0 : Int32) (x1 : Int32) (x2 : Int32) (x3 : Int32) (x4 : Int32) (x5 : Int32) (x6 : Int32) (x7 : Int32) (x8 : Int32) (x9 : Int32) (x10 : Int32) (x11 : Int32) (x12 : Int32) (x13 : Int32) (aS : Nat) (h0 : Heap) (n0 : Nat) (Z0 : n0 ≤ h0.size) (E_t : Exa Z h0 t "com/example/boxwood/boxwood/XmlNodeTable") (F_size_t : Fld Z h0 t "com/example/boxwood/boxwood/XmlNodeTable" "size" "I" (.int 2)) (F_numbers_t : Fld Z h0 t "com/example/boxwood/boxwood/XmlNodeTable" "numbers" "[[I" (.ref aN)) (F_attributeCount_t : Fld Z h0 t "com/example/boxwood/boxwood/XmlNodeTable" "attributeCount" "I" (.int ac)) (V_aN : Arv Z h0 aN kN (.array .int) (1 : Int32) [(.ref bN)] .null) (V_bN : Arv Z h0 bN kb .int (28672 : Int32) [(.int x0), (.int x1), (.int x2), (.int x3), (.int x4), (.int x5), (.int x6), (.int x7), (.int x8), (.int x9), (.int x10), (.int x11), (.int x12), (.int x13)] (.int 0)) (g_t : n0 ≤ t) (g_bN : n0 ≤ bN) (F_strings_t : Fld Z h0 t "com/example/boxwood/boxwood/XmlNodeTable" "strings" "[[Ljava/lang/String;" (.ref aS)) :
    own_M l (⟨"com/example/boxwood/boxwood/XmlNodeTable", "addVerbatim", "(II)V"⟩ : MethodName) prog_60_method_9_code 3 none ws ({ frames := 1, cells := 0, slots := 0, locals := 18 } : Room) Z #[(.ref t), (.int p1), (.int p2)] h0 (Q_verb_2 Z t aN bN p1 p2 ac kN kb x0 x1 x2 x3 x4 x5 x6 x7 x8 x9 x10 x11 x12 x13 aS h0 n0) := by
  refine own_body (own := "com/example/boxwood/boxwood/XmlNodeTable") rfl (plainFor_of_name pn_13) (fun m => ef_verb_2 m t p1 p2) ?_
  intro p e s m below meth c s₁ Bd hml hZ hh hx hby hown X0 e0
  have N0 := Fr.nil n0
  have lt14 : h0.size > t := E_t.lt
  have lt15 : h0.size > aN := V_aN.lt
  have lt16 : h0.size > bN := V_bN.lt
  refine own_aloadN X0.here hx hby d13_0 rfl rfl ?_
  refine own_iconst X0.here hx hby d13_1 (v := (2 : Int32)) (by decide) ?_
  refine own_iloadN X0.here hx hby d13_2 rfl ?_
  refine own_iloadN X0.here hx hby d13_3 rfl ?_
  refine own_private X0 hx hZ hown (own_w hw 33 rfl) (own_w hw 34 rfl) (own_w hw 1 rfl) (own_w hw 35 rfl) (own_w hw 2 rfl) (own_w hw 36 rfl) (by decide) (add_2 l Z a0 hw [] t aN bN (2 : Int32) p1 p2 ac kN kb x0 x1 x2 x3 x4 x5 x6 x7 x8 x9 x10 x11 x12 x13 aS h0 n0 Z0 E_t F_size_t F_numbers_t F_attributeCount_t V_aN V_bN g_t g_bN F_strings_t) 0 (Nat.le_of_eq rfl) (by decide) (by decide) (by rw [hml]; rfl) (argsL := [(.int 2), (.int p1), (.int p2)]) (st := []) E_t (lenOf pd_0 rfl) rfl rfl (by decide) (by decide) e0 hby d13_4 ?_
  intro T17 v17 L17 X17 hQ17
  obtain ⟨rfl, Nq17, K17, P17_0, P17_1, P17_2, P17_3, P17_4, P17_5⟩ := hQ17
  have N17 := Fr.app N0 Nq17
  have z18 : h0.size ≤ T17.heap.size := K17.1
  have lt19 : T17.heap.size > t := P17_0.lt
  have lt20 : T17.heap.size > bN := P17_4.lt
  refine own_sh (T := T17) 7 #[.val (.ref t), .val (.int p1), .val (.int p2)] [(.int 2)] ?_
  refine own_pop X17.here hx hby d13_7 rfl ?_
  have K21 : Keep h0 T17.heap [t, bN] := ((Keep.refl h0 [t, bN]).trans K17 (allS (P := fun xq_ => xq_ ∈ [t, bN] ∨ h0.size ≤ xq_) (Or.inl (List.mem_of_getElem? (i := 0) rfl)) (allS (P := fun xq_ => xq_ ∈ [t, bN] ∨ h0.size ≤ xq_) (Or.inl (List.mem_of_getElem? (i := 1) rfl)) all0)))
  obtain ⟨fs, hr, hrun, hended, hW, hsame⟩ := X17.leave (v := none) (fun _ => rfl)
  refine own_ret (t := T17.setFrames fs) ?_ ⟨_, hrun, hended, _, _, rfl, ?_, ⟨_, rfl⟩, hW, hsame.mono (by decide) (by decide)⟩
  · exact X17.returnOut hx Bd.returns (hb hby d13_8) hr
  · show Q_verb_2 Z t aN bN p1 p2 ac kN kb x0 x1 x2 x3 x4 x5 x6 x7 x8 x9 x10 x11 x12 x13 aS h0 n0 _ T17.heap _
    exact ⟨rfl, N17, K21, P17_0, P17_1, P17_2, P17_3, P17_4, P17_5⟩
theorem ef_endE_0_2 (m : MethodId) (x0 : Nat) (x1 : Int32) (x2 : Int32) (x3 : Int32) : entryFrame m #[(.ref x0), (.int x1), (.int x2), (.int x3)] 6 = mkF m 0 #[.val (.ref x0), .val (.int x1), .val (.int x2), .val (.int x3), .unset, .unset] [] := by first | (simp [entryFrame, mkF, argsToLocals, Value.category]; done) | rfl
theorem pn_6 : plainName "com/example/boxwood/boxwood/XmlNodeTable" = true := by first | (simp [plainName, overriddenIn]; done) | decide +kernel
theorem d6_0 : decode prog_60_method_7_code 0 = .ok (.aload_n 0, 1) := by decide +kernel
theorem d6_1 : decode prog_60_method_7_code 1 = .ok (.getfield 11, 3) := by decide +kernel
theorem d6_4 : decode prog_60_method_7_code 4 = .ok (.iload_n 1, 1) := by decide +kernel
theorem d6_5 : decode prog_60_method_7_code 5 = .ok (.bipush 12, 2) := by decide +kernel
theorem d6_7 : decode prog_60_method_7_code 7 = .ok (.iushr, 1) := by decide +kernel
theorem d6_8 : decode prog_60_method_7_code 8 = .ok (.aaload, 1) := by decide +kernel
theorem d6_9 : decode prog_60_method_7_code 9 = .ok (.astore 4, 2) := by decide +kernel
theorem d6_11 : decode prog_60_method_7_code 11 = .ok (.iload_n 1, 1) := by decide +kernel
theorem d6_12 : decode prog_60_method_7_code 12 = .ok (.sipush 4095, 3) := by decide +kernel
theorem d6_15 : decode prog_60_method_7_code 15 = .ok (.iand, 1) := by decide +kernel
theorem d6_16 : decode prog_60_method_7_code 16 = .ok (.bipush 7, 2) := by decide +kernel
theorem d6_18 : decode prog_60_method_7_code 18 = .ok (.imul, 1) := by decide +kernel
theorem d6_19 : decode prog_60_method_7_code 19 = .ok (.istore 5, 2) := by decide +kernel
theorem d6_21 : decode prog_60_method_7_code 21 = .ok (.aload 4, 2) := by decide +kernel
theorem d6_23 : decode prog_60_method_7_code 23 = .ok (.iload 5, 2) := by decide +kernel
theorem d6_25 : decode prog_60_method_7_code 25 = .ok (.iconst 5, 1) := by decide +kernel
theorem d6_26 : decode prog_60_method_7_code 26 = .ok (.iadd, 1) := by decide +kernel
theorem d6_27 : decode prog_60_method_7_code 27 = .ok (.iload_n 2, 1) := by decide +kernel
theorem d6_28 : decode prog_60_method_7_code 28 = .ok (.iastore, 1) := by decide +kernel
theorem d6_29 : decode prog_60_method_7_code 29 = .ok (.aload 4, 2) := by decide +kernel
theorem d6_31 : decode prog_60_method_7_code 31 = .ok (.iload 5, 2) := by decide +kernel
theorem d6_33 : decode prog_60_method_7_code 33 = .ok (.iconst 2, 1) := by decide +kernel
theorem d6_34 : decode prog_60_method_7_code 34 = .ok (.iadd, 1) := by decide +kernel
theorem d6_35 : decode prog_60_method_7_code 35 = .ok (.iload_n 3, 1) := by decide +kernel
theorem d6_36 : decode prog_60_method_7_code 36 = .ok (.iastore, 1) := by decide +kernel
theorem d6_37 : decode prog_60_method_7_code 37 = .ok (.aload 4, 2) := by decide +kernel
theorem d6_39 : decode prog_60_method_7_code 39 = .ok (.iload 5, 2) := by decide +kernel
theorem d6_41 : decode prog_60_method_7_code 41 = .ok (.iconst 3, 1) := by decide +kernel
theorem d6_42 : decode prog_60_method_7_code 42 = .ok (.iadd, 1) := by decide +kernel
theorem d6_43 : decode prog_60_method_7_code 43 = .ok (.aload_n 0, 1) := by decide +kernel
theorem d6_44 : decode prog_60_method_7_code 44 = .ok (.getfield 53, 3) := by decide +kernel
theorem d6_47 : decode prog_60_method_7_code 47 = .ok (.iastore, 1) := by decide +kernel
theorem d6_48 : decode prog_60_method_7_code 48 = .ok (.return_, 1) := by decide +kernel
def Q_endE_0_2 (Z : State) (t : Nat) (aN : Nat) (bN : Nat) (p1 : Int32) (p2 : Int32) (ac : Int32) (kN : ClassId) (kb : ClassId) (x0 : Int32) (x1 : Int32) (x2 : Int32) (x3 : Int32) (x4 : Int32) (x5 : Int32) (x6 : Int32) (x7 : Int32) (x8 : Int32) (x9 : Int32) (x10 : Int32) (x11 : Int32) (x12 : Int32) (x13 : Int32) (h0 : Heap) (n0 : Nat) (vR : Option Value) (hR : Heap) (LR : List Loc) : Prop := vR = none ∧ Fr n0 LR ∧ Keep h0 hR [bN] ∧ (Arv Z hR bN kb .int (28672 : Int32) [(.int x0), (.int x1), (.int p2), (.int 2), (.int x4), (.int p1), (.int x6), (.int x7), (.int x8), (.int x9), (.int x10), (.int x11), (.int x12), (.int x13)] (.int 0))
set_option maxRecDepth 65536 in
set_option maxHeartbeats 40000000 in
theorem endE_0_2 (l : Launch) (Z : State) (a0 : Array Value) (hw : ∀ d ∈ tables_1, d.before a0 Z = true) (ws : List Jvm.Cond) (t : Nat) (aN : Nat) (bN : Nat) (p1 : Int32) (p2 : Int32) (ac : Int32) (kN : ClassId) (kb : ClassId) (x0 : Int32) (x1 : Int32) (x2 : Int32) (x3 : Int32) (x4 : Int32) (x5 : Int32) (x6 : Int32) (x7 : Int32) (x8 : Int32) (x9 : Int32) (x10 : Int32) (x11 : Int32) (x12 : Int32) (x13 : Int32) (h0 : Heap) (n0 : Nat) (Z0 : n0 ≤ h0.size) (E_t : Exa Z h0 t "com/example/boxwood/boxwood/XmlNodeTable") (F_size_t : Fld Z h0 t "com/example/boxwood/boxwood/XmlNodeTable" "size" "I" (.int 2)) (F_numbers_t : Fld Z h0 t "com/example/boxwood/boxwood/XmlNodeTable" "numbers" "[[I" (.ref aN)) (F_attributeCount_t : Fld Z h0 t "com/example/boxwood/boxwood/XmlNodeTable" "attributeCount" "I" (.int ac)) (V_aN : Arv Z h0 aN kN (.array .int) (1 : Int32) [(.ref bN)] .null) (V_bN : Arv Z h0 bN kb .int (28672 : Int32) [(.int x0), (.int x1), (.int x2), (.int x3), (.int x4), (.int x5), (.int x6), (.int x7), (.int x8), (.int x9), (.int x10), (.int x11), (.int x12), (.int x13)] (.int 0)) (g_bN : n0 ≤ bN) :
    own_M l (⟨"com/example/boxwood/boxwood/XmlNodeTable", "endElement", "(III)V"⟩ : MethodName) prog_60_method_7_code 6 none ws ({ frames := 0, cells := 0, slots := 0, locals := 0 } : Room) Z #[(.ref t), (.int 0), (.int p1), (.int p2)] h0 (Q_endE_0_2 Z t aN bN p1 p2 ac kN kb x0 x1 x2 x3 x4 x5 x6 x7 x8 x9 x10 x11 x12 x13 h0 n0) := by
  refine own_body (own := "com/example/boxwood/boxwood/XmlNodeTable") rfl (plainFor_of_name pn_6) (fun m => ef_endE_0_2 m t (0 : Int32) p1 p2) ?_
  intro p e s m below meth c s₁ Bd hml hZ hh hx hby hown X0 e0
  have N0 := Fr.nil n0
  have lt14 : h0.size > t := E_t.lt
  have lt15 : h0.size > aN := V_aN.lt
  have lt16 : h0.size > bN := V_bN.lt
  refine own_aloadN X0.here hx hby d6_0 rfl rfl ?_
  refine own_getF X0 hx hZ hown (host := "") (Or.inl (own_w hw 12 rfl)) Via.refl e0 F_numbers_t hby d6_1 ?_
  intro T17 X17 e17
  refine own_iloadN X17.here hx hby d6_4 rfl ?_
  refine own_bipush X17.here hx hby d6_5 (v := (12 : Int32)) (by decide) ?_
  refine own_iushr X17.here hx hby d6_7 (v := (0 : Int32)) (by decide) ?_
  refine own_aaload X17 hx hZ e17 V_aN rfl ⟨by decide, by decide⟩ (v := (.ref bN)) rfl hby d6_8 ?_
  refine own_astore X17.here hx hby d6_9 rfl (l' := #[.val (.ref t), .val (.int 0), .val (.int p1), .val (.int p2), .val (.ref bN), .unset]) rfl ?_
  refine own_iloadN X17.here hx hby d6_11 rfl ?_
  refine own_sipush X17.here hx hby d6_12 (v := (4095 : Int32)) (by decide) ?_
  refine own_iand X17.here hx hby d6_15 (v := (0 : Int32)) (by decide) ?_
  refine own_bipush X17.here hx hby d6_16 (v := (7 : Int32)) (by decide) ?_
  refine own_imul X17.here hx hby d6_18 (v := (0 : Int32)) (by decide) ?_
  refine own_istore X17.here hx hby d6_19 (l' := #[.val (.ref t), .val (.int 0), .val (.int p1), .val (.int p2), .val (.ref bN), .val (.int 0)]) rfl ?_
  refine own_aload X17.here hx hby d6_21 rfl rfl ?_
  refine own_iload X17.here hx hby d6_23 rfl ?_
  refine own_iconst X17.here hx hby d6_25 (v := (5 : Int32)) (by decide) ?_
  refine own_iadd X17.here hx hby d6_26 (v := (5 : Int32)) (by decide) ?_
  refine own_iloadN X17.here hx hby d6_27 rfl ?_
  refine own_iastore X17 hx hZ e17 V_bN ⟨by decide, by decide⟩ 5 (by decide) (Nat.le_of_ble_eq_true rfl) rfl hby d6_28 N0 g_bN ?_
  intro T18 h18 lo18 X18 e18 N18 W18 V18 z18
  have V19 : Arv Z h18 bN kb .int (28672 : Int32) [(.int x0), (.int x1), (.int x2), (.int x3), (.int x4), (.int p1), (.int x6), (.int x7), (.int x8), (.int x9), (.int x10), (.int x11), (.int x12), (.int x13)] (.int 0) := V18
  refine own_aload X18.here hx hby d6_29 rfl rfl ?_
  refine own_iload X18.here hx hby d6_31 rfl ?_
  refine own_iconst X18.here hx hby d6_33 (v := (2 : Int32)) (by decide) ?_
  refine own_iadd X18.here hx hby d6_34 (v := (2 : Int32)) (by decide) ?_
  refine own_iloadN X18.here hx hby d6_35 rfl ?_
  refine own_iastore X18 hx hZ e18 V19 ⟨by decide, by decide⟩ 2 (by decide) (Nat.le_of_ble_eq_true rfl) rfl hby d6_36 N18 g_bN ?_
  intro T20 h20 lo20 X20 e20 N20 W20 V20 z20
  have V21 : Arv Z h20 bN kb .int (28672 : Int32) [(.int x0), (.int x1), (.int p2), (.int x3), (.int x4), (.int p1), (.int x6), (.int x7), (.int x8), (.int x9), (.int x10), (.int x11), (.int x12), (.int x13)] (.int 0) := V20
  refine own_aload X20.here hx hby d6_37 rfl rfl ?_
  refine own_iload X20.here hx hby d6_39 rfl ?_
  refine own_iconst X20.here hx hby d6_41 (v := (3 : Int32)) (by decide) ?_
  refine own_iadd X20.here hx hby d6_42 (v := (3 : Int32)) (by decide) ?_
  refine own_aloadN X20.here hx hby d6_43 rfl rfl ?_
  have f22 : Fld Z h20 t "com/example/boxwood/boxwood/XmlNodeTable" "size" "I" (.int 2) := ((F_size_t.other W18 (Or.inl (own_ne_oa E_t (own_w hw 1 rfl) V_bN))).other W20 (Or.inl (own_ne_oa E_t (own_w hw 1 rfl) V_bN)))
  refine own_getF X20 hx hZ hown (host := "") (Or.inl (own_w hw 37 rfl)) Via.refl e20 f22 hby d6_44 ?_
  intro T23 X23 e23
  refine own_iastore X23 hx hZ e23 V21 ⟨by decide, by decide⟩ 3 (by decide) (Nat.le_of_ble_eq_true rfl) rfl hby d6_47 N20 g_bN ?_
  intro T24 h24 lo24 X24 e24 N24 W24 V24 z24
  have V25 : Arv Z h24 bN kb .int (28672 : Int32) [(.int x0), (.int x1), (.int p2), (.int 2), (.int x4), (.int p1), (.int x6), (.int x7), (.int x8), (.int x9), (.int x10), (.int x11), (.int x12), (.int x13)] (.int 0) := V24
  have K26 : Keep h0 h24 [bN] := ((((Keep.refl h0 [bN]).wr W18 (Or.inl (List.mem_of_getElem? (i := 0) rfl))).wr W20 (Or.inl (List.mem_of_getElem? (i := 0) rfl))).wr W24 (Or.inl (List.mem_of_getElem? (i := 0) rfl)))
  obtain ⟨fs, hr, hrun, hended, hW, hsame⟩ := X24.leave (v := none) (fun _ => rfl)
  refine own_ret (t := T24.setFrames fs) ?_ ⟨_, hrun, hended, _, _, rfl, ?_, ⟨_, rfl⟩, hW, hsame.mono (by decide) (by decide)⟩
  · exact X24.returnOut hx Bd.returns (hb hby d6_48) hr
  · show Q_endE_0_2 Z t aN bN p1 p2 ac kN kb x0 x1 x2 x3 x4 x5 x6 x7 x8 x9 x10 x11 x12 x13 h0 n0 _ T24.heap _
    rw [e24]
    exact ⟨rfl, N24, K26, V25⟩
theorem ef_get_0_5_14 (m : MethodId) (x0 : Nat) (x1 : Int32) (x2 : Int32) : entryFrame m #[(.ref x0), (.int x1), (.int x2)] 3 = mkF m 0 #[.val (.ref x0), .val (.int x1), .val (.int x2)] [] := by first | (simp [entryFrame, mkF, argsToLocals, Value.category]; done) | rfl
theorem pn_8 : plainName "com/example/boxwood/boxwood/XmlNodeTable" = true := by first | (simp [plainName, overriddenIn]; done) | decide +kernel
theorem d8_0 : decode prog_60_method_26_code 0 = .ok (.aload_n 0, 1) := by decide +kernel
theorem d8_1 : decode prog_60_method_26_code 1 = .ok (.getfield 11, 3) := by decide +kernel
theorem d8_4 : decode prog_60_method_26_code 4 = .ok (.iload_n 1, 1) := by decide +kernel
theorem d8_5 : decode prog_60_method_26_code 5 = .ok (.bipush 12, 2) := by decide +kernel
theorem d8_7 : decode prog_60_method_26_code 7 = .ok (.iushr, 1) := by decide +kernel
theorem d8_8 : decode prog_60_method_26_code 8 = .ok (.aaload, 1) := by decide +kernel
theorem d8_9 : decode prog_60_method_26_code 9 = .ok (.iload_n 1, 1) := by decide +kernel
theorem d8_10 : decode prog_60_method_26_code 10 = .ok (.sipush 4095, 3) := by decide +kernel
theorem d8_13 : decode prog_60_method_26_code 13 = .ok (.iand, 1) := by decide +kernel
theorem d8_14 : decode prog_60_method_26_code 14 = .ok (.bipush 7, 2) := by decide +kernel
theorem d8_16 : decode prog_60_method_26_code 16 = .ok (.imul, 1) := by decide +kernel
theorem d8_17 : decode prog_60_method_26_code 17 = .ok (.iload_n 2, 1) := by decide +kernel
theorem d8_18 : decode prog_60_method_26_code 18 = .ok (.iadd, 1) := by decide +kernel
theorem d8_19 : decode prog_60_method_26_code 19 = .ok (.iaload, 1) := by decide +kernel
theorem d8_20 : decode prog_60_method_26_code 20 = .ok (.ireturn, 1) := by decide +kernel
def Q_get_0_5_14 (Z : State) (t : Nat) (aN : Nat) (bN : Nat) (kN : ClassId) (kb : ClassId) (x0 : Int32) (x1 : Int32) (x2 : Int32) (x3 : Int32) (x4 : Int32) (x5 : Int32) (x6 : Int32) (x7 : Int32) (x8 : Int32) (x9 : Int32) (x10 : Int32) (x11 : Int32) (x12 : Int32) (x13 : Int32) (h0 : Heap) (n0 : Nat) (vR : Option Value) (hR : Heap) (LR : List Loc) : Prop := vR = some (.int x5) ∧ Fr n0 LR ∧ hR = h0
set_option maxRecDepth 65536 in
set_option maxHeartbeats 40000000 in
theorem get_0_5_14 (l : Launch) (Z : State) (a0 : Array Value) (hw : ∀ d ∈ tables_1, d.before a0 Z = true) (ws : List Jvm.Cond) (t : Nat) (aN : Nat) (bN : Nat) (kN : ClassId) (kb : ClassId) (x0 : Int32) (x1 : Int32) (x2 : Int32) (x3 : Int32) (x4 : Int32) (x5 : Int32) (x6 : Int32) (x7 : Int32) (x8 : Int32) (x9 : Int32) (x10 : Int32) (x11 : Int32) (x12 : Int32) (x13 : Int32) (h0 : Heap) (n0 : Nat) (Z0 : n0 ≤ h0.size) (F_numbers_t : Fld Z h0 t "com/example/boxwood/boxwood/XmlNodeTable" "numbers" "[[I" (.ref aN)) (V_aN : Arv Z h0 aN kN (.array .int) (1 : Int32) [(.ref bN)] .null) (V_bN : Arv Z h0 bN kb .int (28672 : Int32) [(.int x0), (.int x1), (.int x2), (.int x3), (.int x4), (.int x5), (.int x6), (.int x7), (.int x8), (.int x9), (.int x10), (.int x11), (.int x12), (.int x13)] (.int 0)) :
    own_M l (⟨"com/example/boxwood/boxwood/XmlNodeTable", "get", "(II)I"⟩ : MethodName) prog_60_method_26_code 3 (some .int) ws ({ frames := 0, cells := 0, slots := 0, locals := 0 } : Room) Z #[(.ref t), (.int 0), (.int 5)] h0 (Q_get_0_5_14 Z t aN bN kN kb x0 x1 x2 x3 x4 x5 x6 x7 x8 x9 x10 x11 x12 x13 h0 n0) := by
  refine own_body (own := "com/example/boxwood/boxwood/XmlNodeTable") rfl (plainFor_of_name pn_8) (fun m => ef_get_0_5_14 m t (0 : Int32) (5 : Int32)) ?_
  intro p e s m below meth c s₁ Bd hml hZ hh hx hby hown X0 e0
  have N0 := Fr.nil n0
  have lt14 : h0.size > t := F_numbers_t.lt
  have lt15 : h0.size > aN := V_aN.lt
  have lt16 : h0.size > bN := V_bN.lt
  refine own_aloadN X0.here hx hby d8_0 rfl rfl ?_
  refine own_getF X0 hx hZ hown (host := "") (Or.inl (own_w hw 12 rfl)) Via.refl e0 F_numbers_t hby d8_1 ?_
  intro T17 X17 e17
  refine own_iloadN X17.here hx hby d8_4 rfl ?_
  refine own_bipush X17.here hx hby d8_5 (v := (12 : Int32)) (by decide) ?_
  refine own_iushr X17.here hx hby d8_7 (v := (0 : Int32)) (by decide) ?_
  refine own_aaload X17 hx hZ e17 V_aN rfl ⟨by decide, by decide⟩ (v := (.ref bN)) rfl hby d8_8 ?_
  refine own_iloadN X17.here hx hby d8_9 rfl ?_
  refine own_sipush X17.here hx hby d8_10 (v := (4095 : Int32)) (by decide) ?_
  refine own_iand X17.here hx hby d8_13 (v := (0 : Int32)) (by decide) ?_
  refine own_bipush X17.here hx hby d8_14 (v := (7 : Int32)) (by decide) ?_
  refine own_imul X17.here hx hby d8_16 (v := (0 : Int32)) (by decide) ?_
  refine own_iloadN X17.here hx hby d8_17 rfl ?_
  refine own_iadd X17.here hx hby d8_18 (v := (5 : Int32)) (by decide) ?_
  refine own_iaload X17 hx hZ e17 V_bN ⟨by decide, by decide⟩ (v := (.int x5)) rfl hby d8_19 ?_
  obtain ⟨fs, hr, hrun, hended, hW, hsame⟩ := X17.leave (v := some (.int x5)) (fun h => by rw [Bd.returns] at h; cases h)
  refine own_ret (t := T17.setFrames fs) ?_ ⟨_, hrun, hended, _, _, rfl, ?_, ⟨_, rfl⟩, hW, hsame.mono (by decide) (by decide)⟩
  · exact retOut X17 hx Bd.returns rfl (Or.inl ⟨rfl, Or.inl rfl, _, rfl⟩) (hb hby d8_20) hr
  · show Q_get_0_5_14 Z t aN bN kN kb x0 x1 x2 x3 x4 x5 x6 x7 x8 x9 x10 x11 x12 x13 h0 n0 _ T17.heap _
    rw [e17]
    exact ⟨rfl, N0, rfl⟩
theorem ef_contentEnd_0_14 (m : MethodId) (x0 : Nat) (x1 : Int32) : entryFrame m #[(.ref x0), (.int x1)] 2 = mkF m 0 #[.val (.ref x0), .val (.int x1)] [] := by first | (simp [entryFrame, mkF, argsToLocals, Value.category]; done) | rfl
theorem pn_7 : plainName "com/example/boxwood/boxwood/XmlNodeTable" = true := by first | (simp [plainName, overriddenIn]; done) | decide +kernel
theorem d7_0 : decode prog_60_method_15_code 0 = .ok (.aload_n 0, 1) := by decide +kernel
theorem d7_1 : decode prog_60_method_15_code 1 = .ok (.iload_n 1, 1) := by decide +kernel
theorem d7_2 : decode prog_60_method_15_code 2 = .ok (.iconst 5, 1) := by decide +kernel
theorem d7_3 : decode prog_60_method_15_code 3 = .ok (.invokevirtual 49, 3) := by decide +kernel
theorem pd_2 : parseMethodDescriptor "(II)I" = some ⟨[.int, .int], some .int⟩ := by decide +kernel
theorem d7_6 : decode prog_60_method_15_code 6 = .ok (.ireturn, 1) := by decide +kernel
def Q_contentEnd_0_14 (Z : State) (t : Nat) (aN : Nat) (bN : Nat) (kN : ClassId) (kb : ClassId) (x0 : Int32) (x1 : Int32) (x2 : Int32) (x3 : Int32) (x4 : Int32) (x5 : Int32) (x6 : Int32) (x7 : Int32) (x8 : Int32) (x9 : Int32) (x10 : Int32) (x11 : Int32) (x12 : Int32) (x13 : Int32) (h0 : Heap) (n0 : Nat) (vR : Option Value) (hR : Heap) (LR : List Loc) : Prop := vR = some (.int x5) ∧ Fr n0 LR ∧ hR = h0
set_option maxRecDepth 65536 in
set_option maxHeartbeats 40000000 in
theorem contentEnd_0_14 (l : Launch) (Z : State) (a0 : Array Value) (hw : ∀ d ∈ tables_1, d.before a0 Z = true) (ws : List Jvm.Cond) (t : Nat) (aN : Nat) (bN : Nat) (kN : ClassId) (kb : ClassId) (x0 : Int32) (x1 : Int32) (x2 : Int32) (x3 : Int32) (x4 : Int32) (x5 : Int32) (x6 : Int32) (x7 : Int32) (x8 : Int32) (x9 : Int32) (x10 : Int32) (x11 : Int32) (x12 : Int32) (x13 : Int32) (h0 : Heap) (n0 : Nat) (Z0 : n0 ≤ h0.size) (E_t : Exa Z h0 t "com/example/boxwood/boxwood/XmlNodeTable") (F_numbers_t : Fld Z h0 t "com/example/boxwood/boxwood/XmlNodeTable" "numbers" "[[I" (.ref aN)) (V_aN : Arv Z h0 aN kN (.array .int) (1 : Int32) [(.ref bN)] .null) (V_bN : Arv Z h0 bN kb .int (28672 : Int32) [(.int x0), (.int x1), (.int x2), (.int x3), (.int x4), (.int x5), (.int x6), (.int x7), (.int x8), (.int x9), (.int x10), (.int x11), (.int x12), (.int x13)] (.int 0)) :
    own_M l (⟨"com/example/boxwood/boxwood/XmlNodeTable", "contentEnd", "(I)I"⟩ : MethodName) prog_60_method_15_code 2 (some .int) ws ({ frames := 1, cells := 0, slots := 0, locals := 14 } : Room) Z #[(.ref t), (.int 0)] h0 (Q_contentEnd_0_14 Z t aN bN kN kb x0 x1 x2 x3 x4 x5 x6 x7 x8 x9 x10 x11 x12 x13 h0 n0) := by
  refine own_body (own := "com/example/boxwood/boxwood/XmlNodeTable") rfl (plainFor_of_name pn_7) (fun m => ef_contentEnd_0_14 m t (0 : Int32)) ?_
  intro p e s m below meth c s₁ Bd hml hZ hh hx hby hown X0 e0
  have N0 := Fr.nil n0
  have lt14 : h0.size > t := E_t.lt
  have lt15 : h0.size > aN := V_aN.lt
  have lt16 : h0.size > bN := V_bN.lt
  refine own_aloadN X0.here hx hby d7_0 rfl rfl ?_
  refine own_iloadN X0.here hx hby d7_1 rfl ?_
  refine own_iconst X0.here hx hby d7_2 (v := (5 : Int32)) (by decide) ?_
  refine own_private X0 hx hZ hown (own_w hw 60 rfl) (own_w hw 61 rfl) (own_w hw 1 rfl) (own_w hw 62 rfl) (own_w hw 2 rfl) (own_w hw 63 rfl) (by decide) (get_0_5_14 l Z a0 hw [] t aN bN kN kb x0 x1 x2 x3 x4 x5 x6 x7 x8 x9 x10 x11 x12 x13 h0 n0 Z0 F_numbers_t V_aN V_bN) 0 (Nat.le_of_eq rfl) (by decide) (by decide) (by rw [hml]; rfl) (argsL := [(.int 0), (.int 5)]) (st := []) E_t (lenOf pd_2 rfl) rfl rfl (by decide) (by decide) e0 hby d7_3 ?_
  intro T17 v17 L17 X17 hQ17
  obtain ⟨rfl, Nq17, eh17⟩ := hQ17
  have N17 := Fr.app N0 Nq17
  refine own_sh (T := T17) 6 #[.val (.ref t), .val (.int 0)] [(.int x5)] ?_
  obtain ⟨fs, hr, hrun, hended, hW, hsame⟩ := X17.leave (v := some (.int x5)) (fun h => by rw [Bd.returns] at h; cases h)
  refine own_ret (t := T17.setFrames fs) ?_ ⟨_, hrun, hended, _, _, rfl, ?_, ⟨_, rfl⟩, hW, hsame.mono (by decide) (by decide)⟩
  · exact retOut X17 hx Bd.returns rfl (Or.inl ⟨rfl, Or.inl rfl, _, rfl⟩) (hb hby d7_6) hr
  · show Q_contentEnd_0_14 Z t aN bN kN kb x0 x1 x2 x3 x4 x5 x6 x7 x8 x9 x10 x11 x12 x13 h0 n0 _ T17.heap _
    rw [eh17]
    exact ⟨rfl, N17, rfl⟩
def Q_get_0_2_14 (Z : State) (t : Nat) (aN : Nat) (bN : Nat) (kN : ClassId) (kb : ClassId) (x0 : Int32) (x1 : Int32) (x2 : Int32) (x3 : Int32) (x4 : Int32) (x5 : Int32) (x6 : Int32) (x7 : Int32) (x8 : Int32) (x9 : Int32) (x10 : Int32) (x11 : Int32) (x12 : Int32) (x13 : Int32) (h0 : Heap) (n0 : Nat) (vR : Option Value) (hR : Heap) (LR : List Loc) : Prop := vR = some (.int x2) ∧ Fr n0 LR ∧ hR = h0
set_option maxRecDepth 65536 in
set_option maxHeartbeats 40000000 in
theorem get_0_2_14 (l : Launch) (Z : State) (a0 : Array Value) (hw : ∀ d ∈ tables_1, d.before a0 Z = true) (ws : List Jvm.Cond) (t : Nat) (aN : Nat) (bN : Nat) (kN : ClassId) (kb : ClassId) (x0 : Int32) (x1 : Int32) (x2 : Int32) (x3 : Int32) (x4 : Int32) (x5 : Int32) (x6 : Int32) (x7 : Int32) (x8 : Int32) (x9 : Int32) (x10 : Int32) (x11 : Int32) (x12 : Int32) (x13 : Int32) (h0 : Heap) (n0 : Nat) (Z0 : n0 ≤ h0.size) (F_numbers_t : Fld Z h0 t "com/example/boxwood/boxwood/XmlNodeTable" "numbers" "[[I" (.ref aN)) (V_aN : Arv Z h0 aN kN (.array .int) (1 : Int32) [(.ref bN)] .null) (V_bN : Arv Z h0 bN kb .int (28672 : Int32) [(.int x0), (.int x1), (.int x2), (.int x3), (.int x4), (.int x5), (.int x6), (.int x7), (.int x8), (.int x9), (.int x10), (.int x11), (.int x12), (.int x13)] (.int 0)) :
    own_M l (⟨"com/example/boxwood/boxwood/XmlNodeTable", "get", "(II)I"⟩ : MethodName) prog_60_method_26_code 3 (some .int) ws ({ frames := 0, cells := 0, slots := 0, locals := 0 } : Room) Z #[(.ref t), (.int 0), (.int 2)] h0 (Q_get_0_2_14 Z t aN bN kN kb x0 x1 x2 x3 x4 x5 x6 x7 x8 x9 x10 x11 x12 x13 h0 n0) := by
  refine own_body (own := "com/example/boxwood/boxwood/XmlNodeTable") rfl (plainFor_of_name pn_8) (fun m => ef_get_0_5_14 m t (0 : Int32) (2 : Int32)) ?_
  intro p e s m below meth c s₁ Bd hml hZ hh hx hby hown X0 e0
  have N0 := Fr.nil n0
  have lt14 : h0.size > t := F_numbers_t.lt
  have lt15 : h0.size > aN := V_aN.lt
  have lt16 : h0.size > bN := V_bN.lt
  refine own_aloadN X0.here hx hby d8_0 rfl rfl ?_
  refine own_getF X0 hx hZ hown (host := "") (Or.inl (own_w hw 12 rfl)) Via.refl e0 F_numbers_t hby d8_1 ?_
  intro T17 X17 e17
  refine own_iloadN X17.here hx hby d8_4 rfl ?_
  refine own_bipush X17.here hx hby d8_5 (v := (12 : Int32)) (by decide) ?_
  refine own_iushr X17.here hx hby d8_7 (v := (0 : Int32)) (by decide) ?_
  refine own_aaload X17 hx hZ e17 V_aN rfl ⟨by decide, by decide⟩ (v := (.ref bN)) rfl hby d8_8 ?_
  refine own_iloadN X17.here hx hby d8_9 rfl ?_
  refine own_sipush X17.here hx hby d8_10 (v := (4095 : Int32)) (by decide) ?_
  refine own_iand X17.here hx hby d8_13 (v := (0 : Int32)) (by decide) ?_
  refine own_bipush X17.here hx hby d8_14 (v := (7 : Int32)) (by decide) ?_
  refine own_imul X17.here hx hby d8_16 (v := (0 : Int32)) (by decide) ?_
  refine own_iloadN X17.here hx hby d8_17 rfl ?_
  refine own_iadd X17.here hx hby d8_18 (v := (2 : Int32)) (by decide) ?_
  refine own_iaload X17 hx hZ e17 V_bN ⟨by decide, by decide⟩ (v := (.int x2)) rfl hby d8_19 ?_
  obtain ⟨fs, hr, hrun, hended, hW, hsame⟩ := X17.leave (v := some (.int x2)) (fun h => by rw [Bd.returns] at h; cases h)
  refine own_ret (t := T17.setFrames fs) ?_ ⟨_, hrun, hended, _, _, rfl, ?_, ⟨_, rfl⟩, hW, hsame.mono (by decide) (by decide)⟩
  · exact retOut X17 hx Bd.returns rfl (Or.inl ⟨rfl, Or.inl rfl, _, rfl⟩) (hb hby d8_20) hr
  · show Q_get_0_2_14 Z t aN bN kN kb x0 x1 x2 x3 x4 x5 x6 x7 x8 x9 x10 x11 x12 x13 h0 n0 _ T17.heap _
    rw [e17]
    exact ⟨rfl, N0, rfl⟩
theorem ef_end_0_14 (m : MethodId) (x0 : Nat) (x1 : Int32) : entryFrame m #[(.ref x0), (.int x1)] 2 = mkF m 0 #[.val (.ref x0), .val (.int x1)] [] := by first | (simp [entryFrame, mkF, argsToLocals, Value.category]; done) | rfl
theorem pn_9 : plainName "com/example/boxwood/boxwood/XmlNodeTable" = true := by first | (simp [plainName, overriddenIn]; done) | decide +kernel
theorem d9_0 : decode prog_60_method_12_code 0 = .ok (.aload_n 0, 1) := by decide +kernel
theorem d9_1 : decode prog_60_method_12_code 1 = .ok (.iload_n 1, 1) := by decide +kernel
theorem d9_2 : decode prog_60_method_12_code 2 = .ok (.iconst 2, 1) := by decide +kernel
theorem d9_3 : decode prog_60_method_12_code 3 = .ok (.invokevirtual 49, 3) := by decide +kernel
theorem d9_6 : decode prog_60_method_12_code 6 = .ok (.ireturn, 1) := by decide +kernel
def Q_end_0_14 (Z : State) (t : Nat) (aN : Nat) (bN : Nat) (kN : ClassId) (kb : ClassId) (x0 : Int32) (x1 : Int32) (x2 : Int32) (x3 : Int32) (x4 : Int32) (x5 : Int32) (x6 : Int32) (x7 : Int32) (x8 : Int32) (x9 : Int32) (x10 : Int32) (x11 : Int32) (x12 : Int32) (x13 : Int32) (h0 : Heap) (n0 : Nat) (vR : Option Value) (hR : Heap) (LR : List Loc) : Prop := vR = some (.int x2) ∧ Fr n0 LR ∧ hR = h0
set_option maxRecDepth 65536 in
set_option maxHeartbeats 40000000 in
theorem end_0_14 (l : Launch) (Z : State) (a0 : Array Value) (hw : ∀ d ∈ tables_1, d.before a0 Z = true) (ws : List Jvm.Cond) (t : Nat) (aN : Nat) (bN : Nat) (kN : ClassId) (kb : ClassId) (x0 : Int32) (x1 : Int32) (x2 : Int32) (x3 : Int32) (x4 : Int32) (x5 : Int32) (x6 : Int32) (x7 : Int32) (x8 : Int32) (x9 : Int32) (x10 : Int32) (x11 : Int32) (x12 : Int32) (x13 : Int32) (h0 : Heap) (n0 : Nat) (Z0 : n0 ≤ h0.size) (E_t : Exa Z h0 t "com/example/boxwood/boxwood/XmlNodeTable") (F_numbers_t : Fld Z h0 t "com/example/boxwood/boxwood/XmlNodeTable" "numbers" "[[I" (.ref aN)) (V_aN : Arv Z h0 aN kN (.array .int) (1 : Int32) [(.ref bN)] .null) (V_bN : Arv Z h0 bN kb .int (28672 : Int32) [(.int x0), (.int x1), (.int x2), (.int x3), (.int x4), (.int x5), (.int x6), (.int x7), (.int x8), (.int x9), (.int x10), (.int x11), (.int x12), (.int x13)] (.int 0)) :
    own_M l (⟨"com/example/boxwood/boxwood/XmlNodeTable", "end", "(I)I"⟩ : MethodName) prog_60_method_12_code 2 (some .int) ws ({ frames := 1, cells := 0, slots := 0, locals := 14 } : Room) Z #[(.ref t), (.int 0)] h0 (Q_end_0_14 Z t aN bN kN kb x0 x1 x2 x3 x4 x5 x6 x7 x8 x9 x10 x11 x12 x13 h0 n0) := by
  refine own_body (own := "com/example/boxwood/boxwood/XmlNodeTable") rfl (plainFor_of_name pn_9) (fun m => ef_end_0_14 m t (0 : Int32)) ?_
  intro p e s m below meth c s₁ Bd hml hZ hh hx hby hown X0 e0
  have N0 := Fr.nil n0
  have lt14 : h0.size > t := E_t.lt
  have lt15 : h0.size > aN := V_aN.lt
  have lt16 : h0.size > bN := V_bN.lt
  refine own_aloadN X0.here hx hby d9_0 rfl rfl ?_
  refine own_iloadN X0.here hx hby d9_1 rfl ?_
  refine own_iconst X0.here hx hby d9_2 (v := (2 : Int32)) (by decide) ?_
  refine own_private X0 hx hZ hown (own_w hw 60 rfl) (own_w hw 61 rfl) (own_w hw 1 rfl) (own_w hw 62 rfl) (own_w hw 2 rfl) (own_w hw 63 rfl) (by decide) (get_0_2_14 l Z a0 hw [] t aN bN kN kb x0 x1 x2 x3 x4 x5 x6 x7 x8 x9 x10 x11 x12 x13 h0 n0 Z0 F_numbers_t V_aN V_bN) 0 (Nat.le_of_eq rfl) (by decide) (by decide) (by rw [hml]; rfl) (argsL := [(.int 0), (.int 2)]) (st := []) E_t (lenOf pd_2 rfl) rfl rfl (by decide) (by decide) e0 hby d9_3 ?_
  intro T17 v17 L17 X17 hQ17
  obtain ⟨rfl, Nq17, eh17⟩ := hQ17
  have N17 := Fr.app N0 Nq17
  refine own_sh (T := T17) 6 #[.val (.ref t), .val (.int 0)] [(.int x2)] ?_
  obtain ⟨fs, hr, hrun, hended, hW, hsame⟩ := X17.leave (v := some (.int x2)) (fun h => by rw [Bd.returns] at h; cases h)
  refine own_ret (t := T17.setFrames fs) ?_ ⟨_, hrun, hended, _, _, rfl, ?_, ⟨_, rfl⟩, hW, hsame.mono (by decide) (by decide)⟩
  · exact retOut X17 hx Bd.returns rfl (Or.inl ⟨rfl, Or.inl rfl, _, rfl⟩) (hb hby d9_6) hr
  · show Q_end_0_14 Z t aN bN kN kb x0 x1 x2 x3 x4 x5 x6 x7 x8 x9 x10 x11 x12 x13 h0 n0 _ T17.heap _
    rw [eh17]
    exact ⟨rfl, N17, rfl⟩
def Q_get_0_3_14 (Z : State) (t : Nat) (aN : Nat) (bN : Nat) (kN : ClassId) (kb : ClassId) (x0 : Int32) (x1 : Int32) (x2 : Int32) (x3 : Int32) (x4 : Int32) (x5 : Int32) (x6 : Int32) (x7 : Int32) (x8 : Int32) (x9 : Int32) (x10 : Int32) (x11 : Int32) (x12 : Int32) (x13 : Int32) (h0 : Heap) (n0 : Nat) (vR : Option Value) (hR : Heap) (LR : List Loc) : Prop := vR = some (.int x3) ∧ Fr n0 LR ∧ hR = h0
set_option maxRecDepth 65536 in
set_option maxHeartbeats 40000000 in
theorem get_0_3_14 (l : Launch) (Z : State) (a0 : Array Value) (hw : ∀ d ∈ tables_1, d.before a0 Z = true) (ws : List Jvm.Cond) (t : Nat) (aN : Nat) (bN : Nat) (kN : ClassId) (kb : ClassId) (x0 : Int32) (x1 : Int32) (x2 : Int32) (x3 : Int32) (x4 : Int32) (x5 : Int32) (x6 : Int32) (x7 : Int32) (x8 : Int32) (x9 : Int32) (x10 : Int32) (x11 : Int32) (x12 : Int32) (x13 : Int32) (h0 : Heap) (n0 : Nat) (Z0 : n0 ≤ h0.size) (F_numbers_t : Fld Z h0 t "com/example/boxwood/boxwood/XmlNodeTable" "numbers" "[[I" (.ref aN)) (V_aN : Arv Z h0 aN kN (.array .int) (1 : Int32) [(.ref bN)] .null) (V_bN : Arv Z h0 bN kb .int (28672 : Int32) [(.int x0), (.int x1), (.int x2), (.int x3), (.int x4), (.int x5), (.int x6), (.int x7), (.int x8), (.int x9), (.int x10), (.int x11), (.int x12), (.int x13)] (.int 0)) :
    own_M l (⟨"com/example/boxwood/boxwood/XmlNodeTable", "get", "(II)I"⟩ : MethodName) prog_60_method_26_code 3 (some .int) ws ({ frames := 0, cells := 0, slots := 0, locals := 0 } : Room) Z #[(.ref t), (.int 0), (.int 3)] h0 (Q_get_0_3_14 Z t aN bN kN kb x0 x1 x2 x3 x4 x5 x6 x7 x8 x9 x10 x11 x12 x13 h0 n0) := by
  refine own_body (own := "com/example/boxwood/boxwood/XmlNodeTable") rfl (plainFor_of_name pn_8) (fun m => ef_get_0_5_14 m t (0 : Int32) (3 : Int32)) ?_
  intro p e s m below meth c s₁ Bd hml hZ hh hx hby hown X0 e0
  have N0 := Fr.nil n0
  have lt14 : h0.size > t := F_numbers_t.lt
  have lt15 : h0.size > aN := V_aN.lt
  have lt16 : h0.size > bN := V_bN.lt
  refine own_aloadN X0.here hx hby d8_0 rfl rfl ?_
  refine own_getF X0 hx hZ hown (host := "") (Or.inl (own_w hw 12 rfl)) Via.refl e0 F_numbers_t hby d8_1 ?_
  intro T17 X17 e17
  refine own_iloadN X17.here hx hby d8_4 rfl ?_
  refine own_bipush X17.here hx hby d8_5 (v := (12 : Int32)) (by decide) ?_
  refine own_iushr X17.here hx hby d8_7 (v := (0 : Int32)) (by decide) ?_
  refine own_aaload X17 hx hZ e17 V_aN rfl ⟨by decide, by decide⟩ (v := (.ref bN)) rfl hby d8_8 ?_
  refine own_iloadN X17.here hx hby d8_9 rfl ?_
  refine own_sipush X17.here hx hby d8_10 (v := (4095 : Int32)) (by decide) ?_
  refine own_iand X17.here hx hby d8_13 (v := (0 : Int32)) (by decide) ?_
  refine own_bipush X17.here hx hby d8_14 (v := (7 : Int32)) (by decide) ?_
  refine own_imul X17.here hx hby d8_16 (v := (0 : Int32)) (by decide) ?_
  refine own_iloadN X17.here hx hby d8_17 rfl ?_
  refine own_iadd X17.here hx hby d8_18 (v := (3 : Int32)) (by decide) ?_
  refine own_iaload X17 hx hZ e17 V_bN ⟨by decide, by decide⟩ (v := (.int x3)) rfl hby d8_19 ?_
  obtain ⟨fs, hr, hrun, hended, hW, hsame⟩ := X17.leave (v := some (.int x3)) (fun h => by rw [Bd.returns] at h; cases h)
  refine own_ret (t := T17.setFrames fs) ?_ ⟨_, hrun, hended, _, _, rfl, ?_, ⟨_, rfl⟩, hW, hsame.mono (by decide) (by decide)⟩
  · exact retOut X17 hx Bd.returns rfl (Or.inl ⟨rfl, Or.inl rfl, _, rfl⟩) (hb hby d8_20) hr
  · show Q_get_0_3_14 Z t aN bN kN kb x0 x1 x2 x3 x4 x5 x6 x7 x8 x9 x10 x11 x12 x13 h0 n0 _ T17.heap _
    rw [e17]
    exact ⟨rfl, N0, rfl⟩
theorem ef_next_0_14 (m : MethodId) (x0 : Nat) (x1 : Int32) : entryFrame m #[(.ref x0), (.int x1)] 2 = mkF m 0 #[.val (.ref x0), .val (.int x1)] [] := by first | (simp [entryFrame, mkF, argsToLocals, Value.category]; done) | rfl
theorem pn_10 : plainName "com/example/boxwood/boxwood/XmlNodeTable" = true := by first | (simp [plainName, overriddenIn]; done) | decide +kernel
theorem d10_0 : decode prog_60_method_13_code 0 = .ok (.aload_n 0, 1) := by decide +kernel
theorem d10_1 : decode prog_60_method_13_code 1 = .ok (.iload_n 1, 1) := by decide +kernel
theorem d10_2 : decode prog_60_method_13_code 2 = .ok (.iconst 3, 1) := by decide +kernel
theorem d10_3 : decode prog_60_method_13_code 3 = .ok (.invokevirtual 49, 3) := by decide +kernel
theorem d10_6 : decode prog_60_method_13_code 6 = .ok (.ireturn, 1) := by decide +kernel
def Q_next_0_14 (Z : State) (t : Nat) (aN : Nat) (bN : Nat) (kN : ClassId) (kb : ClassId) (x0 : Int32) (x1 : Int32) (x2 : Int32) (x3 : Int32) (x4 : Int32) (x5 : Int32) (x6 : Int32) (x7 : Int32) (x8 : Int32) (x9 : Int32) (x10 : Int32) (x11 : Int32) (x12 : Int32) (x13 : Int32) (h0 : Heap) (n0 : Nat) (vR : Option Value) (hR : Heap) (LR : List Loc) : Prop := vR = some (.int x3) ∧ Fr n0 LR ∧ hR = h0
set_option maxRecDepth 65536 in
set_option maxHeartbeats 40000000 in
theorem next_0_14 (l : Launch) (Z : State) (a0 : Array Value) (hw : ∀ d ∈ tables_1, d.before a0 Z = true) (ws : List Jvm.Cond) (t : Nat) (aN : Nat) (bN : Nat) (kN : ClassId) (kb : ClassId) (x0 : Int32) (x1 : Int32) (x2 : Int32) (x3 : Int32) (x4 : Int32) (x5 : Int32) (x6 : Int32) (x7 : Int32) (x8 : Int32) (x9 : Int32) (x10 : Int32) (x11 : Int32) (x12 : Int32) (x13 : Int32) (h0 : Heap) (n0 : Nat) (Z0 : n0 ≤ h0.size) (E_t : Exa Z h0 t "com/example/boxwood/boxwood/XmlNodeTable") (F_numbers_t : Fld Z h0 t "com/example/boxwood/boxwood/XmlNodeTable" "numbers" "[[I" (.ref aN)) (V_aN : Arv Z h0 aN kN (.array .int) (1 : Int32) [(.ref bN)] .null) (V_bN : Arv Z h0 bN kb .int (28672 : Int32) [(.int x0), (.int x1), (.int x2), (.int x3), (.int x4), (.int x5), (.int x6), (.int x7), (.int x8), (.int x9), (.int x10), (.int x11), (.int x12), (.int x13)] (.int 0)) :
    own_M l (⟨"com/example/boxwood/boxwood/XmlNodeTable", "next", "(I)I"⟩ : MethodName) prog_60_method_13_code 2 (some .int) ws ({ frames := 1, cells := 0, slots := 0, locals := 14 } : Room) Z #[(.ref t), (.int 0)] h0 (Q_next_0_14 Z t aN bN kN kb x0 x1 x2 x3 x4 x5 x6 x7 x8 x9 x10 x11 x12 x13 h0 n0) := by
  refine own_body (own := "com/example/boxwood/boxwood/XmlNodeTable") rfl (plainFor_of_name pn_10) (fun m => ef_next_0_14 m t (0 : Int32)) ?_
  intro p e s m below meth c s₁ Bd hml hZ hh hx hby hown X0 e0
  have N0 := Fr.nil n0
  have lt14 : h0.size > t := E_t.lt
  have lt15 : h0.size > aN := V_aN.lt
  have lt16 : h0.size > bN := V_bN.lt
  refine own_aloadN X0.here hx hby d10_0 rfl rfl ?_
  refine own_iloadN X0.here hx hby d10_1 rfl ?_
  refine own_iconst X0.here hx hby d10_2 (v := (3 : Int32)) (by decide) ?_
  refine own_private X0 hx hZ hown (own_w hw 60 rfl) (own_w hw 61 rfl) (own_w hw 1 rfl) (own_w hw 62 rfl) (own_w hw 2 rfl) (own_w hw 63 rfl) (by decide) (get_0_3_14 l Z a0 hw [] t aN bN kN kb x0 x1 x2 x3 x4 x5 x6 x7 x8 x9 x10 x11 x12 x13 h0 n0 Z0 F_numbers_t V_aN V_bN) 0 (Nat.le_of_eq rfl) (by decide) (by decide) (by rw [hml]; rfl) (argsL := [(.int 0), (.int 3)]) (st := []) E_t (lenOf pd_2 rfl) rfl rfl (by decide) (by decide) e0 hby d10_3 ?_
  intro T17 v17 L17 X17 hQ17
  obtain ⟨rfl, Nq17, eh17⟩ := hQ17
  have N17 := Fr.app N0 Nq17
  refine own_sh (T := T17) 6 #[.val (.ref t), .val (.int 0)] [(.int x3)] ?_
  obtain ⟨fs, hr, hrun, hended, hW, hsame⟩ := X17.leave (v := some (.int x3)) (fun h => by rw [Bd.returns] at h; cases h)
  refine own_ret (t := T17.setFrames fs) ?_ ⟨_, hrun, hended, _, _, rfl, ?_, ⟨_, rfl⟩, hW, hsame.mono (by decide) (by decide)⟩
  · exact retOut X17 hx Bd.returns rfl (Or.inl ⟨rfl, Or.inl rfl, _, rfl⟩) (hb hby d10_6) hr
  · show Q_next_0_14 Z t aN bN kN kb x0 x1 x2 x3 x4 x5 x6 x7 x8 x9 x10 x11 x12 x13 h0 n0 _ T17.heap _
    rw [eh17]
    exact ⟨rfl, N17, rfl⟩
def Q_get_0_1_14 (Z : State) (t : Nat) (aN : Nat) (bN : Nat) (kN : ClassId) (kb : ClassId) (x0 : Int32) (x1 : Int32) (x2 : Int32) (x3 : Int32) (x4 : Int32) (x5 : Int32) (x6 : Int32) (x7 : Int32) (x8 : Int32) (x9 : Int32) (x10 : Int32) (x11 : Int32) (x12 : Int32) (x13 : Int32) (h0 : Heap) (n0 : Nat) (vR : Option Value) (hR : Heap) (LR : List Loc) : Prop := vR = some (.int x1) ∧ Fr n0 LR ∧ hR = h0
set_option maxRecDepth 65536 in
set_option maxHeartbeats 40000000 in
theorem get_0_1_14 (l : Launch) (Z : State) (a0 : Array Value) (hw : ∀ d ∈ tables_1, d.before a0 Z = true) (ws : List Jvm.Cond) (t : Nat) (aN : Nat) (bN : Nat) (kN : ClassId) (kb : ClassId) (x0 : Int32) (x1 : Int32) (x2 : Int32) (x3 : Int32) (x4 : Int32) (x5 : Int32) (x6 : Int32) (x7 : Int32) (x8 : Int32) (x9 : Int32) (x10 : Int32) (x11 : Int32) (x12 : Int32) (x13 : Int32) (h0 : Heap) (n0 : Nat) (Z0 : n0 ≤ h0.size) (F_numbers_t : Fld Z h0 t "com/example/boxwood/boxwood/XmlNodeTable" "numbers" "[[I" (.ref aN)) (V_aN : Arv Z h0 aN kN (.array .int) (1 : Int32) [(.ref bN)] .null) (V_bN : Arv Z h0 bN kb .int (28672 : Int32) [(.int x0), (.int x1), (.int x2), (.int x3), (.int x4), (.int x5), (.int x6), (.int x7), (.int x8), (.int x9), (.int x10), (.int x11), (.int x12), (.int x13)] (.int 0)) :
    own_M l (⟨"com/example/boxwood/boxwood/XmlNodeTable", "get", "(II)I"⟩ : MethodName) prog_60_method_26_code 3 (some .int) ws ({ frames := 0, cells := 0, slots := 0, locals := 0 } : Room) Z #[(.ref t), (.int 0), (.int 1)] h0 (Q_get_0_1_14 Z t aN bN kN kb x0 x1 x2 x3 x4 x5 x6 x7 x8 x9 x10 x11 x12 x13 h0 n0) := by
  refine own_body (own := "com/example/boxwood/boxwood/XmlNodeTable") rfl (plainFor_of_name pn_8) (fun m => ef_get_0_5_14 m t (0 : Int32) (1 : Int32)) ?_
  intro p e s m below meth c s₁ Bd hml hZ hh hx hby hown X0 e0
  have N0 := Fr.nil n0
  have lt14 : h0.size > t := F_numbers_t.lt
  have lt15 : h0.size > aN := V_aN.lt
  have lt16 : h0.size > bN := V_bN.lt
  refine own_aloadN X0.here hx hby d8_0 rfl rfl ?_
  refine own_getF X0 hx hZ hown (host := "") (Or.inl (own_w hw 12 rfl)) Via.refl e0 F_numbers_t hby d8_1 ?_
  intro T17 X17 e17
  refine own_iloadN X17.here hx hby d8_4 rfl ?_
  refine own_bipush X17.here hx hby d8_5 (v := (12 : Int32)) (by decide) ?_
  refine own_iushr X17.here hx hby d8_7 (v := (0 : Int32)) (by decide) ?_
  refine own_aaload X17 hx hZ e17 V_aN rfl ⟨by decide, by decide⟩ (v := (.ref bN)) rfl hby d8_8 ?_
  refine own_iloadN X17.here hx hby d8_9 rfl ?_
  refine own_sipush X17.here hx hby d8_10 (v := (4095 : Int32)) (by decide) ?_
  refine own_iand X17.here hx hby d8_13 (v := (0 : Int32)) (by decide) ?_
  refine own_bipush X17.here hx hby d8_14 (v := (7 : Int32)) (by decide) ?_
  refine own_imul X17.here hx hby d8_16 (v := (0 : Int32)) (by decide) ?_
  refine own_iloadN X17.here hx hby d8_17 rfl ?_
  refine own_iadd X17.here hx hby d8_18 (v := (1 : Int32)) (by decide) ?_
  refine own_iaload X17 hx hZ e17 V_bN ⟨by decide, by decide⟩ (v := (.int x1)) rfl hby d8_19 ?_
  obtain ⟨fs, hr, hrun, hended, hW, hsame⟩ := X17.leave (v := some (.int x1)) (fun h => by rw [Bd.returns] at h; cases h)
  refine own_ret (t := T17.setFrames fs) ?_ ⟨_, hrun, hended, _, _, rfl, ?_, ⟨_, rfl⟩, hW, hsame.mono (by decide) (by decide)⟩
  · exact retOut X17 hx Bd.returns rfl (Or.inl ⟨rfl, Or.inl rfl, _, rfl⟩) (hb hby d8_20) hr
  · show Q_get_0_1_14 Z t aN bN kN kb x0 x1 x2 x3 x4 x5 x6 x7 x8 x9 x10 x11 x12 x13 h0 n0 _ T17.heap _
    rw [e17]
    exact ⟨rfl, N0, rfl⟩
theorem ef_start_0_14 (m : MethodId) (x0 : Nat) (x1 : Int32) : entryFrame m #[(.ref x0), (.int x1)] 2 = mkF m 0 #[.val (.ref x0), .val (.int x1)] [] := by first | (simp [entryFrame, mkF, argsToLocals, Value.category]; done) | rfl
theorem pn_11 : plainName "com/example/boxwood/boxwood/XmlNodeTable" = true := by first | (simp [plainName, overriddenIn]; done) | decide +kernel
theorem d11_0 : decode prog_60_method_11_code 0 = .ok (.aload_n 0, 1) := by decide +kernel
theorem d11_1 : decode prog_60_method_11_code 1 = .ok (.iload_n 1, 1) := by decide +kernel
theorem d11_2 : decode prog_60_method_11_code 2 = .ok (.iconst 1, 1) := by decide +kernel
theorem d11_3 : decode prog_60_method_11_code 3 = .ok (.invokevirtual 49, 3) := by decide +kernel
theorem d11_6 : decode prog_60_method_11_code 6 = .ok (.ireturn, 1) := by decide +kernel
def Q_start_0_14 (Z : State) (t : Nat) (aN : Nat) (bN : Nat) (kN : ClassId) (kb : ClassId) (x0 : Int32) (x1 : Int32) (x2 : Int32) (x3 : Int32) (x4 : Int32) (x5 : Int32) (x6 : Int32) (x7 : Int32) (x8 : Int32) (x9 : Int32) (x10 : Int32) (x11 : Int32) (x12 : Int32) (x13 : Int32) (h0 : Heap) (n0 : Nat) (vR : Option Value) (hR : Heap) (LR : List Loc) : Prop := vR = some (.int x1) ∧ Fr n0 LR ∧ hR = h0
set_option maxRecDepth 65536 in
set_option maxHeartbeats 40000000 in
theorem start_0_14 (l : Launch) (Z : State) (a0 : Array Value) (hw : ∀ d ∈ tables_1, d.before a0 Z = true) (ws : List Jvm.Cond) (t : Nat) (aN : Nat) (bN : Nat) (kN : ClassId) (kb : ClassId) (x0 : Int32) (x1 : Int32) (x2 : Int32) (x3 : Int32) (x4 : Int32) (x5 : Int32) (x6 : Int32) (x7 : Int32) (x8 : Int32) (x9 : Int32) (x10 : Int32) (x11 : Int32) (x12 : Int32) (x13 : Int32) (h0 : Heap) (n0 : Nat) (Z0 : n0 ≤ h0.size) (E_t : Exa Z h0 t "com/example/boxwood/boxwood/XmlNodeTable") (F_numbers_t : Fld Z h0 t "com/example/boxwood/boxwood/XmlNodeTable" "numbers" "[[I" (.ref aN)) (V_aN : Arv Z h0 aN kN (.array .int) (1 : Int32) [(.ref bN)] .null) (V_bN : Arv Z h0 bN kb .int (28672 : Int32) [(.int x0), (.int x1), (.int x2), (.int x3), (.int x4), (.int x5), (.int x6), (.int x7), (.int x8), (.int x9), (.int x10), (.int x11), (.int x12), (.int x13)] (.int 0)) :
    own_M l (⟨"com/example/boxwood/boxwood/XmlNodeTable", "start", "(I)I"⟩ : MethodName) prog_60_method_11_code 2 (some .int) ws ({ frames := 1, cells := 0, slots := 0, locals := 14 } : Room) Z #[(.ref t), (.int 0)] h0 (Q_start_0_14 Z t aN bN kN kb x0 x1 x2 x3 x4 x5 x6 x7 x8 x9 x10 x11 x12 x13 h0 n0) := by
  refine own_body (own := "com/example/boxwood/boxwood/XmlNodeTable") rfl (plainFor_of_name pn_11) (fun m => ef_start_0_14 m t (0 : Int32)) ?_
  intro p e s m below meth c s₁ Bd hml hZ hh hx hby hown X0 e0
  have N0 := Fr.nil n0
  have lt14 : h0.size > t := E_t.lt
  have lt15 : h0.size > aN := V_aN.lt
  have lt16 : h0.size > bN := V_bN.lt
  refine own_aloadN X0.here hx hby d11_0 rfl rfl ?_
  refine own_iloadN X0.here hx hby d11_1 rfl ?_
  refine own_iconst X0.here hx hby d11_2 (v := (1 : Int32)) (by decide) ?_
  refine own_private X0 hx hZ hown (own_w hw 60 rfl) (own_w hw 61 rfl) (own_w hw 1 rfl) (own_w hw 62 rfl) (own_w hw 2 rfl) (own_w hw 63 rfl) (by decide) (get_0_1_14 l Z a0 hw [] t aN bN kN kb x0 x1 x2 x3 x4 x5 x6 x7 x8 x9 x10 x11 x12 x13 h0 n0 Z0 F_numbers_t V_aN V_bN) 0 (Nat.le_of_eq rfl) (by decide) (by decide) (by rw [hml]; rfl) (argsL := [(.int 0), (.int 1)]) (st := []) E_t (lenOf pd_2 rfl) rfl rfl (by decide) (by decide) e0 hby d11_3 ?_
  intro T17 v17 L17 X17 hQ17
  obtain ⟨rfl, Nq17, eh17⟩ := hQ17
  have N17 := Fr.app N0 Nq17
  refine own_sh (T := T17) 6 #[.val (.ref t), .val (.int 0)] [(.int x1)] ?_
  obtain ⟨fs, hr, hrun, hended, hW, hsame⟩ := X17.leave (v := some (.int x1)) (fun h => by rw [Bd.returns] at h; cases h)
  refine own_ret (t := T17.setFrames fs) ?_ ⟨_, hrun, hended, _, _, rfl, ?_, ⟨_, rfl⟩, hW, hsame.mono (by decide) (by decide)⟩
  · exact retOut X17 hx Bd.returns rfl (Or.inl ⟨rfl, Or.inl rfl, _, rfl⟩) (hb hby d11_6) hr
  · show Q_start_0_14 Z t aN bN kN kb x0 x1 x2 x3 x4 x5 x6 x7 x8 x9 x10 x11 x12 x13 h0 n0 _ T17.heap _
    rw [eh17]
    exact ⟨rfl, N17, rfl⟩
def Q_get_0_4_14 (Z : State) (t : Nat) (aN : Nat) (bN : Nat) (kN : ClassId) (kb : ClassId) (x0 : Int32) (x1 : Int32) (x2 : Int32) (x3 : Int32) (x4 : Int32) (x5 : Int32) (x6 : Int32) (x7 : Int32) (x8 : Int32) (x9 : Int32) (x10 : Int32) (x11 : Int32) (x12 : Int32) (x13 : Int32) (h0 : Heap) (n0 : Nat) (vR : Option Value) (hR : Heap) (LR : List Loc) : Prop := vR = some (.int x4) ∧ Fr n0 LR ∧ hR = h0
set_option maxRecDepth 65536 in
set_option maxHeartbeats 40000000 in
theorem get_0_4_14 (l : Launch) (Z : State) (a0 : Array Value) (hw : ∀ d ∈ tables_1, d.before a0 Z = true) (ws : List Jvm.Cond) (t : Nat) (aN : Nat) (bN : Nat) (kN : ClassId) (kb : ClassId) (x0 : Int32) (x1 : Int32) (x2 : Int32) (x3 : Int32) (x4 : Int32) (x5 : Int32) (x6 : Int32) (x7 : Int32) (x8 : Int32) (x9 : Int32) (x10 : Int32) (x11 : Int32) (x12 : Int32) (x13 : Int32) (h0 : Heap) (n0 : Nat) (Z0 : n0 ≤ h0.size) (F_numbers_t : Fld Z h0 t "com/example/boxwood/boxwood/XmlNodeTable" "numbers" "[[I" (.ref aN)) (V_aN : Arv Z h0 aN kN (.array .int) (1 : Int32) [(.ref bN)] .null) (V_bN : Arv Z h0 bN kb .int (28672 : Int32) [(.int x0), (.int x1), (.int x2), (.int x3), (.int x4), (.int x5), (.int x6), (.int x7), (.int x8), (.int x9), (.int x10), (.int x11), (.int x12), (.int x13)] (.int 0)) :
    own_M l (⟨"com/example/boxwood/boxwood/XmlNodeTable", "get", "(II)I"⟩ : MethodName) prog_60_method_26_code 3 (some .int) ws ({ frames := 0, cells := 0, slots := 0, locals := 0 } : Room) Z #[(.ref t), (.int 0), (.int 4)] h0 (Q_get_0_4_14 Z t aN bN kN kb x0 x1 x2 x3 x4 x5 x6 x7 x8 x9 x10 x11 x12 x13 h0 n0) := by
  refine own_body (own := "com/example/boxwood/boxwood/XmlNodeTable") rfl (plainFor_of_name pn_8) (fun m => ef_get_0_5_14 m t (0 : Int32) (4 : Int32)) ?_
  intro p e s m below meth c s₁ Bd hml hZ hh hx hby hown X0 e0
  have N0 := Fr.nil n0
  have lt14 : h0.size > t := F_numbers_t.lt
  have lt15 : h0.size > aN := V_aN.lt
  have lt16 : h0.size > bN := V_bN.lt
  refine own_aloadN X0.here hx hby d8_0 rfl rfl ?_
  refine own_getF X0 hx hZ hown (host := "") (Or.inl (own_w hw 12 rfl)) Via.refl e0 F_numbers_t hby d8_1 ?_
  intro T17 X17 e17
  refine own_iloadN X17.here hx hby d8_4 rfl ?_
  refine own_bipush X17.here hx hby d8_5 (v := (12 : Int32)) (by decide) ?_
  refine own_iushr X17.here hx hby d8_7 (v := (0 : Int32)) (by decide) ?_
  refine own_aaload X17 hx hZ e17 V_aN rfl ⟨by decide, by decide⟩ (v := (.ref bN)) rfl hby d8_8 ?_
  refine own_iloadN X17.here hx hby d8_9 rfl ?_
  refine own_sipush X17.here hx hby d8_10 (v := (4095 : Int32)) (by decide) ?_
  refine own_iand X17.here hx hby d8_13 (v := (0 : Int32)) (by decide) ?_
  refine own_bipush X17.here hx hby d8_14 (v := (7 : Int32)) (by decide) ?_
  refine own_imul X17.here hx hby d8_16 (v := (0 : Int32)) (by decide) ?_
  refine own_iloadN X17.here hx hby d8_17 rfl ?_
  refine own_iadd X17.here hx hby d8_18 (v := (4 : Int32)) (by decide) ?_
  refine own_iaload X17 hx hZ e17 V_bN ⟨by decide, by decide⟩ (v := (.int x4)) rfl hby d8_19 ?_
  obtain ⟨fs, hr, hrun, hended, hW, hsame⟩ := X17.leave (v := some (.int x4)) (fun h => by rw [Bd.returns] at h; cases h)
  refine own_ret (t := T17.setFrames fs) ?_ ⟨_, hrun, hended, _, _, rfl, ?_, ⟨_, rfl⟩, hW, hsame.mono (by decide) (by decide)⟩
  · exact retOut X17 hx Bd.returns rfl (Or.inl ⟨rfl, Or.inl rfl, _, rfl⟩) (hb hby d8_20) hr
  · show Q_get_0_4_14 Z t aN bN kN kb x0 x1 x2 x3 x4 x5 x6 x7 x8 x9 x10 x11 x12 x13 h0 n0 _ T17.heap _
    rw [e17]
    exact ⟨rfl, N0, rfl⟩
theorem ef_contentStart_0_14 (m : MethodId) (x0 : Nat) (x1 : Int32) : entryFrame m #[(.ref x0), (.int x1)] 2 = mkF m 0 #[.val (.ref x0), .val (.int x1)] [] := by first | (simp [entryFrame, mkF, argsToLocals, Value.category]; done) | rfl
theorem pn_12 : plainName "com/example/boxwood/boxwood/XmlNodeTable" = true := by first | (simp [plainName, overriddenIn]; done) | decide +kernel
theorem d12_0 : decode prog_60_method_14_code 0 = .ok (.aload_n 0, 1) := by decide +kernel
theorem d12_1 : decode prog_60_method_14_code 1 = .ok (.iload_n 1, 1) := by decide +kernel
theorem d12_2 : decode prog_60_method_14_code 2 = .ok (.iconst 4, 1) := by decide +kernel
theorem d12_3 : decode prog_60_method_14_code 3 = .ok (.invokevirtual 49, 3) := by decide +kernel
theorem d12_6 : decode prog_60_method_14_code 6 = .ok (.ireturn, 1) := by decide +kernel
def Q_contentStart_0_14 (Z : State) (t : Nat) (aN : Nat) (bN : Nat) (kN : ClassId) (kb : ClassId) (x0 : Int32) (x1 : Int32) (x2 : Int32) (x3 : Int32) (x4 : Int32) (x5 : Int32) (x6 : Int32) (x7 : Int32) (x8 : Int32) (x9 : Int32) (x10 : Int32) (x11 : Int32) (x12 : Int32) (x13 : Int32) (h0 : Heap) (n0 : Nat) (vR : Option Value) (hR : Heap) (LR : List Loc) : Prop := vR = some (.int x4) ∧ Fr n0 LR ∧ hR = h0
set_option maxRecDepth 65536 in
set_option maxHeartbeats 40000000 in
theorem contentStart_0_14 (l : Launch) (Z : State) (a0 : Array Value) (hw : ∀ d ∈ tables_1, d.before a0 Z = true) (ws : List Jvm.Cond) (t : Nat) (aN : Nat) (bN : Nat) (kN : ClassId) (kb : ClassId) (x0 : Int32) (x1 : Int32) (x2 : Int32) (x3 : Int32) (x4 : Int32) (x5 : Int32) (x6 : Int32) (x7 : Int32) (x8 : Int32) (x9 : Int32) (x10 : Int32) (x11 : Int32) (x12 : Int32) (x13 : Int32) (h0 : Heap) (n0 : Nat) (Z0 : n0 ≤ h0.size) (E_t : Exa Z h0 t "com/example/boxwood/boxwood/XmlNodeTable") (F_numbers_t : Fld Z h0 t "com/example/boxwood/boxwood/XmlNodeTable" "numbers" "[[I" (.ref aN)) (V_aN : Arv Z h0 aN kN (.array .int) (1 : Int32) [(.ref bN)] .null) (V_bN : Arv Z h0 bN kb .int (28672 : Int32) [(.int x0), (.int x1), (.int x2), (.int x3), (.int x4), (.int x5), (.int x6), (.int x7), (.int x8), (.int x9), (.int x10), (.int x11), (.int x12), (.int x13)] (.int 0)) :
    own_M l (⟨"com/example/boxwood/boxwood/XmlNodeTable", "contentStart", "(I)I"⟩ : MethodName) prog_60_method_14_code 2 (some .int) ws ({ frames := 1, cells := 0, slots := 0, locals := 14 } : Room) Z #[(.ref t), (.int 0)] h0 (Q_contentStart_0_14 Z t aN bN kN kb x0 x1 x2 x3 x4 x5 x6 x7 x8 x9 x10 x11 x12 x13 h0 n0) := by
  refine own_body (own := "com/example/boxwood/boxwood/XmlNodeTable") rfl (plainFor_of_name pn_12) (fun m => ef_contentStart_0_14 m t (0 : Int32)) ?_
  intro p e s m below meth c s₁ Bd hml hZ hh hx hby hown X0 e0
  have N0 := Fr.nil n0
  have lt14 : h0.size > t := E_t.lt
  have lt15 : h0.size > aN := V_aN.lt
  have lt16 : h0.size > bN := V_bN.lt
  refine own_aloadN X0.here hx hby d12_0 rfl rfl ?_
  refine own_iloadN X0.here hx hby d12_1 rfl ?_
  refine own_iconst X0.here hx hby d12_2 (v := (4 : Int32)) (by decide) ?_
  refine own_private X0 hx hZ hown (own_w hw 60 rfl) (own_w hw 61 rfl) (own_w hw 1 rfl) (own_w hw 62 rfl) (own_w hw 2 rfl) (own_w hw 63 rfl) (by decide) (get_0_4_14 l Z a0 hw [] t aN bN kN kb x0 x1 x2 x3 x4 x5 x6 x7 x8 x9 x10 x11 x12 x13 h0 n0 Z0 F_numbers_t V_aN V_bN) 0 (Nat.le_of_eq rfl) (by decide) (by decide) (by rw [hml]; rfl) (argsL := [(.int 0), (.int 4)]) (st := []) E_t (lenOf pd_2 rfl) rfl rfl (by decide) (by decide) e0 hby d12_3 ?_
  intro T17 v17 L17 X17 hQ17
  obtain ⟨rfl, Nq17, eh17⟩ := hQ17
  have N17 := Fr.app N0 Nq17
  refine own_sh (T := T17) 6 #[.val (.ref t), .val (.int 0)] [(.int x4)] ?_
  obtain ⟨fs, hr, hrun, hended, hW, hsame⟩ := X17.leave (v := some (.int x4)) (fun h => by rw [Bd.returns] at h; cases h)
  refine own_ret (t := T17.setFrames fs) ?_ ⟨_, hrun, hended, _, _, rfl, ?_, ⟨_, rfl⟩, hW, hsame.mono (by decide) (by decide)⟩
  · exact retOut X17 hx Bd.returns rfl (Or.inl ⟨rfl, Or.inl rfl, _, rfl⟩) (hb hby d12_6) hr
  · show Q_contentStart_0_14 Z t aN bN kN kb x0 x1 x2 x3 x4 x5 x6 x7 x8 x9 x10 x11 x12 x13 h0 n0 _ T17.heap _
    rw [eh17]
    exact ⟨rfl, N17, rfl⟩
def Q_endE_1_2 (Z : State) (t : Nat) (aN : Nat) (bN : Nat) (p1 : Int32) (p2 : Int32) (ac : Int32) (kN : ClassId) (kb : ClassId) (x0 : Int32) (x1 : Int32) (x2 : Int32) (x3 : Int32) (x4 : Int32) (x5 : Int32) (x6 : Int32) (x7 : Int32) (x8 : Int32) (x9 : Int32) (x10 : Int32) (x11 : Int32) (x12 : Int32) (x13 : Int32) (h0 : Heap) (n0 : Nat) (vR : Option Value) (hR : Heap) (LR : List Loc) : Prop := vR = none ∧ Fr n0 LR ∧ Keep h0 hR [bN] ∧ (Arv Z hR bN kb .int (28672 : Int32) [(.int x0), (.int x1), (.int x2), (.int x3), (.int x4), (.int x5), (.int x6), (.int x7), (.int x8), (.int p2), (.int 2), (.int x11), (.int p1), (.int x13)] (.int 0))
set_option maxRecDepth 65536 in
set_option maxHeartbeats 40000000 in
theorem endE_1_2 (l : Launch) (Z : State) (a0 : Array Value) (hw : ∀ d ∈ tables_1, d.before a0 Z = true) (ws : List Jvm.Cond) (t : Nat) (aN : Nat) (bN : Nat) (p1 : Int32) (p2 : Int32) (ac : Int32) (kN : ClassId) (kb : ClassId) (x0 : Int32) (x1 : Int32) (x2 : Int32) (x3 : Int32) (x4 : Int32) (x5 : Int32) (x6 : Int32) (x7 : Int32) (x8 : Int32) (x9 : Int32) (x10 : Int32) (x11 : Int32) (x12 : Int32) (x13 : Int32) (h0 : Heap) (n0 : Nat) (Z0 : n0 ≤ h0.size) (E_t : Exa Z h0 t "com/example/boxwood/boxwood/XmlNodeTable") (F_size_t : Fld Z h0 t "com/example/boxwood/boxwood/XmlNodeTable" "size" "I" (.int 2)) (F_numbers_t : Fld Z h0 t "com/example/boxwood/boxwood/XmlNodeTable" "numbers" "[[I" (.ref aN)) (F_attributeCount_t : Fld Z h0 t "com/example/boxwood/boxwood/XmlNodeTable" "attributeCount" "I" (.int ac)) (V_aN : Arv Z h0 aN kN (.array .int) (1 : Int32) [(.ref bN)] .null) (V_bN : Arv Z h0 bN kb .int (28672 : Int32) [(.int x0), (.int x1), (.int x2), (.int x3), (.int x4), (.int x5), (.int x6), (.int x7), (.int x8), (.int x9), (.int x10), (.int x11), (.int x12), (.int x13)] (.int 0)) (g_bN : n0 ≤ bN) :
    own_M l (⟨"com/example/boxwood/boxwood/XmlNodeTable", "endElement", "(III)V"⟩ : MethodName) prog_60_method_7_code 6 none ws ({ frames := 0, cells := 0, slots := 0, locals := 0 } : Room) Z #[(.ref t), (.int 1), (.int p1), (.int p2)] h0 (Q_endE_1_2 Z t aN bN p1 p2 ac kN kb x0 x1 x2 x3 x4 x5 x6 x7 x8 x9 x10 x11 x12 x13 h0 n0) := by
  refine own_body (own := "com/example/boxwood/boxwood/XmlNodeTable") rfl (plainFor_of_name pn_6) (fun m => ef_endE_0_2 m t (1 : Int32) p1 p2) ?_
  intro p e s m below meth c s₁ Bd hml hZ hh hx hby hown X0 e0
  have N0 := Fr.nil n0
  have lt14 : h0.size > t := E_t.lt
  have lt15 : h0.size > aN := V_aN.lt
  have lt16 : h0.size > bN := V_bN.lt
  refine own_aloadN X0.here hx hby d6_0 rfl rfl ?_
  refine own_getF X0 hx hZ hown (host := "") (Or.inl (own_w hw 12 rfl)) Via.refl e0 F_numbers_t hby d6_1 ?_
  intro T17 X17 e17
  refine own_iloadN X17.here hx hby d6_4 rfl ?_
  refine own_bipush X17.here hx hby d6_5 (v := (12 : Int32)) (by decide) ?_
  refine own_iushr X17.here hx hby d6_7 (v := (0 : Int32)) (by decide) ?_
  refine own_aaload X17 hx hZ e17 V_aN rfl ⟨by decide, by decide⟩ (v := (.ref bN)) rfl hby d6_8 ?_
  refine own_astore X17.here hx hby d6_9 rfl (l' := #[.val (.ref t), .val (.int 1), .val (.int p1), .val (.int p2), .val (.ref bN), .unset]) rfl ?_
  refine own_iloadN X17.here hx hby d6_11 rfl ?_
  refine own_sipush X17.here hx hby d6_12 (v := (4095 : Int32)) (by decide) ?_
  refine own_iand X17.here hx hby d6_15 (v := (1 : Int32)) (by decide) ?_
  refine own_bipush X17.here hx hby d6_16 (v := (7 : Int32)) (by decide) ?_
  refine own_imul X17.here hx hby d6_18 (v := (7 : Int32)) (by decide) ?_
  refine own_istore X17.here hx hby d6_19 (l' := #[.val (.ref t), .val (.int 1), .val (.int p1), .val (.int p2), .val (.ref bN), .val (.int 7)]) rfl ?_
  refine own_aload X17.here hx hby d6_21 rfl rfl ?_
  refine own_iload X17.here hx hby d6_23 rfl ?_
  refine own_iconst X17.here hx hby d6_25 (v := (5 : Int32)) (by decide) ?_
  refine own_iadd X17.here hx hby d6_26 (v := (12 : Int32)) (by decide) ?_
  refine own_iloadN X17.here hx hby d6_27 rfl ?_
  refine own_iastore X17 hx hZ e17 V_bN ⟨by decide, by decide⟩ 12 (by decide) (Nat.le_of_ble_eq_true rfl) rfl hby d6_28 N0 g_bN ?_
  intro T18 h18 lo18 X18 e18 N18 W18 V18 z18
  have V19 : Arv Z h18 bN kb .int (28672 : Int32) [(.int x0), (.int x1), (.int x2), (.int x3), (.int x4), (.int x5), (.int x6), (.int x7), (.int x8), (.int x9), (.int x10), (.int x11), (.int p1), (.int x13)] (.int 0) := V18
  refine own_aload X18.here hx hby d6_29 rfl rfl ?_
  refine own_iload X18.here hx hby d6_31 rfl ?_
  refine own_iconst X18.here hx hby d6_33 (v := (2 : Int32)) (by decide) ?_
  refine own_iadd X18.here hx hby d6_34 (v := (9 : Int32)) (by decide) ?_
  refine own_iloadN X18.here hx hby d6_35 rfl ?_
  refine own_iastore X18 hx hZ e18 V19 ⟨by decide, by decide⟩ 9 (by decide) (Nat.le_of_ble_eq_true rfl) rfl hby d6_36 N18 g_bN ?_
  intro T20 h20 lo20 X20 e20 N20 W20 V20 z20
  have V21 : Arv Z h20 bN kb .int (28672 : Int32) [(.int x0), (.int x1), (.int x2), (.int x3), (.int x4), (.int x5), (.int x6), (.int x7), (.int x8), (.int p2), (.int x10), (.int x11), (.int p1), (.int x13)] (.int 0) := V20
  refine own_aload X20.here hx hby d6_37 rfl rfl ?_
  refine own_iload X20.here hx hby d6_39 rfl ?_
  refine own_iconst X20.here hx hby d6_41 (v := (3 : Int32)) (by decide) ?_
  refine own_iadd X20.here hx hby d6_42 (v := (10 : Int32)) (by decide) ?_
  refine own_aloadN X20.here hx hby d6_43 rfl rfl ?_
  have f22 : Fld Z h20 t "com/example/boxwood/boxwood/XmlNodeTable" "size" "I" (.int 2) := ((F_size_t.other W18 (Or.inl (own_ne_oa E_t (own_w hw 1 rfl) V_bN))).other W20 (Or.inl (own_ne_oa E_t (own_w hw 1 rfl) V_bN)))
  refine own_getF X20 hx hZ hown (host := "") (Or.inl (own_w hw 37 rfl)) Via.refl e20 f22 hby d6_44 ?_
  intro T23 X23 e23
  refine own_iastore X23 hx hZ e23 V21 ⟨by decide, by decide⟩ 10 (by decide) (Nat.le_of_ble_eq_true rfl) rfl hby d6_47 N20 g_bN ?_
  intro T24 h24 lo24 X24 e24 N24 W24 V24 z24
  have V25 : Arv Z h24 bN kb .int (28672 : Int32) [(.int x0), (.int x1), (.int x2), (.int x3), (.int x4), (.int x5), (.int x6), (.int x7), (.int x8), (.int p2), (.int 2), (.int x11), (.int p1), (.int x13)] (.int 0) := V24
  have K26 : Keep h0 h24 [bN] := ((((Keep.refl h0 [bN]).wr W18 (Or.inl (List.mem_of_getElem? (i := 0) rfl))).wr W20 (Or.inl (List.mem_of_getElem? (i := 0) rfl))).wr W24 (Or.inl (List.mem_of_getElem? (i := 0) rfl)))
  obtain ⟨fs, hr, hrun, hended, hW, hsame⟩ := X24.leave (v := none) (fun _ => rfl)
  refine own_ret (t := T24.setFrames fs) ?_ ⟨_, hrun, hended, _, _, rfl, ?_, ⟨_, rfl⟩, hW, hsame.mono (by decide) (by decide)⟩
  · exact X24.returnOut hx Bd.returns (hb hby d6_48) hr
  · show Q_endE_1_2 Z t aN bN p1 p2 ac kN kb x0 x1 x2 x3 x4 x5 x6 x7 x8 x9 x10 x11 x12 x13 h0 n0 _ T24.heap _
    rw [e24]
    exact ⟨rfl, N24, K26, V25⟩
def Q_get_1_5_14 (Z : State) (t : Nat) (aN : Nat) (bN : Nat) (kN : ClassId) (kb : ClassId) (x0 : Int32) (x1 : Int32) (x2 : Int32) (x3 : Int32) (x4 : Int32) (x5 : Int32) (x6 : Int32) (x7 : Int32) (x8 : Int32) (x9 : Int32) (x10 : Int32) (x11 : Int32) (x12 : Int32) (x13 : Int32) (h0 : Heap) (n0 : Nat) (vR : Option Value) (hR : Heap) (LR : List Loc) : Prop := vR = some (.int x12) ∧ Fr n0 LR ∧ hR = h0
set_option maxRecDepth 65536 in
set_option maxHeartbeats 40000000 in
theorem get_1_5_14 (l : Launch) (Z : State) (a0 : Array Value) (hw : ∀ d ∈ tables_1, d.before a0 Z = true) (ws : List Jvm.Cond) (t : Nat) (aN : Nat) (bN : Nat) (kN : ClassId) (kb : ClassId) (x0 : Int32) (x1 : Int32) (x2 : Int32) (x3 : Int32) (x4 : Int32) (x5 : Int32) (x6 : Int32) (x7 : Int32) (x8 : Int32) (x9 : Int32) (x10 : Int32) (x11 : Int32) (x12 : Int32) (x13 : Int32) (h0 : Heap) (n0 : Nat) (Z0 : n0 ≤ h0.size) (F_numbers_t : Fld Z h0 t "com/example/boxwood/boxwood/XmlNodeTable" "numbers" "[[I" (.ref aN)) (V_aN : Arv Z h0 aN kN (.array .int) (1 : Int32) [(.ref bN)] .null) (V_bN : Arv Z h0 bN kb .int (28672 : Int32) [(.int x0), (.int x1), (.int x2), (.int x3), (.int x4), (.int x5), (.int x6), (.int x7), (.int x8), (.int x9), (.int x10), (.int x11), (.int x12), (.int x13)] (.int 0)) :
    own_M l (⟨"com/example/boxwood/boxwood/XmlNodeTable", "get", "(II)I"⟩ : MethodName) prog_60_method_26_code 3 (some .int) ws ({ frames := 0, cells := 0, slots := 0, locals := 0 } : Room) Z #[(.ref t), (.int 1), (.int 5)] h0 (Q_get_1_5_14 Z t aN bN kN kb x0 x1 x2 x3 x4 x5 x6 x7 x8 x9 x10 x11 x12 x13 h0 n0) := by
  refine own_body (own := "com/example/boxwood/boxwood/XmlNodeTable") rfl (plainFor_of_name pn_8) (fun m => ef_get_0_5_14 m t (1 : Int32) (5 : Int32)) ?_
  intro p e s m below meth c s₁ Bd hml hZ hh hx hby hown X0 e0
  have N0 := Fr.nil n0
  have lt14 : h0.size > t := F_numbers_t.lt
  have lt15 : h0.size > aN := V_aN.lt
  have lt16 : h0.size > bN := V_bN.lt
  refine own_aloadN X0.here hx hby d8_0 rfl rfl ?_
  refine own_getF X0 hx hZ hown (host := "") (Or.inl (own_w hw 12 rfl)) Via.refl e0 F_numbers_t hby d8_1 ?_
  intro T17 X17 e17
  refine own_iloadN X17.here hx hby d8_4 rfl ?_
  refine own_bipush X17.here hx hby d8_5 (v := (12 : Int32)) (by decide) ?_
  refine own_iushr X17.here hx hby d8_7 (v := (0 : Int32)) (by decide) ?_
  refine own_aaload X17 hx hZ e17 V_aN rfl ⟨by decide, by decide⟩ (v := (.ref bN)) rfl hby d8_8 ?_
  refine own_iloadN X17.here hx hby d8_9 rfl ?_
  refine own_sipush X17.here hx hby d8_10 (v := (4095 : Int32)) (by decide) ?_
  refine own_iand X17.here hx hby d8_13 (v := (1 : Int32)) (by decide) ?_
  refine own_bipush X17.here hx hby d8_14 (v := (7 : Int32)) (by decide) ?_
  refine own_imul X17.here hx hby d8_16 (v := (7 : Int32)) (by decide) ?_
  refine own_iloadN X17.here hx hby d8_17 rfl ?_
  refine own_iadd X17.here hx hby d8_18 (v := (12 : Int32)) (by decide) ?_
  refine own_iaload X17 hx hZ e17 V_bN ⟨by decide, by decide⟩ (v := (.int x12)) rfl hby d8_19 ?_
  obtain ⟨fs, hr, hrun, hended, hW, hsame⟩ := X17.leave (v := some (.int x12)) (fun h => by rw [Bd.returns] at h; cases h)
  refine own_ret (t := T17.setFrames fs) ?_ ⟨_, hrun, hended, _, _, rfl, ?_, ⟨_, rfl⟩, hW, hsame.mono (by decide) (by decide)⟩
  · exact retOut X17 hx Bd.returns rfl (Or.inl ⟨rfl, Or.inl rfl, _, rfl⟩) (hb hby d8_20) hr
  · show Q_get_1_5_14 Z t aN bN kN kb x0 x1 x2 x3 x4 x5 x6 x7 x8 x9 x10 x11 x12 x13 h0 n0 _ T17.heap _
    rw [e17]
    exact ⟨rfl, N0, rfl⟩
def Q_contentEnd_1_14 (Z : State) (t : Nat) (aN : Nat) (bN : Nat) (kN : ClassId) (kb : ClassId) (x0 : Int32) (x1 : Int32) (x2 : Int32) (x3 : Int32) (x4 : Int32) (x5 : Int32) (x6 : Int32) (x7 : Int32) (x8 : Int32) (x9 : Int32) (x10 : Int32) (x11 : Int32) (x12 : Int32) (x13 : Int32) (h0 : Heap) (n0 : Nat) (vR : Option Value) (hR : Heap) (LR : List Loc) : Prop := vR = some (.int x12) ∧ Fr n0 LR ∧ hR = h0
set_option maxRecDepth 65536 in
set_option maxHeartbeats 40000000 in
theorem contentEnd_1_14 (l : Launch) (Z : State) (a0 : Array Value) (hw : ∀ d ∈ tables_1, d.before a0 Z = true) (ws : List Jvm.Cond) (t : Nat) (aN : Nat) (bN : Nat) (kN : ClassId) (kb : ClassId) (x0 : Int32) (x1 : Int32) (x2 : Int32) (x3 : Int32) (x4 : Int32) (x5 : Int32) (x6 : Int32) (x7 : Int32) (x8 : Int32) (x9 : Int32) (x10 : Int32) (x11 : Int32) (x12 : Int32) (x13 : Int32) (h0 : Heap) (n0 : Nat) (Z0 : n0 ≤ h0.size) (E_t : Exa Z h0 t "com/example/boxwood/boxwood/XmlNodeTable") (F_numbers_t : Fld Z h0 t "com/example/boxwood/boxwood/XmlNodeTable" "numbers" "[[I" (.ref aN)) (V_aN : Arv Z h0 aN kN (.array .int) (1 : Int32) [(.ref bN)] .null) (V_bN : Arv Z h0 bN kb .int (28672 : Int32) [(.int x0), (.int x1), (.int x2), (.int x3), (.int x4), (.int x5), (.int x6), (.int x7), (.int x8), (.int x9), (.int x10), (.int x11), (.int x12), (.int x13)] (.int 0)) :
    own_M l (⟨"com/example/boxwood/boxwood/XmlNodeTable", "contentEnd", "(I)I"⟩ : MethodName) prog_60_method_15_code 2 (some .int) ws ({ frames := 1, cells := 0, slots := 0, locals := 14 } : Room) Z #[(.ref t), (.int 1)] h0 (Q_contentEnd_1_14 Z t aN bN kN kb x0 x1 x2 x3 x4 x5 x6 x7 x8 x9 x10 x11 x12 x13 h0 n0) := by
  refine own_body (own := "com/example/boxwood/boxwood/XmlNodeTable") rfl (plainFor_of_name pn_7) (fun m => ef_contentEnd_0_14 m t (1 : Int32)) ?_
  intro p e s m below meth c s₁ Bd hml hZ hh hx hby hown X0 e0
  have N0 := Fr.nil n0
  have lt14 : h0.size > t := E_t.lt
  have lt15 : h0.size > aN := V_aN.lt
  have lt16 : h0.size > bN := V_bN.lt
  refine own_aloadN X0.here hx hby d7_0 rfl rfl ?_
  refine own_iloadN X0.here hx hby d7_1 rfl ?_
  refine own_iconst X0.here hx hby d7_2 (v := (5 : Int32)) (by decide) ?_
  refine own_private X0 hx hZ hown (own_w hw 60 rfl) (own_w hw 61 rfl) (own_w hw 1 rfl) (own_w hw 62 rfl) (own_w hw 2 rfl) (own_w hw 63 rfl) (by decide) (get_1_5_14 l Z a0 hw [] t aN bN kN kb x0 x1 x2 x3 x4 x5 x6 x7 x8 x9 x10 x11 x12 x13 h0 n0 Z0 F_numbers_t V_aN V_bN) 0 (Nat.le_of_eq rfl) (by decide) (by decide) (by rw [hml]; rfl) (argsL := [(.int 1), (.int 5)]) (st := []) E_t (lenOf pd_2 rfl) rfl rfl (by decide) (by decide) e0 hby d7_3 ?_
  intro T17 v17 L17 X17 hQ17
  obtain ⟨rfl, Nq17, eh17⟩ := hQ17
  have N17 := Fr.app N0 Nq17
  refine own_sh (T := T17) 6 #[.val (.ref t), .val (.int 1)] [(.int x12)] ?_
  obtain ⟨fs, hr, hrun, hended, hW, hsame⟩ := X17.leave (v := some (.int x12)) (fun h => by rw [Bd.returns] at h; cases h)
  refine own_ret (t := T17.setFrames fs) ?_ ⟨_, hrun, hended, _, _, rfl, ?_, ⟨_, rfl⟩, hW, hsame.mono (by decide) (by decide)⟩
  · exact retOut X17 hx Bd.returns rfl (Or.inl ⟨rfl, Or.inl rfl, _, rfl⟩) (hb hby d7_6) hr
  · show Q_contentEnd_1_14 Z t aN bN kN kb x0 x1 x2 x3 x4 x5 x6 x7 x8 x9 x10 x11 x12 x13 h0 n0 _ T17.heap _
    rw [eh17]
    exact ⟨rfl, N17, rfl⟩
def Q_get_1_2_14 (Z : State) (t : Nat) (aN : Nat) (bN : Nat) (kN : ClassId) (kb : ClassId) (x0 : Int32) (x1 : Int32) (x2 : Int32) (x3 : Int32) (x4 : Int32) (x5 : Int32) (x6 : Int32) (x7 : Int32) (x8 : Int32) (x9 : Int32) (x10 : Int32) (x11 : Int32) (x12 : Int32) (x13 : Int32) (h0 : Heap) (n0 : Nat) (vR : Option Value) (hR : Heap) (LR : List Loc) : Prop := vR = some (.int x9) ∧ Fr n0 LR ∧ hR = h0
set_option maxRecDepth 65536 in
set_option maxHeartbeats 40000000 in
theorem get_1_2_14 (l : Launch) (Z : State) (a0 : Array Value) (hw : ∀ d ∈ tables_1, d.before a0 Z = true) (ws : List Jvm.Cond) (t : Nat) (aN : Nat) (bN : Nat) (kN : ClassId) (kb : ClassId) (x0 : Int32) (x1 : Int32) (x2 : Int32) (x3 : Int32) (x4 : Int32) (x5 : Int32) (x6 : Int32) (x7 : Int32) (x8 : Int32) (x9 : Int32) (x10 : Int32) (x11 : Int32) (x12 : Int32) (x13 : Int32) (h0 : Heap) (n0 : Nat) (Z0 : n0 ≤ h0.size) (F_numbers_t : Fld Z h0 t "com/example/boxwood/boxwood/XmlNodeTable" "numbers" "[[I" (.ref aN)) (V_aN : Arv Z h0 aN kN (.array .int) (1 : Int32) [(.ref bN)] .null) (V_bN : Arv Z h0 bN kb .int (28672 : Int32) [(.int x0), (.int x1), (.int x2), (.int x3), (.int x4), (.int x5), (.int x6), (.int x7), (.int x8), (.int x9), (.int x10), (.int x11), (.int x12), (.int x13)] (.int 0)) :
    own_M l (⟨"com/example/boxwood/boxwood/XmlNodeTable", "get", "(II)I"⟩ : MethodName) prog_60_method_26_code 3 (some .int) ws ({ frames := 0, cells := 0, slots := 0, locals := 0 } : Room) Z #[(.ref t), (.int 1), (.int 2)] h0 (Q_get_1_2_14 Z t aN bN kN kb x0 x1 x2 x3 x4 x5 x6 x7 x8 x9 x10 x11 x12 x13 h0 n0) := by
  refine own_body (own := "com/example/boxwood/boxwood/XmlNodeTable") rfl (plainFor_of_name pn_8) (fun m => ef_get_0_5_14 m t (1 : Int32) (2 : Int32)) ?_
  intro p e s m below meth c s₁ Bd hml hZ hh hx hby hown X0 e0
  have N0 := Fr.nil n0
  have lt14 : h0.size > t := F_numbers_t.lt
  have lt15 : h0.size > aN := V_aN.lt
  have lt16 : h0.size > bN := V_bN.lt
  refine own_aloadN X0.here hx hby d8_0 rfl rfl ?_
  refine own_getF X0 hx hZ hown (host := "") (Or.inl (own_w hw 12 rfl)) Via.refl e0 F_numbers_t hby d8_1 ?_
  intro T17 X17 e17
  refine own_iloadN X17.here hx hby d8_4 rfl ?_
  refine own_bipush X17.here hx hby d8_5 (v := (12 : Int32)) (by decide) ?_
  refine own_iushr X17.here hx hby d8_7 (v := (0 : Int32)) (by decide) ?_
  refine own_aaload X17 hx hZ e17 V_aN rfl ⟨by decide, by decide⟩ (v := (.ref bN)) rfl hby d8_8 ?_
  refine own_iloadN X17.here hx hby d8_9 rfl ?_
  refine own_sipush X17.here hx hby d8_10 (v := (4095 : Int32)) (by decide) ?_
  refine own_iand X17.here hx hby d8_13 (v := (1 : Int32)) (by decide) ?_
  refine own_bipush X17.here hx hby d8_14 (v := (7 : Int32)) (by decide) ?_
  refine own_imul X17.here hx hby d8_16 (v := (7 : Int32)) (by decide) ?_
  refine own_iloadN X17.here hx hby d8_17 rfl ?_
  refine own_iadd X17.here hx hby d8_18 (v := (9 : Int32)) (by decide) ?_
  refine own_iaload X17 hx hZ e17 V_bN ⟨by decide, by decide⟩ (v := (.int x9)) rfl hby d8_19 ?_
  obtain ⟨fs, hr, hrun, hended, hW, hsame⟩ := X17.leave (v := some (.int x9)) (fun h => by rw [Bd.returns] at h; cases h)
  refine own_ret (t := T17.setFrames fs) ?_ ⟨_, hrun, hended, _, _, rfl, ?_, ⟨_, rfl⟩, hW, hsame.mono (by decide) (by decide)⟩
  · exact retOut X17 hx Bd.returns rfl (Or.inl ⟨rfl, Or.inl rfl, _, rfl⟩) (hb hby d8_20) hr
  · show Q_get_1_2_14 Z t aN bN kN kb x0 x1 x2 x3 x4 x5 x6 x7 x8 x9 x10 x11 x12 x13 h0 n0 _ T17.heap _
    rw [e17]
    exact ⟨rfl, N0, rfl⟩
def Q_end_1_14 (Z : State) (t : Nat) (aN : Nat) (bN : Nat) (kN : ClassId) (kb : ClassId) (x0 : Int32) (x1 : Int32) (x2 : Int32) (x3 : Int32) (x4 : Int32) (x5 : Int32) (x6 : Int32) (x7 : Int32) (x8 : Int32) (x9 : Int32) (x10 : Int32) (x11 : Int32) (x12 : Int32) (x13 : Int32) (h0 : Heap) (n0 : Nat) (vR : Option Value) (hR : Heap) (LR : List Loc) : Prop := vR = some (.int x9) ∧ Fr n0 LR ∧ hR = h0
set_option maxRecDepth 65536 in
set_option maxHeartbeats 40000000 in
theorem end_1_14 (l : Launch) (Z : State) (a0 : Array Value) (hw : ∀ d ∈ tables_1, d.before a0 Z = true) (ws : List Jvm.Cond) (t : Nat) (aN : Nat) (bN : Nat) (kN : ClassId) (kb : ClassId) (x0 : Int32) (x1 : Int32) (x2 : Int32) (x3 : Int32) (x4 : Int32) (x5 : Int32) (x6 : Int32) (x7 : Int32) (x8 : Int32) (x9 : Int32) (x10 : Int32) (x11 : Int32) (x12 : Int32) (x13 : Int32) (h0 : Heap) (n0 : Nat) (Z0 : n0 ≤ h0.size) (E_t : Exa Z h0 t "com/example/boxwood/boxwood/XmlNodeTable") (F_numbers_t : Fld Z h0 t "com/example/boxwood/boxwood/XmlNodeTable" "numbers" "[[I" (.ref aN)) (V_aN : Arv Z h0 aN kN (.array .int) (1 : Int32) [(.ref bN)] .null) (V_bN : Arv Z h0 bN kb .int (28672 : Int32) [(.int x0), (.int x1), (.int x2), (.int x3), (.int x4), (.int x5), (.int x6), (.int x7), (.int x8), (.int x9), (.int x10), (.int x11), (.int x12), (.int x13)] (.int 0)) :
    own_M l (⟨"com/example/boxwood/boxwood/XmlNodeTable", "end", "(I)I"⟩ : MethodName) prog_60_method_12_code 2 (some .int) ws ({ frames := 1, cells := 0, slots := 0, locals := 14 } : Room) Z #[(.ref t), (.int 1)] h0 (Q_end_1_14 Z t aN bN kN kb x0 x1 x2 x3 x4 x5 x6 x7 x8 x9 x10 x11 x12 x13 h0 n0) := by
  refine own_body (own := "com/example/boxwood/boxwood/XmlNodeTable") rfl (plainFor_of_name pn_9) (fun m => ef_end_0_14 m t (1 : Int32)) ?_
  intro p e s m below meth c s₁ Bd hml hZ hh hx hby hown X0 e0
  have N0 := Fr.nil n0
  have lt14 : h0.size > t := E_t.lt
  have lt15 : h0.size > aN := V_aN.lt
  have lt16 : h0.size > bN := V_bN.lt
  refine own_aloadN X0.here hx hby d9_0 rfl rfl ?_
  refine own_iloadN X0.here hx hby d9_1 rfl ?_
  refine own_iconst X0.here hx hby d9_2 (v := (2 : Int32)) (by decide) ?_
  refine own_private X0 hx hZ hown (own_w hw 60 rfl) (own_w hw 61 rfl) (own_w hw 1 rfl) (own_w hw 62 rfl) (own_w hw 2 rfl) (own_w hw 63 rfl) (by decide) (get_1_2_14 l Z a0 hw [] t aN bN kN kb x0 x1 x2 x3 x4 x5 x6 x7 x8 x9 x10 x11 x12 x13 h0 n0 Z0 F_numbers_t V_aN V_bN) 0 (Nat.le_of_eq rfl) (by decide) (by decide) (by rw [hml]; rfl) (argsL := [(.int 1), (.int 2)]) (st := []) E_t (lenOf pd_2 rfl) rfl rfl (by decide) (by decide) e0 hby d9_3 ?_
  intro T17 v17 L17 X17 hQ17
  obtain ⟨rfl, Nq17, eh17⟩ := hQ17
  have N17 := Fr.app N0 Nq17
  refine own_sh (T := T17) 6 #[.val (.ref t), .val (.int 1)] [(.int x9)] ?_
  obtain ⟨fs, hr, hrun, hended, hW, hsame⟩ := X17.leave (v := some (.int x9)) (fun h => by rw [Bd.returns] at h; cases h)
  refine own_ret (t := T17.setFrames fs) ?_ ⟨_, hrun, hended, _, _, rfl, ?_, ⟨_, rfl⟩, hW, hsame.mono (by decide) (by decide)⟩
  · exact retOut X17 hx Bd.returns rfl (Or.inl ⟨rfl, Or.inl rfl, _, rfl⟩) (hb hby d9_6) hr
  · show Q_end_1_14 Z t aN bN kN kb x0 x1 x2 x3 x4 x5 x6 x7 x8 x9 x10 x11 x12 x13 h0 n0 _ T17.heap _
    rw [eh17]
    exact ⟨rfl, N17, rfl⟩
def Q_get_1_3_14 (Z : State) (t : Nat) (aN : Nat) (bN : Nat) (kN : ClassId) (kb : ClassId) (x0 : Int32) (x1 : Int32) (x2 : Int32) (x3 : Int32) (x4 : Int32) (x5 : Int32) (x6 : Int32) (x7 : Int32) (x8 : Int32) (x9 : Int32) (x10 : Int32) (x11 : Int32) (x12 : Int32) (x13 : Int32) (h0 : Heap) (n0 : Nat) (vR : Option Value) (hR : Heap) (LR : List Loc) : Prop := vR = some (.int x10) ∧ Fr n0 LR ∧ hR = h0
set_option maxRecDepth 65536 in
set_option maxHeartbeats 40000000 in
theorem get_1_3_14 (l : Launch) (Z : State) (a0 : Array Value) (hw : ∀ d ∈ tables_1, d.before a0 Z = true) (ws : List Jvm.Cond) (t : Nat) (aN : Nat) (bN : Nat) (kN : ClassId) (kb : ClassId) (x0 : Int32) (x1 : Int32) (x2 : Int32) (x3 : Int32) (x4 : Int32) (x5 : Int32) (x6 : Int32) (x7 : Int32) (x8 : Int32) (x9 : Int32) (x10 : Int32) (x11 : Int32) (x12 : Int32) (x13 : Int32) (h0 : Heap) (n0 : Nat) (Z0 : n0 ≤ h0.size) (F_numbers_t : Fld Z h0 t "com/example/boxwood/boxwood/XmlNodeTable" "numbers" "[[I" (.ref aN)) (V_aN : Arv Z h0 aN kN (.array .int) (1 : Int32) [(.ref bN)] .null) (V_bN : Arv Z h0 bN kb .int (28672 : Int32) [(.int x0), (.int x1), (.int x2), (.int x3), (.int x4), (.int x5), (.int x6), (.int x7), (.int x8), (.int x9), (.int x10), (.int x11), (.int x12), (.int x13)] (.int 0)) :
    own_M l (⟨"com/example/boxwood/boxwood/XmlNodeTable", "get", "(II)I"⟩ : MethodName) prog_60_method_26_code 3 (some .int) ws ({ frames := 0, cells := 0, slots := 0, locals := 0 } : Room) Z #[(.ref t), (.int 1), (.int 3)] h0 (Q_get_1_3_14 Z t aN bN kN kb x0 x1 x2 x3 x4 x5 x6 x7 x8 x9 x10 x11 x12 x13 h0 n0) := by
  refine own_body (own := "com/example/boxwood/boxwood/XmlNodeTable") rfl (plainFor_of_name pn_8) (fun m => ef_get_0_5_14 m t (1 : Int32) (3 : Int32)) ?_
  intro p e s m below meth c s₁ Bd hml hZ hh hx hby hown X0 e0
  have N0 := Fr.nil n0
  have lt14 : h0.size > t := F_numbers_t.lt
  have lt15 : h0.size > aN := V_aN.lt
  have lt16 : h0.size > bN := V_bN.lt
  refine own_aloadN X0.here hx hby d8_0 rfl rfl ?_
  refine own_getF X0 hx hZ hown (host := "") (Or.inl (own_w hw 12 rfl)) Via.refl e0 F_numbers_t hby d8_1 ?_
  intro T17 X17 e17
  refine own_iloadN X17.here hx hby d8_4 rfl ?_
  refine own_bipush X17.here hx hby d8_5 (v := (12 : Int32)) (by decide) ?_
  refine own_iushr X17.here hx hby d8_7 (v := (0 : Int32)) (by decide) ?_
  refine own_aaload X17 hx hZ e17 V_aN rfl ⟨by decide, by decide⟩ (v := (.ref bN)) rfl hby d8_8 ?_
  refine own_iloadN X17.here hx hby d8_9 rfl ?_
  refine own_sipush X17.here hx hby d8_10 (v := (4095 : Int32)) (by decide) ?_
  refine own_iand X17.here hx hby d8_13 (v := (1 : Int32)) (by decide) ?_
  refine own_bipush X17.here hx hby d8_14 (v := (7 : Int32)) (by decide) ?_
  refine own_imul X17.here hx hby d8_16 (v := (7 : Int32)) (by decide) ?_
  refine own_iloadN X17.here hx hby d8_17 rfl ?_
  refine own_iadd X17.here hx hby d8_18 (v := (10 : Int32)) (by decide) ?_
  refine own_iaload X17 hx hZ e17 V_bN ⟨by decide, by decide⟩ (v := (.int x10)) rfl hby d8_19 ?_
  obtain ⟨fs, hr, hrun, hended, hW, hsame⟩ := X17.leave (v := some (.int x10)) (fun h => by rw [Bd.returns] at h; cases h)
  refine own_ret (t := T17.setFrames fs) ?_ ⟨_, hrun, hended, _, _, rfl, ?_, ⟨_, rfl⟩, hW, hsame.mono (by decide) (by decide)⟩
  · exact retOut X17 hx Bd.returns rfl (Or.inl ⟨rfl, Or.inl rfl, _, rfl⟩) (hb hby d8_20) hr
  · show Q_get_1_3_14 Z t aN bN kN kb x0 x1 x2 x3 x4 x5 x6 x7 x8 x9 x10 x11 x12 x13 h0 n0 _ T17.heap _
    rw [e17]
    exact ⟨rfl, N0, rfl⟩
def Q_next_1_14 (Z : State) (t : Nat) (aN : Nat) (bN : Nat) (kN : ClassId) (kb : ClassId) (x0 : Int32) (x1 : Int32) (x2 : Int32) (x3 : Int32) (x4 : Int32) (x5 : Int32) (x6 : Int32) (x7 : Int32) (x8 : Int32) (x9 : Int32) (x10 : Int32) (x11 : Int32) (x12 : Int32) (x13 : Int32) (h0 : Heap) (n0 : Nat) (vR : Option Value) (hR : Heap) (LR : List Loc) : Prop := vR = some (.int x10) ∧ Fr n0 LR ∧ hR = h0
set_option maxRecDepth 65536 in
set_option maxHeartbeats 40000000 in
theorem next_1_14 (l : Launch) (Z : State) (a0 : Array Value) (hw : ∀ d ∈ tables_1, d.before a0 Z = true) (ws : List Jvm.Cond) (t : Nat) (aN : Nat) (bN : Nat) (kN : ClassId) (kb : ClassId) (x0 : Int32) (x1 : Int32) (x2 : Int32) (x3 : Int32) (x4 : Int32) (x5 : Int32) (x6 : Int32) (x7 : Int32) (x8 : Int32) (x9 : Int32) (x10 : Int32) (x11 : Int32) (x12 : Int32) (x13 : Int32) (h0 : Heap) (n0 : Nat) (Z0 : n0 ≤ h0.size) (E_t : Exa Z h0 t "com/example/boxwood/boxwood/XmlNodeTable") (F_numbers_t : Fld Z h0 t "com/example/boxwood/boxwood/XmlNodeTable" "numbers" "[[I" (.ref aN)) (V_aN : Arv Z h0 aN kN (.array .int) (1 : Int32) [(.ref bN)] .null) (V_bN : Arv Z h0 bN kb .int (28672 : Int32) [(.int x0), (.int x1), (.int x2), (.int x3), (.int x4), (.int x5), (.int x6), (.int x7), (.int x8), (.int x9), (.int x10), (.int x11), (.int x12), (.int x13)] (.int 0)) :
    own_M l (⟨"com/example/boxwood/boxwood/XmlNodeTable", "next", "(I)I"⟩ : MethodName) prog_60_method_13_code 2 (some .int) ws ({ frames := 1, cells := 0, slots := 0, locals := 14 } : Room) Z #[(.ref t), (.int 1)] h0 (Q_next_1_14 Z t aN bN kN kb x0 x1 x2 x3 x4 x5 x6 x7 x8 x9 x10 x11 x12 x13 h0 n0) := by
  refine own_body (own := "com/example/boxwood/boxwood/XmlNodeTable") rfl (plainFor_of_name pn_10) (fun m => ef_next_0_14 m t (1 : Int32)) ?_
  intro p e s m below meth c s₁ Bd hml hZ hh hx hby hown X0 e0
  have N0 := Fr.nil n0
  have lt14 : h0.size > t := E_t.lt
  have lt15 : h0.size > aN := V_aN.lt
  have lt16 : h0.size > bN := V_bN.lt
  refine own_aloadN X0.here hx hby d10_0 rfl rfl ?_
  refine own_iloadN X0.here hx hby d10_1 rfl ?_
  refine own_iconst X0.here hx hby d10_2 (v := (3 : Int32)) (by decide) ?_
  refine own_private X0 hx hZ hown (own_w hw 60 rfl) (own_w hw 61 rfl) (own_w hw 1 rfl) (own_w hw 62 rfl) (own_w hw 2 rfl) (own_w hw 63 rfl) (by decide) (get_1_3_14 l Z a0 hw [] t aN bN kN kb x0 x1 x2 x3 x4 x5 x6 x7 x8 x9 x10 x11 x12 x13 h0 n0 Z0 F_numbers_t V_aN V_bN) 0 (Nat.le_of_eq rfl) (by decide) (by decide) (by rw [hml]; rfl) (argsL := [(.int 1), (.int 3)]) (st := []) E_t (lenOf pd_2 rfl) rfl rfl (by decide) (by decide) e0 hby d10_3 ?_
  intro T17 v17 L17 X17 hQ17
  obtain ⟨rfl, Nq17, eh17⟩ := hQ17
  have N17 := Fr.app N0 Nq17
  refine own_sh (T := T17) 6 #[.val (.ref t), .val (.int 1)] [(.int x10)] ?_
  obtain ⟨fs, hr, hrun, hended, hW, hsame⟩ := X17.leave (v := some (.int x10)) (fun h => by rw [Bd.returns] at h; cases h)
  refine own_ret (t := T17.setFrames fs) ?_ ⟨_, hrun, hended, _, _, rfl, ?_, ⟨_, rfl⟩, hW, hsame.mono (by decide) (by decide)⟩
  · exact retOut X17 hx Bd.returns rfl (Or.inl ⟨rfl, Or.inl rfl, _, rfl⟩) (hb hby d10_6) hr
  · show Q_next_1_14 Z t aN bN kN kb x0 x1 x2 x3 x4 x5 x6 x7 x8 x9 x10 x11 x12 x13 h0 n0 _ T17.heap _
    rw [eh17]
    exact ⟨rfl, N17, rfl⟩
def Q_get_1_1_14 (Z : State) (t : Nat) (aN : Nat) (bN : Nat) (kN : ClassId) (kb : ClassId) (x0 : Int32) (x1 : Int32) (x2 : Int32) (x3 : Int32) (x4 : Int32) (x5 : Int32) (x6 : Int32) (x7 : Int32) (x8 : Int32) (x9 : Int32) (x10 : Int32) (x11 : Int32) (x12 : Int32) (x13 : Int32) (h0 : Heap) (n0 : Nat) (vR : Option Value) (hR : Heap) (LR : List Loc) : Prop := vR = some (.int x8) ∧ Fr n0 LR ∧ hR = h0
set_option maxRecDepth 65536 in
set_option maxHeartbeats 40000000 in
theorem get_1_1_14 (l : Launch) (Z : State) (a0 : Array Value) (hw : ∀ d ∈ tables_1, d.before a0 Z = true) (ws : List Jvm.Cond) (t : Nat) (aN : Nat) (bN : Nat) (kN : ClassId) (kb : ClassId) (x0 : Int32) (x1 : Int32) (x2 : Int32) (x3 : Int32) (x4 : Int32) (x5 : Int32) (x6 : Int32) (x7 : Int32) (x8 : Int32) (x9 : Int32) (x10 : Int32) (x11 : Int32) (x12 : Int32) (x13 : Int32) (h0 : Heap) (n0 : Nat) (Z0 : n0 ≤ h0.size) (F_numbers_t : Fld Z h0 t "com/example/boxwood/boxwood/XmlNodeTable" "numbers" "[[I" (.ref aN)) (V_aN : Arv Z h0 aN kN (.array .int) (1 : Int32) [(.ref bN)] .null) (V_bN : Arv Z h0 bN kb .int (28672 : Int32) [(.int x0), (.int x1), (.int x2), (.int x3), (.int x4), (.int x5), (.int x6), (.int x7), (.int x8), (.int x9), (.int x10), (.int x11), (.int x12), (.int x13)] (.int 0)) :
    own_M l (⟨"com/example/boxwood/boxwood/XmlNodeTable", "get", "(II)I"⟩ : MethodName) prog_60_method_26_code 3 (some .int) ws ({ frames := 0, cells := 0, slots := 0, locals := 0 } : Room) Z #[(.ref t), (.int 1), (.int 1)] h0 (Q_get_1_1_14 Z t aN bN kN kb x0 x1 x2 x3 x4 x5 x6 x7 x8 x9 x10 x11 x12 x13 h0 n0) := by
  refine own_body (own := "com/example/boxwood/boxwood/XmlNodeTable") rfl (plainFor_of_name pn_8) (fun m => ef_get_0_5_14 m t (1 : Int32) (1 : Int32)) ?_
  intro p e s m below meth c s₁ Bd hml hZ hh hx hby hown X0 e0
  have N0 := Fr.nil n0
  have lt14 : h0.size > t := F_numbers_t.lt
  have lt15 : h0.size > aN := V_aN.lt
  have lt16 : h0.size > bN := V_bN.lt
  refine own_aloadN X0.here hx hby d8_0 rfl rfl ?_
  refine own_getF X0 hx hZ hown (host := "") (Or.inl (own_w hw 12 rfl)) Via.refl e0 F_numbers_t hby d8_1 ?_
  intro T17 X17 e17
  refine own_iloadN X17.here hx hby d8_4 rfl ?_
  refine own_bipush X17.here hx hby d8_5 (v := (12 : Int32)) (by decide) ?_
  refine own_iushr X17.here hx hby d8_7 (v := (0 : Int32)) (by decide) ?_
  refine own_aaload X17 hx hZ e17 V_aN rfl ⟨by decide, by decide⟩ (v := (.ref bN)) rfl hby d8_8 ?_
  refine own_iloadN X17.here hx hby d8_9 rfl ?_
  refine own_sipush X17.here hx hby d8_10 (v := (4095 : Int32)) (by decide) ?_
  refine own_iand X17.here hx hby d8_13 (v := (1 : Int32)) (by decide) ?_
  refine own_bipush X17.here hx hby d8_14 (v := (7 : Int32)) (by decide) ?_
  refine own_imul X17.here hx hby d8_16 (v := (7 : Int32)) (by decide) ?_
  refine own_iloadN X17.here hx hby d8_17 rfl ?_
  refine own_iadd X17.here hx hby d8_18 (v := (8 : Int32)) (by decide) ?_
  refine own_iaload X17 hx hZ e17 V_bN ⟨by decide, by decide⟩ (v := (.int x8)) rfl hby d8_19 ?_
  obtain ⟨fs, hr, hrun, hended, hW, hsame⟩ := X17.leave (v := some (.int x8)) (fun h => by rw [Bd.returns] at h; cases h)
  refine own_ret (t := T17.setFrames fs) ?_ ⟨_, hrun, hended, _, _, rfl, ?_, ⟨_, rfl⟩, hW, hsame.mono (by decide) (by decide)⟩
  · exact retOut X17 hx Bd.returns rfl (Or.inl ⟨rfl, Or.inl rfl, _, rfl⟩) (hb hby d8_20) hr
  · show Q_get_1_1_14 Z t aN bN kN kb x0 x1 x2 x3 x4 x5 x6 x7 x8 x9 x10 x11 x12 x13 h0 n0 _ T17.heap _
    rw [e17]
    exact ⟨rfl, N0, rfl⟩
def Q_start_1_14 (Z : State) (t : Nat) (aN : Nat) (bN : Nat) (kN : ClassId) (kb : ClassId) (x0 : Int32) (x1 : Int32) (x2 : Int32) (x3 : Int32) (x4 : Int32) (x5 : Int32) (x6 : Int32) (x7 : Int32) (x8 : Int32) (x9 : Int32) (x10 : Int32) (x11 : Int32) (x12 : Int32) (x13 : Int32) (h0 : Heap) (n0 : Nat) (vR : Option Value) (hR : Heap) (LR : List Loc) : Prop := vR = some (.int x8) ∧ Fr n0 LR ∧ hR = h0
set_option maxRecDepth 65536 in
set_option maxHeartbeats 40000000 in
theorem start_1_14 (l : Launch) (Z : State) (a0 : Array Value) (hw : ∀ d ∈ tables_1, d.before a0 Z = true) (ws : List Jvm.Cond) (t : Nat) (aN : Nat) (bN : Nat) (kN : ClassId) (kb : ClassId) (x0 : Int32) (x1 : Int32) (x2 : Int32) (x3 : Int32) (x4 : Int32) (x5 : Int32) (x6 : Int32) (x7 : Int32) (x8 : Int32) (x9 : Int32) (x10 : Int32) (x11 : Int32) (x12 : Int32) (x13 : Int32) (h0 : Heap) (n0 : Nat) (Z0 : n0 ≤ h0.size) (E_t : Exa Z h0 t "com/example/boxwood/boxwood/XmlNodeTable") (F_numbers_t : Fld Z h0 t "com/example/boxwood/boxwood/XmlNodeTable" "numbers" "[[I" (.ref aN)) (V_aN : Arv Z h0 aN kN (.array .int) (1 : Int32) [(.ref bN)] .null) (V_bN : Arv Z h0 bN kb .int (28672 : Int32) [(.int x0), (.int x1), (.int x2), (.int x3), (.int x4), (.int x5), (.int x6), (.int x7), (.int x8), (.int x9), (.int x10), (.int x11), (.int x12), (.int x13)] (.int 0)) :
    own_M l (⟨"com/example/boxwood/boxwood/XmlNodeTable", "start", "(I)I"⟩ : MethodName) prog_60_method_11_code 2 (some .int) ws ({ frames := 1, cells := 0, slots := 0, locals := 14 } : Room) Z #[(.ref t), (.int 1)] h0 (Q_start_1_14 Z t aN bN kN kb x0 x1 x2 x3 x4 x5 x6 x7 x8 x9 x10 x11 x12 x13 h0 n0) := by
  refine own_body (own := "com/example/boxwood/boxwood/XmlNodeTable") rfl (plainFor_of_name pn_11) (fun m => ef_start_0_14 m t (1 : Int32)) ?_
  intro p e s m below meth c s₁ Bd hml hZ hh hx hby hown X0 e0
  have N0 := Fr.nil n0
  have lt14 : h0.size > t := E_t.lt
  have lt15 : h0.size > aN := V_aN.lt
  have lt16 : h0.size > bN := V_bN.lt
  refine own_aloadN X0.here hx hby d11_0 rfl rfl ?_
  refine own_iloadN X0.here hx hby d11_1 rfl ?_
  refine own_iconst X0.here hx hby d11_2 (v := (1 : Int32)) (by decide) ?_
  refine own_private X0 hx hZ hown (own_w hw 60 rfl) (own_w hw 61 rfl) (own_w hw 1 rfl) (own_w hw 62 rfl) (own_w hw 2 rfl) (own_w hw 63 rfl) (by decide) (get_1_1_14 l Z a0 hw [] t aN bN kN kb x0 x1 x2 x3 x4 x5 x6 x7 x8 x9 x10 x11 x12 x13 h0 n0 Z0 F_numbers_t V_aN V_bN) 0 (Nat.le_of_eq rfl) (by decide) (by decide) (by rw [hml]; rfl) (argsL := [(.int 1), (.int 1)]) (st := []) E_t (lenOf pd_2 rfl) rfl rfl (by decide) (by decide) e0 hby d11_3 ?_
  intro T17 v17 L17 X17 hQ17
  obtain ⟨rfl, Nq17, eh17⟩ := hQ17
  have N17 := Fr.app N0 Nq17
  refine own_sh (T := T17) 6 #[.val (.ref t), .val (.int 1)] [(.int x8)] ?_
  obtain ⟨fs, hr, hrun, hended, hW, hsame⟩ := X17.leave (v := some (.int x8)) (fun h => by rw [Bd.returns] at h; cases h)
  refine own_ret (t := T17.setFrames fs) ?_ ⟨_, hrun, hended, _, _, rfl, ?_, ⟨_, rfl⟩, hW, hsame.mono (by decide) (by decide)⟩
  · exact retOut X17 hx Bd.returns rfl (Or.inl ⟨rfl, Or.inl rfl, _, rfl⟩) (hb hby d11_6) hr
  · show Q_start_1_14 Z t aN bN kN kb x0 x1 x2 x3 x4 x5 x6 x7 x8 x9 x10 x11 x12 x13 h0 n0 _ T17.heap _
    rw [eh17]
    exact ⟨rfl, N17, rfl⟩
def Q_get_1_4_14 (Z : State) (t : Nat) (aN : Nat) (bN : Nat) (kN : ClassId) (kb : ClassId) (x0 : Int32) (x1 : Int32) (x2 : Int32) (x3 : Int32) (x4 : Int32) (x5 : Int32) (x6 : Int32) (x7 : Int32) (x8 : Int32) (x9 : Int32) (x10 : Int32) (x11 : Int32) (x12 : Int32) (x13 : Int32) (h0 : Heap) (n0 : Nat) (vR : Option Value) (hR : Heap) (LR : List Loc) : Prop := vR = some (.int x11) ∧ Fr n0 LR ∧ hR = h0
set_option maxRecDepth 65536 in
set_option maxHeartbeats 40000000 in
theorem get_1_4_14 (l : Launch) (Z : State) (a0 : Array Value) (hw : ∀ d ∈ tables_1, d.before a0 Z = true) (ws : List Jvm.Cond) (t : Nat) (aN : Nat) (bN : Nat) (kN : ClassId) (kb : ClassId) (x0 : Int32) (x1 : Int32) (x2 : Int32) (x3 : Int32) (x4 : Int32) (x5 : Int32) (x6 : Int32) (x7 : Int32) (x8 : Int32) (x9 : Int32) (x10 : Int32) (x11 : Int32) (x12 : Int32) (x13 : Int32) (h0 : Heap) (n0 : Nat) (Z0 : n0 ≤ h0.size) (F_numbers_t : Fld Z h0 t "com/example/boxwood/boxwood/XmlNodeTable" "numbers" "[[I" (.ref aN)) (V_aN : Arv Z h0 aN kN (.array .int) (1 : Int32) [(.ref bN)] .null) (V_bN : Arv Z h0 bN kb .int (28672 : Int32) [(.int x0), (.int x1), (.int x2), (.int x3), (.int x4), (.int x5), (.int x6), (.int x7), (.int x8), (.int x9), (.int x10), (.int x11), (.int x12), (.int x13)] (.int 0)) :
    own_M l (⟨"com/example/boxwood/boxwood/XmlNodeTable", "get", "(II)I"⟩ : MethodName) prog_60_method_26_code 3 (some .int) ws ({ frames := 0, cells := 0, slots := 0, locals := 0 } : Room) Z #[(.ref t), (.int 1), (.int 4)] h0 (Q_get_1_4_14 Z t aN bN kN kb x0 x1 x2 x3 x4 x5 x6 x7 x8 x9 x10 x11 x12 x13 h0 n0) := by
  refine own_body (own := "com/example/boxwood/boxwood/XmlNodeTable") rfl (plainFor_of_name pn_8) (fun m => ef_get_0_5_14 m t (1 : Int32) (4 : Int32)) ?_
  intro p e s m below meth c s₁ Bd hml hZ hh hx hby hown X0 e0
  have N0 := Fr.nil n0
  have lt14 : h0.size > t := F_numbers_t.lt
  have lt15 : h0.size > aN := V_aN.lt
  have lt16 : h0.size > bN := V_bN.lt
  refine own_aloadN X0.here hx hby d8_0 rfl rfl ?_
  refine own_getF X0 hx hZ hown (host := "") (Or.inl (own_w hw 12 rfl)) Via.refl e0 F_numbers_t hby d8_1 ?_
  intro T17 X17 e17
  refine own_iloadN X17.here hx hby d8_4 rfl ?_
  refine own_bipush X17.here hx hby d8_5 (v := (12 : Int32)) (by decide) ?_
  refine own_iushr X17.here hx hby d8_7 (v := (0 : Int32)) (by decide) ?_
  refine own_aaload X17 hx hZ e17 V_aN rfl ⟨by decide, by decide⟩ (v := (.ref bN)) rfl hby d8_8 ?_
  refine own_iloadN X17.here hx hby d8_9 rfl ?_
  refine own_sipush X17.here hx hby d8_10 (v := (4095 : Int32)) (by decide) ?_
  refine own_iand X17.here hx hby d8_13 (v := (1 : Int32)) (by decide) ?_
  refine own_bipush X17.here hx hby d8_14 (v := (7 : Int32)) (by decide) ?_
  refine own_imul X17.here hx hby d8_16 (v := (7 : Int32)) (by decide) ?_
  refine own_iloadN X17.here hx hby d8_17 rfl ?_
  refine own_iadd X17.here hx hby d8_18 (v := (11 : Int32)) (by decide) ?_
  refine own_iaload X17 hx hZ e17 V_bN ⟨by decide, by decide⟩ (v := (.int x11)) rfl hby d8_19 ?_
  obtain ⟨fs, hr, hrun, hended, hW, hsame⟩ := X17.leave (v := some (.int x11)) (fun h => by rw [Bd.returns] at h; cases h)
  refine own_ret (t := T17.setFrames fs) ?_ ⟨_, hrun, hended, _, _, rfl, ?_, ⟨_, rfl⟩, hW, hsame.mono (by decide) (by decide)⟩
  · exact retOut X17 hx Bd.returns rfl (Or.inl ⟨rfl, Or.inl rfl, _, rfl⟩) (hb hby d8_20) hr
  · show Q_get_1_4_14 Z t aN bN kN kb x0 x1 x2 x3 x4 x5 x6 x7 x8 x9 x10 x11 x12 x13 h0 n0 _ T17.heap _
    rw [e17]
    exact ⟨rfl, N0, rfl⟩
def Q_contentStart_1_14 (Z : State) (t : Nat) (aN : Nat) (bN : Nat) (kN : ClassId) (kb : ClassId) (x0 : Int32) (x1 : Int32) (x2 : Int32) (x3 : Int32) (x4 : Int32) (x5 : Int32) (x6 : Int32) (x7 : Int32) (x8 : Int32) (x9 : Int32) (x10 : Int32) (x11 : Int32) (x12 : Int32) (x13 : Int32) (h0 : Heap) (n0 : Nat) (vR : Option Value) (hR : Heap) (LR : List Loc) : Prop := vR = some (.int x11) ∧ Fr n0 LR ∧ hR = h0
set_option maxRecDepth 65536 in
set_option maxHeartbeats 40000000 in
theorem contentStart_1_14 (l : Launch) (Z : State) (a0 : Array Value) (hw : ∀ d ∈ tables_1, d.before a0 Z = true) (ws : List Jvm.Cond) (t : Nat) (aN : Nat) (bN : Nat) (kN : ClassId) (kb : ClassId) (x0 : Int32) (x1 : Int32) (x2 : Int32) (x3 : Int32) (x4 : Int32) (x5 : Int32) (x6 : Int32) (x7 : Int32) (x8 : Int32) (x9 : Int32) (x10 : Int32) (x11 : Int32) (x12 : Int32) (x13 : Int32) (h0 : Heap) (n0 : Nat) (Z0 : n0 ≤ h0.size) (E_t : Exa Z h0 t "com/example/boxwood/boxwood/XmlNodeTable") (F_numbers_t : Fld Z h0 t "com/example/boxwood/boxwood/XmlNodeTable" "numbers" "[[I" (.ref aN)) (V_aN : Arv Z h0 aN kN (.array .int) (1 : Int32) [(.ref bN)] .null) (V_bN : Arv Z h0 bN kb .int (28672 : Int32) [(.int x0), (.int x1), (.int x2), (.int x3), (.int x4), (.int x5), (.int x6), (.int x7), (.int x8), (.int x9), (.int x10), (.int x11), (.int x12), (.int x13)] (.int 0)) :
    own_M l (⟨"com/example/boxwood/boxwood/XmlNodeTable", "contentStart", "(I)I"⟩ : MethodName) prog_60_method_14_code 2 (some .int) ws ({ frames := 1, cells := 0, slots := 0, locals := 14 } : Room) Z #[(.ref t), (.int 1)] h0 (Q_contentStart_1_14 Z t aN bN kN kb x0 x1 x2 x3 x4 x5 x6 x7 x8 x9 x10 x11 x12 x13 h0 n0) := by
  refine own_body (own := "com/example/boxwood/boxwood/XmlNodeTable") rfl (plainFor_of_name pn_12) (fun m => ef_contentStart_0_14 m t (1 : Int32)) ?_
  intro p e s m below meth c s₁ Bd hml hZ hh hx hby hown X0 e0
  have N0 := Fr.nil n0
  have lt14 : h0.size > t := E_t.lt
  have lt15 : h0.size > aN := V_aN.lt
  have lt16 : h0.size > bN := V_bN.lt
  refine own_aloadN X0.here hx hby d12_0 rfl rfl ?_
  refine own_iloadN X0.here hx hby d12_1 rfl ?_
  refine own_iconst X0.here hx hby d12_2 (v := (4 : Int32)) (by decide) ?_
  refine own_private X0 hx hZ hown (own_w hw 60 rfl) (own_w hw 61 rfl) (own_w hw 1 rfl) (own_w hw 62 rfl) (own_w hw 2 rfl) (own_w hw 63 rfl) (by decide) (get_1_4_14 l Z a0 hw [] t aN bN kN kb x0 x1 x2 x3 x4 x5 x6 x7 x8 x9 x10 x11 x12 x13 h0 n0 Z0 F_numbers_t V_aN V_bN) 0 (Nat.le_of_eq rfl) (by decide) (by decide) (by rw [hml]; rfl) (argsL := [(.int 1), (.int 4)]) (st := []) E_t (lenOf pd_2 rfl) rfl rfl (by decide) (by decide) e0 hby d12_3 ?_
  intro T17 v17 L17 X17 hQ17
  obtain ⟨rfl, Nq17, eh17⟩ := hQ17
  have N17 := Fr.app N0 Nq17
  refine own_sh (T := T17) 6 #[.val (.ref t), .val (.int 1)] [(.int x11)] ?_
  obtain ⟨fs, hr, hrun, hended, hW, hsame⟩ := X17.leave (v := some (.int x11)) (fun h => by rw [Bd.returns] at h; cases h)
  refine own_ret (t := T17.setFrames fs) ?_ ⟨_, hrun, hended, _, _, rfl, ?_, ⟨_, rfl⟩, hW, hsame.mono (by decide) (by decide)⟩
  · exact retOut X17 hx Bd.returns rfl (Or.inl ⟨rfl, Or.inl rfl, _, rfl⟩) (hb hby d12_6) hr
  · show Q_contentStart_1_14 Z t aN bN kN kb x0 x1 x2 x3 x4 x5 x6 x7 x8 x9 x10 x11 x12 x13 h0 n0 _ T17.heap _
    rw [eh17]
    exact ⟨rfl, N17, rfl⟩
def Q_endE_0_3 (Z : State) (t : Nat) (aN : Nat) (bN : Nat) (p1 : Int32) (p2 : Int32) (ac : Int32) (kN : ClassId) (kb : ClassId) (x0 : Int32) (x1 : Int32) (x2 : Int32) (x3 : Int32) (x4 : Int32) (x5 : Int32) (x6 : Int32) (x7 : Int32) (x8 : Int32) (x9 : Int32) (x10 : Int32) (x11 : Int32) (x12 : Int32) (x13 : Int32) (x14 : Int32) (x15 : Int32) (x16 : Int32) (x17 : Int32) (x18 : Int32) (x19 : Int32) (x20 : Int32) (h0 : Heap) (n0 : Nat) (vR : Option Value) (hR : Heap) (LR : List Loc) : Prop := vR = none ∧ Fr n0 LR ∧ Keep h0 hR [bN] ∧ (Arv Z hR bN kb .int (28672 : Int32) [(.int x0), (.int x1), (.int p2), (.int 3), (.int x4), (.int p1), (.int x6), (.int x7), (.int x8), (.int x9), (.int x10), (.int x11), (.int x12), (.int x13), (.int x14), (.int x15), (.int x16), (.int x17), (.int x18), (.int x19), (.int x20)] (.int 0))
set_option maxRecDepth 65536 in
set_option maxHeartbeats 40000000 in
theorem endE_0_3 (l : Launch) (Z : State) (a0 : Array Value) (hw : ∀ d ∈ tables_1, d.before a0 Z = true) (ws : List Jvm.Cond) (t : Nat) (aN : Nat) (bN : Nat) (p1 : Int32) (p2 : Int32) (ac : Int32) (kN : ClassId) (kb : ClassId) (x0 : Int32) (x1 : Int32) (x2 : Int32) (x3 : Int32) (x4 : Int32) (x5 : Int32) (x6 : Int32) (x7 : Int32) (x8 : Int32) (x9 : Int32) (x10 : Int32) (x11 : Int32) (x12 : Int32) (x13 : Int32) (x14 : Int32) (x15 : Int32) (x16 : Int32) (x17 : Int32) (x18 : Int32) (x19 : Int32) (x20 : Int32) (h0 : Heap) (n0 : Nat) (Z0 : n0 ≤ h0.size) (E_t : Exa Z h0 t "com/example/boxwood/boxwood/XmlNodeTable") (F_size_t : Fld Z h0 t "com/example/boxwood/boxwood/XmlNodeTable" "size" "I" (.int 3)) (F_numbers_t : Fld Z h0 t "com/example/boxwood/boxwood/XmlNodeTable" "numbers" "[[I" (.ref aN)) (F_attributeCount_t : Fld Z h0 t "com/example/boxwood/boxwood/XmlNodeTable" "attributeCount" "I" (.int ac)) (V_aN : Arv Z h0 aN kN (.array .int) (1 : Int32) [(.ref bN)] .null) (V_bN : Arv Z h0 bN kb .int (28672 : Int32) [(.int x0), (.int x1), (.int x2), (.int x3), (.int x4), (.int x5), (.int x6), (.int x7), (.int x8), (.int x9), (.int x10), (.int x11), (.int x12), (.int x13), (.int x14), (.int x15), (.int x16), (.int x17), (.int x18), (.int x19), (.int x20)] (.int 0)) (g_bN : n0 ≤ bN) :
    own_M l (⟨"com/example/boxwood/boxwood/XmlNodeTable", "endElement", "(III)V"⟩ : MethodName) prog_60_method_7_code 6 none ws ({ frames := 0, cells := 0, slots := 0, locals := 0 } : Room) Z #[(.ref t), (.int 0), (.int p1), (.int p2)] h0 (Q_endE_0_3 Z t aN bN p1 p2 ac kN kb x0 x1 x2 x3 x4 x5 x6 x7 x8 x9 x10 x11 x12 x13 x14 x15 x16 x17 x18 x19 x20 h0 n0) := by
  refine own_body (own := "com/example/boxwood/boxwood/XmlNodeTable") rfl (plainFor_of_name pn_6) (fun m => ef_endE_0_2 m t (0 : Int32) p1 p2) ?_
  intro p e s m below meth c s₁ Bd hml hZ hh hx hby hown X0 e0
  have N0 := Fr.nil n0
  have lt21 : h0.size > t := E_t.lt
  have lt22 : h0.size > aN := V_aN.lt
  have lt23 : h0.size > bN := V_bN.lt
  refine own_aloadN X0.here hx hby d6_0 rfl rfl ?_
  refine own_getF X0 hx hZ hown (host := "") (Or.inl (own_w hw 12 rfl)) Via.refl e0 F_numbers_t hby d6_1 ?_
  intro T24 X24 e24
  refine own_iloadN X24.here hx hby d6_4 rfl ?_
  refine own_bipush X24.here hx hby d6_5 (v := (12 : Int32)) (by decide) ?_
  refine own_iushr X24.here hx hby d6_7 (v := (0 : Int32)) (by decide) ?_
  refine own_aaload X24 hx hZ e24 V_aN rfl ⟨by decide, by decide⟩ (v := (.ref bN)) rfl hby d6_8 ?_
  refine own_astore X24.here hx hby d6_9 rfl (l' := #[.val (.ref t), .val (.int 0), .val (.int p1), .val (.int p2), .val (.ref bN), .unset]) rfl ?_
  refine own_iloadN X24.here hx hby d6_11 rfl ?_
  refine own_sipush X24.here hx hby d6_12 (v := (4095 : Int32)) (by decide) ?_
  refine own_iand X24.here hx hby d6_15 (v := (0 : Int32)) (by decide) ?_
  refine own_bipush X24.here hx hby d6_16 (v := (7 : Int32)) (by decide) ?_
  refine own_imul X24.here hx hby d6_18 (v := (0 : Int32)) (by decide) ?_
  refine own_istore X24.here hx hby d6_19 (l' := #[.val (.ref t), .val (.int 0), .val (.int p1), .val (.int p2), .val (.ref bN), .val (.int 0)]) rfl ?_
  refine own_aload X24.here hx hby d6_21 rfl rfl ?_
  refine own_iload X24.here hx hby d6_23 rfl ?_
  refine own_iconst X24.here hx hby d6_25 (v := (5 : Int32)) (by decide) ?_
  refine own_iadd X24.here hx hby d6_26 (v := (5 : Int32)) (by decide) ?_
  refine own_iloadN X24.here hx hby d6_27 rfl ?_
  refine own_iastore X24 hx hZ e24 V_bN ⟨by decide, by decide⟩ 5 (by decide) (Nat.le_of_ble_eq_true rfl) rfl hby d6_28 N0 g_bN ?_
  intro T25 h25 lo25 X25 e25 N25 W25 V25 z25
  have V26 : Arv Z h25 bN kb .int (28672 : Int32) [(.int x0), (.int x1), (.int x2), (.int x3), (.int x4), (.int p1), (.int x6), (.int x7), (.int x8), (.int x9), (.int x10), (.int x11), (.int x12), (.int x13), (.int x14), (.int x15), (.int x16), (.int x17), (.int x18), (.int x19), (.int x20)] (.int 0) := V25
  refine own_aload X25.here hx hby d6_29 rfl rfl ?_
  refine own_iload X25.here hx hby d6_31 rfl ?_
  refine own_iconst X25.here hx hby d6_33 (v := (2 : Int32)) (by decide) ?_
  refine own_iadd X25.here hx hby d6_34 (v := (2 : Int32)) (by decide) ?_
  refine own_iloadN X25.here hx hby d6_35 rfl ?_
  refine own_iastore X25 hx hZ e25 V26 ⟨by decide, by decide⟩ 2 (by decide) (Nat.le_of_ble_eq_true rfl) rfl hby d6_36 N25 g_bN ?_
  intro T27 h27 lo27 X27 e27 N27 W27 V27 z27
  have V28 : Arv Z h27 bN kb .int (28672 : Int32) [(.int x0), (.int x1), (.int p2), (.int x3), (.int x4), (.int p1), (.int x6), (.int x7), (.int x8), (.int x9), (.int x10), (.int x11), (.int x12), (.int x13), (.int x14), (.int x15), (.int x16), (.int x17), (.int x18), (.int x19), (.int x20)] (.int 0) := V27
  refine own_aload X27.here hx hby d6_37 rfl rfl ?_
  refine own_iload X27.here hx hby d6_39 rfl ?_
  refine own_iconst X27.here hx hby d6_41 (v := (3 : Int32)) (by decide) ?_
  refine own_iadd X27.here hx hby d6_42 (v := (3 : Int32)) (by decide) ?_
  refine own_aloadN X27.here hx hby d6_43 rfl rfl ?_
  have f29 : Fld Z h27 t "com/example/boxwood/boxwood/XmlNodeTable" "size" "I" (.int 3) := ((F_size_t.other W25 (Or.inl (own_ne_oa E_t (own_w hw 1 rfl) V_bN))).other W27 (Or.inl (own_ne_oa E_t (own_w hw 1 rfl) V_bN)))
  refine own_getF X27 hx hZ hown (host := "") (Or.inl (own_w hw 37 rfl)) Via.refl e27 f29 hby d6_44 ?_
  intro T30 X30 e30
  refine own_iastore X30 hx hZ e30 V28 ⟨by decide, by decide⟩ 3 (by decide) (Nat.le_of_ble_eq_true rfl) rfl hby d6_47 N27 g_bN ?_
  intro T31 h31 lo31 X31 e31 N31 W31 V31 z31
  have V32 : Arv Z h31 bN kb .int (28672 : Int32) [(.int x0), (.int x1), (.int p2), (.int 3), (.int x4), (.int p1), (.int x6), (.int x7), (.int x8), (.int x9), (.int x10), (.int x11), (.int x12), (.int x13), (.int x14), (.int x15), (.int x16), (.int x17), (.int x18), (.int x19), (.int x20)] (.int 0) := V31
  have K33 : Keep h0 h31 [bN] := ((((Keep.refl h0 [bN]).wr W25 (Or.inl (List.mem_of_getElem? (i := 0) rfl))).wr W27 (Or.inl (List.mem_of_getElem? (i := 0) rfl))).wr W31 (Or.inl (List.mem_of_getElem? (i := 0) rfl)))
  obtain ⟨fs, hr, hrun, hended, hW, hsame⟩ := X31.leave (v := none) (fun _ => rfl)
  refine own_ret (t := T31.setFrames fs) ?_ ⟨_, hrun, hended, _, _, rfl, ?_, ⟨_, rfl⟩, hW, hsame.mono (by decide) (by decide)⟩
  · exact X31.returnOut hx Bd.returns (hb hby d6_48) hr
  · show Q_endE_0_3 Z t aN bN p1 p2 ac kN kb x0 x1 x2 x3 x4 x5 x6 x7 x8 x9 x10 x11 x12 x13 x14 x15 x16 x17 x18 x19 x20 h0 n0 _ T31.heap _
    rw [e31]
    exact ⟨rfl, N31, K33, V32⟩
def Q_get_0_5_21 (Z : State) (t : Nat) (aN : Nat) (bN : Nat) (kN : ClassId) (kb : ClassId) (x0 : Int32) (x1 : Int32) (x2 : Int32) (x3 : Int32) (x4 : Int32) (x5 : Int32) (x6 : Int32) (x7 : Int32) (x8 : Int32) (x9 : Int32) (x10 : Int32) (x11 : Int32) (x12 : Int32) (x13 : Int32) (x14 : Int32) (x15 : Int32) (x16 : Int32) (x17 : Int32) (x18 : Int32) (x19 : Int32) (x20 : Int32) (h0 : Heap) (n0 : Nat) (vR : Option Value) (hR : Heap) (LR : List Loc) : Prop := vR = some (.int x5) ∧ Fr n0 LR ∧ hR = h0
set_option maxRecDepth 65536 in
set_option maxHeartbeats 40000000 in
theorem get_0_5_21 (l : Launch) (Z : State) (a0 : Array Value) (hw : ∀ d ∈ tables_1, d.before a0 Z = true) (ws : List Jvm.Cond) (t : Nat) (aN : Nat) (bN : Nat) (kN : ClassId) (kb : ClassId) (x0 : Int32) (x1 : Int32) (x2 : Int32) (x3 : Int32) (x4 : Int32) (x5 : Int32) (x6 : Int32) (x7 : Int32) (x8 : Int32) (x9 : Int32) (x10 : Int32) (x11 : Int32) (x12 : Int32) (x13 : Int32) (x14 : Int32) (x15 : Int32) (x16 : Int32) (x17 : Int32) (x18 : Int32) (x19 : Int32) (x20 : Int32) (h0 : Heap) (n0 : Nat) (Z0 : n0 ≤ h0.size) (F_numbers_t : Fld Z h0 t "com/example/boxwood/boxwood/XmlNodeTable" "numbers" "[[I" (.ref aN)) (V_aN : Arv Z h0 aN kN (.array .int) (1 : Int32) [(.ref bN)] .null) (V_bN : Arv Z h0 bN kb .int (28672 : Int32) [(.int x0), (.int x1), (.int x2), (.int x3), (.int x4), (.int x5), (.int x6), (.int x7), (.int x8), (.int x9), (.int x10), (.int x11), (.int x12), (.int x13), (.int x14), (.int x15), (.int x16), (.int x17), (.int x18), (.int x19), (.int x20)] (.int 0)) :
    own_M l (⟨"com/example/boxwood/boxwood/XmlNodeTable", "get", "(II)I"⟩ : MethodName) prog_60_method_26_code 3 (some .int) ws ({ frames := 0, cells := 0, slots := 0, locals := 0 } : Room) Z #[(.ref t), (.int 0), (.int 5)] h0 (Q_get_0_5_21 Z t aN bN kN kb x0 x1 x2 x3 x4 x5 x6 x7 x8 x9 x10 x11 x12 x13 x14 x15 x16 x17 x18 x19 x20 h0 n0) := by
  refine own_body (own := "com/example/boxwood/boxwood/XmlNodeTable") rfl (plainFor_of_name pn_8) (fun m => ef_get_0_5_14 m t (0 : Int32) (5 : Int32)) ?_
  intro p e s m below meth c s₁ Bd hml hZ hh hx hby hown X0 e0
  have N0 := Fr.nil n0
  have lt21 : h0.size > t := F_numbers_t.lt
  have lt22 : h0.size > aN := V_aN.lt
  have lt23 : h0.size > bN := V_bN.lt
  refine own_aloadN X0.here hx hby d8_0 rfl rfl ?_
  refine own_getF X0 hx hZ hown (host := "") (Or.inl (own_w hw 12 rfl)) Via.refl e0 F_numbers_t hby d8_1 ?_
  intro T24 X24 e24
  refine own_iloadN X24.here hx hby d8_4 rfl ?_
  refine own_bipush X24.here hx hby d8_5 (v := (12 : Int32)) (by decide) ?_
  refine own_iushr X24.here hx hby d8_7 (v := (0 : Int32)) (by decide) ?_
  refine own_aaload X24 hx hZ e24 V_aN rfl ⟨by decide, by decide⟩ (v := (.ref bN)) rfl hby d8_8 ?_
  refine own_iloadN X24.here hx hby d8_9 rfl ?_
  refine own_sipush X24.here hx hby d8_10 (v := (4095 : Int32)) (by decide) ?_
  refine own_iand X24.here hx hby d8_13 (v := (0 : Int32)) (by decide) ?_
  refine own_bipush X24.here hx hby d8_14 (v := (7 : Int32)) (by decide) ?_
  refine own_imul X24.here hx hby d8_16 (v := (0 : Int32)) (by decide) ?_
  refine own_iloadN X24.here hx hby d8_17 rfl ?_
  refine own_iadd X24.here hx hby d8_18 (v := (5 : Int32)) (by decide) ?_
  refine own_iaload X24 hx hZ e24 V_bN ⟨by decide, by decide⟩ (v := (.int x5)) rfl hby d8_19 ?_
  obtain ⟨fs, hr, hrun, hended, hW, hsame⟩ := X24.leave (v := some (.int x5)) (fun h => by rw [Bd.returns] at h; cases h)
  refine own_ret (t := T24.setFrames fs) ?_ ⟨_, hrun, hended, _, _, rfl, ?_, ⟨_, rfl⟩, hW, hsame.mono (by decide) (by decide)⟩
  · exact retOut X24 hx Bd.returns rfl (Or.inl ⟨rfl, Or.inl rfl, _, rfl⟩) (hb hby d8_20) hr
  · show Q_get_0_5_21 Z t aN bN kN kb x0 x1 x2 x3 x4 x5 x6 x7 x8 x9 x10 x11 x12 x13 x14 x15 x16 x17 x18 x19 x20 h0 n0 _ T24.heap _
    rw [e24]
    exact ⟨rfl, N0, rfl⟩
def Q_contentEnd_0_21 (Z : State) (t : Nat) (aN : Nat) (bN : Nat) (kN : ClassId) (kb : ClassId) (x0 : Int32) (x1 : Int32) (x2 : Int32) (x3 : Int32) (x4 : Int32) (x5 : Int32) (x6 : Int32) (x7 : Int32) (x8 : Int32) (x9 : Int32) (x10 : Int32) (x11 : Int32) (x12 : Int32) (x13 : Int32) (x14 : Int32) (x15 : Int32) (x16 : Int32) (x17 : Int32) (x18 : Int32) (x19 : Int32) (x20 : Int32) (h0 : Heap) (n0 : Nat) (vR : Option Value) (hR : Heap) (LR : List Loc) : Prop := vR = some (.int x5) ∧ Fr n0 LR ∧ hR = h0
set_option maxRecDepth 65536 in
set_option maxHeartbeats 40000000 in
theorem contentEnd_0_21 (l : Launch) (Z : State) (a0 : Array Value) (hw : ∀ d ∈ tables_1, d.before a0 Z = true) (ws : List Jvm.Cond) (t : Nat) (aN : Nat) (bN : Nat) (kN : ClassId) (kb : ClassId) (x0 : Int32) (x1 : Int32) (x2 : Int32) (x3 : Int32) (x4 : Int32) (x5 : Int32) (x6 : Int32) (x7 : Int32) (x8 : Int32) (x9 : Int32) (x10 : Int32) (x11 : Int32) (x12 : Int32) (x13 : Int32) (x14 : Int32) (x15 : Int32) (x16 : Int32) (x17 : Int32) (x18 : Int32) (x19 : Int32) (x20 : Int32) (h0 : Heap) (n0 : Nat) (Z0 : n0 ≤ h0.size) (E_t : Exa Z h0 t "com/example/boxwood/boxwood/XmlNodeTable") (F_numbers_t : Fld Z h0 t "com/example/boxwood/boxwood/XmlNodeTable" "numbers" "[[I" (.ref aN)) (V_aN : Arv Z h0 aN kN (.array .int) (1 : Int32) [(.ref bN)] .null) (V_bN : Arv Z h0 bN kb .int (28672 : Int32) [(.int x0), (.int x1), (.int x2), (.int x3), (.int x4), (.int x5), (.int x6), (.int x7), (.int x8), (.int x9), (.int x10), (.int x11), (.int x12), (.int x13), (.int x14), (.int x15), (.int x16), (.int x17), (.int x18), (.int x19), (.int x20)] (.int 0)) :
    own_M l (⟨"com/example/boxwood/boxwood/XmlNodeTable", "contentEnd", "(I)I"⟩ : MethodName) prog_60_method_15_code 2 (some .int) ws ({ frames := 1, cells := 0, slots := 0, locals := 14 } : Room) Z #[(.ref t), (.int 0)] h0 (Q_contentEnd_0_21 Z t aN bN kN kb x0 x1 x2 x3 x4 x5 x6 x7 x8 x9 x10 x11 x12 x13 x14 x15 x16 x17 x18 x19 x20 h0 n0) := by
  refine own_body (own := "com/example/boxwood/boxwood/XmlNodeTable") rfl (plainFor_of_name pn_7) (fun m => ef_contentEnd_0_14 m t (0 : Int32)) ?_
  intro p e s m below meth c s₁ Bd hml hZ hh hx hby hown X0 e0
  have N0 := Fr.nil n0
  have lt21 : h0.size > t := E_t.lt
  have lt22 : h0.size > aN := V_aN.lt
  have lt23 : h0.size > bN := V_bN.lt
  refine own_aloadN X0.here hx hby d7_0 rfl rfl ?_
  refine own_iloadN X0.here hx hby d7_1 rfl ?_
  refine own_iconst X0.here hx hby d7_2 (v := (5 : Int32)) (by decide) ?_
  refine own_private X0 hx hZ hown (own_w hw 60 rfl) (own_w hw 61 rfl) (own_w hw 1 rfl) (own_w hw 62 rfl) (own_w hw 2 rfl) (own_w hw 63 rfl) (by decide) (get_0_5_21 l Z a0 hw [] t aN bN kN kb x0 x1 x2 x3 x4 x5 x6 x7 x8 x9 x10 x11 x12 x13 x14 x15 x16 x17 x18 x19 x20 h0 n0 Z0 F_numbers_t V_aN V_bN) 0 (Nat.le_of_eq rfl) (by decide) (by decide) (by rw [hml]; rfl) (argsL := [(.int 0), (.int 5)]) (st := []) E_t (lenOf pd_2 rfl) rfl rfl (by decide) (by decide) e0 hby d7_3 ?_
  intro T24 v24 L24 X24 hQ24
  obtain ⟨rfl, Nq24, eh24⟩ := hQ24
  have N24 := Fr.app N0 Nq24
  refine own_sh (T := T24) 6 #[.val (.ref t), .val (.int 0)] [(.int x5)] ?_
  obtain ⟨fs, hr, hrun, hended, hW, hsame⟩ := X24.leave (v := some (.int x5)) (fun h => by rw [Bd.returns] at h; cases h)
  refine own_ret (t := T24.setFrames fs) ?_ ⟨_, hrun, hended, _, _, rfl, ?_, ⟨_, rfl⟩, hW, hsame.mono (by decide) (by decide)⟩
  · exact retOut X24 hx Bd.returns rfl (Or.inl ⟨rfl, Or.inl rfl, _, rfl⟩) (hb hby d7_6) hr
  · show Q_contentEnd_0_21 Z t aN bN kN kb x0 x1 x2 x3 x4 x5 x6 x7 x8 x9 x10 x11 x12 x13 x14 x15 x16 x17 x18 x19 x20 h0 n0 _ T24.heap _
    rw [eh24]
    exact ⟨rfl, N24, rfl⟩
def Q_get_0_2_21 (Z : State) (t : Nat) (aN : Nat) (bN : Nat) (kN : ClassId) (kb : ClassId) (x0 : Int32) (x1 : Int32) (x2 : Int32) (x3 : Int32) (x4 : Int32) (x5 : Int32) (x6 : Int32) (x7 : Int32) (x8 : Int32) (x9 : Int32) (x10 : Int32) (x11 : Int32) (x12 : Int32) (x13 : Int32) (x14 : Int32) (x15 : Int32) (x16 : Int32) (x17 : Int32) (x18 : Int32) (x19 : Int32) (x20 : Int32) (h0 : Heap) (n0 : Nat) (vR : Option Value) (hR : Heap) (LR : List Loc) : Prop := vR = some (.int x2) ∧ Fr n0 LR ∧ hR = h0
set_option maxRecDepth 65536 in
set_option maxHeartbeats 40000000 in
theorem get_0_2_21 (l : Launch) (Z : State) (a0 : Array Value) (hw : ∀ d ∈ tables_1, d.before a0 Z = true) (ws : List Jvm.Cond) (t : Nat) (aN : Nat) (bN : Nat) (kN : ClassId) (kb : ClassId) (x0 : Int32) (x1 : Int32) (x2 : Int32) (x3 : Int32) (x4 : Int32) (x5 : Int32) (x6 : Int32) (x7 : Int32) (x8 : Int32) (x9 : Int32) (x10 : Int32) (x11 : Int32) (x12 : Int32) (x13 : Int32) (x14 : Int32) (x15 : Int32) (x16 : Int32) (x17 : Int32) (x18 : Int32) (x19 : Int32) (x20 : Int32) (h0 : Heap) (n0 : Nat) (Z0 : n0 ≤ h0.size) (F_numbers_t : Fld Z h0 t "com/example/boxwood/boxwood/XmlNodeTable" "numbers" "[[I" (.ref aN)) (V_aN : Arv Z h0 aN kN (.array .int) (1 : Int32) [(.ref bN)] .null) (V_bN : Arv Z h0 bN kb .int (28672 : Int32) [(.int x0), (.int x1), (.int x2), (.int x3), (.int x4), (.int x5), (.int x6), (.int x7), (.int x8), (.int x9), (.int x10), (.int x11), (.int x12), (.int x13), (.int x14), (.int x15), (.int x16), (.int x17), (.int x18), (.int x19), (.int x20)] (.int 0)) :
    own_M l (⟨"com/example/boxwood/boxwood/XmlNodeTable", "get", "(II)I"⟩ : MethodName) prog_60_method_26_code 3 (some .int) ws ({ frames := 0, cells := 0, slots := 0, locals := 0 } : Room) Z #[(.ref t), (.int 0), (.int 2)] h0 (Q_get_0_2_21 Z t aN bN kN kb x0 x1 x2 x3 x4 x5 x6 x7 x8 x9 x10 x11 x12 x13 x14 x15 x16 x17 x18 x19 x20 h0 n0) := by
  refine own_body (own := "com/example/boxwood/boxwood/XmlNodeTable") rfl (plainFor_of_name pn_8) (fun m => ef_get_0_5_14 m t (0 : Int32) (2 : Int32)) ?_
  intro p e s m below meth c s₁ Bd hml hZ hh hx hby hown X0 e0
  have N0 := Fr.nil n0
  have lt21 : h0.size > t := F_numbers_t.lt
  have lt22 : h0.size > aN := V_aN.lt
  have lt23 : h0.size > bN := V_bN.lt
  refine own_aloadN X0.here hx hby d8_0 rfl rfl ?_
  refine own_getF X0 hx hZ hown (host := "") (Or.inl (own_w hw 12 rfl)) Via.refl e0 F_numbers_t hby d8_1 ?_
  intro T24 X24 e24
  refine own_iloadN X24.here hx hby d8_4 rfl ?_
  refine own_bipush X24.here hx hby d8_5 (v := (12 : Int32)) (by decide) ?_
  refine own_iushr X24.here hx hby d8_7 (v := (0 : Int32)) (by decide) ?_
  refine own_aaload X24 hx hZ e24 V_aN rfl ⟨by decide, by decide⟩ (v := (.ref bN)) rfl hby d8_8 ?_
  refine own_iloadN X24.here hx hby d8_9 rfl ?_
  refine own_sipush X24.here hx hby d8_10 (v := (4095 : Int32)) (by decide) ?_
  refine own_iand X24.here hx hby d8_13 (v := (0 : Int32)) (by decide) ?_
  refine own_bipush X24.here hx hby d8_14 (v := (7 : Int32)) (by decide) ?_
  refine own_imul X24.here hx hby d8_16 (v := (0 : Int32)) (by decide) ?_
  refine own_iloadN X24.here hx hby d8_17 rfl ?_
  refine own_iadd X24.here hx hby d8_18 (v := (2 : Int32)) (by decide) ?_
  refine own_iaload X24 hx hZ e24 V_bN ⟨by decide, by decide⟩ (v := (.int x2)) rfl hby d8_19 ?_
  obtain ⟨fs, hr, hrun, hended, hW, hsame⟩ := X24.leave (v := some (.int x2)) (fun h => by rw [Bd.returns] at h; cases h)
  refine own_ret (t := T24.setFrames fs) ?_ ⟨_, hrun, hended, _, _, rfl, ?_, ⟨_, rfl⟩, hW, hsame.mono (by decide) (by decide)⟩
  · exact retOut X24 hx Bd.returns rfl (Or.inl ⟨rfl, Or.inl rfl, _, rfl⟩) (hb hby d8_20) hr
  · show Q_get_0_2_21 Z t aN bN kN kb x0 x1 x2 x3 x4 x5 x6 x7 x8 x9 x10 x11 x12 x13 x14 x15 x16 x17 x18 x19 x20 h0 n0 _ T24.heap _
    rw [e24]
    exact ⟨rfl, N0, rfl⟩
def Q_end_0_21 (Z : State) (t : Nat) (aN : Nat) (bN : Nat) (kN : ClassId) (kb : ClassId) (x0 : Int32) (x1 : Int32) (x2 : Int32) (x3 : Int32) (x4 : Int32) (x5 : Int32) (x6 : Int32) (x7 : Int32) (x8 : Int32) (x9 : Int32) (x10 : Int32) (x11 : Int32) (x12 : Int32) (x13 : Int32) (x14 : Int32) (x15 : Int32) (x16 : Int32) (x17 : Int32) (x18 : Int32) (x19 : Int32) (x20 : Int32) (h0 : Heap) (n0 : Nat) (vR : Option Value) (hR : Heap) (LR : List Loc) : Prop := vR = some (.int x2) ∧ Fr n0 LR ∧ hR = h0
set_option maxRecDepth 65536 in
set_option maxHeartbeats 40000000 in
theorem end_0_21 (l : Launch) (Z : State) (a0 : Array Value) (hw : ∀ d ∈ tables_1, d.before a0 Z = true) (ws : List Jvm.Cond) (t : Nat) (aN : Nat) (bN : Nat) (kN : ClassId) (kb : ClassId) (x0 : Int32) (x1 : Int32) (x2 : Int32) (x3 : Int32) (x4 : Int32) (x5 : Int32) (x6 : Int32) (x7 : Int32) (x8 : Int32) (x9 : Int32) (x10 : Int32) (x11 : Int32) (x12 : Int32) (x13 : Int32) (x14 : Int32) (x15 : Int32) (x16 : Int32) (x17 : Int32) (x18 : Int32) (x19 : Int32) (x20 : Int32) (h0 : Heap) (n0 : Nat) (Z0 : n0 ≤ h0.size) (E_t : Exa Z h0 t "com/example/boxwood/boxwood/XmlNodeTable") (F_numbers_t : Fld Z h0 t "com/example/boxwood/boxwood/XmlNodeTable" "numbers" "[[I" (.ref aN)) (V_aN : Arv Z h0 aN kN (.array .int) (1 : Int32) [(.ref bN)] .null) (V_bN : Arv Z h0 bN kb .int (28672 : Int32) [(.int x0), (.int x1), (.int x2), (.int x3), (.int x4), (.int x5), (.int x6), (.int x7), (.int x8), (.int x9), (.int x10), (.int x11), (.int x12), (.int x13), (.int x14), (.int x15), (.int x16), (.int x17), (.int x18), (.int x19), (.int x20)] (.int 0)) :
    own_M l (⟨"com/example/boxwood/boxwood/XmlNodeTable", "end", "(I)I"⟩ : MethodName) prog_60_method_12_code 2 (some .int) ws ({ frames := 1, cells := 0, slots := 0, locals := 14 } : Room) Z #[(.ref t), (.int 0)] h0 (Q_end_0_21 Z t aN bN kN kb x0 x1 x2 x3 x4 x5 x6 x7 x8 x9 x10 x11 x12 x13 x14 x15 x16 x17 x18 x19 x20 h0 n0) := by
  refine own_body (own := "com/example/boxwood/boxwood/XmlNodeTable") rfl (plainFor_of_name pn_9) (fun m => ef_end_0_14 m t (0 : Int32)) ?_
  intro p e s m below meth c s₁ Bd hml hZ hh hx hby hown X0 e0
  have N0 := Fr.nil n0
  have lt21 : h0.size > t := E_t.lt
  have lt22 : h0.size > aN := V_aN.lt
  have lt23 : h0.size > bN := V_bN.lt
  refine own_aloadN X0.here hx hby d9_0 rfl rfl ?_
  refine own_iloadN X0.here hx hby d9_1 rfl ?_
  refine own_iconst X0.here hx hby d9_2 (v := (2 : Int32)) (by decide) ?_
  refine own_private X0 hx hZ hown (own_w hw 60 rfl) (own_w hw 61 rfl) (own_w hw 1 rfl) (own_w hw 62 rfl) (own_w hw 2 rfl) (own_w hw 63 rfl) (by decide) (get_0_2_21 l Z a0 hw [] t aN bN kN kb x0 x1 x2 x3 x4 x5 x6 x7 x8 x9 x10 x11 x12 x13 x14 x15 x16 x17 x18 x19 x20 h0 n0 Z0 F_numbers_t V_aN V_bN) 0 (Nat.le_of_eq rfl) (by decide) (by decide) (by rw [hml]; rfl) (argsL := [(.int 0), (.int 2)]) (st := []) E_t (lenOf pd_2 rfl) rfl rfl (by decide) (by decide) e0 hby d9_3 ?_
  intro T24 v24 L24 X24 hQ24
  obtain ⟨rfl, Nq24, eh24⟩ := hQ24
  have N24 := Fr.app N0 Nq24
  refine own_sh (T := T24) 6 #[.val (.ref t), .val (.int 0)] [(.int x2)] ?_
  obtain ⟨fs, hr, hrun, hended, hW, hsame⟩ := X24.leave (v := some (.int x2)) (fun h => by rw [Bd.returns] at h; cases h)
  refine own_ret (t := T24.setFrames fs) ?_ ⟨_, hrun, hended, _, _, rfl, ?_, ⟨_, rfl⟩, hW, hsame.mono (by decide) (by decide)⟩
  · exact retOut X24 hx Bd.returns rfl (Or.inl ⟨rfl, Or.inl rfl, _, rfl⟩) (hb hby d9_6) hr
  · show Q_end_0_21 Z t aN bN kN kb x0 x1 x2 x3 x4 x5 x6 x7 x8 x9 x10 x11 x12 x13 x14 x15 x16 x17 x18 x19 x20 h0 n0 _ T24.heap _
    rw [eh24]
    exact ⟨rfl, N24, rfl⟩
def Q_get_0_3_21 (Z : State) (t : Nat) (aN : Nat) (bN : Nat) (kN : ClassId) (kb : ClassId) (x0 : Int32) (x1 : Int32) (x2 : Int32) (x3 : Int32) (x4 : Int32) (x5 : Int32) (x6 : Int32) (x7 : Int32) (x8 : Int32) (x9 : Int32) (x10 : Int32) (x11 : Int32) (x12 : Int32) (x13 : Int32) (x14 : Int32) (x15 : Int32) (x16 : Int32) (x17 : Int32) (x18 : Int32) (x19 : Int32) (x20 : Int32) (h0 : Heap) (n0 : Nat) (vR : Option Value) (hR : Heap) (LR : List Loc) : Prop := vR = some (.int x3) ∧ Fr n0 LR ∧ hR = h0
set_option maxRecDepth 65536 in
set_option maxHeartbeats 40000000 in
theorem get_0_3_21 (l : Launch) (Z : State) (a0 : Array Value) (hw : ∀ d ∈ tables_1, d.before a0 Z = true) (ws : List Jvm.Cond) (t : Nat) (aN : Nat) (bN : Nat) (kN : ClassId) (kb : ClassId) (x0 : Int32) (x1 : Int32) (x2 : Int32) (x3 : Int32) (x4 : Int32) (x5 : Int32) (x6 : Int32) (x7 : Int32) (x8 : Int32) (x9 : Int32) (x10 : Int32) (x11 : Int32) (x12 : Int32) (x13 : Int32) (x14 : Int32) (x15 : Int32) (x16 : Int32) (x17 : Int32) (x18 : Int32) (x19 : Int32) (x20 : Int32) (h0 : Heap) (n0 : Nat) (Z0 : n0 ≤ h0.size) (F_numbers_t : Fld Z h0 t "com/example/boxwood/boxwood/XmlNodeTable" "numbers" "[[I" (.ref aN)) (V_aN : Arv Z h0 aN kN (.array .int) (1 : Int32) [(.ref bN)] .null) (V_bN : Arv Z h0 bN kb .int (28672 : Int32) [(.int x0), (.int x1), (.int x2), (.int x3), (.int x4), (.int x5), (.int x6), (.int x7), (.int x8), (.int x9), (.int x10), (.int x11), (.int x12), (.int x13), (.int x14), (.int x15), (.int x16), (.int x17), (.int x18), (.int x19), (.int x20)] (.int 0)) :
    own_M l (⟨"com/example/boxwood/boxwood/XmlNodeTable", "get", "(II)I"⟩ : MethodName) prog_60_method_26_code 3 (some .int) ws ({ frames := 0, cells := 0, slots := 0, locals := 0 } : Room) Z #[(.ref t), (.int 0), (.int 3)] h0 (Q_get_0_3_21 Z t aN bN kN kb x0 x1 x2 x3 x4 x5 x6 x7 x8 x9 x10 x11 x12 x13 x14 x15 x16 x17 x18 x19 x20 h0 n0) := by
  refine own_body (own := "com/example/boxwood/boxwood/XmlNodeTable") rfl (plainFor_of_name pn_8) (fun m => ef_get_0_5_14 m t (0 : Int32) (3 : Int32)) ?_
  intro p e s m below meth c s₁ Bd hml hZ hh hx hby hown X0 e0
  have N0 := Fr.nil n0
  have lt21 : h0.size > t := F_numbers_t.lt
  have lt22 : h0.size > aN := V_aN.lt
  have lt23 : h0.size > bN := V_bN.lt
  refine own_aloadN X0.here hx hby d8_0 rfl rfl ?_
  refine own_getF X0 hx hZ hown (host := "") (Or.inl (own_w hw 12 rfl)) Via.refl e0 F_numbers_t hby d8_1 ?_
  intro T24 X24 e24
  refine own_iloadN X24.here hx hby d8_4 rfl ?_
  refine own_bipush X24.here hx hby d8_5 (v := (12 : Int32)) (by decide) ?_
  refine own_iushr X24.here hx hby d8_7 (v := (0 : Int32)) (by decide) ?_
  refine own_aaload X24 hx hZ e24 V_aN rfl ⟨by decide, by decide⟩ (v := (.ref bN)) rfl hby d8_8 ?_
  refine own_iloadN X24.here hx hby d8_9 rfl ?_
  refine own_sipush X24.here hx hby d8_10 (v := (4095 : Int32)) (by decide) ?_
  refine own_iand X24.here hx hby d8_13 (v := (0 : Int32)) (by decide) ?_
  refine own_bipush X24.here hx hby d8_14 (v := (7 : Int32)) (by decide) ?_
  refine own_imul X24.here hx hby d8_16 (v := (0 : Int32)) (by decide) ?_
  refine own_iloadN X24.here hx hby d8_17 rfl ?_
  refine own_iadd X24.here hx hby d8_18 (v := (3 : Int32)) (by decide) ?_
  refine own_iaload X24 hx hZ e24 V_bN ⟨by decide, by decide⟩ (v := (.int x3)) rfl hby d8_19 ?_
  obtain ⟨fs, hr, hrun, hended, hW, hsame⟩ := X24.leave (v := some (.int x3)) (fun h => by rw [Bd.returns] at h; cases h)
  refine own_ret (t := T24.setFrames fs) ?_ ⟨_, hrun, hended, _, _, rfl, ?_, ⟨_, rfl⟩, hW, hsame.mono (by decide) (by decide)⟩
  · exact retOut X24 hx Bd.returns rfl (Or.inl ⟨rfl, Or.inl rfl, _, rfl⟩) (hb hby d8_20) hr
  · show Q_get_0_3_21 Z t aN bN kN kb x0 x1 x2 x3 x4 x5 x6 x7 x8 x9 x10 x11 x12 x13 x14 x15 x16 x17 x18 x19 x20 h0 n0 _ T24.heap _
    rw [e24]
    exact ⟨rfl, N0, rfl⟩
def Q_next_0_21 (Z : State) (t : Nat) (aN : Nat) (bN : Nat) (kN : ClassId) (kb : ClassId) (x0 : Int32) (x1 : Int32) (x2 : Int32) (x3 : Int32) (x4 : Int32) (x5 : Int32) (x6 : Int32) (x7 : Int32) (x8 : Int32) (x9 : Int32) (x10 : Int32) (x11 : Int32) (x12 : Int32) (x13 : Int32) (x14 : Int32) (x15 : Int32) (x16 : Int32) (x17 : Int32) (x18 : Int32) (x19 : Int32) (x20 : Int32) (h0 : Heap) (n0 : Nat) (vR : Option Value) (hR : Heap) (LR : List Loc) : Prop := vR = some (.int x3) ∧ Fr n0 LR ∧ hR = h0
set_option maxRecDepth 65536 in
set_option maxHeartbeats 40000000 in
theorem next_0_21 (l : Launch) (Z : State) (a0 : Array Value) (hw : ∀ d ∈ tables_1, d.before a0 Z = true) (ws : List Jvm.Cond) (t : Nat) (aN : Nat) (bN : Nat) (kN : ClassId) (kb : ClassId) (x0 : Int32) (x1 : Int32) (x2 : Int32) (x3 : Int32) (x4 : Int32) (x5 : Int32) (x6 : Int32) (x7 : Int32) (x8 : Int32) (x9 : Int32) (x10 : Int32) (x11 : Int32) (x12 : Int32) (x13 : Int32) (x14 : Int32) (x15 : Int32) (x16 : Int32) (x17 : Int32) (x18 : Int32) (x19 : Int32) (x20 : Int32) (h0 : Heap) (n0 : Nat) (Z0 : n0 ≤ h0.size) (E_t : Exa Z h0 t "com/example/boxwood/boxwood/XmlNodeTable") (F_numbers_t : Fld Z h0 t "com/example/boxwood/boxwood/XmlNodeTable" "numbers" "[[I" (.ref aN)) (V_aN : Arv Z h0 aN kN (.array .int) (1 : Int32) [(.ref bN)] .null) (V_bN : Arv Z h0 bN kb .int (28672 : Int32) [(.int x0), (.int x1), (.int x2), (.int x3), (.int x4), (.int x5), (.int x6), (.int x7), (.int x8), (.int x9), (.int x10), (.int x11), (.int x12), (.int x13), (.int x14), (.int x15), (.int x16), (.int x17), (.int x18), (.int x19), (.int x20)] (.int 0)) :
    own_M l (⟨"com/example/boxwood/boxwood/XmlNodeTable", "next", "(I)I"⟩ : MethodName) prog_60_method_13_code 2 (some .int) ws ({ frames := 1, cells := 0, slots := 0, locals := 14 } : Room) Z #[(.ref t), (.int 0)] h0 (Q_next_0_21 Z t aN bN kN kb x0 x1 x2 x3 x4 x5 x6 x7 x8 x9 x10 x11 x12 x13 x14 x15 x16 x17 x18 x19 x20 h0 n0) := by
  refine own_body (own := "com/example/boxwood/boxwood/XmlNodeTable") rfl (plainFor_of_name pn_10) (fun m => ef_next_0_14 m t (0 : Int32)) ?_
  intro p e s m below meth c s₁ Bd hml hZ hh hx hby hown X0 e0
  have N0 := Fr.nil n0
  have lt21 : h0.size > t := E_t.lt
  have lt22 : h0.size > aN := V_aN.lt
  have lt23 : h0.size > bN := V_bN.lt
  refine own_aloadN X0.here hx hby d10_0 rfl rfl ?_
  refine own_iloadN X0.here hx hby d10_1 rfl ?_
  refine own_iconst X0.here hx hby d10_2 (v := (3 : Int32)) (by decide) ?_
  refine own_private X0 hx hZ hown (own_w hw 60 rfl) (own_w hw 61 rfl) (own_w hw 1 rfl) (own_w hw 62 rfl) (own_w hw 2 rfl) (own_w hw 63 rfl) (by decide) (get_0_3_21 l Z a0 hw [] t aN bN kN kb x0 x1 x2 x3 x4 x5 x6 x7 x8 x9 x10 x11 x12 x13 x14 x15 x16 x17 x18 x19 x20 h0 n0 Z0 F_numbers_t V_aN V_bN) 0 (Nat.le_of_eq rfl) (by decide) (by decide) (by rw [hml]; rfl) (argsL := [(.int 0), (.int 3)]) (st := []) E_t (lenOf pd_2 rfl) rfl rfl (by decide) (by decide) e0 hby d10_3 ?_
  intro T24 v24 L24 X24 hQ24
  obtain ⟨rfl, Nq24, eh24⟩ := hQ24
  have N24 := Fr.app N0 Nq24
  refine own_sh (T := T24) 6 #[.val (.ref t), .val (.int 0)] [(.int x3)] ?_
  obtain ⟨fs, hr, hrun, hended, hW, hsame⟩ := X24.leave (v := some (.int x3)) (fun h => by rw [Bd.returns] at h; cases h)
  refine own_ret (t := T24.setFrames fs) ?_ ⟨_, hrun, hended, _, _, rfl, ?_, ⟨_, rfl⟩, hW, hsame.mono (by decide) (by decide)⟩
  · exact retOut X24 hx Bd.returns rfl (Or.inl ⟨rfl, Or.inl rfl, _, rfl⟩) (hb hby d10_6) hr
  · show Q_next_0_21 Z t aN bN kN kb x0 x1 x2 x3 x4 x5 x6 x7 x8 x9 x10 x11 x12 x13 x14 x15 x16 x17 x18 x19 x20 h0 n0 _ T24.heap _
    rw [eh24]
    exact ⟨rfl, N24, rfl⟩
def Q_get_0_1_21 (Z : State) (t : Nat) (aN : Nat) (bN : Nat) (kN : ClassId) (kb : ClassId) (x0 : Int32) (x1 : Int32) (x2 : Int32) (x3 : Int32) (x4 : Int32) (x5 : Int32) (x6 : Int32) (x7 : Int32) (x8 : Int32) (x9 : Int32) (x10 : Int32) (x11 : Int32) (x12 : Int32) (x13 : Int32) (x14 : Int32) (x15 : Int32) (x16 : Int32) (x17 : Int32) (x18 : Int32) (x19 : Int32) (x20 : Int32) (h0 : Heap) (n0 : Nat) (vR : Option Value) (hR : Heap) (LR : List Loc) : Prop := vR = some (.int x1) ∧ Fr n0 LR ∧ hR = h0
set_option maxRecDepth 65536 in
set_option maxHeartbeats 40000000 in
theorem get_0_1_21 (l : Launch) (Z : State) (a0 : Array Value) (hw : ∀ d ∈ tables_1, d.before a0 Z = true) (ws : List Jvm.Cond) (t : Nat) (aN : Nat) (bN : Nat) (kN : ClassId) (kb : ClassId) (x0 : Int32) (x1 : Int32) (x2 : Int32) (x3 : Int32) (x4 : Int32) (x5 : Int32) (x6 : Int32) (x7 : Int32) (x8 : Int32) (x9 : Int32) (x10 : Int32) (x11 : Int32) (x12 : Int32) (x13 : Int32) (x14 : Int32) (x15 : Int32) (x16 : Int32) (x17 : Int32) (x18 : Int32) (x19 : Int32) (x20 : Int32) (h0 : Heap) (n0 : Nat) (Z0 : n0 ≤ h0.size) (F_numbers_t : Fld Z h0 t "com/example/boxwood/boxwood/XmlNodeTable" "numbers" "[[I" (.ref aN)) (V_aN : Arv Z h0 aN kN (.array .int) (1 : Int32) [(.ref bN)] .null) (V_bN : Arv Z h0 bN kb .int (28672 : Int32) [(.int x0), (.int x1), (.int x2), (.int x3), (.int x4), (.int x5), (.int x6), (.int x7), (.int x8), (.int x9), (.int x10), (.int x11), (.int x12), (.int x13), (.int x14), (.int x15), (.int x16), (.int x17), (.int x18), (.int x19), (.int x20)] (.int 0)) :
    own_M l (⟨"com/example/boxwood/boxwood/XmlNodeTable", "get", "(II)I"⟩ : MethodName) prog_60_method_26_code 3 (some .int) ws ({ frames := 0, cells := 0, slots := 0, locals := 0 } : Room) Z #[(.ref t), (.int 0), (.int 1)] h0 (Q_get_0_1_21 Z t aN bN kN kb x0 x1 x2 x3 x4 x5 x6 x7 x8 x9 x10 x11 x12 x13 x14 x15 x16 x17 x18 x19 x20 h0 n0) := by
  refine own_body (own := "com/example/boxwood/boxwood/XmlNodeTable") rfl (plainFor_of_name pn_8) (fun m => ef_get_0_5_14 m t (0 : Int32) (1 : Int32)) ?_
  intro p e s m below meth c s₁ Bd hml hZ hh hx hby hown X0 e0
  have N0 := Fr.nil n0
  have lt21 : h0.size > t := F_numbers_t.lt
  have lt22 : h0.size > aN := V_aN.lt
  have lt23 : h0.size > bN := V_bN.lt
  refine own_aloadN X0.here hx hby d8_0 rfl rfl ?_
  refine own_getF X0 hx hZ hown (host := "") (Or.inl (own_w hw 12 rfl)) Via.refl e0 F_numbers_t hby d8_1 ?_
  intro T24 X24 e24
  refine own_iloadN X24.here hx hby d8_4 rfl ?_
  refine own_bipush X24.here hx hby d8_5 (v := (12 : Int32)) (by decide) ?_
  refine own_iushr X24.here hx hby d8_7 (v := (0 : Int32)) (by decide) ?_
  refine own_aaload X24 hx hZ e24 V_aN rfl ⟨by decide, by decide⟩ (v := (.ref bN)) rfl hby d8_8 ?_
  refine own_iloadN X24.here hx hby d8_9 rfl ?_
  refine own_sipush X24.here hx hby d8_10 (v := (4095 : Int32)) (by decide) ?_
  refine own_iand X24.here hx hby d8_13 (v := (0 : Int32)) (by decide) ?_
  refine own_bipush X24.here hx hby d8_14 (v := (7 : Int32)) (by decide) ?_
  refine own_imul X24.here hx hby d8_16 (v := (0 : Int32)) (by decide) ?_
  refine own_iloadN X24.here hx hby d8_17 rfl ?_
  refine own_iadd X24.here hx hby d8_18 (v := (1 : Int32)) (by decide) ?_
  refine own_iaload X24 hx hZ e24 V_bN ⟨by decide, by decide⟩ (v := (.int x1)) rfl hby d8_19 ?_
  obtain ⟨fs, hr, hrun, hended, hW, hsame⟩ := X24.leave (v := some (.int x1)) (fun h => by rw [Bd.returns] at h; cases h)
  refine own_ret (t := T24.setFrames fs) ?_ ⟨_, hrun, hended, _, _, rfl, ?_, ⟨_, rfl⟩, hW, hsame.mono (by decide) (by decide)⟩
  · exact retOut X24 hx Bd.returns rfl (Or.inl ⟨rfl, Or.inl rfl, _, rfl⟩) (hb hby d8_20) hr
  · show Q_get_0_1_21 Z t aN bN kN kb x0 x1 x2 x3 x4 x5 x6 x7 x8 x9 x10 x11 x12 x13 x14 x15 x16 x17 x18 x19 x20 h0 n0 _ T24.heap _
    rw [e24]
    exact ⟨rfl, N0, rfl⟩
def Q_start_0_21 (Z : State) (t : Nat) (aN : Nat) (bN : Nat) (kN : ClassId) (kb : ClassId) (x0 : Int32) (x1 : Int32) (x2 : Int32) (x3 : Int32) (x4 : Int32) (x5 : Int32) (x6 : Int32) (x7 : Int32) (x8 : Int32) (x9 : Int32) (x10 : Int32) (x11 : Int32) (x12 : Int32) (x13 : Int32) (x14 : Int32) (x15 : Int32) (x16 : Int32) (x17 : Int32) (x18 : Int32) (x19 : Int32) (x20 : Int32) (h0 : Heap) (n0 : Nat) (vR : Option Value) (hR : Heap) (LR : List Loc) : Prop := vR = some (.int x1) ∧ Fr n0 LR ∧ hR = h0
set_option maxRecDepth 65536 in
set_option maxHeartbeats 40000000 in
theorem start_0_21 (l : Launch) (Z : State) (a0 : Array Value) (hw : ∀ d ∈ tables_1, d.before a0 Z = true) (ws : List Jvm.Cond) (t : Nat) (aN : Nat) (bN : Nat) (kN : ClassId) (kb : ClassId) (x0 : Int32) (x1 : Int32) (x2 : Int32) (x3 : Int32) (x4 : Int32) (x5 : Int32) (x6 : Int32) (x7 : Int32) (x8 : Int32) (x9 : Int32) (x10 : Int32) (x11 : Int32) (x12 : Int32) (x13 : Int32) (x14 : Int32) (x15 : Int32) (x16 : Int32) (x17 : Int32) (x18 : Int32) (x19 : Int32) (x20 : Int32) (h0 : Heap) (n0 : Nat) (Z0 : n0 ≤ h0.size) (E_t : Exa Z h0 t "com/example/boxwood/boxwood/XmlNodeTable") (F_numbers_t : Fld Z h0 t "com/example/boxwood/boxwood/XmlNodeTable" "numbers" "[[I" (.ref aN)) (V_aN : Arv Z h0 aN kN (.array .int) (1 : Int32) [(.ref bN)] .null) (V_bN : Arv Z h0 bN kb .int (28672 : Int32) [(.int x0), (.int x1), (.int x2), (.int x3), (.int x4), (.int x5), (.int x6), (.int x7), (.int x8), (.int x9), (.int x10), (.int x11), (.int x12), (.int x13), (.int x14), (.int x15), (.int x16), (.int x17), (.int x18), (.int x19), (.int x20)] (.int 0)) :
    own_M l (⟨"com/example/boxwood/boxwood/XmlNodeTable", "start", "(I)I"⟩ : MethodName) prog_60_method_11_code 2 (some .int) ws ({ frames := 1, cells := 0, slots := 0, locals := 14 } : Room) Z #[(.ref t), (.int 0)] h0 (Q_start_0_21 Z t aN bN kN kb x0 x1 x2 x3 x4 x5 x6 x7 x8 x9 x10 x11 x12 x13 x14 x15 x16 x17 x18 x19 x20 h0 n0) := by
  refine own_body (own := "com/example/boxwood/boxwood/XmlNodeTable") rfl (plainFor_of_name pn_11) (fun m => ef_start_0_14 m t (0 : Int32)) ?_
  intro p e s m below meth c s₁ Bd hml hZ hh hx hby hown X0 e0
  have N0 := Fr.nil n0
  have lt21 : h0.size > t := E_t.lt
  have lt22 : h0.size > aN := V_aN.lt
  have lt23 : h0.size > bN := V_bN.lt
  refine own_aloadN X0.here hx hby d11_0 rfl rfl ?_
  refine own_iloadN X0.here hx hby d11_1 rfl ?_
  refine own_iconst X0.here hx hby d11_2 (v := (1 : Int32)) (by decide) ?_
  refine own_private X0 hx hZ hown (own_w hw 60 rfl) (own_w hw 61 rfl) (own_w hw 1 rfl) (own_w hw 62 rfl) (own_w hw 2 rfl) (own_w hw 63 rfl) (by decide) (get_0_1_21 l Z a0 hw [] t aN bN kN kb x0 x1 x2 x3 x4 x5 x6 x7 x8 x9 x10 x11 x12 x13 x14 x15 x16 x17 x18 x19 x20 h0 n0 Z0 F_numbers_t V_aN V_bN) 0 (Nat.le_of_eq rfl) (by decide) (by decide) (by rw [hml]; rfl) (argsL := [(.int 0), (.int 1)]) (st := []) E_t (lenOf pd_2 rfl) rfl rfl (by decide) (by decide) e0 hby d11_3 ?_
  intro T24 v24 L24 X24 hQ24
  obtain ⟨rfl, Nq24, eh24⟩ := hQ24
  have N24 := Fr.app N0 Nq24
  refine own_sh (T := T24) 6 #[.val (.ref t), .val (.int 0)] [(.int x1)] ?_
  obtain ⟨fs, hr, hrun, hended, hW, hsame⟩ := X24.leave (v := some (.int x1)) (fun h => by rw [Bd.returns] at h; cases h)
  refine own_ret (t := T24.setFrames fs) ?_ ⟨_, hrun, hended, _, _, rfl, ?_, ⟨_, rfl⟩, hW, hsame.mono (by decide) (by decide)⟩
  · exact retOut X24 hx Bd.returns rfl (Or.inl ⟨rfl, Or.inl rfl, _, rfl⟩) (hb hby d11_6) hr
  · show Q_start_0_21 Z t aN bN kN kb x0 x1 x2 x3 x4 x5 x6 x7 x8 x9 x10 x11 x12 x13 x14 x15 x16 x17 x18 x19 x20 h0 n0 _ T24.heap _
    rw [eh24]
    exact ⟨rfl, N24, rfl⟩
def Q_get_0_4_21 (Z : State) (t : Nat) (aN : Nat) (bN : Nat) (kN : ClassId) (kb : ClassId) (x0 : Int32) (x1 : Int32) (x2 : Int32) (x3 : Int32) (x4 : Int32) (x5 : Int32) (x6 : Int32) (x7 : Int32) (x8 : Int32) (x9 : Int32) (x10 : Int32) (x11 : Int32) (x12 : Int32) (x13 : Int32) (x14 : Int32) (x15 : Int32) (x16 : Int32) (x17 : Int32) (x18 : Int32) (x19 : Int32) (x20 : Int32) (h0 : Heap) (n0 : Nat) (vR : Option Value) (hR : Heap) (LR : List Loc) : Prop := vR = some (.int x4) ∧ Fr n0 LR ∧ hR = h0
set_option maxRecDepth 65536 in
set_option maxHeartbeats 40000000 in
theorem get_0_4_21 (l : Launch) (Z : State) (a0 : Array Value) (hw : ∀ d ∈ tables_1, d.before a0 Z = true) (ws : List Jvm.Cond) (t : Nat) (aN : Nat) (bN : Nat) (kN : ClassId) (kb : ClassId) (x0 : Int32) (x1 : Int32) (x2 : Int32) (x3 : Int32) (x4 : Int32) (x5 : Int32) (x6 : Int32) (x7 : Int32) (x8 : Int32) (x9 : Int32) (x10 : Int32) (x11 : Int32) (x12 : Int32) (x13 : Int32) (x14 : Int32) (x15 : Int32) (x16 : Int32) (x17 : Int32) (x18 : Int32) (x19 : Int32) (x20 : Int32) (h0 : Heap) (n0 : Nat) (Z0 : n0 ≤ h0.size) (F_numbers_t : Fld Z h0 t "com/example/boxwood/boxwood/XmlNodeTable" "numbers" "[[I" (.ref aN)) (V_aN : Arv Z h0 aN kN (.array .int) (1 : Int32) [(.ref bN)] .null) (V_bN : Arv Z h0 bN kb .int (28672 : Int32) [(.int x0), (.int x1), (.int x2), (.int x3), (.int x4), (.int x5), (.int x6), (.int x7), (.int x8), (.int x9), (.int x10), (.int x11), (.int x12), (.int x13), (.int x14), (.int x15), (.int x16), (.int x17), (.int x18), (.int x19), (.int x20)] (.int 0)) :
    own_M l (⟨"com/example/boxwood/boxwood/XmlNodeTable", "get", "(II)I"⟩ : MethodName) prog_60_method_26_code 3 (some .int) ws ({ frames := 0, cells := 0, slots := 0, locals := 0 } : Room) Z #[(.ref t), (.int 0), (.int 4)] h0 (Q_get_0_4_21 Z t aN bN kN kb x0 x1 x2 x3 x4 x5 x6 x7 x8 x9 x10 x11 x12 x13 x14 x15 x16 x17 x18 x19 x20 h0 n0) := by
  refine own_body (own := "com/example/boxwood/boxwood/XmlNodeTable") rfl (plainFor_of_name pn_8) (fun m => ef_get_0_5_14 m t (0 : Int32) (4 : Int32)) ?_
  intro p e s m below meth c s₁ Bd hml hZ hh hx hby hown X0 e0
  have N0 := Fr.nil n0
  have lt21 : h0.size > t := F_numbers_t.lt
  have lt22 : h0.size > aN := V_aN.lt
  have lt23 : h0.size > bN := V_bN.lt
  refine own_aloadN X0.here hx hby d8_0 rfl rfl ?_
  refine own_getF X0 hx hZ hown (host := "") (Or.inl (own_w hw 12 rfl)) Via.refl e0 F_numbers_t hby d8_1 ?_
  intro T24 X24 e24
  refine own_iloadN X24.here hx hby d8_4 rfl ?_
  refine own_bipush X24.here hx hby d8_5 (v := (12 : Int32)) (by decide) ?_
  refine own_iushr X24.here hx hby d8_7 (v := (0 : Int32)) (by decide) ?_
  refine own_aaload X24 hx hZ e24 V_aN rfl ⟨by decide, by decide⟩ (v := (.ref bN)) rfl hby d8_8 ?_
  refine own_iloadN X24.here hx hby d8_9 rfl ?_
  refine own_sipush X24.here hx hby d8_10 (v := (4095 : Int32)) (by decide) ?_
  refine own_iand X24.here hx hby d8_13 (v := (0 : Int32)) (by decide) ?_
  refine own_bipush X24.here hx hby d8_14 (v := (7 : Int32)) (by decide) ?_
  refine own_imul X24.here hx hby d8_16 (v := (0 : Int32)) (by decide) ?_
  refine own_iloadN X24.here hx hby d8_17 rfl ?_
  refine own_iadd X24.here hx hby d8_18 (v := (4 : Int32)) (by decide) ?_
  refine own_iaload X24 hx hZ e24 V_bN ⟨by decide, by decide⟩ (v := (.int x4)) rfl hby d8_19 ?_
  obtain ⟨fs, hr, hrun, hended, hW, hsame⟩ := X24.leave (v := some (.int x4)) (fun h => by rw [Bd.returns] at h; cases h)
  refine own_ret (t := T24.setFrames fs) ?_ ⟨_, hrun, hended, _, _, rfl, ?_, ⟨_, rfl⟩, hW, hsame.mono (by decide) (by decide)⟩
  · exact retOut X24 hx Bd.returns rfl (Or.inl ⟨rfl, Or.inl rfl, _, rfl⟩) (hb hby d8_20) hr
  · show Q_get_0_4_21 Z t aN bN kN kb x0 x1 x2 x3 x4 x5 x6 x7 x8 x9 x10 x11 x12 x13 x14 x15 x16 x17 x18 x19 x20 h0 n0 _ T24.heap _
    rw [e24]
    exact ⟨rfl, N0, rfl⟩
def Q_contentStart_0_21 (Z : State) (t : Nat) (aN : Nat) (bN : Nat) (kN : ClassId) (kb : ClassId) (x0 : Int32) (x1 : Int32) (x2 : Int32) (x3 : Int32) (x4 : Int32) (x5 : Int32) (x6 : Int32) (x7 : Int32) (x8 : Int32) (x9 : Int32) (x10 : Int32) (x11 : Int32) (x12 : Int32) (x13 : Int32) (x14 : Int32) (x15 : Int32) (x16 : Int32) (x17 : Int32) (x18 : Int32) (x19 : Int32) (x20 : Int32) (h0 : Heap) (n0 : Nat) (vR : Option Value) (hR : Heap) (LR : List Loc) : Prop := vR = some (.int x4) ∧ Fr n0 LR ∧ hR = h0
set_option maxRecDepth 65536 in
set_option maxHeartbeats 40000000 in
theorem contentStart_0_21 (l : Launch) (Z : State) (a0 : Array Value) (hw : ∀ d ∈ tables_1, d.before a0 Z = true) (ws : List Jvm.Cond) (t : Nat) (aN : Nat) (bN : Nat) (kN : ClassId) (kb : ClassId) (x0 : Int32) (x1 : Int32) (x2 : Int32) (x3 : Int32) (x4 : Int32) (x5 : Int32) (x6 : Int32) (x7 : Int32) (x8 : Int32) (x9 : Int32) (x10 : Int32) (x11 : Int32) (x12 : Int32) (x13 : Int32) (x14 : Int32) (x15 : Int32) (x16 : Int32) (x17 : Int32) (x18 : Int32) (x19 : Int32) (x20 : Int32) (h0 : Heap) (n0 : Nat) (Z0 : n0 ≤ h0.size) (E_t : Exa Z h0 t "com/example/boxwood/boxwood/XmlNodeTable") (F_numbers_t : Fld Z h0 t "com/example/boxwood/boxwood/XmlNodeTable" "numbers" "[[I" (.ref aN)) (V_aN : Arv Z h0 aN kN (.array .int) (1 : Int32) [(.ref bN)] .null) (V_bN : Arv Z h0 bN kb .int (28672 : Int32) [(.int x0), (.int x1), (.int x2), (.int x3), (.int x4), (.int x5), (.int x6), (.int x7), (.int x8), (.int x9), (.int x10), (.int x11), (.int x12), (.int x13), (.int x14), (.int x15), (.int x16), (.int x17), (.int x18), (.int x19), (.int x20)] (.int 0)) :
    own_M l (⟨"com/example/boxwood/boxwood/XmlNodeTable", "contentStart", "(I)I"⟩ : MethodName) prog_60_method_14_code 2 (some .int) ws ({ frames := 1, cells := 0, slots := 0, locals := 14 } : Room) Z #[(.ref t), (.int 0)] h0 (Q_contentStart_0_21 Z t aN bN kN kb x0 x1 x2 x3 x4 x5 x6 x7 x8 x9 x10 x11 x12 x13 x14 x15 x16 x17 x18 x19 x20 h0 n0) := by
  refine own_body (own := "com/example/boxwood/boxwood/XmlNodeTable") rfl (plainFor_of_name pn_12) (fun m => ef_contentStart_0_14 m t (0 : Int32)) ?_
  intro p e s m below meth c s₁ Bd hml hZ hh hx hby hown X0 e0
  have N0 := Fr.nil n0
  have lt21 : h0.size > t := E_t.lt
  have lt22 : h0.size > aN := V_aN.lt
  have lt23 : h0.size > bN := V_bN.lt
  refine own_aloadN X0.here hx hby d12_0 rfl rfl ?_
  refine own_iloadN X0.here hx hby d12_1 rfl ?_
  refine own_iconst X0.here hx hby d12_2 (v := (4 : Int32)) (by decide) ?_
  refine own_private X0 hx hZ hown (own_w hw 60 rfl) (own_w hw 61 rfl) (own_w hw 1 rfl) (own_w hw 62 rfl) (own_w hw 2 rfl) (own_w hw 63 rfl) (by decide) (get_0_4_21 l Z a0 hw [] t aN bN kN kb x0 x1 x2 x3 x4 x5 x6 x7 x8 x9 x10 x11 x12 x13 x14 x15 x16 x17 x18 x19 x20 h0 n0 Z0 F_numbers_t V_aN V_bN) 0 (Nat.le_of_eq rfl) (by decide) (by decide) (by rw [hml]; rfl) (argsL := [(.int 0), (.int 4)]) (st := []) E_t (lenOf pd_2 rfl) rfl rfl (by decide) (by decide) e0 hby d12_3 ?_
  intro T24 v24 L24 X24 hQ24
  obtain ⟨rfl, Nq24, eh24⟩ := hQ24
  have N24 := Fr.app N0 Nq24
  refine own_sh (T := T24) 6 #[.val (.ref t), .val (.int 0)] [(.int x4)] ?_
  obtain ⟨fs, hr, hrun, hended, hW, hsame⟩ := X24.leave (v := some (.int x4)) (fun h => by rw [Bd.returns] at h; cases h)
  refine own_ret (t := T24.setFrames fs) ?_ ⟨_, hrun, hended, _, _, rfl, ?_, ⟨_, rfl⟩, hW, hsame.mono (by decide) (by decide)⟩
  · exact retOut X24 hx Bd.returns rfl (Or.inl ⟨rfl, Or.inl rfl, _, rfl⟩) (hb hby d12_6) hr
  · show Q_contentStart_0_21 Z t aN bN kN kb x0 x1 x2 x3 x4 x5 x6 x7 x8 x9 x10 x11 x12 x13 x14 x15 x16 x17 x18 x19 x20 h0 n0 _ T24.heap _
    rw [eh24]
    exact ⟨rfl, N24, rfl⟩
def Q_endE_1_3 (Z : State) (t : Nat) (aN : Nat) (bN : Nat) (p1 : Int32) (p2 : Int32) (ac : Int32) (kN : ClassId) (kb : ClassId) (x0 : Int32) (x1 : Int32) (x2 : Int32) (x3 : Int32) (x4 : Int32) (x5 : Int32) (x6 : Int32) (x7 : Int32) (x8 : Int32) (x9 : Int32) (x10 : Int32) (x11 : Int32) (x12 : Int32) (x13 : Int32) (x14 : Int32) (x15 : Int32) (x16 : Int32) (x17 : Int32) (x18 : Int32) (x19 : Int32) (x20 : Int32) (h0 : Heap) (n0 : Nat) (vR : Option Value) (hR : Heap) (LR : List Loc) : Prop := vR = none ∧ Fr n0 LR ∧ Keep h0 hR [bN] ∧ (Arv Z hR bN kb .int (28672 : Int32) [(.int x0), (.int x1), (.int x2), (.int x3), (.int x4), (.int x5), (.int x6), (.int x7), (.int x8), (.int p2), (.int 3), (.int x11), (.int p1), (.int x13), (.int x14), (.int x15), (.int x16), (.int x17), (.int x18), (.int x19), (.int x20)] (.int 0))
set_option maxRecDepth 65536 in
set_option maxHeartbeats 40000000 in
theorem endE_1_3 (l : Launch) (Z : State) (a0 : Array Value) (hw : ∀ d ∈ tables_1, d.before a0 Z = true) (ws : List Jvm.Cond) (t : Nat) (aN : Nat) (bN : Nat) (p1 : Int32) (p2 : Int32) (ac : Int32) (kN : ClassId) (kb : ClassId) (x0 : Int32) (x1 : Int32) (x2 : Int32) (x3 : Int32) (x4 : Int32) (x5 : Int32) (x6 : Int32) (x7 : Int32) (x8 : Int32) (x9 : Int32) (x10 : Int32) (x11 : Int32) (x12 : Int32) (x13 : Int32) (x14 : Int32) (x15 : Int32) (x16 : Int32) (x17 : Int32) (x18 : Int32) (x19 : Int32) (x20 : Int32) (h0 : Heap) (n0 : Nat) (Z0 : n0 ≤ h0.size) (E_t : Exa Z h0 t "com/example/boxwood/boxwood/XmlNodeTable") (F_size_t : Fld Z h0 t "com/example/boxwood/boxwood/XmlNodeTable" "size" "I" (.int 3)) (F_numbers_t : Fld Z h0 t "com/example/boxwood/boxwood/XmlNodeTable" "numbers" "[[I" (.ref aN)) (F_attributeCount_t : Fld Z h0 t "com/example/boxwood/boxwood/XmlNodeTable" "attributeCount" "I" (.int ac)) (V_aN : Arv Z h0 aN kN (.array .int) (1 : Int32) [(.ref bN)] .null) (V_bN : Arv Z h0 bN kb .int (28672 : Int32) [(.int x0), (.int x1), (.int x2), (.int x3), (.int x4), (.int x5), (.int x6), (.int x7), (.int x8), (.int x9), (.int x10), (.int x11), (.int x12), (.int x13), (.int x14), (.int x15), (.int x16), (.int x17), (.int x18), (.int x19), (.int x20)] (.int 0)) (g_bN : n0 ≤ bN) :
    own_M l (⟨"com/example/boxwood/boxwood/XmlNodeTable", "endElement", "(III)V"⟩ : MethodName) prog_60_method_7_code 6 none ws ({ frames := 0, cells := 0, slots := 0, locals := 0 } : Room) Z #[(.ref t), (.int 1), (.int p1), (.int p2)] h0 (Q_endE_1_3 Z t aN bN p1 p2 ac kN kb x0 x1 x2 x3 x4 x5 x6 x7 x8 x9 x10 x11 x12 x13 x14 x15 x16 x17 x18 x19 x20 h0 n0) := by
  refine own_body (own := "com/example/boxwood/boxwood/XmlNodeTable") rfl (plainFor_of_name pn_6) (fun m => ef_endE_0_2 m t (1 : Int32) p1 p2) ?_
  intro p e s m below meth c s₁ Bd hml hZ hh hx hby hown X0 e0
  have N0 := Fr.nil n0
  have lt21 : h0.size > t := E_t.lt
  have lt22 : h0.size > aN := V_aN.lt
  have lt23 : h0.size > bN := V_bN.lt
  refine own_aloadN X0.here hx hby d6_0 rfl rfl ?_
  refine own_getF X0 hx hZ hown (host := "") (Or.inl (own_w hw 12 rfl)) Via.refl e0 F_numbers_t hby d6_1 ?_
  intro T24 X24 e24
  refine own_iloadN X24.here hx hby d6_4 rfl ?_
  refine own_bipush X24.here hx hby d6_5 (v := (12 : Int32)) (by decide) ?_
  refine own_iushr X24.here hx hby d6_7 (v := (0 : Int32)) (by decide) ?_
  refine own_aaload X24 hx hZ e24 V_aN rfl ⟨by decide, by decide⟩ (v := (.ref bN)) rfl hby d6_8 ?_
  refine own_astore X24.here hx hby d6_9 rfl (l' := #[.val (.ref t), .val (.int 1), .val (.int p1), .val (.int p2), .val (.ref bN), .unset]) rfl ?_
  refine own_iloadN X24.here hx hby d6_11 rfl ?_
  refine own_sipush X24.here hx hby d6_12 (v := (4095 : Int32)) (by decide) ?_
  refine own_iand X24.here hx hby d6_15 (v := (1 : Int32)) (by decide) ?_
  refine own_bipush X24.here hx hby d6_16 (v := (7 : Int32)) (by decide) ?_
  refine own_imul X24.here hx hby d6_18 (v := (7 : Int32)) (by decide) ?_
  refine own_istore X24.here hx hby d6_19 (l' := #[.val (.ref t), .val (.int 1), .val (.int p1), .val (.int p2), .val (.ref bN), .val (.int 7)]) rfl ?_
  refine own_aload X24.here hx hby d6_21 rfl rfl ?_
  refine own_iload X24.here hx hby d6_23 rfl ?_
  refine own_iconst X24.here hx hby d6_25 (v := (5 : Int32)) (by decide) ?_
  refine own_iadd X24.here hx hby d6_26 (v := (12 : Int32)) (by decide) ?_
  refine own_iloadN X24.here hx hby d6_27 rfl ?_
  refine own_iastore X24 hx hZ e24 V_bN ⟨by decide, by decide⟩ 12 (by decide) (Nat.le_of_ble_eq_true rfl) rfl hby d6_28 N0 g_bN ?_
  intro T25 h25 lo25 X25 e25 N25 W25 V25 z25
  have V26 : Arv Z h25 bN kb .int (28672 : Int32) [(.int x0), (.int x1), (.int x2), (.int x3), (.int x4), (.int x5), (.int x6), (.int x7), (.int x8), (.int x9), (.int x10), (.int x11), (.int p1), (.int x13), (.int x14), (.int x15), (.int x16), (.int x17), (.int x18), (.int x19), (.int x20)] (.int 0) := V25
  refine own_aload X25.here hx hby d6_29 rfl rfl ?_
  refine own_iload X25.here hx hby d6_31 rfl ?_
  refine own_iconst X25.here hx hby d6_33 (v := (2 : Int32)) (by decide) ?_
  refine own_iadd X25.here hx hby d6_34 (v := (9 : Int32)) (by decide) ?_
  refine own_iloadN X25.here hx hby d6_35 rfl ?_
  refine own_iastore X25 hx hZ e25 V26 ⟨by decide, by decide⟩ 9 (by decide) (Nat.le_of_ble_eq_true rfl) rfl hby d6_36 N25 g_bN ?_
  intro T27 h27 lo27 X27 e27 N27 W27 V27 z27
  have V28 : Arv Z h27 bN kb .int (28672 : Int32) [(.int x0), (.int x1), (.int x2), (.int x3), (.int x4), (.int x5), (.int x6), (.int x7), (.int x8), (.int p2), (.int x10), (.int x11), (.int p1), (.int x13), (.int x14), (.int x15), (.int x16), (.int x17), (.int x18), (.int x19), (.int x20)] (.int 0) := V27
  refine own_aload X27.here hx hby d6_37 rfl rfl ?_
  refine own_iload X27.here hx hby d6_39 rfl ?_
  refine own_iconst X27.here hx hby d6_41 (v := (3 : Int32)) (by decide) ?_
  refine own_iadd X27.here hx hby d6_42 (v := (10 : Int32)) (by decide) ?_
  refine own_aloadN X27.here hx hby d6_43 rfl rfl ?_
  have f29 : Fld Z h27 t "com/example/boxwood/boxwood/XmlNodeTable" "size" "I" (.int 3) := ((F_size_t.other W25 (Or.inl (own_ne_oa E_t (own_w hw 1 rfl) V_bN))).other W27 (Or.inl (own_ne_oa E_t (own_w hw 1 rfl) V_bN)))
  refine own_getF X27 hx hZ hown (host := "") (Or.inl (own_w hw 37 rfl)) Via.refl e27 f29 hby d6_44 ?_
  intro T30 X30 e30
  refine own_iastore X30 hx hZ e30 V28 ⟨by decide, by decide⟩ 10 (by decide) (Nat.le_of_ble_eq_true rfl) rfl hby d6_47 N27 g_bN ?_
  intro T31 h31 lo31 X31 e31 N31 W31 V31 z31
  have V32 : Arv Z h31 bN kb .int (28672 : Int32) [(.int x0), (.int x1), (.int x2), (.int x3), (.int x4), (.int x5), (.int x6), (.int x7), (.int x8), (.int p2), (.int 3), (.int x11), (.int p1), (.int x13), (.int x14), (.int x15), (.int x16), (.int x17), (.int x18), (.int x19), (.int x20)] (.int 0) := V31
  have K33 : Keep h0 h31 [bN] := ((((Keep.refl h0 [bN]).wr W25 (Or.inl (List.mem_of_getElem? (i := 0) rfl))).wr W27 (Or.inl (List.mem_of_getElem? (i := 0) rfl))).wr W31 (Or.inl (List.mem_of_getElem? (i := 0) rfl)))
  obtain ⟨fs, hr, hrun, hended, hW, hsame⟩ := X31.leave (v := none) (fun _ => rfl)
  refine own_ret (t := T31.setFrames fs) ?_ ⟨_, hrun, hended, _, _, rfl, ?_, ⟨_, rfl⟩, hW, hsame.mono (by decide) (by decide)⟩
  · exact X31.returnOut hx Bd.returns (hb hby d6_48) hr
  · show Q_endE_1_3 Z t aN bN p1 p2 ac kN kb x0 x1 x2 x3 x4 x5 x6 x7 x8 x9 x10 x11 x12 x13 x14 x15 x16 x17 x18 x19 x20 h0 n0 _ T31.heap _
    rw [e31]
    exact ⟨rfl, N31, K33, V32⟩
def Q_get_1_5_21 (Z : State) (t : Nat) (aN : Nat) (bN : Nat) (kN : ClassId) (kb : ClassId) (x0 : Int32) (x1 : Int32) (x2 : Int32) (x3 : Int32) (x4 : Int32) (x5 : Int32) (x6 : Int32) (x7 : Int32) (x8 : Int32) (x9 : Int32) (x10 : Int32) (x11 : Int32) (x12 : Int32) (x13 : Int32) (x14 : Int32) (x15 : Int32) (x16 : Int32) (x17 : Int32) (x18 : Int32) (x19 : Int32) (x20 : Int32) (h0 : Heap) (n0 : Nat) (vR : Option Value) (hR : Heap) (LR : List Loc) : Prop := vR = some (.int x12) ∧ Fr n0 LR ∧ hR = h0
set_option maxRecDepth 65536 in
set_option maxHeartbeats 40000000 in
theorem get_1_5_21 (l : Launch) (Z : State) (a0 : Array Value) (hw : ∀ d ∈ tables_1, d.before a0 Z = true) (ws : List Jvm.Cond) (t : Nat) (aN : Nat) (bN : Nat) (kN : ClassId) (kb : ClassId) (x0 : Int32) (x1 : Int32) (x2 : Int32) (x3 : Int32) (x4 : Int32) (x5 : Int32) (x6 : Int32) (x7 : Int32) (x8 : Int32) (x9 : Int32) (x10 : Int32) (x11 : Int32) (x12 : Int32) (x13 : Int32) (x14 : Int32) (x15 : Int32) (x16 : Int32) (x17 : Int32) (x18 : Int32) (x19 : Int32) (x20 : Int32) (h0 : Heap) (n0 : Nat) (Z0 : n0 ≤ h0.size) (F_numbers_t : Fld Z h0 t "com/example/boxwood/boxwood/XmlNodeTable" "numbers" "[[I" (.ref aN)) (V_aN : Arv Z h0 aN kN (.array .int) (1 : Int32) [(.ref bN)] .null) (V_bN : Arv Z h0 bN kb .int (28672 : Int32) [(.int x0), (.int x1), (.int x2), (.int x3), (.int x4), (.int x5), (.int x6), (.int x7), (.int x8), (.int x9), (.int x10), (.int x11), (.int x12), (.int x13), (.int x14), (.int x15), (.int x16), (.int x17), (.int x18), (.int x19), (.int x20)] (.int 0)) :
    own_M l (⟨"com/example/boxwood/boxwood/XmlNodeTable", "get", "(II)I"⟩ : MethodName) prog_60_method_26_code 3 (some .int) ws ({ frames := 0, cells := 0, slots := 0, locals := 0 } : Room) Z #[(.ref t), (.int 1), (.int 5)] h0 (Q_get_1_5_21 Z t aN bN kN kb x0 x1 x2 x3 x4 x5 x6 x7 x8 x9 x10 x11 x12 x13 x14 x15 x16 x17 x18 x19 x20 h0 n0) := by
  refine own_body (own := "com/example/boxwood/boxwood/XmlNodeTable") rfl (plainFor_of_name pn_8) (fun m => ef_get_0_5_14 m t (1 : Int32) (5 : Int32)) ?_
  intro p e s m below meth c s₁ Bd hml hZ hh hx hby hown X0 e0
  have N0 := Fr.nil n0
  have lt21 : h0.size > t := F_numbers_t.lt
  have lt22 : h0.size > aN := V_aN.lt
  have lt23 : h0.size > bN := V_bN.lt
  refine own_aloadN X0.here hx hby d8_0 rfl rfl ?_
  refine own_getF X0 hx hZ hown (host := "") (Or.inl (own_w hw 12 rfl)) Via.refl e0 F_numbers_t hby d8_1 ?_
  intro T24 X24 e24
  refine own_iloadN X24.here hx hby d8_4 rfl ?_
  refine own_bipush X24.here hx hby d8_5 (v := (12 : Int32)) (by decide) ?_
  refine own_iushr X24.here hx hby d8_7 (v := (0 : Int32)) (by decide) ?_
  refine own_aaload X24 hx hZ e24 V_aN rfl ⟨by decide, by decide⟩ (v := (.ref bN)) rfl hby d8_8 ?_
  refine own_iloadN X24.here hx hby d8_9 rfl ?_
  refine own_sipush X24.here hx hby d8_10 (v := (4095 : Int32)) (by decide) ?_
  refine own_iand X24.here hx hby d8_13 (v := (1 : Int32)) (by decide) ?_
  refine own_bipush X24.here hx hby d8_14 (v := (7 : Int32)) (by decide) ?_
  refine own_imul X24.here hx hby d8_16 (v := (7 : Int32)) (by decide) ?_
  refine own_iloadN X24.here hx hby d8_17 rfl ?_
  refine own_iadd X24.here hx hby d8_18 (v := (12 : Int32)) (by decide) ?_
  refine own_iaload X24 hx hZ e24 V_bN ⟨by decide, by decide⟩ (v := (.int x12)) rfl hby d8_19 ?_
  obtain ⟨fs, hr, hrun, hended, hW, hsame⟩ := X24.leave (v := some (.int x12)) (fun h => by rw [Bd.returns] at h; cases h)
  refine own_ret (t := T24.setFrames fs) ?_ ⟨_, hrun, hended, _, _, rfl, ?_, ⟨_, rfl⟩, hW, hsame.mono (by decide) (by decide)⟩
  · exact retOut X24 hx Bd.returns rfl (Or.inl ⟨rfl, Or.inl rfl, _, rfl⟩) (hb hby d8_20) hr
  · show Q_get_1_5_21 Z t aN bN kN kb x0 x1 x2 x3 x4 x5 x6 x7 x8 x9 x10 x11 x12 x13 x14 x15 x16 x17 x18 x19 x20 h0 n0 _ T24.heap _
    rw [e24]
    exact ⟨rfl, N0, rfl⟩
def Q_contentEnd_1_21 (Z : State) (t : Nat) (aN : Nat) (bN : Nat) (kN : ClassId) (kb : ClassId) (x0 : Int32) (x1 : Int32) (x2 : Int32) (x3 : Int32) (x4 : Int32) (x5 : Int32) (x6 : Int32) (x7 : Int32) (x8 : Int32) (x9 : Int32) (x10 : Int32) (x11 : Int32) (x12 : Int32) (x13 : Int32) (x14 : Int32) (x15 : Int32) (x16 : Int32) (x17 : Int32) (x18 : Int32) (x19 : Int32) (x20 : Int32) (h0 : Heap) (n0 : Nat) (vR : Option Value) (hR : Heap) (LR : List Loc) : Prop := vR = some (.int x12) ∧ Fr n0 LR ∧ hR = h0
set_option maxRecDepth 65536 in
set_option maxHeartbeats 40000000 in
theorem contentEnd_1_21 (l : Launch) (Z : State) (a0 : Array Value) (hw : ∀ d ∈ tables_1, d.before a0 Z = true) (ws : List Jvm.Cond) (t : Nat) (aN : Nat) (bN : Nat) (kN : ClassId) (kb : ClassId) (x0 : Int32) (x1 : Int32) (x2 : Int32) (x3 : Int32) (x4 : Int32) (x5 : Int32) (x6 : Int32) (x7 : Int32) (x8 : Int32) (x9 : Int32) (x10 : Int32) (x11 : Int32) (x12 : Int32) (x13 : Int32) (x14 : Int32) (x15 : Int32) (x16 : Int32) (x17 : Int32) (x18 : Int32) (x19 : Int32) (x20 : Int32) (h0 : Heap) (n0 : Nat) (Z0 : n0 ≤ h0.size) (E_t : Exa Z h0 t "com/example/boxwood/boxwood/XmlNodeTable") (F_numbers_t : Fld Z h0 t "com/example/boxwood/boxwood/XmlNodeTable" "numbers" "[[I" (.ref aN)) (V_aN : Arv Z h0 aN kN (.array .int) (1 : Int32) [(.ref bN)] .null) (V_bN : Arv Z h0 bN kb .int (28672 : Int32) [(.int x0), (.int x1), (.int x2), (.int x3), (.int x4), (.int x5), (.int x6), (.int x7), (.int x8), (.int x9), (.int x10), (.int x11), (.int x12), (.int x13), (.int x14), (.int x15), (.int x16), (.int x17), (.int x18), (.int x19), (.int x20)] (.int 0)) :
    own_M l (⟨"com/example/boxwood/boxwood/XmlNodeTable", "contentEnd", "(I)I"⟩ : MethodName) prog_60_method_15_code 2 (some .int) ws ({ frames := 1, cells := 0, slots := 0, locals := 14 } : Room) Z #[(.ref t), (.int 1)] h0 (Q_contentEnd_1_21 Z t aN bN kN kb x0 x1 x2 x3 x4 x5 x6 x7 x8 x9 x10 x11 x12 x13 x14 x15 x16 x17 x18 x19 x20 h0 n0) := by
  refine own_body (own := "com/example/boxwood/boxwood/XmlNodeTable") rfl (plainFor_of_name pn_7) (fun m => ef_contentEnd_0_14 m t (1 : Int32)) ?_
  intro p e s m below meth c s₁ Bd hml hZ hh hx hby hown X0 e0
  have N0 := Fr.nil n0
  have lt21 : h0.size > t := E_t.lt
  have lt22 : h0.size > aN := V_aN.lt
  have lt23 : h0.size > bN := V_bN.lt
  refine own_aloadN X0.here hx hby d7_0 rfl rfl ?_
  refine own_iloadN X0.here hx hby d7_1 rfl ?_
  refine own_iconst X0.here hx hby d7_2 (v := (5 : Int32)) (by decide) ?_
  refine own_private X0 hx hZ hown (own_w hw 60 rfl) (own_w hw 61 rfl) (own_w hw 1 rfl) (own_w hw 62 rfl) (own_w hw 2 rfl) (own_w hw 63 rfl) (by decide) (get_1_5_21 l Z a0 hw [] t aN bN kN kb x0 x1 x2 x3 x4 x5 x6 x7 x8 x9 x10 x11 x12 x13 x14 x15 x16 x17 x18 x19 x20 h0 n0 Z0 F_numbers_t V_aN V_bN) 0 (Nat.le_of_eq rfl) (by decide) (by decide) (by rw [hml]; rfl) (argsL := [(.int 1), (.int 5)]) (st := []) E_t (lenOf pd_2 rfl) rfl rfl (by decide) (by decide) e0 hby d7_3 ?_
  intro T24 v24 L24 X24 hQ24
  obtain ⟨rfl, Nq24, eh24⟩ := hQ24
  have N24 := Fr.app N0 Nq24
  refine own_sh (T := T24) 6 #[.val (.ref t), .val (.int 1)] [(.int x12)] ?_
  obtain ⟨fs, hr, hrun, hended, hW, hsame⟩ := X24.leave (v := some (.int x12)) (fun h => by rw [Bd.returns] at h; cases h)
  refine own_ret (t := T24.setFrames fs) ?_ ⟨_, hrun, hended, _, _, rfl, ?_, ⟨_, rfl⟩, hW, hsame.mono (by decide) (by decide)⟩
  · exact retOut X24 hx Bd.returns rfl (Or.inl ⟨rfl, Or.inl rfl, _, rfl⟩) (hb hby d7_6) hr
  · show Q_contentEnd_1_21 Z t aN bN kN kb x0 x1 x2 x3 x4 x5 x6 x7 x8 x9 x10 x11 x12 x13 x14 x15 x16 x17 x18 x19 x20 h0 n0 _ T24.heap _
    rw [eh24]
    exact ⟨rfl, N24, rfl⟩
def Q_get_1_2_21 (Z : State) (t : Nat) (aN : Nat) (bN : Nat) (kN : ClassId) (kb : ClassId) (x0 : Int32) (x1 : Int32) (x2 : Int32) (x3 : Int32) (x4 : Int32) (x5 : Int32) (x6 : Int32) (x7 : Int32) (x8 : Int32) (x9 : Int32) (x10 : Int32) (x11 : Int32) (x12 : Int32) (x13 : Int32) (x14 : Int32) (x15 : Int32) (x16 : Int32) (x17 : Int32) (x18 : Int32) (x19 : Int32) (x20 : Int32) (h0 : Heap) (n0 : Nat) (vR : Option Value) (hR : Heap) (LR : List Loc) : Prop := vR = some (.int x9) ∧ Fr n0 LR ∧ hR = h0
set_option maxRecDepth 65536 in
set_option maxHeartbeats 40000000 in
theorem get_1_2_21 (l : Launch) (Z : State) (a0 : Array Value) (hw : ∀ d ∈ tables_1, d.before a0 Z = true) (ws : List Jvm.Cond) (t : Nat) (aN : Nat) (bN : Nat) (kN : ClassId) (kb : ClassId) (x0 : Int32) (x1 : Int32) (x2 : Int32) (x3 : Int32) (x4 : Int32) (x5 : Int32) (x6 : Int32) (x7 : Int32) (x8 : Int32) (x9 : Int32) (x10 : Int32) (x11 : Int32) (x12 : Int32) (x13 : Int32) (x14 : Int32) (x15 : Int32) (x16 : Int32) (x17 : Int32) (x18 : Int32) (x19 : Int32) (x20 : Int32) (h0 : Heap) (n0 : Nat) (Z0 : n0 ≤ h0.size) (F_numbers_t : Fld Z h0 t "com/example/boxwood/boxwood/XmlNodeTable" "numbers" "[[I" (.ref aN)) (V_aN : Arv Z h0 aN kN (.array .int) (1 : Int32) [(.ref bN)] .null) (V_bN : Arv Z h0 bN kb .int (28672 : Int32) [(.int x0), (.int x1), (.int x2), (.int x3), (.int x4), (.int x5), (.int x6), (.int x7), (.int x8), (.int x9), (.int x10), (.int x11), (.int x12), (.int x13), (.int x14), (.int x15), (.int x16), (.int x17), (.int x18), (.int x19), (.int x20)] (.int 0)) :
    own_M l (⟨"com/example/boxwood/boxwood/XmlNodeTable", "get", "(II)I"⟩ : MethodName) prog_60_method_26_code 3 (some .int) ws ({ frames := 0, cells := 0, slots := 0, locals := 0 } : Room) Z #[(.ref t), (.int 1), (.int 2)] h0 (Q_get_1_2_21 Z t aN bN kN kb x0 x1 x2 x3 x4 x5 x6 x7 x8 x9 x10 x11 x12 x13 x14 x15 x16 x17 x18 x19 x20 h0 n0) := by
  refine own_body (own := "com/example/boxwood/boxwood/XmlNodeTable") rfl (plainFor_of_name pn_8) (fun m => ef_get_0_5_14 m t (1 : Int32) (2 : Int32)) ?_
  intro p e s m below meth c s₁ Bd hml hZ hh hx hby hown X0 e0
  have N0 := Fr.nil n0
  have lt21 : h0.size > t := F_numbers_t.lt
  have lt22 : h0.size > aN := V_aN.lt
  have lt23 : h0.size > bN := V_bN.lt
  refine own_aloadN X0.here hx hby d8_0 rfl rfl ?_
  refine own_getF X0 hx hZ hown (host := "") (Or.inl (own_w hw 12 rfl)) Via.refl e0 F_numbers_t hby d8_1 ?_
  intro T24 X24 e24
  refine own_iloadN X24.here hx hby d8_4 rfl ?_
  refine own_bipush X24.here hx hby d8_5 (v := (12 : Int32)) (by decide) ?_
  refine own_iushr X24.here hx hby d8_7 (v := (0 : Int32)) (by decide) ?_
  refine own_aaload X24 hx hZ e24 V_aN rfl ⟨by decide, by decide⟩ (v := (.ref bN)) rfl hby d8_8 ?_
  refine own_iloadN X24.here hx hby d8_9 rfl ?_
  refine own_sipush X24.here hx hby d8_10 (v := (4095 : Int32)) (by decide) ?_
  refine own_iand X24.here hx hby d8_13 (v := (1 : Int32)) (by decide) ?_
  refine own_bipush X24.here hx hby d8_14 (v := (7 : Int32)) (by decide) ?_
  refine own_imul X24.here hx hby d8_16 (v := (7 : Int32)) (by decide) ?_
  refine own_iloadN X24.here hx hby d8_17 rfl ?_
  refine own_iadd X24.here hx hby d8_18 (v := (9 : Int32)) (by decide) ?_
  refine own_iaload X24 hx hZ e24 V_bN ⟨by decide, by decide⟩ (v := (.int x9)) rfl hby d8_19 ?_
  obtain ⟨fs, hr, hrun, hended, hW, hsame⟩ := X24.leave (v := some (.int x9)) (fun h => by rw [Bd.returns] at h; cases h)
  refine own_ret (t := T24.setFrames fs) ?_ ⟨_, hrun, hended, _, _, rfl, ?_, ⟨_, rfl⟩, hW, hsame.mono (by decide) (by decide)⟩
  · exact retOut X24 hx Bd.returns rfl (Or.inl ⟨rfl, Or.inl rfl, _, rfl⟩) (hb hby d8_20) hr
  · show Q_get_1_2_21 Z t aN bN kN kb x0 x1 x2 x3 x4 x5 x6 x7 x8 x9 x10 x11 x12 x13 x14 x15 x16 x17 x18 x19 x20 h0 n0 _ T24.heap _
    rw [e24]
    exact ⟨rfl, N0, rfl⟩
def Q_end_1_21 (Z : State) (t : Nat) (aN : Nat) (bN : Nat) (kN : ClassId) (kb : ClassId) (x0 : Int32) (x1 : Int32) (x2 : Int32) (x3 : Int32) (x4 : Int32) (x5 : Int32) (x6 : Int32) (x7 : Int32) (x8 : Int32) (x9 : Int32) (x10 : Int32) (x11 : Int32) (x12 : Int32) (x13 : Int32) (x14 : Int32) (x15 : Int32) (x16 : Int32) (x17 : Int32) (x18 : Int32) (x19 : Int32) (x20 : Int32) (h0 : Heap) (n0 : Nat) (vR : Option Value) (hR : Heap) (LR : List Loc) : Prop := vR = some (.int x9) ∧ Fr n0 LR ∧ hR = h0
set_option maxRecDepth 65536 in
set_option maxHeartbeats 40000000 in
theorem end_1_21 (l : Launch) (Z : State) (a0 : Array Value) (hw : ∀ d ∈ tables_1, d.before a0 Z = true) (ws : List Jvm.Cond) (t : Nat) (aN : Nat) (bN : Nat) (kN : ClassId) (kb : ClassId) (x0 : Int32) (x1 : Int32) (x2 : Int32) (x3 : Int32) (x4 : Int32) (x5 : Int32) (x6 : Int32) (x7 : Int32) (x8 : Int32) (x9 : Int32) (x10 : Int32) (x11 : Int32) (x12 : Int32) (x13 : Int32) (x14 : Int32) (x15 : Int32) (x16 : Int32) (x17 : Int32) (x18 : Int32) (x19 : Int32) (x20 : Int32) (h0 : Heap) (n0 : Nat) (Z0 : n0 ≤ h0.size) (E_t : Exa Z h0 t "com/example/boxwood/boxwood/XmlNodeTable") (F_numbers_t : Fld Z h0 t "com/example/boxwood/boxwood/XmlNodeTable" "numbers" "[[I" (.ref aN)) (V_aN : Arv Z h0 aN kN (.array .int) (1 : Int32) [(.ref bN)] .null) (V_bN : Arv Z h0 bN kb .int (28672 : Int32) [(.int x0), (.int x1), (.int x2), (.int x3), (.int x4), (.int x5), (.int x6), (.int x7), (.int x8), (.int x9), (.int x10), (.int x11), (.int x12), (.int x13), (.int x14), (.int x15), (.int x16), (.int x17), (.int x18), (.int x19), (.int x20)] (.int 0)) :
    own_M l (⟨"com/example/boxwood/boxwood/XmlNodeTable", "end", "(I)I"⟩ : MethodName) prog_60_method_12_code 2 (some .int) ws ({ frames := 1, cells := 0, slots := 0, locals := 14 } : Room) Z #[(.ref t), (.int 1)] h0 (Q_end_1_21 Z t aN bN kN kb x0 x1 x2 x3 x4 x5 x6 x7 x8 x9 x10 x11 x12 x13 x14 x15 x16 x17 x18 x19 x20 h0 n0) := by
  refine own_body (own := "com/example/boxwood/boxwood/XmlNodeTable") rfl (plainFor_of_name pn_9) (fun m => ef_end_0_14 m t (1 : Int32)) ?_
  intro p e s m below meth c s₁ Bd hml hZ hh hx hby hown X0 e0
  have N0 := Fr.nil n0
  have lt21 : h0.size > t := E_t.lt
  have lt22 : h0.size > aN := V_aN.lt
  have lt23 : h0.size > bN := V_bN.lt
  refine own_aloadN X0.here hx hby d9_0 rfl rfl ?_
  refine own_iloadN X0.here hx hby d9_1 rfl ?_
  refine own_iconst X0.here hx hby d9_2 (v := (2 : Int32)) (by decide) ?_
  refine own_private X0 hx hZ hown (own_w hw 60 rfl) (own_w hw 61 rfl) (own_w hw 1 rfl) (own_w hw 62 rfl) (own_w hw 2 rfl) (own_w hw 63 rfl) (by decide) (get_1_2_21 l Z a0 hw [] t aN bN kN kb x0 x1 x2 x3 x4 x5 x6 x7 x8 x9 x10 x11 x12 x13 x14 x15 x16 x17 x18 x19 x20 h0 n0 Z0 F_numbers_t V_aN V_bN) 0 (Nat.le_of_eq rfl) (by decide) (by decide) (by rw [hml]; rfl) (argsL := [(.int 1), (.int 2)]) (st := []) E_t (lenOf pd_2 rfl) rfl rfl (by decide) (by decide) e0 hby d9_3 ?_
  intro T24 v24 L24 X24 hQ24
  obtain ⟨rfl, Nq24, eh24⟩ := hQ24
  have N24 := Fr.app N0 Nq24
  refine own_sh (T := T24) 6 #[.val (.ref t), .val (.int 1)] [(.int x9)] ?_
  obtain ⟨fs, hr, hrun, hended, hW, hsame⟩ := X24.leave (v := some (.int x9)) (fun h => by rw [Bd.returns] at h; cases h)
  refine own_ret (t := T24.setFrames fs) ?_ ⟨_, hrun, hended, _, _, rfl, ?_, ⟨_, rfl⟩, hW, hsame.mono (by decide) (by decide)⟩
  · exact retOut X24 hx Bd.returns rfl (Or.inl ⟨rfl, Or.inl rfl, _, rfl⟩) (hb hby d9_6) hr
  · show Q_end_1_21 Z t aN bN kN kb x0 x1 x2 x3 x4 x5 x6 x7 x8 x9 x10 x11 x12 x13 x14 x15 x16 x17 x18 x19 x20 h0 n0 _ T24.heap _
    rw [eh24]
    exact ⟨rfl, N24, rfl⟩
def Q_get_1_3_21 (Z : State) (t : Nat) (aN : Nat) (bN : Nat) (kN : ClassId) (kb : ClassId) (x0 : Int32) (x1 : Int32) (x2 : Int32) (x3 : Int32) (x4 : Int32) (x5 : Int32) (x6 : Int32) (x7 : Int32) (x8 : Int32) (x9 : Int32) (x10 : Int32) (x11 : Int32) (x12 : Int32) (x13 : Int32) (x14 : Int32) (x15 : Int32) (x16 : Int32) (x17 : Int32) (x18 : Int32) (x19 : Int32) (x20 : Int32) (h0 : Heap) (n0 : Nat) (vR : Option Value) (hR : Heap) (LR : List Loc) : Prop := vR = some (.int x10) ∧ Fr n0 LR ∧ hR = h0
set_option maxRecDepth 65536 in
set_option maxHeartbeats 40000000 in
theorem get_1_3_21 (l : Launch) (Z : State) (a0 : Array Value) (hw : ∀ d ∈ tables_1, d.before a0 Z = true) (ws : List Jvm.Cond) (t : Nat) (aN : Nat) (bN : Nat) (kN : ClassId) (kb : ClassId) (x0 : Int32) (x1 : Int32) (x2 : Int32) (x3 : Int32) (x4 : Int32) (x5 : Int32) (x6 : Int32) (x7 : Int32) (x8 : Int32) (x9 : Int32) (x10 : Int32) (x11 : Int32) (x12 : Int32) (x13 : Int32) (x14 : Int32) (x15 : Int32) (x16 : Int32) (x17 : Int32) (x18 : Int32) (x19 : Int32) (x20 : Int32) (h0 : Heap) (n0 : Nat) (Z0 : n0 ≤ h0.size) (F_numbers_t : Fld Z h0 t "com/example/boxwood/boxwood/XmlNodeTable" "numbers" "[[I" (.ref aN)) (V_aN : Arv Z h0 aN kN (.array .int) (1 : Int32) [(.ref bN)] .null) (V_bN : Arv Z h0 bN kb .int (28672 : Int32) [(.int x0), (.int x1), (.int x2), (.int x3), (.int x4), (.int x5), (.int x6), (.int x7), (.int x8), (.int x9), (.int x10), (.int x11), (.int x12), (.int x13), (.int x14), (.int x15), (.int x16), (.int x17), (.int x18), (.int x19), (.int x20)] (.int 0)) :
    own_M l (⟨"com/example/boxwood/boxwood/XmlNodeTable", "get", "(II)I"⟩ : MethodName) prog_60_method_26_code 3 (some .int) ws ({ frames := 0, cells := 0, slots := 0, locals := 0 } : Room) Z #[(.ref t), (.int 1), (.int 3)] h0 (Q_get_1_3_21 Z t aN bN kN kb x0 x1 x2 x3 x4 x5 x6 x7 x8 x9 x10 x11 x12 x13 x14 x15 x16 x17 x18 x19 x20 h0 n0) := by
  refine own_body (own := "com/example/boxwood/boxwood/XmlNodeTable") rfl (plainFor_of_name pn_8) (fun m => ef_get_0_5_14 m t (1 : Int32) (3 : Int32)) ?_
  intro p e s m below meth c s₁ Bd hml hZ hh hx hby hown X0 e0
  have N0 := Fr.nil n0
  have lt21 : h0.size > t := F_numbers_t.lt
  have lt22 : h0.size > aN := V_aN.lt
  have lt23 : h0.size > bN := V_bN.lt
  refine own_aloadN X0.here hx hby d8_0 rfl rfl ?_
  refine own_getF X0 hx hZ hown (host := "") (Or.inl (own_w hw 12 rfl)) Via.refl e0 F_numbers_t hby d8_1 ?_
  intro T24 X24 e24
  refine own_iloadN X24.here hx hby d8_4 rfl ?_
  refine own_bipush X24.here hx hby d8_5 (v := (12 : Int32)) (by decide) ?_
  refine own_iushr X24.here hx hby d8_7 (v := (0 : Int32)) (by decide) ?_
  refine own_aaload X24 hx hZ e24 V_aN rfl ⟨by decide, by decide⟩ (v := (.ref bN)) rfl hby d8_8 ?_
  refine own_iloadN X24.here hx hby d8_9 rfl ?_
  refine own_sipush X24.here hx hby d8_10 (v := (4095 : Int32)) (by decide) ?_
  refine own_iand X24.here hx hby d8_13 (v := (1 : Int32)) (by decide) ?_
  refine own_bipush X24.here hx hby d8_14 (v := (7 : Int32)) (by decide) ?_
  refine own_imul X24.here hx hby d8_16 (v := (7 : Int32)) (by decide) ?_
  refine own_iloadN X24.here hx hby d8_17 rfl ?_
  refine own_iadd X24.here hx hby d8_18 (v := (10 : Int32)) (by decide) ?_
  refine own_iaload X24 hx hZ e24 V_bN ⟨by decide, by decide⟩ (v := (.int x10)) rfl hby d8_19 ?_
  obtain ⟨fs, hr, hrun, hended, hW, hsame⟩ := X24.leave (v := some (.int x10)) (fun h => by rw [Bd.returns] at h; cases h)
  refine own_ret (t := T24.setFrames fs) ?_ ⟨_, hrun, hended, _, _, rfl, ?_, ⟨_, rfl⟩, hW, hsame.mono (by decide) (by decide)⟩
  · exact retOut X24 hx Bd.returns rfl (Or.inl ⟨rfl, Or.inl rfl, _, rfl⟩) (hb hby d8_20) hr
  · show Q_get_1_3_21 Z t aN bN kN kb x0 x1 x2 x3 x4 x5 x6 x7 x8 x9 x10 x11 x12 x13 x14 x15 x16 x17 x18 x19 x20 h0 n0 _ T24.heap _
    rw [e24]
    exact ⟨rfl, N0, rfl⟩
def Q_next_1_21 (Z : State) (t : Nat) (aN : Nat) (bN : Nat) (kN : ClassId) (kb : ClassId) (x0 : Int32) (x1 : Int32) (x2 : Int32) (x3 : Int32) (x4 : Int32) (x5 : Int32) (x6 : Int32) (x7 : Int32) (x8 : Int32) (x9 : Int32) (x10 : Int32) (x11 : Int32) (x12 : Int32) (x13 : Int32) (x14 : Int32) (x15 : Int32) (x16 : Int32) (x17 : Int32) (x18 : Int32) (x19 : Int32) (x20 : Int32) (h0 : Heap) (n0 : Nat) (vR : Option Value) (hR : Heap) (LR : List Loc) : Prop := vR = some (.int x10) ∧ Fr n0 LR ∧ hR = h0
set_option maxRecDepth 65536 in
set_option maxHeartbeats 40000000 in
theorem next_1_21 (l : Launch) (Z : State) (a0 : Array Value) (hw : ∀ d ∈ tables_1, d.before a0 Z = true) (ws : List Jvm.Cond) (t : Nat) (aN : Nat) (bN : Nat) (kN : ClassId) (kb : ClassId) (x0 : Int32) (x1 : Int32) (x2 : Int32) (x3 : Int32) (x4 : Int32) (x5 : Int32) (x6 : Int32) (x7 : Int32) (x8 : Int32) (x9 : Int32) (x10 : Int32) (x11 : Int32) (x12 : Int32) (x13 : Int32) (x14 : Int32) (x15 : Int32) (x16 : Int32) (x17 : Int32) (x18 : Int32) (x19 : Int32) (x20 : Int32) (h0 : Heap) (n0 : Nat) (Z0 : n0 ≤ h0.size) (E_t : Exa Z h0 t "com/example/boxwood/boxwood/XmlNodeTable") (F_numbers_t : Fld Z h0 t "com/example/boxwood/boxwood/XmlNodeTable" "numbers" "[[I" (.ref aN)) (V_aN : Arv Z h0 aN kN (.array .int) (1 : Int32) [(.ref bN)] .null) (V_bN : Arv Z h0 bN kb .int (28672 : Int32) [(.int x0), (.int x1), (.int x2), (.int x3), (.int x4), (.int x5), (.int x6), (.int x7), (.int x8), (.int x9), (.int x10), (.int x11), (.int x12), (.int x13), (.int x14), (.int x15), (.int x16), (.int x17), (.int x18), (.int x19), (.int x20)] (.int 0)) :
    own_M l (⟨"com/example/boxwood/boxwood/XmlNodeTable", "next", "(I)I"⟩ : MethodName) prog_60_method_13_code 2 (some .int) ws ({ frames := 1, cells := 0, slots := 0, locals := 14 } : Room) Z #[(.ref t), (.int 1)] h0 (Q_next_1_21 Z t aN bN kN kb x0 x1 x2 x3 x4 x5 x6 x7 x8 x9 x10 x11 x12 x13 x14 x15 x16 x17 x18 x19 x20 h0 n0) := by
  refine own_body (own := "com/example/boxwood/boxwood/XmlNodeTable") rfl (plainFor_of_name pn_10) (fun m => ef_next_0_14 m t (1 : Int32)) ?_
  intro p e s m below meth c s₁ Bd hml hZ hh hx hby hown X0 e0
  have N0 := Fr.nil n0
  have lt21 : h0.size > t := E_t.lt
  have lt22 : h0.size > aN := V_aN.lt
  have lt23 : h0.size > bN := V_bN.lt
  refine own_aloadN X0.here hx hby d10_0 rfl rfl ?_
  refine own_iloadN X0.here hx hby d10_1 rfl ?_
  refine own_iconst X0.here hx hby d10_2 (v := (3 : Int32)) (by decide) ?_
  refine own_private X0 hx hZ hown (own_w hw 60 rfl) (own_w hw 61 rfl) (own_w hw 1 rfl) (own_w hw 62 rfl) (own_w hw 2 rfl) (own_w hw 63 rfl) (by decide) (get_1_3_21 l Z a0 hw [] t aN bN kN kb x0 x1 x2 x3 x4 x5 x6 x7 x8 x9 x10 x11 x12 x13 x14 x15 x16 x17 x18 x19 x20 h0 n0 Z0 F_numbers_t V_aN V_bN) 0 (Nat.le_of_eq rfl) (by decide) (by decide) (by rw [hml]; rfl) (argsL := [(.int 1), (.int 3)]) (st := []) E_t (lenOf pd_2 rfl) rfl rfl (by decide) (by decide) e0 hby d10_3 ?_
  intro T24 v24 L24 X24 hQ24
  obtain ⟨rfl, Nq24, eh24⟩ := hQ24
  have N24 := Fr.app N0 Nq24
  refine own_sh (T := T24) 6 #[.val (.ref t), .val (.int 1)] [(.int x10)] ?_
  obtain ⟨fs, hr, hrun, hended, hW, hsame⟩ := X24.leave (v := some (.int x10)) (fun h => by rw [Bd.returns] at h; cases h)
  refine own_ret (t := T24.setFrames fs) ?_ ⟨_, hrun, hended, _, _, rfl, ?_, ⟨_, rfl⟩, hW, hsame.mono (by decide) (by decide)⟩
  · exact retOut X24 hx Bd.returns rfl (Or.inl ⟨rfl, Or.inl rfl, _, rfl⟩) (hb hby d10_6) hr
  · show Q_next_1_21 Z t aN bN kN kb x0 x1 x2 x3 x4 x5 x6 x7 x8 x9 x10 x11 x12 x13 x14 x15 x16 x17 x18 x19 x20 h0 n0 _ T24.heap _
    rw [eh24]
    exact ⟨rfl, N24, rfl⟩
def Q_get_1_1_21 (Z : State) (t : Nat) (aN : Nat) (bN : Nat) (kN : ClassId) (kb : ClassId) (x0 : Int32) (x1 : Int32) (x2 : Int32) (x3 : Int32) (x4 : Int32) (x5 : Int32) (x6 : Int32) (x7 : Int32) (x8 : Int32) (x9 : Int32) (x10 : Int32) (x11 : Int32) (x12 : Int32) (x13 : Int32) (x14 : Int32) (x15 : Int32) (x16 : Int32) (x17 : Int32) (x18 : Int32) (x19 : Int32) (x20 : Int32) (h0 : Heap) (n0 : Nat) (vR : Option Value) (hR : Heap) (LR : List Loc) : Prop := vR = some (.int x8) ∧ Fr n0 LR ∧ hR = h0
set_option maxRecDepth 65536 in
set_option maxHeartbeats 40000000 in
theorem get_1_1_21 (l : Launch) (Z : State) (a0 : Array Value) (hw : ∀ d ∈ tables_1, d.before a0 Z = true) (ws : List Jvm.Cond) (t : Nat) (aN : Nat) (bN : Nat) (kN : ClassId) (kb : ClassId) (x0 : Int32) (x1 : Int32) (x2 : Int32) (x3 : Int32) (x4 : Int32) (x5 : Int32) (x6 : Int32) (x7 : Int32) (x8 : Int32) (x9 : Int32) (x10 : Int32) (x11 : Int32) (x12 : Int32) (x13 : Int32) (x14 : Int32) (x15 : Int32) (x16 : Int32) (x17 : Int32) (x18 : Int32) (x19 : Int32) (x20 : Int32) (h0 : Heap) (n0 : Nat) (Z0 : n0 ≤ h0.size) (F_numbers_t : Fld Z h0 t "com/example/boxwood/boxwood/XmlNodeTable" "numbers" "[[I" (.ref aN)) (V_aN : Arv Z h0 aN kN (.array .int) (1 : Int32) [(.ref bN)] .null) (V_bN : Arv Z h0 bN kb .int (28672 : Int32) [(.int x0), (.int x1), (.int x2), (.int x3), (.int x4), (.int x5), (.int x6), (.int x7), (.int x8), (.int x9), (.int x10), (.int x11), (.int x12), (.int x13), (.int x14), (.int x15), (.int x16), (.int x17), (.int x18), (.int x19), (.int x20)] (.int 0)) :
    own_M l (⟨"com/example/boxwood/boxwood/XmlNodeTable", "get", "(II)I"⟩ : MethodName) prog_60_method_26_code 3 (some .int) ws ({ frames := 0, cells := 0, slots := 0, locals := 0 } : Room) Z #[(.ref t), (.int 1), (.int 1)] h0 (Q_get_1_1_21 Z t aN bN kN kb x0 x1 x2 x3 x4 x5 x6 x7 x8 x9 x10 x11 x12 x13 x14 x15 x16 x17 x18 x19 x20 h0 n0) := by
  refine own_body (own := "com/example/boxwood/boxwood/XmlNodeTable") rfl (plainFor_of_name pn_8) (fun m => ef_get_0_5_14 m t (1 : Int32) (1 : Int32)) ?_
  intro p e s m below meth c s₁ Bd hml hZ hh hx hby hown X0 e0
  have N0 := Fr.nil n0
  have lt21 : h0.size > t := F_numbers_t.lt
  have lt22 : h0.size > aN := V_aN.lt
  have lt23 : h0.size > bN := V_bN.lt
  refine own_aloadN X0.here hx hby d8_0 rfl rfl ?_
  refine own_getF X0 hx hZ hown (host := "") (Or.inl (own_w hw 12 rfl)) Via.refl e0 F_numbers_t hby d8_1 ?_
  intro T24 X24 e24
  refine own_iloadN X24.here hx hby d8_4 rfl ?_
  refine own_bipush X24.here hx hby d8_5 (v := (12 : Int32)) (by decide) ?_
  refine own_iushr X24.here hx hby d8_7 (v := (0 : Int32)) (by decide) ?_
  refine own_aaload X24 hx hZ e24 V_aN rfl ⟨by decide, by decide⟩ (v := (.ref bN)) rfl hby d8_8 ?_
  refine own_iloadN X24.here hx hby d8_9 rfl ?_
  refine own_sipush X24.here hx hby d8_10 (v := (4095 : Int32)) (by decide) ?_
  refine own_iand X24.here hx hby d8_13 (v := (1 : Int32)) (by decide) ?_
  refine own_bipush X24.here hx hby d8_14 (v := (7 : Int32)) (by decide) ?_
  refine own_imul X24.here hx hby d8_16 (v := (7 : Int32)) (by decide) ?_
  refine own_iloadN X24.here hx hby d8_17 rfl ?_
  refine own_iadd X24.here hx hby d8_18 (v := (8 : Int32)) (by decide) ?_
  refine own_iaload X24 hx hZ e24 V_bN ⟨by decide, by decide⟩ (v := (.int x8)) rfl hby d8_19 ?_
  obtain ⟨fs, hr, hrun, hended, hW, hsame⟩ := X24.leave (v := some (.int x8)) (fun h => by rw [Bd.returns] at h; cases h)
  refine own_ret (t := T24.setFrames fs) ?_ ⟨_, hrun, hended, _, _, rfl, ?_, ⟨_, rfl⟩, hW, hsame.mono (by decide) (by decide)⟩
  · exact retOut X24 hx Bd.returns rfl (Or.inl ⟨rfl, Or.inl rfl, _, rfl⟩) (hb hby d8_20) hr
  · show Q_get_1_1_21 Z t aN bN kN kb x0 x1 x2 x3 x4 x5 x6 x7 x8 x9 x10 x11 x12 x13 x14 x15 x16 x17 x18 x19 x20 h0 n0 _ T24.heap _
    rw [e24]
    exact ⟨rfl, N0, rfl⟩
def Q_start_1_21 (Z : State) (t : Nat) (aN : Nat) (bN : Nat) (kN : ClassId) (kb : ClassId) (x0 : Int32) (x1 : Int32) (x2 : Int32) (x3 : Int32) (x4 : Int32) (x5 : Int32) (x6 : Int32) (x7 : Int32) (x8 : Int32) (x9 : Int32) (x10 : Int32) (x11 : Int32) (x12 : Int32) (x13 : Int32) (x14 : Int32) (x15 : Int32) (x16 : Int32) (x17 : Int32) (x18 : Int32) (x19 : Int32) (x20 : Int32) (h0 : Heap) (n0 : Nat) (vR : Option Value) (hR : Heap) (LR : List Loc) : Prop := vR = some (.int x8) ∧ Fr n0 LR ∧ hR = h0
set_option maxRecDepth 65536 in
set_option maxHeartbeats 40000000 in
theorem start_1_21 (l : Launch) (Z : State) (a0 : Array Value) (hw : ∀ d ∈ tables_1, d.before a0 Z = true) (ws : List Jvm.Cond) (t : Nat) (aN : Nat) (bN : Nat) (kN : ClassId) (kb : ClassId) (x0 : Int32) (x1 : Int32) (x2 : Int32) (x3 : Int32) (x4 : Int32) (x5 : Int32) (x6 : Int32) (x7 : Int32) (x8 : Int32) (x9 : Int32) (x10 : Int32) (x11 : Int32) (x12 : Int32) (x13 : Int32) (x14 : Int32) (x15 : Int32) (x16 : Int32) (x17 : Int32) (x18 : Int32) (x19 : Int32) (x20 : Int32) (h0 : Heap) (n0 : Nat) (Z0 : n0 ≤ h0.size) (E_t : Exa Z h0 t "com/example/boxwood/boxwood/XmlNodeTable") (F_numbers_t : Fld Z h0 t "com/example/boxwood/boxwood/XmlNodeTable" "numbers" "[[I" (.ref aN)) (V_aN : Arv Z h0 aN kN (.array .int) (1 : Int32) [(.ref bN)] .null) (V_bN : Arv Z h0 bN kb .int (28672 : Int32) [(.int x0), (.int x1), (.int x2), (.int x3), (.int x4), (.int x5), (.int x6), (.int x7), (.int x8), (.int x9), (.int x10), (.int x11), (.int x12), (.int x13), (.int x14), (.int x15), (.int x16), (.int x17), (.int x18), (.int x19), (.int x20)] (.int 0)) :
    own_M l (⟨"com/example/boxwood/boxwood/XmlNodeTable", "start", "(I)I"⟩ : MethodName) prog_60_method_11_code 2 (some .int) ws ({ frames := 1, cells := 0, slots := 0, locals := 14 } : Room) Z #[(.ref t), (.int 1)] h0 (Q_start_1_21 Z t aN bN kN kb x0 x1 x2 x3 x4 x5 x6 x7 x8 x9 x10 x11 x12 x13 x14 x15 x16 x17 x18 x19 x20 h0 n0) := by
  refine own_body (own := "com/example/boxwood/boxwood/XmlNodeTable") rfl (plainFor_of_name pn_11) (fun m => ef_start_0_14 m t (1 : Int32)) ?_
  intro p e s m below meth c s₁ Bd hml hZ hh hx hby hown X0 e0
  have N0 := Fr.nil n0
  have lt21 : h0.size > t := E_t.lt
  have lt22 : h0.size > aN := V_aN.lt
  have lt23 : h0.size > bN := V_bN.lt
  refine own_aloadN X0.here hx hby d11_0 rfl rfl ?_
  refine own_iloadN X0.here hx hby d11_1 rfl ?_
  refine own_iconst X0.here hx hby d11_2 (v := (1 : Int32)) (by decide) ?_
  refine own_private X0 hx hZ hown (own_w hw 60 rfl) (own_w hw 61 rfl) (own_w hw 1 rfl) (own_w hw 62 rfl) (own_w hw 2 rfl) (own_w hw 63 rfl) (by decide) (get_1_1_21 l Z a0 hw [] t aN bN kN kb x0 x1 x2 x3 x4 x5 x6 x7 x8 x9 x10 x11 x12 x13 x14 x15 x16 x17 x18 x19 x20 h0 n0 Z0 F_numbers_t V_aN V_bN) 0 (Nat.le_of_eq rfl) (by decide) (by decide) (by rw [hml]; rfl) (argsL := [(.int 1), (.int 1)]) (st := []) E_t (lenOf pd_2 rfl) rfl rfl (by decide) (by decide) e0 hby d11_3 ?_
  intro T24 v24 L24 X24 hQ24
  obtain ⟨rfl, Nq24, eh24⟩ := hQ24
  have N24 := Fr.app N0 Nq24
  refine own_sh (T := T24) 6 #[.val (.ref t), .val (.int 1)] [(.int x8)] ?_
  obtain ⟨fs, hr, hrun, hended, hW, hsame⟩ := X24.leave (v := some (.int x8)) (fun h => by rw [Bd.returns] at h; cases h)
  refine own_ret (t := T24.setFrames fs) ?_ ⟨_, hrun, hended, _, _, rfl, ?_, ⟨_, rfl⟩, hW, hsame.mono (by decide) (by decide)⟩
  · exact retOut X24 hx Bd.returns rfl (Or.inl ⟨rfl, Or.inl rfl, _, rfl⟩) (hb hby d11_6) hr
  · show Q_start_1_21 Z t aN bN kN kb x0 x1 x2 x3 x4 x5 x6 x7 x8 x9 x10 x11 x12 x13 x14 x15 x16 x17 x18 x19 x20 h0 n0 _ T24.heap _
    rw [eh24]
    exact ⟨rfl, N24, rfl⟩
def Q_get_1_4_21 (Z : State) (t : Nat) (aN : Nat) (bN : Nat) (kN : ClassId) (kb : ClassId) (x0 : Int32) (x1 : Int32) (x2 : Int32) (x3 : Int32) (x4 : Int32) (x5 : Int32) (x6 : Int32) (x7 : Int32) (x8 : Int32) (x9 : Int32) (x10 : Int32) (x11 : Int32) (x12 : Int32) (x13 : Int32) (x14 : Int32) (x15 : Int32) (x16 : Int32) (x17 : Int32) (x18 : Int32) (x19 : Int32) (x20 : Int32) (h0 : Heap) (n0 : Nat) (vR : Option Value) (hR : Heap) (LR : List Loc) : Prop := vR = some (.int x11) ∧ Fr n0 LR ∧ hR = h0
set_option maxRecDepth 65536 in
set_option maxHeartbeats 40000000 in
theorem get_1_4_21 (l : Launch) (Z : State) (a0 : Array Value) (hw : ∀ d ∈ tables_1, d.before a0 Z = true) (ws : List Jvm.Cond) (t : Nat) (aN : Nat) (bN : Nat) (kN : ClassId) (kb : ClassId) (x0 : Int32) (x1 : Int32) (x2 : Int32) (x3 : Int32) (x4 : Int32) (x5 : Int32) (x6 : Int32) (x7 : Int32) (x8 : Int32) (x9 : Int32) (x10 : Int32) (x11 : Int32) (x12 : Int32) (x13 : Int32) (x14 : Int32) (x15 : Int32) (x16 : Int32) (x17 : Int32) (x18 : Int32) (x19 : Int32) (x20 : Int32) (h0 : Heap) (n0 : Nat) (Z0 : n0 ≤ h0.size) (F_numbers_t : Fld Z h0 t "com/example/boxwood/boxwood/XmlNodeTable" "numbers" "[[I" (.ref aN)) (V_aN : Arv Z h0 aN kN (.array .int) (1 : Int32) [(.ref bN)] .null) (V_bN : Arv Z h0 bN kb .int (28672 : Int32) [(.int x0), (.int x1), (.int x2), (.int x3), (.int x4), (.int x5), (.int x6), (.int x7), (.int x8), (.int x9), (.int x10), (.int x11), (.int x12), (.int x13), (.int x14), (.int x15), (.int x16), (.int x17), (.int x18), (.int x19), (.int x20)] (.int 0)) :
    own_M l (⟨"com/example/boxwood/boxwood/XmlNodeTable", "get", "(II)I"⟩ : MethodName) prog_60_method_26_code 3 (some .int) ws ({ frames := 0, cells := 0, slots := 0, locals := 0 } : Room) Z #[(.ref t), (.int 1), (.int 4)] h0 (Q_get_1_4_21 Z t aN bN kN kb x0 x1 x2 x3 x4 x5 x6 x7 x8 x9 x10 x11 x12 x13 x14 x15 x16 x17 x18 x19 x20 h0 n0) := by
  refine own_body (own := "com/example/boxwood/boxwood/XmlNodeTable") rfl (plainFor_of_name pn_8) (fun m => ef_get_0_5_14 m t (1 : Int32) (4 : Int32)) ?_
  intro p e s m below meth c s₁ Bd hml hZ hh hx hby hown X0 e0
  have N0 := Fr.nil n0
  have lt21 : h0.size > t := F_numbers_t.lt
  have lt22 : h0.size > aN := V_aN.lt
  have lt23 : h0.size > bN := V_bN.lt
  refine own_aloadN X0.here hx hby d8_0 rfl rfl ?_
  refine own_getF X0 hx hZ hown (host := "") (Or.inl (own_w hw 12 rfl)) Via.refl e0 F_numbers_t hby d8_1 ?_
  intro T24 X24 e24
  refine own_iloadN X24.here hx hby d8_4 rfl ?_
  refine own_bipush X24.here hx hby d8_5 (v := (12 : Int32)) (by decide) ?_
  refine own_iushr X24.here hx hby d8_7 (v := (0 : Int32)) (by decide) ?_
  refine own_aaload X24 hx hZ e24 V_aN rfl ⟨by decide, by decide⟩ (v := (.ref bN)) rfl hby d8_8 ?_
  refine own_iloadN X24.here hx hby d8_9 rfl ?_
  refine own_sipush X24.here hx hby d8_10 (v := (4095 : Int32)) (by decide) ?_
  refine own_iand X24.here hx hby d8_13 (v := (1 : Int32)) (by decide) ?_
  refine own_bipush X24.here hx hby d8_14 (v := (7 : Int32)) (by decide) ?_
  refine own_imul X24.here hx hby d8_16 (v := (7 : Int32)) (by decide) ?_
  refine own_iloadN X24.here hx hby d8_17 rfl ?_
  refine own_iadd X24.here hx hby d8_18 (v := (11 : Int32)) (by decide) ?_
  refine own_iaload X24 hx hZ e24 V_bN ⟨by decide, by decide⟩ (v := (.int x11)) rfl hby d8_19 ?_
  obtain ⟨fs, hr, hrun, hended, hW, hsame⟩ := X24.leave (v := some (.int x11)) (fun h => by rw [Bd.returns] at h; cases h)
  refine own_ret (t := T24.setFrames fs) ?_ ⟨_, hrun, hended, _, _, rfl, ?_, ⟨_, rfl⟩, hW, hsame.mono (by decide) (by decide)⟩
  · exact retOut X24 hx Bd.returns rfl (Or.inl ⟨rfl, Or.inl rfl, _, rfl⟩) (hb hby d8_20) hr
  · show Q_get_1_4_21 Z t aN bN kN kb x0 x1 x2 x3 x4 x5 x6 x7 x8 x9 x10 x11 x12 x13 x14 x15 x16 x17 x18 x19 x20 h0 n0 _ T24.heap _
    rw [e24]
    exact ⟨rfl, N0, rfl⟩
def Q_contentStart_1_21 (Z : State) (t : Nat) (aN : Nat) (bN : Nat) (kN : ClassId) (kb : ClassId) (x0 : Int32) (x1 : Int32) (x2 : Int32) (x3 : Int32) (x4 : Int32) (x5 : Int32) (x6 : Int32) (x7 : Int32) (x8 : Int32) (x9 : Int32) (x10 : Int32) (x11 : Int32) (x12 : Int32) (x13 : Int32) (x14 : Int32) (x15 : Int32) (x16 : Int32) (x17 : Int32) (x18 : Int32) (x19 : Int32) (x20 : Int32) (h0 : Heap) (n0 : Nat) (vR : Option Value) (hR : Heap) (LR : List Loc) : Prop := vR = some (.int x11) ∧ Fr n0 LR ∧ hR = h0
set_option maxRecDepth 65536 in
set_option maxHeartbeats 40000000 in
theorem contentStart_1_21 (l : Launch) (Z : State) (a0 : Array Value) (hw : ∀ d ∈ tables_1, d.before a0 Z = true) (ws : List Jvm.Cond) (t : Nat) (aN : Nat) (bN : Nat) (kN : ClassId) (kb : ClassId) (x0 : Int32) (x1 : Int32) (x2 : Int32) (x3 : Int32) (x4 : Int32) (x5 : Int32) (x6 : Int32) (x7 : Int32) (x8 : Int32) (x9 : Int32) (x10 : Int32) (x11 : Int32) (x12 : Int32) (x13 : Int32) (x14 : Int32) (x15 : Int32) (x16 : Int32) (x17 : Int32) (x18 : Int32) (x19 : Int32) (x20 : Int32) (h0 : Heap) (n0 : Nat) (Z0 : n0 ≤ h0.size) (E_t : Exa Z h0 t "com/example/boxwood/boxwood/XmlNodeTable") (F_numbers_t : Fld Z h0 t "com/example/boxwood/boxwood/XmlNodeTable" "numbers" "[[I" (.ref aN)) (V_aN : Arv Z h0 aN kN (.array .int) (1 : Int32) [(.ref bN)] .null) (V_bN : Arv Z h0 bN kb .int (28672 : Int32) [(.int x0), (.int x1), (.int x2), (.int x3), (.int x4), (.int x5), (.int x6), (.int x7), (.int x8), (.int x9), (.int x10), (.int x11), (.int x12), (.int x13), (.int x14), (.int x15), (.int x16), (.int x17), (.int x18), (.int x19), (.int x20)] (.int 0)) :
    own_M l (⟨"com/example/boxwood/boxwood/XmlNodeTable", "contentStart", "(I)I"⟩ : MethodName) prog_60_method_14_code 2 (some .int) ws ({ frames := 1, cells := 0, slots := 0, locals := 14 } : Room) Z #[(.ref t), (.int 1)] h0 (Q_contentStart_1_21 Z t aN bN kN kb x0 x1 x2 x3 x4 x5 x6 x7 x8 x9 x10 x11 x12 x13 x14 x15 x16 x17 x18 x19 x20 h0 n0) := by
  refine own_body (own := "com/example/boxwood/boxwood/XmlNodeTable") rfl (plainFor_of_name pn_12) (fun m => ef_contentStart_0_14 m t (1 : Int32)) ?_
  intro p e s m below meth c s₁ Bd hml hZ hh hx hby hown X0 e0
  have N0 := Fr.nil n0
  have lt21 : h0.size > t := E_t.lt
  have lt22 : h0.size > aN := V_aN.lt
  have lt23 : h0.size > bN := V_bN.lt
  refine own_aloadN X0.here hx hby d12_0 rfl rfl ?_
  refine own_iloadN X0.here hx hby d12_1 rfl ?_
  refine own_iconst X0.here hx hby d12_2 (v := (4 : Int32)) (by decide) ?_
  refine own_private X0 hx hZ hown (own_w hw 60 rfl) (own_w hw 61 rfl) (own_w hw 1 rfl) (own_w hw 62 rfl) (own_w hw 2 rfl) (own_w hw 63 rfl) (by decide) (get_1_4_21 l Z a0 hw [] t aN bN kN kb x0 x1 x2 x3 x4 x5 x6 x7 x8 x9 x10 x11 x12 x13 x14 x15 x16 x17 x18 x19 x20 h0 n0 Z0 F_numbers_t V_aN V_bN) 0 (Nat.le_of_eq rfl) (by decide) (by decide) (by rw [hml]; rfl) (argsL := [(.int 1), (.int 4)]) (st := []) E_t (lenOf pd_2 rfl) rfl rfl (by decide) (by decide) e0 hby d12_3 ?_
  intro T24 v24 L24 X24 hQ24
  obtain ⟨rfl, Nq24, eh24⟩ := hQ24
  have N24 := Fr.app N0 Nq24
  refine own_sh (T := T24) 6 #[.val (.ref t), .val (.int 1)] [(.int x11)] ?_
  obtain ⟨fs, hr, hrun, hended, hW, hsame⟩ := X24.leave (v := some (.int x11)) (fun h => by rw [Bd.returns] at h; cases h)
  refine own_ret (t := T24.setFrames fs) ?_ ⟨_, hrun, hended, _, _, rfl, ?_, ⟨_, rfl⟩, hW, hsame.mono (by decide) (by decide)⟩
  · exact retOut X24 hx Bd.returns rfl (Or.inl ⟨rfl, Or.inl rfl, _, rfl⟩) (hb hby d12_6) hr
  · show Q_contentStart_1_21 Z t aN bN kN kb x0 x1 x2 x3 x4 x5 x6 x7 x8 x9 x10 x11 x12 x13 x14 x15 x16 x17 x18 x19 x20 h0 n0 _ T24.heap _
    rw [eh24]
    exact ⟨rfl, N24, rfl⟩
theorem ef_rm0 (m : MethodId) (x0 : Int32) (x1 : Int32) (x2 : Int32) (x3 : Int32) (x4 : Int32) : entryFrame m #[(.int x0), (.int x1), (.int x2), (.int x3), (.int x4)] maxLocals = mkF m 0 #[.val (.int x0), .val (.int x1), .val (.int x2), .val (.int x3), .val (.int x4), .unset, .unset, .unset, .unset, .unset, .unset, .unset, .unset, .unset, .unset, .unset] [] := by first | (simp [entryFrame, mkF, argsToLocals, Value.category, maxLocals]; done) | rfl
theorem pn_0 : plainName "com/example/boxwood/boxwood/XmlNodeTableEndElementPinLaw" = true := by first | (simp [plainName, overriddenIn]; done) | decide +kernel
theorem pd_3 : parseMethodDescriptor "([B)V" = some ⟨[(.array .byte)], none⟩ := by decide +kernel
theorem pd_4 : parseMethodDescriptor "(Ljava/lang/String;II)I" = some ⟨[(.object "java/lang/String"), .int, .int], some .int⟩ := by decide +kernel
theorem pd_5 : parseMethodDescriptor "(I)I" = some ⟨[.int], some .int⟩ := by decide +kernel
theorem pd_6 : parseMethodDescriptor "(II)V" = some ⟨[.int, .int], none⟩ := by decide +kernel
def Q_rm0 (Z : State) (p1 : Int32) (p2 : Int32) (p3 : Int32) (p4 : Int32) (p5 : Int32) (h0 : Heap) (n0 : Nat) (vR : Option Value) (hR : Heap) (LR : List Loc) : Prop := vR = some (.int 1) ∧ Fr n0 LR ∧ True
set_option maxRecDepth 65536 in
set_option maxHeartbeats 40000000 in
theorem rm0 (l : Launch) (Z : State) (a0 : Array Value) (hw : ∀ d ∈ tables_1, d.before a0 Z = true) (ws : List Jvm.Cond) (p1 : Int32) (p2 : Int32) (p3 : Int32) (p4 : Int32) (p5 : Int32) (h0 : Heap) (n0 : Nat) (Z0 : n0 ≤ h0.size)  :
    own_M l x code maxLocals ret ws room_1 Z #[(.int p1), (.int p2), (.int p3), (.int p4), (.int p5)] h0 (Q_rm0 Z p1 p2 p3 p4 p5 h0 n0) := by
  refine own_body (own := "com/example/boxwood/boxwood/XmlNodeTableEndElementPinLaw") rfl (plainFor_of_name pn_0) (fun m => ef_rm0 m p1 p2 p3 p4 p5) ?_
  intro p e s m below meth c s₁ Bd hml hZ hh hx hby hown X0 e0
  have N0 := Fr.nil n0
  refine own_iload X0.here hx hby at_0 rfl ?_
  refine own_iconst X0.here hx hby at_2 (v := (1 : Int32)) (by decide) ?_
  refine own_iand X0.here hx hby at_3 rfl ?_
  by_cases hc4_6 : (p5 &&& (1 : Int32)) = (0 : Int32)
  · refine own_ifYes X0.here hx hby (pc' := 11) at_4 ((if0 _ _).trans (teq hc4_6).1) (by decide) (by decide) ?_
    refine own_iconst X0.here hx hby at_11 (v := (0 : Int32)) (by decide) ?_
    refine own_istore X0.here hx hby at_12 (l' := #[.val (.int p1), .val (.int p2), .val (.int p3), .val (.int p4), .val (.int p5), .val (.int 0), .unset, .unset, .unset, .unset, .unset, .unset, .unset, .unset, .unset, .unset]) rfl ?_
    refine own_iload X0.here hx hby at_14 rfl ?_
    refine own_iconst X0.here hx hby at_16 (v := (2 : Int32)) (by decide) ?_
    refine own_iand X0.here hx hby at_17 rfl ?_
    by_cases hc18_7 : (p5 &&& (2 : Int32)) = (0 : Int32)
    · refine own_ifYes X0.here hx hby (pc' := 25) at_18 ((if0 _ _).trans (teq hc18_7).1) (by decide) (by decide) ?_
      refine own_iconst X0.here hx hby at_25 (v := (0 : Int32)) (by decide) ?_
      refine own_istore X0.here hx hby at_26 (l' := #[.val (.int p1), .val (.int p2), .val (.int p3), .val (.int p4), .val (.int p5), .val (.int 0), .val (.int 0), .unset, .unset, .unset, .unset, .unset, .unset, .unset, .unset, .unset]) rfl ?_
      refine own_newO X0 hx hZ hown (own_w hw 0 rfl) (own_w hw 1 rfl) (own_w hw 2 rfl) e0 hby at_28 (by decide) (by decide) ?_
      intro T8 h8 b8 X8 e8 E8 g8 A8 D8 lt8
      have z9 : h0.size ≤ h8.size := E8.1
      have F10 : Fld Z h8 b8 "com/example/boxwood/boxwood/XmlNodeTable" "numbers" "[[I" .null := D8 (Or.inl (own_w hw 13 rfl)) (ty := (.array (.array .int))) (by decide)
      have F11 : Fld Z h8 b8 "com/example/boxwood/boxwood/XmlNodeTable" "strings" "[[Ljava/lang/String;" .null := D8 (Or.inl (own_w hw 17 rfl)) (ty := (.array (.array (.object "java/lang/String")))) (by decide)
      have F12 : Fld Z h8 b8 "com/example/boxwood/boxwood/XmlNodeTable" "attributeNumbers" "[[I" .null := D8 (Or.inl (own_w hw 19 rfl)) (ty := (.array (.array .int))) (by decide)
      have F13 : Fld Z h8 b8 "com/example/boxwood/boxwood/XmlNodeTable" "attributeNames" "[[Ljava/lang/String;" .null := D8 (Or.inl (own_w hw 21 rfl)) (ty := (.array (.array (.object "java/lang/String")))) (by decide)
      have F14 : Fld Z h8 b8 "com/example/boxwood/boxwood/XmlNodeTable" "attributeValues" "[[Lcom/example/boxwood/boxwood/XmlValue;" .null := D8 (Or.inl (own_w hw 25 rfl)) (ty := (.array (.array (.object "com/example/boxwood/boxwood/XmlValue")))) (by decide)
      have F15 : Fld Z h8 b8 "com/example/boxwood/boxwood/XmlNodeTable" "content" "[B" .null := D8 (Or.inr (own_w hw 27 rfl)) (ty := (.array .byte)) (by decide)
      have F16 : Fld Z h8 b8 "com/example/boxwood/boxwood/XmlNodeTable" "size" "I" (.int 0) := D8 (Or.inl (own_w hw 38 rfl)) (ty := .int) (by decide)
      have F17 : Fld Z h8 b8 "com/example/boxwood/boxwood/XmlNodeTable" "attributeCount" "I" (.int 0) := D8 (Or.inl (own_w hw 45 rfl)) (ty := .int) (by decide)
      refine own_dup X8.here hx hby at_31 rfl ?_
      refine own_iconst X8.here hx hby at_32 (v := (0 : Int32)) (by decide) ?_
      refine own_newP X8 hx hZ (aty := .byte) (own_w hw 3 rfl) e8 hby at_33 (by decide) 0 (by decide) (by decide) (by decide) (by decide) (ad := "[B") (by decide) ?_
      intro T18 h18 k18 b18 X18 e18 E18 g18 V18 C18 lt18
      have z19 : h8.size ≤ h18.size := E18.1
      have V20 : Arv Z h18 b18 k18 .byte (0 : Int32) [] (.int 0) := V18
      have f21 : Exa Z h18 b8 "com/example/boxwood/boxwood/XmlNodeTable" := (A8.ext E18)
      have f22 : Fld Z h18 b8 "com/example/boxwood/boxwood/XmlNodeTable" "content" "[B" .null := (F15.ext E18)
      have f23 : Fld Z h18 b8 "com/example/boxwood/boxwood/XmlNodeTable" "numbers" "[[I" .null := (F10.ext E18)
      have f24 : Fld Z h18 b8 "com/example/boxwood/boxwood/XmlNodeTable" "strings" "[[Ljava/lang/String;" .null := (F11.ext E18)
      have f25 : Fld Z h18 b8 "com/example/boxwood/boxwood/XmlNodeTable" "attributeNumbers" "[[I" .null := (F12.ext E18)
      have f26 : Fld Z h18 b8 "com/example/boxwood/boxwood/XmlNodeTable" "attributeNames" "[[Ljava/lang/String;" .null := (F13.ext E18)
      have f27 : Fld Z h18 b8 "com/example/boxwood/boxwood/XmlNodeTable" "attributeValues" "[[Lcom/example/boxwood/boxwood/XmlValue;" .null := (F14.ext E18)
      have f28 : Fld Z h18 b8 "com/example/boxwood/boxwood/XmlNodeTable" "size" "I" (.int 0) := (F16.ext E18)
      have f29 : Fld Z h18 b8 "com/example/boxwood/boxwood/XmlNodeTable" "attributeCount" "I" (.int 0) := (F17.ext E18)
      have z31 : n0 ≤ h18.size := by omega
      refine own_special X18 hx hZ rfl hown (own_w hw 4 rfl) (own_w hw 5 rfl) (own_w hw 2 rfl) (own_w hw 6 rfl) (by decide) (tabInit l Z a0 hw [] b8 b18 h18 n0 z31 f21 f22 (by omega) f23 f24 f25 f26 f27 f28 f29) 1 (Nat.le_of_eq rfl) (by decide) (by decide) (by rw [hml]; rfl) (argsL := [(.ref b18)]) (st := [(.ref b8)]) (a := b8) (lenOf pd_3 rfl) rfl rfl (by decide) (by decide) e18 hby at_35 ?_
      intro T30 v30 L30 X30 hQ30
      obtain ⟨aN_30, kaN_30, aS_30, kaS_30, aA_30, kaA_30, aM_30, kaM_30, aW_30, kaW_30, rfl, Nq30, K30, P30_0, P30_1, P30_2, P30_3, P30_4, P30_5, P30_6, P30_7, P30_8, P30_9, P30_10, P30_11, P30_12, P30_13, P30_14, P30_15, P30_16, P30_17, P30_18, P30_19, P30_20, P30_21, P30_22, P30_23, P30_24, P30_25, P30_26⟩ := hQ30
      have N30 := Fr.app N0 Nq30
      have z32 : h18.size ≤ T30.heap.size := K30.1
      have lt33 : T30.heap.size > b8 := P30_0.lt
      have lt34 : T30.heap.size > aN_30 := P30_5.lt
      have lt35 : T30.heap.size > aS_30 := P30_9.lt
      have lt36 : T30.heap.size > aA_30 := P30_13.lt
      have lt37 : T30.heap.size > aM_30 := P30_17.lt
      have lt38 : T30.heap.size > aW_30 := P30_21.lt
      refine own_sh (T := T30) 38 #[.val (.int p1), .val (.int p2), .val (.int p3), .val (.int p4), .val (.int p5), .val (.int 0), .val (.int 0), .unset, .unset, .unset, .unset, .unset, .unset, .unset, .unset, .unset] [(.ref b8)] ?_
      refine own_astore X30.here hx hby at_38 rfl (l' := #[.val (.int p1), .val (.int p2), .val (.int p3), .val (.int p4), .val (.int p5), .val (.int 0), .val (.int 0), .val (.ref b8), .unset, .unset, .unset, .unset, .unset, .unset, .unset, .unset]) rfl ?_
      refine own_aload X30.here hx hby at_40 rfl rfl ?_
      refine own_aconstNull X30.here hx hby at_42 ?_
      refine own_iloadN X30.here hx hby at_43 rfl ?_
      refine own_iloadN X30.here hx hby at_44 rfl ?_
      have z40 : n0 ≤ T30.heap.size := by omega
      refine own_virtual X30 hx hZ hown (own_w hw 28 rfl) (own_w hw 29 rfl) (notFace_of_selects (args := #[]) (mvT hZ (own_w hw 31 rfl))) (own_w hw 31 rfl) (own_w hw 30 rfl) (own_w hw 2 rfl) (own_w hw 32 rfl) (by decide) (start_0n l Z a0 hw [] b8 aN_30 aS_30 p1 p2 (0 : Int32) kaN_30 kaS_30 T30.heap n0 z40 P30_0 P30_1 P30_4 P30_2 P30_5 P30_8 P30_9 P30_6 P30_10 (by omega) (by omega) (by omega)) 0 (Nat.le_of_eq rfl) (by decide) (by decide) (by rw [hml]; rfl) (argsL := [.null, (.int p1), (.int p2)]) (st := []) P30_0 (lenOf pd_4 rfl) rfl rfl (by decide) (by decide) rfl hby at_45 ?_
      intro T39 v39 L39 X39 hQ39
      obtain ⟨bN_39, bS_39, kb_39, kc_39, rfl, Nq39, K39, P39_0, P39_1, P39_2, P39_3, P39_4, P39_5, P39_6, P39_7, P39_8, P39_9, P39_10, P39_11, P39_12⟩ := hQ39
      have N39 := Fr.app N30 Nq39
      have z41 : T30.heap.size ≤ T39.heap.size := K39.1
      have lt42 : T39.heap.size > b8 := P39_0.lt
      have lt43 : T39.heap.size > aN_30 := P39_2.lt
      have lt44 : T39.heap.size > aS_30 := P39_3.lt
      have lt45 : T39.heap.size > bN_39 := P39_7.lt
      have lt46 : T39.heap.size > bS_39 := P39_8.lt
      refine own_sh (T := T39) 48 #[.val (.int p1), .val (.int p2), .val (.int p3), .val (.int p4), .val (.int p5), .val (.int 0), .val (.int 0), .val (.ref b8), .unset, .unset, .unset, .unset, .unset, .unset, .unset, .unset] [(.int 0)] ?_
      refine own_istore X39.here hx hby at_48 (l' := #[.val (.int p1), .val (.int p2), .val (.int p3), .val (.int p4), .val (.int p5), .val (.int 0), .val (.int 0), .val (.ref b8), .val (.int 0), .unset, .unset, .unset, .unset, .unset, .unset, .unset]) rfl ?_
      refine own_aload X39.here hx hby at_50 rfl rfl ?_
      refine own_aconstNull X39.here hx hby at_52 ?_
      refine own_iloadN X39.here hx hby at_53 rfl ?_
      refine own_iloadN X39.here hx hby at_54 rfl ?_
      have z48 : n0 ≤ T39.heap.size := by omega
      refine own_virtual X39 hx hZ hown (own_w hw 28 rfl) (own_w hw 29 rfl) (notFace_of_selects (args := #[]) (mvT hZ (own_w hw 31 rfl))) (own_w hw 31 rfl) (own_w hw 30 rfl) (own_w hw 2 rfl) (own_w hw 32 rfl) (by decide) (start_1n l Z a0 hw [] b8 aN_30 bN_39 aS_30 bS_39 p2 p1 (0 : Int32) kaN_30 kb_39 kaS_30 kc_39 (0 : Int32) p1 (-1 : Int32) (1 : Int32) p2 (0 : Int32) (0 : Int32) T39.heap n0 z48 P39_0 P39_1 P39_10 P39_12 P39_2 P39_7 P39_11 P39_3 P39_8 P39_9 (by omega) (by omega) (by omega)) 0 (Nat.le_of_eq rfl) (by decide) (by decide) (by rw [hml]; rfl) (argsL := [.null, (.int p2), (.int p1)]) (st := []) P39_0 (lenOf pd_4 rfl) rfl rfl (by decide) (by decide) rfl hby at_55 ?_
      intro T47 v47 L47 X47 hQ47
      obtain ⟨rfl, Nq47, K47, P47_0, P47_1, P47_2, P47_3, P47_4, P47_5, P47_6⟩ := hQ47
      have N47 := Fr.app N39 Nq47
      have z49 : T39.heap.size ≤ T47.heap.size := K47.1
      have lt50 : T47.heap.size > b8 := P47_0.lt
      have lt51 : T47.heap.size > bN_39 := P47_5.lt
      have lt52 : T47.heap.size > bS_39 := P47_6.lt
      refine own_sh (T := T47) 58 #[.val (.int p1), .val (.int p2), .val (.int p3), .val (.int p4), .val (.int p5), .val (.int 0), .val (.int 0), .val (.ref b8), .val (.int 0), .unset, .unset, .unset, .unset, .unset, .unset, .unset] [(.int 1)] ?_
      refine own_istore X47.here hx hby at_58 (l' := #[.val (.int p1), .val (.int p2), .val (.int p3), .val (.int p4), .val (.int p5), .val (.int 0), .val (.int 0), .val (.ref b8), .val (.int 0), .val (.int 1), .unset, .unset, .unset, .unset, .unset, .unset]) rfl ?_
      refine own_iload X47.here hx hby at_60 rfl ?_
      refine own_ifYes X47.here hx hby (pc' := 72) at_62 ((if0 _ _).trans (teq (show (0 : Int32) = (0 : Int32) from (by decide))).1) (by decide) (by decide) ?_
      refine own_iload X47.here hx hby at_72 rfl ?_
      refine own_ifYes X47.here hx hby (pc' := 82) at_74 ((if0 _ _).trans (teq (show (0 : Int32) = (0 : Int32) from (by decide))).1) (by decide) (by decide) ?_
      refine own_iload X47.here hx hby at_82 rfl ?_
      refine own_istore X47.here hx hby at_84 (l' := #[.val (.int p1), .val (.int p2), .val (.int p3), .val (.int p4), .val (.int p5), .val (.int 0), .val (.int 0), .val (.ref b8), .val (.int 0), .val (.int 1), .val (.int 0), .unset, .unset, .unset, .unset, .unset]) rfl ?_
      refine own_iload X47.here hx hby at_86 rfl ?_
      refine own_ifYes X47.here hx hby (pc' := 96) at_88 ((if0 _ _).trans (teq (show (0 : Int32) = (0 : Int32) from (by decide))).1) (by decide) (by decide) ?_
      refine own_iload X47.here hx hby at_96 rfl ?_
      refine own_istore X47.here hx hby at_98 (l' := #[.val (.int p1), .val (.int p2), .val (.int p3), .val (.int p4), .val (.int p5), .val (.int 0), .val (.int 0), .val (.ref b8), .val (.int 0), .val (.int 1), .val (.int 0), .val (.int 1), .unset, .unset, .unset, .unset]) rfl ?_
      refine own_iload X47.here hx hby at_100 rfl ?_
      refine own_ifYes X47.here hx hby (pc' := 109) at_102 ((if0 _ _).trans (teq (show (0 : Int32) = (0 : Int32) from (by decide))).1) (by decide) (by decide) ?_
      refine own_iconst X47.here hx hby at_109 (v := (2 : Int32)) (by decide) ?_
      refine own_istore X47.here hx hby at_110 (l' := #[.val (.int p1), .val (.int p2), .val (.int p3), .val (.int p4), .val (.int p5), .val (.int 0), .val (.int 0), .val (.ref b8), .val (.int 0), .val (.int 1), .val (.int 0), .val (.int 1), .val (.int 2), .unset, .unset, .unset]) rfl ?_
      refine own_iload X47.here hx hby at_112 rfl ?_
      refine own_ifYes X47.here hx hby (pc' := 121) at_114 ((if0 _ _).trans (teq (show (0 : Int32) = (0 : Int32) from (by decide))).1) (by decide) (by decide) ?_
      refine own_iloadN X47.here hx hby at_121 rfl ?_
      refine own_istore X47.here hx hby at_122 (l' := #[.val (.int p1), .val (.int p2), .val (.int p3), .val (.int p4), .val (.int p5), .val (.int 0), .val (.int 0), .val (.ref b8), .val (.int 0), .val (.int 1), .val (.int 0), .val (.int 1), .val (.int 2), .val (.int p1), .unset, .unset]) rfl ?_
      refine own_iload X47.here hx hby at_124 rfl ?_
      refine own_ifYes X47.here hx hby (pc' := 133) at_126 ((if0 _ _).trans (teq (show (0 : Int32) = (0 : Int32) from (by decide))).1) (by decide) (by decide) ?_
      refine own_iloadN X47.here hx hby at_133 rfl ?_
      refine own_istore X47.here hx hby at_134 (l' := #[.val (.int p1), .val (.int p2), .val (.int p3), .val (.int p4), .val (.int p5), .val (.int 0), .val (.int 0), .val (.ref b8), .val (.int 0), .val (.int 1), .val (.int 0), .val (.int 1), .val (.int 2), .val (.int p1), .val (.int p2), .unset]) rfl ?_
      refine own_aload X47.here hx hby at_136 rfl rfl ?_
      refine own_iload X47.here hx hby at_138 rfl ?_
      refine own_iloadN X47.here hx hby at_140 rfl ?_
      refine own_iloadN X47.here hx hby at_141 rfl ?_
      have f53 : Arv Z T47.heap aN_30 kaN_30 (.array .int) (1 : Int32) [(.ref bN_39)] .null := (P39_2.keep K47 (ninS (own_nn (by omega)) (ninS (own_nn (by omega)) (ninS (own_nn (by omega)) nin0))))
      have z55 : n0 ≤ T47.heap.size := by omega
      refine own_virtual X47 hx hZ hown (own_w hw 50 rfl) (own_w hw 51 rfl) (notFace_of_selects (args := #[]) (mvT hZ (own_w hw 53 rfl))) (own_w hw 53 rfl) (own_w hw 52 rfl) (own_w hw 2 rfl) (own_w hw 54 rfl) (by decide) (endE_0_2 l Z a0 hw [] b8 aN_30 bN_39 p3 p4 (0 : Int32) kaN_30 kb_39 (0 : Int32) p1 (-1 : Int32) (1 : Int32) p2 (0 : Int32) (0 : Int32) (0 : Int32) p2 (-1 : Int32) (2 : Int32) p1 (0 : Int32) (0 : Int32) T47.heap n0 z55 P47_0 P47_1 P47_2 P47_4 f53 P47_5 (by omega)) 0 (Nat.le_of_eq rfl) (by decide) (by decide) (by rw [hml]; rfl) (argsL := [(.int 0), (.int p3), (.int p4)]) (st := []) P47_0 (lenOf pd_1 rfl) rfl rfl (by decide) (by decide) rfl hby at_142 ?_
      intro T54 v54 L54 X54 hQ54
      obtain ⟨rfl, Nq54, K54, P54_0⟩ := hQ54
      have N54 := Fr.app N47 Nq54
      have z56 : T47.heap.size ≤ T54.heap.size := K54.1
      have lt57 : T54.heap.size > bN_39 := P54_0.lt
      refine own_sh (T := T54) 145 #[.val (.int p1), .val (.int p2), .val (.int p3), .val (.int p4), .val (.int p5), .val (.int 0), .val (.int 0), .val (.ref b8), .val (.int 0), .val (.int 1), .val (.int 0), .val (.int 1), .val (.int 2), .val (.int p1), .val (.int p2), .unset] [] ?_
      refine own_aload X54.here hx hby at_145 rfl rfl ?_
      refine own_iload X54.here hx hby at_147 rfl ?_
      have f58 : Exa Z T54.heap b8 "com/example/boxwood/boxwood/XmlNodeTable" := (P47_0.keep K54)
      have f59 : Fld Z T54.heap b8 "com/example/boxwood/boxwood/XmlNodeTable" "numbers" "[[I" (.ref aN_30) := (P47_2.keep K54 (ninS (own_nn (by omega)) nin0))
      have f60 : Arv Z T54.heap aN_30 kaN_30 (.array .int) (1 : Int32) [(.ref bN_39)] .null := (f53.keep K54 (ninS (own_nn (by omega)) nin0))
      have z62 : n0 ≤ T54.heap.size := by omega
      refine own_virtual X54 hx hZ hown (own_w hw 55 rfl) (own_w hw 56 rfl) (notFace_of_selects (args := #[]) (mvT hZ (own_w hw 58 rfl))) (own_w hw 58 rfl) (own_w hw 57 rfl) (own_w hw 2 rfl) (own_w hw 59 rfl) (by decide) (contentEnd_0_14 l Z a0 hw [] b8 aN_30 bN_39 kaN_30 kb_39 (0 : Int32) p1 p4 (2 : Int32) p2 p3 (0 : Int32) (0 : Int32) p2 (-1 : Int32) (2 : Int32) p1 (0 : Int32) (0 : Int32) T54.heap n0 z62 f58 f59 f60 P54_0) 0 (Nat.le_of_eq rfl) (by decide) (by decide) (by rw [hml]; rfl) (argsL := [(.int 0)]) (st := []) f58 (lenOf pd_5 rfl) rfl rfl (by decide) (by decide) rfl hby at_149 ?_
      intro T61 v61 L61 X61 hQ61
      obtain ⟨rfl, Nq61, eh61⟩ := hQ61
      have N61 := Fr.app N54 Nq61
      refine own_sh (T := T61) 152 #[.val (.int p1), .val (.int p2), .val (.int p3), .val (.int p4), .val (.int p5), .val (.int 0), .val (.int 0), .val (.ref b8), .val (.int 0), .val (.int 1), .val (.int 0), .val (.int 1), .val (.int 2), .val (.int p1), .val (.int p2), .unset] [(.int p3)] ?_
      refine own_iloadN X61.here hx hby at_152 rfl ?_
      refine own_icmpNo X61.here hx hby at_153 (teq (show p3 = p3 from rfl)).2 ?_
      refine own_iconst X61.here hx hby at_156 (v := (1 : Int32)) (by decide) ?_
      refine own_goto X61.here hx hby (pc' := 161) at_157 (by decide) (by decide) ?_
      refine own_istore X61.here hx hby at_161 (l' := #[.val (.int p1), .val (.int p2), .val (.int p3), .val (.int p4), .val (.int p5), .val (.int 0), .val (.int 0), .val (.ref b8), .val (.int 0), .val (.int 1), .val (.int 0), .val (.int 1), .val (.int 2), .val (.int p1), .val (.int p2), .val (.int 1)]) rfl ?_
      refine own_iload X61.here hx hby at_163 rfl ?_
      refine own_ifNo X61.here hx hby at_165 ((if0 _ _).trans (feq (show ¬ ((1 : Int32) = (0 : Int32)) from (by decide))).1) ?_
      refine own_aload X61.here hx hby at_168 rfl rfl ?_
      refine own_iload X61.here hx hby at_170 rfl ?_
      refine own_virtual X61 hx hZ hown (own_w hw 64 rfl) (own_w hw 65 rfl) (notFace_of_selects (args := #[]) (mvT hZ (own_w hw 67 rfl))) (own_w hw 67 rfl) (own_w hw 66 rfl) (own_w hw 2 rfl) (own_w hw 68 rfl) (by decide) (end_0_14 l Z a0 hw [] b8 aN_30 bN_39 kaN_30 kb_39 (0 : Int32) p1 p4 (2 : Int32) p2 p3 (0 : Int32) (0 : Int32) p2 (-1 : Int32) (2 : Int32) p1 (0 : Int32) (0 : Int32) T54.heap n0 z62 f58 f59 f60 P54_0) 0 (Nat.le_of_eq rfl) (by decide) (by decide) (by rw [hml]; rfl) (argsL := [(.int 0)]) (st := []) f58 (lenOf pd_5 rfl) rfl rfl (by decide) (by decide) eh61 hby at_172 ?_
      intro T63 v63 L63 X63 hQ63
      obtain ⟨rfl, Nq63, eh63⟩ := hQ63
      have N63 := Fr.app N61 Nq63
      refine own_sh (T := T63) 175 #[.val (.int p1), .val (.int p2), .val (.int p3), .val (.int p4), .val (.int p5), .val (.int 0), .val (.int 0), .val (.ref b8), .val (.int 0), .val (.int 1), .val (.int 0), .val (.int 1), .val (.int 2), .val (.int p1), .val (.int p2), .val (.int 1)] [(.int p4)] ?_
      refine own_iloadN X63.here hx hby at_175 rfl ?_
      refine own_icmpNo X63.here hx hby at_176 (teq (show p4 = p4 from rfl)).2 ?_
      refine own_iconst X63.here hx hby at_179 (v := (1 : Int32)) (by decide) ?_
      refine own_goto X63.here hx hby (pc' := 184) at_180 (by decide) (by decide) ?_
      refine own_istore X63.here hx hby at_184 (l' := #[.val (.int p1), .val (.int p2), .val (.int p3), .val (.int p4), .val (.int p5), .val (.int 0), .val (.int 0), .val (.ref b8), .val (.int 0), .val (.int 1), .val (.int 0), .val (.int 1), .val (.int 2), .val (.int p1), .val (.int p2), .val (.int 1)]) rfl ?_
      refine own_iload X63.here hx hby at_186 rfl ?_
      refine own_ifNo X63.here hx hby at_188 ((if0 _ _).trans (feq (show ¬ ((1 : Int32) = (0 : Int32)) from (by decide))).1) ?_
      refine own_aload X63.here hx hby at_191 rfl rfl ?_
      refine own_iload X63.here hx hby at_193 rfl ?_
      refine own_virtual X63 hx hZ hown (own_w hw 69 rfl) (own_w hw 70 rfl) (notFace_of_selects (args := #[]) (mvT hZ (own_w hw 72 rfl))) (own_w hw 72 rfl) (own_w hw 71 rfl) (own_w hw 2 rfl) (own_w hw 73 rfl) (by decide) (next_0_14 l Z a0 hw [] b8 aN_30 bN_39 kaN_30 kb_39 (0 : Int32) p1 p4 (2 : Int32) p2 p3 (0 : Int32) (0 : Int32) p2 (-1 : Int32) (2 : Int32) p1 (0 : Int32) (0 : Int32) T54.heap n0 z62 f58 f59 f60 P54_0) 0 (Nat.le_of_eq rfl) (by decide) (by decide) (by rw [hml]; rfl) (argsL := [(.int 0)]) (st := []) f58 (lenOf pd_5 rfl) rfl rfl (by decide) (by decide) eh63 hby at_195 ?_
      intro T64 v64 L64 X64 hQ64
      obtain ⟨rfl, Nq64, eh64⟩ := hQ64
      have N64 := Fr.app N63 Nq64
      refine own_sh (T := T64) 198 #[.val (.int p1), .val (.int p2), .val (.int p3), .val (.int p4), .val (.int p5), .val (.int 0), .val (.int 0), .val (.ref b8), .val (.int 0), .val (.int 1), .val (.int 0), .val (.int 1), .val (.int 2), .val (.int p1), .val (.int p2), .val (.int 1)] [(.int 2)] ?_
      refine own_iload X64.here hx hby at_198 rfl ?_
      refine own_icmpNo X64.here hx hby at_200 (teq (show (2 : Int32) = (2 : Int32) from (by decide))).2 ?_
      refine own_iconst X64.here hx hby at_203 (v := (1 : Int32)) (by decide) ?_
      refine own_goto X64.here hx hby (pc' := 208) at_204 (by decide) (by decide) ?_
      refine own_istore X64.here hx hby at_208 (l' := #[.val (.int p1), .val (.int p2), .val (.int p3), .val (.int p4), .val (.int p5), .val (.int 0), .val (.int 0), .val (.ref b8), .val (.int 0), .val (.int 1), .val (.int 0), .val (.int 1), .val (.int 2), .val (.int p1), .val (.int p2), .val (.int 1)]) rfl ?_
      refine own_iload X64.here hx hby at_210 rfl ?_
      refine own_ifNo X64.here hx hby at_212 ((if0 _ _).trans (feq (show ¬ ((1 : Int32) = (0 : Int32)) from (by decide))).1) ?_
      refine own_aload X64.here hx hby at_215 rfl rfl ?_
      refine own_iload X64.here hx hby at_217 rfl ?_
      refine own_virtual X64 hx hZ hown (own_w hw 74 rfl) (own_w hw 75 rfl) (notFace_of_selects (args := #[]) (mvT hZ (own_w hw 77 rfl))) (own_w hw 77 rfl) (own_w hw 76 rfl) (own_w hw 2 rfl) (own_w hw 78 rfl) (by decide) (start_0_14 l Z a0 hw [] b8 aN_30 bN_39 kaN_30 kb_39 (0 : Int32) p1 p4 (2 : Int32) p2 p3 (0 : Int32) (0 : Int32) p2 (-1 : Int32) (2 : Int32) p1 (0 : Int32) (0 : Int32) T54.heap n0 z62 f58 f59 f60 P54_0) 0 (Nat.le_of_eq rfl) (by decide) (by decide) (by rw [hml]; rfl) (argsL := [(.int 0)]) (st := []) f58 (lenOf pd_5 rfl) rfl rfl (by decide) (by decide) eh64 hby at_219 ?_
      intro T65 v65 L65 X65 hQ65
      obtain ⟨rfl, Nq65, eh65⟩ := hQ65
      have N65 := Fr.app N64 Nq65
      refine own_sh (T := T65) 222 #[.val (.int p1), .val (.int p2), .val (.int p3), .val (.int p4), .val (.int p5), .val (.int 0), .val (.int 0), .val (.ref b8), .val (.int 0), .val (.int 1), .val (.int 0), .val (.int 1), .val (.int 2), .val (.int p1), .val (.int p2), .val (.int 1)] [(.int p1)] ?_
      refine own_iload X65.here hx hby at_222 rfl ?_
      refine own_icmpNo X65.here hx hby at_224 (teq (show p1 = p1 from rfl)).2 ?_
      refine own_iconst X65.here hx hby at_227 (v := (1 : Int32)) (by decide) ?_
      refine own_goto X65.here hx hby (pc' := 232) at_228 (by decide) (by decide) ?_
      refine own_istore X65.here hx hby at_232 (l' := #[.val (.int p1), .val (.int p2), .val (.int p3), .val (.int p4), .val (.int p5), .val (.int 0), .val (.int 0), .val (.ref b8), .val (.int 0), .val (.int 1), .val (.int 0), .val (.int 1), .val (.int 2), .val (.int p1), .val (.int p2), .val (.int 1)]) rfl ?_
      refine own_iload X65.here hx hby at_234 rfl ?_
      refine own_ifNo X65.here hx hby at_236 ((if0 _ _).trans (feq (show ¬ ((1 : Int32) = (0 : Int32)) from (by decide))).1) ?_
      refine own_aload X65.here hx hby at_239 rfl rfl ?_
      refine own_iload X65.here hx hby at_241 rfl ?_
      refine own_virtual X65 hx hZ hown (own_w hw 79 rfl) (own_w hw 80 rfl) (notFace_of_selects (args := #[]) (mvT hZ (own_w hw 82 rfl))) (own_w hw 82 rfl) (own_w hw 81 rfl) (own_w hw 2 rfl) (own_w hw 83 rfl) (by decide) (contentStart_0_14 l Z a0 hw [] b8 aN_30 bN_39 kaN_30 kb_39 (0 : Int32) p1 p4 (2 : Int32) p2 p3 (0 : Int32) (0 : Int32) p2 (-1 : Int32) (2 : Int32) p1 (0 : Int32) (0 : Int32) T54.heap n0 z62 f58 f59 f60 P54_0) 0 (Nat.le_of_eq rfl) (by decide) (by decide) (by rw [hml]; rfl) (argsL := [(.int 0)]) (st := []) f58 (lenOf pd_5 rfl) rfl rfl (by decide) (by decide) eh65 hby at_243 ?_
      intro T66 v66 L66 X66 hQ66
      obtain ⟨rfl, Nq66, eh66⟩ := hQ66
      have N66 := Fr.app N65 Nq66
      refine own_sh (T := T66) 246 #[.val (.int p1), .val (.int p2), .val (.int p3), .val (.int p4), .val (.int p5), .val (.int 0), .val (.int 0), .val (.ref b8), .val (.int 0), .val (.int 1), .val (.int 0), .val (.int 1), .val (.int 2), .val (.int p1), .val (.int p2), .val (.int 1)] [(.int p2)] ?_
      refine own_iload X66.here hx hby at_246 rfl ?_
      refine own_icmpNo X66.here hx hby at_248 (teq (show p2 = p2 from rfl)).2 ?_
      refine own_iconst X66.here hx hby at_251 (v := (1 : Int32)) (by decide) ?_
      refine own_goto X66.here hx hby (pc' := 256) at_252 (by decide) (by decide) ?_
      refine own_istore X66.here hx hby at_256 (l' := #[.val (.int p1), .val (.int p2), .val (.int p3), .val (.int p4), .val (.int p5), .val (.int 0), .val (.int 0), .val (.ref b8), .val (.int 0), .val (.int 1), .val (.int 0), .val (.int 1), .val (.int 2), .val (.int p1), .val (.int p2), .val (.int 1)]) rfl ?_
      refine own_iload X66.here hx hby at_258 rfl ?_
      refine own_ifNo X66.here hx hby at_260 ((if0 _ _).trans (feq (show ¬ ((1 : Int32) = (0 : Int32)) from (by decide))).1) ?_
      refine own_aload X66.here hx hby at_263 rfl rfl ?_
      refine own_iload X66.here hx hby at_265 rfl ?_
      refine own_virtual X66 hx hZ hown (own_w hw 64 rfl) (own_w hw 65 rfl) (notFace_of_selects (args := #[]) (mvT hZ (own_w hw 67 rfl))) (own_w hw 67 rfl) (own_w hw 66 rfl) (own_w hw 2 rfl) (own_w hw 68 rfl) (by decide) (end_1_14 l Z a0 hw [] b8 aN_30 bN_39 kaN_30 kb_39 (0 : Int32) p1 p4 (2 : Int32) p2 p3 (0 : Int32) (0 : Int32) p2 (-1 : Int32) (2 : Int32) p1 (0 : Int32) (0 : Int32) T54.heap n0 z62 f58 f59 f60 P54_0) 0 (Nat.le_of_eq rfl) (by decide) (by decide) (by rw [hml]; rfl) (argsL := [(.int 1)]) (st := []) f58 (lenOf pd_5 rfl) rfl rfl (by decide) (by decide) eh66 hby at_267 ?_
      intro T67 v67 L67 X67 hQ67
      obtain ⟨rfl, Nq67, eh67⟩ := hQ67
      have N67 := Fr.app N66 Nq67
      refine own_sh (T := T67) 270 #[.val (.int p1), .val (.int p2), .val (.int p3), .val (.int p4), .val (.int p5), .val (.int 0), .val (.int 0), .val (.ref b8), .val (.int 0), .val (.int 1), .val (.int 0), .val (.int 1), .val (.int 2), .val (.int p1), .val (.int p2), .val (.int 1)] [(.int (-1))] ?_
      refine own_iconst X67.here hx hby at_270 (v := (-1 : Int32)) (by decide) ?_
      refine own_icmpNo X67.here hx hby at_271 (teq (show (-1 : Int32) = (-1 : Int32) from (by decide))).2 ?_
      refine own_iconst X67.here hx hby at_274 (v := (1 : Int32)) (by decide) ?_
      refine own_goto X67.here hx hby (pc' := 279) at_275 (by decide) (by decide) ?_
      refine own_istore X67.here hx hby at_279 (l' := #[.val (.int p1), .val (.int p2), .val (.int p3), .val (.int p4), .val (.int p5), .val (.int 0), .val (.int 0), .val (.ref b8), .val (.int 0), .val (.int 1), .val (.int 0), .val (.int 1), .val (.int 2), .val (.int p1), .val (.int p2), .val (.int 1)]) rfl ?_
      refine own_iload X67.here hx hby at_281 rfl ?_
      obtain ⟨fs, hr, hrun, hended, hW, hsame⟩ := X67.leave (v := some (.int 1)) (fun h => by rw [Bd.returns] at h; cases h)
      refine own_ret (t := T67.setFrames fs) ?_ ⟨_, hrun, hended, _, _, rfl, ?_, ⟨_, rfl⟩, hW, hsame.mono (by decide) (by decide)⟩
      · exact retN X67 hx (t := .boolean) Bd.returns (by simp) (hb hby at_283) hr
      · show Q_rm0 Z p1 p2 p3 p4 p5 h0 n0 _ T67.heap _
        rw [eh67]
        exact ⟨rfl, N67, trivial⟩
    · refine own_ifNo X0.here hx hby at_18 ((if0 _ _).trans (feq hc18_7).1) ?_
      refine own_iconst X0.here hx hby at_21 (v := (1 : Int32)) (by decide) ?_
      refine own_goto X0.here hx hby (pc' := 26) at_22 (by decide) (by decide) ?_
      refine own_istore X0.here hx hby at_26 (l' := #[.val (.int p1), .val (.int p2), .val (.int p3), .val (.int p4), .val (.int p5), .val (.int 0), .val (.int 1), .unset, .unset, .unset, .unset, .unset, .unset, .unset, .unset, .unset]) rfl ?_
      refine own_newO X0 hx hZ hown (own_w hw 0 rfl) (own_w hw 1 rfl) (own_w hw 2 rfl) e0 hby at_28 (by decide) (by decide) ?_
      intro T68 h68 b68 X68 e68 E68 g68 A68 D68 lt68
      have z69 : h0.size ≤ h68.size := E68.1
      have F70 : Fld Z h68 b68 "com/example/boxwood/boxwood/XmlNodeTable" "numbers" "[[I" .null := D68 (Or.inl (own_w hw 13 rfl)) (ty := (.array (.array .int))) (by decide)
      have F71 : Fld Z h68 b68 "com/example/boxwood/boxwood/XmlNodeTable" "strings" "[[Ljava/lang/String;" .null := D68 (Or.inl (own_w hw 17 rfl)) (ty := (.array (.array (.object "java/lang/String")))) (by decide)
      have F72 : Fld Z h68 b68 "com/example/boxwood/boxwood/XmlNodeTable" "attributeNumbers" "[[I" .null := D68 (Or.inl (own_w hw 19 rfl)) (ty := (.array (.array .int))) (by decide)
      have F73 : Fld Z h68 b68 "com/example/boxwood/boxwood/XmlNodeTable" "attributeNames" "[[Ljava/lang/String;" .null := D68 (Or.inl (own_w hw 21 rfl)) (ty := (.array (.array (.object "java/lang/String")))) (by decide)
      have F74 : Fld Z h68 b68 "com/example/boxwood/boxwood/XmlNodeTable" "attributeValues" "[[Lcom/example/boxwood/boxwood/XmlValue;" .null := D68 (Or.inl (own_w hw 25 rfl)) (ty := (.array (.array (.object "com/example/boxwood/boxwood/XmlValue")))) (by decide)
      have F75 : Fld Z h68 b68 "com/example/boxwood/boxwood/XmlNodeTable" "content" "[B" .null := D68 (Or.inr (own_w hw 27 rfl)) (ty := (.array .byte)) (by decide)
      have F76 : Fld Z h68 b68 "com/example/boxwood/boxwood/XmlNodeTable" "size" "I" (.int 0) := D68 (Or.inl (own_w hw 38 rfl)) (ty := .int) (by decide)
      have F77 : Fld Z h68 b68 "com/example/boxwood/boxwood/XmlNodeTable" "attributeCount" "I" (.int 0) := D68 (Or.inl (own_w hw 45 rfl)) (ty := .int) (by decide)
      refine own_dup X68.here hx hby at_31 rfl ?_
      refine own_iconst X68.here hx hby at_32 (v := (0 : Int32)) (by decide) ?_
      refine own_newP X68 hx hZ (aty := .byte) (own_w hw 3 rfl) e68 hby at_33 (by decide) 0 (by decide) (by decide) (by decide) (by decide) (ad := "[B") (by decide) ?_
      intro T78 h78 k78 b78 X78 e78 E78 g78 V78 C78 lt78
      have z79 : h68.size ≤ h78.size := E78.1
      have V80 : Arv Z h78 b78 k78 .byte (0 : Int32) [] (.int 0) := V78
      have f81 : Exa Z h78 b68 "com/example/boxwood/boxwood/XmlNodeTable" := (A68.ext E78)
      have f82 : Fld Z h78 b68 "com/example/boxwood/boxwood/XmlNodeTable" "content" "[B" .null := (F75.ext E78)
      have f83 : Fld Z h78 b68 "com/example/boxwood/boxwood/XmlNodeTable" "numbers" "[[I" .null := (F70.ext E78)
      have f84 : Fld Z h78 b68 "com/example/boxwood/boxwood/XmlNodeTable" "strings" "[[Ljava/lang/String;" .null := (F71.ext E78)
      have f85 : Fld Z h78 b68 "com/example/boxwood/boxwood/XmlNodeTable" "attributeNumbers" "[[I" .null := (F72.ext E78)
      have f86 : Fld Z h78 b68 "com/example/boxwood/boxwood/XmlNodeTable" "attributeNames" "[[Ljava/lang/String;" .null := (F73.ext E78)
      have f87 : Fld Z h78 b68 "com/example/boxwood/boxwood/XmlNodeTable" "attributeValues" "[[Lcom/example/boxwood/boxwood/XmlValue;" .null := (F74.ext E78)
      have f88 : Fld Z h78 b68 "com/example/boxwood/boxwood/XmlNodeTable" "size" "I" (.int 0) := (F76.ext E78)
      have f89 : Fld Z h78 b68 "com/example/boxwood/boxwood/XmlNodeTable" "attributeCount" "I" (.int 0) := (F77.ext E78)
      have z91 : n0 ≤ h78.size := by omega
      refine own_special X78 hx hZ rfl hown (own_w hw 4 rfl) (own_w hw 5 rfl) (own_w hw 2 rfl) (own_w hw 6 rfl) (by decide) (tabInit l Z a0 hw [] b68 b78 h78 n0 z91 f81 f82 (by omega) f83 f84 f85 f86 f87 f88 f89) 1 (Nat.le_of_eq rfl) (by decide) (by decide) (by rw [hml]; rfl) (argsL := [(.ref b78)]) (st := [(.ref b68)]) (a := b68) (lenOf pd_3 rfl) rfl rfl (by decide) (by decide) e78 hby at_35 ?_
      intro T90 v90 L90 X90 hQ90
      obtain ⟨aN_90, kaN_90, aS_90, kaS_90, aA_90, kaA_90, aM_90, kaM_90, aW_90, kaW_90, rfl, Nq90, K90, P90_0, P90_1, P90_2, P90_3, P90_4, P90_5, P90_6, P90_7, P90_8, P90_9, P90_10, P90_11, P90_12, P90_13, P90_14, P90_15, P90_16, P90_17, P90_18, P90_19, P90_20, P90_21, P90_22, P90_23, P90_24, P90_25, P90_26⟩ := hQ90
      have N90 := Fr.app N0 Nq90
      have z92 : h78.size ≤ T90.heap.size := K90.1
      have lt93 : T90.heap.size > b68 := P90_0.lt
      have lt94 : T90.heap.size > aN_90 := P90_5.lt
      have lt95 : T90.heap.size > aS_90 := P90_9.lt
      have lt96 : T90.heap.size > aA_90 := P90_13.lt
      have lt97 : T90.heap.size > aM_90 := P90_17.lt
      have lt98 : T90.heap.size > aW_90 := P90_21.lt
      refine own_sh (T := T90) 38 #[.val (.int p1), .val (.int p2), .val (.int p3), .val (.int p4), .val (.int p5), .val (.int 0), .val (.int 1), .unset, .unset, .unset, .unset, .unset, .unset, .unset, .unset, .unset] [(.ref b68)] ?_
      refine own_astore X90.here hx hby at_38 rfl (l' := #[.val (.int p1), .val (.int p2), .val (.int p3), .val (.int p4), .val (.int p5), .val (.int 0), .val (.int 1), .val (.ref b68), .unset, .unset, .unset, .unset, .unset, .unset, .unset, .unset]) rfl ?_
      refine own_aload X90.here hx hby at_40 rfl rfl ?_
      refine own_aconstNull X90.here hx hby at_42 ?_
      refine own_iloadN X90.here hx hby at_43 rfl ?_
      refine own_iloadN X90.here hx hby at_44 rfl ?_
      have z100 : n0 ≤ T90.heap.size := by omega
      refine own_virtual X90 hx hZ hown (own_w hw 28 rfl) (own_w hw 29 rfl) (notFace_of_selects (args := #[]) (mvT hZ (own_w hw 31 rfl))) (own_w hw 31 rfl) (own_w hw 30 rfl) (own_w hw 2 rfl) (own_w hw 32 rfl) (by decide) (start_0n l Z a0 hw [] b68 aN_90 aS_90 p1 p2 (0 : Int32) kaN_90 kaS_90 T90.heap n0 z100 P90_0 P90_1 P90_4 P90_2 P90_5 P90_8 P90_9 P90_6 P90_10 (by omega) (by omega) (by omega)) 0 (Nat.le_of_eq rfl) (by decide) (by decide) (by rw [hml]; rfl) (argsL := [.null, (.int p1), (.int p2)]) (st := []) P90_0 (lenOf pd_4 rfl) rfl rfl (by decide) (by decide) rfl hby at_45 ?_
      intro T99 v99 L99 X99 hQ99
      obtain ⟨bN_99, bS_99, kb_99, kc_99, rfl, Nq99, K99, P99_0, P99_1, P99_2, P99_3, P99_4, P99_5, P99_6, P99_7, P99_8, P99_9, P99_10, P99_11, P99_12⟩ := hQ99
      have N99 := Fr.app N90 Nq99
      have z101 : T90.heap.size ≤ T99.heap.size := K99.1
      have lt102 : T99.heap.size > b68 := P99_0.lt
      have lt103 : T99.heap.size > aN_90 := P99_2.lt
      have lt104 : T99.heap.size > aS_90 := P99_3.lt
      have lt105 : T99.heap.size > bN_99 := P99_7.lt
      have lt106 : T99.heap.size > bS_99 := P99_8.lt
      refine own_sh (T := T99) 48 #[.val (.int p1), .val (.int p2), .val (.int p3), .val (.int p4), .val (.int p5), .val (.int 0), .val (.int 1), .val (.ref b68), .unset, .unset, .unset, .unset, .unset, .unset, .unset, .unset] [(.int 0)] ?_
      refine own_istore X99.here hx hby at_48 (l' := #[.val (.int p1), .val (.int p2), .val (.int p3), .val (.int p4), .val (.int p5), .val (.int 0), .val (.int 1), .val (.ref b68), .val (.int 0), .unset, .unset, .unset, .unset, .unset, .unset, .unset]) rfl ?_
      refine own_aload X99.here hx hby at_50 rfl rfl ?_
      refine own_aconstNull X99.here hx hby at_52 ?_
      refine own_iloadN X99.here hx hby at_53 rfl ?_
      refine own_iloadN X99.here hx hby at_54 rfl ?_
      have z108 : n0 ≤ T99.heap.size := by omega
      refine own_virtual X99 hx hZ hown (own_w hw 28 rfl) (own_w hw 29 rfl) (notFace_of_selects (args := #[]) (mvT hZ (own_w hw 31 rfl))) (own_w hw 31 rfl) (own_w hw 30 rfl) (own_w hw 2 rfl) (own_w hw 32 rfl) (by decide) (start_1n l Z a0 hw [] b68 aN_90 bN_99 aS_90 bS_99 p2 p1 (0 : Int32) kaN_90 kb_99 kaS_90 kc_99 (0 : Int32) p1 (-1 : Int32) (1 : Int32) p2 (0 : Int32) (0 : Int32) T99.heap n0 z108 P99_0 P99_1 P99_10 P99_12 P99_2 P99_7 P99_11 P99_3 P99_8 P99_9 (by omega) (by omega) (by omega)) 0 (Nat.le_of_eq rfl) (by decide) (by decide) (by rw [hml]; rfl) (argsL := [.null, (.int p2), (.int p1)]) (st := []) P99_0 (lenOf pd_4 rfl) rfl rfl (by decide) (by decide) rfl hby at_55 ?_
      intro T107 v107 L107 X107 hQ107
      obtain ⟨rfl, Nq107, K107, P107_0, P107_1, P107_2, P107_3, P107_4, P107_5, P107_6⟩ := hQ107
      have N107 := Fr.app N99 Nq107
      have z109 : T99.heap.size ≤ T107.heap.size := K107.1
      have lt110 : T107.heap.size > b68 := P107_0.lt
      have lt111 : T107.heap.size > bN_99 := P107_5.lt
      have lt112 : T107.heap.size > bS_99 := P107_6.lt
      refine own_sh (T := T107) 58 #[.val (.int p1), .val (.int p2), .val (.int p3), .val (.int p4), .val (.int p5), .val (.int 0), .val (.int 1), .val (.ref b68), .val (.int 0), .unset, .unset, .unset, .unset, .unset, .unset, .unset] [(.int 1)] ?_
      refine own_istore X107.here hx hby at_58 (l' := #[.val (.int p1), .val (.int p2), .val (.int p3), .val (.int p4), .val (.int p5), .val (.int 0), .val (.int 1), .val (.ref b68), .val (.int 0), .val (.int 1), .unset, .unset, .unset, .unset, .unset, .unset]) rfl ?_
      refine own_iload X107.here hx hby at_60 rfl ?_
      refine own_ifYes X107.here hx hby (pc' := 72) at_62 ((if0 _ _).trans (teq (show (0 : Int32) = (0 : Int32) from (by decide))).1) (by decide) (by decide) ?_
      refine own_iload X107.here hx hby at_72 rfl ?_
      refine own_ifNo X107.here hx hby at_74 ((if0 _ _).trans (feq (show ¬ ((1 : Int32) = (0 : Int32)) from (by decide))).1) ?_
      refine own_iload X107.here hx hby at_77 rfl ?_
      refine own_goto X107.here hx hby (pc' := 84) at_79 (by decide) (by decide) ?_
      refine own_istore X107.here hx hby at_84 (l' := #[.val (.int p1), .val (.int p2), .val (.int p3), .val (.int p4), .val (.int p5), .val (.int 0), .val (.int 1), .val (.ref b68), .val (.int 0), .val (.int 1), .val (.int 1), .unset, .unset, .unset, .unset, .unset]) rfl ?_
      refine own_iload X107.here hx hby at_86 rfl ?_
      refine own_ifNo X107.here hx hby at_88 ((if0 _ _).trans (feq (show ¬ ((1 : Int32) = (0 : Int32)) from (by decide))).1) ?_
      refine own_iload X107.here hx hby at_91 rfl ?_
      refine own_goto X107.here hx hby (pc' := 98) at_93 (by decide) (by decide) ?_
      refine own_istore X107.here hx hby at_98 (l' := #[.val (.int p1), .val (.int p2), .val (.int p3), .val (.int p4), .val (.int p5), .val (.int 0), .val (.int 1), .val (.ref b68), .val (.int 0), .val (.int 1), .val (.int 1), .val (.int 0), .unset, .unset, .unset, .unset]) rfl ?_
      refine own_iload X107.here hx hby at_100 rfl ?_
      refine own_ifYes X107.here hx hby (pc' := 109) at_102 ((if0 _ _).trans (teq (show (0 : Int32) = (0 : Int32) from (by decide))).1) (by decide) (by decide) ?_
      refine own_iconst X107.here hx hby at_109 (v := (2 : Int32)) (by decide) ?_
      refine own_istore X107.here hx hby at_110 (l' := #[.val (.int p1), .val (.int p2), .val (.int p3), .val (.int p4), .val (.int p5), .val (.int 0), .val (.int 1), .val (.ref b68), .val (.int 0), .val (.int 1), .val (.int 1), .val (.int 0), .val (.int 2), .unset, .unset, .unset]) rfl ?_
      refine own_iload X107.here hx hby at_112 rfl ?_
      refine own_ifNo X107.here hx hby at_114 ((if0 _ _).trans (feq (show ¬ ((1 : Int32) = (0 : Int32)) from (by decide))).1) ?_
      refine own_iloadN X107.here hx hby at_117 rfl ?_
      refine own_goto X107.here hx hby (pc' := 122) at_118 (by decide) (by decide) ?_
      refine own_istore X107.here hx hby at_122 (l' := #[.val (.int p1), .val (.int p2), .val (.int p3), .val (.int p4), .val (.int p5), .val (.int 0), .val (.int 1), .val (.ref b68), .val (.int 0), .val (.int 1), .val (.int 1), .val (.int 0), .val (.int 2), .val (.int p2), .unset, .unset]) rfl ?_
      refine own_iload X107.here hx hby at_124 rfl ?_
      refine own_ifNo X107.here hx hby at_126 ((if0 _ _).trans (feq (show ¬ ((1 : Int32) = (0 : Int32)) from (by decide))).1) ?_
      refine own_iloadN X107.here hx hby at_129 rfl ?_
      refine own_goto X107.here hx hby (pc' := 134) at_130 (by decide) (by decide) ?_
      refine own_istore X107.here hx hby at_134 (l' := #[.val (.int p1), .val (.int p2), .val (.int p3), .val (.int p4), .val (.int p5), .val (.int 0), .val (.int 1), .val (.ref b68), .val (.int 0), .val (.int 1), .val (.int 1), .val (.int 0), .val (.int 2), .val (.int p2), .val (.int p1), .unset]) rfl ?_
      refine own_aload X107.here hx hby at_136 rfl rfl ?_
      refine own_iload X107.here hx hby at_138 rfl ?_
      refine own_iloadN X107.here hx hby at_140 rfl ?_
      refine own_iloadN X107.here hx hby at_141 rfl ?_
      have f113 : Arv Z T107.heap aN_90 kaN_90 (.array .int) (1 : Int32) [(.ref bN_99)] .null := (P99_2.keep K107 (ninS (own_nn (by omega)) (ninS (own_nn (by omega)) (ninS (own_nn (by omega)) nin0))))
      have z115 : n0 ≤ T107.heap.size := by omega
      refine own_virtual X107 hx hZ hown (own_w hw 50 rfl) (own_w hw 51 rfl) (notFace_of_selects (args := #[]) (mvT hZ (own_w hw 53 rfl))) (own_w hw 53 rfl) (own_w hw 52 rfl) (own_w hw 2 rfl) (own_w hw 54 rfl) (by decide) (endE_1_2 l Z a0 hw [] b68 aN_90 bN_99 p3 p4 (0 : Int32) kaN_90 kb_99 (0 : Int32) p1 (-1 : Int32) (1 : Int32) p2 (0 : Int32) (0 : Int32) (0 : Int32) p2 (-1 : Int32) (2 : Int32) p1 (0 : Int32) (0 : Int32) T107.heap n0 z115 P107_0 P107_1 P107_2 P107_4 f113 P107_5 (by omega)) 0 (Nat.le_of_eq rfl) (by decide) (by decide) (by rw [hml]; rfl) (argsL := [(.int 1), (.int p3), (.int p4)]) (st := []) P107_0 (lenOf pd_1 rfl) rfl rfl (by decide) (by decide) rfl hby at_142 ?_
      intro T114 v114 L114 X114 hQ114
      obtain ⟨rfl, Nq114, K114, P114_0⟩ := hQ114
      have N114 := Fr.app N107 Nq114
      have z116 : T107.heap.size ≤ T114.heap.size := K114.1
      have lt117 : T114.heap.size > bN_99 := P114_0.lt
      refine own_sh (T := T114) 145 #[.val (.int p1), .val (.int p2), .val (.int p3), .val (.int p4), .val (.int p5), .val (.int 0), .val (.int 1), .val (.ref b68), .val (.int 0), .val (.int 1), .val (.int 1), .val (.int 0), .val (.int 2), .val (.int p2), .val (.int p1), .unset] [] ?_
      refine own_aload X114.here hx hby at_145 rfl rfl ?_
      refine own_iload X114.here hx hby at_147 rfl ?_
      have f118 : Exa Z T114.heap b68 "com/example/boxwood/boxwood/XmlNodeTable" := (P107_0.keep K114)
      have f119 : Fld Z T114.heap b68 "com/example/boxwood/boxwood/XmlNodeTable" "numbers" "[[I" (.ref aN_90) := (P107_2.keep K114 (ninS (own_nn (by omega)) nin0))
      have f120 : Arv Z T114.heap aN_90 kaN_90 (.array .int) (1 : Int32) [(.ref bN_99)] .null := (f113.keep K114 (ninS (own_nn (by omega)) nin0))
      have z122 : n0 ≤ T114.heap.size := by omega
      refine own_virtual X114 hx hZ hown (own_w hw 55 rfl) (own_w hw 56 rfl) (notFace_of_selects (args := #[]) (mvT hZ (own_w hw 58 rfl))) (own_w hw 58 rfl) (own_w hw 57 rfl) (own_w hw 2 rfl) (own_w hw 59 rfl) (by decide) (contentEnd_1_14 l Z a0 hw [] b68 aN_90 bN_99 kaN_90 kb_99 (0 : Int32) p1 (-1 : Int32) (1 : Int32) p2 (0 : Int32) (0 : Int32) (0 : Int32) p2 p4 (2 : Int32) p1 p3 (0 : Int32) T114.heap n0 z122 f118 f119 f120 P114_0) 0 (Nat.le_of_eq rfl) (by decide) (by decide) (by rw [hml]; rfl) (argsL := [(.int 1)]) (st := []) f118 (lenOf pd_5 rfl) rfl rfl (by decide) (by decide) rfl hby at_149 ?_
      intro T121 v121 L121 X121 hQ121
      obtain ⟨rfl, Nq121, eh121⟩ := hQ121
      have N121 := Fr.app N114 Nq121
      refine own_sh (T := T121) 152 #[.val (.int p1), .val (.int p2), .val (.int p3), .val (.int p4), .val (.int p5), .val (.int 0), .val (.int 1), .val (.ref b68), .val (.int 0), .val (.int 1), .val (.int 1), .val (.int 0), .val (.int 2), .val (.int p2), .val (.int p1), .unset] [(.int p3)] ?_
      refine own_iloadN X121.here hx hby at_152 rfl ?_
      refine own_icmpNo X121.here hx hby at_153 (teq (show p3 = p3 from rfl)).2 ?_
      refine own_iconst X121.here hx hby at_156 (v := (1 : Int32)) (by decide) ?_
      refine own_goto X121.here hx hby (pc' := 161) at_157 (by decide) (by decide) ?_
      refine own_istore X121.here hx hby at_161 (l' := #[.val (.int p1), .val (.int p2), .val (.int p3), .val (.int p4), .val (.int p5), .val (.int 0), .val (.int 1), .val (.ref b68), .val (.int 0), .val (.int 1), .val (.int 1), .val (.int 0), .val (.int 2), .val (.int p2), .val (.int p1), .val (.int 1)]) rfl ?_
      refine own_iload X121.here hx hby at_163 rfl ?_
      refine own_ifNo X121.here hx hby at_165 ((if0 _ _).trans (feq (show ¬ ((1 : Int32) = (0 : Int32)) from (by decide))).1) ?_
      refine own_aload X121.here hx hby at_168 rfl rfl ?_
      refine own_iload X121.here hx hby at_170 rfl ?_
      refine own_virtual X121 hx hZ hown (own_w hw 64 rfl) (own_w hw 65 rfl) (notFace_of_selects (args := #[]) (mvT hZ (own_w hw 67 rfl))) (own_w hw 67 rfl) (own_w hw 66 rfl) (own_w hw 2 rfl) (own_w hw 68 rfl) (by decide) (end_1_14 l Z a0 hw [] b68 aN_90 bN_99 kaN_90 kb_99 (0 : Int32) p1 (-1 : Int32) (1 : Int32) p2 (0 : Int32) (0 : Int32) (0 : Int32) p2 p4 (2 : Int32) p1 p3 (0 : Int32) T114.heap n0 z122 f118 f119 f120 P114_0) 0 (Nat.le_of_eq rfl) (by decide) (by decide) (by rw [hml]; rfl) (argsL := [(.int 1)]) (st := []) f118 (lenOf pd_5 rfl) rfl rfl (by decide) (by decide) eh121 hby at_172 ?_
      intro T123 v123 L123 X123 hQ123
      obtain ⟨rfl, Nq123, eh123⟩ := hQ123
      have N123 := Fr.app N121 Nq123
      refine own_sh (T := T123) 175 #[.val (.int p1), .val (.int p2), .val (.int p3), .val (.int p4), .val (.int p5), .val (.int 0), .val (.int 1), .val (.ref b68), .val (.int 0), .val (.int 1), .val (.int 1), .val (.int 0), .val (.int 2), .val (.int p2), .val (.int p1), .val (.int 1)] [(.int p4)] ?_
      refine own_iloadN X123.here hx hby at_175 rfl ?_
      refine own_icmpNo X123.here hx hby at_176 (teq (show p4 = p4 from rfl)).2 ?_
      refine own_iconst X123.here hx hby at_179 (v := (1 : Int32)) (by decide) ?_
      refine own_goto X123.here hx hby (pc' := 184) at_180 (by decide) (by decide) ?_
      refine own_istore X123.here hx hby at_184 (l' := #[.val (.int p1), .val (.int p2), .val (.int p3), .val (.int p4), .val (.int p5), .val (.int 0), .val (.int 1), .val (.ref b68), .val (.int 0), .val (.int 1), .val (.int 1), .val (.int 0), .val (.int 2), .val (.int p2), .val (.int p1), .val (.int 1)]) rfl ?_
      refine own_iload X123.here hx hby at_186 rfl ?_
      refine own_ifNo X123.here hx hby at_188 ((if0 _ _).trans (feq (show ¬ ((1 : Int32) = (0 : Int32)) from (by decide))).1) ?_
      refine own_aload X123.here hx hby at_191 rfl rfl ?_
      refine own_iload X123.here hx hby at_193 rfl ?_
      refine own_virtual X123 hx hZ hown (own_w hw 69 rfl) (own_w hw 70 rfl) (notFace_of_selects (args := #[]) (mvT hZ (own_w hw 72 rfl))) (own_w hw 72 rfl) (own_w hw 71 rfl) (own_w hw 2 rfl) (own_w hw 73 rfl) (by decide) (next_1_14 l Z a0 hw [] b68 aN_90 bN_99 kaN_90 kb_99 (0 : Int32) p1 (-1 : Int32) (1 : Int32) p2 (0 : Int32) (0 : Int32) (0 : Int32) p2 p4 (2 : Int32) p1 p3 (0 : Int32) T114.heap n0 z122 f118 f119 f120 P114_0) 0 (Nat.le_of_eq rfl) (by decide) (by decide) (by rw [hml]; rfl) (argsL := [(.int 1)]) (st := []) f118 (lenOf pd_5 rfl) rfl rfl (by decide) (by decide) eh123 hby at_195 ?_
      intro T124 v124 L124 X124 hQ124
      obtain ⟨rfl, Nq124, eh124⟩ := hQ124
      have N124 := Fr.app N123 Nq124
      refine own_sh (T := T124) 198 #[.val (.int p1), .val (.int p2), .val (.int p3), .val (.int p4), .val (.int p5), .val (.int 0), .val (.int 1), .val (.ref b68), .val (.int 0), .val (.int 1), .val (.int 1), .val (.int 0), .val (.int 2), .val (.int p2), .val (.int p1), .val (.int 1)] [(.int 2)] ?_
      refine own_iload X124.here hx hby at_198 rfl ?_
      refine own_icmpNo X124.here hx hby at_200 (teq (show (2 : Int32) = (2 : Int32) from (by decide))).2 ?_
      refine own_iconst X124.here hx hby at_203 (v := (1 : Int32)) (by decide) ?_
      refine own_goto X124.here hx hby (pc' := 208) at_204 (by decide) (by decide) ?_
      refine own_istore X124.here hx hby at_208 (l' := #[.val (.int p1), .val (.int p2), .val (.int p3), .val (.int p4), .val (.int p5), .val (.int 0), .val (.int 1), .val (.ref b68), .val (.int 0), .val (.int 1), .val (.int 1), .val (.int 0), .val (.int 2), .val (.int p2), .val (.int p1), .val (.int 1)]) rfl ?_
      refine own_iload X124.here hx hby at_210 rfl ?_
      refine own_ifNo X124.here hx hby at_212 ((if0 _ _).trans (feq (show ¬ ((1 : Int32) = (0 : Int32)) from (by decide))).1) ?_
      refine own_aload X124.here hx hby at_215 rfl rfl ?_
      refine own_iload X124.here hx hby at_217 rfl ?_
      refine own_virtual X124 hx hZ hown (own_w hw 74 rfl) (own_w hw 75 rfl) (notFace_of_selects (args := #[]) (mvT hZ (own_w hw 77 rfl))) (own_w hw 77 rfl) (own_w hw 76 rfl) (own_w hw 2 rfl) (own_w hw 78 rfl) (by decide) (start_1_14 l Z a0 hw [] b68 aN_90 bN_99 kaN_90 kb_99 (0 : Int32) p1 (-1 : Int32) (1 : Int32) p2 (0 : Int32) (0 : Int32) (0 : Int32) p2 p4 (2 : Int32) p1 p3 (0 : Int32) T114.heap n0 z122 f118 f119 f120 P114_0) 0 (Nat.le_of_eq rfl) (by decide) (by decide) (by rw [hml]; rfl) (argsL := [(.int 1)]) (st := []) f118 (lenOf pd_5 rfl) rfl rfl (by decide) (by decide) eh124 hby at_219 ?_
      intro T125 v125 L125 X125 hQ125
      obtain ⟨rfl, Nq125, eh125⟩ := hQ125
      have N125 := Fr.app N124 Nq125
      refine own_sh (T := T125) 222 #[.val (.int p1), .val (.int p2), .val (.int p3), .val (.int p4), .val (.int p5), .val (.int 0), .val (.int 1), .val (.ref b68), .val (.int 0), .val (.int 1), .val (.int 1), .val (.int 0), .val (.int 2), .val (.int p2), .val (.int p1), .val (.int 1)] [(.int p2)] ?_
      refine own_iload X125.here hx hby at_222 rfl ?_
      refine own_icmpNo X125.here hx hby at_224 (teq (show p2 = p2 from rfl)).2 ?_
      refine own_iconst X125.here hx hby at_227 (v := (1 : Int32)) (by decide) ?_
      refine own_goto X125.here hx hby (pc' := 232) at_228 (by decide) (by decide) ?_
      refine own_istore X125.here hx hby at_232 (l' := #[.val (.int p1), .val (.int p2), .val (.int p3), .val (.int p4), .val (.int p5), .val (.int 0), .val (.int 1), .val (.ref b68), .val (.int 0), .val (.int 1), .val (.int 1), .val (.int 0), .val (.int 2), .val (.int p2), .val (.int p1), .val (.int 1)]) rfl ?_
      refine own_iload X125.here hx hby at_234 rfl ?_
      refine own_ifNo X125.here hx hby at_236 ((if0 _ _).trans (feq (show ¬ ((1 : Int32) = (0 : Int32)) from (by decide))).1) ?_
      refine own_aload X125.here hx hby at_239 rfl rfl ?_
      refine own_iload X125.here hx hby at_241 rfl ?_
      refine own_virtual X125 hx hZ hown (own_w hw 79 rfl) (own_w hw 80 rfl) (notFace_of_selects (args := #[]) (mvT hZ (own_w hw 82 rfl))) (own_w hw 82 rfl) (own_w hw 81 rfl) (own_w hw 2 rfl) (own_w hw 83 rfl) (by decide) (contentStart_1_14 l Z a0 hw [] b68 aN_90 bN_99 kaN_90 kb_99 (0 : Int32) p1 (-1 : Int32) (1 : Int32) p2 (0 : Int32) (0 : Int32) (0 : Int32) p2 p4 (2 : Int32) p1 p3 (0 : Int32) T114.heap n0 z122 f118 f119 f120 P114_0) 0 (Nat.le_of_eq rfl) (by decide) (by decide) (by rw [hml]; rfl) (argsL := [(.int 1)]) (st := []) f118 (lenOf pd_5 rfl) rfl rfl (by decide) (by decide) eh125 hby at_243 ?_
      intro T126 v126 L126 X126 hQ126
      obtain ⟨rfl, Nq126, eh126⟩ := hQ126
      have N126 := Fr.app N125 Nq126
      refine own_sh (T := T126) 246 #[.val (.int p1), .val (.int p2), .val (.int p3), .val (.int p4), .val (.int p5), .val (.int 0), .val (.int 1), .val (.ref b68), .val (.int 0), .val (.int 1), .val (.int 1), .val (.int 0), .val (.int 2), .val (.int p2), .val (.int p1), .val (.int 1)] [(.int p1)] ?_
      refine own_iload X126.here hx hby at_246 rfl ?_
      refine own_icmpNo X126.here hx hby at_248 (teq (show p1 = p1 from rfl)).2 ?_
      refine own_iconst X126.here hx hby at_251 (v := (1 : Int32)) (by decide) ?_
      refine own_goto X126.here hx hby (pc' := 256) at_252 (by decide) (by decide) ?_
      refine own_istore X126.here hx hby at_256 (l' := #[.val (.int p1), .val (.int p2), .val (.int p3), .val (.int p4), .val (.int p5), .val (.int 0), .val (.int 1), .val (.ref b68), .val (.int 0), .val (.int 1), .val (.int 1), .val (.int 0), .val (.int 2), .val (.int p2), .val (.int p1), .val (.int 1)]) rfl ?_
      refine own_iload X126.here hx hby at_258 rfl ?_
      refine own_ifNo X126.here hx hby at_260 ((if0 _ _).trans (feq (show ¬ ((1 : Int32) = (0 : Int32)) from (by decide))).1) ?_
      refine own_aload X126.here hx hby at_263 rfl rfl ?_
      refine own_iload X126.here hx hby at_265 rfl ?_
      refine own_virtual X126 hx hZ hown (own_w hw 64 rfl) (own_w hw 65 rfl) (notFace_of_selects (args := #[]) (mvT hZ (own_w hw 67 rfl))) (own_w hw 67 rfl) (own_w hw 66 rfl) (own_w hw 2 rfl) (own_w hw 68 rfl) (by decide) (end_0_14 l Z a0 hw [] b68 aN_90 bN_99 kaN_90 kb_99 (0 : Int32) p1 (-1 : Int32) (1 : Int32) p2 (0 : Int32) (0 : Int32) (0 : Int32) p2 p4 (2 : Int32) p1 p3 (0 : Int32) T114.heap n0 z122 f118 f119 f120 P114_0) 0 (Nat.le_of_eq rfl) (by decide) (by decide) (by rw [hml]; rfl) (argsL := [(.int 0)]) (st := []) f118 (lenOf pd_5 rfl) rfl rfl (by decide) (by decide) eh126 hby at_267 ?_
      intro T127 v127 L127 X127 hQ127
      obtain ⟨rfl, Nq127, eh127⟩ := hQ127
      have N127 := Fr.app N126 Nq127
      refine own_sh (T := T127) 270 #[.val (.int p1), .val (.int p2), .val (.int p3), .val (.int p4), .val (.int p5), .val (.int 0), .val (.int 1), .val (.ref b68), .val (.int 0), .val (.int 1), .val (.int 1), .val (.int 0), .val (.int 2), .val (.int p2), .val (.int p1), .val (.int 1)] [(.int (-1))] ?_
      refine own_iconst X127.here hx hby at_270 (v := (-1 : Int32)) (by decide) ?_
      refine own_icmpNo X127.here hx hby at_271 (teq (show (-1 : Int32) = (-1 : Int32) from (by decide))).2 ?_
      refine own_iconst X127.here hx hby at_274 (v := (1 : Int32)) (by decide) ?_
      refine own_goto X127.here hx hby (pc' := 279) at_275 (by decide) (by decide) ?_
      refine own_istore X127.here hx hby at_279 (l' := #[.val (.int p1), .val (.int p2), .val (.int p3), .val (.int p4), .val (.int p5), .val (.int 0), .val (.int 1), .val (.ref b68), .val (.int 0), .val (.int 1), .val (.int 1), .val (.int 0), .val (.int 2), .val (.int p2), .val (.int p1), .val (.int 1)]) rfl ?_
      refine own_iload X127.here hx hby at_281 rfl ?_
      obtain ⟨fs, hr, hrun, hended, hW, hsame⟩ := X127.leave (v := some (.int 1)) (fun h => by rw [Bd.returns] at h; cases h)
      refine own_ret (t := T127.setFrames fs) ?_ ⟨_, hrun, hended, _, _, rfl, ?_, ⟨_, rfl⟩, hW, hsame.mono (by decide) (by decide)⟩
      · exact retN X127 hx (t := .boolean) Bd.returns (by simp) (hb hby at_283) hr
      · show Q_rm0 Z p1 p2 p3 p4 p5 h0 n0 _ T127.heap _
        rw [eh127]
        exact ⟨rfl, N127, trivial⟩
  · refine own_ifNo X0.here hx hby at_4 ((if0 _ _).trans (feq hc4_6).1) ?_
    refine own_iconst X0.here hx hby at_7 (v := (1 : Int32)) (by decide) ?_
    refine own_goto X0.here hx hby (pc' := 12) at_8 (by decide) (by decide) ?_
    refine own_istore X0.here hx hby at_12 (l' := #[.val (.int p1), .val (.int p2), .val (.int p3), .val (.int p4), .val (.int p5), .val (.int 1), .unset, .unset, .unset, .unset, .unset, .unset, .unset, .unset, .unset, .unset]) rfl ?_
    refine own_iload X0.here hx hby at_14 rfl ?_
    refine own_iconst X0.here hx hby at_16 (v := (2 : Int32)) (by decide) ?_
    refine own_iand X0.here hx hby at_17 rfl ?_
    by_cases hc18_128 : (p5 &&& (2 : Int32)) = (0 : Int32)
    · refine own_ifYes X0.here hx hby (pc' := 25) at_18 ((if0 _ _).trans (teq hc18_128).1) (by decide) (by decide) ?_
      refine own_iconst X0.here hx hby at_25 (v := (0 : Int32)) (by decide) ?_
      refine own_istore X0.here hx hby at_26 (l' := #[.val (.int p1), .val (.int p2), .val (.int p3), .val (.int p4), .val (.int p5), .val (.int 1), .val (.int 0), .unset, .unset, .unset, .unset, .unset, .unset, .unset, .unset, .unset]) rfl ?_
      refine own_newO X0 hx hZ hown (own_w hw 0 rfl) (own_w hw 1 rfl) (own_w hw 2 rfl) e0 hby at_28 (by decide) (by decide) ?_
      intro T129 h129 b129 X129 e129 E129 g129 A129 D129 lt129
      have z130 : h0.size ≤ h129.size := E129.1
      have F131 : Fld Z h129 b129 "com/example/boxwood/boxwood/XmlNodeTable" "numbers" "[[I" .null := D129 (Or.inl (own_w hw 13 rfl)) (ty := (.array (.array .int))) (by decide)
      have F132 : Fld Z h129 b129 "com/example/boxwood/boxwood/XmlNodeTable" "strings" "[[Ljava/lang/String;" .null := D129 (Or.inl (own_w hw 17 rfl)) (ty := (.array (.array (.object "java/lang/String")))) (by decide)
      have F133 : Fld Z h129 b129 "com/example/boxwood/boxwood/XmlNodeTable" "attributeNumbers" "[[I" .null := D129 (Or.inl (own_w hw 19 rfl)) (ty := (.array (.array .int))) (by decide)
      have F134 : Fld Z h129 b129 "com/example/boxwood/boxwood/XmlNodeTable" "attributeNames" "[[Ljava/lang/String;" .null := D129 (Or.inl (own_w hw 21 rfl)) (ty := (.array (.array (.object "java/lang/String")))) (by decide)
      have F135 : Fld Z h129 b129 "com/example/boxwood/boxwood/XmlNodeTable" "attributeValues" "[[Lcom/example/boxwood/boxwood/XmlValue;" .null := D129 (Or.inl (own_w hw 25 rfl)) (ty := (.array (.array (.object "com/example/boxwood/boxwood/XmlValue")))) (by decide)
      have F136 : Fld Z h129 b129 "com/example/boxwood/boxwood/XmlNodeTable" "content" "[B" .null := D129 (Or.inr (own_w hw 27 rfl)) (ty := (.array .byte)) (by decide)
      have F137 : Fld Z h129 b129 "com/example/boxwood/boxwood/XmlNodeTable" "size" "I" (.int 0) := D129 (Or.inl (own_w hw 38 rfl)) (ty := .int) (by decide)
      have F138 : Fld Z h129 b129 "com/example/boxwood/boxwood/XmlNodeTable" "attributeCount" "I" (.int 0) := D129 (Or.inl (own_w hw 45 rfl)) (ty := .int) (by decide)
      refine own_dup X129.here hx hby at_31 rfl ?_
      refine own_iconst X129.here hx hby at_32 (v := (0 : Int32)) (by decide) ?_
      refine own_newP X129 hx hZ (aty := .byte) (own_w hw 3 rfl) e129 hby at_33 (by decide) 0 (by decide) (by decide) (by decide) (by decide) (ad := "[B") (by decide) ?_
      intro T139 h139 k139 b139 X139 e139 E139 g139 V139 C139 lt139
      have z140 : h129.size ≤ h139.size := E139.1
      have V141 : Arv Z h139 b139 k139 .byte (0 : Int32) [] (.int 0) := V139
      have f142 : Exa Z h139 b129 "com/example/boxwood/boxwood/XmlNodeTable" := (A129.ext E139)
      have f143 : Fld Z h139 b129 "com/example/boxwood/boxwood/XmlNodeTable" "content" "[B" .null := (F136.ext E139)
      have f144 : Fld Z h139 b129 "com/example/boxwood/boxwood/XmlNodeTable" "numbers" "[[I" .null := (F131.ext E139)
      have f145 : Fld Z h139 b129 "com/example/boxwood/boxwood/XmlNodeTable" "strings" "[[Ljava/lang/String;" .null := (F132.ext E139)
      have f146 : Fld Z h139 b129 "com/example/boxwood/boxwood/XmlNodeTable" "attributeNumbers" "[[I" .null := (F133.ext E139)
      have f147 : Fld Z h139 b129 "com/example/boxwood/boxwood/XmlNodeTable" "attributeNames" "[[Ljava/lang/String;" .null := (F134.ext E139)
      have f148 : Fld Z h139 b129 "com/example/boxwood/boxwood/XmlNodeTable" "attributeValues" "[[Lcom/example/boxwood/boxwood/XmlValue;" .null := (F135.ext E139)
      have f149 : Fld Z h139 b129 "com/example/boxwood/boxwood/XmlNodeTable" "size" "I" (.int 0) := (F137.ext E139)
      have f150 : Fld Z h139 b129 "com/example/boxwood/boxwood/XmlNodeTable" "attributeCount" "I" (.int 0) := (F138.ext E139)
      have z152 : n0 ≤ h139.size := by omega
      refine own_special X139 hx hZ rfl hown (own_w hw 4 rfl) (own_w hw 5 rfl) (own_w hw 2 rfl) (own_w hw 6 rfl) (by decide) (tabInit l Z a0 hw [] b129 b139 h139 n0 z152 f142 f143 (by omega) f144 f145 f146 f147 f148 f149 f150) 1 (Nat.le_of_eq rfl) (by decide) (by decide) (by rw [hml]; rfl) (argsL := [(.ref b139)]) (st := [(.ref b129)]) (a := b129) (lenOf pd_3 rfl) rfl rfl (by decide) (by decide) e139 hby at_35 ?_
      intro T151 v151 L151 X151 hQ151
      obtain ⟨aN_151, kaN_151, aS_151, kaS_151, aA_151, kaA_151, aM_151, kaM_151, aW_151, kaW_151, rfl, Nq151, K151, P151_0, P151_1, P151_2, P151_3, P151_4, P151_5, P151_6, P151_7, P151_8, P151_9, P151_10, P151_11, P151_12, P151_13, P151_14, P151_15, P151_16, P151_17, P151_18, P151_19, P151_20, P151_21, P151_22, P151_23, P151_24, P151_25, P151_26⟩ := hQ151
      have N151 := Fr.app N0 Nq151
      have z153 : h139.size ≤ T151.heap.size := K151.1
      have lt154 : T151.heap.size > b129 := P151_0.lt
      have lt155 : T151.heap.size > aN_151 := P151_5.lt
      have lt156 : T151.heap.size > aS_151 := P151_9.lt
      have lt157 : T151.heap.size > aA_151 := P151_13.lt
      have lt158 : T151.heap.size > aM_151 := P151_17.lt
      have lt159 : T151.heap.size > aW_151 := P151_21.lt
      refine own_sh (T := T151) 38 #[.val (.int p1), .val (.int p2), .val (.int p3), .val (.int p4), .val (.int p5), .val (.int 1), .val (.int 0), .unset, .unset, .unset, .unset, .unset, .unset, .unset, .unset, .unset] [(.ref b129)] ?_
      refine own_astore X151.here hx hby at_38 rfl (l' := #[.val (.int p1), .val (.int p2), .val (.int p3), .val (.int p4), .val (.int p5), .val (.int 1), .val (.int 0), .val (.ref b129), .unset, .unset, .unset, .unset, .unset, .unset, .unset, .unset]) rfl ?_
      refine own_aload X151.here hx hby at_40 rfl rfl ?_
      refine own_aconstNull X151.here hx hby at_42 ?_
      refine own_iloadN X151.here hx hby at_43 rfl ?_
      refine own_iloadN X151.here hx hby at_44 rfl ?_
      have z161 : n0 ≤ T151.heap.size := by omega
      refine own_virtual X151 hx hZ hown (own_w hw 28 rfl) (own_w hw 29 rfl) (notFace_of_selects (args := #[]) (mvT hZ (own_w hw 31 rfl))) (own_w hw 31 rfl) (own_w hw 30 rfl) (own_w hw 2 rfl) (own_w hw 32 rfl) (by decide) (start_0n l Z a0 hw [] b129 aN_151 aS_151 p1 p2 (0 : Int32) kaN_151 kaS_151 T151.heap n0 z161 P151_0 P151_1 P151_4 P151_2 P151_5 P151_8 P151_9 P151_6 P151_10 (by omega) (by omega) (by omega)) 0 (Nat.le_of_eq rfl) (by decide) (by decide) (by rw [hml]; rfl) (argsL := [.null, (.int p1), (.int p2)]) (st := []) P151_0 (lenOf pd_4 rfl) rfl rfl (by decide) (by decide) rfl hby at_45 ?_
      intro T160 v160 L160 X160 hQ160
      obtain ⟨bN_160, bS_160, kb_160, kc_160, rfl, Nq160, K160, P160_0, P160_1, P160_2, P160_3, P160_4, P160_5, P160_6, P160_7, P160_8, P160_9, P160_10, P160_11, P160_12⟩ := hQ160
      have N160 := Fr.app N151 Nq160
      have z162 : T151.heap.size ≤ T160.heap.size := K160.1
      have lt163 : T160.heap.size > b129 := P160_0.lt
      have lt164 : T160.heap.size > aN_151 := P160_2.lt
      have lt165 : T160.heap.size > aS_151 := P160_3.lt
      have lt166 : T160.heap.size > bN_160 := P160_7.lt
      have lt167 : T160.heap.size > bS_160 := P160_8.lt
      refine own_sh (T := T160) 48 #[.val (.int p1), .val (.int p2), .val (.int p3), .val (.int p4), .val (.int p5), .val (.int 1), .val (.int 0), .val (.ref b129), .unset, .unset, .unset, .unset, .unset, .unset, .unset, .unset] [(.int 0)] ?_
      refine own_istore X160.here hx hby at_48 (l' := #[.val (.int p1), .val (.int p2), .val (.int p3), .val (.int p4), .val (.int p5), .val (.int 1), .val (.int 0), .val (.ref b129), .val (.int 0), .unset, .unset, .unset, .unset, .unset, .unset, .unset]) rfl ?_
      refine own_aload X160.here hx hby at_50 rfl rfl ?_
      refine own_aconstNull X160.here hx hby at_52 ?_
      refine own_iloadN X160.here hx hby at_53 rfl ?_
      refine own_iloadN X160.here hx hby at_54 rfl ?_
      have z169 : n0 ≤ T160.heap.size := by omega
      refine own_virtual X160 hx hZ hown (own_w hw 28 rfl) (own_w hw 29 rfl) (notFace_of_selects (args := #[]) (mvT hZ (own_w hw 31 rfl))) (own_w hw 31 rfl) (own_w hw 30 rfl) (own_w hw 2 rfl) (own_w hw 32 rfl) (by decide) (start_1n l Z a0 hw [] b129 aN_151 bN_160 aS_151 bS_160 p2 p1 (0 : Int32) kaN_151 kb_160 kaS_151 kc_160 (0 : Int32) p1 (-1 : Int32) (1 : Int32) p2 (0 : Int32) (0 : Int32) T160.heap n0 z169 P160_0 P160_1 P160_10 P160_12 P160_2 P160_7 P160_11 P160_3 P160_8 P160_9 (by omega) (by omega) (by omega)) 0 (Nat.le_of_eq rfl) (by decide) (by decide) (by rw [hml]; rfl) (argsL := [.null, (.int p2), (.int p1)]) (st := []) P160_0 (lenOf pd_4 rfl) rfl rfl (by decide) (by decide) rfl hby at_55 ?_
      intro T168 v168 L168 X168 hQ168
      obtain ⟨rfl, Nq168, K168, P168_0, P168_1, P168_2, P168_3, P168_4, P168_5, P168_6⟩ := hQ168
      have N168 := Fr.app N160 Nq168
      have z170 : T160.heap.size ≤ T168.heap.size := K168.1
      have lt171 : T168.heap.size > b129 := P168_0.lt
      have lt172 : T168.heap.size > bN_160 := P168_5.lt
      have lt173 : T168.heap.size > bS_160 := P168_6.lt
      refine own_sh (T := T168) 58 #[.val (.int p1), .val (.int p2), .val (.int p3), .val (.int p4), .val (.int p5), .val (.int 1), .val (.int 0), .val (.ref b129), .val (.int 0), .unset, .unset, .unset, .unset, .unset, .unset, .unset] [(.int 1)] ?_
      refine own_istore X168.here hx hby at_58 (l' := #[.val (.int p1), .val (.int p2), .val (.int p3), .val (.int p4), .val (.int p5), .val (.int 1), .val (.int 0), .val (.ref b129), .val (.int 0), .val (.int 1), .unset, .unset, .unset, .unset, .unset, .unset]) rfl ?_
      refine own_iload X168.here hx hby at_60 rfl ?_
      refine own_ifNo X168.here hx hby at_62 ((if0 _ _).trans (feq (show ¬ ((1 : Int32) = (0 : Int32)) from (by decide))).1) ?_
      refine own_aload X168.here hx hby at_65 rfl rfl ?_
      refine own_iloadN X168.here hx hby at_67 rfl ?_
      refine own_iloadN X168.here hx hby at_68 rfl ?_
      have f174 : Arv Z T168.heap aN_151 kaN_151 (.array .int) (1 : Int32) [(.ref bN_160)] .null := (P160_2.keep K168 (ninS (own_nn (by omega)) (ninS (own_nn (by omega)) (ninS (own_nn (by omega)) nin0))))
      have z176 : n0 ≤ T168.heap.size := by omega
      refine own_virtual X168 hx hZ hown (own_w hw 84 rfl) (own_w hw 85 rfl) (notFace_of_selects (args := #[]) (mvT hZ (own_w hw 87 rfl))) (own_w hw 87 rfl) (own_w hw 86 rfl) (own_w hw 2 rfl) (own_w hw 88 rfl) (by decide) (verb_2 l Z a0 hw [] b129 aN_151 bN_160 p4 p3 (0 : Int32) kaN_151 kb_160 (0 : Int32) p1 (-1 : Int32) (1 : Int32) p2 (0 : Int32) (0 : Int32) (0 : Int32) p2 (-1 : Int32) (2 : Int32) p1 (0 : Int32) (0 : Int32) aS_151 T168.heap n0 z176 P168_0 P168_1 P168_2 P168_4 f174 P168_5 (by omega) (by omega) P168_3) 0 (Nat.le_of_eq rfl) (by decide) (by decide) (by rw [hml]; rfl) (argsL := [(.int p4), (.int p3)]) (st := []) P168_0 (lenOf pd_6 rfl) rfl rfl (by decide) (by decide) rfl hby at_69 ?_
      intro T175 v175 L175 X175 hQ175
      obtain ⟨rfl, Nq175, K175, P175_0, P175_1, P175_2, P175_3, P175_4, P175_5⟩ := hQ175
      have N175 := Fr.app N168 Nq175
      have z177 : T168.heap.size ≤ T175.heap.size := K175.1
      have lt178 : T175.heap.size > b129 := P175_0.lt
      have lt179 : T175.heap.size > bN_160 := P175_4.lt
      refine own_sh (T := T175) 72 #[.val (.int p1), .val (.int p2), .val (.int p3), .val (.int p4), .val (.int p5), .val (.int 1), .val (.int 0), .val (.ref b129), .val (.int 0), .val (.int 1), .unset, .unset, .unset, .unset, .unset, .unset] [] ?_
      refine own_iload X175.here hx hby at_72 rfl ?_
      refine own_ifYes X175.here hx hby (pc' := 82) at_74 ((if0 _ _).trans (teq (show (0 : Int32) = (0 : Int32) from (by decide))).1) (by decide) (by decide) ?_
      refine own_iload X175.here hx hby at_82 rfl ?_
      refine own_istore X175.here hx hby at_84 (l' := #[.val (.int p1), .val (.int p2), .val (.int p3), .val (.int p4), .val (.int p5), .val (.int 1), .val (.int 0), .val (.ref b129), .val (.int 0), .val (.int 1), .val (.int 0), .unset, .unset, .unset, .unset, .unset]) rfl ?_
      refine own_iload X175.here hx hby at_86 rfl ?_
      refine own_ifYes X175.here hx hby (pc' := 96) at_88 ((if0 _ _).trans (teq (show (0 : Int32) = (0 : Int32) from (by decide))).1) (by decide) (by decide) ?_
      refine own_iload X175.here hx hby at_96 rfl ?_
      refine own_istore X175.here hx hby at_98 (l' := #[.val (.int p1), .val (.int p2), .val (.int p3), .val (.int p4), .val (.int p5), .val (.int 1), .val (.int 0), .val (.ref b129), .val (.int 0), .val (.int 1), .val (.int 0), .val (.int 1), .unset, .unset, .unset, .unset]) rfl ?_
      refine own_iload X175.here hx hby at_100 rfl ?_
      refine own_ifNo X175.here hx hby at_102 ((if0 _ _).trans (feq (show ¬ ((1 : Int32) = (0 : Int32)) from (by decide))).1) ?_
      refine own_iconst X175.here hx hby at_105 (v := (3 : Int32)) (by decide) ?_
      refine own_goto X175.here hx hby (pc' := 110) at_106 (by decide) (by decide) ?_
      refine own_istore X175.here hx hby at_110 (l' := #[.val (.int p1), .val (.int p2), .val (.int p3), .val (.int p4), .val (.int p5), .val (.int 1), .val (.int 0), .val (.ref b129), .val (.int 0), .val (.int 1), .val (.int 0), .val (.int 1), .val (.int 3), .unset, .unset, .unset]) rfl ?_
      refine own_iload X175.here hx hby at_112 rfl ?_
      refine own_ifYes X175.here hx hby (pc' := 121) at_114 ((if0 _ _).trans (teq (show (0 : Int32) = (0 : Int32) from (by decide))).1) (by decide) (by decide) ?_
      refine own_iloadN X175.here hx hby at_121 rfl ?_
      refine own_istore X175.here hx hby at_122 (l' := #[.val (.int p1), .val (.int p2), .val (.int p3), .val (.int p4), .val (.int p5), .val (.int 1), .val (.int 0), .val (.ref b129), .val (.int 0), .val (.int 1), .val (.int 0), .val (.int 1), .val (.int 3), .val (.int p1), .unset, .unset]) rfl ?_
      refine own_iload X175.here hx hby at_124 rfl ?_
      refine own_ifYes X175.here hx hby (pc' := 133) at_126 ((if0 _ _).trans (teq (show (0 : Int32) = (0 : Int32) from (by decide))).1) (by decide) (by decide) ?_
      refine own_iloadN X175.here hx hby at_133 rfl ?_
      refine own_istore X175.here hx hby at_134 (l' := #[.val (.int p1), .val (.int p2), .val (.int p3), .val (.int p4), .val (.int p5), .val (.int 1), .val (.int 0), .val (.ref b129), .val (.int 0), .val (.int 1), .val (.int 0), .val (.int 1), .val (.int 3), .val (.int p1), .val (.int p2), .unset]) rfl ?_
      refine own_aload X175.here hx hby at_136 rfl rfl ?_
      refine own_iload X175.here hx hby at_138 rfl ?_
      refine own_iloadN X175.here hx hby at_140 rfl ?_
      refine own_iloadN X175.here hx hby at_141 rfl ?_
      have f180 : Arv Z T175.heap aN_151 kaN_151 (.array .int) (1 : Int32) [(.ref bN_160)] .null := (f174.keep K175 (ninS (own_nn (by omega)) (ninS (own_nn (by omega)) nin0)))
      have z182 : n0 ≤ T175.heap.size := by omega
      refine own_virtual X175 hx hZ hown (own_w hw 50 rfl) (own_w hw 51 rfl) (notFace_of_selects (args := #[]) (mvT hZ (own_w hw 53 rfl))) (own_w hw 53 rfl) (own_w hw 52 rfl) (own_w hw 2 rfl) (own_w hw 54 rfl) (by decide) (endE_0_3 l Z a0 hw [] b129 aN_151 bN_160 p3 p4 (0 : Int32) kaN_151 kb_160 (0 : Int32) p1 (-1 : Int32) (1 : Int32) p2 (0 : Int32) (0 : Int32) (0 : Int32) p2 (-1 : Int32) (2 : Int32) p1 (0 : Int32) (0 : Int32) (2 : Int32) p4 p3 (3 : Int32) (0 : Int32) (0 : Int32) (0 : Int32) T175.heap n0 z182 P175_0 P175_1 P175_2 P175_3 f180 P175_4 (by omega)) 0 (Nat.le_of_eq rfl) (by decide) (by decide) (by rw [hml]; rfl) (argsL := [(.int 0), (.int p3), (.int p4)]) (st := []) P175_0 (lenOf pd_1 rfl) rfl rfl (by decide) (by decide) rfl hby at_142 ?_
      intro T181 v181 L181 X181 hQ181
      obtain ⟨rfl, Nq181, K181, P181_0⟩ := hQ181
      have N181 := Fr.app N175 Nq181
      have z183 : T175.heap.size ≤ T181.heap.size := K181.1
      have lt184 : T181.heap.size > bN_160 := P181_0.lt
      refine own_sh (T := T181) 145 #[.val (.int p1), .val (.int p2), .val (.int p3), .val (.int p4), .val (.int p5), .val (.int 1), .val (.int 0), .val (.ref b129), .val (.int 0), .val (.int 1), .val (.int 0), .val (.int 1), .val (.int 3), .val (.int p1), .val (.int p2), .unset] [] ?_
      refine own_aload X181.here hx hby at_145 rfl rfl ?_
      refine own_iload X181.here hx hby at_147 rfl ?_
      have f185 : Exa Z T181.heap b129 "com/example/boxwood/boxwood/XmlNodeTable" := (P175_0.keep K181)
      have f186 : Fld Z T181.heap b129 "com/example/boxwood/boxwood/XmlNodeTable" "numbers" "[[I" (.ref aN_151) := (P175_2.keep K181 (ninS (own_nn (by omega)) nin0))
      have f187 : Arv Z T181.heap aN_151 kaN_151 (.array .int) (1 : Int32) [(.ref bN_160)] .null := (f180.keep K181 (ninS (own_nn (by omega)) nin0))
      have z189 : n0 ≤ T181.heap.size := by omega
      refine own_virtual X181 hx hZ hown (own_w hw 55 rfl) (own_w hw 56 rfl) (notFace_of_selects (args := #[]) (mvT hZ (own_w hw 58 rfl))) (own_w hw 58 rfl) (own_w hw 57 rfl) (own_w hw 2 rfl) (own_w hw 59 rfl) (by decide) (contentEnd_0_21 l Z a0 hw [] b129 aN_151 bN_160 kaN_151 kb_160 (0 : Int32) p1 p4 (3 : Int32) p2 p3 (0 : Int32) (0 : Int32) p2 (-1 : Int32) (2 : Int32) p1 (0 : Int32) (0 : Int32) (2 : Int32) p4 p3 (3 : Int32) (0 : Int32) (0 : Int32) (0 : Int32) T181.heap n0 z189 f185 f186 f187 P181_0) 0 (Nat.le_of_eq rfl) (by decide) (by decide) (by rw [hml]; rfl) (argsL := [(.int 0)]) (st := []) f185 (lenOf pd_5 rfl) rfl rfl (by decide) (by decide) rfl hby at_149 ?_
      intro T188 v188 L188 X188 hQ188
      obtain ⟨rfl, Nq188, eh188⟩ := hQ188
      have N188 := Fr.app N181 Nq188
      refine own_sh (T := T188) 152 #[.val (.int p1), .val (.int p2), .val (.int p3), .val (.int p4), .val (.int p5), .val (.int 1), .val (.int 0), .val (.ref b129), .val (.int 0), .val (.int 1), .val (.int 0), .val (.int 1), .val (.int 3), .val (.int p1), .val (.int p2), .unset] [(.int p3)] ?_
      refine own_iloadN X188.here hx hby at_152 rfl ?_
      refine own_icmpNo X188.here hx hby at_153 (teq (show p3 = p3 from rfl)).2 ?_
      refine own_iconst X188.here hx hby at_156 (v := (1 : Int32)) (by decide) ?_
      refine own_goto X188.here hx hby (pc' := 161) at_157 (by decide) (by decide) ?_
      refine own_istore X188.here hx hby at_161 (l' := #[.val (.int p1), .val (.int p2), .val (.int p3), .val (.int p4), .val (.int p5), .val (.int 1), .val (.int 0), .val (.ref b129), .val (.int 0), .val (.int 1), .val (.int 0), .val (.int 1), .val (.int 3), .val (.int p1), .val (.int p2), .val (.int 1)]) rfl ?_
      refine own_iload X188.here hx hby at_163 rfl ?_
      refine own_ifNo X188.here hx hby at_165 ((if0 _ _).trans (feq (show ¬ ((1 : Int32) = (0 : Int32)) from (by decide))).1) ?_
      refine own_aload X188.here hx hby at_168 rfl rfl ?_
      refine own_iload X188.here hx hby at_170 rfl ?_
      refine own_virtual X188 hx hZ hown (own_w hw 64 rfl) (own_w hw 65 rfl) (notFace_of_selects (args := #[]) (mvT hZ (own_w hw 67 rfl))) (own_w hw 67 rfl) (own_w hw 66 rfl) (own_w hw 2 rfl) (own_w hw 68 rfl) (by decide) (end_0_21 l Z a0 hw [] b129 aN_151 bN_160 kaN_151 kb_160 (0 : Int32) p1 p4 (3 : Int32) p2 p3 (0 : Int32) (0 : Int32) p2 (-1 : Int32) (2 : Int32) p1 (0 : Int32) (0 : Int32) (2 : Int32) p4 p3 (3 : Int32) (0 : Int32) (0 : Int32) (0 : Int32) T181.heap n0 z189 f185 f186 f187 P181_0) 0 (Nat.le_of_eq rfl) (by decide) (by decide) (by rw [hml]; rfl) (argsL := [(.int 0)]) (st := []) f185 (lenOf pd_5 rfl) rfl rfl (by decide) (by decide) eh188 hby at_172 ?_
      intro T190 v190 L190 X190 hQ190
      obtain ⟨rfl, Nq190, eh190⟩ := hQ190
      have N190 := Fr.app N188 Nq190
      refine own_sh (T := T190) 175 #[.val (.int p1), .val (.int p2), .val (.int p3), .val (.int p4), .val (.int p5), .val (.int 1), .val (.int 0), .val (.ref b129), .val (.int 0), .val (.int 1), .val (.int 0), .val (.int 1), .val (.int 3), .val (.int p1), .val (.int p2), .val (.int 1)] [(.int p4)] ?_
      refine own_iloadN X190.here hx hby at_175 rfl ?_
      refine own_icmpNo X190.here hx hby at_176 (teq (show p4 = p4 from rfl)).2 ?_
      refine own_iconst X190.here hx hby at_179 (v := (1 : Int32)) (by decide) ?_
      refine own_goto X190.here hx hby (pc' := 184) at_180 (by decide) (by decide) ?_
      refine own_istore X190.here hx hby at_184 (l' := #[.val (.int p1), .val (.int p2), .val (.int p3), .val (.int p4), .val (.int p5), .val (.int 1), .val (.int 0), .val (.ref b129), .val (.int 0), .val (.int 1), .val (.int 0), .val (.int 1), .val (.int 3), .val (.int p1), .val (.int p2), .val (.int 1)]) rfl ?_
      refine own_iload X190.here hx hby at_186 rfl ?_
      refine own_ifNo X190.here hx hby at_188 ((if0 _ _).trans (feq (show ¬ ((1 : Int32) = (0 : Int32)) from (by decide))).1) ?_
      refine own_aload X190.here hx hby at_191 rfl rfl ?_
      refine own_iload X190.here hx hby at_193 rfl ?_
      refine own_virtual X190 hx hZ hown (own_w hw 69 rfl) (own_w hw 70 rfl) (notFace_of_selects (args := #[]) (mvT hZ (own_w hw 72 rfl))) (own_w hw 72 rfl) (own_w hw 71 rfl) (own_w hw 2 rfl) (own_w hw 73 rfl) (by decide) (next_0_21 l Z a0 hw [] b129 aN_151 bN_160 kaN_151 kb_160 (0 : Int32) p1 p4 (3 : Int32) p2 p3 (0 : Int32) (0 : Int32) p2 (-1 : Int32) (2 : Int32) p1 (0 : Int32) (0 : Int32) (2 : Int32) p4 p3 (3 : Int32) (0 : Int32) (0 : Int32) (0 : Int32) T181.heap n0 z189 f185 f186 f187 P181_0) 0 (Nat.le_of_eq rfl) (by decide) (by decide) (by rw [hml]; rfl) (argsL := [(.int 0)]) (st := []) f185 (lenOf pd_5 rfl) rfl rfl (by decide) (by decide) eh190 hby at_195 ?_
      intro T191 v191 L191 X191 hQ191
      obtain ⟨rfl, Nq191, eh191⟩ := hQ191
      have N191 := Fr.app N190 Nq191
      refine own_sh (T := T191) 198 #[.val (.int p1), .val (.int p2), .val (.int p3), .val (.int p4), .val (.int p5), .val (.int 1), .val (.int 0), .val (.ref b129), .val (.int 0), .val (.int 1), .val (.int 0), .val (.int 1), .val (.int 3), .val (.int p1), .val (.int p2), .val (.int 1)] [(.int 3)] ?_
      refine own_iload X191.here hx hby at_198 rfl ?_
      refine own_icmpNo X191.here hx hby at_200 (teq (show (3 : Int32) = (3 : Int32) from (by decide))).2 ?_
      refine own_iconst X191.here hx hby at_203 (v := (1 : Int32)) (by decide) ?_
      refine own_goto X191.here hx hby (pc' := 208) at_204 (by decide) (by decide) ?_
      refine own_istore X191.here hx hby at_208 (l' := #[.val (.int p1), .val (.int p2), .val (.int p3), .val (.int p4), .val (.int p5), .val (.int 1), .val (.int 0), .val (.ref b129), .val (.int 0), .val (.int 1), .val (.int 0), .val (.int 1), .val (.int 3), .val (.int p1), .val (.int p2), .val (.int 1)]) rfl ?_
      refine own_iload X191.here hx hby at_210 rfl ?_
      refine own_ifNo X191.here hx hby at_212 ((if0 _ _).trans (feq (show ¬ ((1 : Int32) = (0 : Int32)) from (by decide))).1) ?_
      refine own_aload X191.here hx hby at_215 rfl rfl ?_
      refine own_iload X191.here hx hby at_217 rfl ?_
      refine own_virtual X191 hx hZ hown (own_w hw 74 rfl) (own_w hw 75 rfl) (notFace_of_selects (args := #[]) (mvT hZ (own_w hw 77 rfl))) (own_w hw 77 rfl) (own_w hw 76 rfl) (own_w hw 2 rfl) (own_w hw 78 rfl) (by decide) (start_0_21 l Z a0 hw [] b129 aN_151 bN_160 kaN_151 kb_160 (0 : Int32) p1 p4 (3 : Int32) p2 p3 (0 : Int32) (0 : Int32) p2 (-1 : Int32) (2 : Int32) p1 (0 : Int32) (0 : Int32) (2 : Int32) p4 p3 (3 : Int32) (0 : Int32) (0 : Int32) (0 : Int32) T181.heap n0 z189 f185 f186 f187 P181_0) 0 (Nat.le_of_eq rfl) (by decide) (by decide) (by rw [hml]; rfl) (argsL := [(.int 0)]) (st := []) f185 (lenOf pd_5 rfl) rfl rfl (by decide) (by decide) eh191 hby at_219 ?_
      intro T192 v192 L192 X192 hQ192
      obtain ⟨rfl, Nq192, eh192⟩ := hQ192
      have N192 := Fr.app N191 Nq192
      refine own_sh (T := T192) 222 #[.val (.int p1), .val (.int p2), .val (.int p3), .val (.int p4), .val (.int p5), .val (.int 1), .val (.int 0), .val (.ref b129), .val (.int 0), .val (.int 1), .val (.int 0), .val (.int 1), .val (.int 3), .val (.int p1), .val (.int p2), .val (.int 1)] [(.int p1)] ?_
      refine own_iload X192.here hx hby at_222 rfl ?_
      refine own_icmpNo X192.here hx hby at_224 (teq (show p1 = p1 from rfl)).2 ?_
      refine own_iconst X192.here hx hby at_227 (v := (1 : Int32)) (by decide) ?_
      refine own_goto X192.here hx hby (pc' := 232) at_228 (by decide) (by decide) ?_
      refine own_istore X192.here hx hby at_232 (l' := #[.val (.int p1), .val (.int p2), .val (.int p3), .val (.int p4), .val (.int p5), .val (.int 1), .val (.int 0), .val (.ref b129), .val (.int 0), .val (.int 1), .val (.int 0), .val (.int 1), .val (.int 3), .val (.int p1), .val (.int p2), .val (.int 1)]) rfl ?_
      refine own_iload X192.here hx hby at_234 rfl ?_
      refine own_ifNo X192.here hx hby at_236 ((if0 _ _).trans (feq (show ¬ ((1 : Int32) = (0 : Int32)) from (by decide))).1) ?_
      refine own_aload X192.here hx hby at_239 rfl rfl ?_
      refine own_iload X192.here hx hby at_241 rfl ?_
      refine own_virtual X192 hx hZ hown (own_w hw 79 rfl) (own_w hw 80 rfl) (notFace_of_selects (args := #[]) (mvT hZ (own_w hw 82 rfl))) (own_w hw 82 rfl) (own_w hw 81 rfl) (own_w hw 2 rfl) (own_w hw 83 rfl) (by decide) (contentStart_0_21 l Z a0 hw [] b129 aN_151 bN_160 kaN_151 kb_160 (0 : Int32) p1 p4 (3 : Int32) p2 p3 (0 : Int32) (0 : Int32) p2 (-1 : Int32) (2 : Int32) p1 (0 : Int32) (0 : Int32) (2 : Int32) p4 p3 (3 : Int32) (0 : Int32) (0 : Int32) (0 : Int32) T181.heap n0 z189 f185 f186 f187 P181_0) 0 (Nat.le_of_eq rfl) (by decide) (by decide) (by rw [hml]; rfl) (argsL := [(.int 0)]) (st := []) f185 (lenOf pd_5 rfl) rfl rfl (by decide) (by decide) eh192 hby at_243 ?_
      intro T193 v193 L193 X193 hQ193
      obtain ⟨rfl, Nq193, eh193⟩ := hQ193
      have N193 := Fr.app N192 Nq193
      refine own_sh (T := T193) 246 #[.val (.int p1), .val (.int p2), .val (.int p3), .val (.int p4), .val (.int p5), .val (.int 1), .val (.int 0), .val (.ref b129), .val (.int 0), .val (.int 1), .val (.int 0), .val (.int 1), .val (.int 3), .val (.int p1), .val (.int p2), .val (.int 1)] [(.int p2)] ?_
      refine own_iload X193.here hx hby at_246 rfl ?_
      refine own_icmpNo X193.here hx hby at_248 (teq (show p2 = p2 from rfl)).2 ?_
      refine own_iconst X193.here hx hby at_251 (v := (1 : Int32)) (by decide) ?_
      refine own_goto X193.here hx hby (pc' := 256) at_252 (by decide) (by decide) ?_
      refine own_istore X193.here hx hby at_256 (l' := #[.val (.int p1), .val (.int p2), .val (.int p3), .val (.int p4), .val (.int p5), .val (.int 1), .val (.int 0), .val (.ref b129), .val (.int 0), .val (.int 1), .val (.int 0), .val (.int 1), .val (.int 3), .val (.int p1), .val (.int p2), .val (.int 1)]) rfl ?_
      refine own_iload X193.here hx hby at_258 rfl ?_
      refine own_ifNo X193.here hx hby at_260 ((if0 _ _).trans (feq (show ¬ ((1 : Int32) = (0 : Int32)) from (by decide))).1) ?_
      refine own_aload X193.here hx hby at_263 rfl rfl ?_
      refine own_iload X193.here hx hby at_265 rfl ?_
      refine own_virtual X193 hx hZ hown (own_w hw 64 rfl) (own_w hw 65 rfl) (notFace_of_selects (args := #[]) (mvT hZ (own_w hw 67 rfl))) (own_w hw 67 rfl) (own_w hw 66 rfl) (own_w hw 2 rfl) (own_w hw 68 rfl) (by decide) (end_1_21 l Z a0 hw [] b129 aN_151 bN_160 kaN_151 kb_160 (0 : Int32) p1 p4 (3 : Int32) p2 p3 (0 : Int32) (0 : Int32) p2 (-1 : Int32) (2 : Int32) p1 (0 : Int32) (0 : Int32) (2 : Int32) p4 p3 (3 : Int32) (0 : Int32) (0 : Int32) (0 : Int32) T181.heap n0 z189 f185 f186 f187 P181_0) 0 (Nat.le_of_eq rfl) (by decide) (by decide) (by rw [hml]; rfl) (argsL := [(.int 1)]) (st := []) f185 (lenOf pd_5 rfl) rfl rfl (by decide) (by decide) eh193 hby at_267 ?_
      intro T194 v194 L194 X194 hQ194
      obtain ⟨rfl, Nq194, eh194⟩ := hQ194
      have N194 := Fr.app N193 Nq194
      refine own_sh (T := T194) 270 #[.val (.int p1), .val (.int p2), .val (.int p3), .val (.int p4), .val (.int p5), .val (.int 1), .val (.int 0), .val (.ref b129), .val (.int 0), .val (.int 1), .val (.int 0), .val (.int 1), .val (.int 3), .val (.int p1), .val (.int p2), .val (.int 1)] [(.int (-1))] ?_
      refine own_iconst X194.here hx hby at_270 (v := (-1 : Int32)) (by decide) ?_
      refine own_icmpNo X194.here hx hby at_271 (teq (show (-1 : Int32) = (-1 : Int32) from (by decide))).2 ?_
      refine own_iconst X194.here hx hby at_274 (v := (1 : Int32)) (by decide) ?_
      refine own_goto X194.here hx hby (pc' := 279) at_275 (by decide) (by decide) ?_
      refine own_istore X194.here hx hby at_279 (l' := #[.val (.int p1), .val (.int p2), .val (.int p3), .val (.int p4), .val (.int p5), .val (.int 1), .val (.int 0), .val (.ref b129), .val (.int 0), .val (.int 1), .val (.int 0), .val (.int 1), .val (.int 3), .val (.int p1), .val (.int p2), .val (.int 1)]) rfl ?_
      refine own_iload X194.here hx hby at_281 rfl ?_
      obtain ⟨fs, hr, hrun, hended, hW, hsame⟩ := X194.leave (v := some (.int 1)) (fun h => by rw [Bd.returns] at h; cases h)
      refine own_ret (t := T194.setFrames fs) ?_ ⟨_, hrun, hended, _, _, rfl, ?_, ⟨_, rfl⟩, hW, hsame.mono (by decide) (by decide)⟩
      · exact retN X194 hx (t := .boolean) Bd.returns (by simp) (hb hby at_283) hr
      · show Q_rm0 Z p1 p2 p3 p4 p5 h0 n0 _ T194.heap _
        rw [eh194]
        exact ⟨rfl, N194, trivial⟩
    · refine own_ifNo X0.here hx hby at_18 ((if0 _ _).trans (feq hc18_128).1) ?_
      refine own_iconst X0.here hx hby at_21 (v := (1 : Int32)) (by decide) ?_
      refine own_goto X0.here hx hby (pc' := 26) at_22 (by decide) (by decide) ?_
      refine own_istore X0.here hx hby at_26 (l' := #[.val (.int p1), .val (.int p2), .val (.int p3), .val (.int p4), .val (.int p5), .val (.int 1), .val (.int 1), .unset, .unset, .unset, .unset, .unset, .unset, .unset, .unset, .unset]) rfl ?_
      refine own_newO X0 hx hZ hown (own_w hw 0 rfl) (own_w hw 1 rfl) (own_w hw 2 rfl) e0 hby at_28 (by decide) (by decide) ?_
      intro T195 h195 b195 X195 e195 E195 g195 A195 D195 lt195
      have z196 : h0.size ≤ h195.size := E195.1
      have F197 : Fld Z h195 b195 "com/example/boxwood/boxwood/XmlNodeTable" "numbers" "[[I" .null := D195 (Or.inl (own_w hw 13 rfl)) (ty := (.array (.array .int))) (by decide)
      have F198 : Fld Z h195 b195 "com/example/boxwood/boxwood/XmlNodeTable" "strings" "[[Ljava/lang/String;" .null := D195 (Or.inl (own_w hw 17 rfl)) (ty := (.array (.array (.object "java/lang/String")))) (by decide)
      have F199 : Fld Z h195 b195 "com/example/boxwood/boxwood/XmlNodeTable" "attributeNumbers" "[[I" .null := D195 (Or.inl (own_w hw 19 rfl)) (ty := (.array (.array .int))) (by decide)
      have F200 : Fld Z h195 b195 "com/example/boxwood/boxwood/XmlNodeTable" "attributeNames" "[[Ljava/lang/String;" .null := D195 (Or.inl (own_w hw 21 rfl)) (ty := (.array (.array (.object "java/lang/String")))) (by decide)
      have F201 : Fld Z h195 b195 "com/example/boxwood/boxwood/XmlNodeTable" "attributeValues" "[[Lcom/example/boxwood/boxwood/XmlValue;" .null := D195 (Or.inl (own_w hw 25 rfl)) (ty := (.array (.array (.object "com/example/boxwood/boxwood/XmlValue")))) (by decide)
      have F202 : Fld Z h195 b195 "com/example/boxwood/boxwood/XmlNodeTable" "content" "[B" .null := D195 (Or.inr (own_w hw 27 rfl)) (ty := (.array .byte)) (by decide)
      have F203 : Fld Z h195 b195 "com/example/boxwood/boxwood/XmlNodeTable" "size" "I" (.int 0) := D195 (Or.inl (own_w hw 38 rfl)) (ty := .int) (by decide)
      have F204 : Fld Z h195 b195 "com/example/boxwood/boxwood/XmlNodeTable" "attributeCount" "I" (.int 0) := D195 (Or.inl (own_w hw 45 rfl)) (ty := .int) (by decide)
      refine own_dup X195.here hx hby at_31 rfl ?_
      refine own_iconst X195.here hx hby at_32 (v := (0 : Int32)) (by decide) ?_
      refine own_newP X195 hx hZ (aty := .byte) (own_w hw 3 rfl) e195 hby at_33 (by decide) 0 (by decide) (by decide) (by decide) (by decide) (ad := "[B") (by decide) ?_
      intro T205 h205 k205 b205 X205 e205 E205 g205 V205 C205 lt205
      have z206 : h195.size ≤ h205.size := E205.1
      have V207 : Arv Z h205 b205 k205 .byte (0 : Int32) [] (.int 0) := V205
      have f208 : Exa Z h205 b195 "com/example/boxwood/boxwood/XmlNodeTable" := (A195.ext E205)
      have f209 : Fld Z h205 b195 "com/example/boxwood/boxwood/XmlNodeTable" "content" "[B" .null := (F202.ext E205)
      have f210 : Fld Z h205 b195 "com/example/boxwood/boxwood/XmlNodeTable" "numbers" "[[I" .null := (F197.ext E205)
      have f211 : Fld Z h205 b195 "com/example/boxwood/boxwood/XmlNodeTable" "strings" "[[Ljava/lang/String;" .null := (F198.ext E205)
      have f212 : Fld Z h205 b195 "com/example/boxwood/boxwood/XmlNodeTable" "attributeNumbers" "[[I" .null := (F199.ext E205)
      have f213 : Fld Z h205 b195 "com/example/boxwood/boxwood/XmlNodeTable" "attributeNames" "[[Ljava/lang/String;" .null := (F200.ext E205)
      have f214 : Fld Z h205 b195 "com/example/boxwood/boxwood/XmlNodeTable" "attributeValues" "[[Lcom/example/boxwood/boxwood/XmlValue;" .null := (F201.ext E205)
      have f215 : Fld Z h205 b195 "com/example/boxwood/boxwood/XmlNodeTable" "size" "I" (.int 0) := (F203.ext E205)
      have f216 : Fld Z h205 b195 "com/example/boxwood/boxwood/XmlNodeTable" "attributeCount" "I" (.int 0) := (F204.ext E205)
      have z218 : n0 ≤ h205.size := by omega
      refine own_special X205 hx hZ rfl hown (own_w hw 4 rfl) (own_w hw 5 rfl) (own_w hw 2 rfl) (own_w hw 6 rfl) (by decide) (tabInit l Z a0 hw [] b195 b205 h205 n0 z218 f208 f209 (by omega) f210 f211 f212 f213 f214 f215 f216) 1 (Nat.le_of_eq rfl) (by decide) (by decide) (by rw [hml]; rfl) (argsL := [(.ref b205)]) (st := [(.ref b195)]) (a := b195) (lenOf pd_3 rfl) rfl rfl (by decide) (by decide) e205 hby at_35 ?_
      intro T217 v217 L217 X217 hQ217
      obtain ⟨aN_217, kaN_217, aS_217, kaS_217, aA_217, kaA_217, aM_217, kaM_217, aW_217, kaW_217, rfl, Nq217, K217, P217_0, P217_1, P217_2, P217_3, P217_4, P217_5, P217_6, P217_7, P217_8, P217_9, P217_10, P217_11, P217_12, P217_13, P217_14, P217_15, P217_16, P217_17, P217_18, P217_19, P217_20, P217_21, P217_22, P217_23, P217_24, P217_25, P217_26⟩ := hQ217
      have N217 := Fr.app N0 Nq217
      have z219 : h205.size ≤ T217.heap.size := K217.1
      have lt220 : T217.heap.size > b195 := P217_0.lt
      have lt221 : T217.heap.size > aN_217 := P217_5.lt
      have lt222 : T217.heap.size > aS_217 := P217_9.lt
      have lt223 : T217.heap.size > aA_217 := P217_13.lt
      have lt224 : T217.heap.size > aM_217 := P217_17.lt
      have lt225 : T217.heap.size > aW_217 := P217_21.lt
      refine own_sh (T := T217) 38 #[.val (.int p1), .val (.int p2), .val (.int p3), .val (.int p4), .val (.int p5), .val (.int 1), .val (.int 1), .unset, .unset, .unset, .unset, .unset, .unset, .unset, .unset, .unset] [(.ref b195)] ?_
      refine own_astore X217.here hx hby at_38 rfl (l' := #[.val (.int p1), .val (.int p2), .val (.int p3), .val (.int p4), .val (.int p5), .val (.int 1), .val (.int 1), .val (.ref b195), .unset, .unset, .unset, .unset, .unset, .unset, .unset, .unset]) rfl ?_
      refine own_aload X217.here hx hby at_40 rfl rfl ?_
      refine own_aconstNull X217.here hx hby at_42 ?_
      refine own_iloadN X217.here hx hby at_43 rfl ?_
      refine own_iloadN X217.here hx hby at_44 rfl ?_
      have z227 : n0 ≤ T217.heap.size := by omega
      refine own_virtual X217 hx hZ hown (own_w hw 28 rfl) (own_w hw 29 rfl) (notFace_of_selects (args := #[]) (mvT hZ (own_w hw 31 rfl))) (own_w hw 31 rfl) (own_w hw 30 rfl) (own_w hw 2 rfl) (own_w hw 32 rfl) (by decide) (start_0n l Z a0 hw [] b195 aN_217 aS_217 p1 p2 (0 : Int32) kaN_217 kaS_217 T217.heap n0 z227 P217_0 P217_1 P217_4 P217_2 P217_5 P217_8 P217_9 P217_6 P217_10 (by omega) (by omega) (by omega)) 0 (Nat.le_of_eq rfl) (by decide) (by decide) (by rw [hml]; rfl) (argsL := [.null, (.int p1), (.int p2)]) (st := []) P217_0 (lenOf pd_4 rfl) rfl rfl (by decide) (by decide) rfl hby at_45 ?_
      intro T226 v226 L226 X226 hQ226
      obtain ⟨bN_226, bS_226, kb_226, kc_226, rfl, Nq226, K226, P226_0, P226_1, P226_2, P226_3, P226_4, P226_5, P226_6, P226_7, P226_8, P226_9, P226_10, P226_11, P226_12⟩ := hQ226
      have N226 := Fr.app N217 Nq226
      have z228 : T217.heap.size ≤ T226.heap.size := K226.1
      have lt229 : T226.heap.size > b195 := P226_0.lt
      have lt230 : T226.heap.size > aN_217 := P226_2.lt
      have lt231 : T226.heap.size > aS_217 := P226_3.lt
      have lt232 : T226.heap.size > bN_226 := P226_7.lt
      have lt233 : T226.heap.size > bS_226 := P226_8.lt
      refine own_sh (T := T226) 48 #[.val (.int p1), .val (.int p2), .val (.int p3), .val (.int p4), .val (.int p5), .val (.int 1), .val (.int 1), .val (.ref b195), .unset, .unset, .unset, .unset, .unset, .unset, .unset, .unset] [(.int 0)] ?_
      refine own_istore X226.here hx hby at_48 (l' := #[.val (.int p1), .val (.int p2), .val (.int p3), .val (.int p4), .val (.int p5), .val (.int 1), .val (.int 1), .val (.ref b195), .val (.int 0), .unset, .unset, .unset, .unset, .unset, .unset, .unset]) rfl ?_
      refine own_aload X226.here hx hby at_50 rfl rfl ?_
      refine own_aconstNull X226.here hx hby at_52 ?_
      refine own_iloadN X226.here hx hby at_53 rfl ?_
      refine own_iloadN X226.here hx hby at_54 rfl ?_
      have z235 : n0 ≤ T226.heap.size := by omega
      refine own_virtual X226 hx hZ hown (own_w hw 28 rfl) (own_w hw 29 rfl) (notFace_of_selects (args := #[]) (mvT hZ (own_w hw 31 rfl))) (own_w hw 31 rfl) (own_w hw 30 rfl) (own_w hw 2 rfl) (own_w hw 32 rfl) (by decide) (start_1n l Z a0 hw [] b195 aN_217 bN_226 aS_217 bS_226 p2 p1 (0 : Int32) kaN_217 kb_226 kaS_217 kc_226 (0 : Int32) p1 (-1 : Int32) (1 : Int32) p2 (0 : Int32) (0 : Int32) T226.heap n0 z235 P226_0 P226_1 P226_10 P226_12 P226_2 P226_7 P226_11 P226_3 P226_8 P226_9 (by omega) (by omega) (by omega)) 0 (Nat.le_of_eq rfl) (by decide) (by decide) (by rw [hml]; rfl) (argsL := [.null, (.int p2), (.int p1)]) (st := []) P226_0 (lenOf pd_4 rfl) rfl rfl (by decide) (by decide) rfl hby at_55 ?_
      intro T234 v234 L234 X234 hQ234
      obtain ⟨rfl, Nq234, K234, P234_0, P234_1, P234_2, P234_3, P234_4, P234_5, P234_6⟩ := hQ234
      have N234 := Fr.app N226 Nq234
      have z236 : T226.heap.size ≤ T234.heap.size := K234.1
      have lt237 : T234.heap.size > b195 := P234_0.lt
      have lt238 : T234.heap.size > bN_226 := P234_5.lt
      have lt239 : T234.heap.size > bS_226 := P234_6.lt
      refine own_sh (T := T234) 58 #[.val (.int p1), .val (.int p2), .val (.int p3), .val (.int p4), .val (.int p5), .val (.int 1), .val (.int 1), .val (.ref b195), .val (.int 0), .unset, .unset, .unset, .unset, .unset, .unset, .unset] [(.int 1)] ?_
      refine own_istore X234.here hx hby at_58 (l' := #[.val (.int p1), .val (.int p2), .val (.int p3), .val (.int p4), .val (.int p5), .val (.int 1), .val (.int 1), .val (.ref b195), .val (.int 0), .val (.int 1), .unset, .unset, .unset, .unset, .unset, .unset]) rfl ?_
      refine own_iload X234.here hx hby at_60 rfl ?_
      refine own_ifNo X234.here hx hby at_62 ((if0 _ _).trans (feq (show ¬ ((1 : Int32) = (0 : Int32)) from (by decide))).1) ?_
      refine own_aload X234.here hx hby at_65 rfl rfl ?_
      refine own_iloadN X234.here hx hby at_67 rfl ?_
      refine own_iloadN X234.here hx hby at_68 rfl ?_
      have f240 : Arv Z T234.heap aN_217 kaN_217 (.array .int) (1 : Int32) [(.ref bN_226)] .null := (P226_2.keep K234 (ninS (own_nn (by omega)) (ninS (own_nn (by omega)) (ninS (own_nn (by omega)) nin0))))
      have z242 : n0 ≤ T234.heap.size := by omega
      refine own_virtual X234 hx hZ hown (own_w hw 84 rfl) (own_w hw 85 rfl) (notFace_of_selects (args := #[]) (mvT hZ (own_w hw 87 rfl))) (own_w hw 87 rfl) (own_w hw 86 rfl) (own_w hw 2 rfl) (own_w hw 88 rfl) (by decide) (verb_2 l Z a0 hw [] b195 aN_217 bN_226 p4 p3 (0 : Int32) kaN_217 kb_226 (0 : Int32) p1 (-1 : Int32) (1 : Int32) p2 (0 : Int32) (0 : Int32) (0 : Int32) p2 (-1 : Int32) (2 : Int32) p1 (0 : Int32) (0 : Int32) aS_217 T234.heap n0 z242 P234_0 P234_1 P234_2 P234_4 f240 P234_5 (by omega) (by omega) P234_3) 0 (Nat.le_of_eq rfl) (by decide) (by decide) (by rw [hml]; rfl) (argsL := [(.int p4), (.int p3)]) (st := []) P234_0 (lenOf pd_6 rfl) rfl rfl (by decide) (by decide) rfl hby at_69 ?_
      intro T241 v241 L241 X241 hQ241
      obtain ⟨rfl, Nq241, K241, P241_0, P241_1, P241_2, P241_3, P241_4, P241_5⟩ := hQ241
      have N241 := Fr.app N234 Nq241
      have z243 : T234.heap.size ≤ T241.heap.size := K241.1
      have lt244 : T241.heap.size > b195 := P241_0.lt
      have lt245 : T241.heap.size > bN_226 := P241_4.lt
      refine own_sh (T := T241) 72 #[.val (.int p1), .val (.int p2), .val (.int p3), .val (.int p4), .val (.int p5), .val (.int 1), .val (.int 1), .val (.ref b195), .val (.int 0), .val (.int 1), .unset, .unset, .unset, .unset, .unset, .unset] [] ?_
      refine own_iload X241.here hx hby at_72 rfl ?_
      refine own_ifNo X241.here hx hby at_74 ((if0 _ _).trans (feq (show ¬ ((1 : Int32) = (0 : Int32)) from (by decide))).1) ?_
      refine own_iload X241.here hx hby at_77 rfl ?_
      refine own_goto X241.here hx hby (pc' := 84) at_79 (by decide) (by decide) ?_
      refine own_istore X241.here hx hby at_84 (l' := #[.val (.int p1), .val (.int p2), .val (.int p3), .val (.int p4), .val (.int p5), .val (.int 1), .val (.int 1), .val (.ref b195), .val (.int 0), .val (.int 1), .val (.int 1), .unset, .unset, .unset, .unset, .unset]) rfl ?_
      refine own_iload X241.here hx hby at_86 rfl ?_
      refine own_ifNo X241.here hx hby at_88 ((if0 _ _).trans (feq (show ¬ ((1 : Int32) = (0 : Int32)) from (by decide))).1) ?_
      refine own_iload X241.here hx hby at_91 rfl ?_
      refine own_goto X241.here hx hby (pc' := 98) at_93 (by decide) (by decide) ?_
      refine own_istore X241.here hx hby at_98 (l' := #[.val (.int p1), .val (.int p2), .val (.int p3), .val (.int p4), .val (.int p5), .val (.int 1), .val (.int 1), .val (.ref b195), .val (.int 0), .val (.int 1), .val (.int 1), .val (.int 0), .unset, .unset, .unset, .unset]) rfl ?_
      refine own_iload X241.here hx hby at_100 rfl ?_
      refine own_ifNo X241.here hx hby at_102 ((if0 _ _).trans (feq (show ¬ ((1 : Int32) = (0 : Int32)) from (by decide))).1) ?_
      refine own_iconst X241.here hx hby at_105 (v := (3 : Int32)) (by decide) ?_
      refine own_goto X241.here hx hby (pc' := 110) at_106 (by decide) (by decide) ?_
      refine own_istore X241.here hx hby at_110 (l' := #[.val (.int p1), .val (.int p2), .val (.int p3), .val (.int p4), .val (.int p5), .val (.int 1), .val (.int 1), .val (.ref b195), .val (.int 0), .val (.int 1), .val (.int 1), .val (.int 0), .val (.int 3), .unset, .unset, .unset]) rfl ?_
      refine own_iload X241.here hx hby at_112 rfl ?_
      refine own_ifNo X241.here hx hby at_114 ((if0 _ _).trans (feq (show ¬ ((1 : Int32) = (0 : Int32)) from (by decide))).1) ?_
      refine own_iloadN X241.here hx hby at_117 rfl ?_
      refine own_goto X241.here hx hby (pc' := 122) at_118 (by decide) (by decide) ?_
      refine own_istore X241.here hx hby at_122 (l' := #[.val (.int p1), .val (.int p2), .val (.int p3), .val (.int p4), .val (.int p5), .val (.int 1), .val (.int 1), .val (.ref b195), .val (.int 0), .val (.int 1), .val (.int 1), .val (.int 0), .val (.int 3), .val (.int p2), .unset, .unset]) rfl ?_
      refine own_iload X241.here hx hby at_124 rfl ?_
      refine own_ifNo X241.here hx hby at_126 ((if0 _ _).trans (feq (show ¬ ((1 : Int32) = (0 : Int32)) from (by decide))).1) ?_
      refine own_iloadN X241.here hx hby at_129 rfl ?_
      refine own_goto X241.here hx hby (pc' := 134) at_130 (by decide) (by decide) ?_
      refine own_istore X241.here hx hby at_134 (l' := #[.val (.int p1), .val (.int p2), .val (.int p3), .val (.int p4), .val (.int p5), .val (.int 1), .val (.int 1), .val (.ref b195), .val (.int 0), .val (.int 1), .val (.int 1), .val (.int 0), .val (.int 3), .val (.int p2), .val (.int p1), .unset]) rfl ?_
      refine own_aload X241.here hx hby at_136 rfl rfl ?_
      refine own_iload X241.here hx hby at_138 rfl ?_
      refine own_iloadN X241.here hx hby at_140 rfl ?_
      refine own_iloadN X241.here hx hby at_141 rfl ?_
      have f246 : Arv Z T241.heap aN_217 kaN_217 (.array .int) (1 : Int32) [(.ref bN_226)] .null := (f240.keep K241 (ninS (own_nn (by omega)) (ninS (own_nn (by omega)) nin0)))
      have z248 : n0 ≤ T241.heap.size := by omega
      refine own_virtual X241 hx hZ hown (own_w hw 50 rfl) (own_w hw 51 rfl) (notFace_of_selects (args := #[]) (mvT hZ (own_w hw 53 rfl))) (own_w hw 53 rfl) (own_w hw 52 rfl) (own_w hw 2 rfl) (own_w hw 54 rfl) (by decide) (endE_1_3 l Z a0 hw [] b195 aN_217 bN_226 p3 p4 (0 : Int32) kaN_217 kb_226 (0 : Int32) p1 (-1 : Int32) (1 : Int32) p2 (0 : Int32) (0 : Int32) (0 : Int32) p2 (-1 : Int32) (2 : Int32) p1 (0 : Int32) (0 : Int32) (2 : Int32) p4 p3 (3 : Int32) (0 : Int32) (0 : Int32) (0 : Int32) T241.heap n0 z248 P241_0 P241_1 P241_2 P241_3 f246 P241_4 (by omega)) 0 (Nat.le_of_eq rfl) (by decide) (by decide) (by rw [hml]; rfl) (argsL := [(.int 1), (.int p3), (.int p4)]) (st := []) P241_0 (lenOf pd_1 rfl) rfl rfl (by decide) (by decide) rfl hby at_142 ?_
      intro T247 v247 L247 X247 hQ247
      obtain ⟨rfl, Nq247, K247, P247_0⟩ := hQ247
      have N247 := Fr.app N241 Nq247
      have z249 : T241.heap.size ≤ T247.heap.size := K247.1
      have lt250 : T247.heap.size > bN_226 := P247_0.lt
      refine own_sh (T := T247) 145 #[.val (.int p1), .val (.int p2), .val (.int p3), .val (.int p4), .val (.int p5), .val (.int 1), .val (.int 1), .val (.ref b195), .val (.int 0), .val (.int 1), .val (.int 1), .val (.int 0), .val (.int 3), .val (.int p2), .val (.int p1), .unset] [] ?_
      refine own_aload X247.here hx hby at_145 rfl rfl ?_
      refine own_iload X247.here hx hby at_147 rfl ?_
      have f251 : Exa Z T247.heap b195 "com/example/boxwood/boxwood/XmlNodeTable" := (P241_0.keep K247)
      have f252 : Fld Z T247.heap b195 "com/example/boxwood/boxwood/XmlNodeTable" "numbers" "[[I" (.ref aN_217) := (P241_2.keep K247 (ninS (own_nn (by omega)) nin0))
      have f253 : Arv Z T247.heap aN_217 kaN_217 (.array .int) (1 : Int32) [(.ref bN_226)] .null := (f246.keep K247 (ninS (own_nn (by omega)) nin0))
      have z255 : n0 ≤ T247.heap.size := by omega
      refine own_virtual X247 hx hZ hown (own_w hw 55 rfl) (own_w hw 56 rfl) (notFace_of_selects (args := #[]) (mvT hZ (own_w hw 58 rfl))) (own_w hw 58 rfl) (own_w hw 57 rfl) (own_w hw 2 rfl) (own_w hw 59 rfl) (by decide) (contentEnd_1_21 l Z a0 hw [] b195 aN_217 bN_226 kaN_217 kb_226 (0 : Int32) p1 (-1 : Int32) (1 : Int32) p2 (0 : Int32) (0 : Int32) (0 : Int32) p2 p4 (3 : Int32) p1 p3 (0 : Int32) (2 : Int32) p4 p3 (3 : Int32) (0 : Int32) (0 : Int32) (0 : Int32) T247.heap n0 z255 f251 f252 f253 P247_0) 0 (Nat.le_of_eq rfl) (by decide) (by decide) (by rw [hml]; rfl) (argsL := [(.int 1)]) (st := []) f251 (lenOf pd_5 rfl) rfl rfl (by decide) (by decide) rfl hby at_149 ?_
      intro T254 v254 L254 X254 hQ254
      obtain ⟨rfl, Nq254, eh254⟩ := hQ254
      have N254 := Fr.app N247 Nq254
      refine own_sh (T := T254) 152 #[.val (.int p1), .val (.int p2), .val (.int p3), .val (.int p4), .val (.int p5), .val (.int 1), .val (.int 1), .val (.ref b195), .val (.int 0), .val (.int 1), .val (.int 1), .val (.int 0), .val (.int 3), .val (.int p2), .val (.int p1), .unset] [(.int p3)] ?_
      refine own_iloadN X254.here hx hby at_152 rfl ?_
      refine own_icmpNo X254.here hx hby at_153 (teq (show p3 = p3 from rfl)).2 ?_
      refine own_iconst X254.here hx hby at_156 (v := (1 : Int32)) (by decide) ?_
      refine own_goto X254.here hx hby (pc' := 161) at_157 (by decide) (by decide) ?_
      refine own_istore X254.here hx hby at_161 (l' := #[.val (.int p1), .val (.int p2), .val (.int p3), .val (.int p4), .val (.int p5), .val (.int 1), .val (.int 1), .val (.ref b195), .val (.int 0), .val (.int 1), .val (.int 1), .val (.int 0), .val (.int 3), .val (.int p2), .val (.int p1), .val (.int 1)]) rfl ?_
      refine own_iload X254.here hx hby at_163 rfl ?_
      refine own_ifNo X254.here hx hby at_165 ((if0 _ _).trans (feq (show ¬ ((1 : Int32) = (0 : Int32)) from (by decide))).1) ?_
      refine own_aload X254.here hx hby at_168 rfl rfl ?_
      refine own_iload X254.here hx hby at_170 rfl ?_
      refine own_virtual X254 hx hZ hown (own_w hw 64 rfl) (own_w hw 65 rfl) (notFace_of_selects (args := #[]) (mvT hZ (own_w hw 67 rfl))) (own_w hw 67 rfl) (own_w hw 66 rfl) (own_w hw 2 rfl) (own_w hw 68 rfl) (by decide) (end_1_21 l Z a0 hw [] b195 aN_217 bN_226 kaN_217 kb_226 (0 : Int32) p1 (-1 : Int32) (1 : Int32) p2 (0 : Int32) (0 : Int32) (0 : Int32) p2 p4 (3 : Int32) p1 p3 (0 : Int32) (2 : Int32) p4 p3 (3 : Int32) (0 : Int32) (0 : Int32) (0 : Int32) T247.heap n0 z255 f251 f252 f253 P247_0) 0 (Nat.le_of_eq rfl) (by decide) (by decide) (by rw [hml]; rfl) (argsL := [(.int 1)]) (st := []) f251 (lenOf pd_5 rfl) rfl rfl (by decide) (by decide) eh254 hby at_172 ?_
      intro T256 v256 L256 X256 hQ256
      obtain ⟨rfl, Nq256, eh256⟩ := hQ256
      have N256 := Fr.app N254 Nq256
      refine own_sh (T := T256) 175 #[.val (.int p1), .val (.int p2), .val (.int p3), .val (.int p4), .val (.int p5), .val (.int 1), .val (.int 1), .val (.ref b195), .val (.int 0), .val (.int 1), .val (.int 1), .val (.int 0), .val (.int 3), .val (.int p2), .val (.int p1), .val (.int 1)] [(.int p4)] ?_
      refine own_iloadN X256.here hx hby at_175 rfl ?_
      refine own_icmpNo X256.here hx hby at_176 (teq (show p4 = p4 from rfl)).2 ?_
      refine own_iconst X256.here hx hby at_179 (v := (1 : Int32)) (by decide) ?_
      refine own_goto X256.here hx hby (pc' := 184) at_180 (by decide) (by decide) ?_
      refine own_istore X256.here hx hby at_184 (l' := #[.val (.int p1), .val (.int p2), .val (.int p3), .val (.int p4), .val (.int p5), .val (.int 1), .val (.int 1), .val (.ref b195), .val (.int 0), .val (.int 1), .val (.int 1), .val (.int 0), .val (.int 3), .val (.int p2), .val (.int p1), .val (.int 1)]) rfl ?_
      refine own_iload X256.here hx hby at_186 rfl ?_
      refine own_ifNo X256.here hx hby at_188 ((if0 _ _).trans (feq (show ¬ ((1 : Int32) = (0 : Int32)) from (by decide))).1) ?_
      refine own_aload X256.here hx hby at_191 rfl rfl ?_
      refine own_iload X256.here hx hby at_193 rfl ?_
      refine own_virtual X256 hx hZ hown (own_w hw 69 rfl) (own_w hw 70 rfl) (notFace_of_selects (args := #[]) (mvT hZ (own_w hw 72 rfl))) (own_w hw 72 rfl) (own_w hw 71 rfl) (own_w hw 2 rfl) (own_w hw 73 rfl) (by decide) (next_1_21 l Z a0 hw [] b195 aN_217 bN_226 kaN_217 kb_226 (0 : Int32) p1 (-1 : Int32) (1 : Int32) p2 (0 : Int32) (0 : Int32) (0 : Int32) p2 p4 (3 : Int32) p1 p3 (0 : Int32) (2 : Int32) p4 p3 (3 : Int32) (0 : Int32) (0 : Int32) (0 : Int32) T247.heap n0 z255 f251 f252 f253 P247_0) 0 (Nat.le_of_eq rfl) (by decide) (by decide) (by rw [hml]; rfl) (argsL := [(.int 1)]) (st := []) f251 (lenOf pd_5 rfl) rfl rfl (by decide) (by decide) eh256 hby at_195 ?_
      intro T257 v257 L257 X257 hQ257
      obtain ⟨rfl, Nq257, eh257⟩ := hQ257
      have N257 := Fr.app N256 Nq257
      refine own_sh (T := T257) 198 #[.val (.int p1), .val (.int p2), .val (.int p3), .val (.int p4), .val (.int p5), .val (.int 1), .val (.int 1), .val (.ref b195), .val (.int 0), .val (.int 1), .val (.int 1), .val (.int 0), .val (.int 3), .val (.int p2), .val (.int p1), .val (.int 1)] [(.int 3)] ?_
      refine own_iload X257.here hx hby at_198 rfl ?_
      refine own_icmpNo X257.here hx hby at_200 (teq (show (3 : Int32) = (3 : Int32) from (by decide))).2 ?_
      refine own_iconst X257.here hx hby at_203 (v := (1 : Int32)) (by decide) ?_
      refine own_goto X257.here hx hby (pc' := 208) at_204 (by decide) (by decide) ?_
      refine own_istore X257.here hx hby at_208 (l' := #[.val (.int p1), .val (.int p2), .val (.int p3), .val (.int p4), .val (.int p5), .val (.int 1), .val (.int 1), .val (.ref b195), .val (.int 0), .val (.int 1), .val (.int 1), .val (.int 0), .val (.int 3), .val (.int p2), .val (.int p1), .val (.int 1)]) rfl ?_
      refine own_iload X257.here hx hby at_210 rfl ?_
      refine own_ifNo X257.here hx hby at_212 ((if0 _ _).trans (feq (show ¬ ((1 : Int32) = (0 : Int32)) from (by decide))).1) ?_
      refine own_aload X257.here hx hby at_215 rfl rfl ?_
      refine own_iload X257.here hx hby at_217 rfl ?_
      refine own_virtual X257 hx hZ hown (own_w hw 74 rfl) (own_w hw 75 rfl) (notFace_of_selects (args := #[]) (mvT hZ (own_w hw 77 rfl))) (own_w hw 77 rfl) (own_w hw 76 rfl) (own_w hw 2 rfl) (own_w hw 78 rfl) (by decide) (start_1_21 l Z a0 hw [] b195 aN_217 bN_226 kaN_217 kb_226 (0 : Int32) p1 (-1 : Int32) (1 : Int32) p2 (0 : Int32) (0 : Int32) (0 : Int32) p2 p4 (3 : Int32) p1 p3 (0 : Int32) (2 : Int32) p4 p3 (3 : Int32) (0 : Int32) (0 : Int32) (0 : Int32) T247.heap n0 z255 f251 f252 f253 P247_0) 0 (Nat.le_of_eq rfl) (by decide) (by decide) (by rw [hml]; rfl) (argsL := [(.int 1)]) (st := []) f251 (lenOf pd_5 rfl) rfl rfl (by decide) (by decide) eh257 hby at_219 ?_
      intro T258 v258 L258 X258 hQ258
      obtain ⟨rfl, Nq258, eh258⟩ := hQ258
      have N258 := Fr.app N257 Nq258
      refine own_sh (T := T258) 222 #[.val (.int p1), .val (.int p2), .val (.int p3), .val (.int p4), .val (.int p5), .val (.int 1), .val (.int 1), .val (.ref b195), .val (.int 0), .val (.int 1), .val (.int 1), .val (.int 0), .val (.int 3), .val (.int p2), .val (.int p1), .val (.int 1)] [(.int p2)] ?_
      refine own_iload X258.here hx hby at_222 rfl ?_
      refine own_icmpNo X258.here hx hby at_224 (teq (show p2 = p2 from rfl)).2 ?_
      refine own_iconst X258.here hx hby at_227 (v := (1 : Int32)) (by decide) ?_
      refine own_goto X258.here hx hby (pc' := 232) at_228 (by decide) (by decide) ?_
      refine own_istore X258.here hx hby at_232 (l' := #[.val (.int p1), .val (.int p2), .val (.int p3), .val (.int p4), .val (.int p5), .val (.int 1), .val (.int 1), .val (.ref b195), .val (.int 0), .val (.int 1), .val (.int 1), .val (.int 0), .val (.int 3), .val (.int p2), .val (.int p1), .val (.int 1)]) rfl ?_
      refine own_iload X258.here hx hby at_234 rfl ?_
      refine own_ifNo X258.here hx hby at_236 ((if0 _ _).trans (feq (show ¬ ((1 : Int32) = (0 : Int32)) from (by decide))).1) ?_
      refine own_aload X258.here hx hby at_239 rfl rfl ?_
      refine own_iload X258.here hx hby at_241 rfl ?_
      refine own_virtual X258 hx hZ hown (own_w hw 79 rfl) (own_w hw 80 rfl) (notFace_of_selects (args := #[]) (mvT hZ (own_w hw 82 rfl))) (own_w hw 82 rfl) (own_w hw 81 rfl) (own_w hw 2 rfl) (own_w hw 83 rfl) (by decide) (contentStart_1_21 l Z a0 hw [] b195 aN_217 bN_226 kaN_217 kb_226 (0 : Int32) p1 (-1 : Int32) (1 : Int32) p2 (0 : Int32) (0 : Int32) (0 : Int32) p2 p4 (3 : Int32) p1 p3 (0 : Int32) (2 : Int32) p4 p3 (3 : Int32) (0 : Int32) (0 : Int32) (0 : Int32) T247.heap n0 z255 f251 f252 f253 P247_0) 0 (Nat.le_of_eq rfl) (by decide) (by decide) (by rw [hml]; rfl) (argsL := [(.int 1)]) (st := []) f251 (lenOf pd_5 rfl) rfl rfl (by decide) (by decide) eh258 hby at_243 ?_
      intro T259 v259 L259 X259 hQ259
      obtain ⟨rfl, Nq259, eh259⟩ := hQ259
      have N259 := Fr.app N258 Nq259
      refine own_sh (T := T259) 246 #[.val (.int p1), .val (.int p2), .val (.int p3), .val (.int p4), .val (.int p5), .val (.int 1), .val (.int 1), .val (.ref b195), .val (.int 0), .val (.int 1), .val (.int 1), .val (.int 0), .val (.int 3), .val (.int p2), .val (.int p1), .val (.int 1)] [(.int p1)] ?_
      refine own_iload X259.here hx hby at_246 rfl ?_
      refine own_icmpNo X259.here hx hby at_248 (teq (show p1 = p1 from rfl)).2 ?_
      refine own_iconst X259.here hx hby at_251 (v := (1 : Int32)) (by decide) ?_
      refine own_goto X259.here hx hby (pc' := 256) at_252 (by decide) (by decide) ?_
      refine own_istore X259.here hx hby at_256 (l' := #[.val (.int p1), .val (.int p2), .val (.int p3), .val (.int p4), .val (.int p5), .val (.int 1), .val (.int 1), .val (.ref b195), .val (.int 0), .val (.int 1), .val (.int 1), .val (.int 0), .val (.int 3), .val (.int p2), .val (.int p1), .val (.int 1)]) rfl ?_
      refine own_iload X259.here hx hby at_258 rfl ?_
      refine own_ifNo X259.here hx hby at_260 ((if0 _ _).trans (feq (show ¬ ((1 : Int32) = (0 : Int32)) from (by decide))).1) ?_
      refine own_aload X259.here hx hby at_263 rfl rfl ?_
      refine own_iload X259.here hx hby at_265 rfl ?_
      refine own_virtual X259 hx hZ hown (own_w hw 64 rfl) (own_w hw 65 rfl) (notFace_of_selects (args := #[]) (mvT hZ (own_w hw 67 rfl))) (own_w hw 67 rfl) (own_w hw 66 rfl) (own_w hw 2 rfl) (own_w hw 68 rfl) (by decide) (end_0_21 l Z a0 hw [] b195 aN_217 bN_226 kaN_217 kb_226 (0 : Int32) p1 (-1 : Int32) (1 : Int32) p2 (0 : Int32) (0 : Int32) (0 : Int32) p2 p4 (3 : Int32) p1 p3 (0 : Int32) (2 : Int32) p4 p3 (3 : Int32) (0 : Int32) (0 : Int32) (0 : Int32) T247.heap n0 z255 f251 f252 f253 P247_0) 0 (Nat.le_of_eq rfl) (by decide) (by decide) (by rw [hml]; rfl) (argsL := [(.int 0)]) (st := []) f251 (lenOf pd_5 rfl) rfl rfl (by decide) (by decide) eh259 hby at_267 ?_
      intro T260 v260 L260 X260 hQ260
      obtain ⟨rfl, Nq260, eh260⟩ := hQ260
      have N260 := Fr.app N259 Nq260
      refine own_sh (T := T260) 270 #[.val (.int p1), .val (.int p2), .val (.int p3), .val (.int p4), .val (.int p5), .val (.int 1), .val (.int 1), .val (.ref b195), .val (.int 0), .val (.int 1), .val (.int 1), .val (.int 0), .val (.int 3), .val (.int p2), .val (.int p1), .val (.int 1)] [(.int (-1))] ?_
      refine own_iconst X260.here hx hby at_270 (v := (-1 : Int32)) (by decide) ?_
      refine own_icmpNo X260.here hx hby at_271 (teq (show (-1 : Int32) = (-1 : Int32) from (by decide))).2 ?_
      refine own_iconst X260.here hx hby at_274 (v := (1 : Int32)) (by decide) ?_
      refine own_goto X260.here hx hby (pc' := 279) at_275 (by decide) (by decide) ?_
      refine own_istore X260.here hx hby at_279 (l' := #[.val (.int p1), .val (.int p2), .val (.int p3), .val (.int p4), .val (.int p5), .val (.int 1), .val (.int 1), .val (.ref b195), .val (.int 0), .val (.int 1), .val (.int 1), .val (.int 0), .val (.int 3), .val (.int p2), .val (.int p1), .val (.int 1)]) rfl ?_
      refine own_iload X260.here hx hby at_281 rfl ?_
      obtain ⟨fs, hr, hrun, hended, hW, hsame⟩ := X260.leave (v := some (.int 1)) (fun h => by rw [Bd.returns] at h; cases h)
      refine own_ret (t := T260.setFrames fs) ?_ ⟨_, hrun, hended, _, _, rfl, ?_, ⟨_, rfl⟩, hW, hsame.mono (by decide) (by decide)⟩
      · exact retN X260 hx (t := .boolean) Bd.returns (by simp) (hb hby at_283) hr
      · show Q_rm0 Z p1 p2 p3 p4 p5 h0 n0 _ T260.heap _
        rw [eh260]
        exact ⟨rfl, N260, trivial⟩
set_option maxRecDepth 65536 in
set_option maxHeartbeats 40000000 in
theorem comes_1 {Post : Tables → Env → Array Value → State → Outcome → State → Prop} (hpost : ∀ tb e args s v u, (limb_1_1.after args s (.returned v) u = true ∧ limb_1_2.after args s (.returned v) u = true ∧ True) → FrameEnd s (.returned v) u (Jvm.fieldLocs frame_1_writes args s ++ Jvm.arrayLocs frame_1_arrays args s ++ Jvm.staticLocs frame_1_statics s) 32 65664 → Post tb e args s (.returned v) u) :
    ArmFor flags0 classFile x code maxLocals ret World_1 tables_1 room_1 Calls_1 rest_1 Pre_1 Post := by
  intro l hfl _ _ p e ha hc hk s m args below hf hA hF happ hP
  obtain ⟨hcalls, hrest, hpre⟩ := hP
  obtain ⟨-, -, -, hnamed, -, -, -, hat⟩ := (Spec.applies_iff hf).mp happ
  obtain ⟨hg, hn⟩ := and_e (Cond.before_iff.mp (show (Jvm.Cond.and given_1 narrow_1).before args s = true from hpre))
  obtain ⟨g1, g2⟩ := and_e hg
  obtain ⟨g3, g4⟩ := and_e g2
  obtain ⟨g5, g6⟩ := and_e g4
  obtain ⟨g7, g8⟩ := and_e g6
  obtain ⟨g9, g10⟩ := and_e g8
  obtain ⟨w0, w1, w2, w3, w4, rfl⟩ : ∃ w0 w1 w2 w3 w4 : Value, args = #[w0, w1, w2, w3, w4] := by
    have hs : args.size = 5 := by simpa [Cond.value, given_1] using g1
    obtain ⟨L⟩ := args
    match L, hs with
    | [w0, w1, w2, w3, w4], _ => exact ⟨w0, w1, w2, w3, w4, rfl⟩
  have hw := fun d (hd : d ∈ tables_1) => atoms_spec (ws := Jvm.Cond.code x code maxLocals ret :: tables_1) hat d (List.mem_cons_of_mem _ hd)
  have hfit : Fit s := fun {y c} hc i hi => by
    obtain ⟨ha, rfl⟩ := Array.getElem?_eq_some_iff.mp hc
    have q := List.all_eq_true.mp ((Array.all_eq_true_iff_forall_mem.mp hF) _ (Array.getElem_mem ha)) i (List.mem_range.mpr hi)
    simpa [Array.getElem?_eq_getElem hi] using q
  obtain ⟨i0, ei0⟩ := is_v g3
  obtain rfl : w0 = (.int i0) := Option.some.inj ei0
  obtain ⟨i1, ei1⟩ := is_v g5
  obtain rfl : w1 = (.int i1) := Option.some.inj ei1
  obtain ⟨i2, ei2⟩ := is_v g7
  obtain rfl : w2 = (.int i2) := Option.some.inj ei2
  obtain ⟨i3, ei3⟩ := is_v g9
  obtain rfl : w3 = (.int i3) := Option.some.inj ei3
  obtain ⟨i4, ei4⟩ := is_v g10
  obtain rfl : w4 = (.int i4) := Option.some.inj ei4
  obtain ⟨n, o, h1, h2, h3, _, L, rfl, ⟨rfl, N, -⟩, hq⟩ := rm0 l s _ hw tables_1 i0 i1 i2 i3 i4 s.heap s.heap.size (Nat.le_refl _)  p e ha hc hk s m _ below hf ((Spec.applies_iff_loose hf).mp happ).1 ⟨rfl, State.Warmed39.refl s, rfl⟩ trivial
  refine ⟨n, _, h1, h2, h3, hpost _ _ _ _ _ _ ⟨Cond.after_iff.mpr rfl, Cond.after_iff.mpr (eq_i res_at (Term.int_eval (1)) rfl), trivial⟩ ⟨hq.1, hq.2.1, (hq.2.2.sift fun y hy => Or.inr (N y hy)).mono (by decide) (by decide)⟩⟩
theorem main_1_1 : Claimed_1_1 := comes_1 fun _ _ _ _ _ _ h hF => ⟨h.1, hF⟩
theorem main_1_2 : Claimed_1_2 := comes_1 fun _ _ _ _ _ _ h hF => ⟨h.2.1, hF⟩
end Jvm.Pilot.@@N@@
namespace Jvm.Pilot.@@N@@
open Jvm Jvm.ClassFile Sem Op Lib Jvm.Free Jvm.Stand Jvm.Pilot.@@N@@.Jvm.D
/-! MADE BY PROGRAM (witnessworld.py) out of the Statement's table words and the real class files: 15 classes; the members and pool entries that the words name. The judged class is class 1, her method 1. -/
namespace start1
open Jvm.ClassFile
def u (s : String) : CpInfo := .utf8 (stringToUtf16 s)
/-- a pool by its gaps: so many unusable entries, then the entry; so many at the end -/
def gap : Nat → List CpInfo → List CpInfo
  | 0, r => r
  | n + 1, r => .unusable :: gap n r
def poolList (es : List (Nat × CpInfo)) (last : Nat) : List CpInfo := es.foldr (fun e r => gap e.1 (e.2 :: r)) (gap last [])
def pool (es : List (Nat × CpInfo)) (last : Nat) : Array CpInfo := ⟨poolList es last⟩
def fileOf (pool : Array CpInfo) (this : Nat) (attrs : Array Attribute := #[]) (ms : Array MethodInfo := #[]) (fl : Nat := 33) (sup : Nat := 0) (ifs : Array Nat := #[]) (fds : Array FieldInfo := #[]) : ClassFile where
  minorVersion := 0
  majorVersion := 65
  constantPool := pool
  accessFlags := fl
  thisClass := this
  superClass := sup
  interfaces := ifs
  fields := fds
  methods := ms
  attributes := attrs
def plain (name : String) (sup : Option ClassId) : Class where
  name := name
  kind := .ordinary
  loader := none
  accessFlags := 33
  super := sup
  interfaces := #[]
  cf := none
  fields := #[]
  methods := #[]
  instanceTypes := #[]
  staticTypes := #[]
  resolved := #[]
  callSites := []
  init := .initialized
  statics := none
  mirror := none

def pool0 : Array CpInfo := pool [(5, u "<init>"), (0, u "()V"), (1, .class_ 10), (1, u "java/lang/Object")] 113

def k0c0 : Code := { maxStack := 0, maxLocals := 1, code := object_method_1_code, exceptionTable := #[], attributes := #[] }
def k0m0 : Method := { name := "<init>", desc := "()V", sig := { parameters := [], returnType := none }, accessFlags := 1, code := some k0c0 }
/-- java/lang/Object -/
def k0 : Class := { plain "java/lang/Object" none with
  accessFlags := 33
  interfaces := #[]
  cf := some (fileOf pool0 8 #[] #[{ accessFlags := 1, nameIndex := 5, descriptorIndex := 6, attributes := #[] }] 33 0 #[] #[])
  fields := #[]
  methods := #[k0m0]
  instanceTypes := #[]
  staticTypes := #[]
  resolved := Array.replicate 124 none
  statics := none }

def pool1 : Array CpInfo := pool [(2, .class_ 4), (1, u "java/lang/Object"), (0, u "<init>"), (0, u "()V"), (0, .class_ 8), (0, u "com/example/boxwood/boxwood/XmlNodeTable"), (0, .methodref 7 10), (0, .nameAndType 5 11), (0, u "([B)V"), (0, .methodref 7 13), (0, .nameAndType 14 15), (0, u "startElement"), (0, u "(Ljava/lang/String;II)I"), (0, .methodref 7 17), (0, .nameAndType 18 19), (0, u "addVerbatim"), (0, u "(II)V"), (0, .methodref 7 21), (0, .nameAndType 22 23), (0, u "endElement"), (0, u "(III)V"), (0, .methodref 7 25), (0, .nameAndType 26 27), (0, u "contentEnd"), (0, u "(I)I"), (0, .methodref 7 29), (0, .nameAndType 30 27), (0, u "end"), (0, .methodref 7 32), (0, .nameAndType 33 27), (0, u "next"), (0, .methodref 7 35), (0, .nameAndType 36 27), (0, u "start"), (0, .methodref 7 38), (0, .nameAndType 39 27), (0, u "contentStart"), (0, .class_ 41), (0, u "com/example/boxwood/boxwood/XmlNodeTableEndElementPinLaw"), (2, u "law"), (0, u "(IIIII)Z")] 3

def k1m0 : Method := { name := "<init>", desc := "()V", sig := { parameters := [], returnType := none }, accessFlags := 1, code := none }
def k1c1 : Code := { maxStack := 4, maxLocals := 16, code := code, exceptionTable := #[], attributes := #[] }
def k1m1 : Method := { name := "law", desc := "(IIIII)Z", sig := { parameters := [.int, .int, .int, .int, .int], returnType := some .boolean }, accessFlags := 9, code := some k1c1 }
/-- com/example/boxwood/boxwood/XmlNodeTableEndElementPinLaw -/
def k1 : Class := { plain "com/example/boxwood/boxwood/XmlNodeTableEndElementPinLaw" (some 0) with
  accessFlags := 49
  interfaces := #[]
  cf := some (fileOf pool1 40 #[] #[{ accessFlags := 1, nameIndex := 5, descriptorIndex := 6, attributes := #[] }, { accessFlags := 9, nameIndex := 44, descriptorIndex := 45, attributes := #[] }] 49 2 #[] #[])
  fields := #[]
  methods := #[k1m0, k1m1]
  instanceTypes := #[]
  staticTypes := #[]
  resolved := Array.replicate 49 none
  statics := none }

def pool2 : Array CpInfo := pool [(1, .class_ 2), (0, u "com/example/boxwood/boxwood/XmlNodeTable"), (0, .methodref 4 5), (0, .class_ 6), (0, .nameAndType 7 8), (0, u "java/lang/Object"), (0, u "<init>"), (0, u "()V"), (0, .class_ 10), (0, u "[I"), (0, .fieldref 1 12), (0, .nameAndType 13 14), (0, u "numbers"), (0, u "[[I"), (0, .class_ 16), (0, u "[Ljava/lang/String;"), (0, .fieldref 1 18), (0, .nameAndType 19 20), (0, u "strings"), (0, u "[[Ljava/lang/String;"), (0, .fieldref 1 22), (0, .nameAndType 23 14), (0, u "attributeNumbers"), (0, .fieldref 1 25), (0, .nameAndType 26 20), (0, u "attributeNames"), (0, .class_ 28), (0, u "[Lcom/example/boxwood/boxwood/XmlValue;"), (0, .fieldref 1 30), (0, .nameAndType 31 32), (0, u "attributeValues"), (0, u "[[Lcom/example/boxwood/boxwood/XmlValue;"), (0, .fieldref 1 34), (0, .nameAndType 35 36), (0, u "content"), (0, u "[B"), (0, .methodref 1 38), (0, .nameAndType 39 40), (0, u "add"), (0, u "(III)I"), (0, .methodref 1 42), (0, .nameAndType 43 44), (0, u "set"), (0, u "(III)V"), (4, .methodref 1 50), (0, .nameAndType 51 52), (0, u "get"), (0, u "(II)I"), (0, .fieldref 1 54), (0, .nameAndType 55 56), (0, u "size"), (0, u "I"), (0, .fieldref 1 58), (0, .nameAndType 59 56), (0, u "attributeCount"), (0, .class_ 61), (0, u "java/lang/String"), (24, u "ELEMENT"), (2, u "TEXT"), (1, u "VERBATIM"), (1, u "KIND_MASK"), (1, u "PASSED_OVER"), (1, u "HOLDS_ELEMENTS"), (1, u "FLAGS"), (0, u "START"), (0, u "END"), (0, u "NEXT"), (0, u "CONTENT_START"), (0, u "CONTENT_END"), (1, u "FIRST_ATTRIBUTE"), (1, u "NUMBERS"), (1, u "TEXT_START"), (0, u "TEXT_END"), (0, u "ATTRIBUTE_NUMBERS"), (0, u "BLOCK_BITS"), (1, u "BLOCK_SIZE"), (1, u "IN_BLOCK"), (1, u "([B)V"), (3, u "startElement"), (0, u "(Ljava/lang/String;II)I"), (5, u "endElement"), (1, u "addVerbatim"), (0, u "(II)V"), (1, u "(I)I"), (0, u "start"), (0, u "end"), (0, u "next"), (0, u "contentStart"), (0, u "contentEnd")] 13

def k2c0 : Code := { maxStack := 2, maxLocals := 2, code := prog_60_method_1_code, exceptionTable := #[], attributes := #[] }
def k2m0 : Method := { name := "<init>", desc := "([B)V", sig := { parameters := [(.array .byte)], returnType := none }, accessFlags := 0, code := some k2c0 }
def k2c1 : Code := { maxStack := 4, maxLocals := 5, code := prog_60_method_3_code, exceptionTable := #[], attributes := #[] }
def k2m1 : Method := { name := "startElement", desc := "(Ljava/lang/String;II)I", sig := { parameters := [(.object "java/lang/String"), .int, .int], returnType := some .int }, accessFlags := 0, code := some k2c1 }
def k2c2 : Code := { maxStack := 3, maxLocals := 6, code := prog_60_method_7_code, exceptionTable := #[], attributes := #[] }
def k2m2 : Method := { name := "endElement", desc := "(III)V", sig := { parameters := [.int, .int, .int], returnType := none }, accessFlags := 0, code := some k2c2 }
def k2c3 : Code := { maxStack := 4, maxLocals := 3, code := prog_60_method_9_code, exceptionTable := #[], attributes := #[] }
def k2m3 : Method := { name := "addVerbatim", desc := "(II)V", sig := { parameters := [.int, .int], returnType := none }, accessFlags := 0, code := some k2c3 }
def k2c4 : Code := { maxStack := 3, maxLocals := 2, code := prog_60_method_11_code, exceptionTable := #[], attributes := #[] }
def k2m4 : Method := { name := "start", desc := "(I)I", sig := { parameters := [.int], returnType := some .int }, accessFlags := 0, code := some k2c4 }
def k2c5 : Code := { maxStack := 3, maxLocals := 2, code := prog_60_method_12_code, exceptionTable := #[], attributes := #[] }
def k2m5 : Method := { name := "end", desc := "(I)I", sig := { parameters := [.int], returnType := some .int }, accessFlags := 0, code := some k2c5 }
def k2c6 : Code := { maxStack := 3, maxLocals := 2, code := prog_60_method_13_code, exceptionTable := #[], attributes := #[] }
def k2m6 : Method := { name := "next", desc := "(I)I", sig := { parameters := [.int], returnType := some .int }, accessFlags := 0, code := some k2c6 }
def k2c7 : Code := { maxStack := 3, maxLocals := 2, code := prog_60_method_14_code, exceptionTable := #[], attributes := #[] }
def k2m7 : Method := { name := "contentStart", desc := "(I)I", sig := { parameters := [.int], returnType := some .int }, accessFlags := 0, code := some k2c7 }
def k2c8 : Code := { maxStack := 3, maxLocals := 2, code := prog_60_method_15_code, exceptionTable := #[], attributes := #[] }
def k2m8 : Method := { name := "contentEnd", desc := "(I)I", sig := { parameters := [.int], returnType := some .int }, accessFlags := 0, code := some k2c8 }
def k2c9 : Code := { maxStack := 4, maxLocals := 7, code := prog_60_method_24_code, exceptionTable := #[], attributes := #[] }
def k2m9 : Method := { name := "add", desc := "(III)I", sig := { parameters := [.int, .int, .int], returnType := some .int }, accessFlags := 2, code := some k2c9 }
def k2c10 : Code := { maxStack := 3, maxLocals := 3, code := prog_60_method_26_code, exceptionTable := #[], attributes := #[] }
def k2m10 : Method := { name := "get", desc := "(II)I", sig := { parameters := [.int, .int], returnType := some .int }, accessFlags := 2, code := some k2c10 }
def k2c11 : Code := { maxStack := 3, maxLocals := 4, code := prog_60_method_27_code, exceptionTable := #[], attributes := #[] }
def k2m11 : Method := { name := "set", desc := "(III)V", sig := { parameters := [.int, .int, .int], returnType := none }, accessFlags := 2, code := some k2c11 }
/-- com/example/boxwood/boxwood/XmlNodeTable -/
def k2 : Class := { plain "com/example/boxwood/boxwood/XmlNodeTable" (some 0) with
  accessFlags := 48
  interfaces := #[]
  cf := some (fileOf pool2 1 #[] #[{ accessFlags := 0, nameIndex := 7, descriptorIndex := 119, attributes := #[] }, { accessFlags := 0, nameIndex := 123, descriptorIndex := 124, attributes := #[] }, { accessFlags := 0, nameIndex := 130, descriptorIndex := 44, attributes := #[] }, { accessFlags := 0, nameIndex := 132, descriptorIndex := 133, attributes := #[] }, { accessFlags := 0, nameIndex := 136, descriptorIndex := 135, attributes := #[] }, { accessFlags := 0, nameIndex := 137, descriptorIndex := 135, attributes := #[] }, { accessFlags := 0, nameIndex := 138, descriptorIndex := 135, attributes := #[] }, { accessFlags := 0, nameIndex := 139, descriptorIndex := 135, attributes := #[] }, { accessFlags := 0, nameIndex := 140, descriptorIndex := 135, attributes := #[] }, { accessFlags := 2, nameIndex := 39, descriptorIndex := 40, attributes := #[] }, { accessFlags := 2, nameIndex := 51, descriptorIndex := 52, attributes := #[] }, { accessFlags := 2, nameIndex := 43, descriptorIndex := 44, attributes := #[] }] 48 4 #[] #[{ accessFlags := 24, nameIndex := 86, descriptorIndex := 56, attributes := #[] }, { accessFlags := 24, nameIndex := 89, descriptorIndex := 56, attributes := #[] }, { accessFlags := 24, nameIndex := 91, descriptorIndex := 56, attributes := #[] }, { accessFlags := 26, nameIndex := 93, descriptorIndex := 56, attributes := #[] }, { accessFlags := 26, nameIndex := 95, descriptorIndex := 56, attributes := #[] }, { accessFlags := 26, nameIndex := 97, descriptorIndex := 56, attributes := #[] }, { accessFlags := 26, nameIndex := 99, descriptorIndex := 56, attributes := #[] }, { accessFlags := 26, nameIndex := 100, descriptorIndex := 56, attributes := #[] }, { accessFlags := 26, nameIndex := 101, descriptorIndex := 56, attributes := #[] }, { accessFlags := 26, nameIndex := 102, descriptorIndex := 56, attributes := #[] }, { accessFlags := 26, nameIndex := 103, descriptorIndex := 56, attributes := #[] }, { accessFlags := 26, nameIndex := 104, descriptorIndex := 56, attributes := #[] }, { accessFlags := 26, nameIndex := 106, descriptorIndex := 56, attributes := #[] }, { accessFlags := 26, nameIndex := 108, descriptorIndex := 56, attributes := #[] }, { accessFlags := 26, nameIndex := 110, descriptorIndex := 56, attributes := #[] }, { accessFlags := 26, nameIndex := 111, descriptorIndex := 56, attributes := #[] }, { accessFlags := 26, nameIndex := 112, descriptorIndex := 56, attributes := #[] }, { accessFlags := 26, nameIndex := 113, descriptorIndex := 56, attributes := #[] }, { accessFlags := 26, nameIndex := 115, descriptorIndex := 56, attributes := #[] }, { accessFlags := 26, nameIndex := 117, descriptorIndex := 56, attributes := #[] }, { accessFlags := 18, nameIndex := 35, descriptorIndex := 36, attributes := #[] }, { accessFlags := 2, nameIndex := 55, descriptorIndex := 56, attributes := #[] }, { accessFlags := 2, nameIndex := 13, descriptorIndex := 14, attributes := #[] }, { accessFlags := 2, nameIndex := 19, descriptorIndex := 20, attributes := #[] }, { accessFlags := 2, nameIndex := 59, descriptorIndex := 56, attributes := #[] }, { accessFlags := 2, nameIndex := 23, descriptorIndex := 14, attributes := #[] }, { accessFlags := 2, nameIndex := 26, descriptorIndex := 20, attributes := #[] }, { accessFlags := 2, nameIndex := 31, descriptorIndex := 32, attributes := #[] }])
  fields := #[{ name := "ELEMENT", type := .int, accessFlags := 24, slot := 0, constantValue := 0 }, { name := "TEXT", type := .int, accessFlags := 24, slot := 1, constantValue := 0 }, { name := "VERBATIM", type := .int, accessFlags := 24, slot := 2, constantValue := 0 }, { name := "KIND_MASK", type := .int, accessFlags := 26, slot := 3, constantValue := 0 }, { name := "PASSED_OVER", type := .int, accessFlags := 26, slot := 4, constantValue := 0 }, { name := "HOLDS_ELEMENTS", type := .int, accessFlags := 26, slot := 5, constantValue := 0 }, { name := "FLAGS", type := .int, accessFlags := 26, slot := 6, constantValue := 0 }, { name := "START", type := .int, accessFlags := 26, slot := 7, constantValue := 0 }, { name := "END", type := .int, accessFlags := 26, slot := 8, constantValue := 0 }, { name := "NEXT", type := .int, accessFlags := 26, slot := 9, constantValue := 0 }, { name := "CONTENT_START", type := .int, accessFlags := 26, slot := 10, constantValue := 0 }, { name := "CONTENT_END", type := .int, accessFlags := 26, slot := 11, constantValue := 0 }, { name := "FIRST_ATTRIBUTE", type := .int, accessFlags := 26, slot := 12, constantValue := 0 }, { name := "NUMBERS", type := .int, accessFlags := 26, slot := 13, constantValue := 0 }, { name := "TEXT_START", type := .int, accessFlags := 26, slot := 14, constantValue := 0 }, { name := "TEXT_END", type := .int, accessFlags := 26, slot := 15, constantValue := 0 }, { name := "ATTRIBUTE_NUMBERS", type := .int, accessFlags := 26, slot := 16, constantValue := 0 }, { name := "BLOCK_BITS", type := .int, accessFlags := 26, slot := 17, constantValue := 0 }, { name := "BLOCK_SIZE", type := .int, accessFlags := 26, slot := 18, constantValue := 0 }, { name := "IN_BLOCK", type := .int, accessFlags := 26, slot := 19, constantValue := 0 }, { name := "content", type := (.array .byte), accessFlags := 18, slot := 0, constantValue := 0 }, { name := "size", type := .int, accessFlags := 2, slot := 1, constantValue := 0 }, { name := "numbers", type := (.array (.array .int)), accessFlags := 2, slot := 2, constantValue := 0 }, { name := "strings", type := (.array (.array (.object "java/lang/String"))), accessFlags := 2, slot := 3, constantValue := 0 }, { name := "attributeCount", type := .int, accessFlags := 2, slot := 4, constantValue := 0 }, { name := "attributeNumbers", type := (.array (.array .int)), accessFlags := 2, slot := 5, constantValue := 0 }, { name := "attributeNames", type := (.array (.array (.object "java/lang/String"))), accessFlags := 2, slot := 6, constantValue := 0 }, { name := "attributeValues", type := (.array (.array (.object "com/example/boxwood/boxwood/XmlValue"))), accessFlags := 2, slot := 7, constantValue := 0 }]
  methods := #[k2m0, k2m1, k2m2, k2m3, k2m4, k2m5, k2m6, k2m7, k2m8, k2m9, k2m10, k2m11]
  instanceTypes := #[(.array .byte), .int, (.array (.array .int)), (.array (.array (.object "java/lang/String"))), .int, (.array (.array .int)), (.array (.array (.object "java/lang/String"))), (.array (.array (.object "com/example/boxwood/boxwood/XmlValue")))]
  staticTypes := #[.int, .int, .int, .int, .int, .int, .int, .int, .int, .int, .int, .int, .int, .int, .int, .int, .int, .int, .int, .int]
  resolved := Array.replicate 154 none
  statics := none }

def pool3 : Array CpInfo := pool [(1, .class_ 2), (0, u "java/io/Serializable"), (0, .class_ 4), (0, u "java/lang/Object")] 2

/-- java/io/Serializable -/
def k3 : Class := { plain "java/io/Serializable" (some 0) with
  accessFlags := 1537
  interfaces := #[]
  cf := some (fileOf pool3 1 #[] #[] 1537 3 #[] #[])
  fields := #[]
  methods := #[]
  instanceTypes := #[]
  staticTypes := #[]
  resolved := Array.replicate 7 none
  statics := none }

def pool4 : Array CpInfo := pool [(1, .class_ 2), (0, u "java/lang/Comparable"), (0, .class_ 4), (0, u "java/lang/Object")] 7

/-- java/lang/Comparable -/
def k4 : Class := { plain "java/lang/Comparable" (some 0) with
  accessFlags := 1537
  interfaces := #[]
  cf := some (fileOf pool4 1 #[] #[] 1537 3 #[] #[])
  fields := #[]
  methods := #[]
  instanceTypes := #[]
  staticTypes := #[]
  resolved := Array.replicate 12 none
  statics := none }

def pool5 : Array CpInfo := pool [(2, .class_ 4), (1, u "java/lang/CharSequence"), (42, .class_ 48), (0, u "java/lang/CharSequence$1CodePointIterator"), (10, .class_ 60), (0, u "java/lang/CharSequence$1CharIterator"), (5, .class_ 67), (0, u "java/lang/Object")] 63

/-- java/lang/CharSequence -/
def k5 : Class := { plain "java/lang/CharSequence" (some 0) with
  accessFlags := 1537
  interfaces := #[]
  cf := some (fileOf pool5 2 #[.nestMembers #[47, 59]] #[] 1537 66 #[] #[])
  fields := #[]
  methods := #[]
  instanceTypes := #[]
  staticTypes := #[]
  resolved := Array.replicate 131 none
  statics := none }

def pool6 : Array CpInfo := pool [(1, .class_ 2), (0, u "java/lang/constant/Constable"), (0, .class_ 4), (0, u "java/lang/Object")] 6

/-- java/lang/constant/Constable -/
def k6 : Class := { plain "java/lang/constant/Constable" (some 0) with
  accessFlags := 1537
  interfaces := #[]
  cf := some (fileOf pool6 1 #[] #[] 1537 3 #[] #[])
  fields := #[]
  methods := #[]
  instanceTypes := #[]
  staticTypes := #[]
  resolved := Array.replicate 11 none
  statics := none }

def pool7 : Array CpInfo := pool [(1, .class_ 2), (0, u "java/lang/constant/ConstantDesc"), (0, .class_ 4), (0, u "java/lang/Object")] 32

/-- java/lang/constant/ConstantDesc -/
def k7 : Class := { plain "java/lang/constant/ConstantDesc" (some 0) with
  accessFlags := 1537
  interfaces := #[]
  cf := some (fileOf pool7 1 #[] #[] 1537 3 #[] #[])
  fields := #[]
  methods := #[]
  instanceTypes := #[]
  staticTypes := #[]
  resolved := Array.replicate 37 none
  statics := none }

def pool8 : Array CpInfo := pool [(2, .class_ 4), (1, u "java/lang/Object"), (0, u "<init>"), (0, u "()V"), (3, .class_ 12), (1, u "java/lang/String"), (0, u "value"), (0, u "[B"), (2, u "coder"), (0, u "B"), (2, u "hash"), (0, u "I"), (2, u "hashIsZero"), (0, u "Z"), (13, u "COMPACT_STRINGS"), (534, .class_ 576), (0, u "java/lang/CharSequence"), (22, u "CASE_INSENSITIVE_ORDER"), (0, u "Ljava/util/Comparator;"), (500, u "serialPersistentFields"), (0, u "[Ljava/io/ObjectStreamField;"), (0, .class_ 1104), (0, u "java/lang/String$CaseInsensitiveComparator"), (1, .class_ 1107), (0, u "java/io/Serializable"), (0, .class_ 1109), (0, u "java/lang/Comparable"), (0, .class_ 1111), (0, u "java/lang/constant/Constable"), (0, .class_ 1113), (0, u "java/lang/constant/ConstantDesc"), (2, u "serialVersionUID"), (0, u "J"), (3, u "REPL"), (0, u "C"), (2, u "LATIN1"), (1, u "UTF16")] 323

def k8m0 : Method := { name := "<init>", desc := "()V", sig := { parameters := [], returnType := none }, accessFlags := 1, code := none }
/-- java/lang/String -/
def k8 : Class := { plain "java/lang/String" (some 0) with
  accessFlags := 49
  interfaces := #[3, 4, 5, 6, 7]
  cf := some (fileOf pool8 10 #[.nestMembers #[1103]] #[{ accessFlags := 1, nameIndex := 5, descriptorIndex := 6, attributes := #[] }] 49 2 #[1106, 1108, 575, 1110, 1112] #[{ accessFlags := 18, nameIndex := 13, descriptorIndex := 14, attributes := #[] }, { accessFlags := 18, nameIndex := 17, descriptorIndex := 18, attributes := #[] }, { accessFlags := 2, nameIndex := 21, descriptorIndex := 22, attributes := #[] }, { accessFlags := 2, nameIndex := 25, descriptorIndex := 26, attributes := #[] }, { accessFlags := 26, nameIndex := 1116, descriptorIndex := 1117, attributes := #[] }, { accessFlags := 24, nameIndex := 40, descriptorIndex := 26, attributes := #[] }, { accessFlags := 26, nameIndex := 1101, descriptorIndex := 1102, attributes := #[] }, { accessFlags := 26, nameIndex := 1121, descriptorIndex := 1122, attributes := #[] }, { accessFlags := 25, nameIndex := 599, descriptorIndex := 600, attributes := #[] }, { accessFlags := 24, nameIndex := 1125, descriptorIndex := 18, attributes := #[] }, { accessFlags := 24, nameIndex := 1127, descriptorIndex := 18, attributes := #[] }])
  fields := #[{ name := "value", type := (.array .byte), accessFlags := 18, slot := 0, constantValue := 0 }, { name := "coder", type := .byte, accessFlags := 18, slot := 1, constantValue := 0 }, { name := "hash", type := .int, accessFlags := 2, slot := 2, constantValue := 0 }, { name := "hashIsZero", type := .boolean, accessFlags := 2, slot := 3, constantValue := 0 }, { name := "serialVersionUID", type := .long, accessFlags := 26, slot := 0, constantValue := 0 }, { name := "COMPACT_STRINGS", type := .boolean, accessFlags := 24, slot := 1, constantValue := 0 }, { name := "serialPersistentFields", type := (.array (.object "java/io/ObjectStreamField")), accessFlags := 26, slot := 2, constantValue := 0 }, { name := "REPL", type := .char, accessFlags := 26, slot := 3, constantValue := 0 }, { name := "CASE_INSENSITIVE_ORDER", type := (.object "java/util/Comparator"), accessFlags := 25, slot := 4, constantValue := 0 }, { name := "LATIN1", type := .byte, accessFlags := 24, slot := 5, constantValue := 0 }, { name := "UTF16", type := .byte, accessFlags := 24, slot := 6, constantValue := 0 }]
  methods := #[k8m0]
  instanceTypes := #[(.array .byte), .byte, .int, .boolean]
  staticTypes := #[.long, .boolean, (.array (.object "java/io/ObjectStreamField")), .char, (.object "java/util/Comparator"), .byte, .byte]
  resolved := Array.replicate 1451 none
  statics := none }

def pool9 : Array CpInfo := pool [(1, u "java/lang/Cloneable"), (0, .class_ 1), (0, u "java/lang/Object"), (0, .class_ 3)] 3

/-- java/lang/Cloneable -/
def k9 : Class := { plain "java/lang/Cloneable" (some 0) with
  accessFlags := 1537
  interfaces := #[]
  cf := some (fileOf pool9 2 #[] #[] 1537 4 #[] #[])
  fields := #[]
  methods := #[]
  instanceTypes := #[]
  staticTypes := #[]
  resolved := Array.replicate 8 none
  statics := none }

/-- the primitive byte -/
def k10 : Class := { plain "byte" none with kind := .primitive 'B', accessFlags := 0x411 }
/-- [B -/
def k11 : Class := { plain "[B" (some 0) with kind := .array 10 .byte, interfaces := #[9, 3], accessFlags := 1041 }

/-- the primitive int -/
def k12 : Class := { plain "int" none with kind := .primitive 'I', accessFlags := 0x411 }
/-- [I -/
def k13 : Class := { plain "[I" (some 0) with kind := .array 12 .int, interfaces := #[9, 3], accessFlags := 1041 }

/-- [Ljava/lang/String; -/
def k14 : Class := { plain "[Ljava/lang/String;" (some 0) with kind := .array 8 (.object "java/lang/String"), interfaces := #[9, 3], accessFlags := 1041 }

def k15 : Class := { plain "[[I" (some 0) with kind := .array 13 (.array .int), interfaces := #[9, 3], accessFlags := 1041 }
def k16 : Class := { plain "[[Ljava/lang/String;" (some 0) with kind := .array 14 (.array (.object "java/lang/String")), interfaces := #[9, 3], accessFlags := 1041 }
def k17 : Class := { plain "com/example/boxwood/boxwood/XmlValue" (some 0) with accessFlags := 33 }
def k18 : Class := { plain "[Lcom/example/boxwood/boxwood/XmlValue;" (some 0) with kind := .array 17 (.object "com/example/boxwood/boxwood/XmlValue"), interfaces := #[9, 3], accessFlags := 1041 }
def k19 : Class := { plain "[[Lcom/example/boxwood/boxwood/XmlValue;" (some 0) with kind := .array 18 (.array (.object "com/example/boxwood/boxwood/XmlValue")), interfaces := #[9, 3], accessFlags := 1041 }
def heap : Heap := #[]
def classes : Array Class := #[k0, k1, k2, k3, k4, k5, k6, k7, k8, k9, k10, k11, k12, k13, k14, k15, k16, k17, k18, k19]
def interned : List (Array UInt16 × Addr) := []
def slotsUsed : Nat := 0
def theMethod : MethodId := ⟨1, 1⟩
def args0 : Array Value := #[.int 1, .int 2, .int 3, .int 4, .int 5]
def aboutOver (below : List Frame) : State where
  vm := { classes := classes, interned := interned.toArray }
  heap := heap
  slotsUsed := slotsUsed
  threads := #[{ frames := .invoking theMethod args0 :: below }]
def below0 : List Frame := [.native { method := ⟨0, 0⟩, args := #[] }]
def about1 : State := aboutOver below0
def p0 : Program := .bare "" "" ""
def e0 : Env := launch0.env 0 0 0
theorem w_frames : about1.frames = Frame.invoking theMethod args0 :: below0 := rfl
set_option maxRecDepth 65536 in
theorem w_args : argsFit about1.vm theMethod args0 = true := by decide +kernel
set_option maxRecDepth 65536 in
theorem w_heap : heapFits about1 = true := by decide +kernel
set_option maxRecDepth 65536 in
theorem w_runnable : about1.curStatus? = some .runnable := by decide +kernel
set_option maxRecDepth 65536 in
theorem w_alone : about1.alone = true := by decide +kernel
set_option maxRecDepth 65536 in
theorem w_named : about1.methodNamed? x = some theMethod := by decide +kernel
set_option maxRecDepth 65536 in
theorem w_hears : about1.hears theMethod below0 = true := by decide +kernel
set_option maxRecDepth 65536 in
theorem w_ripe : about1.ripe theMethod args0 below0 = true := by decide +kernel
theorem w_running : about1.status = .running := rfl
set_option maxRecDepth 65536 in
theorem w_room : about1.hasRoom e0.platform room_1 = true :=
  launch0.hasRoom_least _ room_1 (by decide +kernel) (by decide +kernel) (by decide +kernel) (by decide +kernel) (by decide +kernel) (by decide +kernel)
theorem allAtoms_all (ts : List Jvm.Cond) (a : Array Jvm.Value) (st : Jvm.State) : (allAtoms ts).before a st = ts.all (fun c => c.before a st) := by
  induction ts with
  | nil => rfl
  | cons c t ih =>
    show (Jvm.Cond.and c (allAtoms t)).before a st = _
    rw [Jvm.Cond.before_and, ih, List.all_cons]
def words1 : List Jvm.Cond := Jvm.Cond.code x code maxLocals ret :: tables_1
/-- a 'code' word, met by the world's own term for the bytes: nothing is compared byte by byte -/
theorem code_word {y : MethodName} {bytes : ByteArray} {mx : Nat} {rt : Option FieldType} {a : Array Value} {s : State} {m : MethodId} {meth : Method} {c : Code} (h1 : s.methodNamed? y = some m) (h2 : s.vm.method? m = some meth) (h3 : meth.code = some c) (h4 : c.code = bytes)
    (h5 : (c.maxLocals == mx && c.exceptionTable.isEmpty && decide (c.maxStack ≤ mostOperands) && decide (meth.sig.returnType = rt) && !meth.locks && decide (parseMethodDescriptor y.desc = some meth.sig)) = true) : (Jvm.Cond.code y bytes mx rt).before a s = true := by
  simp only [Bool.and_eq_true, beq_iff_eq, Bool.not_eq_true', decide_eq_true_eq] at h5
  obtain ⟨⟨⟨⟨⟨g1, g2⟩, g3⟩, g4⟩, g5⟩, g6⟩ := h5
  simp [Cond.before, Cond.holds, Cond.value, h1, h2, h3, h4, g1, g2, g3, g4, g5, g6]
def isCode : Jvm.Cond → Bool
  | .code _ _ _ _ => true
  | _ => false
theorem all_split {L : List Jvm.Cond} {P : Jvm.Cond → Bool} (h1 : L.all (fun c => isCode c || P c) = true) (h2 : ∀ c ∈ L.filter isCode, P c = true) : L.all P = true := by
  refine List.all_eq_true.mpr fun c hc => ?_
  have h := List.all_eq_true.mp h1 c hc
  rcases Bool.eq_false_or_eq_true (isCode c) with hi | hi
  · exact h2 c (List.mem_filter.mpr ⟨hc, hi⟩)
  · simpa [hi] using h
set_option maxRecDepth 65536 in
theorem w_c0 : (Jvm.Cond.code x code maxLocals ret).before args0 about1 = true := code_word (m := ⟨1, 1⟩) (meth := k1m1) (c := k1c1) (by decide +kernel) rfl rfl rfl (by decide +kernel)
set_option maxRecDepth 65536 in
theorem w_c1 : (Jvm.Cond.code ({ cls := "com/example/boxwood/boxwood/XmlNodeTable", name := "<init>", desc := "([B)V" } : Jvm.MethodName) prog_60_method_1_code (2 : Nat) (Option.none : Option Jvm.ClassFile.FieldType)).before args0 about1 = true := code_word (m := ⟨2, 0⟩) (meth := k2m0) (c := k2c0) (by decide +kernel) rfl rfl rfl (by decide +kernel)
set_option maxRecDepth 65536 in
theorem w_c2 : (Jvm.Cond.code ({ cls := "java/lang/Object", name := "<init>", desc := "()V" } : Jvm.MethodName) object_method_1_code (1 : Nat) (Option.none : Option Jvm.ClassFile.FieldType)).before args0 about1 = true := code_word (m := ⟨0, 0⟩) (meth := k0m0) (c := k0c0) (by decide +kernel) rfl rfl rfl (by decide +kernel)
set_option maxRecDepth 65536 in
theorem w_c3 : (Jvm.Cond.code ({ cls := "com/example/boxwood/boxwood/XmlNodeTable", name := "startElement", desc := "(Ljava/lang/String;II)I" } : Jvm.MethodName) prog_60_method_3_code (5 : Nat) (Option.some Jvm.ClassFile.FieldType.int)).before args0 about1 = true := code_word (m := ⟨2, 1⟩) (meth := k2m1) (c := k2c1) (by decide +kernel) rfl rfl rfl (by decide +kernel)
set_option maxRecDepth 65536 in
theorem w_c4 : (Jvm.Cond.code ({ cls := "com/example/boxwood/boxwood/XmlNodeTable", name := "add", desc := "(III)I" } : Jvm.MethodName) prog_60_method_24_code (7 : Nat) (Option.some Jvm.ClassFile.FieldType.int)).before args0 about1 = true := code_word (m := ⟨2, 9⟩) (meth := k2m9) (c := k2c9) (by decide +kernel) rfl rfl rfl (by decide +kernel)
set_option maxRecDepth 65536 in
theorem w_c5 : (Jvm.Cond.code ({ cls := "com/example/boxwood/boxwood/XmlNodeTable", name := "set", desc := "(III)V" } : Jvm.MethodName) prog_60_method_27_code (4 : Nat) (Option.none : Option Jvm.ClassFile.FieldType)).before args0 about1 = true := code_word (m := ⟨2, 11⟩) (meth := k2m11) (c := k2c11) (by decide +kernel) rfl rfl rfl (by decide +kernel)
set_option maxRecDepth 65536 in
theorem w_c6 : (Jvm.Cond.code ({ cls := "com/example/boxwood/boxwood/XmlNodeTable", name := "endElement", desc := "(III)V" } : Jvm.MethodName) prog_60_method_7_code (6 : Nat) (Option.none : Option Jvm.ClassFile.FieldType)).before args0 about1 = true := code_word (m := ⟨2, 2⟩) (meth := k2m2) (c := k2c2) (by decide +kernel) rfl rfl rfl (by decide +kernel)
set_option maxRecDepth 65536 in
theorem w_c7 : (Jvm.Cond.code ({ cls := "com/example/boxwood/boxwood/XmlNodeTable", name := "contentEnd", desc := "(I)I" } : Jvm.MethodName) prog_60_method_15_code (2 : Nat) (Option.some Jvm.ClassFile.FieldType.int)).before args0 about1 = true := code_word (m := ⟨2, 8⟩) (meth := k2m8) (c := k2c8) (by decide +kernel) rfl rfl rfl (by decide +kernel)
set_option maxRecDepth 65536 in
theorem w_c8 : (Jvm.Cond.code ({ cls := "com/example/boxwood/boxwood/XmlNodeTable", name := "get", desc := "(II)I" } : Jvm.MethodName) prog_60_method_26_code (3 : Nat) (Option.some Jvm.ClassFile.FieldType.int)).before args0 about1 = true := code_word (m := ⟨2, 10⟩) (meth := k2m10) (c := k2c10) (by decide +kernel) rfl rfl rfl (by decide +kernel)
set_option maxRecDepth 65536 in
theorem w_c9 : (Jvm.Cond.code ({ cls := "com/example/boxwood/boxwood/XmlNodeTable", name := "end", desc := "(I)I" } : Jvm.MethodName) prog_60_method_12_code (2 : Nat) (Option.some Jvm.ClassFile.FieldType.int)).before args0 about1 = true := code_word (m := ⟨2, 5⟩) (meth := k2m5) (c := k2c5) (by decide +kernel) rfl rfl rfl (by decide +kernel)
set_option maxRecDepth 65536 in
theorem w_c10 : (Jvm.Cond.code ({ cls := "com/example/boxwood/boxwood/XmlNodeTable", name := "next", desc := "(I)I" } : Jvm.MethodName) prog_60_method_13_code (2 : Nat) (Option.some Jvm.ClassFile.FieldType.int)).before args0 about1 = true := code_word (m := ⟨2, 6⟩) (meth := k2m6) (c := k2c6) (by decide +kernel) rfl rfl rfl (by decide +kernel)
set_option maxRecDepth 65536 in
theorem w_c11 : (Jvm.Cond.code ({ cls := "com/example/boxwood/boxwood/XmlNodeTable", name := "start", desc := "(I)I" } : Jvm.MethodName) prog_60_method_11_code (2 : Nat) (Option.some Jvm.ClassFile.FieldType.int)).before args0 about1 = true := code_word (m := ⟨2, 4⟩) (meth := k2m4) (c := k2c4) (by decide +kernel) rfl rfl rfl (by decide +kernel)
set_option maxRecDepth 65536 in
theorem w_c12 : (Jvm.Cond.code ({ cls := "com/example/boxwood/boxwood/XmlNodeTable", name := "contentStart", desc := "(I)I" } : Jvm.MethodName) prog_60_method_14_code (2 : Nat) (Option.some Jvm.ClassFile.FieldType.int)).before args0 about1 = true := code_word (m := ⟨2, 7⟩) (meth := k2m7) (c := k2c7) (by decide +kernel) rfl rfl rfl (by decide +kernel)
set_option maxRecDepth 65536 in
theorem w_c13 : (Jvm.Cond.code ({ cls := "com/example/boxwood/boxwood/XmlNodeTable", name := "addVerbatim", desc := "(II)V" } : Jvm.MethodName) prog_60_method_9_code (3 : Nat) (Option.none : Option Jvm.ClassFile.FieldType)).before args0 about1 = true := code_word (m := ⟨2, 3⟩) (meth := k2m3) (c := k2c3) (by decide +kernel) rfl rfl rfl (by decide +kernel)
def codes1 : List Jvm.Cond := [Jvm.Cond.code x code maxLocals ret, Jvm.Cond.code ({ cls := "com/example/boxwood/boxwood/XmlNodeTable", name := "<init>", desc := "([B)V" } : Jvm.MethodName) prog_60_method_1_code (2 : Nat) (Option.none : Option Jvm.ClassFile.FieldType), Jvm.Cond.code ({ cls := "java/lang/Object", name := "<init>", desc := "()V" } : Jvm.MethodName) object_method_1_code (1 : Nat) (Option.none : Option Jvm.ClassFile.FieldType), Jvm.Cond.code ({ cls := "com/example/boxwood/boxwood/XmlNodeTable", name := "startElement", desc := "(Ljava/lang/String;II)I" } : Jvm.MethodName) prog_60_method_3_code (5 : Nat) (Option.some Jvm.ClassFile.FieldType.int), Jvm.Cond.code ({ cls := "com/example/boxwood/boxwood/XmlNodeTable", name := "add", desc := "(III)I" } : Jvm.MethodName) prog_60_method_24_code (7 : Nat) (Option.some Jvm.ClassFile.FieldType.int), Jvm.Cond.code ({ cls := "com/example/boxwood/boxwood/XmlNodeTable", name := "set", desc := "(III)V" } : Jvm.MethodName) prog_60_method_27_code (4 : Nat) (Option.none : Option Jvm.ClassFile.FieldType), Jvm.Cond.code ({ cls := "com/example/boxwood/boxwood/XmlNodeTable", name := "endElement", desc := "(III)V" } : Jvm.MethodName) prog_60_method_7_code (6 : Nat) (Option.none : Option Jvm.ClassFile.FieldType), Jvm.Cond.code ({ cls := "com/example/boxwood/boxwood/XmlNodeTable", name := "contentEnd", desc := "(I)I" } : Jvm.MethodName) prog_60_method_15_code (2 : Nat) (Option.some Jvm.ClassFile.FieldType.int), Jvm.Cond.code ({ cls := "com/example/boxwood/boxwood/XmlNodeTable", name := "get", desc := "(II)I" } : Jvm.MethodName) prog_60_method_26_code (3 : Nat) (Option.some Jvm.ClassFile.FieldType.int), Jvm.Cond.code ({ cls := "com/example/boxwood/boxwood/XmlNodeTable", name := "end", desc := "(I)I" } : Jvm.MethodName) prog_60_method_12_code (2 : Nat) (Option.some Jvm.ClassFile.FieldType.int), Jvm.Cond.code ({ cls := "com/example/boxwood/boxwood/XmlNodeTable", name := "next", desc := "(I)I" } : Jvm.MethodName) prog_60_method_13_code (2 : Nat) (Option.some Jvm.ClassFile.FieldType.int), Jvm.Cond.code ({ cls := "com/example/boxwood/boxwood/XmlNodeTable", name := "start", desc := "(I)I" } : Jvm.MethodName) prog_60_method_11_code (2 : Nat) (Option.some Jvm.ClassFile.FieldType.int), Jvm.Cond.code ({ cls := "com/example/boxwood/boxwood/XmlNodeTable", name := "contentStart", desc := "(I)I" } : Jvm.MethodName) prog_60_method_14_code (2 : Nat) (Option.some Jvm.ClassFile.FieldType.int), Jvm.Cond.code ({ cls := "com/example/boxwood/boxwood/XmlNodeTable", name := "addVerbatim", desc := "(II)V" } : Jvm.MethodName) prog_60_method_9_code (3 : Nat) (Option.none : Option Jvm.ClassFile.FieldType)]
set_option maxRecDepth 65536 in
theorem codes_eq : words1.filter isCode = codes1 := rfl
theorem w_codes : ∀ c ∈ words1.filter isCode, c.before args0 about1 = true := by
  rw [codes_eq]
  intro c hc
  simp only [codes1, List.mem_cons, List.not_mem_nil, or_false] at hc
  rcases hc with rfl | rfl | rfl | rfl | rfl | rfl | rfl | rfl | rfl | rfl | rfl | rfl | rfl | rfl
  · exact w_c0
  · exact w_c1
  · exact w_c2
  · exact w_c3
  · exact w_c4
  · exact w_c5
  · exact w_c6
  · exact w_c7
  · exact w_c8
  · exact w_c9
  · exact w_c10
  · exact w_c11
  · exact w_c12
  · exact w_c13
set_option maxRecDepth 65536 in
theorem w_t1 : (words1.take 24).all (fun c => isCode c || c.before args0 about1) = true := by decide +kernel
set_option maxRecDepth 65536 in
theorem w_t2 : ((words1.drop 24).take 24).all (fun c => isCode c || c.before args0 about1) = true := by decide +kernel
set_option maxRecDepth 65536 in
theorem w_t3 : (((words1.drop 24).drop 24).take 24).all (fun c => isCode c || c.before args0 about1) = true := by decide +kernel
set_option maxRecDepth 65536 in
theorem w_t4 : (((words1.drop 24).drop 24).drop 24).all (fun c => isCode c || c.before args0 about1) = true := by decide +kernel
theorem w_tables : (allAtoms (Jvm.Cond.code x code maxLocals ret :: tables_1)).before args0 about1 = true := by
  rw [allAtoms_all]
  show words1.all (fun c => c.before args0 about1) = true
  refine all_split ?_ w_codes
  rw [← List.take_append_drop 24 words1, List.all_append, w_t1, ← List.take_append_drop 24 (words1.drop 24), List.all_append, w_t2, ← List.take_append_drop 24 ((words1.drop 24).drop 24), List.all_append, w_t3, w_t4]
  rfl
set_option maxRecDepth 65536 in
theorem w_case : (Jvm.Cond.and given_1 narrow_1).before args0 about1 = true := by decide +kernel
theorem w_applies : (headSpec (Jvm.Cond.code x code maxLocals ret :: tables_1) room_1).applies x e0.platform about1 = true :=
  (Spec.applies_iff w_frames).mpr ⟨w_running, w_runnable, w_alone, w_named, w_hears, w_ripe, w_room, w_tables⟩
theorem atStart : AtStart classFile x code maxLocals ret World_1 tables_1 room_1 Calls_1 rest_1 Pre_1 launch0 p0 e0 about1 theMethod args0 below0 :=
  ⟨lists_1, trivial, launch0.admits_env _ _ _, launch0.least_env, fairChoices_fair.cas, fairChoices_fair.clock, w_frames, w_args, w_heap, w_applies, trivial, trivial, w_case⟩
end start1
theorem witness_1 : WitnessClaimed_1 := ⟨start1.p0, start1.e0, start1.about1, start1.theMethod, start1.args0, start1.below0, start1.atStart⟩
end Jvm.Pilot.@@N@@
