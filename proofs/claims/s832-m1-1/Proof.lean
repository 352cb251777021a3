import JvmDerived
import JvmDerived.Pilot.@@N@@Statement
import JvmDerived.Pilot.@@N@@Code
set_option linter.unusedVariables false
set_option linter.unusedSimpArgs false
namespace Jvm.Pilot.@@N@@
open Jvm Jvm.ClassFile Sem Op Lib Jvm.Free Jvm.Stand Jvm.LawKit Jvm.RoadKit Bundle Jvm.Pilot.@@N@@.Jvm.D
def own_Go (tb : Tables) (e : Env) (below : List Frame) (P : State → Prop) (A : State) : Prop := ∃ t, Steps tb e below A t ∧ P t
theorem own_go {tb : Tables} {e : Env} {below : List Frame} {P : State → Prop} {A B : State} (h : ∀ t, Steps tb e below B t → Steps tb e below A t) (g : own_Go tb e below P B) : own_Go tb e below P A := by
  obtain ⟨t, h1, h2⟩ := g
  exact ⟨t, h t h1, h2⟩
theorem own_fin {tb : Tables} {e : Env} {below : List Frame} {A : State} {Qq : Outcome → State → Prop} (g : own_Go tb e below (fun t => ∃ o, t.status = .running ∧ Ended t below o ∧ Qq o t) A) : ∃ t o, Steps tb e below A t ∧ t.status = .running ∧ Ended t below o ∧ Qq o t := by
  obtain ⟨t, h1, o, h2, h3, h4⟩ := g
  exact ⟨t, o, h1, h2, h3, h4⟩
theorem own_ret {tb : Tables} {e : Env} {below : List Frame} {P : State → Prop} {A t : State} (h : Steps tb e below A t) (q : P t) : own_Go tb e below P A := ⟨t, h, q⟩
def own_M (l : Launch) (y : MethodName) (bytes : ByteArray) (maxL : Nat) (ret : Option FieldType) (ws : List Jvm.Cond) (rm : Room) (Z : State) (as : Array Value) (h0 : Heap) (Q : Option Value → Heap → List Loc → Prop) : Prop := MetFree l y (head1 (Jvm.Cond.code y bytes maxL ret :: ws) rm) (fun aR UR => aR = as ∧ Z.Warmed39 UR.vm ∧ UR.heap = h0) (fun _ _ _ _ _ => True) (fun _ UR oR UR' => ∃ vR LR, oR = .returned vR ∧ Q vR UR'.heap LR ∧ FrameEnd UR oR UR' LR rm.cells rm.slots)
theorem own_body {l : Launch} {y : MethodName} {bytes : ByteArray} {maxL : Nat} {ret : Option FieldType} {ws : List Jvm.Cond} {rm : Room} {Z : State} {as : Array Value} {h0 : Heap} {Q : Option Value → Heap → List Loc → Prop} {own : String} {f : MethodId → JFrame} (ho : y.cls = own) (hx : plainFor y = true) (ef : ∀ m, entryFrame m as maxL = f m) (k : ∀ (p : Program) (e : Env) (s : State) (m : MethodId) (below : List Frame) (meth : Method) (c : Code) (s₁ : State), BodyLoose p l y (head1 (Jvm.Cond.code y bytes maxL ret :: ws) rm) bytes maxL ret e s m as below meth c s₁ → c.maxLocals = maxL → Z.Warmed39 s.vm → s.heap = h0 → p.tables.exec = Jvm.exec → c.code = bytes → s.vm.findClass own = some m.cls → Stand p l e rm s m as below meth c s₁ [] 0 0 → s₁.heap = h0 → own_Go p.tables e below (fun t => ∃ o, t.status = .running ∧ Ended t below o ∧ ∃ vR LR, o = .returned vR ∧ Q vR t.heap LR ∧ FrameEnd s o t LR rm.cells rm.slots) (s₁.setTop (f m))) : own_M l y bytes maxL ret ws rm Z as h0 Q := by
  subst ho
  refine MetFree.of_bodySF hx hisR ?_
  intro p e s m args below meth c s₁ Bd hml hP hK
  obtain ⟨rfl, hZ, hh⟩ := hP
  exact own_fin (own_go (fun tT kK => castTop (ef m) kK) (k p e s m below meth c s₁ Bd hml hZ hh Bd.exec Bd.bytes (findClass_of_methodNamed Bd.named) (Stand.of_body Bd) (by rw [← hh, Bd.state]; rfl)))
theorem own_sh {tb : Tables} {e : Env} {below : List Frame} {P : State → Prop} {T : State} {m : MethodId} (pc : Nat) (Ls : Array Slot) (st : List Value) (g : own_Go tb e below P (T.setTop (mkF m pc Ls st))) : own_Go tb e below P (T.setTop (mkF m pc Ls st)) := g
theorem own_w {Z : State} {a0 : Array Value} {tab : List Jvm.Cond} (hw : ∀ d ∈ tab, d.before a0 Z = true) (i : Nat) {d : Jvm.Cond} (h : tab[i]? = some d) : d.before a0 Z = true := hw d (List.mem_of_getElem? h)
theorem own_iloadN {tb : Tables} [Ours tb] {e : Env} {below : List Frame} {T : State} {m : MethodId} {c : Code} {P : State → Prop} {pc : Nat} {Ls : Array Slot} {st : List Value} {bc : ByteArray} (h : At T m c below) (hx : tb.exec = Jvm.exec) (hby : c.code = bc) {k : Fin 4} {v : Int32} (hd : decode bc pc = .ok (.iload_n k, 1)) (hl : Ls[k.val]? = some (.val (.int v))) (g : own_Go tb e below P (T.setTop (mkF m (pc + 1) Ls ((.int v) :: st)))) : own_Go tb e below P (T.setTop (mkF m pc Ls (st))) := own_go (fun t k => XS.iloadN h hx rfl (hb hby hd) hl k) g
theorem own_aloadN {tb : Tables} [Ours tb] {e : Env} {below : List Frame} {T : State} {m : MethodId} {c : Code} {P : State → Prop} {pc : Nat} {Ls : Array Slot} {st : List Value} {bc : ByteArray} (h : At T m c below) (hx : tb.exec = Jvm.exec) (hby : c.code = bc) {k : Fin 4} {v : Value} (hd : decode bc pc = .ok (.aload_n k, 1)) (hl : Ls[k.val]? = some (.val v)) (hv : v.isRef = true) (g : own_Go tb e below P (T.setTop (mkF m (pc + 1) Ls (v :: st)))) : own_Go tb e below P (T.setTop (mkF m pc Ls (st))) := own_go (fun t k => XS.aloadN h hx rfl (hb hby hd) hl hv k) g
theorem own_aload {tb : Tables} [Ours tb] {e : Env} {below : List Frame} {T : State} {m : MethodId} {c : Code} {P : State → Prop} {pc : Nat} {Ls : Array Slot} {st : List Value} {bc : ByteArray} (h : At T m c below) (hx : tb.exec = Jvm.exec) (hby : c.code = bc) {k : Nat} {v : Value} (hd : decode bc pc = .ok (.aload k, 2)) (hl : Ls[k]? = some (.val v)) (hv : v.isRef = true) (g : own_Go tb e below P (T.setTop (mkF m (pc + 2) Ls (v :: st)))) : own_Go tb e below P (T.setTop (mkF m pc Ls (st))) := own_go (fun t k => XS.aload h hx rfl (hb hby hd) hl hv k) g
theorem own_istoreN {tb : Tables} [Ours tb] {e : Env} {below : List Frame} {T : State} {m : MethodId} {c : Code} {P : State → Prop} {pc : Nat} {Ls : Array Slot} {st : List Value} {bc : ByteArray} (h : At T m c below) (hx : tb.exec = Jvm.exec) (hby : c.code = bc) {k : Fin 4} {x : Int32} {l' : Array Slot} (hd : decode bc pc = .ok (.istore_n k, 1)) (hl : storeLocals Ls k.val (.int x) = some l') (g : own_Go tb e below P (T.setTop (mkF m (pc + 1) l' (st)))) : own_Go tb e below P (T.setTop (mkF m pc Ls ((.int x) :: st))) := own_go (fun t k => XS.istoreN h hx rfl (hb hby hd) rfl hl k) g
theorem own_astoreN {tb : Tables} [Ours tb] {e : Env} {below : List Frame} {T : State} {m : MethodId} {c : Code} {P : State → Prop} {pc : Nat} {Ls : Array Slot} {st : List Value} {bc : ByteArray} (h : At T m c below) (hx : tb.exec = Jvm.exec) (hby : c.code = bc) {k : Fin 4} {x : Value} {l' : Array Slot} (hd : decode bc pc = .ok (.astore_n k, 1)) (hv : x.isRef = true) (hl : storeLocals Ls k.val x = some l') (g : own_Go tb e below P (T.setTop (mkF m (pc + 1) l' (st)))) : own_Go tb e below P (T.setTop (mkF m pc Ls (x :: st))) := own_go (fun t k => XS.astoreN h hx rfl (hb hby hd) rfl hv hl k) g
theorem own_astore {tb : Tables} [Ours tb] {e : Env} {below : List Frame} {T : State} {m : MethodId} {c : Code} {P : State → Prop} {pc : Nat} {Ls : Array Slot} {st : List Value} {bc : ByteArray} (h : At T m c below) (hx : tb.exec = Jvm.exec) (hby : c.code = bc) {k : Nat} {x : Value} {l' : Array Slot} (hd : decode bc pc = .ok (.astore k, 2)) (hv : x.isRef = true) (hl : storeLocals Ls k x = some l') (g : own_Go tb e below P (T.setTop (mkF m (pc + 2) l' (st)))) : own_Go tb e below P (T.setTop (mkF m pc Ls (x :: st))) := own_go (fun t k => XS.astore h hx rfl (hb hby hd) rfl hv hl k) g
theorem own_iconst {tb : Tables} [Ours tb] {e : Env} {below : List Frame} {T : State} {m : MethodId} {c : Code} {P : State → Prop} {pc : Nat} {Ls : Array Slot} {st : List Value} {bc : ByteArray} (h : At T m c below) (hx : tb.exec = Jvm.exec) (hby : c.code = bc) {i : Int} {v : Int32} (hd : decode bc pc = .ok (.iconst i, 1)) (hv : Int32.ofInt i = v) (g : own_Go tb e below P (T.setTop (mkF m (pc + 1) Ls ((.int v) :: st)))) : own_Go tb e below P (T.setTop (mkF m pc Ls st)) := by
  subst hv
  exact own_go (fun t k => XS.iconst h hx rfl (hb hby hd) k) g
theorem own_iadd {tb : Tables} [Ours tb] {e : Env} {below : List Frame} {T : State} {m : MethodId} {c : Code} {P : State → Prop} {pc : Nat} {Ls : Array Slot} {st : List Value} {bc : ByteArray} (h : At T m c below) (hx : tb.exec = Jvm.exec) (hby : c.code = bc) {x y v : Int32} (hd : decode bc pc = .ok (.iadd, 1)) (hv : (x + y) = v) (g : own_Go tb e below P (T.setTop (mkF m (pc + 1) Ls ((.int v) :: st)))) : own_Go tb e below P (T.setTop (mkF m pc Ls ((.int y) :: (.int x) :: st))) := by
  subst hv
  exact own_go (fun t k => XS.iadd h hx rfl (hb hby hd) rfl k) g
theorem own_iand {tb : Tables} [Ours tb] {e : Env} {below : List Frame} {T : State} {m : MethodId} {c : Code} {P : State → Prop} {pc : Nat} {Ls : Array Slot} {st : List Value} {bc : ByteArray} (h : At T m c below) (hx : tb.exec = Jvm.exec) (hby : c.code = bc) {x y v : Int32} (hd : decode bc pc = .ok (.iand, 1)) (hv : (x &&& y) = v) (g : own_Go tb e below P (T.setTop (mkF m (pc + 1) Ls ((.int v) :: st)))) : own_Go tb e below P (T.setTop (mkF m pc Ls ((.int y) :: (.int x) :: st))) := by
  subst hv
  exact own_go (fun t k => XS.iand h hx rfl (hb hby hd) rfl k) g
theorem own_dup {tb : Tables} [Ours tb] {e : Env} {below : List Frame} {T : State} {m : MethodId} {c : Code} {P : State → Prop} {pc : Nat} {Ls : Array Slot} {st : List Value} {bc : ByteArray} (h : At T m c below) (hx : tb.exec = Jvm.exec) (hby : c.code = bc) {x : Value} (hd : decode bc pc = .ok (.dup, 1)) (hc : x.category = 1) (g : own_Go tb e below P (T.setTop (mkF m (pc + 1) Ls (x :: x :: st)))) : own_Go tb e below P (T.setTop (mkF m pc Ls (x :: st))) := own_go (fun t k => XS.dup h hx rfl (hb hby hd) rfl hc k) g
theorem own_goto {tb : Tables} [Ours tb] {e : Env} {below : List Frame} {T : State} {m : MethodId} {c : Code} {P : State → Prop} {pc : Nat} {Ls : Array Slot} {st : List Value} {bc : ByteArray} (h : At T m c below) (hx : tb.exec = Jvm.exec) (hby : c.code = bc) {o : Int} {pc' : Nat} (hd : decode bc pc = .ok (.goto o, 3)) (ho : 0 ≤ (pc : Int) + o) (hp : ((pc : Int) + o).toNat = pc') (g : own_Go tb e below P (T.setTop (mkF m pc' Ls st))) : own_Go tb e below P (T.setTop (mkF m pc Ls st)) := own_go (fun t k => XS.goto h hx rfl (pc0 := pc) rfl (hb hby hd) ho hp k) g
theorem own_ifYes {tb : Tables} [Ours tb] {e : Env} {below : List Frame} {T : State} {m : MethodId} {c : Code} {P : State → Prop} {pc : Nat} {Ls : Array Slot} {st : List Value} {bc : ByteArray} (h : At T m c below) (hx : tb.exec = Jvm.exec) (hby : c.code = bc) {cd : ClassFile.Cond} {o : Int} {pc' : Nat} {x : Int32} (hd : decode bc pc = .ok (.ifCond cd o, 3)) (hc : ifCond.holds cd x = true) (ho : 0 ≤ (pc : Int) + o) (hp : ((pc : Int) + o).toNat = pc') (g : own_Go tb e below P (T.setTop (mkF m pc' Ls st))) : own_Go tb e below P (T.setTop (mkF m pc Ls ((.int x) :: st))) := own_go (fun t k => XS.ifYes h hx rfl (pc0 := pc) rfl (hb hby hd) rfl hc ho hp k) g
theorem own_ifNo {tb : Tables} [Ours tb] {e : Env} {below : List Frame} {T : State} {m : MethodId} {c : Code} {P : State → Prop} {pc : Nat} {Ls : Array Slot} {st : List Value} {bc : ByteArray} (h : At T m c below) (hx : tb.exec = Jvm.exec) (hby : c.code = bc) {cd : ClassFile.Cond} {o : Int} {x : Int32} (hd : decode bc pc = .ok (.ifCond cd o, 3)) (hc : ifCond.holds cd x = false) (g : own_Go tb e below P (T.setTop (mkF m (pc + 3) Ls st))) : own_Go tb e below P (T.setTop (mkF m pc Ls ((.int x) :: st))) := own_go (fun t k => XS.ifNo h hx rfl (hb hby hd) rfl hc k) g
theorem own_icmpYes {tb : Tables} [Ours tb] {e : Env} {below : List Frame} {T : State} {m : MethodId} {c : Code} {P : State → Prop} {pc : Nat} {Ls : Array Slot} {st : List Value} {bc : ByteArray} (h : At T m c below) (hx : tb.exec = Jvm.exec) (hby : c.code = bc) {cd : ClassFile.Cond} {o : Int} {pc' : Nat} {x y : Int32} (hd : decode bc pc = .ok (.if_icmp cd o, 3)) (hc : if_icmp.holds cd x y = true) (ho : 0 ≤ (pc : Int) + o) (hp : ((pc : Int) + o).toNat = pc') (g : own_Go tb e below P (T.setTop (mkF m pc' Ls st))) : own_Go tb e below P (T.setTop (mkF m pc Ls ((.int y) :: (.int x) :: st))) := own_go (fun t k => XS.icmpYes h hx rfl (pc0 := pc) rfl (hb hby hd) rfl hc ho hp k) g
theorem own_icmpNo {tb : Tables} [Ours tb] {e : Env} {below : List Frame} {T : State} {m : MethodId} {c : Code} {P : State → Prop} {pc : Nat} {Ls : Array Slot} {st : List Value} {bc : ByteArray} (h : At T m c below) (hx : tb.exec = Jvm.exec) (hby : c.code = bc) {cd : ClassFile.Cond} {o : Int} {x y : Int32} (hd : decode bc pc = .ok (.if_icmp cd o, 3)) (hc : if_icmp.holds cd x y = false) (g : own_Go tb e below P (T.setTop (mkF m (pc + 3) Ls st))) : own_Go tb e below P (T.setTop (mkF m pc Ls ((.int y) :: (.int x) :: st))) := own_go (fun t k => XS.icmpNo h hx rfl (hb hby hd) rfl hc k) g
theorem own_ifnullYes {tb : Tables} [Ours tb] {e : Env} {below : List Frame} {T : State} {m : MethodId} {c : Code} {P : State → Prop} {pc : Nat} {Ls : Array Slot} {st : List Value} {bc : ByteArray} (h : At T m c below) (hx : tb.exec = Jvm.exec) (hby : c.code = bc) {o : Int} {pc' : Nat} (hd : decode bc pc = .ok (.ifnull o, 3)) (ho : 0 ≤ (pc : Int) + o) (hp : ((pc : Int) + o).toNat = pc') (g : own_Go tb e below P (T.setTop (mkF m pc' Ls st))) : own_Go tb e below P (T.setTop (mkF m pc Ls (.null :: st))) := own_go (fun t k => XS.ifnullYes h hx rfl (pc0 := pc) rfl (hb hby hd) rfl ho hp k) g
theorem own_ifnullNo {tb : Tables} [Ours tb] {e : Env} {below : List Frame} {T : State} {m : MethodId} {c : Code} {P : State → Prop} {pc : Nat} {Ls : Array Slot} {st : List Value} {bc : ByteArray} (h : At T m c below) (hx : tb.exec = Jvm.exec) (hby : c.code = bc) {o : Int} {b : Addr} (hd : decode bc pc = .ok (.ifnull o, 3)) (g : own_Go tb e below P (T.setTop (mkF m (pc + 3) Ls st))) : own_Go tb e below P (T.setTop (mkF m pc Ls ((.ref b) :: st))) := own_go (fun t k => XS.ifnullNo h hx rfl (hb hby hd) rfl k) g
theorem own_ifnonnullYes {tb : Tables} [Ours tb] {e : Env} {below : List Frame} {T : State} {m : MethodId} {c : Code} {P : State → Prop} {pc : Nat} {Ls : Array Slot} {st : List Value} {bc : ByteArray} (h : At T m c below) (hx : tb.exec = Jvm.exec) (hby : c.code = bc) {o : Int} {pc' : Nat} {b : Addr} (hd : decode bc pc = .ok (.ifnonnull o, 3)) (ho : 0 ≤ (pc : Int) + o) (hp : ((pc : Int) + o).toNat = pc') (g : own_Go tb e below P (T.setTop (mkF m pc' Ls st))) : own_Go tb e below P (T.setTop (mkF m pc Ls ((.ref b) :: st))) := own_go (fun t k => XS.ifnonnullYes h hx rfl (pc0 := pc) rfl (hb hby hd) rfl ho hp k) g
section OwnGo
variable {p : Program} {l : Launch} {e : Env} {R : Room} {s : State} {m : MethodId} {args : Array Value} {below : List Frame} {meth : Method} {c : Code} {T : State} {locs : List Loc} {cells slots : Nat} {Z : State} {a0 : Array Value} {h : Heap} {P : State → Prop} {pc : Nat} {Ls : Array Slot} {st : List Value} {bc : ByteArray} {n0 : Nat}
theorem own_acmp (X : Stand p l e R s m args below meth c T locs cells slots) (hx : p.tables.exec = Jvm.exec) {cd : ACond} {x y : Value} {o : Int} {pc' : Nat} {same : Bool} (hby : c.code = bc) (hd : decode bc pc = .ok (.if_acmp cd o, 3)) (h1 : x.isRef = true) (h2 : y.isRef = true) (hq : decide (x = y) = same) (ho : 0 ≤ (pc : Int) + o) (hp : pc' = if acV cd same = true then ((pc : Int) + o).toNat else pc + 3) (k : own_Go p.tables e below P (T.setTop (mkF m pc' Ls st))) : own_Go p.tables e below P (T.setTop (mkF m pc Ls (y :: x :: st))) := by
  exact own_go (fun t k => Jvm.RoadKit.acmp (g := mkF m pc Ls (y :: x :: st)) X hx rfl h1 h2 rfl (hb hby hd) rfl hq ho hp k) k
theorem own_getF (X : Stand p l e R s m args below meth c T locs cells slots) (hx : p.tables.exec = Jvm.exec) (hZ : Z.Warmed39 s.vm) {own R0 O n d host : String} {index : Nat} (hown : s.vm.findClass own = some m.cls) (w : (Cond.fieldLink own index R0 n d).before a0 Z = true ∨ (Cond.fieldLinkNest own index R0 n d host).before a0 Z = true) (via : Via Z R0 O n d) (eT : T.heap = h) {a : Addr} {v : Value} (F : Fld Z h a O n d v) (hby : c.code = bc) (hd : decode bc pc = .ok (.getfield index, 3)) (k : ∀ T', Stand p l e R s m args below meth c T' locs cells slots → T'.heap = h → own_Go p.tables e below P (T'.setTop (mkF m (pc + 3) Ls (v :: st)))) : own_Go p.tables e below P (T.setTop (mkF m pc Ls ((.ref a) :: st))) := by
  obtain ⟨T', X', e', sp⟩ := getF X hx hZ hown w via eT F (g := mkF m pc Ls ((.ref a) :: st)) rfl rfl (hb hby hd)
  exact own_go sp (k T' X' e')
theorem own_getS (X : Stand p l e R s m args below meth c T locs cells slots) (hx : p.tables.exec = Jvm.exec) (hZ : Z.Warmed39 s.vm) {own R0 O n d host : String} {index : Nat} (hown : s.vm.findClass own = some m.cls) (w : (Cond.fieldLink own index R0 n d).before a0 Z = true ∨ (Cond.fieldLinkNest own index R0 n d host).before a0 Z = true) (via : Via Z R0 O n d) (eT : T.heap = h) {v : Value} (F : Sta Z h O n d v) (hby : c.code = bc) (hd : decode bc pc = .ok (.getstatic index, 3)) (k : ∀ T', Stand p l e R s m args below meth c T' locs cells slots → T'.heap = h → own_Go p.tables e below P (T'.setTop (mkF m (pc + 3) Ls (v :: st)))) : own_Go p.tables e below P (T.setTop (mkF m pc Ls st)) := by
  obtain ⟨T', X', e', sp⟩ := getS2 X hx hZ hown w via eT F (g := mkF m pc Ls st) rfl (hb hby hd)
  exact own_go sp (k T' X' e')
theorem own_putF (X : Stand p l e R s m args below meth c T locs cells slots) (hx : p.tables.exec = Jvm.exec) (hZ : Z.Warmed39 s.vm) {C : String} {kk : Nat} {ty : FieldType} {own R0 O n d host : String} {index : Nat} (hown : s.vm.findClass own = some m.cls) (w : (Cond.fieldLink own index R0 n d).before a0 Z = true ∨ (Cond.fieldLinkNest own index R0 n d host).before a0 Z = true) (via : Via Z R0 O n d) (eT : T.heap = h) {a : Addr} {v old : Value} (F : Fld Z h a O n d old) (E : Exa Z h a C) (L : (Cond.lays C O n d).before a0 Z = true ∨ ((Cond.laysFinal C O n d).before a0 Z = true ∧ own = O ∧ meth.name = "<init>")) (wi : (Cond.instantiable C kk).before a0 Z = true) (hty : parseFieldDescriptor d = some ty) (hn : narrow ty v = v) (hf : fits ty v = true) (hby : c.code = bc) (hd : decode bc pc = .ok (.putfield index, 3)) (N : Fr n0 locs) (ge : n0 ≤ a) (k : ∀ T' h' locs', Stand p l e R s m args below meth c T' locs' cells slots → T'.heap = h' → Fr n0 locs' → Wr h h' a (Jvm.RoadKit.slotOf Z O n d) v → Fld Z h' a O n d v → h.size ≤ h'.size → own_Go p.tables e below P (T'.setTop (mkF m (pc + 3) Ls st))) : own_Go p.tables e below P (T.setTop (mkF m pc Ls (v :: (.ref a) :: st))) := by
  obtain ⟨T', h', X', e', W, sp⟩ := putF X hx hZ hown w via eT F E L wi hty hn hf (g := mkF m pc Ls (v :: (.ref a) :: st)) rfl rfl (hb hby hd)
  exact own_go sp (k T' h' _ X' e' (Fr.snoc X' N ge) W (F.same W) (Keep.of_wr W).1)
theorem own_newO (X : Stand p l e R s m args below meth c T locs cells slots) (hx : p.tables.exec = Jvm.exec) (hZ : Z.Warmed39 s.vm) {own C : String} {index n : Nat} (hown : s.vm.findClass own = some m.cls) (w : (Cond.classLink own index C).before a0 Z = true) (wi : (Cond.instantiable C n).before a0 Z = true) (wz : (Cond.initialized C).before a0 Z = true) (eT : T.heap = h) (hby : c.code = bc) (hd : decode bc pc = .ok (.new index, 3)) (hc : cells + 1 ≤ R.cells) (hl : slots + n ≤ R.slots) (k : ∀ T' h' b, Stand p l e R s m args below meth c T' locs (cells + 1) (slots + n) → T'.heap = h' → Ext h h' → b = h.size → Exa Z h' b C → (∀ {O nm d : String} {ty : FieldType}, Laid Z a0 C O nm d → parseFieldDescriptor d = some ty → Fld Z h' b O nm d (defaultValue ty)) → b < h'.size → own_Go p.tables e below P (T'.setTop (mkF m (pc + 3) Ls ((.ref b) :: st)))) : own_Go p.tables e below P (T.setTop (mkF m pc Ls st)) := by
  obtain ⟨T', h', X', e', E, A, D, -, sp⟩ := newO X hx hZ hown w wi wz eT (g := mkF m pc Ls st) rfl (hb hby hd) hc hl
  exact own_go sp (k T' h' _ X' e' E rfl A D A.lt)
theorem own_aaloadH (X : Stand p l e R s m args below meth c T locs cells slots) (hx : p.tables.exec = Jvm.exec) (hZ : Z.Warmed39 s.vm) (eT : T.heap = h) {a : Addr} {kc : ClassId} {ty : FieldType} {z j : Int32} {v : Value} {hs : List (Int32 × Value)} {vs : List Value} {dv : Value} (V : Arh Z h a kc ty z hs vs dv) (hty : ty.isReference = true) (hj : ¬ j < 0 ∧ j < z) (hv : getH hs vs dv j.toNatClampNeg = v) (hby : c.code = bc) (hd : decode bc pc = .ok (.aaload, 1)) (k : own_Go p.tables e below P (T.setTop (mkF m (pc + 1) Ls (v :: st)))) : own_Go p.tables e below P (T.setTop (mkF m pc Ls ((.int j) :: (.ref a) :: st))) := by
  obtain ⟨cl, A, q, S, M, H, G⟩ := V
  exact own_go (fun t q => X.aaload hx (by rw [eT]; exact A.1) (State.isArrayOf_alike hZ.alike A.2.1) hty A.2.2 (inb_of S hj) (atH H (inb_of S hj) hv) (g := mkF m pc Ls ((.int j) :: (.ref a) :: st)) rfl rfl (hb hby hd) t q) k
theorem own_castY (X : Stand p l e R s m args below meth c T locs cells slots) (hx : p.tables.exec = Jvm.exec) (hZ : Z.Warmed39 s.vm) {own K : String} {index : Nat} (hown : s.vm.findClass own = some m.cls) (w : (Cond.classLink own index K).before a0 Z = true) (eT : T.heap = h) {a : Addr} (F : Ins Z h a K true) (hby : c.code = bc) (hd : decode bc pc = .ok (.checkcast index, 3)) (k : ∀ T', Stand p l e R s m args below meth c T' locs cells slots → T'.heap = h → own_Go p.tables e below P (T'.setTop (mkF m (pc + 3) Ls ((.ref a) :: st)))) : own_Go p.tables e below P (T.setTop (mkF m pc Ls ((.ref a) :: st))) := by
  obtain ⟨T', X', e', sp⟩ := castY X hx hZ hown w eT F (g := mkF m pc Ls ((.ref a) :: st)) rfl rfl (hb hby hd)
  exact own_go sp (k T' X' e')
theorem own_initO (X : Stand p l e R s m args below meth c T locs cells slots) (hx : p.tables.exec = Jvm.exec) (hZ : Z.Warmed39 s.vm) {own : String} {idx : Nat} (hown : s.vm.findClass own = some m.cls) (w1 : (Cond.methodLink own idx Lib.objectInit).before a0 Z = true) (w2 : (Cond.instanceMethod Lib.objectInit).before a0 Z = true) (w3 : (Cond.code Lib.objectInit ⟨#[0xb1]⟩ 1 none).before a0 Z = true) (eT : T.heap = h) (hsize : Ls.size = c.maxLocals) {a : Addr} (hby : c.code = bc) (hd : decode bc pc = .ok (.invokespecial idx, 3)) (hf : 1 ≤ R.frames) (W : Nat) (hW : 2 * 0 + (st.map fun v => v.category).sum ≤ W) (hl : W + 12 ≤ R.locals) (k : ∀ T', Stand p l e R s m args below meth c T' locs cells slots → T'.heap = h → own_Go p.tables e below P (T'.setTop (mkF m (pc + 3) Ls st))) : own_Go p.tables e below P (T.setTop (mkF m pc Ls ((.ref a) :: st))) := by
  obtain ⟨T', X', e', sp⟩ := initO X hx hZ hown w1 w2 w3 eT (g := mkF m pc Ls ((.ref a) :: st)) rfl hsize rfl (hb hby hd) hf (W := W) hW hl
  exact own_go sp (k T' X' e')
theorem own_callS (X : Stand p l e R s m args below meth c T locs cells slots) (hx : p.tables.exec = Jvm.exec) (hZ : Z.Warmed39 s.vm) {own : String} {index : Nat} {y : MethodName} {bytes : ByteArray} {maxL : Nat} {ret : Option FieldType} {rm : Room} {Qc : Option Value → Heap → List Loc → Prop} {as' : Array Value} (hown : s.vm.findClass own = some m.cls) (w1 : (Cond.methodLink own index y).before a0 Z = true) (w2 : (Cond.static y).before a0 Z = true) (w3 : (Cond.initialized y.cls).before a0 Z = true) (w4 : (Cond.code y bytes maxL ret).before a0 Z = true) (hy : y.cls ≠ "java/lang/invoke/MethodHandle" ∧ y.cls ≠ "java/lang/invoke/VarHandle") (hM : MetFree l y (head1 [Cond.code y bytes maxL ret] rm) (fun a U => a = as' ∧ Z.Warmed39 U.vm ∧ U.heap = h) (fun _ _ _ _ _ => True) (fun _ U o U' => ∃ v L, o = .returned v ∧ Qc v U'.heap L ∧ FrameEnd U o U' L rm.cells rm.slots)) (W : Nat) (hW : 2 * 0 + (st.map fun v => v.category).sum ≤ W) (hf : rm.frames + 1 ≤ R.frames) (hl : W + (maxL + 11) + rm.locals ≤ R.locals) (hsize : Ls.size = c.maxLocals) {argsL stk : List Value} (hlen : ∀ sig, parseMethodDescriptor y.desc = some sig → argsL.length = sig.parameters.length) (hstk : stk = argsL.reverse ++ st) (has : argsL.toArray = as') (hc : cells + rm.cells ≤ R.cells) (hs : slots + rm.slots ≤ R.slots) (eT : T.heap = h) (hby : c.code = bc) (hd : decode bc pc = .ok (.invokestatic index, 3)) (k : ∀ T' v L, Stand p l e R s m args below meth c T' (locs ++ L) (cells + rm.cells) (slots + rm.slots) → Qc v T'.heap L → own_Go p.tables e below P (T'.setTop (mkF m (pc + 3) Ls (v.toList ++ st)))) : own_Go p.tables e below P (T.setTop (mkF m pc Ls stk)) := by
  subst hstk
  obtain ⟨v, _, ⟨T', L', k', n'⟩, -, X', ⟨L, hQ, hl', hy', hz'⟩, sp⟩ := Jvm.LawKit.callS X hx hown (mvT hZ w1) (mvT hZ w2) (mvT hZ w3) (mvT hZ w4) hy (backOf (W := W) hM hZ w4 w3 hf hl) (g := mkF m pc Ls (argsL.reverse ++ st)) rfl hsize (argsL := argsL) (rest := st) hlen rfl hW (hb hby hd) (fun _ _ => ⟨has, eT, hc, hs⟩)
  dsimp only [Pt.U, Pt.locs, Pt.cells, Pt.slots] at X' hl' hy' hz' sp hQ
  subst hl' hy' hz'
  exact own_go sp (k T' v L X' hQ)
theorem own_special (X : Stand p l e R s m args below meth c T locs cells slots) (hx : p.tables.exec = Jvm.exec) (hZ : Z.Warmed39 s.vm) {own : String} {index : Nat} {y : MethodName} {bytes : ByteArray} {maxL : Nat} {rm : Room} {Qc : Option Value → Heap → List Loc → Prop} {as' : Array Value} (hy1 : y.name = "<init>") (hown : s.vm.findClass own = some m.cls) (w1 : (Cond.methodLink own index y).before a0 Z = true) (w2 : (Cond.instanceMethod y).before a0 Z = true) (w3 : (Cond.initialized y.cls).before a0 Z = true) (w4 : (Cond.code y bytes maxL none).before a0 Z = true) (hy : y.cls ≠ "java/lang/invoke/MethodHandle" ∧ y.cls ≠ "java/lang/invoke/VarHandle") (hM : MetFree l y (head1 [Cond.code y bytes maxL none] rm) (fun a U => a = as' ∧ Z.Warmed39 U.vm ∧ U.heap = h) (fun _ _ _ _ _ => True) (fun _ U o U' => ∃ v L, o = .returned v ∧ Qc v U'.heap L ∧ FrameEnd U o U' L rm.cells rm.slots)) (W : Nat) (hW : 2 * 0 + (st.map fun v => v.category).sum ≤ W) (hf : rm.frames + 1 ≤ R.frames) (hl : W + (maxL + 11) + rm.locals ≤ R.locals) (hsize : Ls.size = c.maxLocals) {argsL stk : List Value} {a : Addr} (hlen : ∀ sig, parseMethodDescriptor y.desc = some sig → argsL.length = sig.parameters.length) (hstk : stk = argsL.reverse ++ (.ref a) :: st) (has : ((.ref a) :: argsL).toArray = as') (hc : cells + rm.cells ≤ R.cells) (hs : slots + rm.slots ≤ R.slots) (eT : T.heap = h) (hby : c.code = bc) (hd : decode bc pc = .ok (.invokespecial index, 3)) (k : ∀ T' v L, Stand p l e R s m args below meth c T' (locs ++ L) (cells + rm.cells) (slots + rm.slots) → Qc v T'.heap L → own_Go p.tables e below P (T'.setTop (mkF m (pc + 3) Ls (v.toList ++ st)))) : own_Go p.tables e below P (T.setTop (mkF m pc Ls stk)) := by
  subst hstk
  obtain ⟨v, _, ⟨T', L', k', n'⟩, -, X', ⟨L, hQ, hl', hy', hz'⟩, sp⟩ := X.specialBack hx hy1 hown (mvT hZ w1) (mvT hZ w2) (mvT hZ w4) hy (backOf (W := W) hM hZ w4 w3 hf hl) (g := mkF m pc Ls (argsL.reverse ++ (.ref a) :: st)) rfl hsize (Steps.refl _) (a := a) (argsL := argsL) (rest := st) hlen rfl hW (hb hby hd) (fun _ _ => ⟨has, eT, hc, hs⟩)
  dsimp only [Pt.U, Pt.locs, Pt.cells, Pt.slots] at X' hl' hy' hz' sp hQ
  subst hl' hy' hz'
  exact own_go (fun t q => sp.trans q) (k T' v L X' hQ)
theorem own_virtual (X : Stand p l e R s m args below meth c T locs cells slots) (hx : p.tables.exec = Jvm.exec) (hZ : Z.Warmed39 s.vm) {own C : String} {index : Nat} {y z : MethodName} {bytes : ByteArray} {maxL : Nat} {ret : Option FieldType} {rm : Room} {Qc : Option Value → Heap → List Loc → Prop} {as' : Array Value} (hown : s.vm.findClass own = some m.cls) (w1 : (Cond.methodLink own index y).before a0 Z = true) (w2 : (Cond.declares y).before a0 Z = true) (nf : NotFace s y) (w5 : (Cond.selects C y z).before a0 Z = true) (w6 : (Cond.instanceMethod z).before a0 Z = true) (w3 : (Cond.initialized z.cls).before a0 Z = true) (w4 : (Cond.code z bytes maxL ret).before a0 Z = true) (hy : y.cls ≠ "java/lang/invoke/MethodHandle" ∧ y.cls ≠ "java/lang/invoke/VarHandle") (hM : MetFree l z (head1 [Cond.code z bytes maxL ret] rm) (fun a U => a = as' ∧ Z.Warmed39 U.vm ∧ U.heap = h) (fun _ _ _ _ _ => True) (fun _ U o U' => ∃ v L, o = .returned v ∧ Qc v U'.heap L ∧ FrameEnd U o U' L rm.cells rm.slots)) (W : Nat) (hW : 2 * 0 + (st.map fun v => v.category).sum ≤ W) (hf : rm.frames + 1 ≤ R.frames) (hl : W + (maxL + 11) + rm.locals ≤ R.locals) (hsize : Ls.size = c.maxLocals) {argsL stk : List Value} {a : Addr} (E : Exa Z h a C) (hlen : ∀ sig, parseMethodDescriptor y.desc = some sig → argsL.length = sig.parameters.length) (hstk : stk = argsL.reverse ++ (.ref a) :: st) (has : ((.ref a) :: argsL).toArray = as') (hc : cells + rm.cells ≤ R.cells) (hs : slots + rm.slots ≤ R.slots) (eT : T.heap = h) (hby : c.code = bc) (hd : decode bc pc = .ok (.invokevirtual index, 3)) (k : ∀ T' v L, Stand p l e R s m args below meth c T' (locs ++ L) (cells + rm.cells) (slots + rm.slots) → Qc v T'.heap L → own_Go p.tables e below P (T'.setTop (mkF m (pc + 3) Ls (v.toList ++ st)))) : own_Go p.tables e below P (T.setTop (mkF m pc Ls stk)) := by
  subst hstk
  obtain ⟨cq, kq, qa, qb, qc⟩ := isOf hZ eT E
  obtain ⟨v, _, ⟨T', L', k', n'⟩, -, X', ⟨L, hQ, hl', hy', hz'⟩, sp⟩ := X.virtualBack hx hown (mvT hZ w1) (mvT hZ w2) nf (mvT hZ w5) (mvT hZ w6) hy (backOf (W := W) hM hZ w4 w3 hf hl) qa qc (g := mkF m pc Ls (argsL.reverse ++ (.ref a) :: st)) rfl hsize (Steps.refl _) (argsL := argsL) (rest := st) hlen rfl hW (hb hby hd) (fun _ _ => ⟨has, eT, hc, hs⟩)
  dsimp only [Pt.U, Pt.locs, Pt.cells, Pt.slots] at X' hl' hy' hz' sp hQ
  subst hl' hy' hz'
  exact own_go (fun t q => sp.trans q) (k T' v L X' hQ)
theorem own_virtualUp (X : Stand p l e R s m args below meth c T locs cells slots) (hx : p.tables.exec = Jvm.exec) (hZ : Z.Warmed39 s.vm) {own C owner : String} {index : Nat} {y z : MethodName} {bytes : ByteArray} {maxL : Nat} {ret : Option FieldType} {rm : Room} {Qc : Option Value → Heap → List Loc → Prop} {as' : Array Value} (hown : s.vm.findClass own = some m.cls) (w1 : (Cond.methodLink own index y).before a0 Z = true) (w7 : (Cond.sameMethod y.cls owner y.name y.desc).before a0 Z = true) (w2 : (Cond.declares ⟨owner, y.name, y.desc⟩).before a0 Z = true) (w5 : (Cond.selects C y z).before a0 Z = true) (w6 : (Cond.instanceMethod z).before a0 Z = true) (w3 : (Cond.initialized z.cls).before a0 Z = true) (w4 : (Cond.code z bytes maxL ret).before a0 Z = true) (hy : owner ≠ "java/lang/invoke/MethodHandle" ∧ owner ≠ "java/lang/invoke/VarHandle") (hM : MetFree l z (head1 [Cond.code z bytes maxL ret] rm) (fun a U => a = as' ∧ Z.Warmed39 U.vm ∧ U.heap = h) (fun _ _ _ _ _ => True) (fun _ U o U' => ∃ v L, o = .returned v ∧ Qc v U'.heap L ∧ FrameEnd U o U' L rm.cells rm.slots)) (W : Nat) (hW : 2 * 0 + (st.map fun v => v.category).sum ≤ W) (hf : rm.frames + 1 ≤ R.frames) (hl : W + (maxL + 11) + rm.locals ≤ R.locals) (hsize : Ls.size = c.maxLocals) {argsL stk : List Value} {a : Addr} (E : Exa Z h a C) (hlen : ∀ sig, parseMethodDescriptor y.desc = some sig → argsL.length = sig.parameters.length) (hstk : stk = argsL.reverse ++ (.ref a) :: st) (has : ((.ref a) :: argsL).toArray = as') (hc : cells + rm.cells ≤ R.cells) (hs : slots + rm.slots ≤ R.slots) (eT : T.heap = h) (hby : c.code = bc) (hd : decode bc pc = .ok (.invokevirtual index, 3)) (k : ∀ T' v L, Stand p l e R s m args below meth c T' (locs ++ L) (cells + rm.cells) (slots + rm.slots) → Qc v T'.heap L → own_Go p.tables e below P (T'.setTop (mkF m (pc + 3) Ls (v.toList ++ st)))) : own_Go p.tables e below P (T.setTop (mkF m pc Ls stk)) := by
  subst hstk
  obtain ⟨cq, kq, qa, qb, qc⟩ := isOf hZ eT E
  obtain ⟨v, _, ⟨T', L', k', n'⟩, -, X', ⟨L, hQ, hl', hy', hz'⟩, sp⟩ := X.virtualBackUp hx hown (mvT hZ w1) (mvT hZ w7) (mvT hZ w2) hy (mvT hZ w5) (mvT hZ w6) (backOf (W := W) hM hZ w4 w3 hf hl) qa qc (g := mkF m pc Ls (argsL.reverse ++ (.ref a) :: st)) rfl hsize (Steps.refl _) (argsL := argsL) (rest := st) hlen rfl hW (hb hby hd) (fun _ _ => ⟨has, eT, hc, hs⟩)
  dsimp only [Pt.U, Pt.locs, Pt.cells, Pt.slots] at X' hl' hy' hz' sp hQ
  subst hl' hy' hz'
  exact own_go (fun t q => sp.trans q) (k T' v L X' hQ)
theorem own_cloneH (X : Stand p l e R s m args below meth c T locs cells slots) (hx : p.tables.exec = Jvm.exec) (hZ : Z.Warmed39 s.vm) {own ad : String} {index : Nat} (hown : s.vm.findClass own = some m.cls) (w1 : (Cond.methodLink own index ⟨ad, "clone", "()Ljava/lang/Object;"⟩).before a0 Z = true) (w2 : (Cond.sameMethod ad "java/lang/Object" "clone" "()Ljava/lang/Object;").before a0 Z = true) (w3 : (Cond.native ⟨"java/lang/Object", "clone", "()Ljava/lang/Object;"⟩).before a0 Z = true) (w4 : (Cond.instanceMethod ⟨"java/lang/Object", "clone", "()Ljava/lang/Object;"⟩).before a0 Z = true) (w5 : (Cond.selects ad ⟨ad, "clone", "()Ljava/lang/Object;"⟩ ⟨"java/lang/Object", "clone", "()Ljava/lang/Object;"⟩).before a0 Z = true) (w6 : (Cond.castable ad "java/lang/Cloneable").before a0 Z = true) (eT : T.heap = h) {a : Addr} {kc : ClassId} {ty : FieldType} {z : Int32} {hs : List (Int32 × Value)} {vs : List Value} {dv : Value} (F : Arh Z h a kc ty z hs vs dv) (E : Exa Z h a ad) (hsize : Ls.size = c.maxLocals) (hby : c.code = bc) (hd : decode bc pc = .ok (.invokevirtual index, 3)) (hf : 1 ≤ R.frames) (W cap : Nat) (hW : 2 * 0 + (st.map fun v => v.category).sum ≤ W) (hl : W + 14 ≤ R.locals) (hcap : z.toNatClampNeg ≤ cap) (hc : cells + 1 ≤ R.cells) (hsl : slots + cap ≤ R.slots) (k : ∀ T' h' b, Stand p l e R s m args below meth c T' locs (cells + 1) (slots + cap) → T'.heap = h' → Ext h h' → b = h.size → Arh Z h' b kc ty z hs vs dv → Exa Z h' b ad → b < h'.size → own_Go p.tables e below P (T'.setTop (mkF m (pc + 3) Ls ((.ref b) :: st)))) : own_Go p.tables e below P (T.setTop (mkF m pc Ls ((.ref a) :: st))) := by
  obtain ⟨T', h', X', e', E', A', C', sp⟩ := cloneH X hx hZ hown w1 w2 w3 w4 w5 w6 eT F E (g := mkF m pc Ls ((.ref a) :: st)) rfl hsize rfl (hb hby hd) hf (W := W) (cap := cap) hW hl hcap hc hsl
  exact own_go sp (k T' h' _ X' e' E' rfl A' C' C'.lt)
end OwnGo
theorem own_sta_keep {Z : State} {h h' : Heap} {C n d : String} {v : Value} {ws : List Addr} (F : Sta Z h C n d v) (K : Keep h h' ws) (q : ∀ x ∈ ws, ∀ cell : Cell, h[x]? = some cell → cell.vm.isStatics = false) : Sta Z h' C n d v := by
  obtain ⟨cf, i, k, f, st, cell, h1, h2, h3, h4, h5, h6, h7⟩ := F
  refine ⟨cf, i, k, f, st, cell, h1, h2, h3, h4, K.2.1 st cell h5 fun hm => ?_, h6, h7⟩
  rw [q st hm cell h5] at h6; cases h6
theorem own_and3 (x : Int32) : x &&& (3 : Int32) = (0 : Int32) ∨ x &&& (3 : Int32) = (1 : Int32) ∨ x &&& (3 : Int32) = (2 : Int32) ∨ x &&& (3 : Int32) = (3 : Int32) := by
  obtain ⟨h1, h2⟩ := c_and x 3 (by decide)
  have h3 : (3 : Int32).toInt = 3 := by decide
  rw [h3] at h2
  have h4 : (x &&& 3).toInt = 0 ∨ (x &&& 3).toInt = 1 ∨ (x &&& 3).toInt = 2 ∨ (x &&& 3).toInt = 3 := by omega
  rcases h4 with h | h | h | h
  · exact Or.inl (Int32.toInt_inj.mp (h.trans (by decide)))
  · exact Or.inr (Or.inl (Int32.toInt_inj.mp (h.trans (by decide))))
  · exact Or.inr (Or.inr (Or.inl (Int32.toInt_inj.mp (h.trans (by decide)))))
  · exact Or.inr (Or.inr (Or.inr (Int32.toInt_inj.mp (h.trans (by decide)))))
theorem ef_pick_0 (m : MethodId) (x0 : Int32) : entryFrame m #[(.int x0)] 1 = mkF m 0 #[.val (.int x0)] [] := by first | (simp [entryFrame, mkF, argsToLocals, Value.category]; done) | rfl
theorem pn_1 : plainName "com/example/undercroft/undercroft/store/WemiClassPartClassPinLaw" = true := by first | (simp [plainName, overriddenIn]; done) | decide +kernel
theorem d1_0 : decode method_2_code 0 = .ok (.iload_n 0, 1) := by decide +kernel
theorem d1_1 : decode method_2_code 1 = .ok (.ifCond .ne 7, 3) := by decide +kernel
theorem d1_4 : decode method_2_code 4 = .ok (.getstatic 7, 3) := by decide +kernel
theorem d1_7 : decode method_2_code 7 = .ok (.areturn, 1) := by decide +kernel
def Q_pick_0 (Z : State) (w : Nat) (h0 : Heap) (n0 : Nat) (vR : Option Value) (hR : Heap) (LR : List Loc) : Prop := vR = some (.ref w) ∧ Fr n0 LR ∧ hR = h0
set_option maxRecDepth 65536 in
set_option maxHeartbeats 40000000 in
theorem pick_0 (l : Launch) (Z : State) (a0 : Array Value) (hw : ∀ d ∈ tables_1, d.before a0 Z = true) (ws : List Jvm.Cond) (w : Nat) (h0 : Heap) (n0 : Nat) (Z0 : n0 ≤ h0.size) (S_WORK : Sta Z h0 "com/example/undercroft/undercroft/store/WemiClass" "WORK" "Lcom/example/undercroft/undercroft/store/WemiClass;" (.ref w)) :
    own_M l (⟨"com/example/undercroft/undercroft/store/WemiClassPartClassPinLaw", "pick", "(I)Lcom/example/undercroft/undercroft/store/WemiClass;"⟩ : MethodName) method_2_code 1 (some (.object "com/example/undercroft/undercroft/store/WemiClass")) ws ({ frames := 0, cells := 0, slots := 0, locals := 0 } : Room) Z #[(.int 0)] h0 (Q_pick_0 Z w h0 n0) := by
  refine own_body (own := "com/example/undercroft/undercroft/store/WemiClassPartClassPinLaw") rfl (plainFor_of_name pn_1) (fun m => ef_pick_0 m (0 : Int32)) ?_
  intro p e s m below meth c s₁ Bd hml hZ hh hx hby hown X0 e0
  have N0 := Fr.nil n0
  refine own_iloadN X0.here hx hby d1_0 rfl ?_
  refine own_ifNo X0.here hx hby d1_1 ((if0 _ _).trans (teq (show (0 : Int32) = (0 : Int32) from (by decide))).2) ?_
  refine own_getS X0 hx hZ hown (host := "") (Or.inl (own_w hw 4 rfl)) Via.refl e0 S_WORK hby d1_4 ?_
  intro T1 X1 e1
  obtain ⟨fs, hr, hrun, hended, hW, hsame⟩ := X1.leave (v := some (.ref w)) (fun h => by rw [Bd.returns] at h; cases h)
  refine own_ret (t := T1.setFrames fs) ?_ ⟨_, hrun, hended, _, _, rfl, ?_, ⟨_, rfl⟩, hW, hsame.mono (by decide) (by decide)⟩
  · exact retOut X1 hx Bd.returns rfl (Or.inr (Or.inr (Or.inr (Or.inr ⟨rfl, rfl, rfl⟩)))) (hb hby d1_7) hr
  · show Q_pick_0 Z w h0 n0 _ T1.heap _
    rw [e1]
    exact ⟨rfl, N0, rfl⟩
theorem d1_8 : decode method_2_code 8 = .ok (.iload_n 0, 1) := by decide +kernel
theorem d1_9 : decode method_2_code 9 = .ok (.iconst 1, 1) := by decide +kernel
theorem d1_10 : decode method_2_code 10 = .ok (.if_icmp .ne 7, 3) := by decide +kernel
theorem d1_13 : decode method_2_code 13 = .ok (.getstatic 13, 3) := by decide +kernel
theorem d1_16 : decode method_2_code 16 = .ok (.areturn, 1) := by decide +kernel
def Q_pick_1 (Z : State) (w : Nat) (h0 : Heap) (n0 : Nat) (vR : Option Value) (hR : Heap) (LR : List Loc) : Prop := vR = some (.ref w) ∧ Fr n0 LR ∧ hR = h0
set_option maxRecDepth 65536 in
set_option maxHeartbeats 40000000 in
theorem pick_1 (l : Launch) (Z : State) (a0 : Array Value) (hw : ∀ d ∈ tables_1, d.before a0 Z = true) (ws : List Jvm.Cond) (w : Nat) (h0 : Heap) (n0 : Nat) (Z0 : n0 ≤ h0.size) (S_EXPRESSION : Sta Z h0 "com/example/undercroft/undercroft/store/WemiClass" "EXPRESSION" "Lcom/example/undercroft/undercroft/store/WemiClass;" (.ref w)) :
    own_M l (⟨"com/example/undercroft/undercroft/store/WemiClassPartClassPinLaw", "pick", "(I)Lcom/example/undercroft/undercroft/store/WemiClass;"⟩ : MethodName) method_2_code 1 (some (.object "com/example/undercroft/undercroft/store/WemiClass")) ws ({ frames := 0, cells := 0, slots := 0, locals := 0 } : Room) Z #[(.int 1)] h0 (Q_pick_1 Z w h0 n0) := by
  refine own_body (own := "com/example/undercroft/undercroft/store/WemiClassPartClassPinLaw") rfl (plainFor_of_name pn_1) (fun m => ef_pick_0 m (1 : Int32)) ?_
  intro p e s m below meth c s₁ Bd hml hZ hh hx hby hown X0 e0
  have N0 := Fr.nil n0
  refine own_iloadN X0.here hx hby d1_0 rfl ?_
  refine own_ifYes X0.here hx hby (pc' := 8) d1_1 ((if0 _ _).trans (feq (show ¬ ((1 : Int32) = (0 : Int32)) from (by decide))).2) (by decide) (by decide) ?_
  refine own_iloadN X0.here hx hby d1_8 rfl ?_
  refine own_iconst X0.here hx hby d1_9 (v := (1 : Int32)) (by decide) ?_
  refine own_icmpNo X0.here hx hby d1_10 (teq (show (1 : Int32) = (1 : Int32) from (by decide))).2 ?_
  refine own_getS X0 hx hZ hown (host := "") (Or.inl (own_w hw 71 rfl)) Via.refl e0 S_EXPRESSION hby d1_13 ?_
  intro T1 X1 e1
  obtain ⟨fs, hr, hrun, hended, hW, hsame⟩ := X1.leave (v := some (.ref w)) (fun h => by rw [Bd.returns] at h; cases h)
  refine own_ret (t := T1.setFrames fs) ?_ ⟨_, hrun, hended, _, _, rfl, ?_, ⟨_, rfl⟩, hW, hsame.mono (by decide) (by decide)⟩
  · exact retOut X1 hx Bd.returns rfl (Or.inr (Or.inr (Or.inr (Or.inr ⟨rfl, rfl, rfl⟩)))) (hb hby d1_16) hr
  · show Q_pick_1 Z w h0 n0 _ T1.heap _
    rw [e1]
    exact ⟨rfl, N0, rfl⟩
theorem d1_17 : decode method_2_code 17 = .ok (.iload_n 0, 1) := by decide +kernel
theorem d1_18 : decode method_2_code 18 = .ok (.iconst 2, 1) := by decide +kernel
theorem d1_19 : decode method_2_code 19 = .ok (.if_icmp .ne 7, 3) := by decide +kernel
theorem d1_22 : decode method_2_code 22 = .ok (.getstatic 16, 3) := by decide +kernel
theorem d1_25 : decode method_2_code 25 = .ok (.areturn, 1) := by decide +kernel
def Q_pick_2 (Z : State) (w : Nat) (h0 : Heap) (n0 : Nat) (vR : Option Value) (hR : Heap) (LR : List Loc) : Prop := vR = some (.ref w) ∧ Fr n0 LR ∧ hR = h0
set_option maxRecDepth 65536 in
set_option maxHeartbeats 40000000 in
theorem pick_2 (l : Launch) (Z : State) (a0 : Array Value) (hw : ∀ d ∈ tables_1, d.before a0 Z = true) (ws : List Jvm.Cond) (w : Nat) (h0 : Heap) (n0 : Nat) (Z0 : n0 ≤ h0.size) (S_MANIFESTATION : Sta Z h0 "com/example/undercroft/undercroft/store/WemiClass" "MANIFESTATION" "Lcom/example/undercroft/undercroft/store/WemiClass;" (.ref w)) :
    own_M l (⟨"com/example/undercroft/undercroft/store/WemiClassPartClassPinLaw", "pick", "(I)Lcom/example/undercroft/undercroft/store/WemiClass;"⟩ : MethodName) method_2_code 1 (some (.object "com/example/undercroft/undercroft/store/WemiClass")) ws ({ frames := 0, cells := 0, slots := 0, locals := 0 } : Room) Z #[(.int 2)] h0 (Q_pick_2 Z w h0 n0) := by
  refine own_body (own := "com/example/undercroft/undercroft/store/WemiClassPartClassPinLaw") rfl (plainFor_of_name pn_1) (fun m => ef_pick_0 m (2 : Int32)) ?_
  intro p e s m below meth c s₁ Bd hml hZ hh hx hby hown X0 e0
  have N0 := Fr.nil n0
  refine own_iloadN X0.here hx hby d1_0 rfl ?_
  refine own_ifYes X0.here hx hby (pc' := 8) d1_1 ((if0 _ _).trans (feq (show ¬ ((2 : Int32) = (0 : Int32)) from (by decide))).2) (by decide) (by decide) ?_
  refine own_iloadN X0.here hx hby d1_8 rfl ?_
  refine own_iconst X0.here hx hby d1_9 (v := (1 : Int32)) (by decide) ?_
  refine own_icmpYes X0.here hx hby (pc' := 17) d1_10 (feq (show ¬ ((2 : Int32) = (1 : Int32)) from (by decide))).2 (by decide) (by decide) ?_
  refine own_iloadN X0.here hx hby d1_17 rfl ?_
  refine own_iconst X0.here hx hby d1_18 (v := (2 : Int32)) (by decide) ?_
  refine own_icmpNo X0.here hx hby d1_19 (teq (show (2 : Int32) = (2 : Int32) from (by decide))).2 ?_
  refine own_getS X0 hx hZ hown (host := "") (Or.inl (own_w hw 77 rfl)) Via.refl e0 S_MANIFESTATION hby d1_22 ?_
  intro T1 X1 e1
  obtain ⟨fs, hr, hrun, hended, hW, hsame⟩ := X1.leave (v := some (.ref w)) (fun h => by rw [Bd.returns] at h; cases h)
  refine own_ret (t := T1.setFrames fs) ?_ ⟨_, hrun, hended, _, _, rfl, ?_, ⟨_, rfl⟩, hW, hsame.mono (by decide) (by decide)⟩
  · exact retOut X1 hx Bd.returns rfl (Or.inr (Or.inr (Or.inr (Or.inr ⟨rfl, rfl, rfl⟩)))) (hb hby d1_25) hr
  · show Q_pick_2 Z w h0 n0 _ T1.heap _
    rw [e1]
    exact ⟨rfl, N0, rfl⟩
theorem d1_26 : decode method_2_code 26 = .ok (.getstatic 19, 3) := by decide +kernel
theorem d1_29 : decode method_2_code 29 = .ok (.areturn, 1) := by decide +kernel
def Q_pick_3 (Z : State) (w : Nat) (h0 : Heap) (n0 : Nat) (vR : Option Value) (hR : Heap) (LR : List Loc) : Prop := vR = some (.ref w) ∧ Fr n0 LR ∧ hR = h0
set_option maxRecDepth 65536 in
set_option maxHeartbeats 40000000 in
theorem pick_3 (l : Launch) (Z : State) (a0 : Array Value) (hw : ∀ d ∈ tables_1, d.before a0 Z = true) (ws : List Jvm.Cond) (w : Nat) (h0 : Heap) (n0 : Nat) (Z0 : n0 ≤ h0.size) (S_ITEM : Sta Z h0 "com/example/undercroft/undercroft/store/WemiClass" "ITEM" "Lcom/example/undercroft/undercroft/store/WemiClass;" (.ref w)) :
    own_M l (⟨"com/example/undercroft/undercroft/store/WemiClassPartClassPinLaw", "pick", "(I)Lcom/example/undercroft/undercroft/store/WemiClass;"⟩ : MethodName) method_2_code 1 (some (.object "com/example/undercroft/undercroft/store/WemiClass")) ws ({ frames := 0, cells := 0, slots := 0, locals := 0 } : Room) Z #[(.int 3)] h0 (Q_pick_3 Z w h0 n0) := by
  refine own_body (own := "com/example/undercroft/undercroft/store/WemiClassPartClassPinLaw") rfl (plainFor_of_name pn_1) (fun m => ef_pick_0 m (3 : Int32)) ?_
  intro p e s m below meth c s₁ Bd hml hZ hh hx hby hown X0 e0
  have N0 := Fr.nil n0
  refine own_iloadN X0.here hx hby d1_0 rfl ?_
  refine own_ifYes X0.here hx hby (pc' := 8) d1_1 ((if0 _ _).trans (feq (show ¬ ((3 : Int32) = (0 : Int32)) from (by decide))).2) (by decide) (by decide) ?_
  refine own_iloadN X0.here hx hby d1_8 rfl ?_
  refine own_iconst X0.here hx hby d1_9 (v := (1 : Int32)) (by decide) ?_
  refine own_icmpYes X0.here hx hby (pc' := 17) d1_10 (feq (show ¬ ((3 : Int32) = (1 : Int32)) from (by decide))).2 (by decide) (by decide) ?_
  refine own_iloadN X0.here hx hby d1_17 rfl ?_
  refine own_iconst X0.here hx hby d1_18 (v := (2 : Int32)) (by decide) ?_
  refine own_icmpYes X0.here hx hby (pc' := 26) d1_19 (feq (show ¬ ((3 : Int32) = (2 : Int32)) from (by decide))).2 (by decide) (by decide) ?_
  refine own_getS X0 hx hZ hown (host := "") (Or.inl (own_w hw 72 rfl)) Via.refl e0 S_ITEM hby d1_26 ?_
  intro T1 X1 e1
  obtain ⟨fs, hr, hrun, hended, hW, hsame⟩ := X1.leave (v := some (.ref w)) (fun h => by rw [Bd.returns] at h; cases h)
  refine own_ret (t := T1.setFrames fs) ?_ ⟨_, hrun, hended, _, _, rfl, ?_, ⟨_, rfl⟩, hW, hsame.mono (by decide) (by decide)⟩
  · exact retOut X1 hx Bd.returns rfl (Or.inr (Or.inr (Or.inr (Or.inr ⟨rfl, rfl, rfl⟩)))) (hb hby d1_29) hr
  · show Q_pick_3 Z w h0 n0 _ T1.heap _
    rw [e1]
    exact ⟨rfl, N0, rfl⟩
theorem ef_values_ (m : MethodId)  : entryFrame m #[] 0 = mkF m 0 #[] [] := by first | (simp [entryFrame, mkF, argsToLocals, Value.category]; done) | rfl
theorem pn_3 : plainName "com/example/undercroft/undercroft/store/WemiClass" = true := by first | (simp [plainName, overriddenIn]; done) | decide +kernel
theorem d3_0 : decode prog_24_method_1_code 0 = .ok (.getstatic 16, 3) := by decide +kernel
theorem d3_3 : decode prog_24_method_1_code 3 = .ok (.invokevirtual 20, 3) := by decide +kernel
theorem d3_6 : decode prog_24_method_1_code 6 = .ok (.checkcast 21, 3) := by decide +kernel
theorem d3_9 : decode prog_24_method_1_code 9 = .ok (.areturn, 1) := by decide +kernel
def Q_values_ (Z : State) (wV : Nat) (wW : Nat) (wE : Nat) (wM : Nat) (wI : Nat) (kc : ClassId) (h0 : Heap) (n0 : Nat) (vR : Option Value) (hR : Heap) (LR : List Loc) : Prop := ∃ (b : Nat), vR = some (.ref b) ∧ Fr n0 LR ∧ Keep h0 hR [] ∧ h0.size ≤ b ∧ (Arh Z hR b kc (.object "com/example/undercroft/undercroft/store/WemiClass") (4 : Int32) [] [(.ref wW), (.ref wE), (.ref wM), (.ref wI)] .null)
set_option maxRecDepth 65536 in
set_option maxHeartbeats 40000000 in
theorem values_ (l : Launch) (Z : State) (a0 : Array Value) (hw : ∀ d ∈ tables_1, d.before a0 Z = true) (ws : List Jvm.Cond) (wV : Nat) (wW : Nat) (wE : Nat) (wM : Nat) (wI : Nat) (kc : ClassId) (h0 : Heap) (n0 : Nat) (Z0 : n0 ≤ h0.size) (S_VALUES : Sta Z h0 "com/example/undercroft/undercroft/store/WemiClass" "$VALUES" "[Lcom/example/undercroft/undercroft/store/WemiClass;" (.ref wV)) (V_wV : Arv Z h0 wV kc (.object "com/example/undercroft/undercroft/store/WemiClass") (4 : Int32) [(.ref wW), (.ref wE), (.ref wM), (.ref wI)] .null) (E_wV : Exa Z h0 wV "[Lcom/example/undercroft/undercroft/store/WemiClass;") :
    own_M l (⟨"com/example/undercroft/undercroft/store/WemiClass", "values", "()[Lcom/example/undercroft/undercroft/store/WemiClass;"⟩ : MethodName) prog_24_method_1_code 0 (some (.array (.object "com/example/undercroft/undercroft/store/WemiClass"))) ws ({ frames := 1, cells := 1, slots := 4, locals := 14 } : Room) Z #[] h0 (Q_values_ Z wV wW wE wM wI kc h0 n0) := by
  refine own_body (own := "com/example/undercroft/undercroft/store/WemiClass") rfl (plainFor_of_name pn_3) (fun m => ef_values_ m ) ?_
  intro p e s m below meth c s₁ Bd hml hZ hh hx hby hown X0 e0
  have N0 := Fr.nil n0
  have lt1 : h0.size > wV := V_wV.lt
  refine own_getS X0 hx hZ hown (host := "") (Or.inl (own_w hw 17 rfl)) Via.refl e0 S_VALUES hby d3_0 ?_
  intro T2 X2 e2
  refine own_cloneH X2 hx hZ (ad := "[Lcom/example/undercroft/undercroft/store/WemiClass;") hown (own_w hw 19 rfl) (own_w hw 20 rfl) (own_w hw 24 rfl) (own_w hw 22 rfl) (own_w hw 23 rfl) (own_w hw 25 rfl) e2 (Arv.arh V_wV) E_wV (by rw [hml]; rfl) hby d3_3 (by decide) 0 4 (Nat.le_of_eq rfl) (by decide) (by decide) (by decide) (by decide) ?_
  intro T3 h3 b3 X3 e3 E3 g3 A3 C3 lt3
  have z4 : h0.size ≤ h3.size := E3.1
  refine own_castY X3 hx hZ hown (own_w hw 29 rfl) e3 (Ins.self C3) hby d3_6 ?_
  intro T5 X5 e5
  have K6 : Keep h0 h3 [] := ((Keep.refl h0 []).ext E3)
  obtain ⟨fs, hr, hrun, hended, hW, hsame⟩ := X5.leave (v := some (.ref b3)) (fun h => by rw [Bd.returns] at h; cases h)
  refine own_ret (t := T5.setFrames fs) ?_ ⟨_, hrun, hended, _, _, rfl, ?_, ⟨_, rfl⟩, hW, hsame.mono (by decide) (by decide)⟩
  · exact retOut X5 hx Bd.returns rfl (Or.inr (Or.inr (Or.inr (Or.inr ⟨rfl, rfl, rfl⟩)))) (hb hby d3_9) hr
  · show Q_values_ Z wV wW wE wM wI kc h0 n0 _ T5.heap _
    rw [e5]
    exact ⟨b3, rfl, N0, K6, (by omega), A3⟩
theorem ef_ordinal_ (m : MethodId) (x0 : Nat) : entryFrame m #[(.ref x0)] 1 = mkF m 0 #[.val (.ref x0)] [] := by first | (simp [entryFrame, mkF, argsToLocals, Value.category]; done) | rfl
theorem pn_4 : plainName "java/lang/Enum" = true := by first | (simp [plainName, overriddenIn]; done) | decide +kernel
theorem d4_0 : decode jdk_37_method_2_code 0 = .ok (.aload_n 0, 1) := by decide +kernel
theorem d4_1 : decode jdk_37_method_2_code 1 = .ok (.getfield 7, 3) := by decide +kernel
theorem d4_4 : decode jdk_37_method_2_code 4 = .ok (.ireturn, 1) := by decide +kernel
def Q_ordinal_ (Z : State) (a1 : Nat) (o : Int32) (h0 : Heap) (n0 : Nat) (vR : Option Value) (hR : Heap) (LR : List Loc) : Prop := vR = some (.int o) ∧ Fr n0 LR ∧ hR = h0
set_option maxRecDepth 65536 in
set_option maxHeartbeats 40000000 in
theorem ordinal_ (l : Launch) (Z : State) (a0 : Array Value) (hw : ∀ d ∈ tables_1, d.before a0 Z = true) (ws : List Jvm.Cond) (a1 : Nat) (o : Int32) (h0 : Heap) (n0 : Nat) (Z0 : n0 ≤ h0.size) (F_ordinal_a1 : Fld Z h0 a1 "java/lang/Enum" "ordinal" "I" (.int o)) :
    own_M l (⟨"java/lang/Enum", "ordinal", "()I"⟩ : MethodName) jdk_37_method_2_code 1 (some .int) ws ({ frames := 0, cells := 0, slots := 0, locals := 0 } : Room) Z #[(.ref a1)] h0 (Q_ordinal_ Z a1 o h0 n0) := by
  refine own_body (own := "java/lang/Enum") rfl (plainFor_of_name pn_4) (fun m => ef_ordinal_ m a1) ?_
  intro p e s m below meth c s₁ Bd hml hZ hh hx hby hown X0 e0
  have N0 := Fr.nil n0
  have lt2 : h0.size > a1 := F_ordinal_a1.lt
  refine own_aloadN X0.here hx hby d4_0 rfl rfl ?_
  refine own_getF X0 hx hZ hown (host := "") (Or.inl (own_w hw 38 rfl)) Via.refl e0 F_ordinal_a1 hby d4_1 ?_
  intro T3 X3 e3
  obtain ⟨fs, hr, hrun, hended, hW, hsame⟩ := X3.leave (v := some (.int o)) (fun h => by rw [Bd.returns] at h; cases h)
  refine own_ret (t := T3.setFrames fs) ?_ ⟨_, hrun, hended, _, _, rfl, ?_, ⟨_, rfl⟩, hW, hsame.mono (by decide) (by decide)⟩
  · exact retOut X3 hx Bd.returns rfl (Or.inl ⟨rfl, Or.inl rfl, _, rfl⟩) (hb hby d4_4) hr
  · show Q_ordinal_ Z a1 o h0 n0 _ T3.heap _
    rw [e3]
    exact ⟨rfl, N0, rfl⟩
theorem ef_rnn_ (m : MethodId) (x0 : Nat) : entryFrame m #[(.ref x0)] 1 = mkF m 0 #[.val (.ref x0)] [] := by first | (simp [entryFrame, mkF, argsToLocals, Value.category]; done) | rfl
theorem pn_6 : plainName "java/util/Objects" = true := by first | (simp [plainName, overriddenIn]; done) | decide +kernel
theorem d6_0 : decode jdk_31_method_10_code 0 = .ok (.aload_n 0, 1) := by decide +kernel
theorem d6_1 : decode jdk_31_method_10_code 1 = .ok (.ifnonnull 11, 3) := by decide +kernel
theorem d6_12 : decode jdk_31_method_10_code 12 = .ok (.aload_n 0, 1) := by decide +kernel
theorem d6_13 : decode jdk_31_method_10_code 13 = .ok (.areturn, 1) := by decide +kernel
def Q_rnn_ (Z : State) (a1 : Nat) (h0 : Heap) (n0 : Nat) (vR : Option Value) (hR : Heap) (LR : List Loc) : Prop := vR = some (.ref a1) ∧ Fr n0 LR ∧ hR = h0
set_option maxRecDepth 65536 in
set_option maxHeartbeats 40000000 in
theorem rnn_ (l : Launch) (Z : State) (a0 : Array Value) (hw : ∀ d ∈ tables_1, d.before a0 Z = true) (ws : List Jvm.Cond) (a1 : Nat) (h0 : Heap) (n0 : Nat) (Z0 : n0 ≤ h0.size)  :
    own_M l (⟨"java/util/Objects", "requireNonNull", "(Ljava/lang/Object;)Ljava/lang/Object;"⟩ : MethodName) jdk_31_method_10_code 1 (some (.object "java/lang/Object")) ws ({ frames := 0, cells := 0, slots := 0, locals := 0 } : Room) Z #[(.ref a1)] h0 (Q_rnn_ Z a1 h0 n0) := by
  refine own_body (own := "java/util/Objects") rfl (plainFor_of_name pn_6) (fun m => ef_rnn_ m a1) ?_
  intro p e s m below meth c s₁ Bd hml hZ hh hx hby hown X0 e0
  have N0 := Fr.nil n0
  refine own_aloadN X0.here hx hby d6_0 rfl rfl ?_
  refine own_ifnonnullYes X0.here hx hby (pc' := 12) d6_1 (by decide) (by decide) ?_
  refine own_aloadN X0.here hx hby d6_12 rfl rfl ?_
  obtain ⟨fs, hr, hrun, hended, hW, hsame⟩ := X0.leave (v := some (.ref a1)) (fun h => by rw [Bd.returns] at h; cases h)
  refine own_ret (t := s₁.setFrames fs) ?_ ⟨_, hrun, hended, _, _, rfl, ?_, ⟨_, rfl⟩, hW, hsame.mono (by decide) (by decide)⟩
  · exact retOut X0 hx Bd.returns rfl (Or.inr (Or.inr (Or.inr (Or.inr ⟨rfl, rfl, rfl⟩)))) (hb hby d6_13) hr
  · show Q_rnn_ Z a1 h0 n0 _ s₁.heap _
    rw [e0]
    exact ⟨rfl, N0, rfl⟩
theorem ef_optInit (m : MethodId) (x0 : Nat) (x1 : Nat) : entryFrame m #[(.ref x0), (.ref x1)] 2 = mkF m 0 #[.val (.ref x0), .val (.ref x1)] [] := by first | (simp [entryFrame, mkF, argsToLocals, Value.category]; done) | rfl
theorem pn_7 : plainName "java/util/Optional" = true := by first | (simp [plainName, overriddenIn]; done) | decide +kernel
theorem d7_0 : decode jdk_32_method_2_code 0 = .ok (.aload_n 0, 1) := by decide +kernel
theorem d7_1 : decode jdk_32_method_2_code 1 = .ok (.invokespecial 7, 3) := by decide +kernel
theorem d7_4 : decode jdk_32_method_2_code 4 = .ok (.aload_n 0, 1) := by decide +kernel
theorem d7_5 : decode jdk_32_method_2_code 5 = .ok (.aload_n 1, 1) := by decide +kernel
theorem d7_6 : decode jdk_32_method_2_code 6 = .ok (.putfield 13, 3) := by decide +kernel
theorem d7_9 : decode jdk_32_method_2_code 9 = .ok (.return_, 1) := by decide +kernel
def Q_optInit (Z : State) (a1 : Nat) (a2 : Nat) (h0 : Heap) (n0 : Nat) (vR : Option Value) (hR : Heap) (LR : List Loc) : Prop := vR = none ∧ Fr n0 LR ∧ Keep h0 hR [a1] ∧ (Exa Z hR a1 "java/util/Optional") ∧ (Fld Z hR a1 "java/util/Optional" "value" "Ljava/lang/Object;" (.ref a2))
set_option maxRecDepth 65536 in
set_option maxHeartbeats 40000000 in
theorem optInit (l : Launch) (Z : State) (a0 : Array Value) (hw : ∀ d ∈ tables_1, d.before a0 Z = true) (ws : List Jvm.Cond) (a1 : Nat) (a2 : Nat) (h0 : Heap) (n0 : Nat) (Z0 : n0 ≤ h0.size) (E_a1 : Exa Z h0 a1 "java/util/Optional") (F_value_a1 : Fld Z h0 a1 "java/util/Optional" "value" "Ljava/lang/Object;" .null) (g_a1 : n0 ≤ a1) :
    own_M l (⟨"java/util/Optional", "<init>", "(Ljava/lang/Object;)V"⟩ : MethodName) jdk_32_method_2_code 2 none ws ({ frames := 1, cells := 0, slots := 0, locals := 12 } : Room) Z #[(.ref a1), (.ref a2)] h0 (Q_optInit Z a1 a2 h0 n0) := by
  refine own_body (own := "java/util/Optional") rfl (plainFor_of_name pn_7) (fun m => ef_optInit m a1 a2) ?_
  intro p e s m below meth c s₁ Bd hml hZ hh hx hby hown X0 e0
  have N0 := Fr.nil n0
  have lt3 : h0.size > a1 := E_a1.lt
  refine own_aloadN X0.here hx hby d7_0 rfl rfl ?_
  refine own_initO X0 hx hZ hown (own_w hw 54 rfl) (own_w hw 55 rfl) (own_w hw 56 rfl) e0 (by rw [hml]; rfl) hby d7_1 (by decide) 0 (Nat.le_of_eq rfl) (by decide) ?_
  intro T4 X4 e4
  refine own_aloadN X4.here hx hby d7_4 rfl rfl ?_
  refine own_aloadN X4.here hx hby d7_5 rfl rfl ?_
  refine own_putF X4 hx hZ (ty := (.object "java/lang/Object")) hown (host := "") (Or.inl (own_w hw 57 rfl)) Via.refl e4 F_value_a1 E_a1 (Or.inr ⟨(own_w hw 58 rfl), rfl, (name_of_methodNamed Bd.named Bd.method).1⟩) (own_w hw 45 rfl) (by decide) rfl rfl hby d7_6 N0 g_a1 ?_
  intro T5 h5 lo5 X5 e5 N5 W5 F5 z5
  have K6 : Keep h0 h5 [a1] := ((Keep.refl h0 [a1]).wr W5 (Or.inl (List.mem_of_getElem? (i := 0) rfl)))
  have f7 : Exa Z h5 a1 "java/util/Optional" := (E_a1.wr W5)
  obtain ⟨fs, hr, hrun, hended, hW, hsame⟩ := X5.leave (v := none) (fun _ => rfl)
  refine own_ret (t := T5.setFrames fs) ?_ ⟨_, hrun, hended, _, _, rfl, ?_, ⟨_, rfl⟩, hW, hsame.mono (by decide) (by decide)⟩
  · exact X5.returnOut hx Bd.returns (hb hby d7_9) hr
  · show Q_optInit Z a1 a2 h0 n0 _ T5.heap _
    rw [e5]
    exact ⟨rfl, N5, K6, f7, F5⟩
theorem ef_optOf (m : MethodId) (x0 : Nat) : entryFrame m #[(.ref x0)] 1 = mkF m 0 #[.val (.ref x0)] [] := by first | (simp [entryFrame, mkF, argsToLocals, Value.category]; done) | rfl
theorem pn_5 : plainName "java/util/Optional" = true := by first | (simp [plainName, overriddenIn]; done) | decide +kernel
theorem d5_0 : decode jdk_32_method_3_code 0 = .ok (.new 2, 3) := by decide +kernel
theorem d5_3 : decode jdk_32_method_3_code 3 = .ok (.dup, 1) := by decide +kernel
theorem d5_4 : decode jdk_32_method_3_code 4 = .ok (.aload_n 0, 1) := by decide +kernel
theorem d5_5 : decode jdk_32_method_3_code 5 = .ok (.invokestatic 17, 3) := by decide +kernel
theorem pd_0 : parseMethodDescriptor "(Ljava/lang/Object;)Ljava/lang/Object;" = some ⟨[(.object "java/lang/Object")], some (.object "java/lang/Object")⟩ := by decide +kernel
theorem d5_8 : decode jdk_32_method_3_code 8 = .ok (.invokespecial 23, 3) := by decide +kernel
theorem pd_1 : parseMethodDescriptor "(Ljava/lang/Object;)V" = some ⟨[(.object "java/lang/Object")], none⟩ := by decide +kernel
theorem d5_11 : decode jdk_32_method_3_code 11 = .ok (.areturn, 1) := by decide +kernel
def Q_optOf (Z : State) (a1 : Nat) (h0 : Heap) (n0 : Nat) (vR : Option Value) (hR : Heap) (LR : List Loc) : Prop := ∃ (b : Nat), vR = some (.ref b) ∧ Fr n0 LR ∧ Keep h0 hR [] ∧ h0.size ≤ b ∧ (Exa Z hR b "java/util/Optional") ∧ (Fld Z hR b "java/util/Optional" "value" "Ljava/lang/Object;" (.ref a1))
set_option maxRecDepth 65536 in
set_option maxHeartbeats 40000000 in
theorem optOf (l : Launch) (Z : State) (a0 : Array Value) (hw : ∀ d ∈ tables_1, d.before a0 Z = true) (ws : List Jvm.Cond) (a1 : Nat) (h0 : Heap) (n0 : Nat) (Z0 : n0 ≤ h0.size)  :
    own_M l (⟨"java/util/Optional", "of", "(Ljava/lang/Object;)Ljava/util/Optional;"⟩ : MethodName) jdk_32_method_3_code 1 (some (.object "java/util/Optional")) ws ({ frames := 2, cells := 1, slots := 1, locals := 26 } : Room) Z #[(.ref a1)] h0 (Q_optOf Z a1 h0 n0) := by
  refine own_body (own := "java/util/Optional") rfl (plainFor_of_name pn_5) (fun m => ef_optOf m a1) ?_
  intro p e s m below meth c s₁ Bd hml hZ hh hx hby hown X0 e0
  have N0 := Fr.nil n0
  refine own_newO X0 hx hZ hown (own_w hw 44 rfl) (own_w hw 45 rfl) (own_w hw 42 rfl) e0 hby d5_0 (by decide) (by decide) ?_
  intro T2 h2 b2 X2 e2 E2 g2 A2 D2 lt2
  have z3 : h0.size ≤ h2.size := E2.1
  have F4 : Fld Z h2 b2 "java/util/Optional" "value" "Ljava/lang/Object;" .null := D2 (Or.inr (own_w hw 58 rfl)) (ty := (.object "java/lang/Object")) (by decide)
  refine own_dup X2.here hx hby d5_3 rfl ?_
  refine own_aloadN X2.here hx hby d5_4 rfl rfl ?_
  have z6 : n0 ≤ h2.size := by omega
  refine own_callS X2 hx hZ hown (own_w hw 46 rfl) (own_w hw 47 rfl) (own_w hw 48 rfl) (own_w hw 49 rfl) (by decide) (rnn_ l Z a0 hw [] a1 h2 n0 z6 ) 2 (Nat.le_of_eq rfl) (by decide) (by decide) (by rw [hml]; rfl) (argsL := [(.ref a1)]) (st := [(.ref b2), (.ref b2)]) (lenOf pd_0 rfl) rfl rfl (by decide) (by decide) e2 hby d5_5 ?_
  intro T5 v5 L5 X5 hQ5
  obtain ⟨rfl, Nq5, eh5⟩ := hQ5
  have N5 := Fr.app N0 Nq5
  refine own_sh (T := T5) 8 #[.val (.ref a1)] [(.ref a1), (.ref b2), (.ref b2)] ?_
  refine own_special X5 hx hZ rfl hown (own_w hw 50 rfl) (own_w hw 51 rfl) (own_w hw 42 rfl) (own_w hw 53 rfl) (by decide) (optInit l Z a0 hw [] b2 a1 h2 n0 z6 A2 F4 (by omega)) 1 (Nat.le_of_eq rfl) (by decide) (by decide) (by rw [hml]; rfl) (argsL := [(.ref a1)]) (st := [(.ref b2)]) (a := b2) (lenOf pd_1 rfl) rfl rfl (by decide) (by decide) eh5 hby d5_8 ?_
  intro T7 v7 L7 X7 hQ7
  obtain ⟨rfl, Nq7, K7, P7_0, P7_1⟩ := hQ7
  have N7 := Fr.app N5 Nq7
  have z8 : h2.size ≤ T7.heap.size := K7.1
  have lt9 : T7.heap.size > b2 := P7_0.lt
  refine own_sh (T := T7) 11 #[.val (.ref a1)] [(.ref b2)] ?_
  have K10 : Keep h0 T7.heap [] := (((Keep.refl h0 []).ext E2).trans K7 (allS (P := fun xq_ => xq_ ∈ [] ∨ h0.size ≤ xq_) (Or.inr (by omega)) all0))
  obtain ⟨fs, hr, hrun, hended, hW, hsame⟩ := X7.leave (v := some (.ref b2)) (fun h => by rw [Bd.returns] at h; cases h)
  refine own_ret (t := T7.setFrames fs) ?_ ⟨_, hrun, hended, _, _, rfl, ?_, ⟨_, rfl⟩, hW, hsame.mono (by decide) (by decide)⟩
  · exact retOut X7 hx Bd.returns rfl (Or.inr (Or.inr (Or.inr (Or.inr ⟨rfl, rfl, rfl⟩)))) (hb hby d5_11) hr
  · show Q_optOf Z a1 h0 n0 _ T7.heap _
    exact ⟨b2, rfl, N7, K10, (by omega), P7_0, P7_1⟩
theorem ef_optEmpty (m : MethodId)  : entryFrame m #[] 1 = mkF m 0 #[.unset] [] := by first | (simp [entryFrame, mkF, argsToLocals, Value.category]; done) | rfl
theorem pn_11 : plainName "java/util/Optional" = true := by first | (simp [plainName, overriddenIn]; done) | decide +kernel
theorem d11_0 : decode jdk_32_method_1_code 0 = .ok (.getstatic 1, 3) := by decide +kernel
theorem d11_3 : decode jdk_32_method_1_code 3 = .ok (.astore_n 0, 1) := by decide +kernel
theorem d11_4 : decode jdk_32_method_1_code 4 = .ok (.aload_n 0, 1) := by decide +kernel
theorem d11_5 : decode jdk_32_method_1_code 5 = .ok (.areturn, 1) := by decide +kernel
def Q_optEmpty (Z : State) (w : Nat) (h0 : Heap) (n0 : Nat) (vR : Option Value) (hR : Heap) (LR : List Loc) : Prop := vR = some (.ref w) ∧ Fr n0 LR ∧ hR = h0
set_option maxRecDepth 65536 in
set_option maxHeartbeats 40000000 in
theorem optEmpty (l : Launch) (Z : State) (a0 : Array Value) (hw : ∀ d ∈ tables_1, d.before a0 Z = true) (ws : List Jvm.Cond) (w : Nat) (h0 : Heap) (n0 : Nat) (Z0 : n0 ≤ h0.size) (S_EMPTY : Sta Z h0 "java/util/Optional" "EMPTY" "Ljava/util/Optional;" (.ref w)) :
    own_M l (⟨"java/util/Optional", "empty", "()Ljava/util/Optional;"⟩ : MethodName) jdk_32_method_1_code 1 (some (.object "java/util/Optional")) ws ({ frames := 0, cells := 0, slots := 0, locals := 0 } : Room) Z #[] h0 (Q_optEmpty Z w h0 n0) := by
  refine own_body (own := "java/util/Optional") rfl (plainFor_of_name pn_11) (fun m => ef_optEmpty m ) ?_
  intro p e s m below meth c s₁ Bd hml hZ hh hx hby hown X0 e0
  have N0 := Fr.nil n0
  refine own_getS X0 hx hZ hown (host := "") (Or.inl (own_w hw 76 rfl)) Via.refl e0 S_EMPTY hby d11_0 ?_
  intro T1 X1 e1
  refine own_astoreN X1.here hx hby d11_3 rfl (l' := #[.val (.ref w)]) rfl ?_
  refine own_aloadN X1.here hx hby d11_4 rfl rfl ?_
  obtain ⟨fs, hr, hrun, hended, hW, hsame⟩ := X1.leave (v := some (.ref w)) (fun h => by rw [Bd.returns] at h; cases h)
  refine own_ret (t := T1.setFrames fs) ?_ ⟨_, hrun, hended, _, _, rfl, ?_, ⟨_, rfl⟩, hW, hsame.mono (by decide) (by decide)⟩
  · exact retOut X1 hx Bd.returns rfl (Or.inr (Or.inr (Or.inr (Or.inr ⟨rfl, rfl, rfl⟩)))) (hb hby d11_5) hr
  · show Q_optEmpty Z w h0 n0 _ T1.heap _
    rw [e1]
    exact ⟨rfl, N0, rfl⟩
theorem ef_part_item (m : MethodId) (x0 : Nat) : entryFrame m #[(.ref x0)] 1 = mkF m 0 #[.val (.ref x0)] [] := by first | (simp [entryFrame, mkF, argsToLocals, Value.category]; done) | rfl
theorem pn_2 : plainName "com/example/undercroft/undercroft/store/WemiClass" = true := by first | (simp [plainName, overriddenIn]; done) | decide +kernel
theorem d2_0 : decode prog_24_method_5_code 0 = .ok (.aload_n 0, 1) := by decide +kernel
theorem d2_1 : decode prog_24_method_5_code 1 = .ok (.getstatic 13, 3) := by decide +kernel
theorem d2_4 : decode prog_24_method_5_code 4 = .ok (.if_acmp .ne 9, 3) := by decide +kernel
theorem d2_7 : decode prog_24_method_5_code 7 = .ok (.invokestatic 51, 3) := by decide +kernel
theorem pd_2 : parseMethodDescriptor "()Ljava/util/Optional;" = some ⟨[], some (.object "java/util/Optional")⟩ := by decide +kernel
theorem d2_10 : decode prog_24_method_5_code 10 = .ok (.goto 16, 3) := by decide +kernel
theorem d2_26 : decode prog_24_method_5_code 26 = .ok (.areturn, 1) := by decide +kernel
def Q_part_item (Z : State) (a1 : Nat) (w : Nat) (h0 : Heap) (n0 : Nat) (vR : Option Value) (hR : Heap) (LR : List Loc) : Prop := vR = some (.ref w) ∧ Fr n0 LR ∧ hR = h0
set_option maxRecDepth 65536 in
set_option maxHeartbeats 40000000 in
theorem part_item (l : Launch) (Z : State) (a0 : Array Value) (hw : ∀ d ∈ tables_1, d.before a0 Z = true) (ws : List Jvm.Cond) (a1 : Nat) (w : Nat) (h0 : Heap) (n0 : Nat) (Z0 : n0 ≤ h0.size) (S_ITEM : Sta Z h0 "com/example/undercroft/undercroft/store/WemiClass" "ITEM" "Lcom/example/undercroft/undercroft/store/WemiClass;" (.ref a1)) (S_EMPTY : Sta Z h0 "java/util/Optional" "EMPTY" "Ljava/util/Optional;" (.ref w)) :
    own_M l (⟨"com/example/undercroft/undercroft/store/WemiClass", "partClass", "()Ljava/util/Optional;"⟩ : MethodName) prog_24_method_5_code 1 (some (.object "java/util/Optional")) ws ({ frames := 1, cells := 0, slots := 0, locals := 12 } : Room) Z #[(.ref a1)] h0 (Q_part_item Z a1 w h0 n0) := by
  refine own_body (own := "com/example/undercroft/undercroft/store/WemiClass") rfl (plainFor_of_name pn_2) (fun m => ef_part_item m a1) ?_
  intro p e s m below meth c s₁ Bd hml hZ hh hx hby hown X0 e0
  have N0 := Fr.nil n0
  refine own_aloadN X0.here hx hby d2_0 rfl rfl ?_
  refine own_getS X0 hx hZ hown (host := "") (Or.inl (own_w hw 12 rfl)) Via.refl e0 S_ITEM hby d2_1 ?_
  intro T2 X2 e2
  refine own_acmp X2 hx (same := true) (pc' := 7) hby d2_4 rfl rfl (decide_eq_true rfl) (by decide) (by decide) ?_
  refine own_callS X2 hx hZ hown (own_w hw 73 rfl) (own_w hw 74 rfl) (own_w hw 42 rfl) (own_w hw 75 rfl) (by decide) (optEmpty l Z a0 hw [] w h0 n0 Z0 S_EMPTY) 0 (Nat.le_of_eq rfl) (by decide) (by decide) (by rw [hml]; rfl) (argsL := []) (st := []) (lenOf pd_2 rfl) rfl rfl (by decide) (by decide) e2 hby d2_7 ?_
  intro T3 v3 L3 X3 hQ3
  obtain ⟨rfl, Nq3, eh3⟩ := hQ3
  have N3 := Fr.app N0 Nq3
  refine own_sh (T := T3) 10 #[.val (.ref a1)] [(.ref w)] ?_
  refine own_goto X3.here hx hby (pc' := 26) d2_10 (by decide) (by decide) ?_
  obtain ⟨fs, hr, hrun, hended, hW, hsame⟩ := X3.leave (v := some (.ref w)) (fun h => by rw [Bd.returns] at h; cases h)
  refine own_ret (t := T3.setFrames fs) ?_ ⟨_, hrun, hended, _, _, rfl, ?_, ⟨_, rfl⟩, hW, hsame.mono (by decide) (by decide)⟩
  · exact retOut X3 hx Bd.returns rfl (Or.inr (Or.inr (Or.inr (Or.inr ⟨rfl, rfl, rfl⟩)))) (hb hby d2_26) hr
  · show Q_part_item Z a1 w h0 n0 _ T3.heap _
    rw [eh3]
    exact ⟨rfl, N3, rfl⟩
theorem d2_13 : decode prog_24_method_5_code 13 = .ok (.invokestatic 57, 3) := by decide +kernel
theorem pd_3 : parseMethodDescriptor "()[Lcom/example/undercroft/undercroft/store/WemiClass;" = some ⟨[], some (.array (.object "com/example/undercroft/undercroft/store/WemiClass"))⟩ := by decide +kernel
theorem d2_16 : decode prog_24_method_5_code 16 = .ok (.aload_n 0, 1) := by decide +kernel
theorem d2_17 : decode prog_24_method_5_code 17 = .ok (.invokevirtual 61, 3) := by decide +kernel
theorem pd_4 : parseMethodDescriptor "()I" = some ⟨[], some .int⟩ := by decide +kernel
theorem d2_20 : decode prog_24_method_5_code 20 = .ok (.iconst 1, 1) := by decide +kernel
theorem d2_21 : decode prog_24_method_5_code 21 = .ok (.iadd, 1) := by decide +kernel
theorem d2_22 : decode prog_24_method_5_code 22 = .ok (.aaload, 1) := by decide +kernel
theorem d2_23 : decode prog_24_method_5_code 23 = .ok (.invokestatic 65, 3) := by decide +kernel
theorem pd_5 : parseMethodDescriptor "(Ljava/lang/Object;)Ljava/util/Optional;" = some ⟨[(.object "java/lang/Object")], some (.object "java/util/Optional")⟩ := by decide +kernel
def Q_part_0 (Z : State) (wV : Nat) (wW : Nat) (wE : Nat) (wM : Nat) (wI : Nat) (kc : ClassId) (h0 : Heap) (n0 : Nat) (vR : Option Value) (hR : Heap) (LR : List Loc) : Prop := ∃ (b : Nat), vR = some (.ref b) ∧ Fr n0 LR ∧ Keep h0 hR [] ∧ h0.size ≤ b ∧ (Exa Z hR b "java/util/Optional") ∧ (Fld Z hR b "java/util/Optional" "value" "Ljava/lang/Object;" (.ref wE))
set_option maxRecDepth 65536 in
set_option maxHeartbeats 40000000 in
theorem part_0 (l : Launch) (Z : State) (a0 : Array Value) (hw : ∀ d ∈ tables_1, d.before a0 Z = true) (ws : List Jvm.Cond) (wV : Nat) (wW : Nat) (wE : Nat) (wM : Nat) (wI : Nat) (kc : ClassId) (h0 : Heap) (n0 : Nat) (Z0 : n0 ≤ h0.size) (S_ITEM : Sta Z h0 "com/example/undercroft/undercroft/store/WemiClass" "ITEM" "Lcom/example/undercroft/undercroft/store/WemiClass;" (.ref wI)) (E_wW : Exa Z h0 wW "com/example/undercroft/undercroft/store/WemiClass") (F_ordinal_wW : Fld Z h0 wW "java/lang/Enum" "ordinal" "I" (.int 0)) (hne : wW ≠ wI) (S_VALUES : Sta Z h0 "com/example/undercroft/undercroft/store/WemiClass" "$VALUES" "[Lcom/example/undercroft/undercroft/store/WemiClass;" (.ref wV)) (V_wV : Arv Z h0 wV kc (.object "com/example/undercroft/undercroft/store/WemiClass") (4 : Int32) [(.ref wW), (.ref wE), (.ref wM), (.ref wI)] .null) (E_wV : Exa Z h0 wV "[Lcom/example/undercroft/undercroft/store/WemiClass;") :
    own_M l (⟨"com/example/undercroft/undercroft/store/WemiClass", "partClass", "()Ljava/util/Optional;"⟩ : MethodName) prog_24_method_5_code 1 (some (.object "java/util/Optional")) ws ({ frames := 3, cells := 2, slots := 5, locals := 38 } : Room) Z #[(.ref wW)] h0 (Q_part_0 Z wV wW wE wM wI kc h0 n0) := by
  refine own_body (own := "com/example/undercroft/undercroft/store/WemiClass") rfl (plainFor_of_name pn_2) (fun m => ef_part_item m wW) ?_
  intro p e s m below meth c s₁ Bd hml hZ hh hx hby hown X0 e0
  have N0 := Fr.nil n0
  have lt1 : h0.size > wW := E_wW.lt
  have lt2 : h0.size > wV := V_wV.lt
  refine own_aloadN X0.here hx hby d2_0 rfl rfl ?_
  refine own_getS X0 hx hZ hown (host := "") (Or.inl (own_w hw 12 rfl)) Via.refl e0 S_ITEM hby d2_1 ?_
  intro T3 X3 e3
  refine own_acmp X3 hx (same := false) (pc' := 13) hby d2_4 rfl rfl (decide_eq_false fun q => absurd (Value.ref.inj q) hne) (by decide) (by decide) ?_
  refine own_callS X3 hx hZ hown (own_w hw 14 rfl) (own_w hw 15 rfl) (own_w hw 5 rfl) (own_w hw 16 rfl) (by decide) (values_ l Z a0 hw [] wV wW wE wM wI kc h0 n0 Z0 S_VALUES V_wV E_wV) 0 (Nat.le_of_eq rfl) (by decide) (by decide) (by rw [hml]; rfl) (argsL := []) (st := []) (lenOf pd_3 rfl) rfl rfl (by decide) (by decide) e3 hby d2_13 ?_
  intro T4 v4 L4 X4 hQ4
  obtain ⟨b_4, rfl, Nq4, K4, P4_0, P4_1⟩ := hQ4
  have N4 := Fr.app N0 Nq4
  have z5 : h0.size ≤ T4.heap.size := K4.1
  have lt6 : T4.heap.size > b_4 := P4_1.lt
  refine own_sh (T := T4) 16 #[.val (.ref wW)] [(.ref b_4)] ?_
  refine own_aloadN X4.here hx hby d2_16 rfl rfl ?_
  have f7 : Fld Z T4.heap wW "java/lang/Enum" "ordinal" "I" (.int 0) := (F_ordinal_wW.keep K4 nin0)
  have z9 : n0 ≤ T4.heap.size := by omega
  have f10 : Exa Z T4.heap wW "com/example/undercroft/undercroft/store/WemiClass" := (E_wW.keep K4)
  refine own_virtualUp X4 hx hZ hown (own_w hw 31 rfl) (own_w hw 32 rfl) (own_w hw 33 rfl) (own_w hw 35 rfl) (own_w hw 34 rfl) (own_w hw 36 rfl) (own_w hw 37 rfl) (by decide) (ordinal_ l Z a0 hw [] wW (0 : Int32) T4.heap n0 z9 f7) 1 (Nat.le_of_eq rfl) (by decide) (by decide) (by rw [hml]; rfl) (argsL := []) (st := [(.ref b_4)]) f10 (lenOf pd_4 rfl) rfl rfl (by decide) (by decide) rfl hby d2_17 ?_
  intro T8 v8 L8 X8 hQ8
  obtain ⟨rfl, Nq8, eh8⟩ := hQ8
  have N8 := Fr.app N4 Nq8
  refine own_sh (T := T8) 20 #[.val (.ref wW)] [(.int 0), (.ref b_4)] ?_
  refine own_iconst X8.here hx hby d2_20 (v := (1 : Int32)) (by decide) ?_
  refine own_iadd X8.here hx hby d2_21 (v := (1 : Int32)) (by decide) ?_
  refine own_aaloadH X8 hx hZ eh8 P4_1 rfl ⟨by decide, by decide⟩ (v := (.ref wE)) rfl hby d2_22 ?_
  refine own_callS X8 hx hZ hown (own_w hw 40 rfl) (own_w hw 41 rfl) (own_w hw 42 rfl) (own_w hw 43 rfl) (by decide) (optOf l Z a0 hw [] wE T4.heap n0 z9 ) 0 (Nat.le_of_eq rfl) (by decide) (by decide) (by rw [hml]; rfl) (argsL := [(.ref wE)]) (st := []) (lenOf pd_5 rfl) rfl rfl (by decide) (by decide) eh8 hby d2_23 ?_
  intro T11 v11 L11 X11 hQ11
  obtain ⟨b_11, rfl, Nq11, K11, P11_0, P11_1, P11_2⟩ := hQ11
  have N11 := Fr.app N8 Nq11
  have z12 : T4.heap.size ≤ T11.heap.size := K11.1
  have lt13 : T11.heap.size > b_11 := P11_1.lt
  refine own_sh (T := T11) 26 #[.val (.ref wW)] [(.ref b_11)] ?_
  have K14 : Keep h0 T11.heap [] := (((Keep.refl h0 []).trans K4 all0).trans K11 all0)
  obtain ⟨fs, hr, hrun, hended, hW, hsame⟩ := X11.leave (v := some (.ref b_11)) (fun h => by rw [Bd.returns] at h; cases h)
  refine own_ret (t := T11.setFrames fs) ?_ ⟨_, hrun, hended, _, _, rfl, ?_, ⟨_, rfl⟩, hW, hsame.mono (by decide) (by decide)⟩
  · exact retOut X11 hx Bd.returns rfl (Or.inr (Or.inr (Or.inr (Or.inr ⟨rfl, rfl, rfl⟩)))) (hb hby d2_26) hr
  · show Q_part_0 Z wV wW wE wM wI kc h0 n0 _ T11.heap _
    exact ⟨b_11, rfl, N11, K14, (by omega), P11_1, P11_2⟩
def Q_part_1 (Z : State) (wV : Nat) (wW : Nat) (wE : Nat) (wM : Nat) (wI : Nat) (kc : ClassId) (h0 : Heap) (n0 : Nat) (vR : Option Value) (hR : Heap) (LR : List Loc) : Prop := ∃ (b : Nat), vR = some (.ref b) ∧ Fr n0 LR ∧ Keep h0 hR [] ∧ h0.size ≤ b ∧ (Exa Z hR b "java/util/Optional") ∧ (Fld Z hR b "java/util/Optional" "value" "Ljava/lang/Object;" (.ref wM))
set_option maxRecDepth 65536 in
set_option maxHeartbeats 40000000 in
theorem part_1 (l : Launch) (Z : State) (a0 : Array Value) (hw : ∀ d ∈ tables_1, d.before a0 Z = true) (ws : List Jvm.Cond) (wV : Nat) (wW : Nat) (wE : Nat) (wM : Nat) (wI : Nat) (kc : ClassId) (h0 : Heap) (n0 : Nat) (Z0 : n0 ≤ h0.size) (S_ITEM : Sta Z h0 "com/example/undercroft/undercroft/store/WemiClass" "ITEM" "Lcom/example/undercroft/undercroft/store/WemiClass;" (.ref wI)) (E_wE : Exa Z h0 wE "com/example/undercroft/undercroft/store/WemiClass") (F_ordinal_wE : Fld Z h0 wE "java/lang/Enum" "ordinal" "I" (.int 1)) (hne : wE ≠ wI) (S_VALUES : Sta Z h0 "com/example/undercroft/undercroft/store/WemiClass" "$VALUES" "[Lcom/example/undercroft/undercroft/store/WemiClass;" (.ref wV)) (V_wV : Arv Z h0 wV kc (.object "com/example/undercroft/undercroft/store/WemiClass") (4 : Int32) [(.ref wW), (.ref wE), (.ref wM), (.ref wI)] .null) (E_wV : Exa Z h0 wV "[Lcom/example/undercroft/undercroft/store/WemiClass;") :
    own_M l (⟨"com/example/undercroft/undercroft/store/WemiClass", "partClass", "()Ljava/util/Optional;"⟩ : MethodName) prog_24_method_5_code 1 (some (.object "java/util/Optional")) ws ({ frames := 3, cells := 2, slots := 5, locals := 38 } : Room) Z #[(.ref wE)] h0 (Q_part_1 Z wV wW wE wM wI kc h0 n0) := by
  refine own_body (own := "com/example/undercroft/undercroft/store/WemiClass") rfl (plainFor_of_name pn_2) (fun m => ef_part_item m wE) ?_
  intro p e s m below meth c s₁ Bd hml hZ hh hx hby hown X0 e0
  have N0 := Fr.nil n0
  have lt1 : h0.size > wE := E_wE.lt
  have lt2 : h0.size > wV := V_wV.lt
  refine own_aloadN X0.here hx hby d2_0 rfl rfl ?_
  refine own_getS X0 hx hZ hown (host := "") (Or.inl (own_w hw 12 rfl)) Via.refl e0 S_ITEM hby d2_1 ?_
  intro T3 X3 e3
  refine own_acmp X3 hx (same := false) (pc' := 13) hby d2_4 rfl rfl (decide_eq_false fun q => absurd (Value.ref.inj q) hne) (by decide) (by decide) ?_
  refine own_callS X3 hx hZ hown (own_w hw 14 rfl) (own_w hw 15 rfl) (own_w hw 5 rfl) (own_w hw 16 rfl) (by decide) (values_ l Z a0 hw [] wV wW wE wM wI kc h0 n0 Z0 S_VALUES V_wV E_wV) 0 (Nat.le_of_eq rfl) (by decide) (by decide) (by rw [hml]; rfl) (argsL := []) (st := []) (lenOf pd_3 rfl) rfl rfl (by decide) (by decide) e3 hby d2_13 ?_
  intro T4 v4 L4 X4 hQ4
  obtain ⟨b_4, rfl, Nq4, K4, P4_0, P4_1⟩ := hQ4
  have N4 := Fr.app N0 Nq4
  have z5 : h0.size ≤ T4.heap.size := K4.1
  have lt6 : T4.heap.size > b_4 := P4_1.lt
  refine own_sh (T := T4) 16 #[.val (.ref wE)] [(.ref b_4)] ?_
  refine own_aloadN X4.here hx hby d2_16 rfl rfl ?_
  have f7 : Fld Z T4.heap wE "java/lang/Enum" "ordinal" "I" (.int 1) := (F_ordinal_wE.keep K4 nin0)
  have z9 : n0 ≤ T4.heap.size := by omega
  have f10 : Exa Z T4.heap wE "com/example/undercroft/undercroft/store/WemiClass" := (E_wE.keep K4)
  refine own_virtualUp X4 hx hZ hown (own_w hw 31 rfl) (own_w hw 32 rfl) (own_w hw 33 rfl) (own_w hw 35 rfl) (own_w hw 34 rfl) (own_w hw 36 rfl) (own_w hw 37 rfl) (by decide) (ordinal_ l Z a0 hw [] wE (1 : Int32) T4.heap n0 z9 f7) 1 (Nat.le_of_eq rfl) (by decide) (by decide) (by rw [hml]; rfl) (argsL := []) (st := [(.ref b_4)]) f10 (lenOf pd_4 rfl) rfl rfl (by decide) (by decide) rfl hby d2_17 ?_
  intro T8 v8 L8 X8 hQ8
  obtain ⟨rfl, Nq8, eh8⟩ := hQ8
  have N8 := Fr.app N4 Nq8
  refine own_sh (T := T8) 20 #[.val (.ref wE)] [(.int 1), (.ref b_4)] ?_
  refine own_iconst X8.here hx hby d2_20 (v := (1 : Int32)) (by decide) ?_
  refine own_iadd X8.here hx hby d2_21 (v := (2 : Int32)) (by decide) ?_
  refine own_aaloadH X8 hx hZ eh8 P4_1 rfl ⟨by decide, by decide⟩ (v := (.ref wM)) rfl hby d2_22 ?_
  refine own_callS X8 hx hZ hown (own_w hw 40 rfl) (own_w hw 41 rfl) (own_w hw 42 rfl) (own_w hw 43 rfl) (by decide) (optOf l Z a0 hw [] wM T4.heap n0 z9 ) 0 (Nat.le_of_eq rfl) (by decide) (by decide) (by rw [hml]; rfl) (argsL := [(.ref wM)]) (st := []) (lenOf pd_5 rfl) rfl rfl (by decide) (by decide) eh8 hby d2_23 ?_
  intro T11 v11 L11 X11 hQ11
  obtain ⟨b_11, rfl, Nq11, K11, P11_0, P11_1, P11_2⟩ := hQ11
  have N11 := Fr.app N8 Nq11
  have z12 : T4.heap.size ≤ T11.heap.size := K11.1
  have lt13 : T11.heap.size > b_11 := P11_1.lt
  refine own_sh (T := T11) 26 #[.val (.ref wE)] [(.ref b_11)] ?_
  have K14 : Keep h0 T11.heap [] := (((Keep.refl h0 []).trans K4 all0).trans K11 all0)
  obtain ⟨fs, hr, hrun, hended, hW, hsame⟩ := X11.leave (v := some (.ref b_11)) (fun h => by rw [Bd.returns] at h; cases h)
  refine own_ret (t := T11.setFrames fs) ?_ ⟨_, hrun, hended, _, _, rfl, ?_, ⟨_, rfl⟩, hW, hsame.mono (by decide) (by decide)⟩
  · exact retOut X11 hx Bd.returns rfl (Or.inr (Or.inr (Or.inr (Or.inr ⟨rfl, rfl, rfl⟩)))) (hb hby d2_26) hr
  · show Q_part_1 Z wV wW wE wM wI kc h0 n0 _ T11.heap _
    exact ⟨b_11, rfl, N11, K14, (by omega), P11_1, P11_2⟩
def Q_part_2 (Z : State) (wV : Nat) (wW : Nat) (wE : Nat) (wM : Nat) (wI : Nat) (kc : ClassId) (h0 : Heap) (n0 : Nat) (vR : Option Value) (hR : Heap) (LR : List Loc) : Prop := ∃ (b : Nat), vR = some (.ref b) ∧ Fr n0 LR ∧ Keep h0 hR [] ∧ h0.size ≤ b ∧ (Exa Z hR b "java/util/Optional") ∧ (Fld Z hR b "java/util/Optional" "value" "Ljava/lang/Object;" (.ref wI))
set_option maxRecDepth 65536 in
set_option maxHeartbeats 40000000 in
theorem part_2 (l : Launch) (Z : State) (a0 : Array Value) (hw : ∀ d ∈ tables_1, d.before a0 Z = true) (ws : List Jvm.Cond) (wV : Nat) (wW : Nat) (wE : Nat) (wM : Nat) (wI : Nat) (kc : ClassId) (h0 : Heap) (n0 : Nat) (Z0 : n0 ≤ h0.size) (S_ITEM : Sta Z h0 "com/example/undercroft/undercroft/store/WemiClass" "ITEM" "Lcom/example/undercroft/undercroft/store/WemiClass;" (.ref wI)) (E_wM : Exa Z h0 wM "com/example/undercroft/undercroft/store/WemiClass") (F_ordinal_wM : Fld Z h0 wM "java/lang/Enum" "ordinal" "I" (.int 2)) (hne : wM ≠ wI) (S_VALUES : Sta Z h0 "com/example/undercroft/undercroft/store/WemiClass" "$VALUES" "[Lcom/example/undercroft/undercroft/store/WemiClass;" (.ref wV)) (V_wV : Arv Z h0 wV kc (.object "com/example/undercroft/undercroft/store/WemiClass") (4 : Int32) [(.ref wW), (.ref wE), (.ref wM), (.ref wI)] .null) (E_wV : Exa Z h0 wV "[Lcom/example/undercroft/undercroft/store/WemiClass;") :
    own_M l (⟨"com/example/undercroft/undercroft/store/WemiClass", "partClass", "()Ljava/util/Optional;"⟩ : MethodName) prog_24_method_5_code 1 (some (.object "java/util/Optional")) ws ({ frames := 3, cells := 2, slots := 5, locals := 38 } : Room) Z #[(.ref wM)] h0 (Q_part_2 Z wV wW wE wM wI kc h0 n0) := by
  refine own_body (own := "com/example/undercroft/undercroft/store/WemiClass") rfl (plainFor_of_name pn_2) (fun m => ef_part_item m wM) ?_
  intro p e s m below meth c s₁ Bd hml hZ hh hx hby hown X0 e0
  have N0 := Fr.nil n0
  have lt1 : h0.size > wM := E_wM.lt
  have lt2 : h0.size > wV := V_wV.lt
  refine own_aloadN X0.here hx hby d2_0 rfl rfl ?_
  refine own_getS X0 hx hZ hown (host := "") (Or.inl (own_w hw 12 rfl)) Via.refl e0 S_ITEM hby d2_1 ?_
  intro T3 X3 e3
  refine own_acmp X3 hx (same := false) (pc' := 13) hby d2_4 rfl rfl (decide_eq_false fun q => absurd (Value.ref.inj q) hne) (by decide) (by decide) ?_
  refine own_callS X3 hx hZ hown (own_w hw 14 rfl) (own_w hw 15 rfl) (own_w hw 5 rfl) (own_w hw 16 rfl) (by decide) (values_ l Z a0 hw [] wV wW wE wM wI kc h0 n0 Z0 S_VALUES V_wV E_wV) 0 (Nat.le_of_eq rfl) (by decide) (by decide) (by rw [hml]; rfl) (argsL := []) (st := []) (lenOf pd_3 rfl) rfl rfl (by decide) (by decide) e3 hby d2_13 ?_
  intro T4 v4 L4 X4 hQ4
  obtain ⟨b_4, rfl, Nq4, K4, P4_0, P4_1⟩ := hQ4
  have N4 := Fr.app N0 Nq4
  have z5 : h0.size ≤ T4.heap.size := K4.1
  have lt6 : T4.heap.size > b_4 := P4_1.lt
  refine own_sh (T := T4) 16 #[.val (.ref wM)] [(.ref b_4)] ?_
  refine own_aloadN X4.here hx hby d2_16 rfl rfl ?_
  have f7 : Fld Z T4.heap wM "java/lang/Enum" "ordinal" "I" (.int 2) := (F_ordinal_wM.keep K4 nin0)
  have z9 : n0 ≤ T4.heap.size := by omega
  have f10 : Exa Z T4.heap wM "com/example/undercroft/undercroft/store/WemiClass" := (E_wM.keep K4)
  refine own_virtualUp X4 hx hZ hown (own_w hw 31 rfl) (own_w hw 32 rfl) (own_w hw 33 rfl) (own_w hw 35 rfl) (own_w hw 34 rfl) (own_w hw 36 rfl) (own_w hw 37 rfl) (by decide) (ordinal_ l Z a0 hw [] wM (2 : Int32) T4.heap n0 z9 f7) 1 (Nat.le_of_eq rfl) (by decide) (by decide) (by rw [hml]; rfl) (argsL := []) (st := [(.ref b_4)]) f10 (lenOf pd_4 rfl) rfl rfl (by decide) (by decide) rfl hby d2_17 ?_
  intro T8 v8 L8 X8 hQ8
  obtain ⟨rfl, Nq8, eh8⟩ := hQ8
  have N8 := Fr.app N4 Nq8
  refine own_sh (T := T8) 20 #[.val (.ref wM)] [(.int 2), (.ref b_4)] ?_
  refine own_iconst X8.here hx hby d2_20 (v := (1 : Int32)) (by decide) ?_
  refine own_iadd X8.here hx hby d2_21 (v := (3 : Int32)) (by decide) ?_
  refine own_aaloadH X8 hx hZ eh8 P4_1 rfl ⟨by decide, by decide⟩ (v := (.ref wI)) rfl hby d2_22 ?_
  refine own_callS X8 hx hZ hown (own_w hw 40 rfl) (own_w hw 41 rfl) (own_w hw 42 rfl) (own_w hw 43 rfl) (by decide) (optOf l Z a0 hw [] wI T4.heap n0 z9 ) 0 (Nat.le_of_eq rfl) (by decide) (by decide) (by rw [hml]; rfl) (argsL := [(.ref wI)]) (st := []) (lenOf pd_5 rfl) rfl rfl (by decide) (by decide) eh8 hby d2_23 ?_
  intro T11 v11 L11 X11 hQ11
  obtain ⟨b_11, rfl, Nq11, K11, P11_0, P11_1, P11_2⟩ := hQ11
  have N11 := Fr.app N8 Nq11
  have z12 : T4.heap.size ≤ T11.heap.size := K11.1
  have lt13 : T11.heap.size > b_11 := P11_1.lt
  refine own_sh (T := T11) 26 #[.val (.ref wM)] [(.ref b_11)] ?_
  have K14 : Keep h0 T11.heap [] := (((Keep.refl h0 []).trans K4 all0).trans K11 all0)
  obtain ⟨fs, hr, hrun, hended, hW, hsame⟩ := X11.leave (v := some (.ref b_11)) (fun h => by rw [Bd.returns] at h; cases h)
  refine own_ret (t := T11.setFrames fs) ?_ ⟨_, hrun, hended, _, _, rfl, ?_, ⟨_, rfl⟩, hW, hsame.mono (by decide) (by decide)⟩
  · exact retOut X11 hx Bd.returns rfl (Or.inr (Or.inr (Or.inr (Or.inr ⟨rfl, rfl, rfl⟩)))) (hb hby d2_26) hr
  · show Q_part_2 Z wV wW wE wM wI kc h0 n0 _ T11.heap _
    exact ⟨b_11, rfl, N11, K14, (by omega), P11_1, P11_2⟩
theorem ef_pres1 (m : MethodId) (x0 : Nat) : entryFrame m #[(.ref x0)] 1 = mkF m 0 #[.val (.ref x0)] [] := by first | (simp [entryFrame, mkF, argsToLocals, Value.category]; done) | rfl
theorem pn_9 : plainName "java/util/Optional" = true := by first | (simp [plainName, overriddenIn]; done) | decide +kernel
theorem d9_0 : decode jdk_32_method_6_code 0 = .ok (.aload_n 0, 1) := by decide +kernel
theorem d9_1 : decode jdk_32_method_6_code 1 = .ok (.getfield 13, 3) := by decide +kernel
theorem d9_4 : decode jdk_32_method_6_code 4 = .ok (.ifnull 7, 3) := by decide +kernel
theorem d9_7 : decode jdk_32_method_6_code 7 = .ok (.iconst 1, 1) := by decide +kernel
theorem d9_8 : decode jdk_32_method_6_code 8 = .ok (.goto 4, 3) := by decide +kernel
theorem d9_12 : decode jdk_32_method_6_code 12 = .ok (.ireturn, 1) := by decide +kernel
def Q_pres1 (Z : State) (a1 : Nat) (a2 : Nat) (h0 : Heap) (n0 : Nat) (vR : Option Value) (hR : Heap) (LR : List Loc) : Prop := vR = some (.int 1) ∧ Fr n0 LR ∧ hR = h0
set_option maxRecDepth 65536 in
set_option maxHeartbeats 40000000 in
theorem pres1 (l : Launch) (Z : State) (a0 : Array Value) (hw : ∀ d ∈ tables_1, d.before a0 Z = true) (ws : List Jvm.Cond) (a1 : Nat) (a2 : Nat) (h0 : Heap) (n0 : Nat) (Z0 : n0 ≤ h0.size) (F_value_a1 : Fld Z h0 a1 "java/util/Optional" "value" "Ljava/lang/Object;" (.ref a2)) :
    own_M l (⟨"java/util/Optional", "isPresent", "()Z"⟩ : MethodName) jdk_32_method_6_code 1 (some .boolean) ws ({ frames := 0, cells := 0, slots := 0, locals := 0 } : Room) Z #[(.ref a1)] h0 (Q_pres1 Z a1 a2 h0 n0) := by
  refine own_body (own := "java/util/Optional") rfl (plainFor_of_name pn_9) (fun m => ef_pres1 m a1) ?_
  intro p e s m below meth c s₁ Bd hml hZ hh hx hby hown X0 e0
  have N0 := Fr.nil n0
  have lt3 : h0.size > a1 := F_value_a1.lt
  refine own_aloadN X0.here hx hby d9_0 rfl rfl ?_
  refine own_getF X0 hx hZ hown (host := "") (Or.inl (own_w hw 57 rfl)) Via.refl e0 F_value_a1 hby d9_1 ?_
  intro T4 X4 e4
  refine own_ifnullNo X4.here hx hby d9_4 ?_
  refine own_iconst X4.here hx hby d9_7 (v := (1 : Int32)) (by decide) ?_
  refine own_goto X4.here hx hby (pc' := 12) d9_8 (by decide) (by decide) ?_
  obtain ⟨fs, hr, hrun, hended, hW, hsame⟩ := X4.leave (v := some (.int 1)) (fun h => by rw [Bd.returns] at h; cases h)
  refine own_ret (t := T4.setFrames fs) ?_ ⟨_, hrun, hended, _, _, rfl, ?_, ⟨_, rfl⟩, hW, hsame.mono (by decide) (by decide)⟩
  · exact retN X4 hx (t := .boolean) Bd.returns (by simp) (hb hby d9_12) hr
  · show Q_pres1 Z a1 a2 h0 n0 _ T4.heap _
    rw [e4]
    exact ⟨rfl, N0, rfl⟩
theorem d9_11 : decode jdk_32_method_6_code 11 = .ok (.iconst 0, 1) := by decide +kernel
def Q_pres0 (Z : State) (a1 : Nat) (h0 : Heap) (n0 : Nat) (vR : Option Value) (hR : Heap) (LR : List Loc) : Prop := vR = some (.int 0) ∧ Fr n0 LR ∧ hR = h0
set_option maxRecDepth 65536 in
set_option maxHeartbeats 40000000 in
theorem pres0 (l : Launch) (Z : State) (a0 : Array Value) (hw : ∀ d ∈ tables_1, d.before a0 Z = true) (ws : List Jvm.Cond) (a1 : Nat) (h0 : Heap) (n0 : Nat) (Z0 : n0 ≤ h0.size) (F_value_a1 : Fld Z h0 a1 "java/util/Optional" "value" "Ljava/lang/Object;" .null) :
    own_M l (⟨"java/util/Optional", "isPresent", "()Z"⟩ : MethodName) jdk_32_method_6_code 1 (some .boolean) ws ({ frames := 0, cells := 0, slots := 0, locals := 0 } : Room) Z #[(.ref a1)] h0 (Q_pres0 Z a1 h0 n0) := by
  refine own_body (own := "java/util/Optional") rfl (plainFor_of_name pn_9) (fun m => ef_pres1 m a1) ?_
  intro p e s m below meth c s₁ Bd hml hZ hh hx hby hown X0 e0
  have N0 := Fr.nil n0
  have lt2 : h0.size > a1 := F_value_a1.lt
  refine own_aloadN X0.here hx hby d9_0 rfl rfl ?_
  refine own_getF X0 hx hZ hown (host := "") (Or.inl (own_w hw 57 rfl)) Via.refl e0 F_value_a1 hby d9_1 ?_
  intro T3 X3 e3
  refine own_ifnullYes X3.here hx hby (pc' := 11) d9_4 (by decide) (by decide) ?_
  refine own_iconst X3.here hx hby d9_11 (v := (0 : Int32)) (by decide) ?_
  obtain ⟨fs, hr, hrun, hended, hW, hsame⟩ := X3.leave (v := some (.int 0)) (fun h => by rw [Bd.returns] at h; cases h)
  refine own_ret (t := T3.setFrames fs) ?_ ⟨_, hrun, hended, _, _, rfl, ?_, ⟨_, rfl⟩, hW, hsame.mono (by decide) (by decide)⟩
  · exact retN X3 hx (t := .boolean) Bd.returns (by simp) (hb hby d9_12) hr
  · show Q_pres0 Z a1 h0 n0 _ T3.heap _
    rw [e3]
    exact ⟨rfl, N0, rfl⟩
theorem ef_get_ (m : MethodId) (x0 : Nat) : entryFrame m #[(.ref x0)] 1 = mkF m 0 #[.val (.ref x0)] [] := by first | (simp [entryFrame, mkF, argsToLocals, Value.category]; done) | rfl
theorem pn_10 : plainName "java/util/Optional" = true := by first | (simp [plainName, overriddenIn]; done) | decide +kernel
theorem d10_0 : decode jdk_32_method_5_code 0 = .ok (.aload_n 0, 1) := by decide +kernel
theorem d10_1 : decode jdk_32_method_5_code 1 = .ok (.getfield 13, 3) := by decide +kernel
theorem d10_4 : decode jdk_32_method_5_code 4 = .ok (.ifnonnull 13, 3) := by decide +kernel
theorem d10_17 : decode jdk_32_method_5_code 17 = .ok (.aload_n 0, 1) := by decide +kernel
theorem d10_18 : decode jdk_32_method_5_code 18 = .ok (.getfield 13, 3) := by decide +kernel
theorem d10_21 : decode jdk_32_method_5_code 21 = .ok (.areturn, 1) := by decide +kernel
def Q_get_ (Z : State) (a1 : Nat) (a2 : Nat) (h0 : Heap) (n0 : Nat) (vR : Option Value) (hR : Heap) (LR : List Loc) : Prop := vR = some (.ref a2) ∧ Fr n0 LR ∧ hR = h0
set_option maxRecDepth 65536 in
set_option maxHeartbeats 40000000 in
theorem get_ (l : Launch) (Z : State) (a0 : Array Value) (hw : ∀ d ∈ tables_1, d.before a0 Z = true) (ws : List Jvm.Cond) (a1 : Nat) (a2 : Nat) (h0 : Heap) (n0 : Nat) (Z0 : n0 ≤ h0.size) (F_value_a1 : Fld Z h0 a1 "java/util/Optional" "value" "Ljava/lang/Object;" (.ref a2)) :
    own_M l (⟨"java/util/Optional", "get", "()Ljava/lang/Object;"⟩ : MethodName) jdk_32_method_5_code 1 (some (.object "java/lang/Object")) ws ({ frames := 0, cells := 0, slots := 0, locals := 0 } : Room) Z #[(.ref a1)] h0 (Q_get_ Z a1 a2 h0 n0) := by
  refine own_body (own := "java/util/Optional") rfl (plainFor_of_name pn_10) (fun m => ef_get_ m a1) ?_
  intro p e s m below meth c s₁ Bd hml hZ hh hx hby hown X0 e0
  have N0 := Fr.nil n0
  have lt3 : h0.size > a1 := F_value_a1.lt
  refine own_aloadN X0.here hx hby d10_0 rfl rfl ?_
  refine own_getF X0 hx hZ hown (host := "") (Or.inl (own_w hw 57 rfl)) Via.refl e0 F_value_a1 hby d10_1 ?_
  intro T4 X4 e4
  refine own_ifnonnullYes X4.here hx hby (pc' := 17) d10_4 (by decide) (by decide) ?_
  refine own_aloadN X4.here hx hby d10_17 rfl rfl ?_
  refine own_getF X4 hx hZ hown (host := "") (Or.inl (own_w hw 57 rfl)) Via.refl e4 F_value_a1 hby d10_18 ?_
  intro T5 X5 e5
  obtain ⟨fs, hr, hrun, hended, hW, hsame⟩ := X5.leave (v := some (.ref a2)) (fun h => by rw [Bd.returns] at h; cases h)
  refine own_ret (t := T5.setFrames fs) ?_ ⟨_, hrun, hended, _, _, rfl, ?_, ⟨_, rfl⟩, hW, hsame.mono (by decide) (by decide)⟩
  · exact retOut X5 hx Bd.returns rfl (Or.inr (Or.inr (Or.inr (Or.inr ⟨rfl, rfl, rfl⟩)))) (hb hby d10_21) hr
  · show Q_get_ Z a1 a2 h0 n0 _ T5.heap _
    rw [e5]
    exact ⟨rfl, N0, rfl⟩
theorem ef_rm0 (m : MethodId) (x0 : Int32) : entryFrame m #[(.int x0)] maxLocals = mkF m 0 #[.val (.int x0), .unset, .unset, .unset, .unset] [] := by first | (simp [entryFrame, mkF, argsToLocals, Value.category, maxLocals]; done) | rfl
theorem pn_0 : plainName "com/example/undercroft/undercroft/store/WemiClassPartClassPinLaw" = true := by first | (simp [plainName, overriddenIn]; done) | decide +kernel
theorem pd_6 : parseMethodDescriptor "(I)Lcom/example/undercroft/undercroft/store/WemiClass;" = some ⟨[.int], some (.object "com/example/undercroft/undercroft/store/WemiClass")⟩ := by decide +kernel
theorem pd_7 : parseMethodDescriptor "()Z" = some ⟨[], some .boolean⟩ := by decide +kernel
theorem pd_8 : parseMethodDescriptor "()Ljava/lang/Object;" = some ⟨[], some (.object "java/lang/Object")⟩ := by decide +kernel
def Q_rm0 (Z : State) (p1 : Int32) (wV : Nat) (wW : Nat) (wE : Nat) (wM : Nat) (wI : Nat) (kc : ClassId) (wO : Nat) (h0 : Heap) (n0 : Nat) (vR : Option Value) (hR : Heap) (LR : List Loc) : Prop := vR = some (.int 1) ∧ Fr n0 LR ∧ True
set_option maxRecDepth 65536 in
set_option maxHeartbeats 40000000 in
theorem rm0 (l : Launch) (Z : State) (a0 : Array Value) (hw : ∀ d ∈ tables_1, d.before a0 Z = true) (ws : List Jvm.Cond) (p1 : Int32) (wV : Nat) (wW : Nat) (wE : Nat) (wM : Nat) (wI : Nat) (kc : ClassId) (wO : Nat) (h0 : Heap) (n0 : Nat) (Z0 : n0 ≤ h0.size) (S_WORK : Sta Z h0 "com/example/undercroft/undercroft/store/WemiClass" "WORK" "Lcom/example/undercroft/undercroft/store/WemiClass;" (.ref wW)) (S_EXPRESSION : Sta Z h0 "com/example/undercroft/undercroft/store/WemiClass" "EXPRESSION" "Lcom/example/undercroft/undercroft/store/WemiClass;" (.ref wE)) (S_MANIFESTATION : Sta Z h0 "com/example/undercroft/undercroft/store/WemiClass" "MANIFESTATION" "Lcom/example/undercroft/undercroft/store/WemiClass;" (.ref wM)) (S_ITEM : Sta Z h0 "com/example/undercroft/undercroft/store/WemiClass" "ITEM" "Lcom/example/undercroft/undercroft/store/WemiClass;" (.ref wI)) (S_VALUES : Sta Z h0 "com/example/undercroft/undercroft/store/WemiClass" "$VALUES" "[Lcom/example/undercroft/undercroft/store/WemiClass;" (.ref wV)) (V_wV : Arv Z h0 wV kc (.object "com/example/undercroft/undercroft/store/WemiClass") (4 : Int32) [(.ref wW), (.ref wE), (.ref wM), (.ref wI)] .null) (E_wV : Exa Z h0 wV "[Lcom/example/undercroft/undercroft/store/WemiClass;") (S_EMPTY : Sta Z h0 "java/util/Optional" "EMPTY" "Ljava/util/Optional;" (.ref wO)) (E_wO : Exa Z h0 wO "java/util/Optional") (F_value_wO : Fld Z h0 wO "java/util/Optional" "value" "Ljava/lang/Object;" .null) (E_wW : Exa Z h0 wW "com/example/undercroft/undercroft/store/WemiClass") (F_ordinal_wW : Fld Z h0 wW "java/lang/Enum" "ordinal" "I" (.int 0)) (E_wE : Exa Z h0 wE "com/example/undercroft/undercroft/store/WemiClass") (F_ordinal_wE : Fld Z h0 wE "java/lang/Enum" "ordinal" "I" (.int 1)) (E_wM : Exa Z h0 wM "com/example/undercroft/undercroft/store/WemiClass") (F_ordinal_wM : Fld Z h0 wM "java/lang/Enum" "ordinal" "I" (.int 2)) (E_wI : Exa Z h0 wI "com/example/undercroft/undercroft/store/WemiClass") (F_ordinal_wI : Fld Z h0 wI "java/lang/Enum" "ordinal" "I" (.int 3)) (ne_0 : wW ≠ wI) (ne_1 : wE ≠ wI) (ne_2 : wM ≠ wI) :
    own_M l x code maxLocals ret ws room_1 Z #[(.int p1)] h0 (Q_rm0 Z p1 wV wW wE wM wI kc wO h0 n0) := by
  refine own_body (own := "com/example/undercroft/undercroft/store/WemiClassPartClassPinLaw") rfl (plainFor_of_name pn_0) (fun m => ef_rm0 m p1) ?_
  intro p e s m below meth c s₁ Bd hml hZ hh hx hby hown X0 e0
  have N0 := Fr.nil n0
  have lt2 : h0.size > wV := V_wV.lt
  have lt3 : h0.size > wO := E_wO.lt
  have lt4 : h0.size > wW := E_wW.lt
  have lt5 : h0.size > wE := E_wE.lt
  have lt6 : h0.size > wM := E_wM.lt
  have lt7 : h0.size > wI := E_wI.lt
  refine own_iloadN X0.here hx hby at_0 rfl ?_
  refine own_iconst X0.here hx hby at_1 (v := (3 : Int32)) (by decide) ?_
  refine own_iand X0.here hx hby at_2 rfl ?_
  refine own_sh (T := s₁) 3 #[.val (.int p1), .unset, .unset, .unset, .unset] [(.int (p1 &&& (3 : Int32)))] ?_
  rcases own_and3 p1 with hk | hk | hk | hk
  · rw [hk]
    refine own_istoreN X0.here hx hby at_3 (l' := #[.val (.int p1), .val (.int 0), .unset, .unset, .unset]) rfl ?_
    refine own_iloadN X0.here hx hby at_4 rfl ?_
    refine own_callS X0 hx hZ hown (own_w hw 0 rfl) (own_w hw 1 rfl) (own_w hw 2 rfl) (own_w hw 3 rfl) (by decide) (pick_0 l Z a0 hw [] wW h0 n0 Z0 S_WORK) 0 (Nat.le_of_eq rfl) (by decide) (by decide) (by rw [hml]; rfl) (argsL := [(.int 0)]) (st := []) (lenOf pd_6 rfl) rfl rfl (by decide) (by decide) e0 hby at_5 ?_
    intro T8 v8 L8 X8 hQ8
    obtain ⟨rfl, Nq8, eh8⟩ := hQ8
    have N8 := Fr.app N0 Nq8
    refine own_sh (T := T8) 8 #[.val (.int p1), .val (.int 0), .unset, .unset, .unset] [(.ref wW)] ?_
    refine own_astoreN X8.here hx hby at_8 rfl (l' := #[.val (.int p1), .val (.int 0), .val (.ref wW), .unset, .unset]) rfl ?_
    refine own_aloadN X8.here hx hby at_9 rfl rfl ?_
    refine own_virtual X8 hx hZ hown (own_w hw 7 rfl) (own_w hw 8 rfl) (notFace_of_selects (args := #[]) (mvT hZ (own_w hw 10 rfl))) (own_w hw 10 rfl) (own_w hw 9 rfl) (own_w hw 5 rfl) (own_w hw 11 rfl) (by decide) (part_0 l Z a0 hw [] wV wW wE wM wI kc h0 n0 Z0 S_ITEM E_wW F_ordinal_wW ne_0 S_VALUES V_wV E_wV) 0 (Nat.le_of_eq rfl) (by decide) (by decide) (by rw [hml]; rfl) (argsL := []) (st := []) E_wW (lenOf pd_2 rfl) rfl rfl (by decide) (by decide) eh8 hby at_10 ?_
    intro T9 v9 L9 X9 hQ9
    obtain ⟨b_9, rfl, Nq9, K9, P9_0, P9_1, P9_2⟩ := hQ9
    have N9 := Fr.app N8 Nq9
    have z10 : h0.size ≤ T9.heap.size := K9.1
    have lt11 : T9.heap.size > b_9 := P9_1.lt
    refine own_sh (T := T9) 13 #[.val (.int p1), .val (.int 0), .val (.ref wW), .unset, .unset] [(.ref b_9)] ?_
    refine own_astoreN X9.here hx hby at_13 rfl (l' := #[.val (.int p1), .val (.int 0), .val (.ref wW), .val (.ref b_9), .unset]) rfl ?_
    refine own_aloadN X9.here hx hby at_14 rfl rfl ?_
    refine own_ifnonnullYes X9.here hx hby (pc' := 20) at_15 (by decide) (by decide) ?_
    refine own_iloadN X9.here hx hby at_20 rfl ?_
    refine own_iconst X9.here hx hby at_21 (v := (3 : Int32)) (by decide) ?_
    refine own_icmpYes X9.here hx hby (pc' := 38) at_22 (feq (show ¬ ((0 : Int32) = (3 : Int32)) from (by decide))).2 (by decide) (by decide) ?_
    refine own_aloadN X9.here hx hby at_38 rfl rfl ?_
    have z13 : n0 ≤ T9.heap.size := by omega
    refine own_virtual X9 hx hZ hown (own_w hw 59 rfl) (own_w hw 60 rfl) (notFace_of_selects (args := #[]) (mvT hZ (own_w hw 62 rfl))) (own_w hw 62 rfl) (own_w hw 61 rfl) (own_w hw 42 rfl) (own_w hw 63 rfl) (by decide) (pres1 l Z a0 hw [] b_9 wE T9.heap n0 z13 P9_2) 0 (Nat.le_of_eq rfl) (by decide) (by decide) (by rw [hml]; rfl) (argsL := []) (st := []) P9_1 (lenOf pd_7 rfl) rfl rfl (by decide) (by decide) rfl hby at_39 ?_
    intro T12 v12 L12 X12 hQ12
    obtain ⟨rfl, Nq12, eh12⟩ := hQ12
    have N12 := Fr.app N9 Nq12
    refine own_sh (T := T12) 42 #[.val (.int p1), .val (.int 0), .val (.ref wW), .val (.ref b_9), .unset] [(.int 1)] ?_
    refine own_ifYes X12.here hx hby (pc' := 47) at_42 ((if0 _ _).trans (feq (show ¬ ((1 : Int32) = (0 : Int32)) from (by decide))).2) (by decide) (by decide) ?_
    refine own_aloadN X12.here hx hby at_47 rfl rfl ?_
    refine own_virtual X12 hx hZ hown (own_w hw 64 rfl) (own_w hw 65 rfl) (notFace_of_selects (args := #[]) (mvT hZ (own_w hw 67 rfl))) (own_w hw 67 rfl) (own_w hw 66 rfl) (own_w hw 42 rfl) (own_w hw 68 rfl) (by decide) (get_ l Z a0 hw [] b_9 wE T9.heap n0 z13 P9_2) 0 (Nat.le_of_eq rfl) (by decide) (by decide) (by rw [hml]; rfl) (argsL := []) (st := []) P9_1 (lenOf pd_8 rfl) rfl rfl (by decide) (by decide) eh12 hby at_48 ?_
    intro T14 v14 L14 X14 hQ14
    obtain ⟨rfl, Nq14, eh14⟩ := hQ14
    have N14 := Fr.app N12 Nq14
    refine own_sh (T := T14) 51 #[.val (.int p1), .val (.int 0), .val (.ref wW), .val (.ref b_9), .unset] [(.ref wE)] ?_
    have f15 : Exa Z T9.heap wE "com/example/undercroft/undercroft/store/WemiClass" := (E_wE.keep K9)
    refine own_castY X14 hx hZ hown (own_w hw 69 rfl) eh14 (Ins.self f15) hby at_51 ?_
    intro T16 X16 e16
    refine own_astore X16.here hx hby at_54 rfl (l' := #[.val (.int p1), .val (.int 0), .val (.ref wW), .val (.ref b_9), .val (.ref wE)]) rfl ?_
    refine own_iloadN X16.here hx hby at_56 rfl ?_
    refine own_ifNo X16.here hx hby at_57 ((if0 _ _).trans (teq (show (0 : Int32) = (0 : Int32) from (by decide))).2) ?_
    refine own_aload X16.here hx hby at_60 rfl rfl ?_
    have f17 : Sta Z T9.heap "com/example/undercroft/undercroft/store/WemiClass" "EXPRESSION" "Lcom/example/undercroft/undercroft/store/WemiClass;" (.ref wE) := (own_sta_keep S_EXPRESSION K9 all0)
    refine own_getS X16 hx hZ hown (host := "") (Or.inl (own_w hw 71 rfl)) Via.refl e16 f17 hby at_62 ?_
    intro T18 X18 e18
    refine own_acmp X18 hx (same := true) (pc' := 68) hby at_65 rfl rfl (decide_eq_true rfl) (by decide) (by decide) ?_
    refine own_iconst X18.here hx hby at_68 (v := (1 : Int32)) (by decide) ?_
    refine own_goto X18.here hx hby (pc' := 73) at_69 (by decide) (by decide) ?_
    obtain ⟨fs, hr, hrun, hended, hW, hsame⟩ := X18.leave (v := some (.int 1)) (fun h => by rw [Bd.returns] at h; cases h)
    refine own_ret (t := T18.setFrames fs) ?_ ⟨_, hrun, hended, _, _, rfl, ?_, ⟨_, rfl⟩, hW, hsame.mono (by decide) (by decide)⟩
    · exact retN X18 hx (t := .boolean) Bd.returns (by simp) (hb hby at_73) hr
    · show Q_rm0 Z p1 wV wW wE wM wI kc wO h0 n0 _ T18.heap _
      rw [e18]
      exact ⟨rfl, N14, trivial⟩
  · rw [hk]
    refine own_istoreN X0.here hx hby at_3 (l' := #[.val (.int p1), .val (.int 1), .unset, .unset, .unset]) rfl ?_
    refine own_iloadN X0.here hx hby at_4 rfl ?_
    refine own_callS X0 hx hZ hown (own_w hw 0 rfl) (own_w hw 1 rfl) (own_w hw 2 rfl) (own_w hw 3 rfl) (by decide) (pick_1 l Z a0 hw [] wE h0 n0 Z0 S_EXPRESSION) 0 (Nat.le_of_eq rfl) (by decide) (by decide) (by rw [hml]; rfl) (argsL := [(.int 1)]) (st := []) (lenOf pd_6 rfl) rfl rfl (by decide) (by decide) e0 hby at_5 ?_
    intro T19 v19 L19 X19 hQ19
    obtain ⟨rfl, Nq19, eh19⟩ := hQ19
    have N19 := Fr.app N0 Nq19
    refine own_sh (T := T19) 8 #[.val (.int p1), .val (.int 1), .unset, .unset, .unset] [(.ref wE)] ?_
    refine own_astoreN X19.here hx hby at_8 rfl (l' := #[.val (.int p1), .val (.int 1), .val (.ref wE), .unset, .unset]) rfl ?_
    refine own_aloadN X19.here hx hby at_9 rfl rfl ?_
    refine own_virtual X19 hx hZ hown (own_w hw 7 rfl) (own_w hw 8 rfl) (notFace_of_selects (args := #[]) (mvT hZ (own_w hw 10 rfl))) (own_w hw 10 rfl) (own_w hw 9 rfl) (own_w hw 5 rfl) (own_w hw 11 rfl) (by decide) (part_1 l Z a0 hw [] wV wW wE wM wI kc h0 n0 Z0 S_ITEM E_wE F_ordinal_wE ne_1 S_VALUES V_wV E_wV) 0 (Nat.le_of_eq rfl) (by decide) (by decide) (by rw [hml]; rfl) (argsL := []) (st := []) E_wE (lenOf pd_2 rfl) rfl rfl (by decide) (by decide) eh19 hby at_10 ?_
    intro T20 v20 L20 X20 hQ20
    obtain ⟨b_20, rfl, Nq20, K20, P20_0, P20_1, P20_2⟩ := hQ20
    have N20 := Fr.app N19 Nq20
    have z21 : h0.size ≤ T20.heap.size := K20.1
    have lt22 : T20.heap.size > b_20 := P20_1.lt
    refine own_sh (T := T20) 13 #[.val (.int p1), .val (.int 1), .val (.ref wE), .unset, .unset] [(.ref b_20)] ?_
    refine own_astoreN X20.here hx hby at_13 rfl (l' := #[.val (.int p1), .val (.int 1), .val (.ref wE), .val (.ref b_20), .unset]) rfl ?_
    refine own_aloadN X20.here hx hby at_14 rfl rfl ?_
    refine own_ifnonnullYes X20.here hx hby (pc' := 20) at_15 (by decide) (by decide) ?_
    refine own_iloadN X20.here hx hby at_20 rfl ?_
    refine own_iconst X20.here hx hby at_21 (v := (3 : Int32)) (by decide) ?_
    refine own_icmpYes X20.here hx hby (pc' := 38) at_22 (feq (show ¬ ((1 : Int32) = (3 : Int32)) from (by decide))).2 (by decide) (by decide) ?_
    refine own_aloadN X20.here hx hby at_38 rfl rfl ?_
    have z24 : n0 ≤ T20.heap.size := by omega
    refine own_virtual X20 hx hZ hown (own_w hw 59 rfl) (own_w hw 60 rfl) (notFace_of_selects (args := #[]) (mvT hZ (own_w hw 62 rfl))) (own_w hw 62 rfl) (own_w hw 61 rfl) (own_w hw 42 rfl) (own_w hw 63 rfl) (by decide) (pres1 l Z a0 hw [] b_20 wM T20.heap n0 z24 P20_2) 0 (Nat.le_of_eq rfl) (by decide) (by decide) (by rw [hml]; rfl) (argsL := []) (st := []) P20_1 (lenOf pd_7 rfl) rfl rfl (by decide) (by decide) rfl hby at_39 ?_
    intro T23 v23 L23 X23 hQ23
    obtain ⟨rfl, Nq23, eh23⟩ := hQ23
    have N23 := Fr.app N20 Nq23
    refine own_sh (T := T23) 42 #[.val (.int p1), .val (.int 1), .val (.ref wE), .val (.ref b_20), .unset] [(.int 1)] ?_
    refine own_ifYes X23.here hx hby (pc' := 47) at_42 ((if0 _ _).trans (feq (show ¬ ((1 : Int32) = (0 : Int32)) from (by decide))).2) (by decide) (by decide) ?_
    refine own_aloadN X23.here hx hby at_47 rfl rfl ?_
    refine own_virtual X23 hx hZ hown (own_w hw 64 rfl) (own_w hw 65 rfl) (notFace_of_selects (args := #[]) (mvT hZ (own_w hw 67 rfl))) (own_w hw 67 rfl) (own_w hw 66 rfl) (own_w hw 42 rfl) (own_w hw 68 rfl) (by decide) (get_ l Z a0 hw [] b_20 wM T20.heap n0 z24 P20_2) 0 (Nat.le_of_eq rfl) (by decide) (by decide) (by rw [hml]; rfl) (argsL := []) (st := []) P20_1 (lenOf pd_8 rfl) rfl rfl (by decide) (by decide) eh23 hby at_48 ?_
    intro T25 v25 L25 X25 hQ25
    obtain ⟨rfl, Nq25, eh25⟩ := hQ25
    have N25 := Fr.app N23 Nq25
    refine own_sh (T := T25) 51 #[.val (.int p1), .val (.int 1), .val (.ref wE), .val (.ref b_20), .unset] [(.ref wM)] ?_
    have f26 : Exa Z T20.heap wM "com/example/undercroft/undercroft/store/WemiClass" := (E_wM.keep K20)
    refine own_castY X25 hx hZ hown (own_w hw 69 rfl) eh25 (Ins.self f26) hby at_51 ?_
    intro T27 X27 e27
    refine own_astore X27.here hx hby at_54 rfl (l' := #[.val (.int p1), .val (.int 1), .val (.ref wE), .val (.ref b_20), .val (.ref wM)]) rfl ?_
    refine own_iloadN X27.here hx hby at_56 rfl ?_
    refine own_ifYes X27.here hx hby (pc' := 74) at_57 ((if0 _ _).trans (feq (show ¬ ((1 : Int32) = (0 : Int32)) from (by decide))).2) (by decide) (by decide) ?_
    refine own_iloadN X27.here hx hby at_74 rfl ?_
    refine own_iconst X27.here hx hby at_75 (v := (1 : Int32)) (by decide) ?_
    refine own_icmpNo X27.here hx hby at_76 (teq (show (1 : Int32) = (1 : Int32) from (by decide))).2 ?_
    refine own_aload X27.here hx hby at_79 rfl rfl ?_
    have f28 : Sta Z T20.heap "com/example/undercroft/undercroft/store/WemiClass" "MANIFESTATION" "Lcom/example/undercroft/undercroft/store/WemiClass;" (.ref wM) := (own_sta_keep S_MANIFESTATION K20 all0)
    refine own_getS X27 hx hZ hown (host := "") (Or.inl (own_w hw 77 rfl)) Via.refl e27 f28 hby at_81 ?_
    intro T29 X29 e29
    refine own_acmp X29 hx (same := true) (pc' := 87) hby at_84 rfl rfl (decide_eq_true rfl) (by decide) (by decide) ?_
    refine own_iconst X29.here hx hby at_87 (v := (1 : Int32)) (by decide) ?_
    refine own_goto X29.here hx hby (pc' := 92) at_88 (by decide) (by decide) ?_
    obtain ⟨fs, hr, hrun, hended, hW, hsame⟩ := X29.leave (v := some (.int 1)) (fun h => by rw [Bd.returns] at h; cases h)
    refine own_ret (t := T29.setFrames fs) ?_ ⟨_, hrun, hended, _, _, rfl, ?_, ⟨_, rfl⟩, hW, hsame.mono (by decide) (by decide)⟩
    · exact retN X29 hx (t := .boolean) Bd.returns (by simp) (hb hby at_92) hr
    · show Q_rm0 Z p1 wV wW wE wM wI kc wO h0 n0 _ T29.heap _
      rw [e29]
      exact ⟨rfl, N25, trivial⟩
  · rw [hk]
    refine own_istoreN X0.here hx hby at_3 (l' := #[.val (.int p1), .val (.int 2), .unset, .unset, .unset]) rfl ?_
    refine own_iloadN X0.here hx hby at_4 rfl ?_
    refine own_callS X0 hx hZ hown (own_w hw 0 rfl) (own_w hw 1 rfl) (own_w hw 2 rfl) (own_w hw 3 rfl) (by decide) (pick_2 l Z a0 hw [] wM h0 n0 Z0 S_MANIFESTATION) 0 (Nat.le_of_eq rfl) (by decide) (by decide) (by rw [hml]; rfl) (argsL := [(.int 2)]) (st := []) (lenOf pd_6 rfl) rfl rfl (by decide) (by decide) e0 hby at_5 ?_
    intro T30 v30 L30 X30 hQ30
    obtain ⟨rfl, Nq30, eh30⟩ := hQ30
    have N30 := Fr.app N0 Nq30
    refine own_sh (T := T30) 8 #[.val (.int p1), .val (.int 2), .unset, .unset, .unset] [(.ref wM)] ?_
    refine own_astoreN X30.here hx hby at_8 rfl (l' := #[.val (.int p1), .val (.int 2), .val (.ref wM), .unset, .unset]) rfl ?_
    refine own_aloadN X30.here hx hby at_9 rfl rfl ?_
    refine own_virtual X30 hx hZ hown (own_w hw 7 rfl) (own_w hw 8 rfl) (notFace_of_selects (args := #[]) (mvT hZ (own_w hw 10 rfl))) (own_w hw 10 rfl) (own_w hw 9 rfl) (own_w hw 5 rfl) (own_w hw 11 rfl) (by decide) (part_2 l Z a0 hw [] wV wW wE wM wI kc h0 n0 Z0 S_ITEM E_wM F_ordinal_wM ne_2 S_VALUES V_wV E_wV) 0 (Nat.le_of_eq rfl) (by decide) (by decide) (by rw [hml]; rfl) (argsL := []) (st := []) E_wM (lenOf pd_2 rfl) rfl rfl (by decide) (by decide) eh30 hby at_10 ?_
    intro T31 v31 L31 X31 hQ31
    obtain ⟨b_31, rfl, Nq31, K31, P31_0, P31_1, P31_2⟩ := hQ31
    have N31 := Fr.app N30 Nq31
    have z32 : h0.size ≤ T31.heap.size := K31.1
    have lt33 : T31.heap.size > b_31 := P31_1.lt
    refine own_sh (T := T31) 13 #[.val (.int p1), .val (.int 2), .val (.ref wM), .unset, .unset] [(.ref b_31)] ?_
    refine own_astoreN X31.here hx hby at_13 rfl (l' := #[.val (.int p1), .val (.int 2), .val (.ref wM), .val (.ref b_31), .unset]) rfl ?_
    refine own_aloadN X31.here hx hby at_14 rfl rfl ?_
    refine own_ifnonnullYes X31.here hx hby (pc' := 20) at_15 (by decide) (by decide) ?_
    refine own_iloadN X31.here hx hby at_20 rfl ?_
    refine own_iconst X31.here hx hby at_21 (v := (3 : Int32)) (by decide) ?_
    refine own_icmpYes X31.here hx hby (pc' := 38) at_22 (feq (show ¬ ((2 : Int32) = (3 : Int32)) from (by decide))).2 (by decide) (by decide) ?_
    refine own_aloadN X31.here hx hby at_38 rfl rfl ?_
    have z35 : n0 ≤ T31.heap.size := by omega
    refine own_virtual X31 hx hZ hown (own_w hw 59 rfl) (own_w hw 60 rfl) (notFace_of_selects (args := #[]) (mvT hZ (own_w hw 62 rfl))) (own_w hw 62 rfl) (own_w hw 61 rfl) (own_w hw 42 rfl) (own_w hw 63 rfl) (by decide) (pres1 l Z a0 hw [] b_31 wI T31.heap n0 z35 P31_2) 0 (Nat.le_of_eq rfl) (by decide) (by decide) (by rw [hml]; rfl) (argsL := []) (st := []) P31_1 (lenOf pd_7 rfl) rfl rfl (by decide) (by decide) rfl hby at_39 ?_
    intro T34 v34 L34 X34 hQ34
    obtain ⟨rfl, Nq34, eh34⟩ := hQ34
    have N34 := Fr.app N31 Nq34
    refine own_sh (T := T34) 42 #[.val (.int p1), .val (.int 2), .val (.ref wM), .val (.ref b_31), .unset] [(.int 1)] ?_
    refine own_ifYes X34.here hx hby (pc' := 47) at_42 ((if0 _ _).trans (feq (show ¬ ((1 : Int32) = (0 : Int32)) from (by decide))).2) (by decide) (by decide) ?_
    refine own_aloadN X34.here hx hby at_47 rfl rfl ?_
    refine own_virtual X34 hx hZ hown (own_w hw 64 rfl) (own_w hw 65 rfl) (notFace_of_selects (args := #[]) (mvT hZ (own_w hw 67 rfl))) (own_w hw 67 rfl) (own_w hw 66 rfl) (own_w hw 42 rfl) (own_w hw 68 rfl) (by decide) (get_ l Z a0 hw [] b_31 wI T31.heap n0 z35 P31_2) 0 (Nat.le_of_eq rfl) (by decide) (by decide) (by rw [hml]; rfl) (argsL := []) (st := []) P31_1 (lenOf pd_8 rfl) rfl rfl (by decide) (by decide) eh34 hby at_48 ?_
    intro T36 v36 L36 X36 hQ36
    obtain ⟨rfl, Nq36, eh36⟩ := hQ36
    have N36 := Fr.app N34 Nq36
    refine own_sh (T := T36) 51 #[.val (.int p1), .val (.int 2), .val (.ref wM), .val (.ref b_31), .unset] [(.ref wI)] ?_
    have f37 : Exa Z T31.heap wI "com/example/undercroft/undercroft/store/WemiClass" := (E_wI.keep K31)
    refine own_castY X36 hx hZ hown (own_w hw 69 rfl) eh36 (Ins.self f37) hby at_51 ?_
    intro T38 X38 e38
    refine own_astore X38.here hx hby at_54 rfl (l' := #[.val (.int p1), .val (.int 2), .val (.ref wM), .val (.ref b_31), .val (.ref wI)]) rfl ?_
    refine own_iloadN X38.here hx hby at_56 rfl ?_
    refine own_ifYes X38.here hx hby (pc' := 74) at_57 ((if0 _ _).trans (feq (show ¬ ((2 : Int32) = (0 : Int32)) from (by decide))).2) (by decide) (by decide) ?_
    refine own_iloadN X38.here hx hby at_74 rfl ?_
    refine own_iconst X38.here hx hby at_75 (v := (1 : Int32)) (by decide) ?_
    refine own_icmpYes X38.here hx hby (pc' := 93) at_76 (feq (show ¬ ((2 : Int32) = (1 : Int32)) from (by decide))).2 (by decide) (by decide) ?_
    refine own_aload X38.here hx hby at_93 rfl rfl ?_
    have f39 : Sta Z T31.heap "com/example/undercroft/undercroft/store/WemiClass" "ITEM" "Lcom/example/undercroft/undercroft/store/WemiClass;" (.ref wI) := (own_sta_keep S_ITEM K31 all0)
    refine own_getS X38 hx hZ hown (host := "") (Or.inl (own_w hw 72 rfl)) Via.refl e38 f39 hby at_95 ?_
    intro T40 X40 e40
    refine own_acmp X40 hx (same := true) (pc' := 101) hby at_98 rfl rfl (decide_eq_true rfl) (by decide) (by decide) ?_
    refine own_iconst X40.here hx hby at_101 (v := (1 : Int32)) (by decide) ?_
    refine own_goto X40.here hx hby (pc' := 106) at_102 (by decide) (by decide) ?_
    obtain ⟨fs, hr, hrun, hended, hW, hsame⟩ := X40.leave (v := some (.int 1)) (fun h => by rw [Bd.returns] at h; cases h)
    refine own_ret (t := T40.setFrames fs) ?_ ⟨_, hrun, hended, _, _, rfl, ?_, ⟨_, rfl⟩, hW, hsame.mono (by decide) (by decide)⟩
    · exact retN X40 hx (t := .boolean) Bd.returns (by simp) (hb hby at_106) hr
    · show Q_rm0 Z p1 wV wW wE wM wI kc wO h0 n0 _ T40.heap _
      rw [e40]
      exact ⟨rfl, N36, trivial⟩
  · rw [hk]
    refine own_istoreN X0.here hx hby at_3 (l' := #[.val (.int p1), .val (.int 3), .unset, .unset, .unset]) rfl ?_
    refine own_iloadN X0.here hx hby at_4 rfl ?_
    refine own_callS X0 hx hZ hown (own_w hw 0 rfl) (own_w hw 1 rfl) (own_w hw 2 rfl) (own_w hw 3 rfl) (by decide) (pick_3 l Z a0 hw [] wI h0 n0 Z0 S_ITEM) 0 (Nat.le_of_eq rfl) (by decide) (by decide) (by rw [hml]; rfl) (argsL := [(.int 3)]) (st := []) (lenOf pd_6 rfl) rfl rfl (by decide) (by decide) e0 hby at_5 ?_
    intro T41 v41 L41 X41 hQ41
    obtain ⟨rfl, Nq41, eh41⟩ := hQ41
    have N41 := Fr.app N0 Nq41
    refine own_sh (T := T41) 8 #[.val (.int p1), .val (.int 3), .unset, .unset, .unset] [(.ref wI)] ?_
    refine own_astoreN X41.here hx hby at_8 rfl (l' := #[.val (.int p1), .val (.int 3), .val (.ref wI), .unset, .unset]) rfl ?_
    refine own_aloadN X41.here hx hby at_9 rfl rfl ?_
    refine own_virtual X41 hx hZ hown (own_w hw 7 rfl) (own_w hw 8 rfl) (notFace_of_selects (args := #[]) (mvT hZ (own_w hw 10 rfl))) (own_w hw 10 rfl) (own_w hw 9 rfl) (own_w hw 5 rfl) (own_w hw 11 rfl) (by decide) (part_item l Z a0 hw [] wI wO h0 n0 Z0 S_ITEM S_EMPTY) 0 (Nat.le_of_eq rfl) (by decide) (by decide) (by rw [hml]; rfl) (argsL := []) (st := []) E_wI (lenOf pd_2 rfl) rfl rfl (by decide) (by decide) eh41 hby at_10 ?_
    intro T42 v42 L42 X42 hQ42
    obtain ⟨rfl, Nq42, eh42⟩ := hQ42
    have N42 := Fr.app N41 Nq42
    refine own_sh (T := T42) 13 #[.val (.int p1), .val (.int 3), .val (.ref wI), .unset, .unset] [(.ref wO)] ?_
    refine own_astoreN X42.here hx hby at_13 rfl (l' := #[.val (.int p1), .val (.int 3), .val (.ref wI), .val (.ref wO), .unset]) rfl ?_
    refine own_aloadN X42.here hx hby at_14 rfl rfl ?_
    refine own_ifnonnullYes X42.here hx hby (pc' := 20) at_15 (by decide) (by decide) ?_
    refine own_iloadN X42.here hx hby at_20 rfl ?_
    refine own_iconst X42.here hx hby at_21 (v := (3 : Int32)) (by decide) ?_
    refine own_icmpNo X42.here hx hby at_22 (teq (show (3 : Int32) = (3 : Int32) from (by decide))).2 ?_
    refine own_aloadN X42.here hx hby at_25 rfl rfl ?_
    refine own_virtual X42 hx hZ hown (own_w hw 59 rfl) (own_w hw 60 rfl) (notFace_of_selects (args := #[]) (mvT hZ (own_w hw 62 rfl))) (own_w hw 62 rfl) (own_w hw 61 rfl) (own_w hw 42 rfl) (own_w hw 63 rfl) (by decide) (pres0 l Z a0 hw [] wO h0 n0 Z0 F_value_wO) 0 (Nat.le_of_eq rfl) (by decide) (by decide) (by rw [hml]; rfl) (argsL := []) (st := []) E_wO (lenOf pd_7 rfl) rfl rfl (by decide) (by decide) eh42 hby at_26 ?_
    intro T43 v43 L43 X43 hQ43
    obtain ⟨rfl, Nq43, eh43⟩ := hQ43
    have N43 := Fr.app N42 Nq43
    refine own_sh (T := T43) 29 #[.val (.int p1), .val (.int 3), .val (.ref wI), .val (.ref wO), .unset] [(.int 0)] ?_
    refine own_ifNo X43.here hx hby at_29 ((if0 _ _).trans (teq (show (0 : Int32) = (0 : Int32) from (by decide))).2) ?_
    refine own_iconst X43.here hx hby at_32 (v := (1 : Int32)) (by decide) ?_
    refine own_goto X43.here hx hby (pc' := 37) at_33 (by decide) (by decide) ?_
    obtain ⟨fs, hr, hrun, hended, hW, hsame⟩ := X43.leave (v := some (.int 1)) (fun h => by rw [Bd.returns] at h; cases h)
    refine own_ret (t := T43.setFrames fs) ?_ ⟨_, hrun, hended, _, _, rfl, ?_, ⟨_, rfl⟩, hW, hsame.mono (by decide) (by decide)⟩
    · exact retN X43 hx (t := .boolean) Bd.returns (by simp) (hb hby at_37) hr
    · show Q_rm0 Z p1 wV wW wE wM wI kc wO h0 n0 _ T43.heap _
      rw [eh43]
      exact ⟨rfl, N43, trivial⟩
theorem own_elem {args : Array Value} {s : State} {tv t : Term} {xV a : Addr} {cl : Cell} {ty : FieldType} {j : Int32} (ev : tv.eval args s none [] s = some (.ref xV)) (A : Arr s s.heap xV cl ty) (hq : (Cond.eq (.elem tv (.int j)) t).value args s none s [] = some true) (ht : t.eval args s none [] s = some (.ref a)) : cl.slots[j.toNatClampNeg]? = some (.ref a) := by
  obtain ⟨x, y, h1, h2, h3, h4⟩ := cmp_v (Or.inl hq)
  have q := (elem_in h1 ev rfl A.1).2
  cases ht.symm.trans h2
  have e : x = .ref a := by
    simp only [Cond.value, h1, h2] at hq
    cases x <;> simp_all [Kin]
  rw [q, e]
set_option maxRecDepth 65536 in
set_option maxHeartbeats 40000000 in
theorem comes_1 {Post : Tables → Env → Array Value → State → Outcome → State → Prop} (hpost : ∀ tb e args s v u, (limb_1_1.after args s (.returned v) u = true ∧ limb_1_2.after args s (.returned v) u = true ∧ True) → FrameEnd s (.returned v) u (Jvm.fieldLocs frame_1_writes args s ++ Jvm.arrayLocs frame_1_arrays args s ++ Jvm.staticLocs frame_1_statics s) 16 128 → Post tb e args s (.returned v) u) :
    ArmFor flags0 classFile x code maxLocals ret World_1 tables_1 room_1 Calls_1 rest_1 Pre_1 Post := by
  intro l hfl _ _ p e ha hc hk s m args below hf hA hF happ hP
  obtain ⟨hcalls, hrest, hpre⟩ := hP
  obtain ⟨-, -, -, hnamed, -, -, -, hat⟩ := (Spec.applies_iff hf).mp happ
  obtain ⟨hg, hn⟩ := and_e (Cond.before_iff.mp (show (Jvm.Cond.and given_1 narrow_1).before args s = true from hpre))
  obtain ⟨g1, g2⟩ := and_e hg
  obtain ⟨w0, rfl⟩ : ∃ w0 : Value, args = #[w0] := by
    have hs : args.size = 1 := by simpa [Cond.value, given_1] using g1
    obtain ⟨L⟩ := args
    match L, hs with
    | [w0], _ => exact ⟨w0, rfl⟩
  have hw := fun d (hd : d ∈ tables_1) => atoms_spec (ws := Jvm.Cond.code x code maxLocals ret :: tables_1) hat d (List.mem_cons_of_mem _ hd)
  have hfit : Fit s := fun {y c} hc i hi => by
    obtain ⟨ha, rfl⟩ := Array.getElem?_eq_some_iff.mp hc
    have q := List.all_eq_true.mp ((Array.all_eq_true_iff_forall_mem.mp hF) _ (Array.getElem_mem ha)) i (List.mem_range.mpr hi)
    simpa [Array.getElem?_eq_getElem hi] using q
  obtain ⟨hsets, hown0⟩ := atoms_of _ (rest_1_c_eq ▸ (show rest_1_c.before _ s = true from hrest))
  have hr0 := Cond.before_iff.mp hown0
  obtain ⟨i0, ei0⟩ := is_v g2
  obtain rfl : w0 = (.int i0) := Option.some.inj ei0
  obtain ⟨nW, hn⟩ := and_e hn
  obtain ⟨nI, hn⟩ := and_e hn
  obtain ⟨oW, hn⟩ := and_e hn
  obtain ⟨oI, hn⟩ := and_e hn
  obtain ⟨vA, hn⟩ := and_e hn
  obtain ⟨vX, hn⟩ := and_e hn
  obtain ⟨vL, hn⟩ := and_e hn
  obtain ⟨l0, hn⟩ := and_e hn
  obtain ⟨nE, hn⟩ := and_e hn
  obtain ⟨l1, hn⟩ := and_e hn
  obtain ⟨nM, hn⟩ := and_e hn
  obtain ⟨l2, hn⟩ := and_e hn
  obtain ⟨l3, hn⟩ := and_e hn
  obtain ⟨oM, oE⟩ := and_e hn
  obtain ⟨xW, evW⟩ := exa_v nW
  have EaW := Exa.start evW nW
  have StW := Sta.start evW (Or.inr ⟨(own_w hw 5 rfl), (own_w hw 6 rfl)⟩)
  have FoW := Fld.start ((fld_at evW).symm.trans (Cond.eq_int (Cond.before_iff.mpr oW) rfl))
  obtain ⟨xE, evE⟩ := exa_v nE
  have EaE := Exa.start evE nE
  have StE := Sta.start evE (Or.inr ⟨(own_w hw 5 rfl), (own_w hw 26 rfl)⟩)
  have FoE := Fld.start ((fld_at evE).symm.trans (Cond.eq_int (Cond.before_iff.mpr oE) rfl))
  obtain ⟨xM, evM⟩ := exa_v nM
  have EaM := Exa.start evM nM
  have StM := Sta.start evM (Or.inr ⟨(own_w hw 5 rfl), (own_w hw 27 rfl)⟩)
  have FoM := Fld.start ((fld_at evM).symm.trans (Cond.eq_int (Cond.before_iff.mpr oM) rfl))
  obtain ⟨xI, evI⟩ := exa_v nI
  have EaI := Exa.start evI nI
  have StI := Sta.start evI (Or.inr ⟨(own_w hw 5 rfl), (own_w hw 13 rfl)⟩)
  have FoI := Fld.start ((fld_at evI).symm.trans (Cond.eq_int (Cond.before_iff.mpr oI) rfl))
  obtain ⟨xV, evV⟩ := exa_v vX
  have EaV := Exa.start evV vX
  have StV := Sta.start evV (Or.inr ⟨(own_w hw 5 rfl), (own_w hw 18 rfl)⟩)
  obtain ⟨clV, ArV⟩ := Arr.start evV vA
  have hlen := Cond.eq_int (Cond.before_iff.mpr vL) rfl
  have h31 := SBG.length_lt evV (ArV.fin (Vm.Alike.refl _)) hlen
  have hsz : clV.slots.size.toInt32 = (4 : Int32) := by
    have q := len_f evV (ArV.fin (Vm.Alike.refl _)) h31
    exact Value.int.inj (Option.some.inj (q.symm.trans hlen))
  have hel : ∀ {j : Int32} {a : Addr} {t : Term}, (Cond.eq (.elem (.static "com/example/undercroft/undercroft/store/WemiClass" "$VALUES" "[Lcom/example/undercroft/undercroft/store/WemiClass;") (.int j)) t).value #[.int i0] s none s [] = some true → t.eval #[.int i0] s none [] s = some (.ref a) → clV.slots[j.toNatClampNeg]? = some (.ref a) := fun {j a t} hq ht => own_elem evV ArV hq ht
  have VaV : Arv s s.heap xV clV.cls (.object "com/example/undercroft/undercroft/store/WemiClass") (4 : Int32) [.ref xW, .ref xE, .ref xM, .ref xI] .null := Arv.start hfit ArV h31 hsz (by decide) rfl ⟨hel l0 evW, hel l1 evE, hel l2 evM, hel l3 evI, trivial⟩
  have z0 := hsets _ (List.mem_of_getElem? (i := 2) rfl)
  obtain ⟨xO, evO⟩ := exa_v (Cond.before_iff.mp z0)
  have EaO := Exa.start evO (Cond.before_iff.mp z0)
  have StO := Sta.start evO (Or.inl (hsets _ (List.mem_of_getElem? (i := 1) rfl)))
  have FoO := Fld.start ((fld_at evO).symm.trans (null_v (Cond.before_iff.mp (hsets _ (List.mem_of_getElem? (i := 3) rfl)))))
  obtain ⟨n, o, h1, h2, h3, _, L, rfl, ⟨rfl, N, -⟩, hq⟩ := rm0 l s _ hw tables_1 i0 xV xW xE xM xI clV.cls xO s.heap s.heap.size (Nat.le_refl _) StW StE StM StI StV VaV EaV StO EaO FoO EaW FoW EaE FoE EaM FoM EaI FoI (Fld.ne FoW FoI (by decide)) (Fld.ne FoE FoI (by decide)) (Fld.ne FoM FoI (by decide)) p e ha hc hk s m _ below hf ((Spec.applies_iff_loose hf).mp happ).1 ⟨rfl, State.Warmed39.refl s, rfl⟩ trivial
  refine ⟨n, _, h1, h2, h3, hpost _ _ _ _ _ _ ⟨Cond.after_iff.mpr rfl, Cond.after_iff.mpr (eq_i res_at (Term.int_eval (1)) rfl), trivial⟩ ⟨hq.1, hq.2.1, (hq.2.2.sift fun y hy => Or.inr (N y hy)).mono (by decide) (by decide)⟩⟩
theorem main_1_1 : Claimed_1_1 := comes_1 fun _ _ _ _ _ _ h hF => ⟨h.1, hF⟩
theorem main_1_2 : Claimed_1_2 := comes_1 fun _ _ _ _ _ _ h hF => ⟨h.2.1, hF⟩
end Jvm.Pilot.@@N@@
namespace Jvm.Pilot.@@N@@
open Jvm Jvm.ClassFile Sem Op Lib Jvm.Free Jvm.Stand Jvm.Pilot.@@N@@.Jvm.D
/-! MADE BY PROGRAM (witnessworld.py) out of the Statement's table words and the real class files: 15 classes; the members and pool entries that the words name. The judged class is class 1, her method 2. -/
namespace start1
open Jvm.ClassFile
def u (s : String) : CpInfo := .utf8 (stringToUtf16 s)
/-- a pool by its gaps: so many unusable entries, then the entry; so many at the end -/
def gap : Nat → List CpInfo → List CpInfo
  | 0, r => r
  | n + 1, r => .unusable :: gap n r
def poolList (es : List (Nat × CpInfo)) (last : Nat) : List CpInfo := es.foldr (fun e r => gap e.1 (e.2 :: r)) (gap last [])
def pool (es : List (Nat × CpInfo)) (last : Nat) : Array CpInfo := ⟨poolList es last⟩
def fileOf (pool : Array CpInfo) (this : Nat) (attrs : Array Attribute := #[]) (ms : Array MethodInfo := #[]) (fl : Nat := 33) (sup : Nat := 0) (ifs : Array Nat := #[]) (fds : Array FieldInfo := #[]) : ClassFile where
  minorVersion := 0
  majorVersion := 65
  constantPool := pool
  accessFlags := fl
  thisClass := this
  superClass := sup
  interfaces := ifs
  fields := fds
  methods := ms
  attributes := attrs
def plain (name : String) (sup : Option ClassId) : Class where
  name := name
  kind := .ordinary
  loader := none
  accessFlags := 33
  super := sup
  interfaces := #[]
  cf := none
  fields := #[]
  methods := #[]
  instanceTypes := #[]
  staticTypes := #[]
  resolved := #[]
  callSites := []
  init := .initialized
  statics := none
  mirror := none

def pool0 : Array CpInfo := pool [(5, u "<init>"), (0, u "()V"), (1, .class_ 10), (1, u "java/lang/Object"), (85, u "clone"), (0, u "()Ljava/lang/Object;")] 26

def k0c0 : Code := { maxStack := 0, maxLocals := 1, code := object_method_1_code, exceptionTable := #[], attributes := #[] }
def k0m0 : Method := { name := "<init>", desc := "()V", sig := { parameters := [], returnType := none }, accessFlags := 1, code := some k0c0 }
def k0m1 : Method := { name := "clone", desc := "()Ljava/lang/Object;", sig := { parameters := [], returnType := some (.object "java/lang/Object") }, accessFlags := 260, code := none }
/-- java/lang/Object -/
def k0 : Class := { plain "java/lang/Object" none with
  accessFlags := 33
  interfaces := #[]
  cf := some (fileOf pool0 8 #[] #[{ accessFlags := 1, nameIndex := 5, descriptorIndex := 6, attributes := #[] }, { accessFlags := 260, nameIndex := 96, descriptorIndex := 97, attributes := #[] }] 33 0 #[] #[])
  fields := #[]
  methods := #[k0m0, k0m1]
  instanceTypes := #[]
  staticTypes := #[]
  resolved := Array.replicate 124 none
  statics := none }

def pool1 : Array CpInfo := pool [(2, .class_ 4), (1, u "java/lang/Object"), (0, u "<init>"), (0, u "()V"), (0, .fieldref 8 9), (0, .class_ 10), (0, .nameAndType 11 12), (0, u "com/example/undercroft/undercroft/store/WemiClass"), (0, u "WORK"), (0, u "Lcom/example/undercroft/undercroft/store/WemiClass;"), (0, .fieldref 8 14), (0, .nameAndType 15 12), (0, u "EXPRESSION"), (0, .fieldref 8 17), (0, .nameAndType 18 12), (0, u "MANIFESTATION"), (0, .fieldref 8 20), (0, .nameAndType 21 12), (0, u "ITEM"), (0, .methodref 23 24), (0, .class_ 25), (0, .nameAndType 26 27), (0, u "com/example/undercroft/undercroft/store/WemiClassPartClassPinLaw"), (0, u "pick"), (0, u "(I)Lcom/example/undercroft/undercroft/store/WemiClass;"), (0, .methodref 8 29), (0, .nameAndType 30 31), (0, u "partClass"), (0, u "()Ljava/util/Optional;"), (0, .methodref 33 34), (0, .class_ 35), (0, .nameAndType 36 37), (0, u "java/util/Optional"), (0, u "isPresent"), (0, u "()Z"), (0, .methodref 33 39), (0, .nameAndType 40 41), (0, u "get"), (0, u "()Ljava/lang/Object;"), (3, u "law"), (0, u "(I)Z")] 2

def k1m0 : Method := { name := "<init>", desc := "()V", sig := { parameters := [], returnType := none }, accessFlags := 1, code := none }
def k1c1 : Code := { maxStack := 2, maxLocals := 1, code := method_2_code, exceptionTable := #[], attributes := #[] }
def k1m1 : Method := { name := "pick", desc := "(I)Lcom/example/undercroft/undercroft/store/WemiClass;", sig := { parameters := [.int], returnType := some (.object "com/example/undercroft/undercroft/store/WemiClass") }, accessFlags := 10, code := some k1c1 }
def k1c2 : Code := { maxStack := 2, maxLocals := 5, code := code, exceptionTable := #[], attributes := #[] }
def k1m2 : Method := { name := "law", desc := "(I)Z", sig := { parameters := [.int], returnType := some .boolean }, accessFlags := 9, code := some k1c2 }
/-- com/example/undercroft/undercroft/store/WemiClassPartClassPinLaw -/
def k1 : Class := { plain "com/example/undercroft/undercroft/store/WemiClassPartClassPinLaw" (some 0) with
  accessFlags := 49
  interfaces := #[]
  cf := some (fileOf pool1 23 #[] #[{ accessFlags := 1, nameIndex := 5, descriptorIndex := 6, attributes := #[] }, { accessFlags := 10, nameIndex := 26, descriptorIndex := 27, attributes := #[] }, { accessFlags := 9, nameIndex := 45, descriptorIndex := 46, attributes := #[] }] 49 2 #[] #[])
  fields := #[]
  methods := #[k1m0, k1m1, k1m2]
  instanceTypes := #[]
  staticTypes := #[]
  resolved := Array.replicate 49 none
  statics := none }

def pool2 : Array CpInfo := pool [(1, .class_ 2), (0, u "java/lang/constant/Constable"), (0, .class_ 4), (0, u "java/lang/Object")] 6

/-- java/lang/constant/Constable -/
def k2 : Class := { plain "java/lang/constant/Constable" (some 0) with
  accessFlags := 1537
  interfaces := #[]
  cf := some (fileOf pool2 1 #[] #[] 1537 3 #[] #[])
  fields := #[]
  methods := #[]
  instanceTypes := #[]
  staticTypes := #[]
  resolved := Array.replicate 11 none
  statics := none }

def pool3 : Array CpInfo := pool [(1, .class_ 2), (0, u "java/lang/Comparable"), (0, .class_ 4), (0, u "java/lang/Object")] 7

/-- java/lang/Comparable -/
def k3 : Class := { plain "java/lang/Comparable" (some 0) with
  accessFlags := 1537
  interfaces := #[]
  cf := some (fileOf pool3 1 #[] #[] 1537 3 #[] #[])
  fields := #[]
  methods := #[]
  instanceTypes := #[]
  staticTypes := #[]
  resolved := Array.replicate 12 none
  statics := none }

def pool4 : Array CpInfo := pool [(1, .class_ 2), (0, u "java/io/Serializable"), (0, .class_ 4), (0, u "java/lang/Object")] 2

/-- java/io/Serializable -/
def k4 : Class := { plain "java/io/Serializable" (some 0) with
  accessFlags := 1537
  interfaces := #[]
  cf := some (fileOf pool4 1 #[] #[] 1537 3 #[] #[])
  fields := #[]
  methods := #[]
  instanceTypes := #[]
  staticTypes := #[]
  resolved := Array.replicate 7 none
  statics := none }

def pool5 : Array CpInfo := pool [(2, .class_ 4), (1, u "java/lang/Enum"), (0, u "name"), (0, u "Ljava/lang/String;"), (0, .fieldref 2 8), (0, .nameAndType 9 10), (0, u "ordinal"), (0, u "I"), (1, .class_ 14), (1, u "java/lang/Object"), (4, u "hash"), (86, .class_ 108), (1, u "java/lang/Enum$EnumDesc"), (2, .class_ 112), (0, u "java/lang/constant/Constable"), (0, .class_ 114), (0, u "java/lang/Comparable"), (0, .class_ 116), (0, u "java/io/Serializable"), (9, u "()I")] 77

def k5c0 : Code := { maxStack := 1, maxLocals := 1, code := jdk_37_method_2_code, exceptionTable := #[], attributes := #[] }
def k5m0 : Method := { name := "ordinal", desc := "()I", sig := { parameters := [], returnType := some .int }, accessFlags := 17, code := some k5c0 }
/-- java/lang/Enum -/
def k5 : Class := { plain "java/lang/Enum" (some 0) with
  accessFlags := 1057
  interfaces := #[2, 3, 4]
  cf := some (fileOf pool5 2 #[.nestMembers #[106]] #[{ accessFlags := 17, nameIndex := 9, descriptorIndex := 126, attributes := #[] }] 1057 12 #[111, 113, 115] #[{ accessFlags := 18, nameIndex := 5, descriptorIndex := 6, attributes := #[] }, { accessFlags := 18, nameIndex := 9, descriptorIndex := 10, attributes := #[] }, { accessFlags := 2, nameIndex := 19, descriptorIndex := 10, attributes := #[] }])
  fields := #[{ name := "name", type := (.object "java/lang/String"), accessFlags := 18, slot := 0, constantValue := 0 }, { name := "ordinal", type := .int, accessFlags := 18, slot := 1, constantValue := 0 }, { name := "hash", type := .int, accessFlags := 2, slot := 2, constantValue := 0 }]
  methods := #[k5m0]
  instanceTypes := #[(.object "java/lang/String"), .int, .int]
  staticTypes := #[]
  resolved := Array.replicate 204 none
  statics := none }

def pool6 : Array CpInfo := pool [(1, .class_ 2), (0, u "com/example/undercroft/undercroft/store/WemiClass"), (2, u "WORK"), (0, u "Lcom/example/undercroft/undercroft/store/WemiClass;"), (2, u "EXPRESSION"), (2, u "MANIFESTATION"), (0, .fieldref 1 14), (0, .nameAndType 15 6), (0, u "ITEM"), (0, .fieldref 1 17), (0, .nameAndType 18 19), (0, u "$VALUES"), (0, u "[Lcom/example/undercroft/undercroft/store/WemiClass;"), (0, .methodref 21 22), (0, .class_ 19), (0, .nameAndType 23 24), (0, u "clone"), (0, u "()Ljava/lang/Object;"), (1, .class_ 28), (1, u "java/lang/Enum"), (22, .methodref 52 53), (0, .class_ 54), (0, .nameAndType 55 56), (0, u "java/util/Optional"), (0, u "empty"), (0, u "()Ljava/util/Optional;"), (0, .methodref 1 58), (0, .nameAndType 59 60), (0, u "values"), (0, u "()[Lcom/example/undercroft/undercroft/store/WemiClass;"), (0, .methodref 1 62), (0, .nameAndType 63 64), (0, u "ordinal"), (0, u "()I"), (0, .methodref 52 66), (0, .nameAndType 67 68), (0, u "of"), (0, u "(Ljava/lang/Object;)Ljava/util/Optional;"), (20, u "partClass")] 7

def k6c0 : Code := { maxStack := 1, maxLocals := 0, code := prog_24_method_1_code, exceptionTable := #[], attributes := #[] }
def k6m0 : Method := { name := "values", desc := "()[Lcom/example/undercroft/undercroft/store/WemiClass;", sig := { parameters := [], returnType := some (.array (.object "com/example/undercroft/undercroft/store/WemiClass")) }, accessFlags := 9, code := some k6c0 }
def k6c1 : Code := { maxStack := 3, maxLocals := 1, code := prog_24_method_5_code, exceptionTable := #[], attributes := #[] }
def k6m1 : Method := { name := "partClass", desc := "()Ljava/util/Optional;", sig := { parameters := [], returnType := some (.object "java/util/Optional") }, accessFlags := 1, code := some k6c1 }
/-- com/example/undercroft/undercroft/store/WemiClass -/
def k6 : Class := { plain "com/example/undercroft/undercroft/store/WemiClass" (some 5) with
  accessFlags := 16433
  interfaces := #[]
  cf := some (fileOf pool6 1 #[] #[{ accessFlags := 9, nameIndex := 59, descriptorIndex := 60, attributes := #[] }, { accessFlags := 1, nameIndex := 89, descriptorIndex := 56, attributes := #[] }] 16433 26 #[] #[{ accessFlags := 16409, nameIndex := 5, descriptorIndex := 6, attributes := #[] }, { accessFlags := 16409, nameIndex := 9, descriptorIndex := 6, attributes := #[] }, { accessFlags := 16409, nameIndex := 12, descriptorIndex := 6, attributes := #[] }, { accessFlags := 16409, nameIndex := 15, descriptorIndex := 6, attributes := #[] }, { accessFlags := 4122, nameIndex := 18, descriptorIndex := 19, attributes := #[] }])
  fields := #[{ name := "WORK", type := (.object "com/example/undercroft/undercroft/store/WemiClass"), accessFlags := 16409, slot := 0, constantValue := 0 }, { name := "EXPRESSION", type := (.object "com/example/undercroft/undercroft/store/WemiClass"), accessFlags := 16409, slot := 1, constantValue := 0 }, { name := "MANIFESTATION", type := (.object "com/example/undercroft/undercroft/store/WemiClass"), accessFlags := 16409, slot := 2, constantValue := 0 }, { name := "ITEM", type := (.object "com/example/undercroft/undercroft/store/WemiClass"), accessFlags := 16409, slot := 3, constantValue := 0 }, { name := "$VALUES", type := (.array (.object "com/example/undercroft/undercroft/store/WemiClass")), accessFlags := 4122, slot := 4, constantValue := 0 }]
  methods := #[k6m0, k6m1]
  instanceTypes := #[(.object "java/lang/String"), .int, .int]
  staticTypes := #[(.object "com/example/undercroft/undercroft/store/WemiClass"), (.object "com/example/undercroft/undercroft/store/WemiClass"), (.object "com/example/undercroft/undercroft/store/WemiClass"), (.object "com/example/undercroft/undercroft/store/WemiClass"), (.array (.object "com/example/undercroft/undercroft/store/WemiClass"))]
  resolved := Array.replicate 97 none
  statics := some 0 }

def pool7 : Array CpInfo := pool [(1, .class_ 2), (0, u "java/lang/Cloneable"), (0, .class_ 4), (0, u "java/lang/Object")] 2

/-- java/lang/Cloneable -/
def k7 : Class := { plain "java/lang/Cloneable" (some 0) with
  accessFlags := 1537
  interfaces := #[]
  cf := some (fileOf pool7 1 #[] #[] 1537 3 #[] #[])
  fields := #[]
  methods := #[]
  instanceTypes := #[]
  staticTypes := #[]
  resolved := Array.replicate 7 none
  statics := none }

def pool8 : Array CpInfo := pool [(1, .fieldref 2 3), (0, .class_ 4), (0, .nameAndType 5 6), (0, u "java/util/Optional"), (0, u "EMPTY"), (0, u "Ljava/util/Optional;"), (0, .methodref 8 9), (0, .class_ 10), (0, .nameAndType 11 12), (0, u "java/lang/Object"), (0, u "<init>"), (0, u "()V"), (0, .fieldref 2 14), (0, .nameAndType 15 16), (0, u "value"), (0, u "Ljava/lang/Object;"), (0, .methodref 18 19), (0, .class_ 20), (0, .nameAndType 21 22), (0, u "java/util/Objects"), (0, u "requireNonNull"), (0, u "(Ljava/lang/Object;)Ljava/lang/Object;"), (0, .methodref 2 24), (0, .nameAndType 11 25), (0, u "(Ljava/lang/Object;)V"), (20, u "()Z"), (8, u "empty"), (0, u "()Ljava/util/Optional;"), (8, u "(Ljava/lang/Object;)Ljava/util/Optional;"), (2, u "isPresent"), (4, u "get"), (0, u "()Ljava/lang/Object;"), (7, u "of")] 104

def k8c0 : Code := { maxStack := 1, maxLocals := 1, code := jdk_32_method_1_code, exceptionTable := #[], attributes := #[] }
def k8m0 : Method := { name := "empty", desc := "()Ljava/util/Optional;", sig := { parameters := [], returnType := some (.object "java/util/Optional") }, accessFlags := 9, code := some k8c0 }
def k8c1 : Code := { maxStack := 2, maxLocals := 2, code := jdk_32_method_2_code, exceptionTable := #[], attributes := #[] }
def k8m1 : Method := { name := "<init>", desc := "(Ljava/lang/Object;)V", sig := { parameters := [(.object "java/lang/Object")], returnType := none }, accessFlags := 2, code := some k8c1 }
def k8c2 : Code := { maxStack := 3, maxLocals := 1, code := jdk_32_method_3_code, exceptionTable := #[], attributes := #[] }
def k8m2 : Method := { name := "of", desc := "(Ljava/lang/Object;)Ljava/util/Optional;", sig := { parameters := [(.object "java/lang/Object")], returnType := some (.object "java/util/Optional") }, accessFlags := 9, code := some k8c2 }
def k8c3 : Code := { maxStack := 3, maxLocals := 1, code := jdk_32_method_5_code, exceptionTable := #[], attributes := #[] }
def k8m3 : Method := { name := "get", desc := "()Ljava/lang/Object;", sig := { parameters := [], returnType := some (.object "java/lang/Object") }, accessFlags := 1, code := some k8c3 }
def k8c4 : Code := { maxStack := 1, maxLocals := 1, code := jdk_32_method_6_code, exceptionTable := #[], attributes := #[] }
def k8m4 : Method := { name := "isPresent", desc := "()Z", sig := { parameters := [], returnType := some .boolean }, accessFlags := 1, code := some k8c4 }
/-- java/util/Optional -/
def k8 : Class := { plain "java/util/Optional" (some 0) with
  accessFlags := 49
  interfaces := #[]
  cf := some (fileOf pool8 2 #[] #[{ accessFlags := 9, nameIndex := 55, descriptorIndex := 56, attributes := #[] }, { accessFlags := 2, nameIndex := 11, descriptorIndex := 25, attributes := #[] }, { accessFlags := 9, nameIndex := 82, descriptorIndex := 65, attributes := #[] }, { accessFlags := 1, nameIndex := 73, descriptorIndex := 74, attributes := #[] }, { accessFlags := 1, nameIndex := 68, descriptorIndex := 46, attributes := #[] }] 49 8 #[] #[{ accessFlags := 26, nameIndex := 5, descriptorIndex := 6, attributes := #[] }, { accessFlags := 18, nameIndex := 15, descriptorIndex := 16, attributes := #[] }])
  fields := #[{ name := "EMPTY", type := (.object "java/util/Optional"), accessFlags := 26, slot := 0, constantValue := 0 }, { name := "value", type := (.object "java/lang/Object"), accessFlags := 18, slot := 0, constantValue := 0 }]
  methods := #[k8m0, k8m1, k8m2, k8m3, k8m4]
  instanceTypes := #[(.object "java/lang/Object")]
  staticTypes := #[(.object "java/util/Optional")]
  resolved := Array.replicate 187 none
  statics := some 1 }

def pool9 : Array CpInfo := pool [(2, .class_ 4), (1, u "java/lang/Object"), (0, u "<init>"), (0, u "()V"), (35, .class_ 44), (1, u "java/util/Objects"), (0, u "requireNonNull"), (0, u "(Ljava/lang/Object;)Ljava/lang/Object;")] 137

def k9m0 : Method := { name := "<init>", desc := "()V", sig := { parameters := [], returnType := none }, accessFlags := 2, code := none }
def k9c1 : Code := { maxStack := 2, maxLocals := 1, code := jdk_31_method_10_code, exceptionTable := #[], attributes := #[] }
def k9m1 : Method := { name := "requireNonNull", desc := "(Ljava/lang/Object;)Ljava/lang/Object;", sig := { parameters := [(.object "java/lang/Object")], returnType := some (.object "java/lang/Object") }, accessFlags := 9, code := some k9c1 }
/-- java/util/Objects -/
def k9 : Class := { plain "java/util/Objects" (some 0) with
  accessFlags := 49
  interfaces := #[]
  cf := some (fileOf pool9 42 #[] #[{ accessFlags := 2, nameIndex := 5, descriptorIndex := 6, attributes := #[] }, { accessFlags := 9, nameIndex := 45, descriptorIndex := 46, attributes := #[] }] 49 2 #[] #[])
  fields := #[]
  methods := #[k9m0, k9m1]
  instanceTypes := #[]
  staticTypes := #[]
  resolved := Array.replicate 184 none
  statics := none }

/-- the primitive byte -/
def k10 : Class := { plain "byte" none with kind := .primitive 'B', accessFlags := 0x411 }
/-- [B -/
def k11 : Class := { plain "[B" (some 0) with kind := .array 10 .byte, interfaces := #[7, 4], accessFlags := 1041 }

/-- the primitive int -/
def k12 : Class := { plain "int" none with kind := .primitive 'I', accessFlags := 0x411 }
/-- [I -/
def k13 : Class := { plain "[I" (some 0) with kind := .array 12 .int, interfaces := #[7, 4], accessFlags := 1041 }

/-- [Lcom/example/undercroft/undercroft/store/WemiClass; -/
def k14 : Class := { plain "[Lcom/example/undercroft/undercroft/store/WemiClass;" (some 0) with kind := .array 6 (.object "com/example/undercroft/undercroft/store/WemiClass"), interfaces := #[7, 4], accessFlags := 1041 }

def heap : Heap := #[{ cls := 6, slots := #[.ref 3, .ref 4, .ref 5, .ref 6, .ref 2], vm := .statics 6 },
  { cls := 8, slots := #[.ref 7], vm := .statics 8 },
  { cls := 14, slots := #[.ref 3, .ref 4, .ref 5, .ref 6], vm := .none },
  { cls := 6, slots := #[.null, .int 0, .int 0], vm := .none },
  { cls := 6, slots := #[.null, .int 1, .int 0], vm := .none },
  { cls := 6, slots := #[.null, .int 2, .int 0], vm := .none },
  { cls := 6, slots := #[.null, .int 3, .int 0], vm := .none },
  { cls := 8, slots := #[.null], vm := .none }]
def classes : Array Class := #[k0, k1, k2, k3, k4, k5, k6, k7, k8, k9, k10, k11, k12, k13, k14]
def interned : List (Array UInt16 × Addr) := []
def slotsUsed : Nat := 23
def theMethod : MethodId := ⟨1, 2⟩
def args0 : Array Value := #[.int 5]
def aboutOver (below : List Frame) : State where
  vm := { classes := classes, interned := interned.toArray }
  heap := heap
  slotsUsed := slotsUsed
  threads := #[{ frames := .invoking theMethod args0 :: below }]
def below0 : List Frame := [.native { method := ⟨0, 0⟩, args := #[] }]
def about1 : State := aboutOver below0
def p0 : Program := .bare "" "" ""
def e0 : Env := launch0.env 0 0 0
theorem w_frames : about1.frames = Frame.invoking theMethod args0 :: below0 := rfl
set_option maxRecDepth 65536 in
theorem w_args : argsFit about1.vm theMethod args0 = true := by decide +kernel
set_option maxRecDepth 65536 in
theorem w_heap : heapFits about1 = true := by decide +kernel
set_option maxRecDepth 65536 in
theorem w_runnable : about1.curStatus? = some .runnable := by decide +kernel
set_option maxRecDepth 65536 in
theorem w_alone : about1.alone = true := by decide +kernel
set_option maxRecDepth 65536 in
theorem w_named : about1.methodNamed? x = some theMethod := by decide +kernel
set_option maxRecDepth 65536 in
theorem w_hears : about1.hears theMethod below0 = true := by decide +kernel
set_option maxRecDepth 65536 in
theorem w_ripe : about1.ripe theMethod args0 below0 = true := by decide +kernel
theorem w_running : about1.status = .running := rfl
set_option maxRecDepth 65536 in
theorem w_room : about1.hasRoom e0.platform room_1 = true :=
  launch0.hasRoom_least _ room_1 (by decide +kernel) (by decide +kernel) (by decide +kernel) (by decide +kernel) (by decide +kernel) (by decide +kernel)
theorem allAtoms_all (ts : List Jvm.Cond) (a : Array Jvm.Value) (st : Jvm.State) : (allAtoms ts).before a st = ts.all (fun c => c.before a st) := by
  induction ts with
  | nil => rfl
  | cons c t ih =>
    show (Jvm.Cond.and c (allAtoms t)).before a st = _
    rw [Jvm.Cond.before_and, ih, List.all_cons]
def words1 : List Jvm.Cond := Jvm.Cond.code x code maxLocals ret :: tables_1
/-- a 'code' word, met by the world's own term for the bytes: nothing is compared byte by byte -/
theorem code_word {y : MethodName} {bytes : ByteArray} {mx : Nat} {rt : Option FieldType} {a : Array Value} {s : State} {m : MethodId} {meth : Method} {c : Code} (h1 : s.methodNamed? y = some m) (h2 : s.vm.method? m = some meth) (h3 : meth.code = some c) (h4 : c.code = bytes)
    (h5 : (c.maxLocals == mx && c.exceptionTable.isEmpty && decide (c.maxStack ≤ mostOperands) && decide (meth.sig.returnType = rt) && !meth.locks && decide (parseMethodDescriptor y.desc = some meth.sig)) = true) : (Jvm.Cond.code y bytes mx rt).before a s = true := by
  simp only [Bool.and_eq_true, beq_iff_eq, Bool.not_eq_true', decide_eq_true_eq] at h5
  obtain ⟨⟨⟨⟨⟨g1, g2⟩, g3⟩, g4⟩, g5⟩, g6⟩ := h5
  simp [Cond.before, Cond.holds, Cond.value, h1, h2, h3, h4, g1, g2, g3, g4, g5, g6]
def isCode : Jvm.Cond → Bool
  | .code _ _ _ _ => true
  | _ => false
theorem all_split {L : List Jvm.Cond} {P : Jvm.Cond → Bool} (h1 : L.all (fun c => isCode c || P c) = true) (h2 : ∀ c ∈ L.filter isCode, P c = true) : L.all P = true := by
  refine List.all_eq_true.mpr fun c hc => ?_
  have h := List.all_eq_true.mp h1 c hc
  rcases Bool.eq_false_or_eq_true (isCode c) with hi | hi
  · exact h2 c (List.mem_filter.mpr ⟨hc, hi⟩)
  · simpa [hi] using h
set_option maxRecDepth 65536 in
theorem w_c0 : (Jvm.Cond.code x code maxLocals ret).before args0 about1 = true := code_word (m := ⟨1, 2⟩) (meth := k1m2) (c := k1c2) (by decide +kernel) rfl rfl rfl (by decide +kernel)
set_option maxRecDepth 65536 in
theorem w_c1 : (Jvm.Cond.code ({ cls := "com/example/undercroft/undercroft/store/WemiClassPartClassPinLaw", name := "pick", desc := "(I)Lcom/example/undercroft/undercroft/store/WemiClass;" } : Jvm.MethodName) method_2_code (1 : Nat) (Option.some (Jvm.ClassFile.FieldType.object "com/example/undercroft/undercroft/store/WemiClass"))).before args0 about1 = true := code_word (m := ⟨1, 1⟩) (meth := k1m1) (c := k1c1) (by decide +kernel) rfl rfl rfl (by decide +kernel)
set_option maxRecDepth 65536 in
theorem w_c2 : (Jvm.Cond.code ({ cls := "com/example/undercroft/undercroft/store/WemiClass", name := "partClass", desc := "()Ljava/util/Optional;" } : Jvm.MethodName) prog_24_method_5_code (1 : Nat) (Option.some (Jvm.ClassFile.FieldType.object "java/util/Optional"))).before args0 about1 = true := code_word (m := ⟨6, 1⟩) (meth := k6m1) (c := k6c1) (by decide +kernel) rfl rfl rfl (by decide +kernel)
set_option maxRecDepth 65536 in
theorem w_c3 : (Jvm.Cond.code ({ cls := "com/example/undercroft/undercroft/store/WemiClass", name := "values", desc := "()[Lcom/example/undercroft/undercroft/store/WemiClass;" } : Jvm.MethodName) prog_24_method_1_code (0 : Nat) (Option.some (Jvm.ClassFile.FieldType.array (Jvm.ClassFile.FieldType.object "com/example/undercroft/undercroft/store/WemiClass")))).before args0 about1 = true := code_word (m := ⟨6, 0⟩) (meth := k6m0) (c := k6c0) (by decide +kernel) rfl rfl rfl (by decide +kernel)
set_option maxRecDepth 65536 in
theorem w_c4 : (Jvm.Cond.code ({ cls := "java/lang/Enum", name := "ordinal", desc := "()I" } : Jvm.MethodName) jdk_37_method_2_code (1 : Nat) (Option.some Jvm.ClassFile.FieldType.int)).before args0 about1 = true := code_word (m := ⟨5, 0⟩) (meth := k5m0) (c := k5c0) (by decide +kernel) rfl rfl rfl (by decide +kernel)
set_option maxRecDepth 65536 in
theorem w_c5 : (Jvm.Cond.code ({ cls := "java/util/Optional", name := "of", desc := "(Ljava/lang/Object;)Ljava/util/Optional;" } : Jvm.MethodName) jdk_32_method_3_code (1 : Nat) (Option.some (Jvm.ClassFile.FieldType.object "java/util/Optional"))).before args0 about1 = true := code_word (m := ⟨8, 2⟩) (meth := k8m2) (c := k8c2) (by decide +kernel) rfl rfl rfl (by decide +kernel)
set_option maxRecDepth 65536 in
theorem w_c6 : (Jvm.Cond.code ({ cls := "java/util/Objects", name := "requireNonNull", desc := "(Ljava/lang/Object;)Ljava/lang/Object;" } : Jvm.MethodName) jdk_31_method_10_code (1 : Nat) (Option.some (Jvm.ClassFile.FieldType.object "java/lang/Object"))).before args0 about1 = true := code_word (m := ⟨9, 1⟩) (meth := k9m1) (c := k9c1) (by decide +kernel) rfl rfl rfl (by decide +kernel)
set_option maxRecDepth 65536 in
theorem w_c7 : (Jvm.Cond.code ({ cls := "java/util/Optional", name := "<init>", desc := "(Ljava/lang/Object;)V" } : Jvm.MethodName) jdk_32_method_2_code (2 : Nat) (Option.none : Option Jvm.ClassFile.FieldType)).before args0 about1 = true := code_word (m := ⟨8, 1⟩) (meth := k8m1) (c := k8c1) (by decide +kernel) rfl rfl rfl (by decide +kernel)
set_option maxRecDepth 65536 in
theorem w_c8 : (Jvm.Cond.code ({ cls := "java/lang/Object", name := "<init>", desc := "()V" } : Jvm.MethodName) object_method_1_code (1 : Nat) (Option.none : Option Jvm.ClassFile.FieldType)).before args0 about1 = true := code_word (m := ⟨0, 0⟩) (meth := k0m0) (c := k0c0) (by decide +kernel) rfl rfl rfl (by decide +kernel)
set_option maxRecDepth 65536 in
theorem w_c9 : (Jvm.Cond.code ({ cls := "java/util/Optional", name := "isPresent", desc := "()Z" } : Jvm.MethodName) jdk_32_method_6_code (1 : Nat) (Option.some Jvm.ClassFile.FieldType.boolean)).before args0 about1 = true := code_word (m := ⟨8, 4⟩) (meth := k8m4) (c := k8c4) (by decide +kernel) rfl rfl rfl (by decide +kernel)
set_option maxRecDepth 65536 in
theorem w_c10 : (Jvm.Cond.code ({ cls := "java/util/Optional", name := "get", desc := "()Ljava/lang/Object;" } : Jvm.MethodName) jdk_32_method_5_code (1 : Nat) (Option.some (Jvm.ClassFile.FieldType.object "java/lang/Object"))).before args0 about1 = true := code_word (m := ⟨8, 3⟩) (meth := k8m3) (c := k8c3) (by decide +kernel) rfl rfl rfl (by decide +kernel)
set_option maxRecDepth 65536 in
theorem w_c11 : (Jvm.Cond.code ({ cls := "java/util/Optional", name := "empty", desc := "()Ljava/util/Optional;" } : Jvm.MethodName) jdk_32_method_1_code (1 : Nat) (Option.some (Jvm.ClassFile.FieldType.object "java/util/Optional"))).before args0 about1 = true := code_word (m := ⟨8, 0⟩) (meth := k8m0) (c := k8c0) (by decide +kernel) rfl rfl rfl (by decide +kernel)
def codes1 : List Jvm.Cond := [Jvm.Cond.code x code maxLocals ret, Jvm.Cond.code ({ cls := "com/example/undercroft/undercroft/store/WemiClassPartClassPinLaw", name := "pick", desc := "(I)Lcom/example/undercroft/undercroft/store/WemiClass;" } : Jvm.MethodName) method_2_code (1 : Nat) (Option.some (Jvm.ClassFile.FieldType.object "com/example/undercroft/undercroft/store/WemiClass")), Jvm.Cond.code ({ cls := "com/example/undercroft/undercroft/store/WemiClass", name := "partClass", desc := "()Ljava/util/Optional;" } : Jvm.MethodName) prog_24_method_5_code (1 : Nat) (Option.some (Jvm.ClassFile.FieldType.object "java/util/Optional")), Jvm.Cond.code ({ cls := "com/example/undercroft/undercroft/store/WemiClass", name := "values", desc := "()[Lcom/example/undercroft/undercroft/store/WemiClass;" } : Jvm.MethodName) prog_24_method_1_code (0 : Nat) (Option.some (Jvm.ClassFile.FieldType.array (Jvm.ClassFile.FieldType.object "com/example/undercroft/undercroft/store/WemiClass"))), Jvm.Cond.code ({ cls := "java/lang/Enum", name := "ordinal", desc := "()I" } : Jvm.MethodName) jdk_37_method_2_code (1 : Nat) (Option.some Jvm.ClassFile.FieldType.int), Jvm.Cond.code ({ cls := "java/util/Optional", name := "of", desc := "(Ljava/lang/Object;)Ljava/util/Optional;" } : Jvm.MethodName) jdk_32_method_3_code (1 : Nat) (Option.some (Jvm.ClassFile.FieldType.object "java/util/Optional")), Jvm.Cond.code ({ cls := "java/util/Objects", name := "requireNonNull", desc := "(Ljava/lang/Object;)Ljava/lang/Object;" } : Jvm.MethodName) jdk_31_method_10_code (1 : Nat) (Option.some (Jvm.ClassFile.FieldType.object "java/lang/Object")), Jvm.Cond.code ({ cls := "java/util/Optional", name := "<init>", desc := "(Ljava/lang/Object;)V" } : Jvm.MethodName) jdk_32_method_2_code (2 : Nat) (Option.none : Option Jvm.ClassFile.FieldType), Jvm.Cond.code ({ cls := "java/lang/Object", name := "<init>", desc := "()V" } : Jvm.MethodName) object_method_1_code (1 : Nat) (Option.none : Option Jvm.ClassFile.FieldType), Jvm.Cond.code ({ cls := "java/util/Optional", name := "isPresent", desc := "()Z" } : Jvm.MethodName) jdk_32_method_6_code (1 : Nat) (Option.some Jvm.ClassFile.FieldType.boolean), Jvm.Cond.code ({ cls := "java/util/Optional", name := "get", desc := "()Ljava/lang/Object;" } : Jvm.MethodName) jdk_32_method_5_code (1 : Nat) (Option.some (Jvm.ClassFile.FieldType.object "java/lang/Object")), Jvm.Cond.code ({ cls := "java/util/Optional", name := "empty", desc := "()Ljava/util/Optional;" } : Jvm.MethodName) jdk_32_method_1_code (1 : Nat) (Option.some (Jvm.ClassFile.FieldType.object "java/util/Optional"))]
set_option maxRecDepth 65536 in
theorem codes_eq : words1.filter isCode = codes1 := rfl
theorem w_codes : ∀ c ∈ words1.filter isCode, c.before args0 about1 = true := by
  rw [codes_eq]
  intro c hc
  simp only [codes1, List.mem_cons, List.not_mem_nil, or_false] at hc
  rcases hc with rfl | rfl | rfl | rfl | rfl | rfl | rfl | rfl | rfl | rfl | rfl | rfl
  · exact w_c0
  · exact w_c1
  · exact w_c2
  · exact w_c3
  · exact w_c4
  · exact w_c5
  · exact w_c6
  · exact w_c7
  · exact w_c8
  · exact w_c9
  · exact w_c10
  · exact w_c11
set_option maxRecDepth 65536 in
theorem w_t1 : (words1.take 24).all (fun c => isCode c || c.before args0 about1) = true := by decide +kernel
set_option maxRecDepth 65536 in
theorem w_t2 : ((words1.drop 24).take 24).all (fun c => isCode c || c.before args0 about1) = true := by decide +kernel
set_option maxRecDepth 65536 in
theorem w_t3 : (((words1.drop 24).drop 24).take 24).all (fun c => isCode c || c.before args0 about1) = true := by decide +kernel
set_option maxRecDepth 65536 in
theorem w_t4 : (((words1.drop 24).drop 24).drop 24).all (fun c => isCode c || c.before args0 about1) = true := by decide +kernel
theorem w_tables : (allAtoms (Jvm.Cond.code x code maxLocals ret :: tables_1)).before args0 about1 = true := by
  rw [allAtoms_all]
  show words1.all (fun c => c.before args0 about1) = true
  refine all_split ?_ w_codes
  rw [← List.take_append_drop 24 words1, List.all_append, w_t1, ← List.take_append_drop 24 (words1.drop 24), List.all_append, w_t2, ← List.take_append_drop 24 ((words1.drop 24).drop 24), List.all_append, w_t3, w_t4]
  rfl
set_option maxRecDepth 65536 in
theorem w_rest : rest_1_c.before args0 about1 = true := by decide +kernel
set_option maxRecDepth 65536 in
theorem w_case : (Jvm.Cond.and given_1 narrow_1).before args0 about1 = true := by decide +kernel
theorem w_applies : (headSpec (Jvm.Cond.code x code maxLocals ret :: tables_1) room_1).applies x e0.platform about1 = true :=
  (Spec.applies_iff w_frames).mpr ⟨w_running, w_runnable, w_alone, w_named, w_hears, w_ripe, w_room, w_tables⟩
theorem atStart : AtStart classFile x code maxLocals ret World_1 tables_1 room_1 Calls_1 rest_1 Pre_1 launch0 p0 e0 about1 theMethod args0 below0 :=
  ⟨lists_1, trivial, launch0.admits_env _ _ _, launch0.least_env, fairChoices_fair.cas, fairChoices_fair.clock, w_frames, w_args, w_heap, w_applies, trivial, w_rest, w_case⟩
end start1
theorem witness_1 : WitnessClaimed_1 := ⟨start1.p0, start1.e0, start1.about1, start1.theMethod, start1.args0, start1.below0, start1.atStart⟩
end Jvm.Pilot.@@N@@
