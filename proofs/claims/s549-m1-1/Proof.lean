import JvmDerived
import JvmDerived.Pilot.@@N@@Statement
import JvmDerived.Pilot.@@N@@Code
set_option linter.unusedVariables false
set_option linter.unusedSimpArgs false
namespace Jvm.Pilot.@@N@@
open Jvm Jvm.ClassFile Sem Op Lib Jvm.Free Jvm.Stand Jvm.LawKit Jvm.RoadKit Bundle Jvm.Pilot.@@N@@.Jvm.D
def own_Go (tb : Tables) (e : Env) (below : List Frame) (P : State → Prop) (A : State) : Prop := ∃ t, Steps tb e below A t ∧ P t
theorem own_go {tb : Tables} {e : Env} {below : List Frame} {P : State → Prop} {A B : State} (h : ∀ t, Steps tb e below B t → Steps tb e below A t) (g : own_Go tb e below P B) : own_Go tb e below P A := by
  obtain ⟨t, h1, h2⟩ := g
  exact ⟨t, h t h1, h2⟩
theorem own_fin {tb : Tables} {e : Env} {below : List Frame} {A : State} {Qq : Outcome → State → Prop} (g : own_Go tb e below (fun t => ∃ o, t.status = .running ∧ Ended t below o ∧ Qq o t) A) : ∃ t o, Steps tb e below A t ∧ t.status = .running ∧ Ended t below o ∧ Qq o t := by
  obtain ⟨t, h1, o, h2, h3, h4⟩ := g
  exact ⟨t, o, h1, h2, h3, h4⟩
theorem own_ret {tb : Tables} {e : Env} {below : List Frame} {P : State → Prop} {A t : State} (h : Steps tb e below A t) (q : P t) : own_Go tb e below P A := ⟨t, h, q⟩
def own_M (l : Launch) (y : MethodName) (bytes : ByteArray) (maxL : Nat) (ret : Option FieldType) (ws : List Jvm.Cond) (rm : Room) (Z : State) (as : Array Value) (h0 : Heap) (Q : Option Value → Heap → List Loc → Prop) : Prop := MetFree l y (head1 (Jvm.Cond.code y bytes maxL ret :: ws) rm) (fun aR UR => aR = as ∧ Z.Warmed39 UR.vm ∧ UR.heap = h0) (fun _ _ _ _ _ => True) (fun _ UR oR UR' => ∃ vR LR, oR = .returned vR ∧ Q vR UR'.heap LR ∧ FrameEnd UR oR UR' LR rm.cells rm.slots)
theorem own_body {l : Launch} {y : MethodName} {bytes : ByteArray} {maxL : Nat} {ret : Option FieldType} {ws : List Jvm.Cond} {rm : Room} {Z : State} {as : Array Value} {h0 : Heap} {Q : Option Value → Heap → List Loc → Prop} {own : String} {f : MethodId → JFrame} (ho : y.cls = own) (hx : plainFor y = true) (ef : ∀ m, entryFrame m as maxL = f m) (k : ∀ (p : Program) (e : Env) (s : State) (m : MethodId) (below : List Frame) (meth : Method) (c : Code) (s₁ : State), BodyLoose p l y (head1 (Jvm.Cond.code y bytes maxL ret :: ws) rm) bytes maxL ret e s m as below meth c s₁ → c.maxLocals = maxL → Z.Warmed39 s.vm → s.heap = h0 → p.tables.exec = Jvm.exec → c.code = bytes → s.vm.findClass own = some m.cls → Stand p l e rm s m as below meth c s₁ [] 0 0 → s₁.heap = h0 → own_Go p.tables e below (fun t => ∃ o, t.status = .running ∧ Ended t below o ∧ ∃ vR LR, o = .returned vR ∧ Q vR t.heap LR ∧ FrameEnd s o t LR rm.cells rm.slots) (s₁.setTop (f m))) : own_M l y bytes maxL ret ws rm Z as h0 Q := by
  subst ho
  refine MetFree.of_bodySF hx hisR ?_
  intro p e s m args below meth c s₁ Bd hml hP hK
  obtain ⟨rfl, hZ, hh⟩ := hP
  exact own_fin (own_go (fun tT kK => castTop (ef m) kK) (k p e s m below meth c s₁ Bd hml hZ hh Bd.exec Bd.bytes (findClass_of_methodNamed Bd.named) (Stand.of_body Bd) (by rw [← hh, Bd.state]; rfl)))
theorem own_sh {tb : Tables} {e : Env} {below : List Frame} {P : State → Prop} {T : State} {m : MethodId} (pc : Nat) (Ls : Array Slot) (st : List Value) (g : own_Go tb e below P (T.setTop (mkF m pc Ls st))) : own_Go tb e below P (T.setTop (mkF m pc Ls st)) := g
theorem own_nn {a b : Nat} (h : ¬ a = b) : a ≠ b := h
theorem own_w {Z : State} {a0 : Array Value} {tab : List Jvm.Cond} (hw : ∀ d ∈ tab, d.before a0 Z = true) (i : Nat) {d : Jvm.Cond} (h : tab[i]? = some d) : d.before a0 Z = true := hw d (List.mem_of_getElem? h)
theorem own_iloadN {tb : Tables} [Ours tb] {e : Env} {below : List Frame} {T : State} {m : MethodId} {c : Code} {P : State → Prop} {pc : Nat} {Ls : Array Slot} {st : List Value} {bc : ByteArray} (h : At T m c below) (hx : tb.exec = Jvm.exec) (hby : c.code = bc) {k : Fin 4} {v : Int32} (hd : decode bc pc = .ok (.iload_n k, 1)) (hl : Ls[k.val]? = some (.val (.int v))) (g : own_Go tb e below P (T.setTop (mkF m (pc + 1) Ls ((.int v) :: st)))) : own_Go tb e below P (T.setTop (mkF m pc Ls (st))) := own_go (fun t k => XS.iloadN h hx rfl (hb hby hd) hl k) g
theorem own_iload {tb : Tables} [Ours tb] {e : Env} {below : List Frame} {T : State} {m : MethodId} {c : Code} {P : State → Prop} {pc : Nat} {Ls : Array Slot} {st : List Value} {bc : ByteArray} (h : At T m c below) (hx : tb.exec = Jvm.exec) (hby : c.code = bc) {k : Nat} {v : Int32} (hd : decode bc pc = .ok (.iload k, 2)) (hl : Ls[k]? = some (.val (.int v))) (g : own_Go tb e below P (T.setTop (mkF m (pc + 2) Ls ((.int v) :: st)))) : own_Go tb e below P (T.setTop (mkF m pc Ls (st))) := own_go (fun t k => XS.iload h hx rfl (hb hby hd) hl k) g
theorem own_lload {tb : Tables} [Ours tb] {e : Env} {below : List Frame} {T : State} {m : MethodId} {c : Code} {P : State → Prop} {pc : Nat} {Ls : Array Slot} {st : List Value} {bc : ByteArray} (h : At T m c below) (hx : tb.exec = Jvm.exec) (hby : c.code = bc) {k : Nat} {v : Int64} (hd : decode bc pc = .ok (.lload k, 2)) (hl : Ls[k]? = some (.val (.long v))) (g : own_Go tb e below P (T.setTop (mkF m (pc + 2) Ls ((.long v) :: st)))) : own_Go tb e below P (T.setTop (mkF m pc Ls (st))) := own_go (fun t k => XS.lload h hx rfl (hb hby hd) hl k) g
theorem own_aloadN {tb : Tables} [Ours tb] {e : Env} {below : List Frame} {T : State} {m : MethodId} {c : Code} {P : State → Prop} {pc : Nat} {Ls : Array Slot} {st : List Value} {bc : ByteArray} (h : At T m c below) (hx : tb.exec = Jvm.exec) (hby : c.code = bc) {k : Fin 4} {v : Value} (hd : decode bc pc = .ok (.aload_n k, 1)) (hl : Ls[k.val]? = some (.val v)) (hv : v.isRef = true) (g : own_Go tb e below P (T.setTop (mkF m (pc + 1) Ls (v :: st)))) : own_Go tb e below P (T.setTop (mkF m pc Ls (st))) := own_go (fun t k => XS.aloadN h hx rfl (hb hby hd) hl hv k) g
theorem own_aload {tb : Tables} [Ours tb] {e : Env} {below : List Frame} {T : State} {m : MethodId} {c : Code} {P : State → Prop} {pc : Nat} {Ls : Array Slot} {st : List Value} {bc : ByteArray} (h : At T m c below) (hx : tb.exec = Jvm.exec) (hby : c.code = bc) {k : Nat} {v : Value} (hd : decode bc pc = .ok (.aload k, 2)) (hl : Ls[k]? = some (.val v)) (hv : v.isRef = true) (g : own_Go tb e below P (T.setTop (mkF m (pc + 2) Ls (v :: st)))) : own_Go tb e below P (T.setTop (mkF m pc Ls (st))) := own_go (fun t k => XS.aload h hx rfl (hb hby hd) hl hv k) g
theorem own_istoreN {tb : Tables} [Ours tb] {e : Env} {below : List Frame} {T : State} {m : MethodId} {c : Code} {P : State → Prop} {pc : Nat} {Ls : Array Slot} {st : List Value} {bc : ByteArray} (h : At T m c below) (hx : tb.exec = Jvm.exec) (hby : c.code = bc) {k : Fin 4} {x : Int32} {l' : Array Slot} (hd : decode bc pc = .ok (.istore_n k, 1)) (hl : storeLocals Ls k.val (.int x) = some l') (g : own_Go tb e below P (T.setTop (mkF m (pc + 1) l' (st)))) : own_Go tb e below P (T.setTop (mkF m pc Ls ((.int x) :: st))) := own_go (fun t k => XS.istoreN h hx rfl (hb hby hd) rfl hl k) g
theorem own_istore {tb : Tables} [Ours tb] {e : Env} {below : List Frame} {T : State} {m : MethodId} {c : Code} {P : State → Prop} {pc : Nat} {Ls : Array Slot} {st : List Value} {bc : ByteArray} (h : At T m c below) (hx : tb.exec = Jvm.exec) (hby : c.code = bc) {k : Nat} {x : Int32} {l' : Array Slot} (hd : decode bc pc = .ok (.istore k, 2)) (hl : storeLocals Ls k (.int x) = some l') (g : own_Go tb e below P (T.setTop (mkF m (pc + 2) l' (st)))) : own_Go tb e below P (T.setTop (mkF m pc Ls ((.int x) :: st))) := own_go (fun t k => XS.istore h hx rfl (hb hby hd) rfl hl k) g
theorem own_astoreN {tb : Tables} [Ours tb] {e : Env} {below : List Frame} {T : State} {m : MethodId} {c : Code} {P : State → Prop} {pc : Nat} {Ls : Array Slot} {st : List Value} {bc : ByteArray} (h : At T m c below) (hx : tb.exec = Jvm.exec) (hby : c.code = bc) {k : Fin 4} {x : Value} {l' : Array Slot} (hd : decode bc pc = .ok (.astore_n k, 1)) (hv : x.isRef = true) (hl : storeLocals Ls k.val x = some l') (g : own_Go tb e below P (T.setTop (mkF m (pc + 1) l' (st)))) : own_Go tb e below P (T.setTop (mkF m pc Ls (x :: st))) := own_go (fun t k => XS.astoreN h hx rfl (hb hby hd) rfl hv hl k) g
theorem own_astore {tb : Tables} [Ours tb] {e : Env} {below : List Frame} {T : State} {m : MethodId} {c : Code} {P : State → Prop} {pc : Nat} {Ls : Array Slot} {st : List Value} {bc : ByteArray} (h : At T m c below) (hx : tb.exec = Jvm.exec) (hby : c.code = bc) {k : Nat} {x : Value} {l' : Array Slot} (hd : decode bc pc = .ok (.astore k, 2)) (hv : x.isRef = true) (hl : storeLocals Ls k x = some l') (g : own_Go tb e below P (T.setTop (mkF m (pc + 2) l' (st)))) : own_Go tb e below P (T.setTop (mkF m pc Ls (x :: st))) := own_go (fun t k => XS.astore h hx rfl (hb hby hd) rfl hv hl k) g
theorem own_iconst {tb : Tables} [Ours tb] {e : Env} {below : List Frame} {T : State} {m : MethodId} {c : Code} {P : State → Prop} {pc : Nat} {Ls : Array Slot} {st : List Value} {bc : ByteArray} (h : At T m c below) (hx : tb.exec = Jvm.exec) (hby : c.code = bc) {i : Int} {v : Int32} (hd : decode bc pc = .ok (.iconst i, 1)) (hv : Int32.ofInt i = v) (g : own_Go tb e below P (T.setTop (mkF m (pc + 1) Ls ((.int v) :: st)))) : own_Go tb e below P (T.setTop (mkF m pc Ls st)) := by
  subst hv
  exact own_go (fun t k => XS.iconst h hx rfl (hb hby hd) k) g
theorem own_bipush {tb : Tables} [Ours tb] {e : Env} {below : List Frame} {T : State} {m : MethodId} {c : Code} {P : State → Prop} {pc : Nat} {Ls : Array Slot} {st : List Value} {bc : ByteArray} (h : At T m c below) (hx : tb.exec = Jvm.exec) (hby : c.code = bc) {i : Int} {v : Int32} (hd : decode bc pc = .ok (.bipush i, 2)) (hv : (Int8.ofInt i).toInt32 = v) (g : own_Go tb e below P (T.setTop (mkF m (pc + 2) Ls ((.int v) :: st)))) : own_Go tb e below P (T.setTop (mkF m pc Ls st)) := by
  subst hv
  exact own_go (fun t k => XS.bipush h hx rfl (hb hby hd) k) g
theorem own_iand {tb : Tables} [Ours tb] {e : Env} {below : List Frame} {T : State} {m : MethodId} {c : Code} {P : State → Prop} {pc : Nat} {Ls : Array Slot} {st : List Value} {bc : ByteArray} (h : At T m c below) (hx : tb.exec = Jvm.exec) (hby : c.code = bc) {x y v : Int32} (hd : decode bc pc = .ok (.iand, 1)) (hv : (x &&& y) = v) (g : own_Go tb e below P (T.setTop (mkF m (pc + 1) Ls ((.int v) :: st)))) : own_Go tb e below P (T.setTop (mkF m pc Ls ((.int y) :: (.int x) :: st))) := by
  subst hv
  exact own_go (fun t k => XS.iand h hx rfl (hb hby hd) rfl k) g
theorem own_lshr {tb : Tables} [Ours tb] {e : Env} {below : List Frame} {T : State} {m : MethodId} {c : Code} {P : State → Prop} {pc : Nat} {Ls : Array Slot} {st : List Value} {bc : ByteArray} (h : At T m c below) (hx : tb.exec = Jvm.exec) (hby : c.code = bc) {x v : Int64} {y : Int32} (hd : decode bc pc = .ok (.lshr, 1)) (hv : (x >>> (y &&& 0x3f).toInt64) = v) (g : own_Go tb e below P (T.setTop (mkF m (pc + 1) Ls ((.long v) :: st)))) : own_Go tb e below P (T.setTop (mkF m pc Ls ((.int y) :: (.long x) :: st))) := by
  subst hv
  exact own_go (fun t k => XS.lshr h hx rfl (hb hby hd) rfl k) g
theorem own_l2i {tb : Tables} [Ours tb] {e : Env} {below : List Frame} {T : State} {m : MethodId} {c : Code} {P : State → Prop} {pc : Nat} {Ls : Array Slot} {st : List Value} {bc : ByteArray} (h : At T m c below) (hx : tb.exec = Jvm.exec) (hby : c.code = bc) {x : Int64} {v : Int32} (hd : decode bc pc = .ok (.l2i, 1)) (hv : (x.toInt32) = v) (g : own_Go tb e below P (T.setTop (mkF m (pc + 1) Ls ((.int v) :: st)))) : own_Go tb e below P (T.setTop (mkF m pc Ls ((.long x) :: st))) := by
  subst hv
  exact own_go (fun t k => XS.l2i h hx rfl (hb hby hd) rfl k) g
theorem own_dup {tb : Tables} [Ours tb] {e : Env} {below : List Frame} {T : State} {m : MethodId} {c : Code} {P : State → Prop} {pc : Nat} {Ls : Array Slot} {st : List Value} {bc : ByteArray} (h : At T m c below) (hx : tb.exec = Jvm.exec) (hby : c.code = bc) {x : Value} (hd : decode bc pc = .ok (.dup, 1)) (hc : x.category = 1) (g : own_Go tb e below P (T.setTop (mkF m (pc + 1) Ls (x :: x :: st)))) : own_Go tb e below P (T.setTop (mkF m pc Ls (x :: st))) := own_go (fun t k => XS.dup h hx rfl (hb hby hd) rfl hc k) g
theorem own_goto {tb : Tables} [Ours tb] {e : Env} {below : List Frame} {T : State} {m : MethodId} {c : Code} {P : State → Prop} {pc : Nat} {Ls : Array Slot} {st : List Value} {bc : ByteArray} (h : At T m c below) (hx : tb.exec = Jvm.exec) (hby : c.code = bc) {o : Int} {pc' : Nat} (hd : decode bc pc = .ok (.goto o, 3)) (ho : 0 ≤ (pc : Int) + o) (hp : ((pc : Int) + o).toNat = pc') (g : own_Go tb e below P (T.setTop (mkF m pc' Ls st))) : own_Go tb e below P (T.setTop (mkF m pc Ls st)) := own_go (fun t k => XS.goto h hx rfl (pc0 := pc) rfl (hb hby hd) ho hp k) g
theorem own_ifYes {tb : Tables} [Ours tb] {e : Env} {below : List Frame} {T : State} {m : MethodId} {c : Code} {P : State → Prop} {pc : Nat} {Ls : Array Slot} {st : List Value} {bc : ByteArray} (h : At T m c below) (hx : tb.exec = Jvm.exec) (hby : c.code = bc) {cd : ClassFile.Cond} {o : Int} {pc' : Nat} {x : Int32} (hd : decode bc pc = .ok (.ifCond cd o, 3)) (hc : ifCond.holds cd x = true) (ho : 0 ≤ (pc : Int) + o) (hp : ((pc : Int) + o).toNat = pc') (g : own_Go tb e below P (T.setTop (mkF m pc' Ls st))) : own_Go tb e below P (T.setTop (mkF m pc Ls ((.int x) :: st))) := own_go (fun t k => XS.ifYes h hx rfl (pc0 := pc) rfl (hb hby hd) rfl hc ho hp k) g
theorem own_ifNo {tb : Tables} [Ours tb] {e : Env} {below : List Frame} {T : State} {m : MethodId} {c : Code} {P : State → Prop} {pc : Nat} {Ls : Array Slot} {st : List Value} {bc : ByteArray} (h : At T m c below) (hx : tb.exec = Jvm.exec) (hby : c.code = bc) {cd : ClassFile.Cond} {o : Int} {x : Int32} (hd : decode bc pc = .ok (.ifCond cd o, 3)) (hc : ifCond.holds cd x = false) (g : own_Go tb e below P (T.setTop (mkF m (pc + 3) Ls st))) : own_Go tb e below P (T.setTop (mkF m pc Ls ((.int x) :: st))) := own_go (fun t k => XS.ifNo h hx rfl (hb hby hd) rfl hc k) g
theorem own_icmpYes {tb : Tables} [Ours tb] {e : Env} {below : List Frame} {T : State} {m : MethodId} {c : Code} {P : State → Prop} {pc : Nat} {Ls : Array Slot} {st : List Value} {bc : ByteArray} (h : At T m c below) (hx : tb.exec = Jvm.exec) (hby : c.code = bc) {cd : ClassFile.Cond} {o : Int} {pc' : Nat} {x y : Int32} (hd : decode bc pc = .ok (.if_icmp cd o, 3)) (hc : if_icmp.holds cd x y = true) (ho : 0 ≤ (pc : Int) + o) (hp : ((pc : Int) + o).toNat = pc') (g : own_Go tb e below P (T.setTop (mkF m pc' Ls st))) : own_Go tb e below P (T.setTop (mkF m pc Ls ((.int y) :: (.int x) :: st))) := own_go (fun t k => XS.icmpYes h hx rfl (pc0 := pc) rfl (hb hby hd) rfl hc ho hp k) g
theorem own_icmpNo {tb : Tables} [Ours tb] {e : Env} {below : List Frame} {T : State} {m : MethodId} {c : Code} {P : State → Prop} {pc : Nat} {Ls : Array Slot} {st : List Value} {bc : ByteArray} (h : At T m c below) (hx : tb.exec = Jvm.exec) (hby : c.code = bc) {cd : ClassFile.Cond} {o : Int} {x y : Int32} (hd : decode bc pc = .ok (.if_icmp cd o, 3)) (hc : if_icmp.holds cd x y = false) (g : own_Go tb e below P (T.setTop (mkF m (pc + 3) Ls st))) : own_Go tb e below P (T.setTop (mkF m pc Ls ((.int y) :: (.int x) :: st))) := own_go (fun t k => XS.icmpNo h hx rfl (hb hby hd) rfl hc k) g
theorem own_iinc {tb : Tables} [Ours tb] {e : Env} {below : List Frame} {T : State} {m : MethodId} {c : Code} {P : State → Prop} {pc : Nat} {Ls : Array Slot} {st : List Value} {bc : ByteArray} (h : At T m c below) (hx : tb.exec = Jvm.exec) (hby : c.code = bc) {k : Nat} {cst : Int} {x v : Int32} {l' : Array Slot} (hd : decode bc pc = .ok (.iinc k cst, 3)) (hl : Ls[k]? = some (.val (.int x))) (hv : (x + Int32.ofInt cst) = v) (hl' : storeLocals Ls k (.int v) = some l') (g : own_Go tb e below P (T.setTop (mkF m (pc + 3) l' st))) : own_Go tb e below P (T.setTop (mkF m pc Ls st)) := by
  subst hv
  exact own_go (fun t k => XS.iinc h hx rfl (hb hby hd) hl hl' k) g
theorem own_dconst0 {tb : Tables} [Ours tb] {e : Env} {below : List Frame} {T : State} {m : MethodId} {c : Code} {P : State → Prop} {pc : Nat} {Ls : Array Slot} {st : List Value} {bc : ByteArray} (h : At T m c below) (hx : tb.exec = Jvm.exec) (hby : c.code = bc)  (hd : decode bc pc = .ok (.dconst 0, 1)) (g : own_Go tb e below P (T.setTop (mkF m (pc + 1) Ls ((.double FP.dconst0) :: st)))) : own_Go tb e below P (T.setTop (mkF m pc Ls (st))) := own_go (fun t k => XS.dconst0 h hx rfl (hb hby hd) rfl k) g
theorem own_i2d {tb : Tables} [Ours tb] {e : Env} {below : List Frame} {T : State} {m : MethodId} {c : Code} {P : State → Prop} {pc : Nat} {Ls : Array Slot} {st : List Value} {bc : ByteArray} (h : At T m c below) (hx : tb.exec = Jvm.exec) (hby : c.code = bc) {x : Int32} (hd : decode bc pc = .ok (.i2d, 1)) (g : own_Go tb e below P (T.setTop (mkF m (pc + 1) Ls ((.double (FP.i2d x)) :: st)))) : own_Go tb e below P (T.setTop (mkF m pc Ls ((.int x) :: st))) := own_go (fun t k => XS.i2dS h hx rfl (hb hby hd) rfl rfl k) g
theorem own_ddiv {tb : Tables} [Ours tb] {e : Env} {below : List Frame} {T : State} {m : MethodId} {c : Code} {P : State → Prop} {pc : Nat} {Ls : Array Slot} {st : List Value} {bc : ByteArray} (h : At T m c below) (hx : tb.exec = Jvm.exec) (hby : c.code = bc) {x y : UInt64} (hd : decode bc pc = .ok (.ddiv, 1)) (hn : Jvm.Free.Fl.NoNaN64 (FP.ddiv x y)) (g : own_Go tb e below P (T.setTop (mkF m (pc + 1) Ls ((.double (FP.ddiv x y)) :: st)))) : own_Go tb e below P (T.setTop (mkF m pc Ls ((.double y) :: (.double x) :: st))) := own_go (fun t k => XS.ddivS h hx rfl (hb hby hd) rfl hn rfl k) g
theorem own_dcmp {tb : Tables} [Ours tb] {e : Env} {below : List Frame} {T : State} {m : MethodId} {c : Code} {P : State → Prop} {pc : Nat} {Ls : Array Slot} {st : List Value} {bc : ByteArray} (h : At T m c below) (hx : tb.exec = Jvm.exec) (hby : c.code = bc) {o : CmpOp} {x y : UInt64} {v : Int32} (hd : decode bc pc = .ok (.dcmp o, 1)) (hv : cmpValue (FP.dcmp x y) o = v) (g : own_Go tb e below P (T.setTop (mkF m (pc + 1) Ls ((.int v) :: st)))) : own_Go tb e below P (T.setTop (mkF m pc Ls ((.double y) :: (.double x) :: st))) := own_go (fun t k => XS.dcmpS h hx rfl (hb hby hd) rfl hv k) g
theorem own_join {α : Type} {tb : Tables} {e : Env} {below : List Frame} {P : State → Prop} {A : State} (B : α → State) (h : ∀ z, own_Go tb e below P (B z)) (k : (∀ z, own_Go tb e below P (B z)) → own_Go tb e below P A) : own_Go tb e below P A := k h
section OwnGo
variable {p : Program} {l : Launch} {e : Env} {R : Room} {s : State} {m : MethodId} {args : Array Value} {below : List Frame} {meth : Method} {c : Code} {T : State} {locs : List Loc} {cells slots : Nat} {Z : State} {a0 : Array Value} {h : Heap} {P : State → Prop} {pc : Nat} {Ls : Array Slot} {st : List Value} {bc : ByteArray} {n0 : Nat}
theorem own_newP (X : Stand p l e R s m args below meth c T locs cells slots) (hx : p.tables.exec = Jvm.exec) (hZ : Z.Warmed39 s.vm) {aty : ArrayType} (w : (Cond.arrayClass (newarray.typeOf aty)).before a0 Z = true) (eT : T.heap = h) (hby : c.code = bc) (hd : decode bc pc = .ok (.newarray aty, 2)) {n : Int32} (hn : ¬ n < 0) (cap : Nat) (hcap : n.toNatClampNeg ≤ cap) (hb8 : cap * 8 ≤ 536870912) (hc : cells + 1 ≤ R.cells) (hl : slots + cap ≤ R.slots) {ad : String} (had : "[" ++ (newarray.typeOf aty).toString = ad) (k : ∀ T' h' cA b, Stand p l e R s m args below meth c T' locs (cells + 1) (slots + cap) → T'.heap = h' → Ext h h' → b = h.size → Arv Z h' b cA (newarray.typeOf aty) n [] (defaultValue (newarray.typeOf aty)) → Exa Z h' b ad → b < h'.size → own_Go p.tables e below P (T'.setTop (mkF m (pc + 2) Ls ((.ref b) :: st)))) : own_Go p.tables e below P (T.setTop (mkF m pc Ls ((.int n) :: st))) := by
  obtain ⟨T', h', cA, X', e', E, A, C, sp⟩ := newPE X hx hZ w eT (g := mkF m pc Ls ((.int n) :: st)) rfl (hb hby hd) rfl hn (cap := cap) hcap hb8 hc hl had
  exact own_go sp (k T' h' cA _ X' e' E rfl (Arv.new A hn) C C.lt)
theorem own_iastore (X : Stand p l e R s m args below meth c T locs cells slots) (hx : p.tables.exec = Jvm.exec) (hZ : Z.Warmed39 s.vm) (eT : T.heap = h) {a : Addr} {kc : ClassId} {z j : Int32} {x : Int32} {w : Value} {vs : List Value} {dv : Value} (V : Arv Z h a kc .int z vs dv) (hj : ¬ j < 0 ∧ j < z) (i : Nat) (hi : j.toNatClampNeg = i) (hl : i < vs.length) (hv : (.int x) = w) (hby : c.code = bc) (hd : decode bc pc = .ok (.iastore, 1)) (N : Fr n0 locs) (ge : n0 ≤ a) (k : ∀ T' h' locs', Stand p l e R s m args below meth c T' locs' cells slots → T'.heap = h' → Fr n0 locs' → Wr h h' a i w → Arv Z h' a kc .int z (vs.set i w) dv → h.size ≤ h'.size → own_Go p.tables e below P (T'.setTop (mkF m (pc + 1) Ls st))) : own_Go p.tables e below P (T.setTop (mkF m pc Ls ((.int x) :: (.int j) :: (.ref a) :: st))) := by
  subst hv hi
  obtain ⟨cl, A, q, S, M, H, G⟩ := V
  obtain ⟨T', h', X', e', W, sp⟩ := stI X hx hZ eT A (j := j) (inb_of S hj) (g := mkF m pc Ls ((.int x) :: (.int j) :: (.ref a) :: st)) rfl rfl (hb hby hd)
  exact own_go sp (k T' h' _ X' e' (Fr.snoc X' N ge) W (Arv.set A q S M H G rfl W _ rfl hl) (Keep.of_wr W).1)
theorem own_dastore (X : Stand p l e R s m args below meth c T locs cells slots) (hx : p.tables.exec = Jvm.exec) (hZ : Z.Warmed39 s.vm) (eT : T.heap = h) {a : Addr} {kc : ClassId} {z j : Int32} {x : UInt64} {w : Value} {vs : List Value} {dv : Value} (V : Arv Z h a kc .double z vs dv) (hj : ¬ j < 0 ∧ j < z) (i : Nat) (hi : j.toNatClampNeg = i) (hl : i < vs.length) (hv : (.double x) = w) (hby : c.code = bc) (hd : decode bc pc = .ok (.dastore, 1)) (N : Fr n0 locs) (ge : n0 ≤ a) (k : ∀ T' h' locs', Stand p l e R s m args below meth c T' locs' cells slots → T'.heap = h' → Fr n0 locs' → Wr h h' a i w → Arv Z h' a kc .double z (vs.set i w) dv → h.size ≤ h'.size → own_Go p.tables e below P (T'.setTop (mkF m (pc + 1) Ls st))) : own_Go p.tables e below P (T.setTop (mkF m pc Ls ((.double x) :: (.int j) :: (.ref a) :: st))) := by
  subst hv hi
  obtain ⟨cl, A, q, S, M, H, G⟩ := V
  obtain ⟨T', h', X', e', W, sp⟩ := stD X hx hZ eT A (j := j) (inb_of S hj) (g := mkF m pc Ls ((.double x) :: (.int j) :: (.ref a) :: st)) rfl rfl (hb hby hd)
  exact own_go sp (k T' h' _ X' e' (Fr.snoc X' N ge) W (Arv.set A q S M H G rfl W _ rfl hl) (Keep.of_wr W).1)
theorem own_iaload (X : Stand p l e R s m args below meth c T locs cells slots) (hx : p.tables.exec = Jvm.exec) (hZ : Z.Warmed39 s.vm) (eT : T.heap = h) {a : Addr} {kc : ClassId} {z j : Int32} {v : Value} {vs : List Value} {dv : Value} (V : Arv Z h a kc .int z vs dv) (hj : ¬ j < 0 ∧ j < z) (hv : vs.getD j.toNatClampNeg dv = v) (hby : c.code = bc) (hd : decode bc pc = .ok (.iaload, 1)) (k : own_Go p.tables e below P (T.setTop (mkF m (pc + 1) Ls (v :: st)))) : own_Go p.tables e below P (T.setTop (mkF m pc Ls ((.int j) :: (.ref a) :: st))) := by
  obtain ⟨cl, A, q, S, M, H, G⟩ := V
  exact own_go (fun t q => X.iaload hx (by rw [eT]; exact A.1) (State.isArrayOf_alike hZ.alike A.2.1) A.2.2 (inb_of S hj) (Has.at H (inb_of S hj) hv) (g := mkF m pc Ls ((.int j) :: (.ref a) :: st)) rfl rfl (hb hby hd) t q) k
theorem own_daload (X : Stand p l e R s m args below meth c T locs cells slots) (hx : p.tables.exec = Jvm.exec) (hZ : Z.Warmed39 s.vm) (eT : T.heap = h) {a : Addr} {kc : ClassId} {z j : Int32} {v : Value} {vs : List Value} {dv : Value} (V : Arv Z h a kc .double z vs dv) (hj : ¬ j < 0 ∧ j < z) (hv : vs.getD j.toNatClampNeg dv = v) (hby : c.code = bc) (hd : decode bc pc = .ok (.daload, 1)) (k : own_Go p.tables e below P (T.setTop (mkF m (pc + 1) Ls (v :: st)))) : own_Go p.tables e below P (T.setTop (mkF m pc Ls ((.int j) :: (.ref a) :: st))) := by
  obtain ⟨cl, A, q, S, M, H, G⟩ := V
  exact own_go (fun t q => X.daload hx (by rw [eT]; exact A.1) (State.isArrayOf_alike hZ.alike A.2.1) A.2.2 (inb_of S hj) (Has.at H (inb_of S hj) hv) (g := mkF m pc Ls ((.int j) :: (.ref a) :: st)) rfl rfl (hb hby hd) t q) k
theorem own_alen (X : Stand p l e R s m args below meth c T locs cells slots) (hx : p.tables.exec = Jvm.exec) (hZ : Z.Warmed39 s.vm) (eT : T.heap = h) {a : Addr} {kc : ClassId} {ty : FieldType} {z : Int32} {vs : List Value} {dv : Value} (V : Arv Z h a kc ty z vs dv) (hby : c.code = bc) (hd : decode bc pc = .ok (.arraylength, 1)) (k : own_Go p.tables e below P (T.setTop (mkF m (pc + 1) Ls ((.int z) :: st)))) : own_Go p.tables e below P (T.setTop (mkF m pc Ls ((.ref a) :: st))) := by
  obtain ⟨cl, A, q, S, M, H, G⟩ := V
  refine own_go (fun t q => X.arraylength hx (by rw [eT]; exact A.1) (State.isArrayOf_alike hZ.alike A.2.1) (g := mkF m pc Ls ((.ref a) :: st)) rfl rfl (hb hby hd) t q) ?_
  rw [len_of S M]; exact k
theorem own_callS (X : Stand p l e R s m args below meth c T locs cells slots) (hx : p.tables.exec = Jvm.exec) (hZ : Z.Warmed39 s.vm) {own : String} {index : Nat} {y : MethodName} {bytes : ByteArray} {maxL : Nat} {ret : Option FieldType} {rm : Room} {Qc : Option Value → Heap → List Loc → Prop} {as' : Array Value} (hown : s.vm.findClass own = some m.cls) (w1 : (Cond.methodLink own index y).before a0 Z = true) (w2 : (Cond.static y).before a0 Z = true) (w3 : (Cond.initialized y.cls).before a0 Z = true) (w4 : (Cond.code y bytes maxL ret).before a0 Z = true) (hy : y.cls ≠ "java/lang/invoke/MethodHandle" ∧ y.cls ≠ "java/lang/invoke/VarHandle") (hM : MetFree l y (head1 [Cond.code y bytes maxL ret] rm) (fun a U => a = as' ∧ Z.Warmed39 U.vm ∧ U.heap = h) (fun _ _ _ _ _ => True) (fun _ U o U' => ∃ v L, o = .returned v ∧ Qc v U'.heap L ∧ FrameEnd U o U' L rm.cells rm.slots)) (W : Nat) (hW : 2 * 0 + (st.map fun v => v.category).sum ≤ W) (hf : rm.frames + 1 ≤ R.frames) (hl : W + (maxL + 11) + rm.locals ≤ R.locals) (hsize : Ls.size = c.maxLocals) {argsL stk : List Value} (hlen : ∀ sig, parseMethodDescriptor y.desc = some sig → argsL.length = sig.parameters.length) (hstk : stk = argsL.reverse ++ st) (has : argsL.toArray = as') (hc : cells + rm.cells ≤ R.cells) (hs : slots + rm.slots ≤ R.slots) (eT : T.heap = h) (hby : c.code = bc) (hd : decode bc pc = .ok (.invokestatic index, 3)) (k : ∀ T' v L, Stand p l e R s m args below meth c T' (locs ++ L) (cells + rm.cells) (slots + rm.slots) → Qc v T'.heap L → own_Go p.tables e below P (T'.setTop (mkF m (pc + 3) Ls (v.toList ++ st)))) : own_Go p.tables e below P (T.setTop (mkF m pc Ls stk)) := by
  subst hstk
  obtain ⟨v, _, ⟨T', L', k', n'⟩, -, X', ⟨L, hQ, hl', hy', hz'⟩, sp⟩ := Jvm.LawKit.callS X hx hown (mvT hZ w1) (mvT hZ w2) (mvT hZ w3) (mvT hZ w4) hy (backOf (W := W) hM hZ w4 w3 hf hl) (g := mkF m pc Ls (argsL.reverse ++ st)) rfl hsize (argsL := argsL) (rest := st) hlen rfl hW (hb hby hd) (fun _ _ => ⟨has, eT, hc, hs⟩)
  dsimp only [Pt.U, Pt.locs, Pt.cells, Pt.slots] at X' hl' hy' hz' sp hQ
  subst hl' hy' hz'
  exact own_go sp (k T' v L X' hQ)
end OwnGo
theorem own_and3 (x : Int32) : x &&& (3 : Int32) = (0 : Int32) ∨ x &&& (3 : Int32) = (1 : Int32) ∨ x &&& (3 : Int32) = (2 : Int32) ∨ x &&& (3 : Int32) = (3 : Int32) := by
  obtain ⟨h1, h2⟩ := c_and x 3 (by decide)
  have h3 : (3 : Int32).toInt = 3 := by decide
  rw [h3] at h2
  have h4 : (x &&& 3).toInt = 0 ∨ (x &&& 3).toInt = 1 ∨ (x &&& 3).toInt = 2 ∨ (x &&& 3).toInt = 3 := by omega
  rcases h4 with h | h | h | h
  · exact Or.inl (Int32.toInt_inj.mp (h.trans (by decide)))
  · exact Or.inr (Or.inl (Int32.toInt_inj.mp (h.trans (by decide))))
  · exact Or.inr (Or.inr (Or.inl (Int32.toInt_inj.mp (h.trans (by decide)))))
  · exact Or.inr (Or.inr (Or.inr (Int32.toInt_inj.mp (h.trans (by decide)))))
def own_exp (c m : Int32) : UInt64 := if m = 0 then FP.dconst0 else FP.ddiv (FP.i2d c) (FP.i2d m)
theorem own_exp0 (c : Int32) {m : Int32} (h : m = 0) : own_exp c m = FP.dconst0 := by unfold own_exp; rw [if_pos h]
theorem own_exp1 (c : Int32) {m : Int32} (h : ¬ m = 0) : own_exp c m = FP.ddiv (FP.i2d c) (FP.i2d m) := by unfold own_exp; rw [if_neg h]
theorem own_nan (c : Int32) {m : Int32} (h : ¬ m = 0) : Jvm.Free.Fl.NoNaN64 (FP.ddiv (FP.i2d c) (FP.i2d m)) := Jvm.Free.Fl.ddiv_out (Jvm.Free.Fl.i2d_fin c).noNaN (Jvm.Free.Fl.i2d_fin m) (Jvm.Free.Fl.i2d_nz h)
theorem own_expN (c m : Int32) : Jvm.Free.Fl.NoNaN64 (own_exp c m) := by
  by_cases h : m = 0
  · rw [own_exp0 c h]; exact Jvm.Free.Fl.SumD.zero_noNaN
  · rw [own_exp1 c h]; exact own_nan c h
theorem ef_exp_ (m : MethodId) (x0 : Int32) (x1 : Int32) : entryFrame m #[(.int x0), (.int x1)] 2 = mkF m 0 #[.val (.int x0), .val (.int x1)] [] := by first | (simp [entryFrame, mkF, argsToLocals, Value.category]; done) | rfl
theorem pn_3 : plainName "com/example/rank_to_reach/ranktoreach/RetrievabilityNormalisedPinLaw" = true := by first | (simp [plainName, overriddenIn]; done) | decide +kernel
theorem d3_0 : decode method_4_code 0 = .ok (.iload_n 1, 1) := by decide +kernel
theorem d3_1 : decode method_4_code 1 = .ok (.ifCond .ne 5, 3) := by decide +kernel
theorem d3_4 : decode method_4_code 4 = .ok (.dconst 0, 1) := by decide +kernel
theorem d3_5 : decode method_4_code 5 = .ok (.dreturn, 1) := by decide +kernel
theorem d3_6 : decode method_4_code 6 = .ok (.iload_n 0, 1) := by decide +kernel
theorem d3_7 : decode method_4_code 7 = .ok (.i2d, 1) := by decide +kernel
theorem d3_8 : decode method_4_code 8 = .ok (.iload_n 1, 1) := by decide +kernel
theorem d3_9 : decode method_4_code 9 = .ok (.i2d, 1) := by decide +kernel
theorem d3_10 : decode method_4_code 10 = .ok (.ddiv, 1) := by decide +kernel
theorem d3_11 : decode method_4_code 11 = .ok (.dreturn, 1) := by decide +kernel
def Q_exp_ (Z : State) (cc : Int32) (mm : Int32) (h0 : Heap) (n0 : Nat) (vR : Option Value) (hR : Heap) (LR : List Loc) : Prop := vR = some (.double (own_exp cc mm)) ∧ Fr n0 LR ∧ hR = h0
set_option maxRecDepth 65536 in
set_option maxHeartbeats 40000000 in
theorem exp_ (l : Launch) (Z : State) (a0 : Array Value) (hw : ∀ d ∈ tables_1, d.before a0 Z = true) (ws : List Jvm.Cond) (cc : Int32) (mm : Int32) (h0 : Heap) (n0 : Nat) (Z0 : n0 ≤ h0.size)  :
    own_M l (⟨"com/example/rank_to_reach/ranktoreach/RetrievabilityNormalisedPinLaw", "expected", "(II)D"⟩ : MethodName) method_4_code 2 (some .double) ws ({ frames := 0, cells := 0, slots := 0, locals := 0 } : Room) Z #[(.int cc), (.int mm)] h0 (Q_exp_ Z cc mm h0 n0) := by
  refine own_body (own := "com/example/rank_to_reach/ranktoreach/RetrievabilityNormalisedPinLaw") rfl (plainFor_of_name pn_3) (fun m => ef_exp_ m cc mm) ?_
  intro p e s m below meth c s₁ Bd hml hZ hh hx hby hown X0 e0
  have N0 := Fr.nil n0
  refine own_iloadN X0.here hx hby d3_0 rfl ?_
  by_cases hc1_1 : mm = (0 : Int32)
  · refine own_ifNo X0.here hx hby d3_1 ((if0 _ _).trans (teq hc1_1).2) ?_
    refine own_dconst0 X0.here hx hby d3_4 ?_
    obtain ⟨fs, hr, hrun, hended, hW, hsame⟩ := X0.leave (v := some (.double FP.dconst0)) (fun h => by rw [Bd.returns] at h; cases h)
    refine own_ret (t := s₁.setFrames fs) ?_ ⟨_, hrun, hended, _, _, rfl, ?_, ⟨_, rfl⟩, hW, hsame.mono (by decide) (by decide)⟩
    · exact retOut X0 hx Bd.returns rfl (Or.inr (Or.inr (Or.inl ⟨rfl, rfl, _, rfl⟩))) (hb hby d3_5) hr
    · show Q_exp_ Z cc mm h0 n0 _ s₁.heap _
      rw [e0]
      exact ⟨(by rw [own_exp0 cc hc1_1]), N0, rfl⟩
  · refine own_ifYes X0.here hx hby (pc' := 6) d3_1 ((if0 _ _).trans (feq hc1_1).2) (by decide) (by decide) ?_
    refine own_iloadN X0.here hx hby d3_6 rfl ?_
    refine own_i2d X0.here hx hby d3_7 ?_
    refine own_iloadN X0.here hx hby d3_8 rfl ?_
    refine own_i2d X0.here hx hby d3_9 ?_
    refine own_ddiv X0.here hx hby d3_10 (own_nan cc hc1_1) ?_
    obtain ⟨fs, hr, hrun, hended, hW, hsame⟩ := X0.leave (v := some (.double (FP.ddiv (FP.i2d cc) (FP.i2d mm)))) (fun h => by rw [Bd.returns] at h; cases h)
    refine own_ret (t := s₁.setFrames fs) ?_ ⟨_, hrun, hended, _, _, rfl, ?_, ⟨_, rfl⟩, hW, hsame.mono (by decide) (by decide)⟩
    · exact retOut X0 hx Bd.returns rfl (Or.inr (Or.inr (Or.inl ⟨rfl, rfl, _, rfl⟩))) (hb hby d3_11) hr
    · show Q_exp_ Z cc mm h0 n0 _ s₁.heap _
      rw [e0]
      exact ⟨(by rw [own_exp1 cc hc1_1]), N0, rfl⟩
theorem ef_take_0 (m : MethodId) (x0 : Int32) (x1 : Int32) (x2 : Int32) (x3 : Int32) : entryFrame m #[(.int x0), (.int x1), (.int x2), (.int x3)] 4 = mkF m 0 #[.val (.int x0), .val (.int x1), .val (.int x2), .val (.int x3)] [] := by first | (simp [entryFrame, mkF, argsToLocals, Value.category]; done) | rfl
theorem pn_1 : plainName "com/example/rank_to_reach/ranktoreach/RetrievabilityNormalisedPinLaw" = true := by first | (simp [plainName, overriddenIn]; done) | decide +kernel
theorem d1_0 : decode method_3_code 0 = .ok (.iload_n 0, 1) := by decide +kernel
theorem d1_1 : decode method_3_code 1 = .ok (.ifCond .ne 7, 3) := by decide +kernel
theorem d1_4 : decode method_3_code 4 = .ok (.iconst 0, 1) := by decide +kernel
theorem d1_5 : decode method_3_code 5 = .ok (.newarray .int, 2) := by decide +kernel
theorem d1_7 : decode method_3_code 7 = .ok (.areturn, 1) := by decide +kernel
def Q_take_0 (Z : State) (x0 : Int32) (x1 : Int32) (x2 : Int32) (h0 : Heap) (n0 : Nat) (vR : Option Value) (hR : Heap) (LR : List Loc) : Prop := ∃ (b : Nat) (kb : ClassId), vR = some (.ref b) ∧ Fr n0 LR ∧ Keep h0 hR [] ∧ h0.size ≤ b ∧ (Arv Z hR b kb .int (0 : Int32) [] (.int 0))
set_option maxRecDepth 65536 in
set_option maxHeartbeats 40000000 in
theorem take_0 (l : Launch) (Z : State) (a0 : Array Value) (hw : ∀ d ∈ tables_1, d.before a0 Z = true) (ws : List Jvm.Cond) (x0 : Int32) (x1 : Int32) (x2 : Int32) (h0 : Heap) (n0 : Nat) (Z0 : n0 ≤ h0.size)  :
    own_M l (⟨"com/example/rank_to_reach/ranktoreach/RetrievabilityNormalisedPinLaw", "take", "(IIII)[I"⟩ : MethodName) method_3_code 4 (some (.array .int)) ws ({ frames := 0, cells := 1, slots := 0, locals := 0 } : Room) Z #[(.int 0), (.int x0), (.int x1), (.int x2)] h0 (Q_take_0 Z x0 x1 x2 h0 n0) := by
  refine own_body (own := "com/example/rank_to_reach/ranktoreach/RetrievabilityNormalisedPinLaw") rfl (plainFor_of_name pn_1) (fun m => ef_take_0 m (0 : Int32) x0 x1 x2) ?_
  intro p e s m below meth c s₁ Bd hml hZ hh hx hby hown X0 e0
  have N0 := Fr.nil n0
  refine own_iloadN X0.here hx hby d1_0 rfl ?_
  refine own_ifNo X0.here hx hby d1_1 ((if0 _ _).trans (teq (show (0 : Int32) = (0 : Int32) from (by decide))).2) ?_
  refine own_iconst X0.here hx hby d1_4 (v := (0 : Int32)) (by decide) ?_
  refine own_newP X0 hx hZ (aty := .int) (own_w hw 4 rfl) e0 hby d1_5 (by decide) 0 (by decide) (by decide) (by decide) (by decide) (ad := "[I") (by decide) ?_
  intro T3 h3 k3 b3 X3 e3 E3 g3 V3 C3 lt3
  have z4 : h0.size ≤ h3.size := E3.1
  have V5 : Arv Z h3 b3 k3 .int (0 : Int32) [] (.int 0) := V3
  have K6 : Keep h0 h3 [] := ((Keep.refl h0 []).ext E3)
  obtain ⟨fs, hr, hrun, hended, hW, hsame⟩ := X3.leave (v := some (.ref b3)) (fun h => by rw [Bd.returns] at h; cases h)
  refine own_ret (t := T3.setFrames fs) ?_ ⟨_, hrun, hended, _, _, rfl, ?_, ⟨_, rfl⟩, hW, hsame.mono (by decide) (by decide)⟩
  · exact retOut X3 hx Bd.returns rfl (Or.inr (Or.inr (Or.inr (Or.inr ⟨rfl, rfl, rfl⟩)))) (hb hby d1_7) hr
  · show Q_take_0 Z x0 x1 x2 h0 n0 _ T3.heap _
    rw [e3]
    exact ⟨b3, k3, rfl, N0, K6, (by omega), V5⟩
theorem ef_norm_0 (m : MethodId) (x0 : Nat) (x1 : Nat) : entryFrame m #[(.ref x0), (.ref x1)] 5 = mkF m 0 #[.val (.ref x0), .val (.ref x1), .unset, .unset, .unset] [] := by first | (simp [entryFrame, mkF, argsToLocals, Value.category]; done) | rfl
theorem pn_2 : plainName "com/example/rank_to_reach/ranktoreach/Retrievability" = true := by first | (simp [plainName, overriddenIn]; done) | decide +kernel
theorem d2_0 : decode prog_49_method_5_code 0 = .ok (.aload_n 0, 1) := by decide +kernel
theorem d2_1 : decode prog_49_method_5_code 1 = .ok (.arraylength, 1) := by decide +kernel
theorem d2_2 : decode prog_49_method_5_code 2 = .ok (.newarray .double, 2) := by decide +kernel
theorem d2_4 : decode prog_49_method_5_code 4 = .ok (.astore_n 2, 1) := by decide +kernel
theorem d2_5 : decode prog_49_method_5_code 5 = .ok (.iconst 0, 1) := by decide +kernel
theorem d2_6 : decode prog_49_method_5_code 6 = .ok (.istore_n 3, 1) := by decide +kernel
theorem d2_7 : decode prog_49_method_5_code 7 = .ok (.iload_n 3, 1) := by decide +kernel
theorem d2_8 : decode prog_49_method_5_code 8 = .ok (.aload_n 0, 1) := by decide +kernel
theorem d2_9 : decode prog_49_method_5_code 9 = .ok (.arraylength, 1) := by decide +kernel
theorem d2_10 : decode prog_49_method_5_code 10 = .ok (.if_icmp .ge 34, 3) := by decide +kernel
theorem d2_44 : decode prog_49_method_5_code 44 = .ok (.aload_n 2, 1) := by decide +kernel
theorem d2_45 : decode prog_49_method_5_code 45 = .ok (.areturn, 1) := by decide +kernel
def Q_norm_0 (Z : State) (a : Nat) (b : Nat) (ka : ClassId) (kb : ClassId) (h0 : Heap) (n0 : Nat) (vR : Option Value) (hR : Heap) (LR : List Loc) : Prop := ∃ (r : Nat) (kr : ClassId), vR = some (.ref r) ∧ Fr n0 LR ∧ Keep h0 hR [] ∧ h0.size ≤ r ∧ (Arv Z hR r kr .double (0 : Int32) [] (.double 0))
set_option maxRecDepth 65536 in
set_option maxHeartbeats 40000000 in
theorem norm_0 (l : Launch) (Z : State) (a0 : Array Value) (hw : ∀ d ∈ tables_1, d.before a0 Z = true) (ws : List Jvm.Cond) (a : Nat) (b : Nat) (ka : ClassId) (kb : ClassId) (h0 : Heap) (n0 : Nat) (Z0 : n0 ≤ h0.size) (V_a : Arv Z h0 a ka .int (0 : Int32) [] (.int 0)) (V_b : Arv Z h0 b kb .int (0 : Int32) [] (.int 0)) :
    own_M l (⟨"com/example/rank_to_reach/ranktoreach/Retrievability", "normalised", "([I[I)[D"⟩ : MethodName) prog_49_method_5_code 5 (some (.array .double)) ws ({ frames := 0, cells := 1, slots := 0, locals := 0 } : Room) Z #[(.ref a), (.ref b)] h0 (Q_norm_0 Z a b ka kb h0 n0) := by
  refine own_body (own := "com/example/rank_to_reach/ranktoreach/Retrievability") rfl (plainFor_of_name pn_2) (fun m => ef_norm_0 m a b) ?_
  intro p e s m below meth c s₁ Bd hml hZ hh hx hby hown X0 e0
  have N0 := Fr.nil n0
  have lt1 : h0.size > a := V_a.lt
  have lt2 : h0.size > b := V_b.lt
  refine own_aloadN X0.here hx hby d2_0 rfl rfl ?_
  refine own_alen X0 hx hZ e0 V_a hby d2_1 ?_
  refine own_newP X0 hx hZ (aty := .double) (own_w hw 9 rfl) e0 hby d2_2 (by decide) 0 (by decide) (by decide) (by decide) (by decide) (ad := "[D") (by decide) ?_
  intro T3 h3 k3 b3 X3 e3 E3 g3 V3 C3 lt3
  have z4 : h0.size ≤ h3.size := E3.1
  have V5 : Arv Z h3 b3 k3 .double (0 : Int32) [] (.double 0) := V3
  refine own_astoreN X3.here hx hby d2_4 rfl (l' := #[.val (.ref a), .val (.ref b), .val (.ref b3), .unset, .unset]) rfl ?_
  refine own_iconst X3.here hx hby d2_5 (v := (0 : Int32)) (by decide) ?_
  refine own_istoreN X3.here hx hby d2_6 (l' := #[.val (.ref a), .val (.ref b), .val (.ref b3), .val (.int 0), .unset]) rfl ?_
  refine own_iloadN X3.here hx hby d2_7 rfl ?_
  refine own_aloadN X3.here hx hby d2_8 rfl rfl ?_
  have f6 : Arv Z h3 a ka .int (0 : Int32) [] (.int 0) := (V_a.ext E3)
  refine own_alen X3 hx hZ e3 f6 hby d2_9 ?_
  refine own_icmpYes X3.here hx hby (pc' := 44) d2_10 (flt (show ¬ ((0 : Int32) < (0 : Int32)) from (by decide))).2.1 (by decide) (by decide) ?_
  refine own_aloadN X3.here hx hby d2_44 rfl rfl ?_
  have K7 : Keep h0 h3 [] := ((Keep.refl h0 []).ext E3)
  obtain ⟨fs, hr, hrun, hended, hW, hsame⟩ := X3.leave (v := some (.ref b3)) (fun h => by rw [Bd.returns] at h; cases h)
  refine own_ret (t := T3.setFrames fs) ?_ ⟨_, hrun, hended, _, _, rfl, ?_, ⟨_, rfl⟩, hW, hsame.mono (by decide) (by decide)⟩
  · exact retOut X3 hx Bd.returns rfl (Or.inr (Or.inr (Or.inr (Or.inr ⟨rfl, rfl, rfl⟩)))) (hb hby d2_45) hr
  · show Q_norm_0 Z a b ka kb h0 n0 _ T3.heap _
    rw [e3]
    exact ⟨b3, k3, rfl, N0, K7, (by omega), V5⟩
theorem d1_8 : decode method_3_code 8 = .ok (.iload_n 0, 1) := by decide +kernel
theorem d1_9 : decode method_3_code 9 = .ok (.iconst 1, 1) := by decide +kernel
theorem d1_10 : decode method_3_code 10 = .ok (.if_icmp .ne 11, 3) := by decide +kernel
theorem d1_13 : decode method_3_code 13 = .ok (.iconst 1, 1) := by decide +kernel
theorem d1_14 : decode method_3_code 14 = .ok (.newarray .int, 2) := by decide +kernel
theorem d1_16 : decode method_3_code 16 = .ok (.dup, 1) := by decide +kernel
theorem d1_17 : decode method_3_code 17 = .ok (.iconst 0, 1) := by decide +kernel
theorem d1_18 : decode method_3_code 18 = .ok (.iload_n 1, 1) := by decide +kernel
theorem d1_19 : decode method_3_code 19 = .ok (.iastore, 1) := by decide +kernel
theorem d1_20 : decode method_3_code 20 = .ok (.areturn, 1) := by decide +kernel
def Q_take_1 (Z : State) (x0 : Int32) (x1 : Int32) (x2 : Int32) (h0 : Heap) (n0 : Nat) (vR : Option Value) (hR : Heap) (LR : List Loc) : Prop := ∃ (b : Nat) (kb : ClassId), vR = some (.ref b) ∧ Fr n0 LR ∧ Keep h0 hR [] ∧ h0.size ≤ b ∧ (Arv Z hR b kb .int (1 : Int32) [(.int x0)] (.int 0))
set_option maxRecDepth 65536 in
set_option maxHeartbeats 40000000 in
theorem take_1 (l : Launch) (Z : State) (a0 : Array Value) (hw : ∀ d ∈ tables_1, d.before a0 Z = true) (ws : List Jvm.Cond) (x0 : Int32) (x1 : Int32) (x2 : Int32) (h0 : Heap) (n0 : Nat) (Z0 : n0 ≤ h0.size)  :
    own_M l (⟨"com/example/rank_to_reach/ranktoreach/RetrievabilityNormalisedPinLaw", "take", "(IIII)[I"⟩ : MethodName) method_3_code 4 (some (.array .int)) ws ({ frames := 0, cells := 1, slots := 1, locals := 0 } : Room) Z #[(.int 1), (.int x0), (.int x1), (.int x2)] h0 (Q_take_1 Z x0 x1 x2 h0 n0) := by
  refine own_body (own := "com/example/rank_to_reach/ranktoreach/RetrievabilityNormalisedPinLaw") rfl (plainFor_of_name pn_1) (fun m => ef_take_0 m (1 : Int32) x0 x1 x2) ?_
  intro p e s m below meth c s₁ Bd hml hZ hh hx hby hown X0 e0
  have N0 := Fr.nil n0
  refine own_iloadN X0.here hx hby d1_0 rfl ?_
  refine own_ifYes X0.here hx hby (pc' := 8) d1_1 ((if0 _ _).trans (feq (show ¬ ((1 : Int32) = (0 : Int32)) from (by decide))).2) (by decide) (by decide) ?_
  refine own_iloadN X0.here hx hby d1_8 rfl ?_
  refine own_iconst X0.here hx hby d1_9 (v := (1 : Int32)) (by decide) ?_
  refine own_icmpNo X0.here hx hby d1_10 (teq (show (1 : Int32) = (1 : Int32) from (by decide))).2 ?_
  refine own_iconst X0.here hx hby d1_13 (v := (1 : Int32)) (by decide) ?_
  refine own_newP X0 hx hZ (aty := .int) (own_w hw 4 rfl) e0 hby d1_14 (by decide) 1 (by decide) (by decide) (by decide) (by decide) (ad := "[I") (by decide) ?_
  intro T3 h3 k3 b3 X3 e3 E3 g3 V3 C3 lt3
  have z4 : h0.size ≤ h3.size := E3.1
  have V5 : Arv Z h3 b3 k3 .int (1 : Int32) [(.int 0)] (.int 0) := V3.pad (pad_rep [] (.int 0) 1)
  refine own_dup X3.here hx hby d1_16 rfl ?_
  refine own_iconst X3.here hx hby d1_17 (v := (0 : Int32)) (by decide) ?_
  refine own_iloadN X3.here hx hby d1_18 rfl ?_
  refine own_iastore X3 hx hZ e3 V5 ⟨by decide, by decide⟩ 0 (by decide) (Nat.le_of_ble_eq_true rfl) rfl hby d1_19 N0 (by omega) ?_
  intro T6 h6 lo6 X6 e6 N6 W6 V6 z6
  have V7 : Arv Z h6 b3 k3 .int (1 : Int32) [(.int x0)] (.int 0) := V6
  have K8 : Keep h0 h6 [] := (((Keep.refl h0 []).ext E3).wr W6 (Or.inr (by omega)))
  obtain ⟨fs, hr, hrun, hended, hW, hsame⟩ := X6.leave (v := some (.ref b3)) (fun h => by rw [Bd.returns] at h; cases h)
  refine own_ret (t := T6.setFrames fs) ?_ ⟨_, hrun, hended, _, _, rfl, ?_, ⟨_, rfl⟩, hW, hsame.mono (by decide) (by decide)⟩
  · exact retOut X6 hx Bd.returns rfl (Or.inr (Or.inr (Or.inr (Or.inr ⟨rfl, rfl, rfl⟩)))) (hb hby d1_20) hr
  · show Q_take_1 Z x0 x1 x2 h0 n0 _ T6.heap _
    rw [e6]
    exact ⟨b3, k3, rfl, N6, K8, (by omega), V7⟩
theorem d2_13 : decode prog_49_method_5_code 13 = .ok (.aload_n 1, 1) := by decide +kernel
theorem d2_14 : decode prog_49_method_5_code 14 = .ok (.iload_n 3, 1) := by decide +kernel
theorem d2_15 : decode prog_49_method_5_code 15 = .ok (.iaload, 1) := by decide +kernel
theorem d2_16 : decode prog_49_method_5_code 16 = .ok (.istore 4, 2) := by decide +kernel
theorem d2_18 : decode prog_49_method_5_code 18 = .ok (.aload_n 2, 1) := by decide +kernel
theorem d2_19 : decode prog_49_method_5_code 19 = .ok (.iload_n 3, 1) := by decide +kernel
theorem d2_20 : decode prog_49_method_5_code 20 = .ok (.iload 4, 2) := by decide +kernel
theorem d2_37 : decode prog_49_method_5_code 37 = .ok (.dastore, 1) := by decide +kernel
theorem d2_38 : decode prog_49_method_5_code 38 = .ok (.iinc 3 1, 3) := by decide +kernel
theorem d2_41 : decode prog_49_method_5_code 41 = .ok (.goto (-34), 3) := by decide +kernel
theorem d2_22 : decode prog_49_method_5_code 22 = .ok (.ifCond .ne 7, 3) := by decide +kernel
theorem d2_25 : decode prog_49_method_5_code 25 = .ok (.dconst 0, 1) := by decide +kernel
theorem d2_26 : decode prog_49_method_5_code 26 = .ok (.goto 11, 3) := by decide +kernel
theorem d2_29 : decode prog_49_method_5_code 29 = .ok (.aload_n 0, 1) := by decide +kernel
theorem d2_30 : decode prog_49_method_5_code 30 = .ok (.iload_n 3, 1) := by decide +kernel
theorem d2_31 : decode prog_49_method_5_code 31 = .ok (.iaload, 1) := by decide +kernel
theorem d2_32 : decode prog_49_method_5_code 32 = .ok (.i2d, 1) := by decide +kernel
theorem d2_33 : decode prog_49_method_5_code 33 = .ok (.iload 4, 2) := by decide +kernel
theorem d2_35 : decode prog_49_method_5_code 35 = .ok (.i2d, 1) := by decide +kernel
theorem d2_36 : decode prog_49_method_5_code 36 = .ok (.ddiv, 1) := by decide +kernel
def Q_norm_1 (Z : State) (a : Nat) (b : Nat) (ka : ClassId) (kb : ClassId) (c0 : Int32) (m0 : Int32) (h0 : Heap) (n0 : Nat) (vR : Option Value) (hR : Heap) (LR : List Loc) : Prop := ∃ (r : Nat) (kr : ClassId), vR = some (.ref r) ∧ Fr n0 LR ∧ Keep h0 hR [] ∧ h0.size ≤ r ∧ (Arv Z hR r kr .double (1 : Int32) [(.double (own_exp c0 m0))] (.double 0))
set_option maxRecDepth 65536 in
set_option maxHeartbeats 40000000 in
theorem norm_1 (l : Launch) (Z : State) (a0 : Array Value) (hw : ∀ d ∈ tables_1, d.before a0 Z = true) (ws : List Jvm.Cond) (a : Nat) (b : Nat) (ka : ClassId) (kb : ClassId) (c0 : Int32) (m0 : Int32) (h0 : Heap) (n0 : Nat) (Z0 : n0 ≤ h0.size) (V_a : Arv Z h0 a ka .int (1 : Int32) [(.int c0)] (.int 0)) (V_b : Arv Z h0 b kb .int (1 : Int32) [(.int m0)] (.int 0)) :
    own_M l (⟨"com/example/rank_to_reach/ranktoreach/Retrievability", "normalised", "([I[I)[D"⟩ : MethodName) prog_49_method_5_code 5 (some (.array .double)) ws ({ frames := 0, cells := 1, slots := 1, locals := 0 } : Room) Z #[(.ref a), (.ref b)] h0 (Q_norm_1 Z a b ka kb c0 m0 h0 n0) := by
  refine own_body (own := "com/example/rank_to_reach/ranktoreach/Retrievability") rfl (plainFor_of_name pn_2) (fun m => ef_norm_0 m a b) ?_
  intro p e s m below meth c s₁ Bd hml hZ hh hx hby hown X0 e0
  have N0 := Fr.nil n0
  have lt1 : h0.size > a := V_a.lt
  have lt2 : h0.size > b := V_b.lt
  refine own_aloadN X0.here hx hby d2_0 rfl rfl ?_
  refine own_alen X0 hx hZ e0 V_a hby d2_1 ?_
  refine own_newP X0 hx hZ (aty := .double) (own_w hw 9 rfl) e0 hby d2_2 (by decide) 1 (by decide) (by decide) (by decide) (by decide) (ad := "[D") (by decide) ?_
  intro T3 h3 k3 b3 X3 e3 E3 g3 V3 C3 lt3
  have z4 : h0.size ≤ h3.size := E3.1
  have V5 : Arv Z h3 b3 k3 .double (1 : Int32) [(.double 0)] (.double 0) := V3.pad (pad_rep [] (.double 0) 1)
  refine own_astoreN X3.here hx hby d2_4 rfl (l' := #[.val (.ref a), .val (.ref b), .val (.ref b3), .unset, .unset]) rfl ?_
  refine own_iconst X3.here hx hby d2_5 (v := (0 : Int32)) (by decide) ?_
  refine own_istoreN X3.here hx hby d2_6 (l' := #[.val (.ref a), .val (.ref b), .val (.ref b3), .val (.int 0), .unset]) rfl ?_
  refine own_iloadN X3.here hx hby d2_7 rfl ?_
  refine own_aloadN X3.here hx hby d2_8 rfl rfl ?_
  have f6 : Arv Z h3 a ka .int (1 : Int32) [(.int c0)] (.int 0) := (V_a.ext E3)
  refine own_alen X3 hx hZ e3 f6 hby d2_9 ?_
  refine own_icmpNo X3.here hx hby d2_10 (tlt (show (0 : Int32) < (1 : Int32) from (by decide))).2.1 ?_
  refine own_aloadN X3.here hx hby d2_13 rfl rfl ?_
  refine own_iloadN X3.here hx hby d2_14 rfl ?_
  have f7 : Arv Z h3 b kb .int (1 : Int32) [(.int m0)] (.int 0) := (V_b.ext E3)
  refine own_iaload X3 hx hZ e3 f7 ⟨by decide, by decide⟩ (v := (.int m0)) rfl hby d2_15 ?_
  refine own_istore X3.here hx hby d2_16 (l' := #[.val (.ref a), .val (.ref b), .val (.ref b3), .val (.int 0), .val (.int m0)]) rfl ?_
  refine own_aloadN X3.here hx hby d2_18 rfl rfl ?_
  refine own_iloadN X3.here hx hby d2_19 rfl ?_
  refine own_iload X3.here hx hby d2_20 rfl ?_
  refine own_sh (T := T3) 22 #[.val (.ref a), .val (.ref b), .val (.ref b3), .val (.int 0), .val (.int m0)] [(.int m0), (.int 0), (.ref b3)] ?_
  refine own_join (fun (zz8 : Unit) => T3.setTop (mkF m 37 #[.val (.ref a), .val (.ref b), .val (.ref b3), .val (.int 0), .val (.int m0)] [(.double (own_exp c0 m0)), (.int 0), (.ref b3)])) ?_ ?_
  · intro zz8
    refine own_sh (T := T3) 37 #[.val (.ref a), .val (.ref b), .val (.ref b3), .val (.int 0), .val (.int m0)] [(.double (own_exp c0 m0)), (.int 0), (.ref b3)] ?_
    refine own_dastore X3 hx hZ e3 V5 ⟨by decide, by decide⟩ 0 (by decide) (Nat.le_of_ble_eq_true rfl) rfl hby d2_37 N0 (by omega) ?_
    intro T9 h9 lo9 X9 e9 N9 W9 V9 z9
    have V10 : Arv Z h9 b3 k3 .double (1 : Int32) [(.double (own_exp c0 m0))] (.double 0) := V9
    refine own_iinc X9.here hx hby d2_38 rfl (v := (1 : Int32)) (by decide) (l' := #[.val (.ref a), .val (.ref b), .val (.ref b3), .val (.int 1), .val (.int m0)]) rfl ?_
    refine own_goto X9.here hx hby (pc' := 7) d2_41 (by decide) (by decide) ?_
    refine own_iloadN X9.here hx hby d2_7 rfl ?_
    refine own_aloadN X9.here hx hby d2_8 rfl rfl ?_
    have f11 : Arv Z h9 a ka .int (1 : Int32) [(.int c0)] (.int 0) := (f6.other W9 (own_nn (by omega)))
    refine own_alen X9 hx hZ e9 f11 hby d2_9 ?_
    refine own_icmpYes X9.here hx hby (pc' := 44) d2_10 (flt (show ¬ ((1 : Int32) < (1 : Int32)) from (by decide))).2.1 (by decide) (by decide) ?_
    refine own_aloadN X9.here hx hby d2_44 rfl rfl ?_
    have K12 : Keep h0 h9 [] := (((Keep.refl h0 []).ext E3).wr W9 (Or.inr (by omega)))
    obtain ⟨fs, hr, hrun, hended, hW, hsame⟩ := X9.leave (v := some (.ref b3)) (fun h => by rw [Bd.returns] at h; cases h)
    refine own_ret (t := T9.setFrames fs) ?_ ⟨_, hrun, hended, _, _, rfl, ?_, ⟨_, rfl⟩, hW, hsame.mono (by decide) (by decide)⟩
    · exact retOut X9 hx Bd.returns rfl (Or.inr (Or.inr (Or.inr (Or.inr ⟨rfl, rfl, rfl⟩)))) (hb hby d2_45) hr
    · show Q_norm_1 Z a b ka kb c0 m0 h0 n0 _ T9.heap _
      rw [e9]
      exact ⟨b3, k3, rfl, N9, K12, (by omega), V10⟩
  · intro J13
    by_cases hc22_14 : m0 = (0 : Int32)
    · refine own_ifNo X3.here hx hby d2_22 ((if0 _ _).trans (teq hc22_14).2) ?_
      refine own_dconst0 X3.here hx hby d2_25 ?_
      refine own_goto X3.here hx hby (pc' := 37) d2_26 (by decide) (by decide) ?_
      refine own_sh (T := T3) 37 #[.val (.ref a), .val (.ref b), .val (.ref b3), .val (.int 0), .val (.int m0)] [(.double FP.dconst0), (.int 0), (.ref b3)] ?_
      rw [show FP.dconst0 = (own_exp c0 m0) from (own_exp0 c0 hc22_14).symm]
      exact J13 ()
    · refine own_ifYes X3.here hx hby (pc' := 29) d2_22 ((if0 _ _).trans (feq hc22_14).2) (by decide) (by decide) ?_
      refine own_aloadN X3.here hx hby d2_29 rfl rfl ?_
      refine own_iloadN X3.here hx hby d2_30 rfl ?_
      refine own_iaload X3 hx hZ e3 f6 ⟨by decide, by decide⟩ (v := (.int c0)) rfl hby d2_31 ?_
      refine own_i2d X3.here hx hby d2_32 ?_
      refine own_iload X3.here hx hby d2_33 rfl ?_
      refine own_i2d X3.here hx hby d2_35 ?_
      refine own_ddiv X3.here hx hby d2_36 (own_nan c0 hc22_14) ?_
      refine own_sh (T := T3) 37 #[.val (.ref a), .val (.ref b), .val (.ref b3), .val (.int 0), .val (.int m0)] [(.double (FP.ddiv (FP.i2d c0) (FP.i2d m0))), (.int 0), (.ref b3)] ?_
      rw [show (FP.ddiv (FP.i2d c0) (FP.i2d m0)) = (own_exp c0 m0) from (own_exp1 c0 hc22_14).symm]
      exact J13 ()
theorem d1_21 : decode method_3_code 21 = .ok (.iload_n 0, 1) := by decide +kernel
theorem d1_22 : decode method_3_code 22 = .ok (.iconst 2, 1) := by decide +kernel
theorem d1_23 : decode method_3_code 23 = .ok (.if_icmp .ne 15, 3) := by decide +kernel
theorem d1_26 : decode method_3_code 26 = .ok (.iconst 2, 1) := by decide +kernel
theorem d1_27 : decode method_3_code 27 = .ok (.newarray .int, 2) := by decide +kernel
theorem d1_29 : decode method_3_code 29 = .ok (.dup, 1) := by decide +kernel
theorem d1_30 : decode method_3_code 30 = .ok (.iconst 0, 1) := by decide +kernel
theorem d1_31 : decode method_3_code 31 = .ok (.iload_n 1, 1) := by decide +kernel
theorem d1_32 : decode method_3_code 32 = .ok (.iastore, 1) := by decide +kernel
theorem d1_33 : decode method_3_code 33 = .ok (.dup, 1) := by decide +kernel
theorem d1_34 : decode method_3_code 34 = .ok (.iconst 1, 1) := by decide +kernel
theorem d1_35 : decode method_3_code 35 = .ok (.iload_n 2, 1) := by decide +kernel
theorem d1_36 : decode method_3_code 36 = .ok (.iastore, 1) := by decide +kernel
theorem d1_37 : decode method_3_code 37 = .ok (.areturn, 1) := by decide +kernel
def Q_take_2 (Z : State) (x0 : Int32) (x1 : Int32) (x2 : Int32) (h0 : Heap) (n0 : Nat) (vR : Option Value) (hR : Heap) (LR : List Loc) : Prop := ∃ (b : Nat) (kb : ClassId), vR = some (.ref b) ∧ Fr n0 LR ∧ Keep h0 hR [] ∧ h0.size ≤ b ∧ (Arv Z hR b kb .int (2 : Int32) [(.int x0), (.int x1)] (.int 0))
set_option maxRecDepth 65536 in
set_option maxHeartbeats 40000000 in
theorem take_2 (l : Launch) (Z : State) (a0 : Array Value) (hw : ∀ d ∈ tables_1, d.before a0 Z = true) (ws : List Jvm.Cond) (x0 : Int32) (x1 : Int32) (x2 : Int32) (h0 : Heap) (n0 : Nat) (Z0 : n0 ≤ h0.size)  :
    own_M l (⟨"com/example/rank_to_reach/ranktoreach/RetrievabilityNormalisedPinLaw", "take", "(IIII)[I"⟩ : MethodName) method_3_code 4 (some (.array .int)) ws ({ frames := 0, cells := 1, slots := 2, locals := 0 } : Room) Z #[(.int 2), (.int x0), (.int x1), (.int x2)] h0 (Q_take_2 Z x0 x1 x2 h0 n0) := by
  refine own_body (own := "com/example/rank_to_reach/ranktoreach/RetrievabilityNormalisedPinLaw") rfl (plainFor_of_name pn_1) (fun m => ef_take_0 m (2 : Int32) x0 x1 x2) ?_
  intro p e s m below meth c s₁ Bd hml hZ hh hx hby hown X0 e0
  have N0 := Fr.nil n0
  refine own_iloadN X0.here hx hby d1_0 rfl ?_
  refine own_ifYes X0.here hx hby (pc' := 8) d1_1 ((if0 _ _).trans (feq (show ¬ ((2 : Int32) = (0 : Int32)) from (by decide))).2) (by decide) (by decide) ?_
  refine own_iloadN X0.here hx hby d1_8 rfl ?_
  refine own_iconst X0.here hx hby d1_9 (v := (1 : Int32)) (by decide) ?_
  refine own_icmpYes X0.here hx hby (pc' := 21) d1_10 (feq (show ¬ ((2 : Int32) = (1 : Int32)) from (by decide))).2 (by decide) (by decide) ?_
  refine own_iloadN X0.here hx hby d1_21 rfl ?_
  refine own_iconst X0.here hx hby d1_22 (v := (2 : Int32)) (by decide) ?_
  refine own_icmpNo X0.here hx hby d1_23 (teq (show (2 : Int32) = (2 : Int32) from (by decide))).2 ?_
  refine own_iconst X0.here hx hby d1_26 (v := (2 : Int32)) (by decide) ?_
  refine own_newP X0 hx hZ (aty := .int) (own_w hw 4 rfl) e0 hby d1_27 (by decide) 2 (by decide) (by decide) (by decide) (by decide) (ad := "[I") (by decide) ?_
  intro T3 h3 k3 b3 X3 e3 E3 g3 V3 C3 lt3
  have z4 : h0.size ≤ h3.size := E3.1
  have V5 : Arv Z h3 b3 k3 .int (2 : Int32) [(.int 0), (.int 0)] (.int 0) := V3.pad (pad_rep [] (.int 0) 2)
  refine own_dup X3.here hx hby d1_29 rfl ?_
  refine own_iconst X3.here hx hby d1_30 (v := (0 : Int32)) (by decide) ?_
  refine own_iloadN X3.here hx hby d1_31 rfl ?_
  refine own_iastore X3 hx hZ e3 V5 ⟨by decide, by decide⟩ 0 (by decide) (Nat.le_of_ble_eq_true rfl) rfl hby d1_32 N0 (by omega) ?_
  intro T6 h6 lo6 X6 e6 N6 W6 V6 z6
  have V7 : Arv Z h6 b3 k3 .int (2 : Int32) [(.int x0), (.int 0)] (.int 0) := V6
  refine own_dup X6.here hx hby d1_33 rfl ?_
  refine own_iconst X6.here hx hby d1_34 (v := (1 : Int32)) (by decide) ?_
  refine own_iloadN X6.here hx hby d1_35 rfl ?_
  refine own_iastore X6 hx hZ e6 V7 ⟨by decide, by decide⟩ 1 (by decide) (Nat.le_of_ble_eq_true rfl) rfl hby d1_36 N6 (by omega) ?_
  intro T8 h8 lo8 X8 e8 N8 W8 V8 z8
  have V9 : Arv Z h8 b3 k3 .int (2 : Int32) [(.int x0), (.int x1)] (.int 0) := V8
  have K10 : Keep h0 h8 [] := ((((Keep.refl h0 []).ext E3).wr W6 (Or.inr (by omega))).wr W8 (Or.inr (by omega)))
  obtain ⟨fs, hr, hrun, hended, hW, hsame⟩ := X8.leave (v := some (.ref b3)) (fun h => by rw [Bd.returns] at h; cases h)
  refine own_ret (t := T8.setFrames fs) ?_ ⟨_, hrun, hended, _, _, rfl, ?_, ⟨_, rfl⟩, hW, hsame.mono (by decide) (by decide)⟩
  · exact retOut X8 hx Bd.returns rfl (Or.inr (Or.inr (Or.inr (Or.inr ⟨rfl, rfl, rfl⟩)))) (hb hby d1_37) hr
  · show Q_take_2 Z x0 x1 x2 h0 n0 _ T8.heap _
    rw [e8]
    exact ⟨b3, k3, rfl, N8, K10, (by omega), V9⟩
def Q_norm_2 (Z : State) (a : Nat) (b : Nat) (ka : ClassId) (kb : ClassId) (c0 : Int32) (c1 : Int32) (m0 : Int32) (m1 : Int32) (h0 : Heap) (n0 : Nat) (vR : Option Value) (hR : Heap) (LR : List Loc) : Prop := ∃ (r : Nat) (kr : ClassId), vR = some (.ref r) ∧ Fr n0 LR ∧ Keep h0 hR [] ∧ h0.size ≤ r ∧ (Arv Z hR r kr .double (2 : Int32) [(.double (own_exp c0 m0)), (.double (own_exp c1 m1))] (.double 0))
set_option maxRecDepth 65536 in
set_option maxHeartbeats 40000000 in
theorem norm_2 (l : Launch) (Z : State) (a0 : Array Value) (hw : ∀ d ∈ tables_1, d.before a0 Z = true) (ws : List Jvm.Cond) (a : Nat) (b : Nat) (ka : ClassId) (kb : ClassId) (c0 : Int32) (c1 : Int32) (m0 : Int32) (m1 : Int32) (h0 : Heap) (n0 : Nat) (Z0 : n0 ≤ h0.size) (V_a : Arv Z h0 a ka .int (2 : Int32) [(.int c0), (.int c1)] (.int 0)) (V_b : Arv Z h0 b kb .int (2 : Int32) [(.int m0), (.int m1)] (.int 0)) :
    own_M l (⟨"com/example/rank_to_reach/ranktoreach/Retrievability", "normalised", "([I[I)[D"⟩ : MethodName) prog_49_method_5_code 5 (some (.array .double)) ws ({ frames := 0, cells := 1, slots := 2, locals := 0 } : Room) Z #[(.ref a), (.ref b)] h0 (Q_norm_2 Z a b ka kb c0 c1 m0 m1 h0 n0) := by
  refine own_body (own := "com/example/rank_to_reach/ranktoreach/Retrievability") rfl (plainFor_of_name pn_2) (fun m => ef_norm_0 m a b) ?_
  intro p e s m below meth c s₁ Bd hml hZ hh hx hby hown X0 e0
  have N0 := Fr.nil n0
  have lt2 : h0.size > a := V_a.lt
  have lt3 : h0.size > b := V_b.lt
  refine own_aloadN X0.here hx hby d2_0 rfl rfl ?_
  refine own_alen X0 hx hZ e0 V_a hby d2_1 ?_
  refine own_newP X0 hx hZ (aty := .double) (own_w hw 9 rfl) e0 hby d2_2 (by decide) 2 (by decide) (by decide) (by decide) (by decide) (ad := "[D") (by decide) ?_
  intro T4 h4 k4 b4 X4 e4 E4 g4 V4 C4 lt4
  have z5 : h0.size ≤ h4.size := E4.1
  have V6 : Arv Z h4 b4 k4 .double (2 : Int32) [(.double 0), (.double 0)] (.double 0) := V4.pad (pad_rep [] (.double 0) 2)
  refine own_astoreN X4.here hx hby d2_4 rfl (l' := #[.val (.ref a), .val (.ref b), .val (.ref b4), .unset, .unset]) rfl ?_
  refine own_iconst X4.here hx hby d2_5 (v := (0 : Int32)) (by decide) ?_
  refine own_istoreN X4.here hx hby d2_6 (l' := #[.val (.ref a), .val (.ref b), .val (.ref b4), .val (.int 0), .unset]) rfl ?_
  refine own_iloadN X4.here hx hby d2_7 rfl ?_
  refine own_aloadN X4.here hx hby d2_8 rfl rfl ?_
  have f7 : Arv Z h4 a ka .int (2 : Int32) [(.int c0), (.int c1)] (.int 0) := (V_a.ext E4)
  refine own_alen X4 hx hZ e4 f7 hby d2_9 ?_
  refine own_icmpNo X4.here hx hby d2_10 (tlt (show (0 : Int32) < (2 : Int32) from (by decide))).2.1 ?_
  refine own_aloadN X4.here hx hby d2_13 rfl rfl ?_
  refine own_iloadN X4.here hx hby d2_14 rfl ?_
  have f8 : Arv Z h4 b kb .int (2 : Int32) [(.int m0), (.int m1)] (.int 0) := (V_b.ext E4)
  refine own_iaload X4 hx hZ e4 f8 ⟨by decide, by decide⟩ (v := (.int m0)) rfl hby d2_15 ?_
  refine own_istore X4.here hx hby d2_16 (l' := #[.val (.ref a), .val (.ref b), .val (.ref b4), .val (.int 0), .val (.int m0)]) rfl ?_
  refine own_aloadN X4.here hx hby d2_18 rfl rfl ?_
  refine own_iloadN X4.here hx hby d2_19 rfl ?_
  refine own_iload X4.here hx hby d2_20 rfl ?_
  refine own_sh (T := T4) 22 #[.val (.ref a), .val (.ref b), .val (.ref b4), .val (.int 0), .val (.int m0)] [(.int m0), (.int 0), (.ref b4)] ?_
  refine own_join (fun (zz9 : Unit) => T4.setTop (mkF m 37 #[.val (.ref a), .val (.ref b), .val (.ref b4), .val (.int 0), .val (.int m0)] [(.double (own_exp c0 m0)), (.int 0), (.ref b4)])) ?_ ?_
  · intro zz9
    refine own_sh (T := T4) 37 #[.val (.ref a), .val (.ref b), .val (.ref b4), .val (.int 0), .val (.int m0)] [(.double (own_exp c0 m0)), (.int 0), (.ref b4)] ?_
    refine own_dastore X4 hx hZ e4 V6 ⟨by decide, by decide⟩ 0 (by decide) (Nat.le_of_ble_eq_true rfl) rfl hby d2_37 N0 (by omega) ?_
    intro T10 h10 lo10 X10 e10 N10 W10 V10 z10
    have V11 : Arv Z h10 b4 k4 .double (2 : Int32) [(.double (own_exp c0 m0)), (.double 0)] (.double 0) := V10
    refine own_iinc X10.here hx hby d2_38 rfl (v := (1 : Int32)) (by decide) (l' := #[.val (.ref a), .val (.ref b), .val (.ref b4), .val (.int 1), .val (.int m0)]) rfl ?_
    refine own_goto X10.here hx hby (pc' := 7) d2_41 (by decide) (by decide) ?_
    refine own_iloadN X10.here hx hby d2_7 rfl ?_
    refine own_aloadN X10.here hx hby d2_8 rfl rfl ?_
    have f12 : Arv Z h10 a ka .int (2 : Int32) [(.int c0), (.int c1)] (.int 0) := (f7.other W10 (own_nn (by omega)))
    refine own_alen X10 hx hZ e10 f12 hby d2_9 ?_
    refine own_icmpNo X10.here hx hby d2_10 (tlt (show (1 : Int32) < (2 : Int32) from (by decide))).2.1 ?_
    refine own_aloadN X10.here hx hby d2_13 rfl rfl ?_
    refine own_iloadN X10.here hx hby d2_14 rfl ?_
    have f13 : Arv Z h10 b kb .int (2 : Int32) [(.int m0), (.int m1)] (.int 0) := (f8.other W10 (own_nn (by omega)))
    refine own_iaload X10 hx hZ e10 f13 ⟨by decide, by decide⟩ (v := (.int m1)) rfl hby d2_15 ?_
    refine own_istore X10.here hx hby d2_16 (l' := #[.val (.ref a), .val (.ref b), .val (.ref b4), .val (.int 1), .val (.int m1)]) rfl ?_
    refine own_aloadN X10.here hx hby d2_18 rfl rfl ?_
    refine own_iloadN X10.here hx hby d2_19 rfl ?_
    refine own_iload X10.here hx hby d2_20 rfl ?_
    refine own_sh (T := T10) 22 #[.val (.ref a), .val (.ref b), .val (.ref b4), .val (.int 1), .val (.int m1)] [(.int m1), (.int 1), (.ref b4)] ?_
    refine own_join (fun (zz14 : Unit) => T10.setTop (mkF m 37 #[.val (.ref a), .val (.ref b), .val (.ref b4), .val (.int 1), .val (.int m1)] [(.double (own_exp c1 m1)), (.int 1), (.ref b4)])) ?_ ?_
    · intro zz14
      refine own_sh (T := T10) 37 #[.val (.ref a), .val (.ref b), .val (.ref b4), .val (.int 1), .val (.int m1)] [(.double (own_exp c1 m1)), (.int 1), (.ref b4)] ?_
      refine own_dastore X10 hx hZ e10 V11 ⟨by decide, by decide⟩ 1 (by decide) (Nat.le_of_ble_eq_true rfl) rfl hby d2_37 N10 (by omega) ?_
      intro T15 h15 lo15 X15 e15 N15 W15 V15 z15
      have V16 : Arv Z h15 b4 k4 .double (2 : Int32) [(.double (own_exp c0 m0)), (.double (own_exp c1 m1))] (.double 0) := V15
      refine own_iinc X15.here hx hby d2_38 rfl (v := (2 : Int32)) (by decide) (l' := #[.val (.ref a), .val (.ref b), .val (.ref b4), .val (.int 2), .val (.int m1)]) rfl ?_
      refine own_goto X15.here hx hby (pc' := 7) d2_41 (by decide) (by decide) ?_
      refine own_iloadN X15.here hx hby d2_7 rfl ?_
      refine own_aloadN X15.here hx hby d2_8 rfl rfl ?_
      have f17 : Arv Z h15 a ka .int (2 : Int32) [(.int c0), (.int c1)] (.int 0) := (f12.other W15 (own_nn (by omega)))
      refine own_alen X15 hx hZ e15 f17 hby d2_9 ?_
      refine own_icmpYes X15.here hx hby (pc' := 44) d2_10 (flt (show ¬ ((2 : Int32) < (2 : Int32)) from (by decide))).2.1 (by decide) (by decide) ?_
      refine own_aloadN X15.here hx hby d2_44 rfl rfl ?_
      have K18 : Keep h0 h15 [] := ((((Keep.refl h0 []).ext E4).wr W10 (Or.inr (by omega))).wr W15 (Or.inr (by omega)))
      obtain ⟨fs, hr, hrun, hended, hW, hsame⟩ := X15.leave (v := some (.ref b4)) (fun h => by rw [Bd.returns] at h; cases h)
      refine own_ret (t := T15.setFrames fs) ?_ ⟨_, hrun, hended, _, _, rfl, ?_, ⟨_, rfl⟩, hW, hsame.mono (by decide) (by decide)⟩
      · exact retOut X15 hx Bd.returns rfl (Or.inr (Or.inr (Or.inr (Or.inr ⟨rfl, rfl, rfl⟩)))) (hb hby d2_45) hr
      · show Q_norm_2 Z a b ka kb c0 c1 m0 m1 h0 n0 _ T15.heap _
        rw [e15]
        exact ⟨b4, k4, rfl, N15, K18, (by omega), V16⟩
    · intro J19
      by_cases hc22_20 : m1 = (0 : Int32)
      · refine own_ifNo X10.here hx hby d2_22 ((if0 _ _).trans (teq hc22_20).2) ?_
        refine own_dconst0 X10.here hx hby d2_25 ?_
        refine own_goto X10.here hx hby (pc' := 37) d2_26 (by decide) (by decide) ?_
        refine own_sh (T := T10) 37 #[.val (.ref a), .val (.ref b), .val (.ref b4), .val (.int 1), .val (.int m1)] [(.double FP.dconst0), (.int 1), (.ref b4)] ?_
        rw [show FP.dconst0 = (own_exp c1 m1) from (own_exp0 c1 hc22_20).symm]
        exact J19 ()
      · refine own_ifYes X10.here hx hby (pc' := 29) d2_22 ((if0 _ _).trans (feq hc22_20).2) (by decide) (by decide) ?_
        refine own_aloadN X10.here hx hby d2_29 rfl rfl ?_
        refine own_iloadN X10.here hx hby d2_30 rfl ?_
        refine own_iaload X10 hx hZ e10 f12 ⟨by decide, by decide⟩ (v := (.int c1)) rfl hby d2_31 ?_
        refine own_i2d X10.here hx hby d2_32 ?_
        refine own_iload X10.here hx hby d2_33 rfl ?_
        refine own_i2d X10.here hx hby d2_35 ?_
        refine own_ddiv X10.here hx hby d2_36 (own_nan c1 hc22_20) ?_
        refine own_sh (T := T10) 37 #[.val (.ref a), .val (.ref b), .val (.ref b4), .val (.int 1), .val (.int m1)] [(.double (FP.ddiv (FP.i2d c1) (FP.i2d m1))), (.int 1), (.ref b4)] ?_
        rw [show (FP.ddiv (FP.i2d c1) (FP.i2d m1)) = (own_exp c1 m1) from (own_exp1 c1 hc22_20).symm]
        exact J19 ()
  · intro J21
    by_cases hc22_22 : m0 = (0 : Int32)
    · refine own_ifNo X4.here hx hby d2_22 ((if0 _ _).trans (teq hc22_22).2) ?_
      refine own_dconst0 X4.here hx hby d2_25 ?_
      refine own_goto X4.here hx hby (pc' := 37) d2_26 (by decide) (by decide) ?_
      refine own_sh (T := T4) 37 #[.val (.ref a), .val (.ref b), .val (.ref b4), .val (.int 0), .val (.int m0)] [(.double FP.dconst0), (.int 0), (.ref b4)] ?_
      rw [show FP.dconst0 = (own_exp c0 m0) from (own_exp0 c0 hc22_22).symm]
      exact J21 ()
    · refine own_ifYes X4.here hx hby (pc' := 29) d2_22 ((if0 _ _).trans (feq hc22_22).2) (by decide) (by decide) ?_
      refine own_aloadN X4.here hx hby d2_29 rfl rfl ?_
      refine own_iloadN X4.here hx hby d2_30 rfl ?_
      refine own_iaload X4 hx hZ e4 f7 ⟨by decide, by decide⟩ (v := (.int c0)) rfl hby d2_31 ?_
      refine own_i2d X4.here hx hby d2_32 ?_
      refine own_iload X4.here hx hby d2_33 rfl ?_
      refine own_i2d X4.here hx hby d2_35 ?_
      refine own_ddiv X4.here hx hby d2_36 (own_nan c0 hc22_22) ?_
      refine own_sh (T := T4) 37 #[.val (.ref a), .val (.ref b), .val (.ref b4), .val (.int 0), .val (.int m0)] [(.double (FP.ddiv (FP.i2d c0) (FP.i2d m0))), (.int 0), (.ref b4)] ?_
      rw [show (FP.ddiv (FP.i2d c0) (FP.i2d m0)) = (own_exp c0 m0) from (own_exp1 c0 hc22_22).symm]
      exact J21 ()
theorem d1_38 : decode method_3_code 38 = .ok (.iconst 3, 1) := by decide +kernel
theorem d1_39 : decode method_3_code 39 = .ok (.newarray .int, 2) := by decide +kernel
theorem d1_41 : decode method_3_code 41 = .ok (.dup, 1) := by decide +kernel
theorem d1_42 : decode method_3_code 42 = .ok (.iconst 0, 1) := by decide +kernel
theorem d1_43 : decode method_3_code 43 = .ok (.iload_n 1, 1) := by decide +kernel
theorem d1_44 : decode method_3_code 44 = .ok (.iastore, 1) := by decide +kernel
theorem d1_45 : decode method_3_code 45 = .ok (.dup, 1) := by decide +kernel
theorem d1_46 : decode method_3_code 46 = .ok (.iconst 1, 1) := by decide +kernel
theorem d1_47 : decode method_3_code 47 = .ok (.iload_n 2, 1) := by decide +kernel
theorem d1_48 : decode method_3_code 48 = .ok (.iastore, 1) := by decide +kernel
theorem d1_49 : decode method_3_code 49 = .ok (.dup, 1) := by decide +kernel
theorem d1_50 : decode method_3_code 50 = .ok (.iconst 2, 1) := by decide +kernel
theorem d1_51 : decode method_3_code 51 = .ok (.iload_n 3, 1) := by decide +kernel
theorem d1_52 : decode method_3_code 52 = .ok (.iastore, 1) := by decide +kernel
theorem d1_53 : decode method_3_code 53 = .ok (.areturn, 1) := by decide +kernel
def Q_take_3 (Z : State) (x0 : Int32) (x1 : Int32) (x2 : Int32) (h0 : Heap) (n0 : Nat) (vR : Option Value) (hR : Heap) (LR : List Loc) : Prop := ∃ (b : Nat) (kb : ClassId), vR = some (.ref b) ∧ Fr n0 LR ∧ Keep h0 hR [] ∧ h0.size ≤ b ∧ (Arv Z hR b kb .int (3 : Int32) [(.int x0), (.int x1), (.int x2)] (.int 0))
set_option maxRecDepth 65536 in
set_option maxHeartbeats 40000000 in
theorem take_3 (l : Launch) (Z : State) (a0 : Array Value) (hw : ∀ d ∈ tables_1, d.before a0 Z = true) (ws : List Jvm.Cond) (x0 : Int32) (x1 : Int32) (x2 : Int32) (h0 : Heap) (n0 : Nat) (Z0 : n0 ≤ h0.size)  :
    own_M l (⟨"com/example/rank_to_reach/ranktoreach/RetrievabilityNormalisedPinLaw", "take", "(IIII)[I"⟩ : MethodName) method_3_code 4 (some (.array .int)) ws ({ frames := 0, cells := 1, slots := 3, locals := 0 } : Room) Z #[(.int 3), (.int x0), (.int x1), (.int x2)] h0 (Q_take_3 Z x0 x1 x2 h0 n0) := by
  refine own_body (own := "com/example/rank_to_reach/ranktoreach/RetrievabilityNormalisedPinLaw") rfl (plainFor_of_name pn_1) (fun m => ef_take_0 m (3 : Int32) x0 x1 x2) ?_
  intro p e s m below meth c s₁ Bd hml hZ hh hx hby hown X0 e0
  have N0 := Fr.nil n0
  refine own_iloadN X0.here hx hby d1_0 rfl ?_
  refine own_ifYes X0.here hx hby (pc' := 8) d1_1 ((if0 _ _).trans (feq (show ¬ ((3 : Int32) = (0 : Int32)) from (by decide))).2) (by decide) (by decide) ?_
  refine own_iloadN X0.here hx hby d1_8 rfl ?_
  refine own_iconst X0.here hx hby d1_9 (v := (1 : Int32)) (by decide) ?_
  refine own_icmpYes X0.here hx hby (pc' := 21) d1_10 (feq (show ¬ ((3 : Int32) = (1 : Int32)) from (by decide))).2 (by decide) (by decide) ?_
  refine own_iloadN X0.here hx hby d1_21 rfl ?_
  refine own_iconst X0.here hx hby d1_22 (v := (2 : Int32)) (by decide) ?_
  refine own_icmpYes X0.here hx hby (pc' := 38) d1_23 (feq (show ¬ ((3 : Int32) = (2 : Int32)) from (by decide))).2 (by decide) (by decide) ?_
  refine own_iconst X0.here hx hby d1_38 (v := (3 : Int32)) (by decide) ?_
  refine own_newP X0 hx hZ (aty := .int) (own_w hw 4 rfl) e0 hby d1_39 (by decide) 3 (by decide) (by decide) (by decide) (by decide) (ad := "[I") (by decide) ?_
  intro T3 h3 k3 b3 X3 e3 E3 g3 V3 C3 lt3
  have z4 : h0.size ≤ h3.size := E3.1
  have V5 : Arv Z h3 b3 k3 .int (3 : Int32) [(.int 0), (.int 0), (.int 0)] (.int 0) := V3.pad (pad_rep [] (.int 0) 3)
  refine own_dup X3.here hx hby d1_41 rfl ?_
  refine own_iconst X3.here hx hby d1_42 (v := (0 : Int32)) (by decide) ?_
  refine own_iloadN X3.here hx hby d1_43 rfl ?_
  refine own_iastore X3 hx hZ e3 V5 ⟨by decide, by decide⟩ 0 (by decide) (Nat.le_of_ble_eq_true rfl) rfl hby d1_44 N0 (by omega) ?_
  intro T6 h6 lo6 X6 e6 N6 W6 V6 z6
  have V7 : Arv Z h6 b3 k3 .int (3 : Int32) [(.int x0), (.int 0), (.int 0)] (.int 0) := V6
  refine own_dup X6.here hx hby d1_45 rfl ?_
  refine own_iconst X6.here hx hby d1_46 (v := (1 : Int32)) (by decide) ?_
  refine own_iloadN X6.here hx hby d1_47 rfl ?_
  refine own_iastore X6 hx hZ e6 V7 ⟨by decide, by decide⟩ 1 (by decide) (Nat.le_of_ble_eq_true rfl) rfl hby d1_48 N6 (by omega) ?_
  intro T8 h8 lo8 X8 e8 N8 W8 V8 z8
  have V9 : Arv Z h8 b3 k3 .int (3 : Int32) [(.int x0), (.int x1), (.int 0)] (.int 0) := V8
  refine own_dup X8.here hx hby d1_49 rfl ?_
  refine own_iconst X8.here hx hby d1_50 (v := (2 : Int32)) (by decide) ?_
  refine own_iloadN X8.here hx hby d1_51 rfl ?_
  refine own_iastore X8 hx hZ e8 V9 ⟨by decide, by decide⟩ 2 (by decide) (Nat.le_of_ble_eq_true rfl) rfl hby d1_52 N8 (by omega) ?_
  intro T10 h10 lo10 X10 e10 N10 W10 V10 z10
  have V11 : Arv Z h10 b3 k3 .int (3 : Int32) [(.int x0), (.int x1), (.int x2)] (.int 0) := V10
  have K12 : Keep h0 h10 [] := (((((Keep.refl h0 []).ext E3).wr W6 (Or.inr (by omega))).wr W8 (Or.inr (by omega))).wr W10 (Or.inr (by omega)))
  obtain ⟨fs, hr, hrun, hended, hW, hsame⟩ := X10.leave (v := some (.ref b3)) (fun h => by rw [Bd.returns] at h; cases h)
  refine own_ret (t := T10.setFrames fs) ?_ ⟨_, hrun, hended, _, _, rfl, ?_, ⟨_, rfl⟩, hW, hsame.mono (by decide) (by decide)⟩
  · exact retOut X10 hx Bd.returns rfl (Or.inr (Or.inr (Or.inr (Or.inr ⟨rfl, rfl, rfl⟩)))) (hb hby d1_53) hr
  · show Q_take_3 Z x0 x1 x2 h0 n0 _ T10.heap _
    rw [e10]
    exact ⟨b3, k3, rfl, N10, K12, (by omega), V11⟩
def Q_norm_3 (Z : State) (a : Nat) (b : Nat) (ka : ClassId) (kb : ClassId) (c0 : Int32) (c1 : Int32) (c2 : Int32) (m0 : Int32) (m1 : Int32) (m2 : Int32) (h0 : Heap) (n0 : Nat) (vR : Option Value) (hR : Heap) (LR : List Loc) : Prop := ∃ (r : Nat) (kr : ClassId), vR = some (.ref r) ∧ Fr n0 LR ∧ Keep h0 hR [] ∧ h0.size ≤ r ∧ (Arv Z hR r kr .double (3 : Int32) [(.double (own_exp c0 m0)), (.double (own_exp c1 m1)), (.double (own_exp c2 m2))] (.double 0))
set_option maxRecDepth 65536 in
set_option maxHeartbeats 40000000 in
theorem norm_3 (l : Launch) (Z : State) (a0 : Array Value) (hw : ∀ d ∈ tables_1, d.before a0 Z = true) (ws : List Jvm.Cond) (a : Nat) (b : Nat) (ka : ClassId) (kb : ClassId) (c0 : Int32) (c1 : Int32) (c2 : Int32) (m0 : Int32) (m1 : Int32) (m2 : Int32) (h0 : Heap) (n0 : Nat) (Z0 : n0 ≤ h0.size) (V_a : Arv Z h0 a ka .int (3 : Int32) [(.int c0), (.int c1), (.int c2)] (.int 0)) (V_b : Arv Z h0 b kb .int (3 : Int32) [(.int m0), (.int m1), (.int m2)] (.int 0)) :
    own_M l (⟨"com/example/rank_to_reach/ranktoreach/Retrievability", "normalised", "([I[I)[D"⟩ : MethodName) prog_49_method_5_code 5 (some (.array .double)) ws ({ frames := 0, cells := 1, slots := 3, locals := 0 } : Room) Z #[(.ref a), (.ref b)] h0 (Q_norm_3 Z a b ka kb c0 c1 c2 m0 m1 m2 h0 n0) := by
  refine own_body (own := "com/example/rank_to_reach/ranktoreach/Retrievability") rfl (plainFor_of_name pn_2) (fun m => ef_norm_0 m a b) ?_
  intro p e s m below meth c s₁ Bd hml hZ hh hx hby hown X0 e0
  have N0 := Fr.nil n0
  have lt3 : h0.size > a := V_a.lt
  have lt4 : h0.size > b := V_b.lt
  refine own_aloadN X0.here hx hby d2_0 rfl rfl ?_
  refine own_alen X0 hx hZ e0 V_a hby d2_1 ?_
  refine own_newP X0 hx hZ (aty := .double) (own_w hw 9 rfl) e0 hby d2_2 (by decide) 3 (by decide) (by decide) (by decide) (by decide) (ad := "[D") (by decide) ?_
  intro T5 h5 k5 b5 X5 e5 E5 g5 V5 C5 lt5
  have z6 : h0.size ≤ h5.size := E5.1
  have V7 : Arv Z h5 b5 k5 .double (3 : Int32) [(.double 0), (.double 0), (.double 0)] (.double 0) := V5.pad (pad_rep [] (.double 0) 3)
  refine own_astoreN X5.here hx hby d2_4 rfl (l' := #[.val (.ref a), .val (.ref b), .val (.ref b5), .unset, .unset]) rfl ?_
  refine own_iconst X5.here hx hby d2_5 (v := (0 : Int32)) (by decide) ?_
  refine own_istoreN X5.here hx hby d2_6 (l' := #[.val (.ref a), .val (.ref b), .val (.ref b5), .val (.int 0), .unset]) rfl ?_
  refine own_iloadN X5.here hx hby d2_7 rfl ?_
  refine own_aloadN X5.here hx hby d2_8 rfl rfl ?_
  have f8 : Arv Z h5 a ka .int (3 : Int32) [(.int c0), (.int c1), (.int c2)] (.int 0) := (V_a.ext E5)
  refine own_alen X5 hx hZ e5 f8 hby d2_9 ?_
  refine own_icmpNo X5.here hx hby d2_10 (tlt (show (0 : Int32) < (3 : Int32) from (by decide))).2.1 ?_
  refine own_aloadN X5.here hx hby d2_13 rfl rfl ?_
  refine own_iloadN X5.here hx hby d2_14 rfl ?_
  have f9 : Arv Z h5 b kb .int (3 : Int32) [(.int m0), (.int m1), (.int m2)] (.int 0) := (V_b.ext E5)
  refine own_iaload X5 hx hZ e5 f9 ⟨by decide, by decide⟩ (v := (.int m0)) rfl hby d2_15 ?_
  refine own_istore X5.here hx hby d2_16 (l' := #[.val (.ref a), .val (.ref b), .val (.ref b5), .val (.int 0), .val (.int m0)]) rfl ?_
  refine own_aloadN X5.here hx hby d2_18 rfl rfl ?_
  refine own_iloadN X5.here hx hby d2_19 rfl ?_
  refine own_iload X5.here hx hby d2_20 rfl ?_
  refine own_sh (T := T5) 22 #[.val (.ref a), .val (.ref b), .val (.ref b5), .val (.int 0), .val (.int m0)] [(.int m0), (.int 0), (.ref b5)] ?_
  refine own_join (fun (zz10 : Unit) => T5.setTop (mkF m 37 #[.val (.ref a), .val (.ref b), .val (.ref b5), .val (.int 0), .val (.int m0)] [(.double (own_exp c0 m0)), (.int 0), (.ref b5)])) ?_ ?_
  · intro zz10
    refine own_sh (T := T5) 37 #[.val (.ref a), .val (.ref b), .val (.ref b5), .val (.int 0), .val (.int m0)] [(.double (own_exp c0 m0)), (.int 0), (.ref b5)] ?_
    refine own_dastore X5 hx hZ e5 V7 ⟨by decide, by decide⟩ 0 (by decide) (Nat.le_of_ble_eq_true rfl) rfl hby d2_37 N0 (by omega) ?_
    intro T11 h11 lo11 X11 e11 N11 W11 V11 z11
    have V12 : Arv Z h11 b5 k5 .double (3 : Int32) [(.double (own_exp c0 m0)), (.double 0), (.double 0)] (.double 0) := V11
    refine own_iinc X11.here hx hby d2_38 rfl (v := (1 : Int32)) (by decide) (l' := #[.val (.ref a), .val (.ref b), .val (.ref b5), .val (.int 1), .val (.int m0)]) rfl ?_
    refine own_goto X11.here hx hby (pc' := 7) d2_41 (by decide) (by decide) ?_
    refine own_iloadN X11.here hx hby d2_7 rfl ?_
    refine own_aloadN X11.here hx hby d2_8 rfl rfl ?_
    have f13 : Arv Z h11 a ka .int (3 : Int32) [(.int c0), (.int c1), (.int c2)] (.int 0) := (f8.other W11 (own_nn (by omega)))
    refine own_alen X11 hx hZ e11 f13 hby d2_9 ?_
    refine own_icmpNo X11.here hx hby d2_10 (tlt (show (1 : Int32) < (3 : Int32) from (by decide))).2.1 ?_
    refine own_aloadN X11.here hx hby d2_13 rfl rfl ?_
    refine own_iloadN X11.here hx hby d2_14 rfl ?_
    have f14 : Arv Z h11 b kb .int (3 : Int32) [(.int m0), (.int m1), (.int m2)] (.int 0) := (f9.other W11 (own_nn (by omega)))
    refine own_iaload X11 hx hZ e11 f14 ⟨by decide, by decide⟩ (v := (.int m1)) rfl hby d2_15 ?_
    refine own_istore X11.here hx hby d2_16 (l' := #[.val (.ref a), .val (.ref b), .val (.ref b5), .val (.int 1), .val (.int m1)]) rfl ?_
    refine own_aloadN X11.here hx hby d2_18 rfl rfl ?_
    refine own_iloadN X11.here hx hby d2_19 rfl ?_
    refine own_iload X11.here hx hby d2_20 rfl ?_
    refine own_sh (T := T11) 22 #[.val (.ref a), .val (.ref b), .val (.ref b5), .val (.int 1), .val (.int m1)] [(.int m1), (.int 1), (.ref b5)] ?_
    refine own_join (fun (zz15 : Unit) => T11.setTop (mkF m 37 #[.val (.ref a), .val (.ref b), .val (.ref b5), .val (.int 1), .val (.int m1)] [(.double (own_exp c1 m1)), (.int 1), (.ref b5)])) ?_ ?_
    · intro zz15
      refine own_sh (T := T11) 37 #[.val (.ref a), .val (.ref b), .val (.ref b5), .val (.int 1), .val (.int m1)] [(.double (own_exp c1 m1)), (.int 1), (.ref b5)] ?_
      refine own_dastore X11 hx hZ e11 V12 ⟨by decide, by decide⟩ 1 (by decide) (Nat.le_of_ble_eq_true rfl) rfl hby d2_37 N11 (by omega) ?_
      intro T16 h16 lo16 X16 e16 N16 W16 V16 z16
      have V17 : Arv Z h16 b5 k5 .double (3 : Int32) [(.double (own_exp c0 m0)), (.double (own_exp c1 m1)), (.double 0)] (.double 0) := V16
      refine own_iinc X16.here hx hby d2_38 rfl (v := (2 : Int32)) (by decide) (l' := #[.val (.ref a), .val (.ref b), .val (.ref b5), .val (.int 2), .val (.int m1)]) rfl ?_
      refine own_goto X16.here hx hby (pc' := 7) d2_41 (by decide) (by decide) ?_
      refine own_iloadN X16.here hx hby d2_7 rfl ?_
      refine own_aloadN X16.here hx hby d2_8 rfl rfl ?_
      have f18 : Arv Z h16 a ka .int (3 : Int32) [(.int c0), (.int c1), (.int c2)] (.int 0) := (f13.other W16 (own_nn (by omega)))
      refine own_alen X16 hx hZ e16 f18 hby d2_9 ?_
      refine own_icmpNo X16.here hx hby d2_10 (tlt (show (2 : Int32) < (3 : Int32) from (by decide))).2.1 ?_
      refine own_aloadN X16.here hx hby d2_13 rfl rfl ?_
      refine own_iloadN X16.here hx hby d2_14 rfl ?_
      have f19 : Arv Z h16 b kb .int (3 : Int32) [(.int m0), (.int m1), (.int m2)] (.int 0) := (f14.other W16 (own_nn (by omega)))
      refine own_iaload X16 hx hZ e16 f19 ⟨by decide, by decide⟩ (v := (.int m2)) rfl hby d2_15 ?_
      refine own_istore X16.here hx hby d2_16 (l' := #[.val (.ref a), .val (.ref b), .val (.ref b5), .val (.int 2), .val (.int m2)]) rfl ?_
      refine own_aloadN X16.here hx hby d2_18 rfl rfl ?_
      refine own_iloadN X16.here hx hby d2_19 rfl ?_
      refine own_iload X16.here hx hby d2_20 rfl ?_
      refine own_sh (T := T16) 22 #[.val (.ref a), .val (.ref b), .val (.ref b5), .val (.int 2), .val (.int m2)] [(.int m2), (.int 2), (.ref b5)] ?_
      refine own_join (fun (zz20 : Unit) => T16.setTop (mkF m 37 #[.val (.ref a), .val (.ref b), .val (.ref b5), .val (.int 2), .val (.int m2)] [(.double (own_exp c2 m2)), (.int 2), (.ref b5)])) ?_ ?_
      · intro zz20
        refine own_sh (T := T16) 37 #[.val (.ref a), .val (.ref b), .val (.ref b5), .val (.int 2), .val (.int m2)] [(.double (own_exp c2 m2)), (.int 2), (.ref b5)] ?_
        refine own_dastore X16 hx hZ e16 V17 ⟨by decide, by decide⟩ 2 (by decide) (Nat.le_of_ble_eq_true rfl) rfl hby d2_37 N16 (by omega) ?_
        intro T21 h21 lo21 X21 e21 N21 W21 V21 z21
        have V22 : Arv Z h21 b5 k5 .double (3 : Int32) [(.double (own_exp c0 m0)), (.double (own_exp c1 m1)), (.double (own_exp c2 m2))] (.double 0) := V21
        refine own_iinc X21.here hx hby d2_38 rfl (v := (3 : Int32)) (by decide) (l' := #[.val (.ref a), .val (.ref b), .val (.ref b5), .val (.int 3), .val (.int m2)]) rfl ?_
        refine own_goto X21.here hx hby (pc' := 7) d2_41 (by decide) (by decide) ?_
        refine own_iloadN X21.here hx hby d2_7 rfl ?_
        refine own_aloadN X21.here hx hby d2_8 rfl rfl ?_
        have f23 : Arv Z h21 a ka .int (3 : Int32) [(.int c0), (.int c1), (.int c2)] (.int 0) := (f18.other W21 (own_nn (by omega)))
        refine own_alen X21 hx hZ e21 f23 hby d2_9 ?_
        refine own_icmpYes X21.here hx hby (pc' := 44) d2_10 (flt (show ¬ ((3 : Int32) < (3 : Int32)) from (by decide))).2.1 (by decide) (by decide) ?_
        refine own_aloadN X21.here hx hby d2_44 rfl rfl ?_
        have K24 : Keep h0 h21 [] := (((((Keep.refl h0 []).ext E5).wr W11 (Or.inr (by omega))).wr W16 (Or.inr (by omega))).wr W21 (Or.inr (by omega)))
        obtain ⟨fs, hr, hrun, hended, hW, hsame⟩ := X21.leave (v := some (.ref b5)) (fun h => by rw [Bd.returns] at h; cases h)
        refine own_ret (t := T21.setFrames fs) ?_ ⟨_, hrun, hended, _, _, rfl, ?_, ⟨_, rfl⟩, hW, hsame.mono (by decide) (by decide)⟩
        · exact retOut X21 hx Bd.returns rfl (Or.inr (Or.inr (Or.inr (Or.inr ⟨rfl, rfl, rfl⟩)))) (hb hby d2_45) hr
        · show Q_norm_3 Z a b ka kb c0 c1 c2 m0 m1 m2 h0 n0 _ T21.heap _
          rw [e21]
          exact ⟨b5, k5, rfl, N21, K24, (by omega), V22⟩
      · intro J25
        by_cases hc22_26 : m2 = (0 : Int32)
        · refine own_ifNo X16.here hx hby d2_22 ((if0 _ _).trans (teq hc22_26).2) ?_
          refine own_dconst0 X16.here hx hby d2_25 ?_
          refine own_goto X16.here hx hby (pc' := 37) d2_26 (by decide) (by decide) ?_
          refine own_sh (T := T16) 37 #[.val (.ref a), .val (.ref b), .val (.ref b5), .val (.int 2), .val (.int m2)] [(.double FP.dconst0), (.int 2), (.ref b5)] ?_
          rw [show FP.dconst0 = (own_exp c2 m2) from (own_exp0 c2 hc22_26).symm]
          exact J25 ()
        · refine own_ifYes X16.here hx hby (pc' := 29) d2_22 ((if0 _ _).trans (feq hc22_26).2) (by decide) (by decide) ?_
          refine own_aloadN X16.here hx hby d2_29 rfl rfl ?_
          refine own_iloadN X16.here hx hby d2_30 rfl ?_
          refine own_iaload X16 hx hZ e16 f18 ⟨by decide, by decide⟩ (v := (.int c2)) rfl hby d2_31 ?_
          refine own_i2d X16.here hx hby d2_32 ?_
          refine own_iload X16.here hx hby d2_33 rfl ?_
          refine own_i2d X16.here hx hby d2_35 ?_
          refine own_ddiv X16.here hx hby d2_36 (own_nan c2 hc22_26) ?_
          refine own_sh (T := T16) 37 #[.val (.ref a), .val (.ref b), .val (.ref b5), .val (.int 2), .val (.int m2)] [(.double (FP.ddiv (FP.i2d c2) (FP.i2d m2))), (.int 2), (.ref b5)] ?_
          rw [show (FP.ddiv (FP.i2d c2) (FP.i2d m2)) = (own_exp c2 m2) from (own_exp1 c2 hc22_26).symm]
          exact J25 ()
    · intro J27
      by_cases hc22_28 : m1 = (0 : Int32)
      · refine own_ifNo X11.here hx hby d2_22 ((if0 _ _).trans (teq hc22_28).2) ?_
        refine own_dconst0 X11.here hx hby d2_25 ?_
        refine own_goto X11.here hx hby (pc' := 37) d2_26 (by decide) (by decide) ?_
        refine own_sh (T := T11) 37 #[.val (.ref a), .val (.ref b), .val (.ref b5), .val (.int 1), .val (.int m1)] [(.double FP.dconst0), (.int 1), (.ref b5)] ?_
        rw [show FP.dconst0 = (own_exp c1 m1) from (own_exp0 c1 hc22_28).symm]
        exact J27 ()
      · refine own_ifYes X11.here hx hby (pc' := 29) d2_22 ((if0 _ _).trans (feq hc22_28).2) (by decide) (by decide) ?_
        refine own_aloadN X11.here hx hby d2_29 rfl rfl ?_
        refine own_iloadN X11.here hx hby d2_30 rfl ?_
        refine own_iaload X11 hx hZ e11 f13 ⟨by decide, by decide⟩ (v := (.int c1)) rfl hby d2_31 ?_
        refine own_i2d X11.here hx hby d2_32 ?_
        refine own_iload X11.here hx hby d2_33 rfl ?_
        refine own_i2d X11.here hx hby d2_35 ?_
        refine own_ddiv X11.here hx hby d2_36 (own_nan c1 hc22_28) ?_
        refine own_sh (T := T11) 37 #[.val (.ref a), .val (.ref b), .val (.ref b5), .val (.int 1), .val (.int m1)] [(.double (FP.ddiv (FP.i2d c1) (FP.i2d m1))), (.int 1), (.ref b5)] ?_
        rw [show (FP.ddiv (FP.i2d c1) (FP.i2d m1)) = (own_exp c1 m1) from (own_exp1 c1 hc22_28).symm]
        exact J27 ()
  · intro J29
    by_cases hc22_30 : m0 = (0 : Int32)
    · refine own_ifNo X5.here hx hby d2_22 ((if0 _ _).trans (teq hc22_30).2) ?_
      refine own_dconst0 X5.here hx hby d2_25 ?_
      refine own_goto X5.here hx hby (pc' := 37) d2_26 (by decide) (by decide) ?_
      refine own_sh (T := T5) 37 #[.val (.ref a), .val (.ref b), .val (.ref b5), .val (.int 0), .val (.int m0)] [(.double FP.dconst0), (.int 0), (.ref b5)] ?_
      rw [show FP.dconst0 = (own_exp c0 m0) from (own_exp0 c0 hc22_30).symm]
      exact J29 ()
    · refine own_ifYes X5.here hx hby (pc' := 29) d2_22 ((if0 _ _).trans (feq hc22_30).2) (by decide) (by decide) ?_
      refine own_aloadN X5.here hx hby d2_29 rfl rfl ?_
      refine own_iloadN X5.here hx hby d2_30 rfl ?_
      refine own_iaload X5 hx hZ e5 f8 ⟨by decide, by decide⟩ (v := (.int c0)) rfl hby d2_31 ?_
      refine own_i2d X5.here hx hby d2_32 ?_
      refine own_iload X5.here hx hby d2_33 rfl ?_
      refine own_i2d X5.here hx hby d2_35 ?_
      refine own_ddiv X5.here hx hby d2_36 (own_nan c0 hc22_30) ?_
      refine own_sh (T := T5) 37 #[.val (.ref a), .val (.ref b), .val (.ref b5), .val (.int 0), .val (.int m0)] [(.double (FP.ddiv (FP.i2d c0) (FP.i2d m0))), (.int 0), (.ref b5)] ?_
      rw [show (FP.ddiv (FP.i2d c0) (FP.i2d m0)) = (own_exp c0 m0) from (own_exp1 c0 hc22_30).symm]
      exact J29 ()
theorem ef_rm0 (m : MethodId) (x0 : Int32) (x1 : Int32) (x2 : Int32) (x3 : Int32) (x4 : Int64) (x5 : Int32) : entryFrame m #[(.int x0), (.int x1), (.int x2), (.int x3), (.long x4), (.int x5)] maxLocals = mkF m 0 #[.val (.int x0), .val (.int x1), .val (.int x2), .val (.int x3), .val (.long x4), .second, .val (.int x5), .unset, .unset, .unset, .unset, .unset, .unset, .unset] [] := by first | (simp [entryFrame, mkF, argsToLocals, Value.category, maxLocals]; done) | rfl
theorem pn_0 : plainName "com/example/rank_to_reach/ranktoreach/RetrievabilityNormalisedPinLaw" = true := by first | (simp [plainName, overriddenIn]; done) | decide +kernel
theorem pd_0 : parseMethodDescriptor "(IIII)[I" = some ⟨[.int, .int, .int, .int], some (.array .int)⟩ := by decide +kernel
theorem pd_1 : parseMethodDescriptor "([I[I)[D" = some ⟨[(.array .int), (.array .int)], some (.array .double)⟩ := by decide +kernel
theorem pd_2 : parseMethodDescriptor "(II)D" = some ⟨[.int, .int], some .double⟩ := by decide +kernel
def Q_rm0 (Z : State) (p1 : Int32) (p2 : Int32) (p3 : Int32) (p4 : Int32) (q5 : Int64) (p6 : Int32) (h0 : Heap) (n0 : Nat) (vR : Option Value) (hR : Heap) (LR : List Loc) : Prop := vR = some (.int 1) ∧ Fr n0 LR ∧ True
set_option maxRecDepth 65536 in
set_option maxHeartbeats 40000000 in
theorem rm0 (l : Launch) (Z : State) (a0 : Array Value) (hw : ∀ d ∈ tables_1, d.before a0 Z = true) (ws : List Jvm.Cond) (p1 : Int32) (p2 : Int32) (p3 : Int32) (p4 : Int32) (q5 : Int64) (p6 : Int32) (h0 : Heap) (n0 : Nat) (Z0 : n0 ≤ h0.size)  :
    own_M l x code maxLocals ret ws room_1 Z #[(.int p1), (.int p2), (.int p3), (.int p4), (.long q5), (.int p6)] h0 (Q_rm0 Z p1 p2 p3 p4 q5 p6 h0 n0) := by
  refine own_body (own := "com/example/rank_to_reach/ranktoreach/RetrievabilityNormalisedPinLaw") rfl (plainFor_of_name pn_0) (fun m => ef_rm0 m p1 p2 p3 p4 q5 p6) ?_
  intro p e s m below meth c s₁ Bd hml hZ hh hx hby hown X0 e0
  have N0 := Fr.nil n0
  refine own_iload X0.here hx hby at_0 rfl ?_
  refine own_iconst X0.here hx hby at_2 (v := (3 : Int32)) (by decide) ?_
  refine own_iand X0.here hx hby at_3 rfl ?_
  refine own_sh (T := s₁) 4 #[.val (.int p1), .val (.int p2), .val (.int p3), .val (.int p4), .val (.long q5), .second, .val (.int p6), .unset, .unset, .unset, .unset, .unset, .unset, .unset] [(.int (p6 &&& (3 : Int32)))] ?_
  rcases own_and3 p6 with hk | hk | hk | hk
  · rw [hk]
    refine own_istore X0.here hx hby at_4 (l' := #[.val (.int p1), .val (.int p2), .val (.int p3), .val (.int p4), .val (.long q5), .second, .val (.int p6), .val (.int 0), .unset, .unset, .unset, .unset, .unset, .unset]) rfl ?_
    refine own_lload X0.here hx hby at_6 rfl ?_
    refine own_bipush X0.here hx hby at_8 (v := (32 : Int32)) (by decide) ?_
    refine own_lshr X0.here hx hby at_10 rfl ?_
    refine own_l2i X0.here hx hby at_11 rfl ?_
    refine own_istore X0.here hx hby at_12 (l' := #[.val (.int p1), .val (.int p2), .val (.int p3), .val (.int p4), .val (.long q5), .second, .val (.int p6), .val (.int 0), .val (.int ((q5 >>> ((32 : Int32) &&& 0x3f).toInt64).toInt32)), .unset, .unset, .unset, .unset, .unset]) rfl ?_
    refine own_lload X0.here hx hby at_14 rfl ?_
    refine own_l2i X0.here hx hby at_16 rfl ?_
    refine own_istore X0.here hx hby at_17 (l' := #[.val (.int p1), .val (.int p2), .val (.int p3), .val (.int p4), .val (.long q5), .second, .val (.int p6), .val (.int 0), .val (.int ((q5 >>> ((32 : Int32) &&& 0x3f).toInt64).toInt32)), .val (.int (q5.toInt32)), .unset, .unset, .unset, .unset]) rfl ?_
    refine own_sh (T := s₁) 19 #[.val (.int p1), .val (.int p2), .val (.int p3), .val (.int p4), .val (.long q5), .second, .val (.int p6), .val (.int 0), .val (.int ((q5 >>> ((32 : Int32) &&& 0x3f).toInt64).toInt32)), .val (.int (q5.toInt32)), .unset, .unset, .unset, .unset] [] ?_
    refine own_join (fun (m0 : Int32) => s₁.setTop (mkF m 28 #[.val (.int p1), .val (.int m0), .val (.int p3), .val (.int p4), .val (.long q5), .second, .val (.int p6), .val (.int 0), .val (.int ((q5 >>> ((32 : Int32) &&& 0x3f).toInt64).toInt32)), .val (.int (q5.toInt32)), .unset, .unset, .unset, .unset] [])) ?_ ?_
    · intro m0
      refine own_sh (T := s₁) 28 #[.val (.int p1), .val (.int m0), .val (.int p3), .val (.int p4), .val (.long q5), .second, .val (.int p6), .val (.int 0), .val (.int ((q5 >>> ((32 : Int32) &&& 0x3f).toInt64).toInt32)), .val (.int (q5.toInt32)), .unset, .unset, .unset, .unset] [] ?_
      refine own_join (fun (m1 : Int32) => s₁.setTop (mkF m 38 #[.val (.int p1), .val (.int m0), .val (.int p3), .val (.int m1), .val (.long q5), .second, .val (.int p6), .val (.int 0), .val (.int ((q5 >>> ((32 : Int32) &&& 0x3f).toInt64).toInt32)), .val (.int (q5.toInt32)), .unset, .unset, .unset, .unset] [])) ?_ ?_
      · intro m1
        refine own_sh (T := s₁) 38 #[.val (.int p1), .val (.int m0), .val (.int p3), .val (.int m1), .val (.long q5), .second, .val (.int p6), .val (.int 0), .val (.int ((q5 >>> ((32 : Int32) &&& 0x3f).toInt64).toInt32)), .val (.int (q5.toInt32)), .unset, .unset, .unset, .unset] [] ?_
        refine own_join (fun (m2 : Int32) => s₁.setTop (mkF m 49 #[.val (.int p1), .val (.int m0), .val (.int p3), .val (.int m1), .val (.long q5), .second, .val (.int p6), .val (.int 0), .val (.int ((q5 >>> ((32 : Int32) &&& 0x3f).toInt64).toInt32)), .val (.int m2), .unset, .unset, .unset, .unset] [])) ?_ ?_
        · intro m2
          refine own_sh (T := s₁) 49 #[.val (.int p1), .val (.int m0), .val (.int p3), .val (.int m1), .val (.long q5), .second, .val (.int p6), .val (.int 0), .val (.int ((q5 >>> ((32 : Int32) &&& 0x3f).toInt64).toInt32)), .val (.int m2), .unset, .unset, .unset, .unset] [] ?_
          refine own_iload X0.here hx hby at_49 rfl ?_
          refine own_iloadN X0.here hx hby at_51 rfl ?_
          refine own_iloadN X0.here hx hby at_52 rfl ?_
          refine own_iload X0.here hx hby at_53 rfl ?_
          refine own_callS X0 hx hZ hown (own_w hw 0 rfl) (own_w hw 1 rfl) (own_w hw 2 rfl) (own_w hw 3 rfl) (by decide) (take_0 l Z a0 hw [] p1 p3 ((q5 >>> ((32 : Int32) &&& 0x3f).toInt64).toInt32) h0 n0 Z0 ) 0 (Nat.le_of_eq rfl) (by decide) (by decide) (by rw [hml]; rfl) (argsL := [(.int 0), (.int p1), (.int p3), (.int ((q5 >>> ((32 : Int32) &&& 0x3f).toInt64).toInt32))]) (st := []) (lenOf pd_0 rfl) rfl rfl (by decide) (by decide) e0 hby at_55 ?_
          intro T7 v7 L7 X7 hQ7
          obtain ⟨b_7, kb_7, rfl, Nq7, K7, P7_0, P7_1⟩ := hQ7
          have N7 := Fr.app N0 Nq7
          have z8 : h0.size ≤ T7.heap.size := K7.1
          have lt9 : T7.heap.size > b_7 := P7_1.lt
          refine own_sh (T := T7) 58 #[.val (.int p1), .val (.int m0), .val (.int p3), .val (.int m1), .val (.long q5), .second, .val (.int p6), .val (.int 0), .val (.int ((q5 >>> ((32 : Int32) &&& 0x3f).toInt64).toInt32)), .val (.int m2), .unset, .unset, .unset, .unset] [(.ref b_7)] ?_
          refine own_astore X7.here hx hby at_58 rfl (l' := #[.val (.int p1), .val (.int m0), .val (.int p3), .val (.int m1), .val (.long q5), .second, .val (.int p6), .val (.int 0), .val (.int ((q5 >>> ((32 : Int32) &&& 0x3f).toInt64).toInt32)), .val (.int m2), .val (.ref b_7), .unset, .unset, .unset]) rfl ?_
          refine own_iload X7.here hx hby at_60 rfl ?_
          refine own_iloadN X7.here hx hby at_62 rfl ?_
          refine own_iloadN X7.here hx hby at_63 rfl ?_
          refine own_iload X7.here hx hby at_64 rfl ?_
          have z11 : n0 ≤ T7.heap.size := by omega
          refine own_callS X7 hx hZ hown (own_w hw 0 rfl) (own_w hw 1 rfl) (own_w hw 2 rfl) (own_w hw 3 rfl) (by decide) (take_0 l Z a0 hw [] m0 m1 m2 T7.heap n0 z11 ) 0 (Nat.le_of_eq rfl) (by decide) (by decide) (by rw [hml]; rfl) (argsL := [(.int 0), (.int m0), (.int m1), (.int m2)]) (st := []) (lenOf pd_0 rfl) rfl rfl (by decide) (by decide) rfl hby at_66 ?_
          intro T10 v10 L10 X10 hQ10
          obtain ⟨b_10, kb_10, rfl, Nq10, K10, P10_0, P10_1⟩ := hQ10
          have N10 := Fr.app N7 Nq10
          have z12 : T7.heap.size ≤ T10.heap.size := K10.1
          have lt13 : T10.heap.size > b_10 := P10_1.lt
          refine own_sh (T := T10) 69 #[.val (.int p1), .val (.int m0), .val (.int p3), .val (.int m1), .val (.long q5), .second, .val (.int p6), .val (.int 0), .val (.int ((q5 >>> ((32 : Int32) &&& 0x3f).toInt64).toInt32)), .val (.int m2), .val (.ref b_7), .unset, .unset, .unset] [(.ref b_10)] ?_
          refine own_astore X10.here hx hby at_69 rfl (l' := #[.val (.int p1), .val (.int m0), .val (.int p3), .val (.int m1), .val (.long q5), .second, .val (.int p6), .val (.int 0), .val (.int ((q5 >>> ((32 : Int32) &&& 0x3f).toInt64).toInt32)), .val (.int m2), .val (.ref b_7), .val (.ref b_10), .unset, .unset]) rfl ?_
          refine own_aload X10.here hx hby at_71 rfl rfl ?_
          refine own_aload X10.here hx hby at_73 rfl rfl ?_
          have f14 : Arv Z T10.heap b_7 kb_7 .int (0 : Int32) [] (.int 0) := (P7_1.keep K10 nin0)
          have z16 : n0 ≤ T10.heap.size := by omega
          refine own_callS X10 hx hZ hown (own_w hw 5 rfl) (own_w hw 6 rfl) (own_w hw 7 rfl) (own_w hw 8 rfl) (by decide) (norm_0 l Z a0 hw [] b_7 b_10 kb_7 kb_10 T10.heap n0 z16 f14 P10_1) 0 (Nat.le_of_eq rfl) (by decide) (by decide) (by rw [hml]; rfl) (argsL := [(.ref b_7), (.ref b_10)]) (st := []) (lenOf pd_1 rfl) rfl rfl (by decide) (by decide) rfl hby at_75 ?_
          intro T15 v15 L15 X15 hQ15
          obtain ⟨r_15, kr_15, rfl, Nq15, K15, P15_0, P15_1⟩ := hQ15
          have N15 := Fr.app N10 Nq15
          have z17 : T10.heap.size ≤ T15.heap.size := K15.1
          have lt18 : T15.heap.size > r_15 := P15_1.lt
          refine own_sh (T := T15) 78 #[.val (.int p1), .val (.int m0), .val (.int p3), .val (.int m1), .val (.long q5), .second, .val (.int p6), .val (.int 0), .val (.int ((q5 >>> ((32 : Int32) &&& 0x3f).toInt64).toInt32)), .val (.int m2), .val (.ref b_7), .val (.ref b_10), .unset, .unset] [(.ref r_15)] ?_
          refine own_astore X15.here hx hby at_78 rfl (l' := #[.val (.int p1), .val (.int m0), .val (.int p3), .val (.int m1), .val (.long q5), .second, .val (.int p6), .val (.int 0), .val (.int ((q5 >>> ((32 : Int32) &&& 0x3f).toInt64).toInt32)), .val (.int m2), .val (.ref b_7), .val (.ref b_10), .val (.ref r_15), .unset]) rfl ?_
          refine own_aload X15.here hx hby at_80 rfl rfl ?_
          refine own_alen X15 hx hZ rfl P15_1 hby at_82 ?_
          refine own_iload X15.here hx hby at_83 rfl ?_
          refine own_icmpYes X15.here hx hby (pc' := 90) at_85 (teq (show (0 : Int32) = (0 : Int32) from (by decide))).1 (by decide) (by decide) ?_
          refine own_iconst X15.here hx hby at_90 (v := (1 : Int32)) (by decide) ?_
          refine own_istore X15.here hx hby at_91 (l' := #[.val (.int p1), .val (.int m0), .val (.int p3), .val (.int m1), .val (.long q5), .second, .val (.int p6), .val (.int 0), .val (.int ((q5 >>> ((32 : Int32) &&& 0x3f).toInt64).toInt32)), .val (.int m2), .val (.ref b_7), .val (.ref b_10), .val (.ref r_15), .val (.int 1)]) rfl ?_
          refine own_iload X15.here hx hby at_93 rfl ?_
          refine own_ifYes X15.here hx hby (pc' := 123) at_95 ((if0 _ _).trans (flt (show ¬ ((0 : Int32) < (0 : Int32)) from (by decide))).2.2.2) (by decide) (by decide) ?_
          refine own_iload X15.here hx hby at_123 rfl ?_
          refine own_iconst X15.here hx hby at_125 (v := (1 : Int32)) (by decide) ?_
          refine own_icmpYes X15.here hx hby (pc' := 154) at_126 (flt (show ¬ ((1 : Int32) < (0 : Int32)) from (by decide))).2.2.2 (by decide) (by decide) ?_
          refine own_iload X15.here hx hby at_154 rfl ?_
          refine own_iconst X15.here hx hby at_156 (v := (2 : Int32)) (by decide) ?_
          refine own_icmpYes X15.here hx hby (pc' := 187) at_157 (flt (show ¬ ((2 : Int32) < (0 : Int32)) from (by decide))).2.2.2 (by decide) (by decide) ?_
          refine own_iload X15.here hx hby at_187 rfl ?_
          obtain ⟨fs, hr, hrun, hended, hW, hsame⟩ := X15.leave (v := some (.int 1)) (fun h => by rw [Bd.returns] at h; cases h)
          refine own_ret (t := T15.setFrames fs) ?_ ⟨_, hrun, hended, _, _, rfl, ?_, ⟨_, rfl⟩, hW, hsame.mono (by decide) (by decide)⟩
          · exact retN X15 hx (t := .boolean) Bd.returns (by simp) (hb hby at_189) hr
          · show Q_rm0 Z p1 p2 p3 p4 q5 p6 h0 n0 _ T15.heap _
            exact ⟨rfl, N15, trivial⟩
        · intro J19
          refine own_iload X0.here hx hby at_38 rfl ?_
          refine own_bipush X0.here hx hby at_40 (v := (16 : Int32)) (by decide) ?_
          refine own_iand X0.here hx hby at_42 rfl ?_
          by_cases hc43_20 : (p6 &&& (16 : Int32)) = (0 : Int32)
          · refine own_ifYes X0.here hx hby (pc' := 49) at_43 ((if0 _ _).trans (teq hc43_20).1) (by decide) (by decide) ?_
            exact J19 (q5.toInt32)
          · refine own_ifNo X0.here hx hby at_43 ((if0 _ _).trans (feq hc43_20).1) ?_
            refine own_iconst X0.here hx hby at_46 (v := (0 : Int32)) (by decide) ?_
            refine own_istore X0.here hx hby at_47 (l' := #[.val (.int p1), .val (.int m0), .val (.int p3), .val (.int m1), .val (.long q5), .second, .val (.int p6), .val (.int 0), .val (.int ((q5 >>> ((32 : Int32) &&& 0x3f).toInt64).toInt32)), .val (.int 0), .unset, .unset, .unset, .unset]) rfl ?_
            exact J19 (0 : Int32)
      · intro J21
        refine own_iload X0.here hx hby at_28 rfl ?_
        refine own_bipush X0.here hx hby at_30 (v := (8 : Int32)) (by decide) ?_
        refine own_iand X0.here hx hby at_32 rfl ?_
        by_cases hc33_22 : (p6 &&& (8 : Int32)) = (0 : Int32)
        · refine own_ifYes X0.here hx hby (pc' := 38) at_33 ((if0 _ _).trans (teq hc33_22).1) (by decide) (by decide) ?_
          exact J21 p4
        · refine own_ifNo X0.here hx hby at_33 ((if0 _ _).trans (feq hc33_22).1) ?_
          refine own_iconst X0.here hx hby at_36 (v := (0 : Int32)) (by decide) ?_
          refine own_istoreN X0.here hx hby at_37 (l' := #[.val (.int p1), .val (.int m0), .val (.int p3), .val (.int 0), .val (.long q5), .second, .val (.int p6), .val (.int 0), .val (.int ((q5 >>> ((32 : Int32) &&& 0x3f).toInt64).toInt32)), .val (.int (q5.toInt32)), .unset, .unset, .unset, .unset]) rfl ?_
          exact J21 (0 : Int32)
    · intro J23
      refine own_iload X0.here hx hby at_19 rfl ?_
      refine own_iconst X0.here hx hby at_21 (v := (4 : Int32)) (by decide) ?_
      refine own_iand X0.here hx hby at_22 rfl ?_
      by_cases hc23_24 : (p6 &&& (4 : Int32)) = (0 : Int32)
      · refine own_ifYes X0.here hx hby (pc' := 28) at_23 ((if0 _ _).trans (teq hc23_24).1) (by decide) (by decide) ?_
        exact J23 p2
      · refine own_ifNo X0.here hx hby at_23 ((if0 _ _).trans (feq hc23_24).1) ?_
        refine own_iconst X0.here hx hby at_26 (v := (0 : Int32)) (by decide) ?_
        refine own_istoreN X0.here hx hby at_27 (l' := #[.val (.int p1), .val (.int 0), .val (.int p3), .val (.int p4), .val (.long q5), .second, .val (.int p6), .val (.int 0), .val (.int ((q5 >>> ((32 : Int32) &&& 0x3f).toInt64).toInt32)), .val (.int (q5.toInt32)), .unset, .unset, .unset, .unset]) rfl ?_
        exact J23 (0 : Int32)
  · rw [hk]
    refine own_istore X0.here hx hby at_4 (l' := #[.val (.int p1), .val (.int p2), .val (.int p3), .val (.int p4), .val (.long q5), .second, .val (.int p6), .val (.int 1), .unset, .unset, .unset, .unset, .unset, .unset]) rfl ?_
    refine own_lload X0.here hx hby at_6 rfl ?_
    refine own_bipush X0.here hx hby at_8 (v := (32 : Int32)) (by decide) ?_
    refine own_lshr X0.here hx hby at_10 rfl ?_
    refine own_l2i X0.here hx hby at_11 rfl ?_
    refine own_istore X0.here hx hby at_12 (l' := #[.val (.int p1), .val (.int p2), .val (.int p3), .val (.int p4), .val (.long q5), .second, .val (.int p6), .val (.int 1), .val (.int ((q5 >>> ((32 : Int32) &&& 0x3f).toInt64).toInt32)), .unset, .unset, .unset, .unset, .unset]) rfl ?_
    refine own_lload X0.here hx hby at_14 rfl ?_
    refine own_l2i X0.here hx hby at_16 rfl ?_
    refine own_istore X0.here hx hby at_17 (l' := #[.val (.int p1), .val (.int p2), .val (.int p3), .val (.int p4), .val (.long q5), .second, .val (.int p6), .val (.int 1), .val (.int ((q5 >>> ((32 : Int32) &&& 0x3f).toInt64).toInt32)), .val (.int (q5.toInt32)), .unset, .unset, .unset, .unset]) rfl ?_
    refine own_sh (T := s₁) 19 #[.val (.int p1), .val (.int p2), .val (.int p3), .val (.int p4), .val (.long q5), .second, .val (.int p6), .val (.int 1), .val (.int ((q5 >>> ((32 : Int32) &&& 0x3f).toInt64).toInt32)), .val (.int (q5.toInt32)), .unset, .unset, .unset, .unset] [] ?_
    refine own_join (fun (m0 : Int32) => s₁.setTop (mkF m 28 #[.val (.int p1), .val (.int m0), .val (.int p3), .val (.int p4), .val (.long q5), .second, .val (.int p6), .val (.int 1), .val (.int ((q5 >>> ((32 : Int32) &&& 0x3f).toInt64).toInt32)), .val (.int (q5.toInt32)), .unset, .unset, .unset, .unset] [])) ?_ ?_
    · intro m0
      refine own_sh (T := s₁) 28 #[.val (.int p1), .val (.int m0), .val (.int p3), .val (.int p4), .val (.long q5), .second, .val (.int p6), .val (.int 1), .val (.int ((q5 >>> ((32 : Int32) &&& 0x3f).toInt64).toInt32)), .val (.int (q5.toInt32)), .unset, .unset, .unset, .unset] [] ?_
      refine own_join (fun (m1 : Int32) => s₁.setTop (mkF m 38 #[.val (.int p1), .val (.int m0), .val (.int p3), .val (.int m1), .val (.long q5), .second, .val (.int p6), .val (.int 1), .val (.int ((q5 >>> ((32 : Int32) &&& 0x3f).toInt64).toInt32)), .val (.int (q5.toInt32)), .unset, .unset, .unset, .unset] [])) ?_ ?_
      · intro m1
        refine own_sh (T := s₁) 38 #[.val (.int p1), .val (.int m0), .val (.int p3), .val (.int m1), .val (.long q5), .second, .val (.int p6), .val (.int 1), .val (.int ((q5 >>> ((32 : Int32) &&& 0x3f).toInt64).toInt32)), .val (.int (q5.toInt32)), .unset, .unset, .unset, .unset] [] ?_
        refine own_join (fun (m2 : Int32) => s₁.setTop (mkF m 49 #[.val (.int p1), .val (.int m0), .val (.int p3), .val (.int m1), .val (.long q5), .second, .val (.int p6), .val (.int 1), .val (.int ((q5 >>> ((32 : Int32) &&& 0x3f).toInt64).toInt32)), .val (.int m2), .unset, .unset, .unset, .unset] [])) ?_ ?_
        · intro m2
          refine own_sh (T := s₁) 49 #[.val (.int p1), .val (.int m0), .val (.int p3), .val (.int m1), .val (.long q5), .second, .val (.int p6), .val (.int 1), .val (.int ((q5 >>> ((32 : Int32) &&& 0x3f).toInt64).toInt32)), .val (.int m2), .unset, .unset, .unset, .unset] [] ?_
          refine own_iload X0.here hx hby at_49 rfl ?_
          refine own_iloadN X0.here hx hby at_51 rfl ?_
          refine own_iloadN X0.here hx hby at_52 rfl ?_
          refine own_iload X0.here hx hby at_53 rfl ?_
          refine own_callS X0 hx hZ hown (own_w hw 0 rfl) (own_w hw 1 rfl) (own_w hw 2 rfl) (own_w hw 3 rfl) (by decide) (take_1 l Z a0 hw [] p1 p3 ((q5 >>> ((32 : Int32) &&& 0x3f).toInt64).toInt32) h0 n0 Z0 ) 0 (Nat.le_of_eq rfl) (by decide) (by decide) (by rw [hml]; rfl) (argsL := [(.int 1), (.int p1), (.int p3), (.int ((q5 >>> ((32 : Int32) &&& 0x3f).toInt64).toInt32))]) (st := []) (lenOf pd_0 rfl) rfl rfl (by decide) (by decide) e0 hby at_55 ?_
          intro T25 v25 L25 X25 hQ25
          obtain ⟨b_25, kb_25, rfl, Nq25, K25, P25_0, P25_1⟩ := hQ25
          have N25 := Fr.app N0 Nq25
          have z26 : h0.size ≤ T25.heap.size := K25.1
          have lt27 : T25.heap.size > b_25 := P25_1.lt
          refine own_sh (T := T25) 58 #[.val (.int p1), .val (.int m0), .val (.int p3), .val (.int m1), .val (.long q5), .second, .val (.int p6), .val (.int 1), .val (.int ((q5 >>> ((32 : Int32) &&& 0x3f).toInt64).toInt32)), .val (.int m2), .unset, .unset, .unset, .unset] [(.ref b_25)] ?_
          refine own_astore X25.here hx hby at_58 rfl (l' := #[.val (.int p1), .val (.int m0), .val (.int p3), .val (.int m1), .val (.long q5), .second, .val (.int p6), .val (.int 1), .val (.int ((q5 >>> ((32 : Int32) &&& 0x3f).toInt64).toInt32)), .val (.int m2), .val (.ref b_25), .unset, .unset, .unset]) rfl ?_
          refine own_iload X25.here hx hby at_60 rfl ?_
          refine own_iloadN X25.here hx hby at_62 rfl ?_
          refine own_iloadN X25.here hx hby at_63 rfl ?_
          refine own_iload X25.here hx hby at_64 rfl ?_
          have z29 : n0 ≤ T25.heap.size := by omega
          refine own_callS X25 hx hZ hown (own_w hw 0 rfl) (own_w hw 1 rfl) (own_w hw 2 rfl) (own_w hw 3 rfl) (by decide) (take_1 l Z a0 hw [] m0 m1 m2 T25.heap n0 z29 ) 0 (Nat.le_of_eq rfl) (by decide) (by decide) (by rw [hml]; rfl) (argsL := [(.int 1), (.int m0), (.int m1), (.int m2)]) (st := []) (lenOf pd_0 rfl) rfl rfl (by decide) (by decide) rfl hby at_66 ?_
          intro T28 v28 L28 X28 hQ28
          obtain ⟨b_28, kb_28, rfl, Nq28, K28, P28_0, P28_1⟩ := hQ28
          have N28 := Fr.app N25 Nq28
          have z30 : T25.heap.size ≤ T28.heap.size := K28.1
          have lt31 : T28.heap.size > b_28 := P28_1.lt
          refine own_sh (T := T28) 69 #[.val (.int p1), .val (.int m0), .val (.int p3), .val (.int m1), .val (.long q5), .second, .val (.int p6), .val (.int 1), .val (.int ((q5 >>> ((32 : Int32) &&& 0x3f).toInt64).toInt32)), .val (.int m2), .val (.ref b_25), .unset, .unset, .unset] [(.ref b_28)] ?_
          refine own_astore X28.here hx hby at_69 rfl (l' := #[.val (.int p1), .val (.int m0), .val (.int p3), .val (.int m1), .val (.long q5), .second, .val (.int p6), .val (.int 1), .val (.int ((q5 >>> ((32 : Int32) &&& 0x3f).toInt64).toInt32)), .val (.int m2), .val (.ref b_25), .val (.ref b_28), .unset, .unset]) rfl ?_
          refine own_aload X28.here hx hby at_71 rfl rfl ?_
          refine own_aload X28.here hx hby at_73 rfl rfl ?_
          have f32 : Arv Z T28.heap b_25 kb_25 .int (1 : Int32) [(.int p1)] (.int 0) := (P25_1.keep K28 nin0)
          have z34 : n0 ≤ T28.heap.size := by omega
          refine own_callS X28 hx hZ hown (own_w hw 5 rfl) (own_w hw 6 rfl) (own_w hw 7 rfl) (own_w hw 8 rfl) (by decide) (norm_1 l Z a0 hw [] b_25 b_28 kb_25 kb_28 p1 m0 T28.heap n0 z34 f32 P28_1) 0 (Nat.le_of_eq rfl) (by decide) (by decide) (by rw [hml]; rfl) (argsL := [(.ref b_25), (.ref b_28)]) (st := []) (lenOf pd_1 rfl) rfl rfl (by decide) (by decide) rfl hby at_75 ?_
          intro T33 v33 L33 X33 hQ33
          obtain ⟨r_33, kr_33, rfl, Nq33, K33, P33_0, P33_1⟩ := hQ33
          have N33 := Fr.app N28 Nq33
          have z35 : T28.heap.size ≤ T33.heap.size := K33.1
          have lt36 : T33.heap.size > r_33 := P33_1.lt
          refine own_sh (T := T33) 78 #[.val (.int p1), .val (.int m0), .val (.int p3), .val (.int m1), .val (.long q5), .second, .val (.int p6), .val (.int 1), .val (.int ((q5 >>> ((32 : Int32) &&& 0x3f).toInt64).toInt32)), .val (.int m2), .val (.ref b_25), .val (.ref b_28), .unset, .unset] [(.ref r_33)] ?_
          refine own_astore X33.here hx hby at_78 rfl (l' := #[.val (.int p1), .val (.int m0), .val (.int p3), .val (.int m1), .val (.long q5), .second, .val (.int p6), .val (.int 1), .val (.int ((q5 >>> ((32 : Int32) &&& 0x3f).toInt64).toInt32)), .val (.int m2), .val (.ref b_25), .val (.ref b_28), .val (.ref r_33), .unset]) rfl ?_
          refine own_aload X33.here hx hby at_80 rfl rfl ?_
          refine own_alen X33 hx hZ rfl P33_1 hby at_82 ?_
          refine own_iload X33.here hx hby at_83 rfl ?_
          refine own_icmpYes X33.here hx hby (pc' := 90) at_85 (teq (show (1 : Int32) = (1 : Int32) from (by decide))).1 (by decide) (by decide) ?_
          refine own_iconst X33.here hx hby at_90 (v := (1 : Int32)) (by decide) ?_
          refine own_istore X33.here hx hby at_91 (l' := #[.val (.int p1), .val (.int m0), .val (.int p3), .val (.int m1), .val (.long q5), .second, .val (.int p6), .val (.int 1), .val (.int ((q5 >>> ((32 : Int32) &&& 0x3f).toInt64).toInt32)), .val (.int m2), .val (.ref b_25), .val (.ref b_28), .val (.ref r_33), .val (.int 1)]) rfl ?_
          refine own_iload X33.here hx hby at_93 rfl ?_
          refine own_ifNo X33.here hx hby at_95 ((if0 _ _).trans (tlt (show (0 : Int32) < (1 : Int32) from (by decide))).2.2.2) ?_
          refine own_iload X33.here hx hby at_98 rfl ?_
          refine own_ifNo X33.here hx hby at_100 ((if0 _ _).trans (feq (show ¬ ((1 : Int32) = (0 : Int32)) from (by decide))).1) ?_
          refine own_aload X33.here hx hby at_103 rfl rfl ?_
          refine own_iconst X33.here hx hby at_105 (v := (0 : Int32)) (by decide) ?_
          refine own_daload X33 hx hZ rfl P33_1 ⟨by decide, by decide⟩ (v := (.double (own_exp p1 m0))) rfl hby at_106 ?_
          refine own_iloadN X33.here hx hby at_107 rfl ?_
          refine own_iloadN X33.here hx hby at_108 rfl ?_
          have z38 : n0 ≤ T33.heap.size := by omega
          refine own_callS X33 hx hZ hown (own_w hw 10 rfl) (own_w hw 11 rfl) (own_w hw 2 rfl) (own_w hw 12 rfl) (by decide) (exp_ l Z a0 hw [] p1 m0 T33.heap n0 z38 ) 2 (Nat.le_of_eq rfl) (by decide) (by decide) (by rw [hml]; rfl) (argsL := [(.int p1), (.int m0)]) (st := [(.double (own_exp p1 m0))]) (lenOf pd_2 rfl) rfl rfl (by decide) (by decide) rfl hby at_109 ?_
          intro T37 v37 L37 X37 hQ37
          obtain ⟨rfl, Nq37, eh37⟩ := hQ37
          have N37 := Fr.app N33 Nq37
          refine own_sh (T := T37) 112 #[.val (.int p1), .val (.int m0), .val (.int p3), .val (.int m1), .val (.long q5), .second, .val (.int p6), .val (.int 1), .val (.int ((q5 >>> ((32 : Int32) &&& 0x3f).toInt64).toInt32)), .val (.int m2), .val (.ref b_25), .val (.ref b_28), .val (.ref r_33), .val (.int 1)] [(.double (own_exp p1 m0)), (.double (own_exp p1 m0))] ?_
          refine own_dcmp X37.here hx hby at_112 (v := (0 : Int32)) (dcmpV_self (own_expN _ _) _) ?_
          refine own_ifNo X37.here hx hby at_113 ((if0 _ _).trans (teq (show (0 : Int32) = (0 : Int32) from (by decide))).2) ?_
          refine own_iconst X37.here hx hby at_116 (v := (1 : Int32)) (by decide) ?_
          refine own_goto X37.here hx hby (pc' := 121) at_117 (by decide) (by decide) ?_
          refine own_istore X37.here hx hby at_121 (l' := #[.val (.int p1), .val (.int m0), .val (.int p3), .val (.int m1), .val (.long q5), .second, .val (.int p6), .val (.int 1), .val (.int ((q5 >>> ((32 : Int32) &&& 0x3f).toInt64).toInt32)), .val (.int m2), .val (.ref b_25), .val (.ref b_28), .val (.ref r_33), .val (.int 1)]) rfl ?_
          refine own_iload X37.here hx hby at_123 rfl ?_
          refine own_iconst X37.here hx hby at_125 (v := (1 : Int32)) (by decide) ?_
          refine own_icmpYes X37.here hx hby (pc' := 154) at_126 (flt (show ¬ ((1 : Int32) < (1 : Int32)) from (by decide))).2.2.2 (by decide) (by decide) ?_
          refine own_iload X37.here hx hby at_154 rfl ?_
          refine own_iconst X37.here hx hby at_156 (v := (2 : Int32)) (by decide) ?_
          refine own_icmpYes X37.here hx hby (pc' := 187) at_157 (flt (show ¬ ((2 : Int32) < (1 : Int32)) from (by decide))).2.2.2 (by decide) (by decide) ?_
          refine own_iload X37.here hx hby at_187 rfl ?_
          obtain ⟨fs, hr, hrun, hended, hW, hsame⟩ := X37.leave (v := some (.int 1)) (fun h => by rw [Bd.returns] at h; cases h)
          refine own_ret (t := T37.setFrames fs) ?_ ⟨_, hrun, hended, _, _, rfl, ?_, ⟨_, rfl⟩, hW, hsame.mono (by decide) (by decide)⟩
          · exact retN X37 hx (t := .boolean) Bd.returns (by simp) (hb hby at_189) hr
          · show Q_rm0 Z p1 p2 p3 p4 q5 p6 h0 n0 _ T37.heap _
            rw [eh37]
            exact ⟨rfl, N37, trivial⟩
        · intro J39
          refine own_iload X0.here hx hby at_38 rfl ?_
          refine own_bipush X0.here hx hby at_40 (v := (16 : Int32)) (by decide) ?_
          refine own_iand X0.here hx hby at_42 rfl ?_
          by_cases hc43_40 : (p6 &&& (16 : Int32)) = (0 : Int32)
          · refine own_ifYes X0.here hx hby (pc' := 49) at_43 ((if0 _ _).trans (teq hc43_40).1) (by decide) (by decide) ?_
            exact J39 (q5.toInt32)
          · refine own_ifNo X0.here hx hby at_43 ((if0 _ _).trans (feq hc43_40).1) ?_
            refine own_iconst X0.here hx hby at_46 (v := (0 : Int32)) (by decide) ?_
            refine own_istore X0.here hx hby at_47 (l' := #[.val (.int p1), .val (.int m0), .val (.int p3), .val (.int m1), .val (.long q5), .second, .val (.int p6), .val (.int 1), .val (.int ((q5 >>> ((32 : Int32) &&& 0x3f).toInt64).toInt32)), .val (.int 0), .unset, .unset, .unset, .unset]) rfl ?_
            exact J39 (0 : Int32)
      · intro J41
        refine own_iload X0.here hx hby at_28 rfl ?_
        refine own_bipush X0.here hx hby at_30 (v := (8 : Int32)) (by decide) ?_
        refine own_iand X0.here hx hby at_32 rfl ?_
        by_cases hc33_42 : (p6 &&& (8 : Int32)) = (0 : Int32)
        · refine own_ifYes X0.here hx hby (pc' := 38) at_33 ((if0 _ _).trans (teq hc33_42).1) (by decide) (by decide) ?_
          exact J41 p4
        · refine own_ifNo X0.here hx hby at_33 ((if0 _ _).trans (feq hc33_42).1) ?_
          refine own_iconst X0.here hx hby at_36 (v := (0 : Int32)) (by decide) ?_
          refine own_istoreN X0.here hx hby at_37 (l' := #[.val (.int p1), .val (.int m0), .val (.int p3), .val (.int 0), .val (.long q5), .second, .val (.int p6), .val (.int 1), .val (.int ((q5 >>> ((32 : Int32) &&& 0x3f).toInt64).toInt32)), .val (.int (q5.toInt32)), .unset, .unset, .unset, .unset]) rfl ?_
          exact J41 (0 : Int32)
    · intro J43
      refine own_iload X0.here hx hby at_19 rfl ?_
      refine own_iconst X0.here hx hby at_21 (v := (4 : Int32)) (by decide) ?_
      refine own_iand X0.here hx hby at_22 rfl ?_
      by_cases hc23_44 : (p6 &&& (4 : Int32)) = (0 : Int32)
      · refine own_ifYes X0.here hx hby (pc' := 28) at_23 ((if0 _ _).trans (teq hc23_44).1) (by decide) (by decide) ?_
        exact J43 p2
      · refine own_ifNo X0.here hx hby at_23 ((if0 _ _).trans (feq hc23_44).1) ?_
        refine own_iconst X0.here hx hby at_26 (v := (0 : Int32)) (by decide) ?_
        refine own_istoreN X0.here hx hby at_27 (l' := #[.val (.int p1), .val (.int 0), .val (.int p3), .val (.int p4), .val (.long q5), .second, .val (.int p6), .val (.int 1), .val (.int ((q5 >>> ((32 : Int32) &&& 0x3f).toInt64).toInt32)), .val (.int (q5.toInt32)), .unset, .unset, .unset, .unset]) rfl ?_
        exact J43 (0 : Int32)
  · rw [hk]
    refine own_istore X0.here hx hby at_4 (l' := #[.val (.int p1), .val (.int p2), .val (.int p3), .val (.int p4), .val (.long q5), .second, .val (.int p6), .val (.int 2), .unset, .unset, .unset, .unset, .unset, .unset]) rfl ?_
    refine own_lload X0.here hx hby at_6 rfl ?_
    refine own_bipush X0.here hx hby at_8 (v := (32 : Int32)) (by decide) ?_
    refine own_lshr X0.here hx hby at_10 rfl ?_
    refine own_l2i X0.here hx hby at_11 rfl ?_
    refine own_istore X0.here hx hby at_12 (l' := #[.val (.int p1), .val (.int p2), .val (.int p3), .val (.int p4), .val (.long q5), .second, .val (.int p6), .val (.int 2), .val (.int ((q5 >>> ((32 : Int32) &&& 0x3f).toInt64).toInt32)), .unset, .unset, .unset, .unset, .unset]) rfl ?_
    refine own_lload X0.here hx hby at_14 rfl ?_
    refine own_l2i X0.here hx hby at_16 rfl ?_
    refine own_istore X0.here hx hby at_17 (l' := #[.val (.int p1), .val (.int p2), .val (.int p3), .val (.int p4), .val (.long q5), .second, .val (.int p6), .val (.int 2), .val (.int ((q5 >>> ((32 : Int32) &&& 0x3f).toInt64).toInt32)), .val (.int (q5.toInt32)), .unset, .unset, .unset, .unset]) rfl ?_
    refine own_sh (T := s₁) 19 #[.val (.int p1), .val (.int p2), .val (.int p3), .val (.int p4), .val (.long q5), .second, .val (.int p6), .val (.int 2), .val (.int ((q5 >>> ((32 : Int32) &&& 0x3f).toInt64).toInt32)), .val (.int (q5.toInt32)), .unset, .unset, .unset, .unset] [] ?_
    refine own_join (fun (m0 : Int32) => s₁.setTop (mkF m 28 #[.val (.int p1), .val (.int m0), .val (.int p3), .val (.int p4), .val (.long q5), .second, .val (.int p6), .val (.int 2), .val (.int ((q5 >>> ((32 : Int32) &&& 0x3f).toInt64).toInt32)), .val (.int (q5.toInt32)), .unset, .unset, .unset, .unset] [])) ?_ ?_
    · intro m0
      refine own_sh (T := s₁) 28 #[.val (.int p1), .val (.int m0), .val (.int p3), .val (.int p4), .val (.long q5), .second, .val (.int p6), .val (.int 2), .val (.int ((q5 >>> ((32 : Int32) &&& 0x3f).toInt64).toInt32)), .val (.int (q5.toInt32)), .unset, .unset, .unset, .unset] [] ?_
      refine own_join (fun (m1 : Int32) => s₁.setTop (mkF m 38 #[.val (.int p1), .val (.int m0), .val (.int p3), .val (.int m1), .val (.long q5), .second, .val (.int p6), .val (.int 2), .val (.int ((q5 >>> ((32 : Int32) &&& 0x3f).toInt64).toInt32)), .val (.int (q5.toInt32)), .unset, .unset, .unset, .unset] [])) ?_ ?_
      · intro m1
        refine own_sh (T := s₁) 38 #[.val (.int p1), .val (.int m0), .val (.int p3), .val (.int m1), .val (.long q5), .second, .val (.int p6), .val (.int 2), .val (.int ((q5 >>> ((32 : Int32) &&& 0x3f).toInt64).toInt32)), .val (.int (q5.toInt32)), .unset, .unset, .unset, .unset] [] ?_
        refine own_join (fun (m2 : Int32) => s₁.setTop (mkF m 49 #[.val (.int p1), .val (.int m0), .val (.int p3), .val (.int m1), .val (.long q5), .second, .val (.int p6), .val (.int 2), .val (.int ((q5 >>> ((32 : Int32) &&& 0x3f).toInt64).toInt32)), .val (.int m2), .unset, .unset, .unset, .unset] [])) ?_ ?_
        · intro m2
          refine own_sh (T := s₁) 49 #[.val (.int p1), .val (.int m0), .val (.int p3), .val (.int m1), .val (.long q5), .second, .val (.int p6), .val (.int 2), .val (.int ((q5 >>> ((32 : Int32) &&& 0x3f).toInt64).toInt32)), .val (.int m2), .unset, .unset, .unset, .unset] [] ?_
          refine own_iload X0.here hx hby at_49 rfl ?_
          refine own_iloadN X0.here hx hby at_51 rfl ?_
          refine own_iloadN X0.here hx hby at_52 rfl ?_
          refine own_iload X0.here hx hby at_53 rfl ?_
          refine own_callS X0 hx hZ hown (own_w hw 0 rfl) (own_w hw 1 rfl) (own_w hw 2 rfl) (own_w hw 3 rfl) (by decide) (take_2 l Z a0 hw [] p1 p3 ((q5 >>> ((32 : Int32) &&& 0x3f).toInt64).toInt32) h0 n0 Z0 ) 0 (Nat.le_of_eq rfl) (by decide) (by decide) (by rw [hml]; rfl) (argsL := [(.int 2), (.int p1), (.int p3), (.int ((q5 >>> ((32 : Int32) &&& 0x3f).toInt64).toInt32))]) (st := []) (lenOf pd_0 rfl) rfl rfl (by decide) (by decide) e0 hby at_55 ?_
          intro T45 v45 L45 X45 hQ45
          obtain ⟨b_45, kb_45, rfl, Nq45, K45, P45_0, P45_1⟩ := hQ45
          have N45 := Fr.app N0 Nq45
          have z46 : h0.size ≤ T45.heap.size := K45.1
          have lt47 : T45.heap.size > b_45 := P45_1.lt
          refine own_sh (T := T45) 58 #[.val (.int p1), .val (.int m0), .val (.int p3), .val (.int m1), .val (.long q5), .second, .val (.int p6), .val (.int 2), .val (.int ((q5 >>> ((32 : Int32) &&& 0x3f).toInt64).toInt32)), .val (.int m2), .unset, .unset, .unset, .unset] [(.ref b_45)] ?_
          refine own_astore X45.here hx hby at_58 rfl (l' := #[.val (.int p1), .val (.int m0), .val (.int p3), .val (.int m1), .val (.long q5), .second, .val (.int p6), .val (.int 2), .val (.int ((q5 >>> ((32 : Int32) &&& 0x3f).toInt64).toInt32)), .val (.int m2), .val (.ref b_45), .unset, .unset, .unset]) rfl ?_
          refine own_iload X45.here hx hby at_60 rfl ?_
          refine own_iloadN X45.here hx hby at_62 rfl ?_
          refine own_iloadN X45.here hx hby at_63 rfl ?_
          refine own_iload X45.here hx hby at_64 rfl ?_
          have z49 : n0 ≤ T45.heap.size := by omega
          refine own_callS X45 hx hZ hown (own_w hw 0 rfl) (own_w hw 1 rfl) (own_w hw 2 rfl) (own_w hw 3 rfl) (by decide) (take_2 l Z a0 hw [] m0 m1 m2 T45.heap n0 z49 ) 0 (Nat.le_of_eq rfl) (by decide) (by decide) (by rw [hml]; rfl) (argsL := [(.int 2), (.int m0), (.int m1), (.int m2)]) (st := []) (lenOf pd_0 rfl) rfl rfl (by decide) (by decide) rfl hby at_66 ?_
          intro T48 v48 L48 X48 hQ48
          obtain ⟨b_48, kb_48, rfl, Nq48, K48, P48_0, P48_1⟩ := hQ48
          have N48 := Fr.app N45 Nq48
          have z50 : T45.heap.size ≤ T48.heap.size := K48.1
          have lt51 : T48.heap.size > b_48 := P48_1.lt
          refine own_sh (T := T48) 69 #[.val (.int p1), .val (.int m0), .val (.int p3), .val (.int m1), .val (.long q5), .second, .val (.int p6), .val (.int 2), .val (.int ((q5 >>> ((32 : Int32) &&& 0x3f).toInt64).toInt32)), .val (.int m2), .val (.ref b_45), .unset, .unset, .unset] [(.ref b_48)] ?_
          refine own_astore X48.here hx hby at_69 rfl (l' := #[.val (.int p1), .val (.int m0), .val (.int p3), .val (.int m1), .val (.long q5), .second, .val (.int p6), .val (.int 2), .val (.int ((q5 >>> ((32 : Int32) &&& 0x3f).toInt64).toInt32)), .val (.int m2), .val (.ref b_45), .val (.ref b_48), .unset, .unset]) rfl ?_
          refine own_aload X48.here hx hby at_71 rfl rfl ?_
          refine own_aload X48.here hx hby at_73 rfl rfl ?_
          have f52 : Arv Z T48.heap b_45 kb_45 .int (2 : Int32) [(.int p1), (.int p3)] (.int 0) := (P45_1.keep K48 nin0)
          have z54 : n0 ≤ T48.heap.size := by omega
          refine own_callS X48 hx hZ hown (own_w hw 5 rfl) (own_w hw 6 rfl) (own_w hw 7 rfl) (own_w hw 8 rfl) (by decide) (norm_2 l Z a0 hw [] b_45 b_48 kb_45 kb_48 p1 p3 m0 m1 T48.heap n0 z54 f52 P48_1) 0 (Nat.le_of_eq rfl) (by decide) (by decide) (by rw [hml]; rfl) (argsL := [(.ref b_45), (.ref b_48)]) (st := []) (lenOf pd_1 rfl) rfl rfl (by decide) (by decide) rfl hby at_75 ?_
          intro T53 v53 L53 X53 hQ53
          obtain ⟨r_53, kr_53, rfl, Nq53, K53, P53_0, P53_1⟩ := hQ53
          have N53 := Fr.app N48 Nq53
          have z55 : T48.heap.size ≤ T53.heap.size := K53.1
          have lt56 : T53.heap.size > r_53 := P53_1.lt
          refine own_sh (T := T53) 78 #[.val (.int p1), .val (.int m0), .val (.int p3), .val (.int m1), .val (.long q5), .second, .val (.int p6), .val (.int 2), .val (.int ((q5 >>> ((32 : Int32) &&& 0x3f).toInt64).toInt32)), .val (.int m2), .val (.ref b_45), .val (.ref b_48), .unset, .unset] [(.ref r_53)] ?_
          refine own_astore X53.here hx hby at_78 rfl (l' := #[.val (.int p1), .val (.int m0), .val (.int p3), .val (.int m1), .val (.long q5), .second, .val (.int p6), .val (.int 2), .val (.int ((q5 >>> ((32 : Int32) &&& 0x3f).toInt64).toInt32)), .val (.int m2), .val (.ref b_45), .val (.ref b_48), .val (.ref r_53), .unset]) rfl ?_
          refine own_aload X53.here hx hby at_80 rfl rfl ?_
          refine own_alen X53 hx hZ rfl P53_1 hby at_82 ?_
          refine own_iload X53.here hx hby at_83 rfl ?_
          refine own_icmpYes X53.here hx hby (pc' := 90) at_85 (teq (show (2 : Int32) = (2 : Int32) from (by decide))).1 (by decide) (by decide) ?_
          refine own_iconst X53.here hx hby at_90 (v := (1 : Int32)) (by decide) ?_
          refine own_istore X53.here hx hby at_91 (l' := #[.val (.int p1), .val (.int m0), .val (.int p3), .val (.int m1), .val (.long q5), .second, .val (.int p6), .val (.int 2), .val (.int ((q5 >>> ((32 : Int32) &&& 0x3f).toInt64).toInt32)), .val (.int m2), .val (.ref b_45), .val (.ref b_48), .val (.ref r_53), .val (.int 1)]) rfl ?_
          refine own_iload X53.here hx hby at_93 rfl ?_
          refine own_ifNo X53.here hx hby at_95 ((if0 _ _).trans (tlt (show (0 : Int32) < (2 : Int32) from (by decide))).2.2.2) ?_
          refine own_iload X53.here hx hby at_98 rfl ?_
          refine own_ifNo X53.here hx hby at_100 ((if0 _ _).trans (feq (show ¬ ((1 : Int32) = (0 : Int32)) from (by decide))).1) ?_
          refine own_aload X53.here hx hby at_103 rfl rfl ?_
          refine own_iconst X53.here hx hby at_105 (v := (0 : Int32)) (by decide) ?_
          refine own_daload X53 hx hZ rfl P53_1 ⟨by decide, by decide⟩ (v := (.double (own_exp p1 m0))) rfl hby at_106 ?_
          refine own_iloadN X53.here hx hby at_107 rfl ?_
          refine own_iloadN X53.here hx hby at_108 rfl ?_
          have z58 : n0 ≤ T53.heap.size := by omega
          refine own_callS X53 hx hZ hown (own_w hw 10 rfl) (own_w hw 11 rfl) (own_w hw 2 rfl) (own_w hw 12 rfl) (by decide) (exp_ l Z a0 hw [] p1 m0 T53.heap n0 z58 ) 2 (Nat.le_of_eq rfl) (by decide) (by decide) (by rw [hml]; rfl) (argsL := [(.int p1), (.int m0)]) (st := [(.double (own_exp p1 m0))]) (lenOf pd_2 rfl) rfl rfl (by decide) (by decide) rfl hby at_109 ?_
          intro T57 v57 L57 X57 hQ57
          obtain ⟨rfl, Nq57, eh57⟩ := hQ57
          have N57 := Fr.app N53 Nq57
          refine own_sh (T := T57) 112 #[.val (.int p1), .val (.int m0), .val (.int p3), .val (.int m1), .val (.long q5), .second, .val (.int p6), .val (.int 2), .val (.int ((q5 >>> ((32 : Int32) &&& 0x3f).toInt64).toInt32)), .val (.int m2), .val (.ref b_45), .val (.ref b_48), .val (.ref r_53), .val (.int 1)] [(.double (own_exp p1 m0)), (.double (own_exp p1 m0))] ?_
          refine own_dcmp X57.here hx hby at_112 (v := (0 : Int32)) (dcmpV_self (own_expN _ _) _) ?_
          refine own_ifNo X57.here hx hby at_113 ((if0 _ _).trans (teq (show (0 : Int32) = (0 : Int32) from (by decide))).2) ?_
          refine own_iconst X57.here hx hby at_116 (v := (1 : Int32)) (by decide) ?_
          refine own_goto X57.here hx hby (pc' := 121) at_117 (by decide) (by decide) ?_
          refine own_istore X57.here hx hby at_121 (l' := #[.val (.int p1), .val (.int m0), .val (.int p3), .val (.int m1), .val (.long q5), .second, .val (.int p6), .val (.int 2), .val (.int ((q5 >>> ((32 : Int32) &&& 0x3f).toInt64).toInt32)), .val (.int m2), .val (.ref b_45), .val (.ref b_48), .val (.ref r_53), .val (.int 1)]) rfl ?_
          refine own_iload X57.here hx hby at_123 rfl ?_
          refine own_iconst X57.here hx hby at_125 (v := (1 : Int32)) (by decide) ?_
          refine own_icmpNo X57.here hx hby at_126 (tlt (show (1 : Int32) < (2 : Int32) from (by decide))).2.2.2 ?_
          refine own_iload X57.here hx hby at_129 rfl ?_
          refine own_ifNo X57.here hx hby at_131 ((if0 _ _).trans (feq (show ¬ ((1 : Int32) = (0 : Int32)) from (by decide))).1) ?_
          refine own_aload X57.here hx hby at_134 rfl rfl ?_
          refine own_iconst X57.here hx hby at_136 (v := (1 : Int32)) (by decide) ?_
          refine own_daload X57 hx hZ eh57 P53_1 ⟨by decide, by decide⟩ (v := (.double (own_exp p3 m1))) rfl hby at_137 ?_
          refine own_iloadN X57.here hx hby at_138 rfl ?_
          refine own_iloadN X57.here hx hby at_139 rfl ?_
          refine own_callS X57 hx hZ hown (own_w hw 10 rfl) (own_w hw 11 rfl) (own_w hw 2 rfl) (own_w hw 12 rfl) (by decide) (exp_ l Z a0 hw [] p3 m1 T53.heap n0 z58 ) 2 (Nat.le_of_eq rfl) (by decide) (by decide) (by rw [hml]; rfl) (argsL := [(.int p3), (.int m1)]) (st := [(.double (own_exp p3 m1))]) (lenOf pd_2 rfl) rfl rfl (by decide) (by decide) eh57 hby at_140 ?_
          intro T59 v59 L59 X59 hQ59
          obtain ⟨rfl, Nq59, eh59⟩ := hQ59
          have N59 := Fr.app N57 Nq59
          refine own_sh (T := T59) 143 #[.val (.int p1), .val (.int m0), .val (.int p3), .val (.int m1), .val (.long q5), .second, .val (.int p6), .val (.int 2), .val (.int ((q5 >>> ((32 : Int32) &&& 0x3f).toInt64).toInt32)), .val (.int m2), .val (.ref b_45), .val (.ref b_48), .val (.ref r_53), .val (.int 1)] [(.double (own_exp p3 m1)), (.double (own_exp p3 m1))] ?_
          refine own_dcmp X59.here hx hby at_143 (v := (0 : Int32)) (dcmpV_self (own_expN _ _) _) ?_
          refine own_ifNo X59.here hx hby at_144 ((if0 _ _).trans (teq (show (0 : Int32) = (0 : Int32) from (by decide))).2) ?_
          refine own_iconst X59.here hx hby at_147 (v := (1 : Int32)) (by decide) ?_
          refine own_goto X59.here hx hby (pc' := 152) at_148 (by decide) (by decide) ?_
          refine own_istore X59.here hx hby at_152 (l' := #[.val (.int p1), .val (.int m0), .val (.int p3), .val (.int m1), .val (.long q5), .second, .val (.int p6), .val (.int 2), .val (.int ((q5 >>> ((32 : Int32) &&& 0x3f).toInt64).toInt32)), .val (.int m2), .val (.ref b_45), .val (.ref b_48), .val (.ref r_53), .val (.int 1)]) rfl ?_
          refine own_iload X59.here hx hby at_154 rfl ?_
          refine own_iconst X59.here hx hby at_156 (v := (2 : Int32)) (by decide) ?_
          refine own_icmpYes X59.here hx hby (pc' := 187) at_157 (flt (show ¬ ((2 : Int32) < (2 : Int32)) from (by decide))).2.2.2 (by decide) (by decide) ?_
          refine own_iload X59.here hx hby at_187 rfl ?_
          obtain ⟨fs, hr, hrun, hended, hW, hsame⟩ := X59.leave (v := some (.int 1)) (fun h => by rw [Bd.returns] at h; cases h)
          refine own_ret (t := T59.setFrames fs) ?_ ⟨_, hrun, hended, _, _, rfl, ?_, ⟨_, rfl⟩, hW, hsame.mono (by decide) (by decide)⟩
          · exact retN X59 hx (t := .boolean) Bd.returns (by simp) (hb hby at_189) hr
          · show Q_rm0 Z p1 p2 p3 p4 q5 p6 h0 n0 _ T59.heap _
            rw [eh59]
            exact ⟨rfl, N59, trivial⟩
        · intro J60
          refine own_iload X0.here hx hby at_38 rfl ?_
          refine own_bipush X0.here hx hby at_40 (v := (16 : Int32)) (by decide) ?_
          refine own_iand X0.here hx hby at_42 rfl ?_
          by_cases hc43_61 : (p6 &&& (16 : Int32)) = (0 : Int32)
          · refine own_ifYes X0.here hx hby (pc' := 49) at_43 ((if0 _ _).trans (teq hc43_61).1) (by decide) (by decide) ?_
            exact J60 (q5.toInt32)
          · refine own_ifNo X0.here hx hby at_43 ((if0 _ _).trans (feq hc43_61).1) ?_
            refine own_iconst X0.here hx hby at_46 (v := (0 : Int32)) (by decide) ?_
            refine own_istore X0.here hx hby at_47 (l' := #[.val (.int p1), .val (.int m0), .val (.int p3), .val (.int m1), .val (.long q5), .second, .val (.int p6), .val (.int 2), .val (.int ((q5 >>> ((32 : Int32) &&& 0x3f).toInt64).toInt32)), .val (.int 0), .unset, .unset, .unset, .unset]) rfl ?_
            exact J60 (0 : Int32)
      · intro J62
        refine own_iload X0.here hx hby at_28 rfl ?_
        refine own_bipush X0.here hx hby at_30 (v := (8 : Int32)) (by decide) ?_
        refine own_iand X0.here hx hby at_32 rfl ?_
        by_cases hc33_63 : (p6 &&& (8 : Int32)) = (0 : Int32)
        · refine own_ifYes X0.here hx hby (pc' := 38) at_33 ((if0 _ _).trans (teq hc33_63).1) (by decide) (by decide) ?_
          exact J62 p4
        · refine own_ifNo X0.here hx hby at_33 ((if0 _ _).trans (feq hc33_63).1) ?_
          refine own_iconst X0.here hx hby at_36 (v := (0 : Int32)) (by decide) ?_
          refine own_istoreN X0.here hx hby at_37 (l' := #[.val (.int p1), .val (.int m0), .val (.int p3), .val (.int 0), .val (.long q5), .second, .val (.int p6), .val (.int 2), .val (.int ((q5 >>> ((32 : Int32) &&& 0x3f).toInt64).toInt32)), .val (.int (q5.toInt32)), .unset, .unset, .unset, .unset]) rfl ?_
          exact J62 (0 : Int32)
    · intro J64
      refine own_iload X0.here hx hby at_19 rfl ?_
      refine own_iconst X0.here hx hby at_21 (v := (4 : Int32)) (by decide) ?_
      refine own_iand X0.here hx hby at_22 rfl ?_
      by_cases hc23_65 : (p6 &&& (4 : Int32)) = (0 : Int32)
      · refine own_ifYes X0.here hx hby (pc' := 28) at_23 ((if0 _ _).trans (teq hc23_65).1) (by decide) (by decide) ?_
        exact J64 p2
      · refine own_ifNo X0.here hx hby at_23 ((if0 _ _).trans (feq hc23_65).1) ?_
        refine own_iconst X0.here hx hby at_26 (v := (0 : Int32)) (by decide) ?_
        refine own_istoreN X0.here hx hby at_27 (l' := #[.val (.int p1), .val (.int 0), .val (.int p3), .val (.int p4), .val (.long q5), .second, .val (.int p6), .val (.int 2), .val (.int ((q5 >>> ((32 : Int32) &&& 0x3f).toInt64).toInt32)), .val (.int (q5.toInt32)), .unset, .unset, .unset, .unset]) rfl ?_
        exact J64 (0 : Int32)
  · rw [hk]
    refine own_istore X0.here hx hby at_4 (l' := #[.val (.int p1), .val (.int p2), .val (.int p3), .val (.int p4), .val (.long q5), .second, .val (.int p6), .val (.int 3), .unset, .unset, .unset, .unset, .unset, .unset]) rfl ?_
    refine own_lload X0.here hx hby at_6 rfl ?_
    refine own_bipush X0.here hx hby at_8 (v := (32 : Int32)) (by decide) ?_
    refine own_lshr X0.here hx hby at_10 rfl ?_
    refine own_l2i X0.here hx hby at_11 rfl ?_
    refine own_istore X0.here hx hby at_12 (l' := #[.val (.int p1), .val (.int p2), .val (.int p3), .val (.int p4), .val (.long q5), .second, .val (.int p6), .val (.int 3), .val (.int ((q5 >>> ((32 : Int32) &&& 0x3f).toInt64).toInt32)), .unset, .unset, .unset, .unset, .unset]) rfl ?_
    refine own_lload X0.here hx hby at_14 rfl ?_
    refine own_l2i X0.here hx hby at_16 rfl ?_
    refine own_istore X0.here hx hby at_17 (l' := #[.val (.int p1), .val (.int p2), .val (.int p3), .val (.int p4), .val (.long q5), .second, .val (.int p6), .val (.int 3), .val (.int ((q5 >>> ((32 : Int32) &&& 0x3f).toInt64).toInt32)), .val (.int (q5.toInt32)), .unset, .unset, .unset, .unset]) rfl ?_
    refine own_sh (T := s₁) 19 #[.val (.int p1), .val (.int p2), .val (.int p3), .val (.int p4), .val (.long q5), .second, .val (.int p6), .val (.int 3), .val (.int ((q5 >>> ((32 : Int32) &&& 0x3f).toInt64).toInt32)), .val (.int (q5.toInt32)), .unset, .unset, .unset, .unset] [] ?_
    refine own_join (fun (m0 : Int32) => s₁.setTop (mkF m 28 #[.val (.int p1), .val (.int m0), .val (.int p3), .val (.int p4), .val (.long q5), .second, .val (.int p6), .val (.int 3), .val (.int ((q5 >>> ((32 : Int32) &&& 0x3f).toInt64).toInt32)), .val (.int (q5.toInt32)), .unset, .unset, .unset, .unset] [])) ?_ ?_
    · intro m0
      refine own_sh (T := s₁) 28 #[.val (.int p1), .val (.int m0), .val (.int p3), .val (.int p4), .val (.long q5), .second, .val (.int p6), .val (.int 3), .val (.int ((q5 >>> ((32 : Int32) &&& 0x3f).toInt64).toInt32)), .val (.int (q5.toInt32)), .unset, .unset, .unset, .unset] [] ?_
      refine own_join (fun (m1 : Int32) => s₁.setTop (mkF m 38 #[.val (.int p1), .val (.int m0), .val (.int p3), .val (.int m1), .val (.long q5), .second, .val (.int p6), .val (.int 3), .val (.int ((q5 >>> ((32 : Int32) &&& 0x3f).toInt64).toInt32)), .val (.int (q5.toInt32)), .unset, .unset, .unset, .unset] [])) ?_ ?_
      · intro m1
        refine own_sh (T := s₁) 38 #[.val (.int p1), .val (.int m0), .val (.int p3), .val (.int m1), .val (.long q5), .second, .val (.int p6), .val (.int 3), .val (.int ((q5 >>> ((32 : Int32) &&& 0x3f).toInt64).toInt32)), .val (.int (q5.toInt32)), .unset, .unset, .unset, .unset] [] ?_
        refine own_join (fun (m2 : Int32) => s₁.setTop (mkF m 49 #[.val (.int p1), .val (.int m0), .val (.int p3), .val (.int m1), .val (.long q5), .second, .val (.int p6), .val (.int 3), .val (.int ((q5 >>> ((32 : Int32) &&& 0x3f).toInt64).toInt32)), .val (.int m2), .unset, .unset, .unset, .unset] [])) ?_ ?_
        · intro m2
          refine own_sh (T := s₁) 49 #[.val (.int p1), .val (.int m0), .val (.int p3), .val (.int m1), .val (.long q5), .second, .val (.int p6), .val (.int 3), .val (.int ((q5 >>> ((32 : Int32) &&& 0x3f).toInt64).toInt32)), .val (.int m2), .unset, .unset, .unset, .unset] [] ?_
          refine own_iload X0.here hx hby at_49 rfl ?_
          refine own_iloadN X0.here hx hby at_51 rfl ?_
          refine own_iloadN X0.here hx hby at_52 rfl ?_
          refine own_iload X0.here hx hby at_53 rfl ?_
          refine own_callS X0 hx hZ hown (own_w hw 0 rfl) (own_w hw 1 rfl) (own_w hw 2 rfl) (own_w hw 3 rfl) (by decide) (take_3 l Z a0 hw [] p1 p3 ((q5 >>> ((32 : Int32) &&& 0x3f).toInt64).toInt32) h0 n0 Z0 ) 0 (Nat.le_of_eq rfl) (by decide) (by decide) (by rw [hml]; rfl) (argsL := [(.int 3), (.int p1), (.int p3), (.int ((q5 >>> ((32 : Int32) &&& 0x3f).toInt64).toInt32))]) (st := []) (lenOf pd_0 rfl) rfl rfl (by decide) (by decide) e0 hby at_55 ?_
          intro T66 v66 L66 X66 hQ66
          obtain ⟨b_66, kb_66, rfl, Nq66, K66, P66_0, P66_1⟩ := hQ66
          have N66 := Fr.app N0 Nq66
          have z67 : h0.size ≤ T66.heap.size := K66.1
          have lt68 : T66.heap.size > b_66 := P66_1.lt
          refine own_sh (T := T66) 58 #[.val (.int p1), .val (.int m0), .val (.int p3), .val (.int m1), .val (.long q5), .second, .val (.int p6), .val (.int 3), .val (.int ((q5 >>> ((32 : Int32) &&& 0x3f).toInt64).toInt32)), .val (.int m2), .unset, .unset, .unset, .unset] [(.ref b_66)] ?_
          refine own_astore X66.here hx hby at_58 rfl (l' := #[.val (.int p1), .val (.int m0), .val (.int p3), .val (.int m1), .val (.long q5), .second, .val (.int p6), .val (.int 3), .val (.int ((q5 >>> ((32 : Int32) &&& 0x3f).toInt64).toInt32)), .val (.int m2), .val (.ref b_66), .unset, .unset, .unset]) rfl ?_
          refine own_iload X66.here hx hby at_60 rfl ?_
          refine own_iloadN X66.here hx hby at_62 rfl ?_
          refine own_iloadN X66.here hx hby at_63 rfl ?_
          refine own_iload X66.here hx hby at_64 rfl ?_
          have z70 : n0 ≤ T66.heap.size := by omega
          refine own_callS X66 hx hZ hown (own_w hw 0 rfl) (own_w hw 1 rfl) (own_w hw 2 rfl) (own_w hw 3 rfl) (by decide) (take_3 l Z a0 hw [] m0 m1 m2 T66.heap n0 z70 ) 0 (Nat.le_of_eq rfl) (by decide) (by decide) (by rw [hml]; rfl) (argsL := [(.int 3), (.int m0), (.int m1), (.int m2)]) (st := []) (lenOf pd_0 rfl) rfl rfl (by decide) (by decide) rfl hby at_66 ?_
          intro T69 v69 L69 X69 hQ69
          obtain ⟨b_69, kb_69, rfl, Nq69, K69, P69_0, P69_1⟩ := hQ69
          have N69 := Fr.app N66 Nq69
          have z71 : T66.heap.size ≤ T69.heap.size := K69.1
          have lt72 : T69.heap.size > b_69 := P69_1.lt
          refine own_sh (T := T69) 69 #[.val (.int p1), .val (.int m0), .val (.int p3), .val (.int m1), .val (.long q5), .second, .val (.int p6), .val (.int 3), .val (.int ((q5 >>> ((32 : Int32) &&& 0x3f).toInt64).toInt32)), .val (.int m2), .val (.ref b_66), .unset, .unset, .unset] [(.ref b_69)] ?_
          refine own_astore X69.here hx hby at_69 rfl (l' := #[.val (.int p1), .val (.int m0), .val (.int p3), .val (.int m1), .val (.long q5), .second, .val (.int p6), .val (.int 3), .val (.int ((q5 >>> ((32 : Int32) &&& 0x3f).toInt64).toInt32)), .val (.int m2), .val (.ref b_66), .val (.ref b_69), .unset, .unset]) rfl ?_
          refine own_aload X69.here hx hby at_71 rfl rfl ?_
          refine own_aload X69.here hx hby at_73 rfl rfl ?_
          have f73 : Arv Z T69.heap b_66 kb_66 .int (3 : Int32) [(.int p1), (.int p3), (.int ((q5 >>> ((32 : Int32) &&& 0x3f).toInt64).toInt32))] (.int 0) := (P66_1.keep K69 nin0)
          have z75 : n0 ≤ T69.heap.size := by omega
          refine own_callS X69 hx hZ hown (own_w hw 5 rfl) (own_w hw 6 rfl) (own_w hw 7 rfl) (own_w hw 8 rfl) (by decide) (norm_3 l Z a0 hw [] b_66 b_69 kb_66 kb_69 p1 p3 ((q5 >>> ((32 : Int32) &&& 0x3f).toInt64).toInt32) m0 m1 m2 T69.heap n0 z75 f73 P69_1) 0 (Nat.le_of_eq rfl) (by decide) (by decide) (by rw [hml]; rfl) (argsL := [(.ref b_66), (.ref b_69)]) (st := []) (lenOf pd_1 rfl) rfl rfl (by decide) (by decide) rfl hby at_75 ?_
          intro T74 v74 L74 X74 hQ74
          obtain ⟨r_74, kr_74, rfl, Nq74, K74, P74_0, P74_1⟩ := hQ74
          have N74 := Fr.app N69 Nq74
          have z76 : T69.heap.size ≤ T74.heap.size := K74.1
          have lt77 : T74.heap.size > r_74 := P74_1.lt
          refine own_sh (T := T74) 78 #[.val (.int p1), .val (.int m0), .val (.int p3), .val (.int m1), .val (.long q5), .second, .val (.int p6), .val (.int 3), .val (.int ((q5 >>> ((32 : Int32) &&& 0x3f).toInt64).toInt32)), .val (.int m2), .val (.ref b_66), .val (.ref b_69), .unset, .unset] [(.ref r_74)] ?_
          refine own_astore X74.here hx hby at_78 rfl (l' := #[.val (.int p1), .val (.int m0), .val (.int p3), .val (.int m1), .val (.long q5), .second, .val (.int p6), .val (.int 3), .val (.int ((q5 >>> ((32 : Int32) &&& 0x3f).toInt64).toInt32)), .val (.int m2), .val (.ref b_66), .val (.ref b_69), .val (.ref r_74), .unset]) rfl ?_
          refine own_aload X74.here hx hby at_80 rfl rfl ?_
          refine own_alen X74 hx hZ rfl P74_1 hby at_82 ?_
          refine own_iload X74.here hx hby at_83 rfl ?_
          refine own_icmpYes X74.here hx hby (pc' := 90) at_85 (teq (show (3 : Int32) = (3 : Int32) from (by decide))).1 (by decide) (by decide) ?_
          refine own_iconst X74.here hx hby at_90 (v := (1 : Int32)) (by decide) ?_
          refine own_istore X74.here hx hby at_91 (l' := #[.val (.int p1), .val (.int m0), .val (.int p3), .val (.int m1), .val (.long q5), .second, .val (.int p6), .val (.int 3), .val (.int ((q5 >>> ((32 : Int32) &&& 0x3f).toInt64).toInt32)), .val (.int m2), .val (.ref b_66), .val (.ref b_69), .val (.ref r_74), .val (.int 1)]) rfl ?_
          refine own_iload X74.here hx hby at_93 rfl ?_
          refine own_ifNo X74.here hx hby at_95 ((if0 _ _).trans (tlt (show (0 : Int32) < (3 : Int32) from (by decide))).2.2.2) ?_
          refine own_iload X74.here hx hby at_98 rfl ?_
          refine own_ifNo X74.here hx hby at_100 ((if0 _ _).trans (feq (show ¬ ((1 : Int32) = (0 : Int32)) from (by decide))).1) ?_
          refine own_aload X74.here hx hby at_103 rfl rfl ?_
          refine own_iconst X74.here hx hby at_105 (v := (0 : Int32)) (by decide) ?_
          refine own_daload X74 hx hZ rfl P74_1 ⟨by decide, by decide⟩ (v := (.double (own_exp p1 m0))) rfl hby at_106 ?_
          refine own_iloadN X74.here hx hby at_107 rfl ?_
          refine own_iloadN X74.here hx hby at_108 rfl ?_
          have z79 : n0 ≤ T74.heap.size := by omega
          refine own_callS X74 hx hZ hown (own_w hw 10 rfl) (own_w hw 11 rfl) (own_w hw 2 rfl) (own_w hw 12 rfl) (by decide) (exp_ l Z a0 hw [] p1 m0 T74.heap n0 z79 ) 2 (Nat.le_of_eq rfl) (by decide) (by decide) (by rw [hml]; rfl) (argsL := [(.int p1), (.int m0)]) (st := [(.double (own_exp p1 m0))]) (lenOf pd_2 rfl) rfl rfl (by decide) (by decide) rfl hby at_109 ?_
          intro T78 v78 L78 X78 hQ78
          obtain ⟨rfl, Nq78, eh78⟩ := hQ78
          have N78 := Fr.app N74 Nq78
          refine own_sh (T := T78) 112 #[.val (.int p1), .val (.int m0), .val (.int p3), .val (.int m1), .val (.long q5), .second, .val (.int p6), .val (.int 3), .val (.int ((q5 >>> ((32 : Int32) &&& 0x3f).toInt64).toInt32)), .val (.int m2), .val (.ref b_66), .val (.ref b_69), .val (.ref r_74), .val (.int 1)] [(.double (own_exp p1 m0)), (.double (own_exp p1 m0))] ?_
          refine own_dcmp X78.here hx hby at_112 (v := (0 : Int32)) (dcmpV_self (own_expN _ _) _) ?_
          refine own_ifNo X78.here hx hby at_113 ((if0 _ _).trans (teq (show (0 : Int32) = (0 : Int32) from (by decide))).2) ?_
          refine own_iconst X78.here hx hby at_116 (v := (1 : Int32)) (by decide) ?_
          refine own_goto X78.here hx hby (pc' := 121) at_117 (by decide) (by decide) ?_
          refine own_istore X78.here hx hby at_121 (l' := #[.val (.int p1), .val (.int m0), .val (.int p3), .val (.int m1), .val (.long q5), .second, .val (.int p6), .val (.int 3), .val (.int ((q5 >>> ((32 : Int32) &&& 0x3f).toInt64).toInt32)), .val (.int m2), .val (.ref b_66), .val (.ref b_69), .val (.ref r_74), .val (.int 1)]) rfl ?_
          refine own_iload X78.here hx hby at_123 rfl ?_
          refine own_iconst X78.here hx hby at_125 (v := (1 : Int32)) (by decide) ?_
          refine own_icmpNo X78.here hx hby at_126 (tlt (show (1 : Int32) < (3 : Int32) from (by decide))).2.2.2 ?_
          refine own_iload X78.here hx hby at_129 rfl ?_
          refine own_ifNo X78.here hx hby at_131 ((if0 _ _).trans (feq (show ¬ ((1 : Int32) = (0 : Int32)) from (by decide))).1) ?_
          refine own_aload X78.here hx hby at_134 rfl rfl ?_
          refine own_iconst X78.here hx hby at_136 (v := (1 : Int32)) (by decide) ?_
          refine own_daload X78 hx hZ eh78 P74_1 ⟨by decide, by decide⟩ (v := (.double (own_exp p3 m1))) rfl hby at_137 ?_
          refine own_iloadN X78.here hx hby at_138 rfl ?_
          refine own_iloadN X78.here hx hby at_139 rfl ?_
          refine own_callS X78 hx hZ hown (own_w hw 10 rfl) (own_w hw 11 rfl) (own_w hw 2 rfl) (own_w hw 12 rfl) (by decide) (exp_ l Z a0 hw [] p3 m1 T74.heap n0 z79 ) 2 (Nat.le_of_eq rfl) (by decide) (by decide) (by rw [hml]; rfl) (argsL := [(.int p3), (.int m1)]) (st := [(.double (own_exp p3 m1))]) (lenOf pd_2 rfl) rfl rfl (by decide) (by decide) eh78 hby at_140 ?_
          intro T80 v80 L80 X80 hQ80
          obtain ⟨rfl, Nq80, eh80⟩ := hQ80
          have N80 := Fr.app N78 Nq80
          refine own_sh (T := T80) 143 #[.val (.int p1), .val (.int m0), .val (.int p3), .val (.int m1), .val (.long q5), .second, .val (.int p6), .val (.int 3), .val (.int ((q5 >>> ((32 : Int32) &&& 0x3f).toInt64).toInt32)), .val (.int m2), .val (.ref b_66), .val (.ref b_69), .val (.ref r_74), .val (.int 1)] [(.double (own_exp p3 m1)), (.double (own_exp p3 m1))] ?_
          refine own_dcmp X80.here hx hby at_143 (v := (0 : Int32)) (dcmpV_self (own_expN _ _) _) ?_
          refine own_ifNo X80.here hx hby at_144 ((if0 _ _).trans (teq (show (0 : Int32) = (0 : Int32) from (by decide))).2) ?_
          refine own_iconst X80.here hx hby at_147 (v := (1 : Int32)) (by decide) ?_
          refine own_goto X80.here hx hby (pc' := 152) at_148 (by decide) (by decide) ?_
          refine own_istore X80.here hx hby at_152 (l' := #[.val (.int p1), .val (.int m0), .val (.int p3), .val (.int m1), .val (.long q5), .second, .val (.int p6), .val (.int 3), .val (.int ((q5 >>> ((32 : Int32) &&& 0x3f).toInt64).toInt32)), .val (.int m2), .val (.ref b_66), .val (.ref b_69), .val (.ref r_74), .val (.int 1)]) rfl ?_
          refine own_iload X80.here hx hby at_154 rfl ?_
          refine own_iconst X80.here hx hby at_156 (v := (2 : Int32)) (by decide) ?_
          refine own_icmpNo X80.here hx hby at_157 (tlt (show (2 : Int32) < (3 : Int32) from (by decide))).2.2.2 ?_
          refine own_iload X80.here hx hby at_160 rfl ?_
          refine own_ifNo X80.here hx hby at_162 ((if0 _ _).trans (feq (show ¬ ((1 : Int32) = (0 : Int32)) from (by decide))).1) ?_
          refine own_aload X80.here hx hby at_165 rfl rfl ?_
          refine own_iconst X80.here hx hby at_167 (v := (2 : Int32)) (by decide) ?_
          refine own_daload X80 hx hZ eh80 P74_1 ⟨by decide, by decide⟩ (v := (.double (own_exp ((q5 >>> ((32 : Int32) &&& 0x3f).toInt64).toInt32) m2))) rfl hby at_168 ?_
          refine own_iload X80.here hx hby at_169 rfl ?_
          refine own_iload X80.here hx hby at_171 rfl ?_
          refine own_callS X80 hx hZ hown (own_w hw 10 rfl) (own_w hw 11 rfl) (own_w hw 2 rfl) (own_w hw 12 rfl) (by decide) (exp_ l Z a0 hw [] ((q5 >>> ((32 : Int32) &&& 0x3f).toInt64).toInt32) m2 T74.heap n0 z79 ) 2 (Nat.le_of_eq rfl) (by decide) (by decide) (by rw [hml]; rfl) (argsL := [(.int ((q5 >>> ((32 : Int32) &&& 0x3f).toInt64).toInt32)), (.int m2)]) (st := [(.double (own_exp ((q5 >>> ((32 : Int32) &&& 0x3f).toInt64).toInt32) m2))]) (lenOf pd_2 rfl) rfl rfl (by decide) (by decide) eh80 hby at_173 ?_
          intro T81 v81 L81 X81 hQ81
          obtain ⟨rfl, Nq81, eh81⟩ := hQ81
          have N81 := Fr.app N80 Nq81
          refine own_sh (T := T81) 176 #[.val (.int p1), .val (.int m0), .val (.int p3), .val (.int m1), .val (.long q5), .second, .val (.int p6), .val (.int 3), .val (.int ((q5 >>> ((32 : Int32) &&& 0x3f).toInt64).toInt32)), .val (.int m2), .val (.ref b_66), .val (.ref b_69), .val (.ref r_74), .val (.int 1)] [(.double (own_exp ((q5 >>> ((32 : Int32) &&& 0x3f).toInt64).toInt32) m2)), (.double (own_exp ((q5 >>> ((32 : Int32) &&& 0x3f).toInt64).toInt32) m2))] ?_
          refine own_dcmp X81.here hx hby at_176 (v := (0 : Int32)) (dcmpV_self (own_expN _ _) _) ?_
          refine own_ifNo X81.here hx hby at_177 ((if0 _ _).trans (teq (show (0 : Int32) = (0 : Int32) from (by decide))).2) ?_
          refine own_iconst X81.here hx hby at_180 (v := (1 : Int32)) (by decide) ?_
          refine own_goto X81.here hx hby (pc' := 185) at_181 (by decide) (by decide) ?_
          refine own_istore X81.here hx hby at_185 (l' := #[.val (.int p1), .val (.int m0), .val (.int p3), .val (.int m1), .val (.long q5), .second, .val (.int p6), .val (.int 3), .val (.int ((q5 >>> ((32 : Int32) &&& 0x3f).toInt64).toInt32)), .val (.int m2), .val (.ref b_66), .val (.ref b_69), .val (.ref r_74), .val (.int 1)]) rfl ?_
          refine own_iload X81.here hx hby at_187 rfl ?_
          obtain ⟨fs, hr, hrun, hended, hW, hsame⟩ := X81.leave (v := some (.int 1)) (fun h => by rw [Bd.returns] at h; cases h)
          refine own_ret (t := T81.setFrames fs) ?_ ⟨_, hrun, hended, _, _, rfl, ?_, ⟨_, rfl⟩, hW, hsame.mono (by decide) (by decide)⟩
          · exact retN X81 hx (t := .boolean) Bd.returns (by simp) (hb hby at_189) hr
          · show Q_rm0 Z p1 p2 p3 p4 q5 p6 h0 n0 _ T81.heap _
            rw [eh81]
            exact ⟨rfl, N81, trivial⟩
        · intro J82
          refine own_iload X0.here hx hby at_38 rfl ?_
          refine own_bipush X0.here hx hby at_40 (v := (16 : Int32)) (by decide) ?_
          refine own_iand X0.here hx hby at_42 rfl ?_
          by_cases hc43_83 : (p6 &&& (16 : Int32)) = (0 : Int32)
          · refine own_ifYes X0.here hx hby (pc' := 49) at_43 ((if0 _ _).trans (teq hc43_83).1) (by decide) (by decide) ?_
            exact J82 (q5.toInt32)
          · refine own_ifNo X0.here hx hby at_43 ((if0 _ _).trans (feq hc43_83).1) ?_
            refine own_iconst X0.here hx hby at_46 (v := (0 : Int32)) (by decide) ?_
            refine own_istore X0.here hx hby at_47 (l' := #[.val (.int p1), .val (.int m0), .val (.int p3), .val (.int m1), .val (.long q5), .second, .val (.int p6), .val (.int 3), .val (.int ((q5 >>> ((32 : Int32) &&& 0x3f).toInt64).toInt32)), .val (.int 0), .unset, .unset, .unset, .unset]) rfl ?_
            exact J82 (0 : Int32)
      · intro J84
        refine own_iload X0.here hx hby at_28 rfl ?_
        refine own_bipush X0.here hx hby at_30 (v := (8 : Int32)) (by decide) ?_
        refine own_iand X0.here hx hby at_32 rfl ?_
        by_cases hc33_85 : (p6 &&& (8 : Int32)) = (0 : Int32)
        · refine own_ifYes X0.here hx hby (pc' := 38) at_33 ((if0 _ _).trans (teq hc33_85).1) (by decide) (by decide) ?_
          exact J84 p4
        · refine own_ifNo X0.here hx hby at_33 ((if0 _ _).trans (feq hc33_85).1) ?_
          refine own_iconst X0.here hx hby at_36 (v := (0 : Int32)) (by decide) ?_
          refine own_istoreN X0.here hx hby at_37 (l' := #[.val (.int p1), .val (.int m0), .val (.int p3), .val (.int 0), .val (.long q5), .second, .val (.int p6), .val (.int 3), .val (.int ((q5 >>> ((32 : Int32) &&& 0x3f).toInt64).toInt32)), .val (.int (q5.toInt32)), .unset, .unset, .unset, .unset]) rfl ?_
          exact J84 (0 : Int32)
    · intro J86
      refine own_iload X0.here hx hby at_19 rfl ?_
      refine own_iconst X0.here hx hby at_21 (v := (4 : Int32)) (by decide) ?_
      refine own_iand X0.here hx hby at_22 rfl ?_
      by_cases hc23_87 : (p6 &&& (4 : Int32)) = (0 : Int32)
      · refine own_ifYes X0.here hx hby (pc' := 28) at_23 ((if0 _ _).trans (teq hc23_87).1) (by decide) (by decide) ?_
        exact J86 p2
      · refine own_ifNo X0.here hx hby at_23 ((if0 _ _).trans (feq hc23_87).1) ?_
        refine own_iconst X0.here hx hby at_26 (v := (0 : Int32)) (by decide) ?_
        refine own_istoreN X0.here hx hby at_27 (l' := #[.val (.int p1), .val (.int 0), .val (.int p3), .val (.int p4), .val (.long q5), .second, .val (.int p6), .val (.int 3), .val (.int ((q5 >>> ((32 : Int32) &&& 0x3f).toInt64).toInt32)), .val (.int (q5.toInt32)), .unset, .unset, .unset, .unset]) rfl ?_
        exact J86 (0 : Int32)
set_option maxRecDepth 65536 in
set_option maxHeartbeats 40000000 in
theorem comes_1 {Post : Tables → Env → Array Value → State → Outcome → State → Prop} (hpost : ∀ tb e args s v u, (limb_1_1.after args s (.returned v) u = true ∧ limb_1_2.after args s (.returned v) u = true ∧ True) → FrameEnd s (.returned v) u (Jvm.fieldLocs frame_1_writes args s ++ Jvm.arrayLocs frame_1_arrays args s ++ Jvm.staticLocs frame_1_statics s) 16 128 → Post tb e args s (.returned v) u) :
    ArmFor flags0 classFile x code maxLocals ret World_1 tables_1 room_1 Calls_1 rest_1 Pre_1 Post := by
  intro l hfl _ _ p e ha hc hk s m args below hf hA hF happ hP
  obtain ⟨hcalls, hrest, hpre⟩ := hP
  obtain ⟨-, -, -, hnamed, -, -, -, hat⟩ := (Spec.applies_iff hf).mp happ
  obtain ⟨hg, hn⟩ := and_e (Cond.before_iff.mp (show (Jvm.Cond.and given_1 narrow_1).before args s = true from hpre))
  obtain ⟨g1, g2⟩ := and_e hg
  obtain ⟨g3, g4⟩ := and_e g2
  obtain ⟨g5, g6⟩ := and_e g4
  obtain ⟨g7, g8⟩ := and_e g6
  obtain ⟨g9, g10⟩ := and_e g8
  obtain ⟨g11, g12⟩ := and_e g10
  obtain ⟨w0, w1, w2, w3, w4, w5, rfl⟩ : ∃ w0 w1 w2 w3 w4 w5 : Value, args = #[w0, w1, w2, w3, w4, w5] := by
    have hs : args.size = 6 := by simpa [Cond.value, given_1] using g1
    obtain ⟨L⟩ := args
    match L, hs with
    | [w0, w1, w2, w3, w4, w5], _ => exact ⟨w0, w1, w2, w3, w4, w5, rfl⟩
  have hw := fun d (hd : d ∈ tables_1) => atoms_spec (ws := Jvm.Cond.code x code maxLocals ret :: tables_1) hat d (List.mem_cons_of_mem _ hd)
  have hfit : Fit s := fun {y c} hc i hi => by
    obtain ⟨ha, rfl⟩ := Array.getElem?_eq_some_iff.mp hc
    have q := List.all_eq_true.mp ((Array.all_eq_true_iff_forall_mem.mp hF) _ (Array.getElem_mem ha)) i (List.mem_range.mpr hi)
    simpa [Array.getElem?_eq_getElem hi] using q
  obtain ⟨i0, ei0⟩ := is_v g3
  obtain rfl : w0 = (.int i0) := Option.some.inj ei0
  obtain ⟨i1, ei1⟩ := is_v g5
  obtain rfl : w1 = (.int i1) := Option.some.inj ei1
  obtain ⟨i2, ei2⟩ := is_v g7
  obtain rfl : w2 = (.int i2) := Option.some.inj ei2
  obtain ⟨i3, ei3⟩ := is_v g9
  obtain rfl : w3 = (.int i3) := Option.some.inj ei3
  obtain ⟨i4, ei4⟩ := isL_v g11
  obtain rfl : w4 = (.long i4) := Option.some.inj ei4
  obtain ⟨i5, ei5⟩ := is_v g12
  obtain rfl : w5 = (.int i5) := Option.some.inj ei5
  obtain ⟨n, o, h1, h2, h3, _, L, rfl, ⟨rfl, N, -⟩, hq⟩ := rm0 l s _ hw tables_1 i0 i1 i2 i3 i4 i5 s.heap s.heap.size (Nat.le_refl _)  p e ha hc hk s m _ below hf ((Spec.applies_iff_loose hf).mp happ).1 ⟨rfl, State.Warmed39.refl s, rfl⟩ trivial
  refine ⟨n, _, h1, h2, h3, hpost _ _ _ _ _ _ ⟨Cond.after_iff.mpr rfl, Cond.after_iff.mpr (eq_i res_at (Term.int_eval (1)) rfl), trivial⟩ ⟨hq.1, hq.2.1, (hq.2.2.sift fun y hy => Or.inr (N y hy)).mono (by decide) (by decide)⟩⟩
theorem main_1_1 : Claimed_1_1 := comes_1 fun _ _ _ _ _ _ h hF => ⟨h.1, hF⟩
theorem main_1_2 : Claimed_1_2 := comes_1 fun _ _ _ _ _ _ h hF => ⟨h.2.1, hF⟩
end Jvm.Pilot.@@N@@
namespace Jvm.Pilot.@@N@@
open Jvm Jvm.ClassFile Sem Op Lib Jvm.Free Jvm.Stand Jvm.Pilot.@@N@@.Jvm.D
/-! MADE BY PROGRAM (witnessworld.py) out of the Statement's table words and the real class files: 10 classes; the members and pool entries that the words name. The judged class is class 1, her method 1. -/
namespace start1
open Jvm.ClassFile
def u (s : String) : CpInfo := .utf8 (stringToUtf16 s)
/-- a pool by its gaps: so many unusable entries, then the entry; so many at the end -/
def gap : Nat → List CpInfo → List CpInfo
  | 0, r => r
  | n + 1, r => .unusable :: gap n r
def poolList (es : List (Nat × CpInfo)) (last : Nat) : List CpInfo := es.foldr (fun e r => gap e.1 (e.2 :: r)) (gap last [])
def pool (es : List (Nat × CpInfo)) (last : Nat) : Array CpInfo := ⟨poolList es last⟩
def fileOf (pool : Array CpInfo) (this : Nat) (attrs : Array Attribute := #[]) (ms : Array MethodInfo := #[]) (fl : Nat := 33) (sup : Nat := 0) (ifs : Array Nat := #[]) (fds : Array FieldInfo := #[]) : ClassFile where
  minorVersion := 0
  majorVersion := 65
  constantPool := pool
  accessFlags := fl
  thisClass := this
  superClass := sup
  interfaces := ifs
  fields := fds
  methods := ms
  attributes := attrs
def plain (name : String) (sup : Option ClassId) : Class where
  name := name
  kind := .ordinary
  loader := none
  accessFlags := 33
  super := sup
  interfaces := #[]
  cf := none
  fields := #[]
  methods := #[]
  instanceTypes := #[]
  staticTypes := #[]
  resolved := #[]
  callSites := []
  init := .initialized
  statics := none
  mirror := none

def pool0 : Array CpInfo := pool [(5, u "<init>"), (0, u "()V"), (1, .class_ 10), (1, u "java/lang/Object")] 113

def k0m0 : Method := { name := "<init>", desc := "()V", sig := { parameters := [], returnType := none }, accessFlags := 1, code := none }
/-- java/lang/Object -/
def k0 : Class := { plain "java/lang/Object" none with
  accessFlags := 33
  interfaces := #[]
  cf := some (fileOf pool0 8 #[] #[{ accessFlags := 1, nameIndex := 5, descriptorIndex := 6, attributes := #[] }] 33 0 #[] #[])
  fields := #[]
  methods := #[k0m0]
  instanceTypes := #[]
  staticTypes := #[]
  resolved := Array.replicate 124 none
  statics := none }

def pool1 : Array CpInfo := pool [(2, .class_ 4), (1, u "java/lang/Object"), (0, u "<init>"), (0, u "()V"), (0, .methodref 8 9), (0, .class_ 10), (0, .nameAndType 11 12), (0, u "com/example/rank_to_reach/ranktoreach/RetrievabilityNormalisedPinLaw"), (0, u "take"), (0, u "(IIII)[I"), (0, .methodref 14 15), (0, .class_ 16), (0, .nameAndType 17 18), (0, u "com/example/rank_to_reach/ranktoreach/Retrievability"), (0, u "normalised"), (0, u "([I[I)[D"), (0, .methodref 8 20), (0, .nameAndType 21 22), (0, u "expected"), (0, u "(II)D"), (2, u "law"), (0, u "(IIIIJI)Z")] 7

def k1m0 : Method := { name := "<init>", desc := "()V", sig := { parameters := [], returnType := none }, accessFlags := 1, code := none }
def k1c1 : Code := { maxStack := 4, maxLocals := 14, code := code, exceptionTable := #[], attributes := #[] }
def k1m1 : Method := { name := "law", desc := "(IIIIJI)Z", sig := { parameters := [.int, .int, .int, .int, .long, .int], returnType := some .boolean }, accessFlags := 9, code := some k1c1 }
def k1c2 : Code := { maxStack := 4, maxLocals := 4, code := method_3_code, exceptionTable := #[], attributes := #[] }
def k1m2 : Method := { name := "take", desc := "(IIII)[I", sig := { parameters := [.int, .int, .int, .int], returnType := some (.array .int) }, accessFlags := 10, code := some k1c2 }
def k1c3 : Code := { maxStack := 4, maxLocals := 2, code := method_4_code, exceptionTable := #[], attributes := #[] }
def k1m3 : Method := { name := "expected", desc := "(II)D", sig := { parameters := [.int, .int], returnType := some .double }, accessFlags := 10, code := some k1c3 }
/-- com/example/rank_to_reach/ranktoreach/RetrievabilityNormalisedPinLaw -/
def k1 : Class := { plain "com/example/rank_to_reach/ranktoreach/RetrievabilityNormalisedPinLaw" (some 0) with
  accessFlags := 49
  interfaces := #[]
  cf := some (fileOf pool1 8 #[] #[{ accessFlags := 1, nameIndex := 5, descriptorIndex := 6, attributes := #[] }, { accessFlags := 9, nameIndex := 25, descriptorIndex := 26, attributes := #[] }, { accessFlags := 10, nameIndex := 11, descriptorIndex := 12, attributes := #[] }, { accessFlags := 10, nameIndex := 21, descriptorIndex := 22, attributes := #[] }] 49 2 #[] #[])
  fields := #[]
  methods := #[k1m0, k1m1, k1m2, k1m3]
  instanceTypes := #[]
  staticTypes := #[]
  resolved := Array.replicate 34 none
  statics := none }

def pool2 : Array CpInfo := pool [(1, .class_ 2), (0, u "com/example/rank_to_reach/ranktoreach/TrecRun$Visitor"), (0, .class_ 4), (0, u "java/lang/Object"), (5, .class_ 11), (0, u "com/example/rank_to_reach/ranktoreach/TrecRun")] 2

/-- com/example/rank_to_reach/ranktoreach/TrecRun$Visitor -/
def k2 : Class := { plain "com/example/rank_to_reach/ranktoreach/TrecRun$Visitor" (some 0) with
  accessFlags := 1536
  interfaces := #[]
  cf := some (fileOf pool2 1 #[.nestHost 10] #[] 1536 3 #[] #[])
  fields := #[]
  methods := #[]
  instanceTypes := #[]
  staticTypes := #[]
  resolved := Array.replicate 14 none
  statics := none }

def pool3 : Array CpInfo := pool [(2, .class_ 4), (1, u "java/lang/Object"), (3, .class_ 10), (1, u "com/example/rank_to_reach/ranktoreach/Retrievability"), (0, u "depth"), (0, u "J"), (3, u "[J"), (4, u "cutoffs"), (21, u "[D"), (2, u "betas"), (14, u "[[I"), (2, u "bands"), (1, u "[[D"), (2, u "gravity"), (8, u "bandOf"), (0, u "[I"), (6, u "weights"), (6, u "summed"), (0, u "Z"), (21, .class_ 117), (0, u "com/example/rank_to_reach/ranktoreach/TrecRun$Visitor"), (9, u "normalised"), (0, u "([I[I)[D")] 27

def k3c0 : Code := { maxStack := 6, maxLocals := 5, code := prog_49_method_5_code, exceptionTable := #[], attributes := #[] }
def k3m0 : Method := { name := "normalised", desc := "([I[I)[D", sig := { parameters := [(.array .int), (.array .int)], returnType := some (.array .double) }, accessFlags := 8, code := some k3c0 }
/-- com/example/rank_to_reach/ranktoreach/Retrievability -/
def k3 : Class := { plain "com/example/rank_to_reach/ranktoreach/Retrievability" (some 0) with
  accessFlags := 48
  interfaces := #[2]
  cf := some (fileOf pool3 8 #[] #[{ accessFlags := 8, nameIndex := 127, descriptorIndex := 128, attributes := #[] }] 48 2 #[116] #[{ accessFlags := 18, nameIndex := 11, descriptorIndex := 12, attributes := #[] }, { accessFlags := 18, nameIndex := 21, descriptorIndex := 16, attributes := #[] }, { accessFlags := 18, nameIndex := 64, descriptorIndex := 61, attributes := #[] }, { accessFlags := 18, nameIndex := 78, descriptorIndex := 79, attributes := #[] }, { accessFlags := 18, nameIndex := 46, descriptorIndex := 43, attributes := #[] }, { accessFlags := 18, nameIndex := 69, descriptorIndex := 66, attributes := #[] }, { accessFlags := 18, nameIndex := 86, descriptorIndex := 66, attributes := #[] }, { accessFlags := 2, nameIndex := 93, descriptorIndex := 94, attributes := #[] }])
  fields := #[{ name := "depth", type := .long, accessFlags := 18, slot := 0, constantValue := 0 }, { name := "cutoffs", type := (.array .long), accessFlags := 18, slot := 1, constantValue := 0 }, { name := "bands", type := (.array (.array .int)), accessFlags := 18, slot := 2, constantValue := 0 }, { name := "bandOf", type := (.array .int), accessFlags := 18, slot := 3, constantValue := 0 }, { name := "betas", type := (.array .double), accessFlags := 18, slot := 4, constantValue := 0 }, { name := "gravity", type := (.array (.array .double)), accessFlags := 18, slot := 5, constantValue := 0 }, { name := "weights", type := (.array (.array .double)), accessFlags := 18, slot := 6, constantValue := 0 }, { name := "summed", type := .boolean, accessFlags := 2, slot := 7, constantValue := 0 }]
  methods := #[k3m0]
  instanceTypes := #[.long, (.array .long), (.array (.array .int)), (.array .int), (.array .double), (.array (.array .double)), (.array (.array .double)), .boolean]
  staticTypes := #[]
  resolved := Array.replicate 156 none
  statics := none }

def pool4 : Array CpInfo := pool [(1, u "java/lang/Cloneable"), (0, .class_ 1), (0, u "java/lang/Object"), (0, .class_ 3)] 3

/-- java/lang/Cloneable -/
def k4 : Class := { plain "java/lang/Cloneable" (some 0) with
  accessFlags := 1537
  interfaces := #[]
  cf := some (fileOf pool4 2 #[] #[] 1537 4 #[] #[])
  fields := #[]
  methods := #[]
  instanceTypes := #[]
  staticTypes := #[]
  resolved := Array.replicate 8 none
  statics := none }

def pool5 : Array CpInfo := pool [(1, u "java/io/Serializable"), (0, .class_ 1), (0, u "java/lang/Object"), (0, .class_ 3)] 3

/-- java/io/Serializable -/
def k5 : Class := { plain "java/io/Serializable" (some 0) with
  accessFlags := 1537
  interfaces := #[]
  cf := some (fileOf pool5 2 #[] #[] 1537 4 #[] #[])
  fields := #[]
  methods := #[]
  instanceTypes := #[]
  staticTypes := #[]
  resolved := Array.replicate 8 none
  statics := none }

/-- the primitive byte -/
def k6 : Class := { plain "byte" none with kind := .primitive 'B', accessFlags := 0x411 }
/-- [B -/
def k7 : Class := { plain "[B" (some 0) with kind := .array 6 .byte, interfaces := #[4, 5], accessFlags := 1041 }

/-- the primitive int -/
def k8 : Class := { plain "int" none with kind := .primitive 'I', accessFlags := 0x411 }
/-- [I -/
def k9 : Class := { plain "[I" (some 0) with kind := .array 8 .int, interfaces := #[4, 5], accessFlags := 1041 }

def k10 : Class := { plain "double" none with kind := .primitive 'D', accessFlags := 0x411 }
def k11 : Class := { plain "[D" (some 0) with kind := .array 10 .double, interfaces := #[4, 5], accessFlags := 1041 }
def heap : Heap := #[]
def classes : Array Class := #[k0, k1, k2, k3, k4, k5, k6, k7, k8, k9, k10, k11]
def interned : List (Array UInt16 × Addr) := []
def slotsUsed : Nat := 0
def theMethod : MethodId := ⟨1, 1⟩
def args0 : Array Value := #[.int 1, .int 2, .int 3, .int 4, .long 5, .int 2]
def aboutOver (below : List Frame) : State where
  vm := { classes := classes, interned := interned.toArray }
  heap := heap
  slotsUsed := slotsUsed
  threads := #[{ frames := .invoking theMethod args0 :: below }]
def below0 : List Frame := [.native { method := ⟨0, 0⟩, args := #[] }]
def about1 : State := aboutOver below0
def p0 : Program := .bare "" "" ""
def e0 : Env := launch0.env 0 0 0
theorem w_frames : about1.frames = Frame.invoking theMethod args0 :: below0 := rfl
set_option maxRecDepth 65536 in
theorem w_args : argsFit about1.vm theMethod args0 = true := by decide +kernel
set_option maxRecDepth 65536 in
theorem w_heap : heapFits about1 = true := by decide +kernel
set_option maxRecDepth 65536 in
theorem w_runnable : about1.curStatus? = some .runnable := by decide +kernel
set_option maxRecDepth 65536 in
theorem w_alone : about1.alone = true := by decide +kernel
set_option maxRecDepth 65536 in
theorem w_named : about1.methodNamed? x = some theMethod := by decide +kernel
set_option maxRecDepth 65536 in
theorem w_hears : about1.hears theMethod below0 = true := by decide +kernel
set_option maxRecDepth 65536 in
theorem w_ripe : about1.ripe theMethod args0 below0 = true := by decide +kernel
theorem w_running : about1.status = .running := rfl
set_option maxRecDepth 65536 in
theorem w_room : about1.hasRoom e0.platform room_1 = true :=
  launch0.hasRoom_least _ room_1 (by decide +kernel) (by decide +kernel) (by decide +kernel) (by decide +kernel) (by decide +kernel) (by decide +kernel)
theorem allAtoms_all (ts : List Jvm.Cond) (a : Array Jvm.Value) (st : Jvm.State) : (allAtoms ts).before a st = ts.all (fun c => c.before a st) := by
  induction ts with
  | nil => rfl
  | cons c t ih =>
    show (Jvm.Cond.and c (allAtoms t)).before a st = _
    rw [Jvm.Cond.before_and, ih, List.all_cons]
def words1 : List Jvm.Cond := Jvm.Cond.code x code maxLocals ret :: tables_1
/-- a 'code' word, met by the world's own term for the bytes: nothing is compared byte by byte -/
theorem code_word {y : MethodName} {bytes : ByteArray} {mx : Nat} {rt : Option FieldType} {a : Array Value} {s : State} {m : MethodId} {meth : Method} {c : Code} (h1 : s.methodNamed? y = some m) (h2 : s.vm.method? m = some meth) (h3 : meth.code = some c) (h4 : c.code = bytes)
    (h5 : (c.maxLocals == mx && c.exceptionTable.isEmpty && decide (c.maxStack ≤ mostOperands) && decide (meth.sig.returnType = rt) && !meth.locks && decide (parseMethodDescriptor y.desc = some meth.sig)) = true) : (Jvm.Cond.code y bytes mx rt).before a s = true := by
  simp only [Bool.and_eq_true, beq_iff_eq, Bool.not_eq_true', decide_eq_true_eq] at h5
  obtain ⟨⟨⟨⟨⟨g1, g2⟩, g3⟩, g4⟩, g5⟩, g6⟩ := h5
  simp [Cond.before, Cond.holds, Cond.value, h1, h2, h3, h4, g1, g2, g3, g4, g5, g6]
def isCode : Jvm.Cond → Bool
  | .code _ _ _ _ => true
  | _ => false
theorem all_split {L : List Jvm.Cond} {P : Jvm.Cond → Bool} (h1 : L.all (fun c => isCode c || P c) = true) (h2 : ∀ c ∈ L.filter isCode, P c = true) : L.all P = true := by
  refine List.all_eq_true.mpr fun c hc => ?_
  have h := List.all_eq_true.mp h1 c hc
  rcases Bool.eq_false_or_eq_true (isCode c) with hi | hi
  · exact h2 c (List.mem_filter.mpr ⟨hc, hi⟩)
  · simpa [hi] using h
set_option maxRecDepth 65536 in
theorem w_c0 : (Jvm.Cond.code x code maxLocals ret).before args0 about1 = true := code_word (m := ⟨1, 1⟩) (meth := k1m1) (c := k1c1) (by decide +kernel) rfl rfl rfl (by decide +kernel)
set_option maxRecDepth 65536 in
theorem w_c1 : (Jvm.Cond.code ({ cls := "com/example/rank_to_reach/ranktoreach/RetrievabilityNormalisedPinLaw", name := "take", desc := "(IIII)[I" } : Jvm.MethodName) method_3_code (4 : Nat) (Option.some (Jvm.ClassFile.FieldType.array Jvm.ClassFile.FieldType.int))).before args0 about1 = true := code_word (m := ⟨1, 2⟩) (meth := k1m2) (c := k1c2) (by decide +kernel) rfl rfl rfl (by decide +kernel)
set_option maxRecDepth 65536 in
theorem w_c2 : (Jvm.Cond.code ({ cls := "com/example/rank_to_reach/ranktoreach/Retrievability", name := "normalised", desc := "([I[I)[D" } : Jvm.MethodName) prog_49_method_5_code (5 : Nat) (Option.some (Jvm.ClassFile.FieldType.array Jvm.ClassFile.FieldType.double))).before args0 about1 = true := code_word (m := ⟨3, 0⟩) (meth := k3m0) (c := k3c0) (by decide +kernel) rfl rfl rfl (by decide +kernel)
set_option maxRecDepth 65536 in
theorem w_c3 : (Jvm.Cond.code ({ cls := "com/example/rank_to_reach/ranktoreach/RetrievabilityNormalisedPinLaw", name := "expected", desc := "(II)D" } : Jvm.MethodName) method_4_code (2 : Nat) (Option.some Jvm.ClassFile.FieldType.double)).before args0 about1 = true := code_word (m := ⟨1, 3⟩) (meth := k1m3) (c := k1c3) (by decide +kernel) rfl rfl rfl (by decide +kernel)
def codes1 : List Jvm.Cond := [Jvm.Cond.code x code maxLocals ret, Jvm.Cond.code ({ cls := "com/example/rank_to_reach/ranktoreach/RetrievabilityNormalisedPinLaw", name := "take", desc := "(IIII)[I" } : Jvm.MethodName) method_3_code (4 : Nat) (Option.some (Jvm.ClassFile.FieldType.array Jvm.ClassFile.FieldType.int)), Jvm.Cond.code ({ cls := "com/example/rank_to_reach/ranktoreach/Retrievability", name := "normalised", desc := "([I[I)[D" } : Jvm.MethodName) prog_49_method_5_code (5 : Nat) (Option.some (Jvm.ClassFile.FieldType.array Jvm.ClassFile.FieldType.double)), Jvm.Cond.code ({ cls := "com/example/rank_to_reach/ranktoreach/RetrievabilityNormalisedPinLaw", name := "expected", desc := "(II)D" } : Jvm.MethodName) method_4_code (2 : Nat) (Option.some Jvm.ClassFile.FieldType.double)]
set_option maxRecDepth 65536 in
theorem codes_eq : words1.filter isCode = codes1 := rfl
theorem w_codes : ∀ c ∈ words1.filter isCode, c.before args0 about1 = true := by
  rw [codes_eq]
  intro c hc
  simp only [codes1, List.mem_cons, List.not_mem_nil, or_false] at hc
  rcases hc with rfl | rfl | rfl | rfl
  · exact w_c0
  · exact w_c1
  · exact w_c2
  · exact w_c3
set_option maxRecDepth 65536 in
theorem w_t1 : words1.all (fun c => isCode c || c.before args0 about1) = true := by decide +kernel
theorem w_tables : (allAtoms (Jvm.Cond.code x code maxLocals ret :: tables_1)).before args0 about1 = true := by
  rw [allAtoms_all]
  show words1.all (fun c => c.before args0 about1) = true
  refine all_split ?_ w_codes
  rw [w_t1]
set_option maxRecDepth 65536 in
theorem w_case : (Jvm.Cond.and given_1 narrow_1).before args0 about1 = true := by decide +kernel
theorem w_applies : (headSpec (Jvm.Cond.code x code maxLocals ret :: tables_1) room_1).applies x e0.platform about1 = true :=
  (Spec.applies_iff w_frames).mpr ⟨w_running, w_runnable, w_alone, w_named, w_hears, w_ripe, w_room, w_tables⟩
theorem atStart : AtStart classFile x code maxLocals ret World_1 tables_1 room_1 Calls_1 rest_1 Pre_1 launch0 p0 e0 about1 theMethod args0 below0 :=
  ⟨lists_1, trivial, launch0.admits_env _ _ _, launch0.least_env, fairChoices_fair.cas, fairChoices_fair.clock, w_frames, w_args, w_heap, w_applies, trivial, trivial, w_case⟩
end start1
theorem witness_1 : WitnessClaimed_1 := ⟨start1.p0, start1.e0, start1.about1, start1.theMethod, start1.args0, start1.below0, start1.atStart⟩
end Jvm.Pilot.@@N@@
