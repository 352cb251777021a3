import JvmDerived
import JvmDerived.Pilot.@@N@@Statement
import JvmDerived.Pilot.@@N@@Code
set_option linter.unusedVariables false
set_option linter.unusedSimpArgs false
namespace Jvm.Pilot.@@N@@
open Jvm Jvm.ClassFile Sem Op Lib Jvm.Free Jvm.Stand Jvm.LawKit Jvm.RoadKit Bundle Jvm.Pilot.@@N@@.Jvm.D
def own_Go (tb : Tables) (e : Env) (below : List Frame) (P : State → Prop) (A : State) : Prop := ∃ t, Steps tb e below A t ∧ P t
theorem own_go {tb : Tables} {e : Env} {below : List Frame} {P : State → Prop} {A B : State} (h : ∀ t, Steps tb e below B t → Steps tb e below A t) (g : own_Go tb e below P B) : own_Go tb e below P A := by
  obtain ⟨t, h1, h2⟩ := g
  exact ⟨t, h t h1, h2⟩
theorem own_fin {tb : Tables} {e : Env} {below : List Frame} {A : State} {Qq : Outcome → State → Prop} (g : own_Go tb e below (fun t => ∃ o, t.status = .running ∧ Ended t below o ∧ Qq o t) A) : ∃ t o, Steps tb e below A t ∧ t.status = .running ∧ Ended t below o ∧ Qq o t := by
  obtain ⟨t, h1, o, h2, h3, h4⟩ := g
  exact ⟨t, o, h1, h2, h3, h4⟩
theorem own_ret {tb : Tables} {e : Env} {below : List Frame} {P : State → Prop} {A t : State} (h : Steps tb e below A t) (q : P t) : own_Go tb e below P A := ⟨t, h, q⟩
def own_M (l : Launch) (y : MethodName) (bytes : ByteArray) (maxL : Nat) (ret : Option FieldType) (ws : List Jvm.Cond) (rm : Room) (Z : State) (as : Array Value) (h0 : Heap) (Q : Option Value → Heap → List Loc → Prop) : Prop := MetFree l y (head1 (Jvm.Cond.code y bytes maxL ret :: ws) rm) (fun aR UR => aR = as ∧ Z.Warmed39 UR.vm ∧ UR.heap = h0) (fun _ _ _ _ _ => True) (fun _ UR oR UR' => ∃ vR LR, oR = .returned vR ∧ Q vR UR'.heap LR ∧ FrameEnd UR oR UR' LR rm.cells rm.slots)
theorem own_body {l : Launch} {y : MethodName} {bytes : ByteArray} {maxL : Nat} {ret : Option FieldType} {ws : List Jvm.Cond} {rm : Room} {Z : State} {as : Array Value} {h0 : Heap} {Q : Option Value → Heap → List Loc → Prop} {own : String} {f : MethodId → JFrame} (ho : y.cls = own) (hx : plainFor y = true) (ef : ∀ m, entryFrame m as maxL = f m) (k : ∀ (p : Program) (e : Env) (s : State) (m : MethodId) (below : List Frame) (meth : Method) (c : Code) (s₁ : State), BodyLoose p l y (head1 (Jvm.Cond.code y bytes maxL ret :: ws) rm) bytes maxL ret e s m as below meth c s₁ → c.maxLocals = maxL → Z.Warmed39 s.vm → s.heap = h0 → p.tables.exec = Jvm.exec → c.code = bytes → s.vm.findClass own = some m.cls → Stand p l e rm s m as below meth c s₁ [] 0 0 → s₁.heap = h0 → own_Go p.tables e below (fun t => ∃ o, t.status = .running ∧ Ended t below o ∧ ∃ vR LR, o = .returned vR ∧ Q vR t.heap LR ∧ FrameEnd s o t LR rm.cells rm.slots) (s₁.setTop (f m))) : own_M l y bytes maxL ret ws rm Z as h0 Q := by
  subst ho
  refine MetFree.of_bodySF hx hisR ?_
  intro p e s m args below meth c s₁ Bd hml hP hK
  obtain ⟨rfl, hZ, hh⟩ := hP
  exact own_fin (own_go (fun tT kK => castTop (ef m) kK) (k p e s m below meth c s₁ Bd hml hZ hh Bd.exec Bd.bytes (findClass_of_methodNamed Bd.named) (Stand.of_body Bd) (by rw [← hh, Bd.state]; rfl)))
theorem own_sh {tb : Tables} {e : Env} {below : List Frame} {P : State → Prop} {T : State} {m : MethodId} (pc : Nat) (Ls : Array Slot) (st : List Value) (g : own_Go tb e below P (T.setTop (mkF m pc Ls st))) : own_Go tb e below P (T.setTop (mkF m pc Ls st)) := g
theorem own_nn {a b : Nat} (h : ¬ a = b) : a ≠ b := h
theorem own_w {Z : State} {a0 : Array Value} {tab : List Jvm.Cond} (hw : ∀ d ∈ tab, d.before a0 Z = true) (i : Nat) {d : Jvm.Cond} (h : tab[i]? = some d) : d.before a0 Z = true := hw d (List.mem_of_getElem? h)
theorem own_iloadN {tb : Tables} [Ours tb] {e : Env} {below : List Frame} {T : State} {m : MethodId} {c : Code} {P : State → Prop} {pc : Nat} {Ls : Array Slot} {st : List Value} {bc : ByteArray} (h : At T m c below) (hx : tb.exec = Jvm.exec) (hby : c.code = bc) {k : Fin 4} {v : Int32} (hd : decode bc pc = .ok (.iload_n k, 1)) (hl : Ls[k.val]? = some (.val (.int v))) (g : own_Go tb e below P (T.setTop (mkF m (pc + 1) Ls ((.int v) :: st)))) : own_Go tb e below P (T.setTop (mkF m pc Ls (st))) := own_go (fun t k => XS.iloadN h hx rfl (hb hby hd) hl k) g
theorem own_iload {tb : Tables} [Ours tb] {e : Env} {below : List Frame} {T : State} {m : MethodId} {c : Code} {P : State → Prop} {pc : Nat} {Ls : Array Slot} {st : List Value} {bc : ByteArray} (h : At T m c below) (hx : tb.exec = Jvm.exec) (hby : c.code = bc) {k : Nat} {v : Int32} (hd : decode bc pc = .ok (.iload k, 2)) (hl : Ls[k]? = some (.val (.int v))) (g : own_Go tb e below P (T.setTop (mkF m (pc + 2) Ls ((.int v) :: st)))) : own_Go tb e below P (T.setTop (mkF m pc Ls (st))) := own_go (fun t k => XS.iload h hx rfl (hb hby hd) hl k) g
theorem own_aloadN {tb : Tables} [Ours tb] {e : Env} {below : List Frame} {T : State} {m : MethodId} {c : Code} {P : State → Prop} {pc : Nat} {Ls : Array Slot} {st : List Value} {bc : ByteArray} (h : At T m c below) (hx : tb.exec = Jvm.exec) (hby : c.code = bc) {k : Fin 4} {v : Value} (hd : decode bc pc = .ok (.aload_n k, 1)) (hl : Ls[k.val]? = some (.val v)) (hv : v.isRef = true) (g : own_Go tb e below P (T.setTop (mkF m (pc + 1) Ls (v :: st)))) : own_Go tb e below P (T.setTop (mkF m pc Ls (st))) := own_go (fun t k => XS.aloadN h hx rfl (hb hby hd) hl hv k) g
theorem own_aload {tb : Tables} [Ours tb] {e : Env} {below : List Frame} {T : State} {m : MethodId} {c : Code} {P : State → Prop} {pc : Nat} {Ls : Array Slot} {st : List Value} {bc : ByteArray} (h : At T m c below) (hx : tb.exec = Jvm.exec) (hby : c.code = bc) {k : Nat} {v : Value} (hd : decode bc pc = .ok (.aload k, 2)) (hl : Ls[k]? = some (.val v)) (hv : v.isRef = true) (g : own_Go tb e below P (T.setTop (mkF m (pc + 2) Ls (v :: st)))) : own_Go tb e below P (T.setTop (mkF m pc Ls (st))) := own_go (fun t k => XS.aload h hx rfl (hb hby hd) hl hv k) g
theorem own_istoreN {tb : Tables} [Ours tb] {e : Env} {below : List Frame} {T : State} {m : MethodId} {c : Code} {P : State → Prop} {pc : Nat} {Ls : Array Slot} {st : List Value} {bc : ByteArray} (h : At T m c below) (hx : tb.exec = Jvm.exec) (hby : c.code = bc) {k : Fin 4} {x : Int32} {l' : Array Slot} (hd : decode bc pc = .ok (.istore_n k, 1)) (hl : storeLocals Ls k.val (.int x) = some l') (g : own_Go tb e below P (T.setTop (mkF m (pc + 1) l' (st)))) : own_Go tb e below P (T.setTop (mkF m pc Ls ((.int x) :: st))) := own_go (fun t k => XS.istoreN h hx rfl (hb hby hd) rfl hl k) g
theorem own_istore {tb : Tables} [Ours tb] {e : Env} {below : List Frame} {T : State} {m : MethodId} {c : Code} {P : State → Prop} {pc : Nat} {Ls : Array Slot} {st : List Value} {bc : ByteArray} (h : At T m c below) (hx : tb.exec = Jvm.exec) (hby : c.code = bc) {k : Nat} {x : Int32} {l' : Array Slot} (hd : decode bc pc = .ok (.istore k, 2)) (hl : storeLocals Ls k (.int x) = some l') (g : own_Go tb e below P (T.setTop (mkF m (pc + 2) l' (st)))) : own_Go tb e below P (T.setTop (mkF m pc Ls ((.int x) :: st))) := own_go (fun t k => XS.istore h hx rfl (hb hby hd) rfl hl k) g
theorem own_astoreN {tb : Tables} [Ours tb] {e : Env} {below : List Frame} {T : State} {m : MethodId} {c : Code} {P : State → Prop} {pc : Nat} {Ls : Array Slot} {st : List Value} {bc : ByteArray} (h : At T m c below) (hx : tb.exec = Jvm.exec) (hby : c.code = bc) {k : Fin 4} {x : Value} {l' : Array Slot} (hd : decode bc pc = .ok (.astore_n k, 1)) (hv : x.isRef = true) (hl : storeLocals Ls k.val x = some l') (g : own_Go tb e below P (T.setTop (mkF m (pc + 1) l' (st)))) : own_Go tb e below P (T.setTop (mkF m pc Ls (x :: st))) := own_go (fun t k => XS.astoreN h hx rfl (hb hby hd) rfl hv hl k) g
theorem own_astore {tb : Tables} [Ours tb] {e : Env} {below : List Frame} {T : State} {m : MethodId} {c : Code} {P : State → Prop} {pc : Nat} {Ls : Array Slot} {st : List Value} {bc : ByteArray} (h : At T m c below) (hx : tb.exec = Jvm.exec) (hby : c.code = bc) {k : Nat} {x : Value} {l' : Array Slot} (hd : decode bc pc = .ok (.astore k, 2)) (hv : x.isRef = true) (hl : storeLocals Ls k x = some l') (g : own_Go tb e below P (T.setTop (mkF m (pc + 2) l' (st)))) : own_Go tb e below P (T.setTop (mkF m pc Ls (x :: st))) := own_go (fun t k => XS.astore h hx rfl (hb hby hd) rfl hv hl k) g
theorem own_iconst {tb : Tables} [Ours tb] {e : Env} {below : List Frame} {T : State} {m : MethodId} {c : Code} {P : State → Prop} {pc : Nat} {Ls : Array Slot} {st : List Value} {bc : ByteArray} (h : At T m c below) (hx : tb.exec = Jvm.exec) (hby : c.code = bc) {i : Int} {v : Int32} (hd : decode bc pc = .ok (.iconst i, 1)) (hv : Int32.ofInt i = v) (g : own_Go tb e below P (T.setTop (mkF m (pc + 1) Ls ((.int v) :: st)))) : own_Go tb e below P (T.setTop (mkF m pc Ls st)) := by
  subst hv
  exact own_go (fun t k => XS.iconst h hx rfl (hb hby hd) k) g
theorem own_bipush {tb : Tables} [Ours tb] {e : Env} {below : List Frame} {T : State} {m : MethodId} {c : Code} {P : State → Prop} {pc : Nat} {Ls : Array Slot} {st : List Value} {bc : ByteArray} (h : At T m c below) (hx : tb.exec = Jvm.exec) (hby : c.code = bc) {i : Int} {v : Int32} (hd : decode bc pc = .ok (.bipush i, 2)) (hv : (Int8.ofInt i).toInt32 = v) (g : own_Go tb e below P (T.setTop (mkF m (pc + 2) Ls ((.int v) :: st)))) : own_Go tb e below P (T.setTop (mkF m pc Ls st)) := by
  subst hv
  exact own_go (fun t k => XS.bipush h hx rfl (hb hby hd) k) g
theorem own_sipush {tb : Tables} [Ours tb] {e : Env} {below : List Frame} {T : State} {m : MethodId} {c : Code} {P : State → Prop} {pc : Nat} {Ls : Array Slot} {st : List Value} {bc : ByteArray} (h : At T m c below) (hx : tb.exec = Jvm.exec) (hby : c.code = bc) {i : Int} {v : Int32} (hd : decode bc pc = .ok (.sipush i, 3)) (hv : (Int16.ofInt i).toInt32 = v) (g : own_Go tb e below P (T.setTop (mkF m (pc + 3) Ls ((.int v) :: st)))) : own_Go tb e below P (T.setTop (mkF m pc Ls st)) := by
  subst hv
  exact own_go (fun t k => XS.sipush h hx rfl (hb hby hd) k) g
theorem own_iadd {tb : Tables} [Ours tb] {e : Env} {below : List Frame} {T : State} {m : MethodId} {c : Code} {P : State → Prop} {pc : Nat} {Ls : Array Slot} {st : List Value} {bc : ByteArray} (h : At T m c below) (hx : tb.exec = Jvm.exec) (hby : c.code = bc) {x y v : Int32} (hd : decode bc pc = .ok (.iadd, 1)) (hv : (x + y) = v) (g : own_Go tb e below P (T.setTop (mkF m (pc + 1) Ls ((.int v) :: st)))) : own_Go tb e below P (T.setTop (mkF m pc Ls ((.int y) :: (.int x) :: st))) := by
  subst hv
  exact own_go (fun t k => XS.iadd h hx rfl (hb hby hd) rfl k) g
theorem own_isub {tb : Tables} [Ours tb] {e : Env} {below : List Frame} {T : State} {m : MethodId} {c : Code} {P : State → Prop} {pc : Nat} {Ls : Array Slot} {st : List Value} {bc : ByteArray} (h : At T m c below) (hx : tb.exec = Jvm.exec) (hby : c.code = bc) {x y v : Int32} (hd : decode bc pc = .ok (.isub, 1)) (hv : (x - y) = v) (g : own_Go tb e below P (T.setTop (mkF m (pc + 1) Ls ((.int v) :: st)))) : own_Go tb e below P (T.setTop (mkF m pc Ls ((.int y) :: (.int x) :: st))) := by
  subst hv
  exact own_go (fun t k => XS.isub h hx rfl (hb hby hd) rfl k) g
theorem own_imul {tb : Tables} [Ours tb] {e : Env} {below : List Frame} {T : State} {m : MethodId} {c : Code} {P : State → Prop} {pc : Nat} {Ls : Array Slot} {st : List Value} {bc : ByteArray} (h : At T m c below) (hx : tb.exec = Jvm.exec) (hby : c.code = bc) {x y v : Int32} (hd : decode bc pc = .ok (.imul, 1)) (hv : (x * y) = v) (g : own_Go tb e below P (T.setTop (mkF m (pc + 1) Ls ((.int v) :: st)))) : own_Go tb e below P (T.setTop (mkF m pc Ls ((.int y) :: (.int x) :: st))) := by
  subst hv
  exact own_go (fun t k => XS.imul h hx rfl (hb hby hd) rfl k) g
theorem own_iand {tb : Tables} [Ours tb] {e : Env} {below : List Frame} {T : State} {m : MethodId} {c : Code} {P : State → Prop} {pc : Nat} {Ls : Array Slot} {st : List Value} {bc : ByteArray} (h : At T m c below) (hx : tb.exec = Jvm.exec) (hby : c.code = bc) {x y v : Int32} (hd : decode bc pc = .ok (.iand, 1)) (hv : (x &&& y) = v) (g : own_Go tb e below P (T.setTop (mkF m (pc + 1) Ls ((.int v) :: st)))) : own_Go tb e below P (T.setTop (mkF m pc Ls ((.int y) :: (.int x) :: st))) := by
  subst hv
  exact own_go (fun t k => XS.iand h hx rfl (hb hby hd) rfl k) g
theorem own_ior {tb : Tables} [Ours tb] {e : Env} {below : List Frame} {T : State} {m : MethodId} {c : Code} {P : State → Prop} {pc : Nat} {Ls : Array Slot} {st : List Value} {bc : ByteArray} (h : At T m c below) (hx : tb.exec = Jvm.exec) (hby : c.code = bc) {x y v : Int32} (hd : decode bc pc = .ok (.ior, 1)) (hv : (x ||| y) = v) (g : own_Go tb e below P (T.setTop (mkF m (pc + 1) Ls ((.int v) :: st)))) : own_Go tb e below P (T.setTop (mkF m pc Ls ((.int y) :: (.int x) :: st))) := by
  subst hv
  exact own_go (fun t k => XS.ior h hx rfl (hb hby hd) rfl k) g
theorem own_iushr {tb : Tables} [Ours tb] {e : Env} {below : List Frame} {T : State} {m : MethodId} {c : Code} {P : State → Prop} {pc : Nat} {Ls : Array Slot} {st : List Value} {bc : ByteArray} (h : At T m c below) (hx : tb.exec = Jvm.exec) (hby : c.code = bc) {x y v : Int32} (hd : decode bc pc = .ok (.iushr, 1)) (hv : ((x.toUInt32 >>> (y &&& 31).toUInt32).toInt32) = v) (g : own_Go tb e below P (T.setTop (mkF m (pc + 1) Ls ((.int v) :: st)))) : own_Go tb e below P (T.setTop (mkF m pc Ls ((.int y) :: (.int x) :: st))) := by
  subst hv
  exact own_go (fun t k => XS.iushr h hx rfl (hb hby hd) rfl k) g
theorem own_i2b {tb : Tables} [Ours tb] {e : Env} {below : List Frame} {T : State} {m : MethodId} {c : Code} {P : State → Prop} {pc : Nat} {Ls : Array Slot} {st : List Value} {bc : ByteArray} (h : At T m c below) (hx : tb.exec = Jvm.exec) (hby : c.code = bc) {x : Int32} {v : Int32} (hd : decode bc pc = .ok (.i2b, 1)) (hv : (x.toInt8.toInt32) = v) (g : own_Go tb e below P (T.setTop (mkF m (pc + 1) Ls ((.int v) :: st)))) : own_Go tb e below P (T.setTop (mkF m pc Ls ((.int x) :: st))) := by
  subst hv
  exact own_go (fun t k => XS.i2b h hx rfl (hb hby hd) rfl k) g
theorem own_irem {tb : Tables} [Ours tb] {e : Env} {below : List Frame} {T : State} {m : MethodId} {c : Code} {P : State → Prop} {pc : Nat} {Ls : Array Slot} {st : List Value} {bc : ByteArray} (h : At T m c below) (hx : tb.exec = Jvm.exec) (hby : c.code = bc) {x y v : Int32} (hd : decode bc pc = .ok (.irem, 1)) (hy : y ≠ 0) (hv : (x % y) = v) (g : own_Go tb e below P (T.setTop (mkF m (pc + 1) Ls ((.int v) :: st)))) : own_Go tb e below P (T.setTop (mkF m pc Ls ((.int y) :: (.int x) :: st))) := by
  subst hv
  refine own_go (fun t k => XS.irem h hx rfl (hb hby hd) rfl hy ?_) g
  rw [irem_eq_mod x y]; exact k
theorem own_dup {tb : Tables} [Ours tb] {e : Env} {below : List Frame} {T : State} {m : MethodId} {c : Code} {P : State → Prop} {pc : Nat} {Ls : Array Slot} {st : List Value} {bc : ByteArray} (h : At T m c below) (hx : tb.exec = Jvm.exec) (hby : c.code = bc) {x : Value} (hd : decode bc pc = .ok (.dup, 1)) (hc : x.category = 1) (g : own_Go tb e below P (T.setTop (mkF m (pc + 1) Ls (x :: x :: st)))) : own_Go tb e below P (T.setTop (mkF m pc Ls (x :: st))) := own_go (fun t k => XS.dup h hx rfl (hb hby hd) rfl hc k) g
theorem own_dupX1 {tb : Tables} [Ours tb] {e : Env} {below : List Frame} {T : State} {m : MethodId} {c : Code} {P : State → Prop} {pc : Nat} {Ls : Array Slot} {st : List Value} {bc : ByteArray} (h : At T m c below) (hx : tb.exec = Jvm.exec) (hby : c.code = bc) {x y : Value} (hd : decode bc pc = .ok (.dup_x1, 1)) (hc : x.category = 1) (hc' : y.category = 1) (g : own_Go tb e below P (T.setTop (mkF m (pc + 1) Ls (x :: y :: x :: st)))) : own_Go tb e below P (T.setTop (mkF m pc Ls (x :: y :: st))) := own_go (fun t k => XS.dupX1 h hx rfl (hb hby hd) rfl hc hc' k) g
theorem own_goto {tb : Tables} [Ours tb] {e : Env} {below : List Frame} {T : State} {m : MethodId} {c : Code} {P : State → Prop} {pc : Nat} {Ls : Array Slot} {st : List Value} {bc : ByteArray} (h : At T m c below) (hx : tb.exec = Jvm.exec) (hby : c.code = bc) {o : Int} {pc' : Nat} (hd : decode bc pc = .ok (.goto o, 3)) (ho : 0 ≤ (pc : Int) + o) (hp : ((pc : Int) + o).toNat = pc') (g : own_Go tb e below P (T.setTop (mkF m pc' Ls st))) : own_Go tb e below P (T.setTop (mkF m pc Ls st)) := own_go (fun t k => XS.goto h hx rfl (pc0 := pc) rfl (hb hby hd) ho hp k) g
theorem own_ifNo {tb : Tables} [Ours tb] {e : Env} {below : List Frame} {T : State} {m : MethodId} {c : Code} {P : State → Prop} {pc : Nat} {Ls : Array Slot} {st : List Value} {bc : ByteArray} (h : At T m c below) (hx : tb.exec = Jvm.exec) (hby : c.code = bc) {cd : ClassFile.Cond} {o : Int} {x : Int32} (hd : decode bc pc = .ok (.ifCond cd o, 3)) (hc : ifCond.holds cd x = false) (g : own_Go tb e below P (T.setTop (mkF m (pc + 3) Ls st))) : own_Go tb e below P (T.setTop (mkF m pc Ls ((.int x) :: st))) := own_go (fun t k => XS.ifNo h hx rfl (hb hby hd) rfl hc k) g
theorem own_icmpYes {tb : Tables} [Ours tb] {e : Env} {below : List Frame} {T : State} {m : MethodId} {c : Code} {P : State → Prop} {pc : Nat} {Ls : Array Slot} {st : List Value} {bc : ByteArray} (h : At T m c below) (hx : tb.exec = Jvm.exec) (hby : c.code = bc) {cd : ClassFile.Cond} {o : Int} {pc' : Nat} {x y : Int32} (hd : decode bc pc = .ok (.if_icmp cd o, 3)) (hc : if_icmp.holds cd x y = true) (ho : 0 ≤ (pc : Int) + o) (hp : ((pc : Int) + o).toNat = pc') (g : own_Go tb e below P (T.setTop (mkF m pc' Ls st))) : own_Go tb e below P (T.setTop (mkF m pc Ls ((.int y) :: (.int x) :: st))) := own_go (fun t k => XS.icmpYes h hx rfl (pc0 := pc) rfl (hb hby hd) rfl hc ho hp k) g
theorem own_icmpNo {tb : Tables} [Ours tb] {e : Env} {below : List Frame} {T : State} {m : MethodId} {c : Code} {P : State → Prop} {pc : Nat} {Ls : Array Slot} {st : List Value} {bc : ByteArray} (h : At T m c below) (hx : tb.exec = Jvm.exec) (hby : c.code = bc) {cd : ClassFile.Cond} {o : Int} {x y : Int32} (hd : decode bc pc = .ok (.if_icmp cd o, 3)) (hc : if_icmp.holds cd x y = false) (g : own_Go tb e below P (T.setTop (mkF m (pc + 3) Ls st))) : own_Go tb e below P (T.setTop (mkF m pc Ls ((.int y) :: (.int x) :: st))) := own_go (fun t k => XS.icmpNo h hx rfl (hb hby hd) rfl hc k) g
section OwnGo
variable {p : Program} {l : Launch} {e : Env} {R : Room} {s : State} {m : MethodId} {args : Array Value} {below : List Frame} {meth : Method} {c : Code} {T : State} {locs : List Loc} {cells slots : Nat} {Z : State} {a0 : Array Value} {h : Heap} {P : State → Prop} {pc : Nat} {Ls : Array Slot} {st : List Value} {bc : ByteArray} {n0 : Nat}
theorem own_getF (X : Stand p l e R s m args below meth c T locs cells slots) (hx : p.tables.exec = Jvm.exec) (hZ : Z.Warmed39 s.vm) {own R0 O n d host : String} {index : Nat} (hown : s.vm.findClass own = some m.cls) (w : (Cond.fieldLink own index R0 n d).before a0 Z = true ∨ (Cond.fieldLinkNest own index R0 n d host).before a0 Z = true) (via : Via Z R0 O n d) (eT : T.heap = h) {a : Addr} {v : Value} (F : Fld Z h a O n d v) (hby : c.code = bc) (hd : decode bc pc = .ok (.getfield index, 3)) (k : ∀ T', Stand p l e R s m args below meth c T' locs cells slots → T'.heap = h → own_Go p.tables e below P (T'.setTop (mkF m (pc + 3) Ls (v :: st)))) : own_Go p.tables e below P (T.setTop (mkF m pc Ls ((.ref a) :: st))) := by
  obtain ⟨T', X', e', sp⟩ := getF X hx hZ hown w via eT F (g := mkF m pc Ls ((.ref a) :: st)) rfl rfl (hb hby hd)
  exact own_go sp (k T' X' e')
theorem own_getS (X : Stand p l e R s m args below meth c T locs cells slots) (hx : p.tables.exec = Jvm.exec) (hZ : Z.Warmed39 s.vm) {own R0 O n d host : String} {index : Nat} (hown : s.vm.findClass own = some m.cls) (w : (Cond.fieldLink own index R0 n d).before a0 Z = true ∨ (Cond.fieldLinkNest own index R0 n d host).before a0 Z = true) (via : Via Z R0 O n d) (eT : T.heap = h) {v : Value} (F : Sta Z h O n d v) (hby : c.code = bc) (hd : decode bc pc = .ok (.getstatic index, 3)) (k : ∀ T', Stand p l e R s m args below meth c T' locs cells slots → T'.heap = h → own_Go p.tables e below P (T'.setTop (mkF m (pc + 3) Ls (v :: st)))) : own_Go p.tables e below P (T.setTop (mkF m pc Ls st)) := by
  obtain ⟨T', X', e', sp⟩ := getS2 X hx hZ hown w via eT F (g := mkF m pc Ls st) rfl (hb hby hd)
  exact own_go sp (k T' X' e')
theorem own_putF (X : Stand p l e R s m args below meth c T locs cells slots) (hx : p.tables.exec = Jvm.exec) (hZ : Z.Warmed39 s.vm) {C : String} {kk : Nat} {ty : FieldType} {own R0 O n d host : String} {index : Nat} (hown : s.vm.findClass own = some m.cls) (w : (Cond.fieldLink own index R0 n d).before a0 Z = true ∨ (Cond.fieldLinkNest own index R0 n d host).before a0 Z = true) (via : Via Z R0 O n d) (eT : T.heap = h) {a : Addr} {v old : Value} (F : Fld Z h a O n d old) (E : Exa Z h a C) (L : (Cond.lays C O n d).before a0 Z = true ∨ ((Cond.laysFinal C O n d).before a0 Z = true ∧ own = O ∧ meth.name = "<init>")) (wi : (Cond.instantiable C kk).before a0 Z = true) (hty : parseFieldDescriptor d = some ty) (hn : narrow ty v = v) (hf : fits ty v = true) (hby : c.code = bc) (hd : decode bc pc = .ok (.putfield index, 3)) (N : Fr n0 locs) (ge : n0 ≤ a) (k : ∀ T' h' locs', Stand p l e R s m args below meth c T' locs' cells slots → T'.heap = h' → Fr n0 locs' → Wr h h' a (Jvm.RoadKit.slotOf Z O n d) v → Fld Z h' a O n d v → h.size ≤ h'.size → own_Go p.tables e below P (T'.setTop (mkF m (pc + 3) Ls st))) : own_Go p.tables e below P (T.setTop (mkF m pc Ls (v :: (.ref a) :: st))) := by
  obtain ⟨T', h', X', e', W, sp⟩ := putF X hx hZ hown w via eT F E L wi hty hn hf (g := mkF m pc Ls (v :: (.ref a) :: st)) rfl rfl (hb hby hd)
  exact own_go sp (k T' h' _ X' e' (Fr.snoc X' N ge) W (F.same W) (Keep.of_wr W).1)
theorem own_newO (X : Stand p l e R s m args below meth c T locs cells slots) (hx : p.tables.exec = Jvm.exec) (hZ : Z.Warmed39 s.vm) {own C : String} {index n : Nat} (hown : s.vm.findClass own = some m.cls) (w : (Cond.classLink own index C).before a0 Z = true) (wi : (Cond.instantiable C n).before a0 Z = true) (wz : (Cond.initialized C).before a0 Z = true) (eT : T.heap = h) (hby : c.code = bc) (hd : decode bc pc = .ok (.new index, 3)) (hc : cells + 1 ≤ R.cells) (hl : slots + n ≤ R.slots) (k : ∀ T' h' b, Stand p l e R s m args below meth c T' locs (cells + 1) (slots + n) → T'.heap = h' → Ext h h' → b = h.size → Exa Z h' b C → (∀ {O nm d : String} {ty : FieldType}, Laid Z a0 C O nm d → parseFieldDescriptor d = some ty → Fld Z h' b O nm d (defaultValue ty)) → b < h'.size → own_Go p.tables e below P (T'.setTop (mkF m (pc + 3) Ls ((.ref b) :: st)))) : own_Go p.tables e below P (T.setTop (mkF m pc Ls st)) := by
  obtain ⟨T', h', X', e', E, A, D, -, sp⟩ := newO X hx hZ hown w wi wz eT (g := mkF m pc Ls st) rfl (hb hby hd) hc hl
  exact own_go sp (k T' h' _ X' e' E rfl A D A.lt)
theorem own_newP (X : Stand p l e R s m args below meth c T locs cells slots) (hx : p.tables.exec = Jvm.exec) (hZ : Z.Warmed39 s.vm) {aty : ArrayType} (w : (Cond.arrayClass (newarray.typeOf aty)).before a0 Z = true) (eT : T.heap = h) (hby : c.code = bc) (hd : decode bc pc = .ok (.newarray aty, 2)) {n : Int32} (hn : ¬ n < 0) (cap : Nat) (hcap : n.toNatClampNeg ≤ cap) (hb8 : cap * 8 ≤ 536870912) (hc : cells + 1 ≤ R.cells) (hl : slots + cap ≤ R.slots) {ad : String} (had : "[" ++ (newarray.typeOf aty).toString = ad) (k : ∀ T' h' cA b, Stand p l e R s m args below meth c T' locs (cells + 1) (slots + cap) → T'.heap = h' → Ext h h' → b = h.size → Arv Z h' b cA (newarray.typeOf aty) n [] (defaultValue (newarray.typeOf aty)) → Exa Z h' b ad → b < h'.size → own_Go p.tables e below P (T'.setTop (mkF m (pc + 2) Ls ((.ref b) :: st)))) : own_Go p.tables e below P (T.setTop (mkF m pc Ls ((.int n) :: st))) := by
  obtain ⟨T', h', cA, X', e', E, A, C, sp⟩ := newPE X hx hZ w eT (g := mkF m pc Ls ((.int n) :: st)) rfl (hb hby hd) rfl hn (cap := cap) hcap hb8 hc hl had
  exact own_go sp (k T' h' cA _ X' e' E rfl (Arv.new A hn) C C.lt)
theorem own_bastore (X : Stand p l e R s m args below meth c T locs cells slots) (hx : p.tables.exec = Jvm.exec) (hZ : Z.Warmed39 s.vm) (eT : T.heap = h) {a : Addr} {kc : ClassId} {z j : Int32} {x : Int32} {w : Value} {vs : List Value} {dv : Value} (V : Arv Z h a kc .byte z vs dv) (hj : ¬ j < 0 ∧ j < z) (i : Nat) (hi : j.toNatClampNeg = i) (hl : i < vs.length) (hv : (.int (nar .byte x)) = w) (hby : c.code = bc) (hd : decode bc pc = .ok (.bastore, 1)) (N : Fr n0 locs) (ge : n0 ≤ a) (k : ∀ T' h' locs', Stand p l e R s m args below meth c T' locs' cells slots → T'.heap = h' → Fr n0 locs' → Wr h h' a i w → Arv Z h' a kc .byte z (vs.set i w) dv → h.size ≤ h'.size → own_Go p.tables e below P (T'.setTop (mkF m (pc + 1) Ls st))) : own_Go p.tables e below P (T.setTop (mkF m pc Ls ((.int x) :: (.int j) :: (.ref a) :: st))) := by
  subst hv hi
  obtain ⟨cl, A, q, S, M, H, G⟩ := V
  obtain ⟨T', h', X', e', W, sp⟩ := stB X hx hZ eT A (j := j) (inb_of S hj) (g := mkF m pc Ls ((.int x) :: (.int j) :: (.ref a) :: st)) rfl rfl (hb hby hd)
  exact own_go sp (k T' h' _ X' e' (Fr.snoc X' N ge) W (Arv.set A q S M H G (fits_nar_byte _) W _ rfl hl) (Keep.of_wr W).1)
theorem own_baload (X : Stand p l e R s m args below meth c T locs cells slots) (hx : p.tables.exec = Jvm.exec) (hZ : Z.Warmed39 s.vm) (eT : T.heap = h) {a : Addr} {kc : ClassId} {z j : Int32} {v : Value} {vs : List Value} {dv : Value} (V : Arv Z h a kc .byte z vs dv) (hj : ¬ j < 0 ∧ j < z) (hv : vs.getD j.toNatClampNeg dv = v) (hby : c.code = bc) (hd : decode bc pc = .ok (.baload, 1)) (k : own_Go p.tables e below P (T.setTop (mkF m (pc + 1) Ls (v :: st)))) : own_Go p.tables e below P (T.setTop (mkF m pc Ls ((.int j) :: (.ref a) :: st))) := by
  obtain ⟨cl, A, q, S, M, H, G⟩ := V
  exact own_go (fun t q => X.baloadBytes hx (by rw [eT]; exact A.1) (State.isArrayOf_alike hZ.alike A.2.1) A.2.2 (inb_of S hj) (Has.at H (inb_of S hj) hv) (g := mkF m pc Ls ((.int j) :: (.ref a) :: st)) rfl rfl (hb hby hd) t q) k
theorem own_alen (X : Stand p l e R s m args below meth c T locs cells slots) (hx : p.tables.exec = Jvm.exec) (hZ : Z.Warmed39 s.vm) (eT : T.heap = h) {a : Addr} {kc : ClassId} {ty : FieldType} {z : Int32} {vs : List Value} {dv : Value} (V : Arv Z h a kc ty z vs dv) (hby : c.code = bc) (hd : decode bc pc = .ok (.arraylength, 1)) (k : own_Go p.tables e below P (T.setTop (mkF m (pc + 1) Ls ((.int z) :: st)))) : own_Go p.tables e below P (T.setTop (mkF m pc Ls ((.ref a) :: st))) := by
  obtain ⟨cl, A, q, S, M, H, G⟩ := V
  refine own_go (fun t q => X.arraylength hx (by rw [eT]; exact A.1) (State.isArrayOf_alike hZ.alike A.2.1) (g := mkF m pc Ls ((.ref a) :: st)) rfl rfl (hb hby hd) t q) ?_
  rw [len_of S M]; exact k
theorem own_ldcInt (X : Stand p l e R s m args below meth c T locs cells slots) (hx : p.tables.exec = Jvm.exec) (hZ : Z.Warmed39 s.vm) {own : String} {index : Nat} {v : Int32} (hown : s.vm.findClass own = some m.cls) (w : (Cond.constant own index v).before a0 Z = true) (hby : c.code = bc) (hd : decode bc pc = .ok (.ldc index, 2)) (k : own_Go p.tables e below P (T.setTop (mkF m (pc + 2) Ls ((.int v) :: st)))) : own_Go p.tables e below P (T.setTop (mkF m pc Ls st)) := by
  exact own_go (X.ldcInt hx hown (mvT hZ w) (g := mkF m pc Ls st) rfl (hb hby hd)) k
theorem own_initO (X : Stand p l e R s m args below meth c T locs cells slots) (hx : p.tables.exec = Jvm.exec) (hZ : Z.Warmed39 s.vm) {own : String} {idx : Nat} (hown : s.vm.findClass own = some m.cls) (w1 : (Cond.methodLink own idx Lib.objectInit).before a0 Z = true) (w2 : (Cond.instanceMethod Lib.objectInit).before a0 Z = true) (w3 : (Cond.code Lib.objectInit ⟨#[0xb1]⟩ 1 none).before a0 Z = true) (eT : T.heap = h) (hsize : Ls.size = c.maxLocals) {a : Addr} (hby : c.code = bc) (hd : decode bc pc = .ok (.invokespecial idx, 3)) (hf : 1 ≤ R.frames) (W : Nat) (hW : 2 * 0 + (st.map fun v => v.category).sum ≤ W) (hl : W + 12 ≤ R.locals) (k : ∀ T', Stand p l e R s m args below meth c T' locs cells slots → T'.heap = h → own_Go p.tables e below P (T'.setTop (mkF m (pc + 3) Ls st))) : own_Go p.tables e below P (T.setTop (mkF m pc Ls ((.ref a) :: st))) := by
  obtain ⟨T', X', e', sp⟩ := initO X hx hZ hown w1 w2 w3 eT (g := mkF m pc Ls ((.ref a) :: st)) rfl hsize rfl (hb hby hd) hf (W := W) hW hl
  exact own_go sp (k T' X' e')
theorem own_callS (X : Stand p l e R s m args below meth c T locs cells slots) (hx : p.tables.exec = Jvm.exec) (hZ : Z.Warmed39 s.vm) {own : String} {index : Nat} {y : MethodName} {bytes : ByteArray} {maxL : Nat} {ret : Option FieldType} {rm : Room} {Qc : Option Value → Heap → List Loc → Prop} {as' : Array Value} (hown : s.vm.findClass own = some m.cls) (w1 : (Cond.methodLink own index y).before a0 Z = true) (w2 : (Cond.static y).before a0 Z = true) (w3 : (Cond.initialized y.cls).before a0 Z = true) (w4 : (Cond.code y bytes maxL ret).before a0 Z = true) (hy : y.cls ≠ "java/lang/invoke/MethodHandle" ∧ y.cls ≠ "java/lang/invoke/VarHandle") (hM : MetFree l y (head1 [Cond.code y bytes maxL ret] rm) (fun a U => a = as' ∧ Z.Warmed39 U.vm ∧ U.heap = h) (fun _ _ _ _ _ => True) (fun _ U o U' => ∃ v L, o = .returned v ∧ Qc v U'.heap L ∧ FrameEnd U o U' L rm.cells rm.slots)) (W : Nat) (hW : 2 * 0 + (st.map fun v => v.category).sum ≤ W) (hf : rm.frames + 1 ≤ R.frames) (hl : W + (maxL + 11) + rm.locals ≤ R.locals) (hsize : Ls.size = c.maxLocals) {argsL stk : List Value} (hlen : ∀ sig, parseMethodDescriptor y.desc = some sig → argsL.length = sig.parameters.length) (hstk : stk = argsL.reverse ++ st) (has : argsL.toArray = as') (hc : cells + rm.cells ≤ R.cells) (hs : slots + rm.slots ≤ R.slots) (eT : T.heap = h) (hby : c.code = bc) (hd : decode bc pc = .ok (.invokestatic index, 3)) (k : ∀ T' v L, Stand p l e R s m args below meth c T' (locs ++ L) (cells + rm.cells) (slots + rm.slots) → Qc v T'.heap L → own_Go p.tables e below P (T'.setTop (mkF m (pc + 3) Ls (v.toList ++ st)))) : own_Go p.tables e below P (T.setTop (mkF m pc Ls stk)) := by
  subst hstk
  obtain ⟨v, _, ⟨T', L', k', n'⟩, -, X', ⟨L, hQ, hl', hy', hz'⟩, sp⟩ := Jvm.LawKit.callS X hx hown (mvT hZ w1) (mvT hZ w2) (mvT hZ w3) (mvT hZ w4) hy (backOf (W := W) hM hZ w4 w3 hf hl) (g := mkF m pc Ls (argsL.reverse ++ st)) rfl hsize (argsL := argsL) (rest := st) hlen rfl hW (hb hby hd) (fun _ _ => ⟨has, eT, hc, hs⟩)
  dsimp only [Pt.U, Pt.locs, Pt.cells, Pt.slots] at X' hl' hy' hz' sp hQ
  subst hl' hy' hz'
  exact own_go sp (k T' v L X' hQ)
theorem own_special (X : Stand p l e R s m args below meth c T locs cells slots) (hx : p.tables.exec = Jvm.exec) (hZ : Z.Warmed39 s.vm) {own : String} {index : Nat} {y : MethodName} {bytes : ByteArray} {maxL : Nat} {rm : Room} {Qc : Option Value → Heap → List Loc → Prop} {as' : Array Value} (hy1 : y.name = "<init>") (hown : s.vm.findClass own = some m.cls) (w1 : (Cond.methodLink own index y).before a0 Z = true) (w2 : (Cond.instanceMethod y).before a0 Z = true) (w3 : (Cond.initialized y.cls).before a0 Z = true) (w4 : (Cond.code y bytes maxL none).before a0 Z = true) (hy : y.cls ≠ "java/lang/invoke/MethodHandle" ∧ y.cls ≠ "java/lang/invoke/VarHandle") (hM : MetFree l y (head1 [Cond.code y bytes maxL none] rm) (fun a U => a = as' ∧ Z.Warmed39 U.vm ∧ U.heap = h) (fun _ _ _ _ _ => True) (fun _ U o U' => ∃ v L, o = .returned v ∧ Qc v U'.heap L ∧ FrameEnd U o U' L rm.cells rm.slots)) (W : Nat) (hW : 2 * 0 + (st.map fun v => v.category).sum ≤ W) (hf : rm.frames + 1 ≤ R.frames) (hl : W + (maxL + 11) + rm.locals ≤ R.locals) (hsize : Ls.size = c.maxLocals) {argsL stk : List Value} {a : Addr} (hlen : ∀ sig, parseMethodDescriptor y.desc = some sig → argsL.length = sig.parameters.length) (hstk : stk = argsL.reverse ++ (.ref a) :: st) (has : ((.ref a) :: argsL).toArray = as') (hc : cells + rm.cells ≤ R.cells) (hs : slots + rm.slots ≤ R.slots) (eT : T.heap = h) (hby : c.code = bc) (hd : decode bc pc = .ok (.invokespecial index, 3)) (k : ∀ T' v L, Stand p l e R s m args below meth c T' (locs ++ L) (cells + rm.cells) (slots + rm.slots) → Qc v T'.heap L → own_Go p.tables e below P (T'.setTop (mkF m (pc + 3) Ls (v.toList ++ st)))) : own_Go p.tables e below P (T.setTop (mkF m pc Ls stk)) := by
  subst hstk
  obtain ⟨v, _, ⟨T', L', k', n'⟩, -, X', ⟨L, hQ, hl', hy', hz'⟩, sp⟩ := X.specialBack hx hy1 hown (mvT hZ w1) (mvT hZ w2) (mvT hZ w4) hy (backOf (W := W) hM hZ w4 w3 hf hl) (g := mkF m pc Ls (argsL.reverse ++ (.ref a) :: st)) rfl hsize (Steps.refl _) (a := a) (argsL := argsL) (rest := st) hlen rfl hW (hb hby hd) (fun _ _ => ⟨has, eT, hc, hs⟩)
  dsimp only [Pt.U, Pt.locs, Pt.cells, Pt.slots] at X' hl' hy' hz' sp hQ
  subst hl' hy' hz'
  exact own_go (fun t q => sp.trans q) (k T' v L X' hQ)
theorem own_virtual (X : Stand p l e R s m args below meth c T locs cells slots) (hx : p.tables.exec = Jvm.exec) (hZ : Z.Warmed39 s.vm) {own C : String} {index : Nat} {y z : MethodName} {bytes : ByteArray} {maxL : Nat} {ret : Option FieldType} {rm : Room} {Qc : Option Value → Heap → List Loc → Prop} {as' : Array Value} (hown : s.vm.findClass own = some m.cls) (w1 : (Cond.methodLink own index y).before a0 Z = true) (w2 : (Cond.declares y).before a0 Z = true) (nf : NotFace s y) (w5 : (Cond.selects C y z).before a0 Z = true) (w6 : (Cond.instanceMethod z).before a0 Z = true) (w3 : (Cond.initialized z.cls).before a0 Z = true) (w4 : (Cond.code z bytes maxL ret).before a0 Z = true) (hy : y.cls ≠ "java/lang/invoke/MethodHandle" ∧ y.cls ≠ "java/lang/invoke/VarHandle") (hM : MetFree l z (head1 [Cond.code z bytes maxL ret] rm) (fun a U => a = as' ∧ Z.Warmed39 U.vm ∧ U.heap = h) (fun _ _ _ _ _ => True) (fun _ U o U' => ∃ v L, o = .returned v ∧ Qc v U'.heap L ∧ FrameEnd U o U' L rm.cells rm.slots)) (W : Nat) (hW : 2 * 0 + (st.map fun v => v.category).sum ≤ W) (hf : rm.frames + 1 ≤ R.frames) (hl : W + (maxL + 11) + rm.locals ≤ R.locals) (hsize : Ls.size = c.maxLocals) {argsL stk : List Value} {a : Addr} (E : Exa Z h a C) (hlen : ∀ sig, parseMethodDescriptor y.desc = some sig → argsL.length = sig.parameters.length) (hstk : stk = argsL.reverse ++ (.ref a) :: st) (has : ((.ref a) :: argsL).toArray = as') (hc : cells + rm.cells ≤ R.cells) (hs : slots + rm.slots ≤ R.slots) (eT : T.heap = h) (hby : c.code = bc) (hd : decode bc pc = .ok (.invokevirtual index, 3)) (k : ∀ T' v L, Stand p l e R s m args below meth c T' (locs ++ L) (cells + rm.cells) (slots + rm.slots) → Qc v T'.heap L → own_Go p.tables e below P (T'.setTop (mkF m (pc + 3) Ls (v.toList ++ st)))) : own_Go p.tables e below P (T.setTop (mkF m pc Ls stk)) := by
  subst hstk
  obtain ⟨cq, kq, qa, qb, qc⟩ := isOf hZ eT E
  obtain ⟨v, _, ⟨T', L', k', n'⟩, -, X', ⟨L, hQ, hl', hy', hz'⟩, sp⟩ := X.virtualBack hx hown (mvT hZ w1) (mvT hZ w2) nf (mvT hZ w5) (mvT hZ w6) hy (backOf (W := W) hM hZ w4 w3 hf hl) qa qc (g := mkF m pc Ls (argsL.reverse ++ (.ref a) :: st)) rfl hsize (Steps.refl _) (argsL := argsL) (rest := st) hlen rfl hW (hb hby hd) (fun _ _ => ⟨has, eT, hc, hs⟩)
  dsimp only [Pt.U, Pt.locs, Pt.cells, Pt.slots] at X' hl' hy' hz' sp hQ
  subst hl' hy' hz'
  exact own_go (fun t q => sp.trans q) (k T' v L X' hQ)
theorem own_private (X : Stand p l e R s m args below meth c T locs cells slots) (hx : p.tables.exec = Jvm.exec) (hZ : Z.Warmed39 s.vm) {own C : String} {index kk : Nat} {y : MethodName} {bytes : ByteArray} {maxL : Nat} {ret : Option FieldType} {rm : Room} {Qc : Option Value → Heap → List Loc → Prop} {as' : Array Value} (hown : s.vm.findClass own = some m.cls) (w1 : (Cond.methodLink own index y).before a0 Z = true) (w6 : (Cond.instanceMethod y).before a0 Z = true) (w5 : (Cond.instantiable y.cls kk).before a0 Z = true) (w7 : (Cond.privateMethod y).before a0 Z = true) (w3 : (Cond.initialized y.cls).before a0 Z = true) (w4 : (Cond.code y bytes maxL ret).before a0 Z = true) (hy : y.cls ≠ "java/lang/invoke/MethodHandle" ∧ y.cls ≠ "java/lang/invoke/VarHandle") (hM : MetFree l y (head1 [Cond.code y bytes maxL ret] rm) (fun a U => a = as' ∧ Z.Warmed39 U.vm ∧ U.heap = h) (fun _ _ _ _ _ => True) (fun _ U o U' => ∃ v L, o = .returned v ∧ Qc v U'.heap L ∧ FrameEnd U o U' L rm.cells rm.slots)) (W : Nat) (hW : 2 * 0 + (st.map fun v => v.category).sum ≤ W) (hf : rm.frames + 1 ≤ R.frames) (hl : W + (maxL + 11) + rm.locals ≤ R.locals) (hsize : Ls.size = c.maxLocals) {argsL stk : List Value} {a : Addr} (E : Exa Z h a C) (hlen : ∀ sig, parseMethodDescriptor y.desc = some sig → argsL.length = sig.parameters.length) (hstk : stk = argsL.reverse ++ (.ref a) :: st) (has : ((.ref a) :: argsL).toArray = as') (hc : cells + rm.cells ≤ R.cells) (hs : slots + rm.slots ≤ R.slots) (eT : T.heap = h) (hby : c.code = bc) (hd : decode bc pc = .ok (.invokevirtual index, 3)) (k : ∀ T' v L, Stand p l e R s m args below meth c T' (locs ++ L) (cells + rm.cells) (slots + rm.slots) → Qc v T'.heap L → own_Go p.tables e below P (T'.setTop (mkF m (pc + 3) Ls (v.toList ++ st)))) : own_Go p.tables e below P (T.setTop (mkF m pc Ls stk)) := by
  subst hstk
  obtain ⟨cq, q1, q2⟩ := E.cell
  have hp : s.PrivateAt y := Cond.privateMethod_at (mvP hZ w7 (args := #[]))
  obtain ⟨ci, ki, hci, hki, -, hni, -, -⟩ := Cond.instantiable_spec (mvT (args := args) hZ w5)
  obtain ⟨v, _, ⟨T', L', k', n'⟩, -, X', ⟨L, hQ, hl', hy', hz'⟩, sp⟩ := X.privateBack hx hown (mvT hZ w1) (mvT hZ w6) (selects_self_of_private hci hki (Bool.or_eq_false_iff.mp hni).1 hp (mvT hZ w6) hy) hp (mvT hZ w4) hy (backOf (W := W) hM hZ w4 w3 hf hl) (g := mkF m pc Ls (argsL.reverse ++ (.ref a) :: st)) rfl hsize (Steps.refl _) (a := a) (by rw [eT]; exact q1) q2 (argsL := argsL) (rest := st) hlen rfl hW (hb hby hd) (fun _ _ => ⟨has, eT, hc, hs⟩)
  dsimp only [Pt.U, Pt.locs, Pt.cells, Pt.slots] at X' hl' hy' hz' sp hQ
  subst hl' hy' hz'
  exact own_go (fun t q => sp.trans q) (k T' v L X' hQ)
theorem own_copy0 (X : Stand p l e R s m args below meth c T locs cells slots) (hx : p.tables.exec = Jvm.exec) (hZ : Z.Warmed39 s.vm) {own : String} {index : Nat} (hown : s.vm.findClass own = some m.cls) (w1 : (Cond.methodLink own index Jvm.Stand.acN).before a0 Z = true) (w2 : (Cond.native Jvm.Stand.acN).before a0 Z = true) (w3 : (Cond.static Jvm.Stand.acN).before a0 Z = true) (w4 : (Cond.initialized "java/lang/System").before a0 Z = true) (eT : T.heap = h) {a b : Addr} {ka kb : ClassId} {ty : FieldType} {z z' nn : Int32} {vs : List Value} {dv : Value} (A : Arv Z h a ka ty z vs dv) (B : Arv Z h b kb ty z' [] dv) (hty : refKind ty = false) (n : Nat) (hn : nn.toNatClampNeg = n) (h3 : ¬ nn < 0) (h4 : n ≤ z.toNatClampNeg) (h5 : n ≤ z'.toNatClampNeg) (N : Fr n0 locs) (ge : n0 ≤ b) (hsize : Ls.size = c.maxLocals) (hby : c.code = bc) (hd : decode bc pc = .ok (.invokestatic index, 3)) (hf : 1 ≤ R.frames) (W : Nat) (hW : 2 * 0 + (st.map fun v => v.category).sum ≤ W) (hlo : W + (nativeFrameWords "java/lang/System" "arraycopy" 5 + 11) ≤ R.locals) (k : ∀ T' h' locs', Stand p l e R s m args below meth c T' locs' cells slots → T'.heap = h' → Fr n0 locs' → Keep h h' [b] → Arv Z h' b kb ty z' ((List.range n).map fun i => vs.getD i dv) dv → h.size ≤ h'.size → own_Go p.tables e below P (T'.setTop (mkF m (pc + 3) Ls st))) : own_Go p.tables e below P (T.setTop (mkF m pc Ls ((.int nn) :: (.int 0) :: (.ref b) :: (.int 0) :: (.ref a) :: st))) := by
  subst hn
  have B' : Arv Z h b kb ty z' (List.replicate nn.toNatClampNeg dv) dv := B.pad (pad_rep [] dv nn.toNatClampNeg)
  have q0 : (0 : Int32).toNatClampNeg = 0 := by decide
  obtain ⟨T', h', L', X', e', N', K', V', sp⟩ := cpA X hx hZ hown w1 w2 w3 w4 eT A B' (sp := 0) (dp := 0) (nn := nn) (us := (List.range nn.toNatClampNeg).map fun i => vs.getD ((0 : Int32).toNatClampNeg + i) dv) (Or.inl ⟨rfl, hty⟩) (by decide) (by decide) h3 (by rw [q0]; omega) (by rw [q0]; omega) rfl (by rw [q0]; simp) N ge (g := mkF m pc Ls ((.int nn) :: (.int 0) :: (.ref b) :: (.int 0) :: (.ref a) :: st)) rfl hsize rfl (hb hby hd) hf (W := W) hW hlo
  refine own_go sp (k T' h' L' X' e' N' K' ?_ K'.1)
  rw [q0] at V'
  simpa using V'
end OwnGo
theorem own_sta_keep {Z : State} {h h' : Heap} {C n d : String} {v : Value} {ws : List Addr} (F : Sta Z h C n d v) (K : Keep h h' ws) (q : ∀ x ∈ ws, ∀ cell : Cell, h[x]? = some cell → cell.vm.isStatics = false) : Sta Z h' C n d v := by
  obtain ⟨cf, i, k, f, st, cell, h1, h2, h3, h4, h5, h6, h7⟩ := F
  refine ⟨cf, i, k, f, st, cell, h1, h2, h3, h4, K.2.1 st cell h5 fun hm => ?_, h6, h7⟩
  rw [q st hm cell h5] at h6; cases h6
theorem own_exa_plain {Z : State} {h : Heap} {a : Addr} {C : String} (F : Exa Z h a C) : ∀ cell : Cell, h[a]? = some cell → cell.vm.isStatics = false := fun cell hc => by
  obtain ⟨c', k, h1, h2, h3, h4, h5⟩ := F
  cases h1.symm.trans hc; exact h4
theorem own_arv_plain {Z : State} {h : Heap} {a : Addr} {k : ClassId} {ty : FieldType} {n : Int32} {vs : List Value} {d : Value} (F : Arv Z h a k ty n vs d) : ∀ cell : Cell, h[a]? = some cell → cell.vm.isStatics = false := fun cell hc => by
  obtain ⟨c', A, -⟩ := F
  cases A.1.symm.trans hc; exact A.plain
theorem own_ne_oa {Z : State} {h : Heap} {a b : Addr} {C : String} {a0 : Array Value} {kk : Nat} {k : ClassId} {ty : FieldType} {n : Int32} {vs : List Value} {d : Value} (F : Exa Z h a C) (wi : (Cond.instantiable C kk).before a0 Z = true) (G : Arv Z h b k ty n vs d) : a ≠ b := by
  obtain ⟨c, A, -⟩ := G
  exact ne_arr F wi A
def own_r (v : Int32) : Nat → Int32
  | 0 => v
  | j + 1 => (((own_r v j).toUInt32 >>> ((7 : Int32) &&& 31).toUInt32).toInt32)
def own_vl (v : Int32) : Nat := if ¬ ((127 : Int32) < own_r v 0) then 1 else if ¬ ((127 : Int32) < own_r v 1) then 2 else if ¬ ((127 : Int32) < own_r v 2) then 3 else if ¬ ((127 : Int32) < own_r v 3) then 4 else 5
def own_vI (v : Int32) : Int32 := Int32.ofNat (own_vl v)
def own_by (v : Int32) (j : Nat) : Int32 := if j + 1 < own_vl v then nar .byte (((own_r v j &&& (127 : Int32)) ||| (128 : Int32)).toInt8.toInt32) else nar .byte ((own_r v j).toInt8.toInt32)
theorem own_vl_pos (v : Int32) : 1 ≤ own_vl v ∧ own_vl v ≤ 5 := by
  unfold own_vl
  split
  · omega
  · split
    · omega
    · split
      · omega
      · split <;> omega
theorem own_vI_toInt (v : Int32) : (own_vI v).toInt = own_vl v := by
  have := own_vl_pos v
  unfold own_vI
  rw [Int32.toInt_ofNat_of_lt (by omega)]
theorem own_r_int (v : Int32) (h : (0 : Int32) < v) : (own_r v 0).toInt = v.toInt ∧ (own_r v 1).toInt = v.toInt / 128 ∧ (own_r v 2).toInt = v.toInt / 16384 ∧ (own_r v 3).toInt = v.toInt / 2097152 ∧ (own_r v 4).toInt = v.toInt / 268435456 ∧ 0 < v.toInt ∧ v.toInt < 2147483648 := by
  have h0 : (0 : Int32).toInt = 0 := by decide
  rw [Int32.lt_iff_toInt_lt, h0] at h
  have hr := rng32 v
  have e0 : (own_r v 0).toInt = v.toInt := rfl
  have e1 : (own_r v 1).toInt = _ := c_iushr (own_r v 0) (7 : Int32) 7 (by decide) (by decide)
  have e2 : (own_r v 2).toInt = _ := c_iushr (own_r v 1) (7 : Int32) 7 (by decide) (by decide)
  have e3 : (own_r v 3).toInt = _ := c_iushr (own_r v 2) (7 : Int32) 7 (by decide) (by decide)
  have e4 : (own_r v 4).toInt = _ := c_iushr (own_r v 3) (7 : Int32) 7 (by decide) (by decide)
  have p7 : ((2 ^ 7 : Nat) : Int) = 128 := by decide
  rw [p7] at e1 e2 e3 e4
  refine ⟨e0, ?_, ?_, ?_, ?_, h, hr.2⟩ <;> omega
theorem own_r4 (v : Int32) (h : (0 : Int32) < v) : ¬ ((127 : Int32) < own_r v 4) := by
  obtain ⟨-, -, -, -, e4, h1, h2⟩ := own_r_int v h
  have h127 : (127 : Int32).toInt = 127 := by decide
  rw [Int32.lt_iff_toInt_lt, h127, e4]
  omega
theorem own_th (v : Int32) (h : (0 : Int32) < v) : ((127 : Int32) < own_r v 0 ↔ ¬ v < (128 : Int32)) ∧ ((127 : Int32) < own_r v 1 ↔ ¬ v < (16384 : Int32)) ∧ ((127 : Int32) < own_r v 2 ↔ ¬ v < (2097152 : Int32)) ∧ ((127 : Int32) < own_r v 3 ↔ ¬ v < (268435456 : Int32)) := by
  obtain ⟨e0, e1, e2, e3, -, h1, h2⟩ := own_r_int v h
  have h127 : (127 : Int32).toInt = 127 := by decide
  have a1 : (128 : Int32).toInt = 128 := by decide
  have a2 : (16384 : Int32).toInt = 16384 := by decide
  have a3 : (2097152 : Int32).toInt = 2097152 := by decide
  have a4 : (268435456 : Int32).toInt = 268435456 := by decide
  simp only [Int32.lt_iff_toInt_lt, h127, a1, a2, a3, a4, e0, e1, e2, e3]
  omega
theorem own_vl1 {v : Int32} (h0 : ¬ ((127 : Int32) < own_r v 0)) : own_vl v = 1 := by unfold own_vl; rw [if_pos h0]
theorem own_vl2 {v : Int32} (h0 : (127 : Int32) < own_r v 0) (h1 : ¬ ((127 : Int32) < own_r v 1)) : own_vl v = 2 := by unfold own_vl; rw [if_neg (not_not_intro h0), if_pos h1]
theorem own_vl3 {v : Int32} (h0 : (127 : Int32) < own_r v 0) (h1 : (127 : Int32) < own_r v 1) (h2 : ¬ ((127 : Int32) < own_r v 2)) : own_vl v = 3 := by unfold own_vl; rw [if_neg (not_not_intro h0), if_neg (not_not_intro h1), if_pos h2]
theorem own_vl4 {v : Int32} (h0 : (127 : Int32) < own_r v 0) (h1 : (127 : Int32) < own_r v 1) (h2 : (127 : Int32) < own_r v 2) (h3 : ¬ ((127 : Int32) < own_r v 3)) : own_vl v = 4 := by unfold own_vl; rw [if_neg (not_not_intro h0), if_neg (not_not_intro h1), if_neg (not_not_intro h2), if_pos h3]
theorem own_vl5 {v : Int32} (h0 : (127 : Int32) < own_r v 0) (h1 : (127 : Int32) < own_r v 1) (h2 : (127 : Int32) < own_r v 2) (h3 : (127 : Int32) < own_r v 3) : own_vl v = 5 := by unfold own_vl; rw [if_neg (not_not_intro h0), if_neg (not_not_intro h1), if_neg (not_not_intro h2), if_neg (not_not_intro h3)]
theorem own_byM {v : Int32} {j k : Nat} (h : own_vl v = k) (hj : j + 1 < k) : Value.int (own_by v j) = .int (nar .byte (((own_r v j &&& (127 : Int32)) ||| (128 : Int32)).toInt8.toInt32)) := by
  unfold own_by; rw [if_pos (by omega)]
theorem own_byL {v : Int32} {j k : Nat} (h : own_vl v = k) (hj : j + 1 = k) : Value.int (own_by v j) = .int (nar .byte ((own_r v j).toInt8.toInt32)) := by
  unfold own_by; rw [if_neg (by omega)]
def own_sets (L : List Value) (i : Nat) : List Value → List Value
  | [] => L
  | w :: r => own_sets (L.set i w) (i + 1) r
theorem own_sets_len (ws : List Value) : ∀ (L : List Value) (i : Nat), (own_sets L i ws).length = L.length := by
  induction ws with
  | nil => intro L i; rfl
  | cons w r ih => intro L i; show (own_sets (L.set i w) (i + 1) r).length = _; rw [ih, List.length_set]
theorem own_getD_set {L : List Value} {i j : Nat} {w d : Value} (h : i < L.length) : (L.set i w).getD j d = if j = i then w else L.getD j d := by
  simp only [List.getD_eq_getElem?_getD, List.getElem?_set]
  by_cases q : i = j
  · subst q; simp [h]
  · rw [if_neg q, if_neg (fun z => q z.symm)]
theorem own_sets_lt (d : Value) (ws : List Value) : ∀ (L : List Value) (i j : Nat), i + ws.length ≤ L.length → j < i → (own_sets L i ws).getD j d = L.getD j d := by
  induction ws with
  | nil => intro L i j _ _; rfl
  | cons w r ih =>
    intro L i j h hj
    simp only [List.length_cons] at h
    show (own_sets (L.set i w) (i + 1) r).getD j d = _
    rw [ih _ _ _ (by rw [List.length_set]; omega) (by omega), own_getD_set (by omega), if_neg (by omega)]
theorem own_sets_at (d : Value) (ws : List Value) : ∀ (L : List Value) (i j : Nat), i + ws.length ≤ L.length → j < ws.length → (own_sets L i ws).getD (i + j) d = ws.getD j d := by
  induction ws with
  | nil => intro L i j _ hj; exact absurd hj (Nat.not_lt_zero _)
  | cons w r ih =>
    intro L i j h hj
    simp only [List.length_cons] at h hj
    show (own_sets (L.set i w) (i + 1) r).getD (i + j) d = _
    cases j with
    | zero =>
      rw [Nat.add_zero, own_sets_lt d r _ _ _ (by rw [List.length_set]; omega) (by omega), own_getD_set (by omega), if_pos (by omega)]
      rfl
    | succ j =>
      have e : i + (j + 1) = (i + 1) + j := by omega
      rw [e, ih _ _ _ (by rw [List.length_set]; omega) (by omega)]
      rfl
theorem own_and7f (x : Int32) : 0 ≤ (x &&& (2147483647 : Int32)).toInt := (c_and x 2147483647 (by decide)).1
theorem own_mod3 (x : Int32) : ((x &&& (2147483647 : Int32)) % (3 : Int32)) = (0 : Int32) ∨ ((x &&& (2147483647 : Int32)) % (3 : Int32)) = (1 : Int32) ∨ ((x &&& (2147483647 : Int32)) % (3 : Int32)) = (2 : Int32) := by
  obtain ⟨h1, h2, -⟩ := (c_iremV (x &&& (2147483647 : Int32)) (3 : Int32)).1 (own_and7f x) (by decide)
  have h3 : (3 : Int32).toInt = 3 := by decide
  rw [h3] at h2
  have h4 : ((x &&& (2147483647 : Int32)) % (3 : Int32)).toInt = 0 ∨ ((x &&& (2147483647 : Int32)) % (3 : Int32)).toInt = 1 ∨ ((x &&& (2147483647 : Int32)) % (3 : Int32)).toInt = 2 := by omega
  rcases h4 with h | h | h
  · exact Or.inl (Int32.toInt_inj.mp (h.trans (by decide)))
  · exact Or.inr (Or.inl (Int32.toInt_inj.mp (h.trans (by decide))))
  · exact Or.inr (Or.inr (Int32.toInt_inj.mp (h.trans (by decide))))
theorem own_clamp {x : Int32} (h : 0 ≤ x.toInt) : (x.toNatClampNeg : Int) = x.toInt := by
  have := nat_of (j := x) (by rw [Int32.lt_iff_toInt_lt]; have : (0 : Int32).toInt = 0 := by decide
                              omega)
  exact this.symm
theorem own_lt {x y : Int32} (h : x.toInt < y.toInt) : x < y := Int32.lt_iff_toInt_lt.mpr h
theorem own_nlt {x y : Int32} (h : ¬ x.toInt < y.toInt) : ¬ x < y := fun q => h (Int32.lt_iff_toInt_lt.mp q)
theorem own_addI {x y : Int32} (h1 : -2147483648 ≤ x.toInt + y.toInt) (h2 : x.toInt + y.toInt < 2147483648) : (x + y).toInt = x.toInt + y.toInt := by
  have := c_iadd x y
  have := rng32 (x + y)
  omega
theorem own_subI {x y : Int32} (h1 : -2147483648 ≤ x.toInt - y.toInt) (h2 : x.toInt - y.toInt < 2147483648) : (x - y).toInt = x.toInt - y.toInt := by
  have := c_isub x y
  have := rng32 (x - y)
  omega
theorem own_byte255 {x : Int32} (h0 : 0 ≤ x.toInt) (h1 : x.toInt < 256) : ((nar .byte (x.toInt8.toInt32)) &&& (255 : Int32)) = x := by
  apply Int32.toInt_inj.mp
  have e1 := c_mask (nar .byte (x.toInt8.toInt32)) (255 : Int32) 8 (by decide) (by decide)
  have e2 : nar .byte (x.toInt8.toInt32) = x.toInt8.toInt32.toInt8.toInt32 := rfl
  have e3 := c_i2b x
  have e4 := c_i2b (x.toInt8.toInt32)
  have p8 : ((2 ^ 8 : Nat) : Int) = 256 := by decide
  rw [e1, p8, e2]
  omega
theorem own_iushr7 {v q : Int32} {k : Nat} (h : (0 : Int32) < v) (hk : q.toBitVec.toNat % 32 = k) : ((v.toUInt32 >>> (q &&& 31).toUInt32).toInt32).toInt = v.toInt / (2 ^ k : Nat) := by
  have h0 : (0 : Int32).toInt = 0 := by decide
  rw [Int32.lt_iff_toInt_lt, h0] at h
  have hr := rng32 v
  rcases Nat.eq_zero_or_pos k with z | z
  · subst z
    have e : ((v.toUInt32 >>> (q &&& 31).toUInt32).toInt32) = v := by
      have e1 : (q &&& 31) = 0 := by
        apply Int32.toInt_inj.mp
        have := c_mask q (31 : Int32) 5 (by decide) (by decide)
        rw [this]
        have p5 : ((2 ^ 5 : Nat) : Int) = 32 := by decide
        rw [p5, h0]
        show q.toBitVec.toInt % 32 = 0
        rw [BitVec.toInt_eq_toNat_cond]
        split <;> omega
      rw [e1]
      have e2 : (0 : Int32).toUInt32 = 0 := by decide
      rw [e2, UInt32.shiftRight_zero]
      rfl
    rw [e]; simp
  · rw [c_iushr v q k hk z]
    rw [Int.emod_eq_of_lt (by omega) (by omega)]
theorem own_or128 (x : Int32) (h0 : 0 ≤ x.toInt) (h1 : x.toInt < 128) : (x ||| (128 : Int32)).toInt = x.toInt + 128 := by
  have a : (128 : Int32).toInt = 128 := by decide
  have := c_or' x (128 : Int32) 7 (by decide) 128 (by decide) (by rw [a]; decide) h0 h1
  have := rng32 (x ||| (128 : Int32))
  rw [a] at *
  omega
theorem own_small {v : Int32} {k : Nat} (hv : (0 : Int32) < v) (hl : k < own_vl v) (hh : ¬ k + 1 < own_vl v) : 0 ≤ (own_r v k).toInt ∧ (own_r v k).toInt < 128 := by
  obtain ⟨e0, e1, e2, e3, e4, h1, h2⟩ := own_r_int v hv
  have h127 : (127 : Int32).toInt = 127 := by decide
  have hk : own_vl v = k + 1 := by omega
  unfold own_vl at hk
  simp only [Int32.lt_iff_toInt_lt, h127] at hk
  split at hk
  · obtain rfl : k = 0 := by omega
    omega
  · split at hk
    · obtain rfl : k = 1 := by omega
      omega
    · split at hk
      · obtain rfl : k = 2 := by omega
        omega
      · split at hk
        · obtain rfl : k = 3 := by omega
          omega
        · obtain rfl : k = 4 := by omega
          omega
theorem own_want {v q : Int32} {k : Nat} (hv : (0 : Int32) < v) (hk : q.toBitVec.toNat % 32 = 7 * k) (hk4 : k ≤ 4) (hl : k < own_vl v) : (k + 1 < own_vl v → ((own_by v k) &&& (255 : Int32)) = ((((v.toUInt32 >>> (q &&& 31).toUInt32).toInt32) &&& (127 : Int32)) ||| (128 : Int32))) ∧ (¬ k + 1 < own_vl v → ((own_by v k) &&& (255 : Int32)) = ((((v.toUInt32 >>> (q &&& 31).toUInt32).toInt32) &&& (127 : Int32)) ||| (0 : Int32))) := by
  obtain ⟨e0, e1, e2, e3, e4, h1, h2⟩ := own_r_int v hv
  have hs := own_iushr7 (v := v) (q := q) (k := 7 * k) hv hk
  have hr : ((v.toUInt32 >>> (q &&& 31).toUInt32).toInt32) = own_r v k := by
    apply Int32.toInt_inj.mp
    rw [hs]
    have hk' : k = 0 ∨ k = 1 ∨ k = 2 ∨ k = 3 ∨ k = 4 := by omega
    rcases hk' with rfl | rfl | rfl | rfl | rfl
    · rw [e0]; simp
    · rw [e1, show ((2 ^ (7 * 1) : Nat) : Int) = 128 from by decide +kernel]
    · rw [e2, show ((2 ^ (7 * 2) : Nat) : Int) = 16384 from by decide +kernel]
    · rw [e3, show ((2 ^ (7 * 3) : Nat) : Int) = 2097152 from by decide +kernel]
    · rw [e4, show ((2 ^ (7 * 4) : Nat) : Int) = 268435456 from by decide +kernel]
  rw [hr]
  have m1 := c_mask (own_r v k) (127 : Int32) 7 (by decide) (by decide)
  have p7 : ((2 ^ 7 : Nat) : Int) = 128 := by decide
  rw [p7] at m1
  constructor
  · intro hh
    have hb : own_by v k = nar .byte (((own_r v k &&& (127 : Int32)) ||| (128 : Int32)).toInt8.toInt32) := by unfold own_by; rw [if_pos hh]
    rw [hb]
    have ho := own_or128 (own_r v k &&& (127 : Int32)) (by rw [m1]; omega) (by rw [m1]; omega)
    exact own_byte255 (by rw [ho]; omega) (by rw [ho]; omega)
  · intro hh
    have hb : own_by v k = nar .byte ((own_r v k).toInt8.toInt32) := by unfold own_by; rw [if_neg hh]
    have hsm : 0 ≤ (own_r v k).toInt ∧ (own_r v k).toInt < 128 := own_small hv hl hh
    have hm : (own_r v k &&& (127 : Int32)) = own_r v k := by
      apply Int32.toInt_inj.mp
      rw [m1]; omega
    rw [hb, hm, Int32.or_zero]
    exact own_byte255 hsm.1 (by omega)
def own_ws (v : Int32) (k : Nat) : List Value := ((List.range k).map fun j => Value.int (nar .byte (((own_r v j &&& (127 : Int32)) ||| (128 : Int32)).toInt8.toInt32))) ++ [Value.int (nar .byte ((own_r v k).toInt8.toInt32))]
theorem own_ws_len (v : Int32) (k : Nat) : (own_ws v k).length = k + 1 := by simp [own_ws]
theorem own_ws_at {v : Int32} {k j : Nat} {d : Value} (h : own_vl v = k + 1) (hj : j < own_vl v) : (own_ws v k).getD j d = .int (own_by v j) := by
  rw [List.getD_eq_getElem?_getD]
  unfold own_ws
  by_cases q : j < k
  · rw [List.getElem?_append_left (by simpa using q), own_byM h (by omega)]
    simp [q]
  · obtain rfl : j = k := by omega
    rw [List.getElem?_append_right (by simp), own_byL h rfl]
    simp
theorem own_post {L0 L' vs : List Value} {i k : Nat} {v : Int32} {d : Value} (hvl : own_vl v = k + 1) (hlen : i + (k + 1) ≤ L0.length) (hs : L' = own_sets L0 i (own_ws v k)) (hp : ∀ j, j < i → L0.getD j d = vs.getD j d) : (∀ j, j < i → L'.getD j d = vs.getD j d) ∧ (∀ j, j < own_vl v → L'.getD (i + j) d = .int (own_by v j)) := by
  have hl := own_ws_len v k
  subst hs
  refine ⟨fun j hj => ?_, fun j hj => ?_⟩
  · rw [own_sets_lt d _ _ _ _ (by omega) hj]; exact hp j hj
  · rw [own_sets_at d _ _ _ _ (by omega) (by omega)]; exact own_ws_at hvl hj
def own_inc (s : Int32) : Nat → Int32
  | 0 => s
  | j + 1 => own_inc s j + (1 : Int32)
theorem own_inc_int {s : Int32} (h0 : 0 ≤ s.toInt) (h1 : s.toInt ≤ 16) : ∀ j : Nat, j ≤ 10 → (own_inc s j).toInt = s.toInt + j
  | 0, _ => by simp [own_inc]
  | j + 1, h => by
    have ih := own_inc_int h0 h1 j (by omega)
    have a : (1 : Int32).toInt = 1 := by decide
    show (own_inc s j + (1 : Int32)).toInt = _
    rw [own_addI (by omega) (by omega), ih, a]
    omega
theorem own_inc_nat {s : Int32} (h0 : 0 ≤ s.toInt) (h1 : s.toInt ≤ 16) (j : Nat) (hj : j ≤ 10) : (own_inc s j).toNatClampNeg = s.toNatClampNeg + j := by
  have e := own_inc_int h0 h1 j hj
  have a := own_clamp (x := own_inc s j) (by omega)
  have b := own_clamp h0
  omega
theorem own_inc_in {s z : Int32} (h0 : 0 ≤ s.toInt) (h1 : s.toInt ≤ 16) (j : Nat) (hj : j ≤ 10) (h2 : s.toInt + j < z.toInt) : ¬ (own_inc s j < 0) ∧ own_inc s j < z := by
  have e := own_inc_int h0 h1 j hj
  have a : (0 : Int32).toInt = 0 := by decide
  exact ⟨own_nlt (by omega), own_lt (by omega)⟩
theorem own_inc_vI {s v : Int32} {k : Nat} (hvl : own_vl v = k) : s + own_vI v = s + Int32.ofNat k := by unfold own_vI; rw [hvl]
def own_cp (vs : List Value) (n : Nat) : List Value := (List.range n).map fun i => vs.getD i (.int 0)
theorem own_cp_at {vs : List Value} {n j : Nat} (hj : j < n) : (own_cp vs n).getD j (.int 0) = vs.getD j (.int 0) := by
  rw [List.getD_eq_getElem?_getD]
  simp [own_cp, hj]
theorem own_pos1 {x : Int32} (h : (1 : Int32) < x) : (0 : Int32) < x := by
  have a : (1 : Int32).toInt = 1 := by decide
  have b : (0 : Int32).toInt = 0 := by decide
  rw [Int32.lt_iff_toInt_lt] at h ⊢
  omega
theorem own_m29 (x : Int32) : 0 ≤ (x &&& (536870911 : Int32)).toInt ∧ (x &&& (536870911 : Int32)).toInt < 536870912 := by
  have e := c_mask x (536870911 : Int32) 29 (by decide) (by decide)
  have p : ((2 ^ 29 : Nat) : Int) = 536870912 := by decide
  rw [p] at e
  omega
theorem own_gap {d l : Int32} (h : l.toInt < d.toInt) (h1 : -1 ≤ l.toInt) (h2 : d.toInt < 2000000000) : (0 : Int32) < (d - l) := by
  have a : (0 : Int32).toInt = 0 := by decide
  exact own_lt (by rw [a, own_subI (by omega) (by omega)]; omega)
theorem own_kvl {v : Int32} {k : Nat} (hk : k ≤ 4) (h : Int32.ofNat k < own_vI v) : k < own_vl v := by
  rw [Int32.lt_iff_toInt_lt, own_vI_toInt, Int32.toInt_ofNat_of_lt (by omega)] at h
  omega
theorem own_ksub {v : Int32} {k : Nat} (hk : k ≤ 4) (h : Int32.ofNat k < own_vI v - (1 : Int32)) : k + 1 < own_vl v := by
  have a : (1 : Int32).toInt = 1 := by decide
  have b := own_vI_toInt v
  have := own_vl_pos v
  rw [Int32.lt_iff_toInt_lt, own_subI (by omega) (by omega), Int32.toInt_ofNat_of_lt (by omega)] at h
  omega
theorem own_ksub' {v : Int32} {k : Nat} (hk : k ≤ 4) (h : k + 1 < own_vl v) : Int32.ofNat k < own_vI v - (1 : Int32) := by
  have a : (1 : Int32).toInt = 1 := by decide
  have b := own_vI_toInt v
  have := own_vl_pos v
  rw [Int32.lt_iff_toInt_lt, own_subI (by omega) (by omega), Int32.toInt_ofNat_of_lt (by omega)]
  omega
theorem ef_max1 (m : MethodId) (x0 : Int32) (x1 : Int32) : entryFrame m #[(.int x0), (.int x1)] 2 = mkF m 0 #[.val (.int x0), .val (.int x1)] [] := by first | (simp [entryFrame, mkF, argsToLocals, Value.category]; done) | rfl
theorem d1_0 : decode jdk_29_method_65_code 0 = .ok (.iload_n 0, 1) := by decide +kernel
theorem d1_1 : decode jdk_29_method_65_code 1 = .ok (.iload_n 1, 1) := by decide +kernel
theorem d1_2 : decode jdk_29_method_65_code 2 = .ok (.if_icmp .lt 7, 3) := by decide +kernel
theorem d1_9 : decode jdk_29_method_65_code 9 = .ok (.iload_n 1, 1) := by decide +kernel
theorem d1_10 : decode jdk_29_method_65_code 10 = .ok (.ireturn, 1) := by decide +kernel
theorem d1_5 : decode jdk_29_method_65_code 5 = .ok (.iload_n 0, 1) := by decide +kernel
theorem d1_6 : decode jdk_29_method_65_code 6 = .ok (.goto 4, 3) := by decide +kernel
def Q_max1 (Z : State) (x : Int32) (h0 : Heap) (n0 : Nat) (vR : Option Value) (hR : Heap) (LR : List Loc) : Prop := ∃ (m : Int32), vR = some (.int m) ∧ Fr n0 LR ∧ hR = h0 ∧ ((0 : Int32) < m)
set_option maxRecDepth 65536 in
set_option maxHeartbeats 40000000 in
theorem max1 (l : Launch) (Z : State) (a0 : Array Value) (hw : ∀ d ∈ tables_1, d.before a0 Z = true) (ws : List Jvm.Cond) (x : Int32) (h0 : Heap) (n0 : Nat) (Z0 : n0 ≤ h0.size)  :
    own_M l (⟨"java/lang/Math", "max", "(II)I"⟩ : MethodName) jdk_29_method_65_code 2 (some .int) ws ({ frames := 0, cells := 0, slots := 0, locals := 0 } : Room) Z #[(.int 1), (.int x)] h0 (Q_max1 Z x h0 n0) := by
  refine own_body (own := "java/lang/Math") rfl (Jvm.Free.JP.mathPlain rfl (by decide +kernel)) (fun m => ef_max1 m (1 : Int32) x) ?_
  intro p e s m below meth c s₁ Bd hml hZ hh hx hby hown X0 e0
  have N0 := Fr.nil n0
  refine own_iloadN X0.here hx hby d1_0 rfl ?_
  refine own_iloadN X0.here hx hby d1_1 rfl ?_
  by_cases hc2_1 : (1 : Int32) < x
  · refine own_icmpYes X0.here hx hby (pc' := 9) d1_2 (tlt hc2_1).1 (by decide) (by decide) ?_
    refine own_iloadN X0.here hx hby d1_9 rfl ?_
    obtain ⟨fs, hr, hrun, hended, hW, hsame⟩ := X0.leave (v := some (.int x)) (fun h => by rw [Bd.returns] at h; cases h)
    refine own_ret (t := s₁.setFrames fs) ?_ ⟨_, hrun, hended, _, _, rfl, ?_, ⟨_, rfl⟩, hW, hsame.mono (by decide) (by decide)⟩
    · exact retOut X0 hx Bd.returns rfl (Or.inl ⟨rfl, Or.inl rfl, _, rfl⟩) (hb hby d1_10) hr
    · show Q_max1 Z _ h0 n0 _ s₁.heap _
      rw [e0]
      exact ⟨x, rfl, N0, rfl, (own_pos1 hc2_1)⟩
  · refine own_icmpNo X0.here hx hby d1_2 (flt hc2_1).1 ?_
    refine own_iloadN X0.here hx hby d1_5 rfl ?_
    refine own_goto X0.here hx hby (pc' := 10) d1_6 (by decide) (by decide) ?_
    obtain ⟨fs, hr, hrun, hended, hW, hsame⟩ := X0.leave (v := some (.int 1)) (fun h => by rw [Bd.returns] at h; cases h)
    refine own_ret (t := s₁.setFrames fs) ?_ ⟨_, hrun, hended, _, _, rfl, ?_, ⟨_, rfl⟩, hW, hsame.mono (by decide) (by decide)⟩
    · exact retOut X0 hx Bd.returns rfl (Or.inl ⟨rfl, Or.inl rfl, _, rfl⟩) (hb hby d1_10) hr
    · show Q_max1 Z _ h0 n0 _ s₁.heap _
      rw [e0]
      exact ⟨(1 : Int32), rfl, N0, rfl, (by decide)⟩
def Q_max_8_0 (Z : State)  (h0 : Heap) (n0 : Nat) (vR : Option Value) (hR : Heap) (LR : List Loc) : Prop := vR = some (.int 8) ∧ Fr n0 LR ∧ hR = h0
set_option maxRecDepth 65536 in
set_option maxHeartbeats 40000000 in
theorem max_8_0 (l : Launch) (Z : State) (a0 : Array Value) (hw : ∀ d ∈ tables_1, d.before a0 Z = true) (ws : List Jvm.Cond)  (h0 : Heap) (n0 : Nat) (Z0 : n0 ≤ h0.size)  :
    own_M l (⟨"java/lang/Math", "max", "(II)I"⟩ : MethodName) jdk_29_method_65_code 2 (some .int) ws ({ frames := 0, cells := 0, slots := 0, locals := 0 } : Room) Z #[(.int 8), (.int 0)] h0 (Q_max_8_0 Z  h0 n0) := by
  refine own_body (own := "java/lang/Math") rfl (Jvm.Free.JP.mathPlain rfl (by decide +kernel)) (fun m => ef_max1 m (8 : Int32) (0 : Int32)) ?_
  intro p e s m below meth c s₁ Bd hml hZ hh hx hby hown X0 e0
  have N0 := Fr.nil n0
  refine own_iloadN X0.here hx hby d1_0 rfl ?_
  refine own_iloadN X0.here hx hby d1_1 rfl ?_
  refine own_icmpNo X0.here hx hby d1_2 (flt (show ¬ ((8 : Int32) < (0 : Int32)) from (by decide))).1 ?_
  refine own_iloadN X0.here hx hby d1_5 rfl ?_
  refine own_goto X0.here hx hby (pc' := 10) d1_6 (by decide) (by decide) ?_
  obtain ⟨fs, hr, hrun, hended, hW, hsame⟩ := X0.leave (v := some (.int 8)) (fun h => by rw [Bd.returns] at h; cases h)
  refine own_ret (t := s₁.setFrames fs) ?_ ⟨_, hrun, hended, _, _, rfl, ?_, ⟨_, rfl⟩, hW, hsame.mono (by decide) (by decide)⟩
  · exact retOut X0 hx Bd.returns rfl (Or.inl ⟨rfl, Or.inl rfl, _, rfl⟩) (hb hby d1_10) hr
  · show Q_max_8_0 Z h0 n0 _ s₁.heap _
    rw [e0]
    exact ⟨rfl, N0, rfl⟩
def Q_max_8_16 (Z : State)  (h0 : Heap) (n0 : Nat) (vR : Option Value) (hR : Heap) (LR : List Loc) : Prop := vR = some (.int 16) ∧ Fr n0 LR ∧ hR = h0
set_option maxRecDepth 65536 in
set_option maxHeartbeats 40000000 in
theorem max_8_16 (l : Launch) (Z : State) (a0 : Array Value) (hw : ∀ d ∈ tables_1, d.before a0 Z = true) (ws : List Jvm.Cond)  (h0 : Heap) (n0 : Nat) (Z0 : n0 ≤ h0.size)  :
    own_M l (⟨"java/lang/Math", "max", "(II)I"⟩ : MethodName) jdk_29_method_65_code 2 (some .int) ws ({ frames := 0, cells := 0, slots := 0, locals := 0 } : Room) Z #[(.int 8), (.int 16)] h0 (Q_max_8_16 Z  h0 n0) := by
  refine own_body (own := "java/lang/Math") rfl (Jvm.Free.JP.mathPlain rfl (by decide +kernel)) (fun m => ef_max1 m (8 : Int32) (16 : Int32)) ?_
  intro p e s m below meth c s₁ Bd hml hZ hh hx hby hown X0 e0
  have N0 := Fr.nil n0
  refine own_iloadN X0.here hx hby d1_0 rfl ?_
  refine own_iloadN X0.here hx hby d1_1 rfl ?_
  refine own_icmpYes X0.here hx hby (pc' := 9) d1_2 (tlt (show (8 : Int32) < (16 : Int32) from (by decide))).1 (by decide) (by decide) ?_
  refine own_iloadN X0.here hx hby d1_9 rfl ?_
  obtain ⟨fs, hr, hrun, hended, hW, hsame⟩ := X0.leave (v := some (.int 16)) (fun h => by rw [Bd.returns] at h; cases h)
  refine own_ret (t := s₁.setFrames fs) ?_ ⟨_, hrun, hended, _, _, rfl, ?_, ⟨_, rfl⟩, hW, hsame.mono (by decide) (by decide)⟩
  · exact retOut X0 hx Bd.returns rfl (Or.inl ⟨rfl, Or.inl rfl, _, rfl⟩) (hb hby d1_10) hr
  · show Q_max_8_16 Z h0 n0 _ s₁.heap _
    rw [e0]
    exact ⟨rfl, N0, rfl⟩
def Q_max_8_32 (Z : State)  (h0 : Heap) (n0 : Nat) (vR : Option Value) (hR : Heap) (LR : List Loc) : Prop := vR = some (.int 32) ∧ Fr n0 LR ∧ hR = h0
set_option maxRecDepth 65536 in
set_option maxHeartbeats 40000000 in
theorem max_8_32 (l : Launch) (Z : State) (a0 : Array Value) (hw : ∀ d ∈ tables_1, d.before a0 Z = true) (ws : List Jvm.Cond)  (h0 : Heap) (n0 : Nat) (Z0 : n0 ≤ h0.size)  :
    own_M l (⟨"java/lang/Math", "max", "(II)I"⟩ : MethodName) jdk_29_method_65_code 2 (some .int) ws ({ frames := 0, cells := 0, slots := 0, locals := 0 } : Room) Z #[(.int 8), (.int 32)] h0 (Q_max_8_32 Z  h0 n0) := by
  refine own_body (own := "java/lang/Math") rfl (Jvm.Free.JP.mathPlain rfl (by decide +kernel)) (fun m => ef_max1 m (8 : Int32) (32 : Int32)) ?_
  intro p e s m below meth c s₁ Bd hml hZ hh hx hby hown X0 e0
  have N0 := Fr.nil n0
  refine own_iloadN X0.here hx hby d1_0 rfl ?_
  refine own_iloadN X0.here hx hby d1_1 rfl ?_
  refine own_icmpYes X0.here hx hby (pc' := 9) d1_2 (tlt (show (8 : Int32) < (32 : Int32) from (by decide))).1 (by decide) (by decide) ?_
  refine own_iloadN X0.here hx hby d1_9 rfl ?_
  obtain ⟨fs, hr, hrun, hended, hW, hsame⟩ := X0.leave (v := some (.int 32)) (fun h => by rw [Bd.returns] at h; cases h)
  refine own_ret (t := s₁.setFrames fs) ?_ ⟨_, hrun, hended, _, _, rfl, ?_, ⟨_, rfl⟩, hW, hsame.mono (by decide) (by decide)⟩
  · exact retOut X0 hx Bd.returns rfl (Or.inl ⟨rfl, Or.inl rfl, _, rfl⟩) (hb hby d1_10) hr
  · show Q_max_8_32 Z h0 n0 _ s₁.heap _
    rw [e0]
    exact ⟨rfl, N0, rfl⟩
theorem ef_min_0_8 (m : MethodId) (x0 : Int32) (x1 : Int32) : entryFrame m #[(.int x0), (.int x1)] 2 = mkF m 0 #[.val (.int x0), .val (.int x1)] [] := by first | (simp [entryFrame, mkF, argsToLocals, Value.category]; done) | rfl
theorem d11_0 : decode jdk_29_method_69_code 0 = .ok (.iload_n 0, 1) := by decide +kernel
theorem d11_1 : decode jdk_29_method_69_code 1 = .ok (.iload_n 1, 1) := by decide +kernel
theorem d11_2 : decode jdk_29_method_69_code 2 = .ok (.if_icmp .gt 7, 3) := by decide +kernel
theorem d11_5 : decode jdk_29_method_69_code 5 = .ok (.iload_n 0, 1) := by decide +kernel
theorem d11_6 : decode jdk_29_method_69_code 6 = .ok (.goto 4, 3) := by decide +kernel
theorem d11_10 : decode jdk_29_method_69_code 10 = .ok (.ireturn, 1) := by decide +kernel
def Q_min_0_8 (Z : State)  (h0 : Heap) (n0 : Nat) (vR : Option Value) (hR : Heap) (LR : List Loc) : Prop := vR = some (.int 0) ∧ Fr n0 LR ∧ hR = h0
set_option maxRecDepth 65536 in
set_option maxHeartbeats 40000000 in
theorem min_0_8 (l : Launch) (Z : State) (a0 : Array Value) (hw : ∀ d ∈ tables_1, d.before a0 Z = true) (ws : List Jvm.Cond)  (h0 : Heap) (n0 : Nat) (Z0 : n0 ≤ h0.size)  :
    own_M l (⟨"java/lang/Math", "min", "(II)I"⟩ : MethodName) jdk_29_method_69_code 2 (some .int) ws ({ frames := 0, cells := 0, slots := 0, locals := 0 } : Room) Z #[(.int 0), (.int 8)] h0 (Q_min_0_8 Z  h0 n0) := by
  refine own_body (own := "java/lang/Math") rfl (Jvm.Free.JP.mathPlain rfl (by decide +kernel)) (fun m => ef_min_0_8 m (0 : Int32) (8 : Int32)) ?_
  intro p e s m below meth c s₁ Bd hml hZ hh hx hby hown X0 e0
  have N0 := Fr.nil n0
  refine own_iloadN X0.here hx hby d11_0 rfl ?_
  refine own_iloadN X0.here hx hby d11_1 rfl ?_
  refine own_icmpNo X0.here hx hby d11_2 (flt (show ¬ ((8 : Int32) < (0 : Int32)) from (by decide))).2.2.1 ?_
  refine own_iloadN X0.here hx hby d11_5 rfl ?_
  refine own_goto X0.here hx hby (pc' := 10) d11_6 (by decide) (by decide) ?_
  obtain ⟨fs, hr, hrun, hended, hW, hsame⟩ := X0.leave (v := some (.int 0)) (fun h => by rw [Bd.returns] at h; cases h)
  refine own_ret (t := s₁.setFrames fs) ?_ ⟨_, hrun, hended, _, _, rfl, ?_, ⟨_, rfl⟩, hW, hsame.mono (by decide) (by decide)⟩
  · exact retOut X0 hx Bd.returns rfl (Or.inl ⟨rfl, Or.inl rfl, _, rfl⟩) (hb hby d11_10) hr
  · show Q_min_0_8 Z h0 n0 _ s₁.heap _
    rw [e0]
    exact ⟨rfl, N0, rfl⟩
theorem ef_copyOf_0 (m : MethodId) (x0 : Nat) (x1 : Int32) : entryFrame m #[(.ref x0), (.int x1)] 3 = mkF m 0 #[.val (.ref x0), .val (.int x1), .unset] [] := by first | (simp [entryFrame, mkF, argsToLocals, Value.category]; done) | rfl
theorem pn_10 : plainName "java/util/Arrays" = true := by first | (simp [plainName, overriddenIn]; done) | decide +kernel
theorem d10_0 : decode jdk_65_method_121_code 0 = .ok (.iload_n 1, 1) := by decide +kernel
theorem d10_1 : decode jdk_65_method_121_code 1 = .ok (.aload_n 0, 1) := by decide +kernel
theorem d10_2 : decode jdk_65_method_121_code 2 = .ok (.arraylength, 1) := by decide +kernel
theorem d10_3 : decode jdk_65_method_121_code 3 = .ok (.if_icmp .ne 11, 3) := by decide +kernel
theorem d10_14 : decode jdk_65_method_121_code 14 = .ok (.iload_n 1, 1) := by decide +kernel
theorem d10_15 : decode jdk_65_method_121_code 15 = .ok (.newarray .byte, 2) := by decide +kernel
theorem d10_17 : decode jdk_65_method_121_code 17 = .ok (.astore_n 2, 1) := by decide +kernel
theorem d10_18 : decode jdk_65_method_121_code 18 = .ok (.aload_n 0, 1) := by decide +kernel
theorem d10_19 : decode jdk_65_method_121_code 19 = .ok (.iconst 0, 1) := by decide +kernel
theorem d10_20 : decode jdk_65_method_121_code 20 = .ok (.aload_n 2, 1) := by decide +kernel
theorem d10_21 : decode jdk_65_method_121_code 21 = .ok (.iconst 0, 1) := by decide +kernel
theorem d10_22 : decode jdk_65_method_121_code 22 = .ok (.aload_n 0, 1) := by decide +kernel
theorem d10_23 : decode jdk_65_method_121_code 23 = .ok (.arraylength, 1) := by decide +kernel
theorem d10_24 : decode jdk_65_method_121_code 24 = .ok (.iload_n 1, 1) := by decide +kernel
theorem d10_25 : decode jdk_65_method_121_code 25 = .ok (.invokestatic 304, 3) := by decide +kernel
theorem pd_0 : parseMethodDescriptor "(II)I" = some ⟨[.int, .int], some .int⟩ := by decide +kernel
theorem d10_28 : decode jdk_65_method_121_code 28 = .ok (.invokestatic 150, 3) := by decide +kernel
theorem d10_31 : decode jdk_65_method_121_code 31 = .ok (.aload_n 2, 1) := by decide +kernel
theorem d10_32 : decode jdk_65_method_121_code 32 = .ok (.areturn, 1) := by decide +kernel
def Q_copyOf_0 (Z : State) (a : Nat) (ka : ClassId) (vs : List Value) (h0 : Heap) (n0 : Nat) (vR : Option Value) (hR : Heap) (LR : List Loc) : Prop := ∃ (b : Nat) (kb : ClassId), vR = some (.ref b) ∧ Fr n0 LR ∧ Keep h0 hR [] ∧ h0.size ≤ b ∧ (Arv Z hR b kb .byte (8 : Int32) ((List.range 0).map fun i => vs.getD i (.int 0)) (.int 0))
set_option maxRecDepth 65536 in
set_option maxHeartbeats 40000000 in
theorem copyOf_0 (l : Launch) (Z : State) (a0 : Array Value) (hw : ∀ d ∈ tables_1, d.before a0 Z = true) (ws : List Jvm.Cond) (a : Nat) (ka : ClassId) (vs : List Value) (h0 : Heap) (n0 : Nat) (Z0 : n0 ≤ h0.size) (V_a : Arv Z h0 a ka .byte (0 : Int32) vs (.int 0)) :
    own_M l (⟨"java/util/Arrays", "copyOf", "([BI)[B"⟩ : MethodName) jdk_65_method_121_code 3 (some (.array .byte)) ws ({ frames := 1, cells := 1, slots := 8, locals := 18 } : Room) Z #[(.ref a), (.int 8)] h0 (Q_copyOf_0 Z a ka vs h0 n0) := by
  refine own_body (own := "java/util/Arrays") rfl (plainFor_of_name pn_10) (fun m => ef_copyOf_0 m a (8 : Int32)) ?_
  intro p e s m below meth c s₁ Bd hml hZ hh hx hby hown X0 e0
  have N0 := Fr.nil n0
  have lt1 : h0.size > a := V_a.lt
  refine own_iloadN X0.here hx hby d10_0 rfl ?_
  refine own_aloadN X0.here hx hby d10_1 rfl rfl ?_
  refine own_alen X0 hx hZ e0 V_a hby d10_2 ?_
  refine own_icmpYes X0.here hx hby (pc' := 14) d10_3 (feq (show ¬ ((8 : Int32) = (0 : Int32)) from (by decide))).2 (by decide) (by decide) ?_
  refine own_iloadN X0.here hx hby d10_14 rfl ?_
  refine own_newP X0 hx hZ (aty := .byte) (own_w hw 59 rfl) e0 hby d10_15 (by decide) 8 (by decide) (by decide) (by decide) (by decide) (ad := "[B") (by decide) ?_
  intro T2 h2 k2 b2 X2 e2 E2 g2 V2 C2 lt2
  have z3 : h0.size ≤ h2.size := E2.1
  have V4 : Arv Z h2 b2 k2 .byte (8 : Int32) [(.int 0), (.int 0), (.int 0), (.int 0), (.int 0), (.int 0), (.int 0), (.int 0)] (.int 0) := V2.pad (pad_rep [] (.int 0) 8)
  refine own_astoreN X2.here hx hby d10_17 rfl (l' := #[.val (.ref a), .val (.int 8), .val (.ref b2)]) rfl ?_
  refine own_aloadN X2.here hx hby d10_18 rfl rfl ?_
  refine own_iconst X2.here hx hby d10_19 (v := (0 : Int32)) (by decide) ?_
  refine own_aloadN X2.here hx hby d10_20 rfl rfl ?_
  refine own_iconst X2.here hx hby d10_21 (v := (0 : Int32)) (by decide) ?_
  refine own_aloadN X2.here hx hby d10_22 rfl rfl ?_
  have f5 : Arv Z h2 a ka .byte (0 : Int32) vs (.int 0) := (V_a.ext E2)
  refine own_alen X2 hx hZ e2 f5 hby d10_23 ?_
  refine own_iloadN X2.here hx hby d10_24 rfl ?_
  have z7 : n0 ≤ h2.size := by omega
  refine own_callS X2 hx hZ hown (own_w hw 60 rfl) (own_w hw 61 rfl) (own_w hw 3 rfl) (own_w hw 62 rfl) (by decide) (min_0_8 l Z a0 hw []  h2 n0 z7 ) 4 (Nat.le_of_eq rfl) (by decide) (by decide) (by rw [hml]; rfl) (argsL := [(.int 0), (.int 8)]) (st := [(.int 0), (.ref b2), (.int 0), (.ref a)]) (lenOf pd_0 rfl) rfl rfl (by decide) (by decide) e2 hby d10_25 ?_
  intro T6 v6 L6 X6 hQ6
  obtain ⟨rfl, Nq6, eh6⟩ := hQ6
  have N6 := Fr.app N0 Nq6
  refine own_sh (T := T6) 28 #[.val (.ref a), .val (.int 8), .val (.ref b2)] [(.int 0), (.int 0), (.ref b2), (.int 0), (.ref a)] ?_
  have V9 : Arv Z h2 b2 k2 .byte (8 : Int32) [] (.int 0) := V4.pad (fun i => (pad_rep [] (.int 0) 8 i).symm)
  refine own_copy0 X6 hx hZ hown (own_w hw 63 rfl) (own_w hw 66 rfl) (own_w hw 64 rfl) (own_w hw 65 rfl) eh6 f5 V9 rfl 0 (by decide) (by decide) (by decide) (by decide) N6 (by omega) (by rw [hml]; rfl) hby d10_28 (by decide) 0 (Nat.le_of_eq rfl) (by decide) ?_
  intro T8 h8 lo8 X8 e8 N8 K8 V8 z8
  have V10 : Arv Z h8 b2 k2 .byte (8 : Int32) ((List.range 0).map fun i => vs.getD i (.int 0)) (.int 0) := V8
  refine own_aloadN X8.here hx hby d10_31 rfl rfl ?_
  have K11 : Keep h0 h8 [] := (((Keep.refl h0 []).ext E2).trans K8 (allS (P := fun xq_ => xq_ ∈ [] ∨ h0.size ≤ xq_) (Or.inr (by omega)) all0))
  obtain ⟨fs, hr, hrun, hended, hW, hsame⟩ := X8.leave (v := some (.ref b2)) (fun h => by rw [Bd.returns] at h; cases h)
  refine own_ret (t := T8.setFrames fs) ?_ ⟨_, hrun, hended, _, _, rfl, ?_, ⟨_, rfl⟩, hW, hsame.mono (by decide) (by decide)⟩
  · exact retOut X8 hx Bd.returns rfl (Or.inr (Or.inr (Or.inr (Or.inr ⟨rfl, rfl, rfl⟩)))) (hb hby d10_32) hr
  · show Q_copyOf_0 Z _ _ _ h0 n0 _ T8.heap _
    rw [e8]
    exact ⟨b2, k2, rfl, N8, K11, (by omega), V10⟩
def Q_min_8_16 (Z : State)  (h0 : Heap) (n0 : Nat) (vR : Option Value) (hR : Heap) (LR : List Loc) : Prop := vR = some (.int 8) ∧ Fr n0 LR ∧ hR = h0
set_option maxRecDepth 65536 in
set_option maxHeartbeats 40000000 in
theorem min_8_16 (l : Launch) (Z : State) (a0 : Array Value) (hw : ∀ d ∈ tables_1, d.before a0 Z = true) (ws : List Jvm.Cond)  (h0 : Heap) (n0 : Nat) (Z0 : n0 ≤ h0.size)  :
    own_M l (⟨"java/lang/Math", "min", "(II)I"⟩ : MethodName) jdk_29_method_69_code 2 (some .int) ws ({ frames := 0, cells := 0, slots := 0, locals := 0 } : Room) Z #[(.int 8), (.int 16)] h0 (Q_min_8_16 Z  h0 n0) := by
  refine own_body (own := "java/lang/Math") rfl (Jvm.Free.JP.mathPlain rfl (by decide +kernel)) (fun m => ef_min_0_8 m (8 : Int32) (16 : Int32)) ?_
  intro p e s m below meth c s₁ Bd hml hZ hh hx hby hown X0 e0
  have N0 := Fr.nil n0
  refine own_iloadN X0.here hx hby d11_0 rfl ?_
  refine own_iloadN X0.here hx hby d11_1 rfl ?_
  refine own_icmpNo X0.here hx hby d11_2 (flt (show ¬ ((16 : Int32) < (8 : Int32)) from (by decide))).2.2.1 ?_
  refine own_iloadN X0.here hx hby d11_5 rfl ?_
  refine own_goto X0.here hx hby (pc' := 10) d11_6 (by decide) (by decide) ?_
  obtain ⟨fs, hr, hrun, hended, hW, hsame⟩ := X0.leave (v := some (.int 8)) (fun h => by rw [Bd.returns] at h; cases h)
  refine own_ret (t := s₁.setFrames fs) ?_ ⟨_, hrun, hended, _, _, rfl, ?_, ⟨_, rfl⟩, hW, hsame.mono (by decide) (by decide)⟩
  · exact retOut X0 hx Bd.returns rfl (Or.inl ⟨rfl, Or.inl rfl, _, rfl⟩) (hb hby d11_10) hr
  · show Q_min_8_16 Z h0 n0 _ s₁.heap _
    rw [e0]
    exact ⟨rfl, N0, rfl⟩
def Q_copyOf_8 (Z : State) (a : Nat) (ka : ClassId) (vs : List Value) (h0 : Heap) (n0 : Nat) (vR : Option Value) (hR : Heap) (LR : List Loc) : Prop := ∃ (b : Nat) (kb : ClassId), vR = some (.ref b) ∧ Fr n0 LR ∧ Keep h0 hR [] ∧ h0.size ≤ b ∧ (Arv Z hR b kb .byte (16 : Int32) ((List.range 8).map fun i => vs.getD i (.int 0)) (.int 0))
set_option maxRecDepth 65536 in
set_option maxHeartbeats 40000000 in
theorem copyOf_8 (l : Launch) (Z : State) (a0 : Array Value) (hw : ∀ d ∈ tables_1, d.before a0 Z = true) (ws : List Jvm.Cond) (a : Nat) (ka : ClassId) (vs : List Value) (h0 : Heap) (n0 : Nat) (Z0 : n0 ≤ h0.size) (V_a : Arv Z h0 a ka .byte (8 : Int32) vs (.int 0)) :
    own_M l (⟨"java/util/Arrays", "copyOf", "([BI)[B"⟩ : MethodName) jdk_65_method_121_code 3 (some (.array .byte)) ws ({ frames := 1, cells := 1, slots := 16, locals := 18 } : Room) Z #[(.ref a), (.int 16)] h0 (Q_copyOf_8 Z a ka vs h0 n0) := by
  refine own_body (own := "java/util/Arrays") rfl (plainFor_of_name pn_10) (fun m => ef_copyOf_0 m a (16 : Int32)) ?_
  intro p e s m below meth c s₁ Bd hml hZ hh hx hby hown X0 e0
  have N0 := Fr.nil n0
  have lt1 : h0.size > a := V_a.lt
  refine own_iloadN X0.here hx hby d10_0 rfl ?_
  refine own_aloadN X0.here hx hby d10_1 rfl rfl ?_
  refine own_alen X0 hx hZ e0 V_a hby d10_2 ?_
  refine own_icmpYes X0.here hx hby (pc' := 14) d10_3 (feq (show ¬ ((16 : Int32) = (8 : Int32)) from (by decide))).2 (by decide) (by decide) ?_
  refine own_iloadN X0.here hx hby d10_14 rfl ?_
  refine own_newP X0 hx hZ (aty := .byte) (own_w hw 59 rfl) e0 hby d10_15 (by decide) 16 (by decide) (by decide) (by decide) (by decide) (ad := "[B") (by decide) ?_
  intro T2 h2 k2 b2 X2 e2 E2 g2 V2 C2 lt2
  have z3 : h0.size ≤ h2.size := E2.1
  have V4 : Arv Z h2 b2 k2 .byte (16 : Int32) [(.int 0), (.int 0), (.int 0), (.int 0), (.int 0), (.int 0), (.int 0), (.int 0), (.int 0), (.int 0), (.int 0), (.int 0), (.int 0), (.int 0), (.int 0), (.int 0)] (.int 0) := V2.pad (pad_rep [] (.int 0) 16)
  refine own_astoreN X2.here hx hby d10_17 rfl (l' := #[.val (.ref a), .val (.int 16), .val (.ref b2)]) rfl ?_
  refine own_aloadN X2.here hx hby d10_18 rfl rfl ?_
  refine own_iconst X2.here hx hby d10_19 (v := (0 : Int32)) (by decide) ?_
  refine own_aloadN X2.here hx hby d10_20 rfl rfl ?_
  refine own_iconst X2.here hx hby d10_21 (v := (0 : Int32)) (by decide) ?_
  refine own_aloadN X2.here hx hby d10_22 rfl rfl ?_
  have f5 : Arv Z h2 a ka .byte (8 : Int32) vs (.int 0) := (V_a.ext E2)
  refine own_alen X2 hx hZ e2 f5 hby d10_23 ?_
  refine own_iloadN X2.here hx hby d10_24 rfl ?_
  have z7 : n0 ≤ h2.size := by omega
  refine own_callS X2 hx hZ hown (own_w hw 60 rfl) (own_w hw 61 rfl) (own_w hw 3 rfl) (own_w hw 62 rfl) (by decide) (min_8_16 l Z a0 hw []  h2 n0 z7 ) 4 (Nat.le_of_eq rfl) (by decide) (by decide) (by rw [hml]; rfl) (argsL := [(.int 8), (.int 16)]) (st := [(.int 0), (.ref b2), (.int 0), (.ref a)]) (lenOf pd_0 rfl) rfl rfl (by decide) (by decide) e2 hby d10_25 ?_
  intro T6 v6 L6 X6 hQ6
  obtain ⟨rfl, Nq6, eh6⟩ := hQ6
  have N6 := Fr.app N0 Nq6
  refine own_sh (T := T6) 28 #[.val (.ref a), .val (.int 16), .val (.ref b2)] [(.int 8), (.int 0), (.ref b2), (.int 0), (.ref a)] ?_
  have V9 : Arv Z h2 b2 k2 .byte (16 : Int32) [] (.int 0) := V4.pad (fun i => (pad_rep [] (.int 0) 16 i).symm)
  refine own_copy0 X6 hx hZ hown (own_w hw 63 rfl) (own_w hw 66 rfl) (own_w hw 64 rfl) (own_w hw 65 rfl) eh6 f5 V9 rfl 8 (by decide) (by decide) (by decide) (by decide) N6 (by omega) (by rw [hml]; rfl) hby d10_28 (by decide) 0 (Nat.le_of_eq rfl) (by decide) ?_
  intro T8 h8 lo8 X8 e8 N8 K8 V8 z8
  have V10 : Arv Z h8 b2 k2 .byte (16 : Int32) ((List.range 8).map fun i => vs.getD i (.int 0)) (.int 0) := V8
  refine own_aloadN X8.here hx hby d10_31 rfl rfl ?_
  have K11 : Keep h0 h8 [] := (((Keep.refl h0 []).ext E2).trans K8 (allS (P := fun xq_ => xq_ ∈ [] ∨ h0.size ≤ xq_) (Or.inr (by omega)) all0))
  obtain ⟨fs, hr, hrun, hended, hW, hsame⟩ := X8.leave (v := some (.ref b2)) (fun h => by rw [Bd.returns] at h; cases h)
  refine own_ret (t := T8.setFrames fs) ?_ ⟨_, hrun, hended, _, _, rfl, ?_, ⟨_, rfl⟩, hW, hsame.mono (by decide) (by decide)⟩
  · exact retOut X8 hx Bd.returns rfl (Or.inr (Or.inr (Or.inr (Or.inr ⟨rfl, rfl, rfl⟩)))) (hb hby d10_32) hr
  · show Q_copyOf_8 Z _ _ _ h0 n0 _ T8.heap _
    rw [e8]
    exact ⟨b2, k2, rfl, N8, K11, (by omega), V10⟩
def Q_min_16_32 (Z : State)  (h0 : Heap) (n0 : Nat) (vR : Option Value) (hR : Heap) (LR : List Loc) : Prop := vR = some (.int 16) ∧ Fr n0 LR ∧ hR = h0
set_option maxRecDepth 65536 in
set_option maxHeartbeats 40000000 in
theorem min_16_32 (l : Launch) (Z : State) (a0 : Array Value) (hw : ∀ d ∈ tables_1, d.before a0 Z = true) (ws : List Jvm.Cond)  (h0 : Heap) (n0 : Nat) (Z0 : n0 ≤ h0.size)  :
    own_M l (⟨"java/lang/Math", "min", "(II)I"⟩ : MethodName) jdk_29_method_69_code 2 (some .int) ws ({ frames := 0, cells := 0, slots := 0, locals := 0 } : Room) Z #[(.int 16), (.int 32)] h0 (Q_min_16_32 Z  h0 n0) := by
  refine own_body (own := "java/lang/Math") rfl (Jvm.Free.JP.mathPlain rfl (by decide +kernel)) (fun m => ef_min_0_8 m (16 : Int32) (32 : Int32)) ?_
  intro p e s m below meth c s₁ Bd hml hZ hh hx hby hown X0 e0
  have N0 := Fr.nil n0
  refine own_iloadN X0.here hx hby d11_0 rfl ?_
  refine own_iloadN X0.here hx hby d11_1 rfl ?_
  refine own_icmpNo X0.here hx hby d11_2 (flt (show ¬ ((32 : Int32) < (16 : Int32)) from (by decide))).2.2.1 ?_
  refine own_iloadN X0.here hx hby d11_5 rfl ?_
  refine own_goto X0.here hx hby (pc' := 10) d11_6 (by decide) (by decide) ?_
  obtain ⟨fs, hr, hrun, hended, hW, hsame⟩ := X0.leave (v := some (.int 16)) (fun h => by rw [Bd.returns] at h; cases h)
  refine own_ret (t := s₁.setFrames fs) ?_ ⟨_, hrun, hended, _, _, rfl, ?_, ⟨_, rfl⟩, hW, hsame.mono (by decide) (by decide)⟩
  · exact retOut X0 hx Bd.returns rfl (Or.inl ⟨rfl, Or.inl rfl, _, rfl⟩) (hb hby d11_10) hr
  · show Q_min_16_32 Z h0 n0 _ s₁.heap _
    rw [e0]
    exact ⟨rfl, N0, rfl⟩
def Q_copyOf_16 (Z : State) (a : Nat) (ka : ClassId) (vs : List Value) (h0 : Heap) (n0 : Nat) (vR : Option Value) (hR : Heap) (LR : List Loc) : Prop := ∃ (b : Nat) (kb : ClassId), vR = some (.ref b) ∧ Fr n0 LR ∧ Keep h0 hR [] ∧ h0.size ≤ b ∧ (Arv Z hR b kb .byte (32 : Int32) ((List.range 16).map fun i => vs.getD i (.int 0)) (.int 0))
set_option maxRecDepth 65536 in
set_option maxHeartbeats 40000000 in
theorem copyOf_16 (l : Launch) (Z : State) (a0 : Array Value) (hw : ∀ d ∈ tables_1, d.before a0 Z = true) (ws : List Jvm.Cond) (a : Nat) (ka : ClassId) (vs : List Value) (h0 : Heap) (n0 : Nat) (Z0 : n0 ≤ h0.size) (V_a : Arv Z h0 a ka .byte (16 : Int32) vs (.int 0)) :
    own_M l (⟨"java/util/Arrays", "copyOf", "([BI)[B"⟩ : MethodName) jdk_65_method_121_code 3 (some (.array .byte)) ws ({ frames := 1, cells := 1, slots := 32, locals := 18 } : Room) Z #[(.ref a), (.int 32)] h0 (Q_copyOf_16 Z a ka vs h0 n0) := by
  refine own_body (own := "java/util/Arrays") rfl (plainFor_of_name pn_10) (fun m => ef_copyOf_0 m a (32 : Int32)) ?_
  intro p e s m below meth c s₁ Bd hml hZ hh hx hby hown X0 e0
  have N0 := Fr.nil n0
  have lt1 : h0.size > a := V_a.lt
  refine own_iloadN X0.here hx hby d10_0 rfl ?_
  refine own_aloadN X0.here hx hby d10_1 rfl rfl ?_
  refine own_alen X0 hx hZ e0 V_a hby d10_2 ?_
  refine own_icmpYes X0.here hx hby (pc' := 14) d10_3 (feq (show ¬ ((32 : Int32) = (16 : Int32)) from (by decide))).2 (by decide) (by decide) ?_
  refine own_iloadN X0.here hx hby d10_14 rfl ?_
  refine own_newP X0 hx hZ (aty := .byte) (own_w hw 59 rfl) e0 hby d10_15 (by decide) 32 (by decide) (by decide) (by decide) (by decide) (ad := "[B") (by decide) ?_
  intro T2 h2 k2 b2 X2 e2 E2 g2 V2 C2 lt2
  have z3 : h0.size ≤ h2.size := E2.1
  have V4 : Arv Z h2 b2 k2 .byte (32 : Int32) [(.int 0), (.int 0), (.int 0), (.int 0), (.int 0), (.int 0), (.int 0), (.int 0), (.int 0), (.int 0), (.int 0), (.int 0), (.int 0), (.int 0), (.int 0), (.int 0), (.int 0), (.int 0), (.int 0), (.int 0), (.int 0), (.int 0), (.int 0), (.int 0), (.int 0), (.int 0), (.int 0), (.int 0), (.int 0), (.int 0), (.int 0), (.int 0)] (.int 0) := V2.pad (pad_rep [] (.int 0) 32)
  refine own_astoreN X2.here hx hby d10_17 rfl (l' := #[.val (.ref a), .val (.int 32), .val (.ref b2)]) rfl ?_
  refine own_aloadN X2.here hx hby d10_18 rfl rfl ?_
  refine own_iconst X2.here hx hby d10_19 (v := (0 : Int32)) (by decide) ?_
  refine own_aloadN X2.here hx hby d10_20 rfl rfl ?_
  refine own_iconst X2.here hx hby d10_21 (v := (0 : Int32)) (by decide) ?_
  refine own_aloadN X2.here hx hby d10_22 rfl rfl ?_
  have f5 : Arv Z h2 a ka .byte (16 : Int32) vs (.int 0) := (V_a.ext E2)
  refine own_alen X2 hx hZ e2 f5 hby d10_23 ?_
  refine own_iloadN X2.here hx hby d10_24 rfl ?_
  have z7 : n0 ≤ h2.size := by omega
  refine own_callS X2 hx hZ hown (own_w hw 60 rfl) (own_w hw 61 rfl) (own_w hw 3 rfl) (own_w hw 62 rfl) (by decide) (min_16_32 l Z a0 hw []  h2 n0 z7 ) 4 (Nat.le_of_eq rfl) (by decide) (by decide) (by rw [hml]; rfl) (argsL := [(.int 16), (.int 32)]) (st := [(.int 0), (.ref b2), (.int 0), (.ref a)]) (lenOf pd_0 rfl) rfl rfl (by decide) (by decide) e2 hby d10_25 ?_
  intro T6 v6 L6 X6 hQ6
  obtain ⟨rfl, Nq6, eh6⟩ := hQ6
  have N6 := Fr.app N0 Nq6
  refine own_sh (T := T6) 28 #[.val (.ref a), .val (.int 32), .val (.ref b2)] [(.int 16), (.int 0), (.ref b2), (.int 0), (.ref a)] ?_
  have V9 : Arv Z h2 b2 k2 .byte (32 : Int32) [] (.int 0) := V4.pad (fun i => (pad_rep [] (.int 0) 32 i).symm)
  refine own_copy0 X6 hx hZ hown (own_w hw 63 rfl) (own_w hw 66 rfl) (own_w hw 64 rfl) (own_w hw 65 rfl) eh6 f5 V9 rfl 16 (by decide) (by decide) (by decide) (by decide) N6 (by omega) (by rw [hml]; rfl) hby d10_28 (by decide) 0 (Nat.le_of_eq rfl) (by decide) ?_
  intro T8 h8 lo8 X8 e8 N8 K8 V8 z8
  have V10 : Arv Z h8 b2 k2 .byte (32 : Int32) ((List.range 16).map fun i => vs.getD i (.int 0)) (.int 0) := V8
  refine own_aloadN X8.here hx hby d10_31 rfl rfl ?_
  have K11 : Keep h0 h8 [] := (((Keep.refl h0 []).ext E2).trans K8 (allS (P := fun xq_ => xq_ ∈ [] ∨ h0.size ≤ xq_) (Or.inr (by omega)) all0))
  obtain ⟨fs, hr, hrun, hended, hW, hsame⟩ := X8.leave (v := some (.ref b2)) (fun h => by rw [Bd.returns] at h; cases h)
  refine own_ret (t := T8.setFrames fs) ?_ ⟨_, hrun, hended, _, _, rfl, ?_, ⟨_, rfl⟩, hW, hsame.mono (by decide) (by decide)⟩
  · exact retOut X8 hx Bd.returns rfl (Or.inr (Or.inr (Or.inr (Or.inr ⟨rfl, rfl, rfl⟩)))) (hb hby d10_32) hr
  · show Q_copyOf_16 Z _ _ _ h0 n0 _ T8.heap _
    rw [e8]
    exact ⟨b2, k2, rfl, N8, K11, (by omega), V10⟩
theorem ef_put0 (m : MethodId) (x0 : Nat) (x1 : Int32) : entryFrame m #[(.ref x0), (.int x1)] 3 = mkF m 0 #[.val (.ref x0), .val (.int x1), .unset] [] := by first | (simp [entryFrame, mkF, argsToLocals, Value.category]; done) | rfl
theorem pn_9 : plainName "com/example/rank_to_reach/ranktoreach/Postings$Writer" = true := by first | (simp [plainName, overriddenIn]; done) | decide +kernel
theorem d9_0 : decode prog_36_method_8_code 0 = .ok (.aload_n 0, 1) := by decide +kernel
theorem d9_1 : decode prog_36_method_8_code 1 = .ok (.getfield 29, 3) := by decide +kernel
theorem d9_4 : decode prog_36_method_8_code 4 = .ok (.iconst 5, 1) := by decide +kernel
theorem d9_5 : decode prog_36_method_8_code 5 = .ok (.iadd, 1) := by decide +kernel
theorem d9_6 : decode prog_36_method_8_code 6 = .ok (.aload_n 0, 1) := by decide +kernel
theorem d9_7 : decode prog_36_method_8_code 7 = .ok (.getfield 15, 3) := by decide +kernel
theorem d9_10 : decode prog_36_method_8_code 10 = .ok (.arraylength, 1) := by decide +kernel
theorem d9_11 : decode prog_36_method_8_code 11 = .ok (.if_icmp .le 26, 3) := by decide +kernel
theorem d9_14 : decode prog_36_method_8_code 14 = .ok (.aload_n 0, 1) := by decide +kernel
theorem d9_15 : decode prog_36_method_8_code 15 = .ok (.aload_n 0, 1) := by decide +kernel
theorem d9_16 : decode prog_36_method_8_code 16 = .ok (.getfield 15, 3) := by decide +kernel
theorem d9_19 : decode prog_36_method_8_code 19 = .ok (.bipush 8, 2) := by decide +kernel
theorem d9_21 : decode prog_36_method_8_code 21 = .ok (.aload_n 0, 1) := by decide +kernel
theorem d9_22 : decode prog_36_method_8_code 22 = .ok (.getfield 15, 3) := by decide +kernel
theorem d9_25 : decode prog_36_method_8_code 25 = .ok (.arraylength, 1) := by decide +kernel
theorem d9_26 : decode prog_36_method_8_code 26 = .ok (.iconst 2, 1) := by decide +kernel
theorem d9_27 : decode prog_36_method_8_code 27 = .ok (.imul, 1) := by decide +kernel
theorem d9_28 : decode prog_36_method_8_code 28 = .ok (.invokestatic 32, 3) := by decide +kernel
theorem d9_31 : decode prog_36_method_8_code 31 = .ok (.invokestatic 38, 3) := by decide +kernel
theorem pd_1 : parseMethodDescriptor "([BI)[B" = some ⟨[(.array .byte), .int], some (.array .byte)⟩ := by decide +kernel
theorem d9_34 : decode prog_36_method_8_code 34 = .ok (.putfield 15, 3) := by decide +kernel
theorem d9_37 : decode prog_36_method_8_code 37 = .ok (.iload_n 1, 1) := by decide +kernel
theorem d9_38 : decode prog_36_method_8_code 38 = .ok (.istore_n 2, 1) := by decide +kernel
theorem d9_39 : decode prog_36_method_8_code 39 = .ok (.iload_n 2, 1) := by decide +kernel
theorem d9_40 : decode prog_36_method_8_code 40 = .ok (.bipush 127, 2) := by decide +kernel
theorem d9_42 : decode prog_36_method_8_code 42 = .ok (.if_icmp .le 36, 3) := by decide +kernel
theorem d9_45 : decode prog_36_method_8_code 45 = .ok (.aload_n 0, 1) := by decide +kernel
theorem d9_46 : decode prog_36_method_8_code 46 = .ok (.getfield 15, 3) := by decide +kernel
theorem d9_49 : decode prog_36_method_8_code 49 = .ok (.aload_n 0, 1) := by decide +kernel
theorem d9_50 : decode prog_36_method_8_code 50 = .ok (.dup, 1) := by decide +kernel
theorem d9_51 : decode prog_36_method_8_code 51 = .ok (.getfield 29, 3) := by decide +kernel
theorem d9_54 : decode prog_36_method_8_code 54 = .ok (.dup_x1, 1) := by decide +kernel
theorem d9_55 : decode prog_36_method_8_code 55 = .ok (.iconst 1, 1) := by decide +kernel
theorem d9_56 : decode prog_36_method_8_code 56 = .ok (.iadd, 1) := by decide +kernel
theorem d9_57 : decode prog_36_method_8_code 57 = .ok (.putfield 29, 3) := by decide +kernel
theorem d9_60 : decode prog_36_method_8_code 60 = .ok (.iload_n 2, 1) := by decide +kernel
theorem d9_61 : decode prog_36_method_8_code 61 = .ok (.bipush 127, 2) := by decide +kernel
theorem d9_63 : decode prog_36_method_8_code 63 = .ok (.iand, 1) := by decide +kernel
theorem d9_64 : decode prog_36_method_8_code 64 = .ok (.sipush 128, 3) := by decide +kernel
theorem d9_67 : decode prog_36_method_8_code 67 = .ok (.ior, 1) := by decide +kernel
theorem d9_68 : decode prog_36_method_8_code 68 = .ok (.i2b, 1) := by decide +kernel
theorem d9_69 : decode prog_36_method_8_code 69 = .ok (.bastore, 1) := by decide +kernel
theorem d9_70 : decode prog_36_method_8_code 70 = .ok (.iload_n 2, 1) := by decide +kernel
theorem d9_71 : decode prog_36_method_8_code 71 = .ok (.bipush 7, 2) := by decide +kernel
theorem d9_73 : decode prog_36_method_8_code 73 = .ok (.iushr, 1) := by decide +kernel
theorem d9_74 : decode prog_36_method_8_code 74 = .ok (.istore_n 2, 1) := by decide +kernel
theorem d9_75 : decode prog_36_method_8_code 75 = .ok (.goto (-36), 3) := by decide +kernel
theorem d9_78 : decode prog_36_method_8_code 78 = .ok (.aload_n 0, 1) := by decide +kernel
theorem d9_79 : decode prog_36_method_8_code 79 = .ok (.getfield 15, 3) := by decide +kernel
theorem d9_82 : decode prog_36_method_8_code 82 = .ok (.aload_n 0, 1) := by decide +kernel
theorem d9_83 : decode prog_36_method_8_code 83 = .ok (.dup, 1) := by decide +kernel
theorem d9_84 : decode prog_36_method_8_code 84 = .ok (.getfield 29, 3) := by decide +kernel
theorem d9_87 : decode prog_36_method_8_code 87 = .ok (.dup_x1, 1) := by decide +kernel
theorem d9_88 : decode prog_36_method_8_code 88 = .ok (.iconst 1, 1) := by decide +kernel
theorem d9_89 : decode prog_36_method_8_code 89 = .ok (.iadd, 1) := by decide +kernel
theorem d9_90 : decode prog_36_method_8_code 90 = .ok (.putfield 29, 3) := by decide +kernel
theorem d9_93 : decode prog_36_method_8_code 93 = .ok (.iload_n 2, 1) := by decide +kernel
theorem d9_94 : decode prog_36_method_8_code 94 = .ok (.i2b, 1) := by decide +kernel
theorem d9_95 : decode prog_36_method_8_code 95 = .ok (.bastore, 1) := by decide +kernel
theorem d9_96 : decode prog_36_method_8_code 96 = .ok (.return_, 1) := by decide +kernel
def Q_put0 (Z : State) (t : Nat) (wN : Nat) (v : Int32) (lst : Int32) (cnt : Int32) (kN : ClassId) (h0 : Heap) (n0 : Nat) (vR : Option Value) (hR : Heap) (LR : List Loc) : Prop := ∃ (b : Nat) (kb : ClassId) (us : List Value), vR = none ∧ Fr n0 LR ∧ Keep h0 hR [t] ∧ (Exa Z hR t "com/example/rank_to_reach/ranktoreach/Postings$Writer") ∧ (Fld Z hR t "com/example/rank_to_reach/ranktoreach/Postings$Writer" "bytes" "[B" (.ref b)) ∧ (Fld Z hR t "com/example/rank_to_reach/ranktoreach/Postings$Writer" "size" "I" (.int (own_vI v))) ∧ (Fld Z hR t "com/example/rank_to_reach/ranktoreach/Postings$Writer" "last" "I" (.int lst)) ∧ (Fld Z hR t "com/example/rank_to_reach/ranktoreach/Postings$Writer" "count" "I" (.int cnt)) ∧ h0.size ≤ b ∧ (Arv Z hR b kb .byte (8 : Int32) us (.int 0)) ∧ (∀ j, j < own_vl v → us.getD j (.int 0) = .int (own_by v j))
set_option maxRecDepth 65536 in
set_option maxHeartbeats 40000000 in
theorem put0 (l : Launch) (Z : State) (a0 : Array Value) (hw : ∀ d ∈ tables_1, d.before a0 Z = true) (ws : List Jvm.Cond) (t : Nat) (wN : Nat) (v : Int32) (lst : Int32) (cnt : Int32) (kN : ClassId) (h0 : Heap) (n0 : Nat) (Z0 : n0 ≤ h0.size) (E_t : Exa Z h0 t "com/example/rank_to_reach/ranktoreach/Postings$Writer") (F_bytes : Fld Z h0 t "com/example/rank_to_reach/ranktoreach/Postings$Writer" "bytes" "[B" (.ref wN)) (F_size : Fld Z h0 t "com/example/rank_to_reach/ranktoreach/Postings$Writer" "size" "I" (.int 0)) (V_wN : Arv Z h0 wN kN .byte (0 : Int32) [] (.int 0)) (F_last : Fld Z h0 t "com/example/rank_to_reach/ranktoreach/Postings$Writer" "last" "I" (.int lst)) (F_count : Fld Z h0 t "com/example/rank_to_reach/ranktoreach/Postings$Writer" "count" "I" (.int cnt)) (g_t : n0 ≤ t) (hv : (0 : Int32) < v) :
    own_M l (⟨"com/example/rank_to_reach/ranktoreach/Postings$Writer", "put", "(I)V"⟩ : MethodName) prog_36_method_8_code 3 none ws ({ frames := 2, cells := 1, slots := 8, locals := 33 } : Room) Z #[(.ref t), (.int v)] h0 (Q_put0 Z t wN v lst cnt kN h0 n0) := by
  refine own_body (own := "com/example/rank_to_reach/ranktoreach/Postings$Writer") rfl (plainFor_of_name pn_9) (fun m => ef_put0 m t v) ?_
  intro p e s m below meth c s₁ Bd hml hZ hh hx hby hown X0 e0
  have N0 := Fr.nil n0
  have lt1 : h0.size > t := E_t.lt
  have lt2 : h0.size > wN := V_wN.lt
  refine own_aloadN X0.here hx hby d9_0 rfl rfl ?_
  refine own_getF X0 hx hZ hown (host := "") (Or.inl (own_w hw 26 rfl)) Via.refl e0 F_size hby d9_1 ?_
  intro T3 X3 e3
  refine own_iconst X3.here hx hby d9_4 (v := (5 : Int32)) (by decide) ?_
  refine own_iadd X3.here hx hby d9_5 (v := (5 : Int32)) (by decide) ?_
  refine own_aloadN X3.here hx hby d9_6 rfl rfl ?_
  refine own_getF X3 hx hZ hown (host := "") (Or.inl (own_w hw 17 rfl)) Via.refl e3 F_bytes hby d9_7 ?_
  intro T4 X4 e4
  refine own_alen X4 hx hZ e4 V_wN hby d9_10 ?_
  refine own_icmpNo X4.here hx hby d9_11 (tlt (show (0 : Int32) < (5 : Int32) from (by decide))).2.2.2 ?_
  refine own_aloadN X4.here hx hby d9_14 rfl rfl ?_
  refine own_aloadN X4.here hx hby d9_15 rfl rfl ?_
  refine own_getF X4 hx hZ hown (host := "") (Or.inl (own_w hw 17 rfl)) Via.refl e4 F_bytes hby d9_16 ?_
  intro T5 X5 e5
  refine own_bipush X5.here hx hby d9_19 (v := (8 : Int32)) (by decide) ?_
  refine own_aloadN X5.here hx hby d9_21 rfl rfl ?_
  refine own_getF X5 hx hZ hown (host := "") (Or.inl (own_w hw 17 rfl)) Via.refl e5 F_bytes hby d9_22 ?_
  intro T6 X6 e6
  refine own_alen X6 hx hZ e6 V_wN hby d9_25 ?_
  refine own_iconst X6.here hx hby d9_26 (v := (2 : Int32)) (by decide) ?_
  refine own_imul X6.here hx hby d9_27 (v := (0 : Int32)) (by decide) ?_
  refine own_callS X6 hx hZ hown (own_w hw 54 rfl) (own_w hw 2 rfl) (own_w hw 3 rfl) (own_w hw 4 rfl) (by decide) (max_8_0 l Z a0 hw []  h0 n0 Z0 ) 2 (Nat.le_of_eq rfl) (by decide) (by decide) (by rw [hml]; rfl) (argsL := [(.int 8), (.int 0)]) (st := [(.ref wN), (.ref t)]) (lenOf pd_0 rfl) rfl rfl (by decide) (by decide) e6 hby d9_28 ?_
  intro T7 v7 L7 X7 hQ7
  obtain ⟨rfl, Nq7, eh7⟩ := hQ7
  have N7 := Fr.app N0 Nq7
  refine own_sh (T := T7) 31 #[.val (.ref t), .val (.int v), .unset] [(.int 8), (.ref wN), (.ref t)] ?_
  refine own_callS X7 hx hZ hown (own_w hw 55 rfl) (own_w hw 56 rfl) (own_w hw 57 rfl) (own_w hw 58 rfl) (by decide) (copyOf_0 l Z a0 hw [] wN kN ([]) h0 n0 Z0 V_wN) 1 (Nat.le_of_eq rfl) (by decide) (by decide) (by rw [hml]; rfl) (argsL := [(.ref wN), (.int 8)]) (st := [(.ref t)]) (lenOf pd_1 rfl) rfl rfl (by decide) (by decide) eh7 hby d9_31 ?_
  intro T8 v8 L8 X8 hQ8
  obtain ⟨b_8, kb_8, rfl, Nq8, K8, P8_0, P8_1⟩ := hQ8
  have N8 := Fr.app N7 Nq8
  have z9 : h0.size ≤ T8.heap.size := K8.1
  have lt10 : T8.heap.size > b_8 := P8_1.lt
  refine own_sh (T := T8) 34 #[.val (.ref t), .val (.int v), .unset] [(.ref b_8), (.ref t)] ?_
  have f11 : Exa Z T8.heap t "com/example/rank_to_reach/ranktoreach/Postings$Writer" := (E_t.keep K8)
  have f12 : Fld Z T8.heap t "com/example/rank_to_reach/ranktoreach/Postings$Writer" "bytes" "[B" (.ref wN) := (F_bytes.keep K8 nin0)
  refine own_putF X8 hx hZ (ty := (.array .byte)) hown (host := "") (Or.inl (own_w hw 17 rfl)) Via.refl rfl f12 f11 (Or.inl (own_w hw 18 rfl)) (own_w hw 7 rfl) (by decide) rfl rfl hby d9_34 N8 g_t ?_
  intro T13 h13 lo13 X13 e13 N13 W13 F13 z13
  refine own_iloadN X13.here hx hby d9_37 rfl ?_
  refine own_istoreN X13.here hx hby d9_38 (l' := #[.val (.ref t), .val (.int v), .val (.int v)]) rfl ?_
  refine own_sh (T := T13) 39 #[.val (.ref t), .val (.int v), .val (.int (own_r v 0))] [] ?_
  refine own_iloadN X13.here hx hby d9_39 rfl ?_
  refine own_bipush X13.here hx hby d9_40 (v := (127 : Int32)) (by decide) ?_
  by_cases hc42_14 : (127 : Int32) < (own_r v 0)
  · refine own_icmpNo X13.here hx hby d9_42 (tlt hc42_14).2.2.2 ?_
    refine own_aloadN X13.here hx hby d9_45 rfl rfl ?_
    refine own_getF X13 hx hZ hown (host := "") (Or.inl (own_w hw 17 rfl)) Via.refl e13 F13 hby d9_46 ?_
    intro T15 X15 e15
    refine own_aloadN X15.here hx hby d9_49 rfl rfl ?_
    refine own_dup X15.here hx hby d9_50 rfl ?_
    have f16 : Fld Z h13 t "com/example/rank_to_reach/ranktoreach/Postings$Writer" "size" "I" (.int 0) := ((F_size.keep K8 nin0).other W13 (Or.inr (slot_ne (Or.inl (own_w hw 27 rfl)) (Or.inl (own_w hw 18 rfl)) (by decide) (t := .int) (t' := (.array .byte)) (by decide) (by decide))))
    refine own_getF X15 hx hZ hown (host := "") (Or.inl (own_w hw 26 rfl)) Via.refl e15 f16 hby d9_51 ?_
    intro T17 X17 e17
    refine own_dupX1 X17.here hx hby d9_54 rfl rfl ?_
    refine own_iconst X17.here hx hby d9_55 (v := (1 : Int32)) (by decide) ?_
    refine own_iadd X17.here hx hby d9_56 (v := (1 : Int32)) (by decide) ?_
    have f18 : Exa Z h13 t "com/example/rank_to_reach/ranktoreach/Postings$Writer" := (f11.wr W13)
    refine own_putF X17 hx hZ (ty := .int) hown (host := "") (Or.inl (own_w hw 26 rfl)) Via.refl e17 f16 f18 (Or.inl (own_w hw 27 rfl)) (own_w hw 7 rfl) (by decide) rfl rfl hby d9_57 N13 g_t ?_
    intro T19 h19 lo19 X19 e19 N19 W19 F19 z19
    refine own_iloadN X19.here hx hby d9_60 rfl ?_
    refine own_bipush X19.here hx hby d9_61 (v := (127 : Int32)) (by decide) ?_
    refine own_iand X19.here hx hby d9_63 rfl ?_
    refine own_sipush X19.here hx hby d9_64 (v := (128 : Int32)) (by decide) ?_
    refine own_ior X19.here hx hby d9_67 rfl ?_
    refine own_i2b X19.here hx hby d9_68 rfl ?_
    have f20 : Arv Z h19 b_8 kb_8 .byte (8 : Int32) [] (.int 0) := ((P8_1.other W13 (own_nn (by omega))).other W19 (own_nn (by omega)))
    have V22 : Arv Z h19 b_8 kb_8 .byte (8 : Int32) [(.int 0)] (.int 0) := f20.pad (pad_rep [] (.int 0) 1)
    refine own_bastore X19 hx hZ e19 V22 ⟨by decide, by decide⟩ 0 (by decide) (Nat.le_of_ble_eq_true rfl) rfl hby d9_69 N19 (by omega) ?_
    intro T21 h21 lo21 X21 e21 N21 W21 V21 z21
    have V23 : Arv Z h21 b_8 kb_8 .byte (8 : Int32) [(.int (nar .byte ((((own_r v 0) &&& (127 : Int32)) ||| (128 : Int32)).toInt8.toInt32)))] (.int 0) := V21
    refine own_iloadN X21.here hx hby d9_70 rfl ?_
    refine own_bipush X21.here hx hby d9_71 (v := (7 : Int32)) (by decide) ?_
    refine own_iushr X21.here hx hby d9_73 rfl ?_
    refine own_istoreN X21.here hx hby d9_74 (l' := #[.val (.ref t), .val (.int v), .val (.int (((own_r v 0).toUInt32 >>> ((7 : Int32) &&& 31).toUInt32).toInt32))]) rfl ?_
    refine own_goto X21.here hx hby (pc' := 39) d9_75 (by decide) (by decide) ?_
    refine own_sh (T := T21) 39 #[.val (.ref t), .val (.int v), .val (.int (own_r v 1))] [] ?_
    refine own_iloadN X21.here hx hby d9_39 rfl ?_
    refine own_bipush X21.here hx hby d9_40 (v := (127 : Int32)) (by decide) ?_
    by_cases hc42_24 : (127 : Int32) < (own_r v 1)
    · refine own_icmpNo X21.here hx hby d9_42 (tlt hc42_24).2.2.2 ?_
      refine own_aloadN X21.here hx hby d9_45 rfl rfl ?_
      have f25 : Fld Z h21 t "com/example/rank_to_reach/ranktoreach/Postings$Writer" "bytes" "[B" (.ref b_8) := ((F13.other W19 (Or.inr (slot_ne (Or.inl (own_w hw 18 rfl)) (Or.inl (own_w hw 27 rfl)) (by decide) (t := (.array .byte)) (t' := .int) (by decide) (by decide)))).other W21 (Or.inl (own_nn (by omega))))
      refine own_getF X21 hx hZ hown (host := "") (Or.inl (own_w hw 17 rfl)) Via.refl e21 f25 hby d9_46 ?_
      intro T26 X26 e26
      refine own_aloadN X26.here hx hby d9_49 rfl rfl ?_
      refine own_dup X26.here hx hby d9_50 rfl ?_
      have f27 : Fld Z h21 t "com/example/rank_to_reach/ranktoreach/Postings$Writer" "size" "I" (.int 1) := (F19.other W21 (Or.inl (own_nn (by omega))))
      refine own_getF X26 hx hZ hown (host := "") (Or.inl (own_w hw 26 rfl)) Via.refl e26 f27 hby d9_51 ?_
      intro T28 X28 e28
      refine own_dupX1 X28.here hx hby d9_54 rfl rfl ?_
      refine own_iconst X28.here hx hby d9_55 (v := (1 : Int32)) (by decide) ?_
      refine own_iadd X28.here hx hby d9_56 (v := (2 : Int32)) (by decide) ?_
      have f29 : Exa Z h21 t "com/example/rank_to_reach/ranktoreach/Postings$Writer" := ((f18.wr W19).wr W21)
      refine own_putF X28 hx hZ (ty := .int) hown (host := "") (Or.inl (own_w hw 26 rfl)) Via.refl e28 f27 f29 (Or.inl (own_w hw 27 rfl)) (own_w hw 7 rfl) (by decide) rfl rfl hby d9_57 N21 g_t ?_
      intro T30 h30 lo30 X30 e30 N30 W30 F30 z30
      refine own_iloadN X30.here hx hby d9_60 rfl ?_
      refine own_bipush X30.here hx hby d9_61 (v := (127 : Int32)) (by decide) ?_
      refine own_iand X30.here hx hby d9_63 rfl ?_
      refine own_sipush X30.here hx hby d9_64 (v := (128 : Int32)) (by decide) ?_
      refine own_ior X30.here hx hby d9_67 rfl ?_
      refine own_i2b X30.here hx hby d9_68 rfl ?_
      have f31 : Arv Z h30 b_8 kb_8 .byte (8 : Int32) [(.int (nar .byte ((((own_r v 0) &&& (127 : Int32)) ||| (128 : Int32)).toInt8.toInt32)))] (.int 0) := (V23.other W30 (own_nn (by omega)))
      have V33 : Arv Z h30 b_8 kb_8 .byte (8 : Int32) [(.int (nar .byte ((((own_r v 0) &&& (127 : Int32)) ||| (128 : Int32)).toInt8.toInt32))), (.int 0)] (.int 0) := f31.pad (pad_rep [(.int (nar .byte ((((own_r v 0) &&& (127 : Int32)) ||| (128 : Int32)).toInt8.toInt32)))] (.int 0) 1)
      refine own_bastore X30 hx hZ e30 V33 ⟨by decide, by decide⟩ 1 (by decide) (Nat.le_of_ble_eq_true rfl) rfl hby d9_69 N30 (by omega) ?_
      intro T32 h32 lo32 X32 e32 N32 W32 V32 z32
      have V34 : Arv Z h32 b_8 kb_8 .byte (8 : Int32) [(.int (nar .byte ((((own_r v 0) &&& (127 : Int32)) ||| (128 : Int32)).toInt8.toInt32))), (.int (nar .byte ((((own_r v 1) &&& (127 : Int32)) ||| (128 : Int32)).toInt8.toInt32)))] (.int 0) := V32
      refine own_iloadN X32.here hx hby d9_70 rfl ?_
      refine own_bipush X32.here hx hby d9_71 (v := (7 : Int32)) (by decide) ?_
      refine own_iushr X32.here hx hby d9_73 rfl ?_
      refine own_istoreN X32.here hx hby d9_74 (l' := #[.val (.ref t), .val (.int v), .val (.int (((own_r v 1).toUInt32 >>> ((7 : Int32) &&& 31).toUInt32).toInt32))]) rfl ?_
      refine own_goto X32.here hx hby (pc' := 39) d9_75 (by decide) (by decide) ?_
      refine own_sh (T := T32) 39 #[.val (.ref t), .val (.int v), .val (.int (own_r v 2))] [] ?_
      refine own_iloadN X32.here hx hby d9_39 rfl ?_
      refine own_bipush X32.here hx hby d9_40 (v := (127 : Int32)) (by decide) ?_
      by_cases hc42_35 : (127 : Int32) < (own_r v 2)
      · refine own_icmpNo X32.here hx hby d9_42 (tlt hc42_35).2.2.2 ?_
        refine own_aloadN X32.here hx hby d9_45 rfl rfl ?_
        have f36 : Fld Z h32 t "com/example/rank_to_reach/ranktoreach/Postings$Writer" "bytes" "[B" (.ref b_8) := ((f25.other W30 (Or.inr (slot_ne (Or.inl (own_w hw 18 rfl)) (Or.inl (own_w hw 27 rfl)) (by decide) (t := (.array .byte)) (t' := .int) (by decide) (by decide)))).other W32 (Or.inl (own_nn (by omega))))
        refine own_getF X32 hx hZ hown (host := "") (Or.inl (own_w hw 17 rfl)) Via.refl e32 f36 hby d9_46 ?_
        intro T37 X37 e37
        refine own_aloadN X37.here hx hby d9_49 rfl rfl ?_
        refine own_dup X37.here hx hby d9_50 rfl ?_
        have f38 : Fld Z h32 t "com/example/rank_to_reach/ranktoreach/Postings$Writer" "size" "I" (.int 2) := (F30.other W32 (Or.inl (own_nn (by omega))))
        refine own_getF X37 hx hZ hown (host := "") (Or.inl (own_w hw 26 rfl)) Via.refl e37 f38 hby d9_51 ?_
        intro T39 X39 e39
        refine own_dupX1 X39.here hx hby d9_54 rfl rfl ?_
        refine own_iconst X39.here hx hby d9_55 (v := (1 : Int32)) (by decide) ?_
        refine own_iadd X39.here hx hby d9_56 (v := (3 : Int32)) (by decide) ?_
        have f40 : Exa Z h32 t "com/example/rank_to_reach/ranktoreach/Postings$Writer" := ((f29.wr W30).wr W32)
        refine own_putF X39 hx hZ (ty := .int) hown (host := "") (Or.inl (own_w hw 26 rfl)) Via.refl e39 f38 f40 (Or.inl (own_w hw 27 rfl)) (own_w hw 7 rfl) (by decide) rfl rfl hby d9_57 N32 g_t ?_
        intro T41 h41 lo41 X41 e41 N41 W41 F41 z41
        refine own_iloadN X41.here hx hby d9_60 rfl ?_
        refine own_bipush X41.here hx hby d9_61 (v := (127 : Int32)) (by decide) ?_
        refine own_iand X41.here hx hby d9_63 rfl ?_
        refine own_sipush X41.here hx hby d9_64 (v := (128 : Int32)) (by decide) ?_
        refine own_ior X41.here hx hby d9_67 rfl ?_
        refine own_i2b X41.here hx hby d9_68 rfl ?_
        have f42 : Arv Z h41 b_8 kb_8 .byte (8 : Int32) [(.int (nar .byte ((((own_r v 0) &&& (127 : Int32)) ||| (128 : Int32)).toInt8.toInt32))), (.int (nar .byte ((((own_r v 1) &&& (127 : Int32)) ||| (128 : Int32)).toInt8.toInt32)))] (.int 0) := (V34.other W41 (own_nn (by omega)))
        have V44 : Arv Z h41 b_8 kb_8 .byte (8 : Int32) [(.int (nar .byte ((((own_r v 0) &&& (127 : Int32)) ||| (128 : Int32)).toInt8.toInt32))), (.int (nar .byte ((((own_r v 1) &&& (127 : Int32)) ||| (128 : Int32)).toInt8.toInt32))), (.int 0)] (.int 0) := f42.pad (pad_rep [(.int (nar .byte ((((own_r v 0) &&& (127 : Int32)) ||| (128 : Int32)).toInt8.toInt32))), (.int (nar .byte ((((own_r v 1) &&& (127 : Int32)) ||| (128 : Int32)).toInt8.toInt32)))] (.int 0) 1)
        refine own_bastore X41 hx hZ e41 V44 ⟨by decide, by decide⟩ 2 (by decide) (Nat.le_of_ble_eq_true rfl) rfl hby d9_69 N41 (by omega) ?_
        intro T43 h43 lo43 X43 e43 N43 W43 V43 z43
        have V45 : Arv Z h43 b_8 kb_8 .byte (8 : Int32) [(.int (nar .byte ((((own_r v 0) &&& (127 : Int32)) ||| (128 : Int32)).toInt8.toInt32))), (.int (nar .byte ((((own_r v 1) &&& (127 : Int32)) ||| (128 : Int32)).toInt8.toInt32))), (.int (nar .byte ((((own_r v 2) &&& (127 : Int32)) ||| (128 : Int32)).toInt8.toInt32)))] (.int 0) := V43
        refine own_iloadN X43.here hx hby d9_70 rfl ?_
        refine own_bipush X43.here hx hby d9_71 (v := (7 : Int32)) (by decide) ?_
        refine own_iushr X43.here hx hby d9_73 rfl ?_
        refine own_istoreN X43.here hx hby d9_74 (l' := #[.val (.ref t), .val (.int v), .val (.int (((own_r v 2).toUInt32 >>> ((7 : Int32) &&& 31).toUInt32).toInt32))]) rfl ?_
        refine own_goto X43.here hx hby (pc' := 39) d9_75 (by decide) (by decide) ?_
        refine own_sh (T := T43) 39 #[.val (.ref t), .val (.int v), .val (.int (own_r v 3))] [] ?_
        refine own_iloadN X43.here hx hby d9_39 rfl ?_
        refine own_bipush X43.here hx hby d9_40 (v := (127 : Int32)) (by decide) ?_
        by_cases hc42_46 : (127 : Int32) < (own_r v 3)
        · refine own_icmpNo X43.here hx hby d9_42 (tlt hc42_46).2.2.2 ?_
          refine own_aloadN X43.here hx hby d9_45 rfl rfl ?_
          have f47 : Fld Z h43 t "com/example/rank_to_reach/ranktoreach/Postings$Writer" "bytes" "[B" (.ref b_8) := ((f36.other W41 (Or.inr (slot_ne (Or.inl (own_w hw 18 rfl)) (Or.inl (own_w hw 27 rfl)) (by decide) (t := (.array .byte)) (t' := .int) (by decide) (by decide)))).other W43 (Or.inl (own_nn (by omega))))
          refine own_getF X43 hx hZ hown (host := "") (Or.inl (own_w hw 17 rfl)) Via.refl e43 f47 hby d9_46 ?_
          intro T48 X48 e48
          refine own_aloadN X48.here hx hby d9_49 rfl rfl ?_
          refine own_dup X48.here hx hby d9_50 rfl ?_
          have f49 : Fld Z h43 t "com/example/rank_to_reach/ranktoreach/Postings$Writer" "size" "I" (.int 3) := (F41.other W43 (Or.inl (own_nn (by omega))))
          refine own_getF X48 hx hZ hown (host := "") (Or.inl (own_w hw 26 rfl)) Via.refl e48 f49 hby d9_51 ?_
          intro T50 X50 e50
          refine own_dupX1 X50.here hx hby d9_54 rfl rfl ?_
          refine own_iconst X50.here hx hby d9_55 (v := (1 : Int32)) (by decide) ?_
          refine own_iadd X50.here hx hby d9_56 (v := (4 : Int32)) (by decide) ?_
          have f51 : Exa Z h43 t "com/example/rank_to_reach/ranktoreach/Postings$Writer" := ((f40.wr W41).wr W43)
          refine own_putF X50 hx hZ (ty := .int) hown (host := "") (Or.inl (own_w hw 26 rfl)) Via.refl e50 f49 f51 (Or.inl (own_w hw 27 rfl)) (own_w hw 7 rfl) (by decide) rfl rfl hby d9_57 N43 g_t ?_
          intro T52 h52 lo52 X52 e52 N52 W52 F52 z52
          refine own_iloadN X52.here hx hby d9_60 rfl ?_
          refine own_bipush X52.here hx hby d9_61 (v := (127 : Int32)) (by decide) ?_
          refine own_iand X52.here hx hby d9_63 rfl ?_
          refine own_sipush X52.here hx hby d9_64 (v := (128 : Int32)) (by decide) ?_
          refine own_ior X52.here hx hby d9_67 rfl ?_
          refine own_i2b X52.here hx hby d9_68 rfl ?_
          have f53 : Arv Z h52 b_8 kb_8 .byte (8 : Int32) [(.int (nar .byte ((((own_r v 0) &&& (127 : Int32)) ||| (128 : Int32)).toInt8.toInt32))), (.int (nar .byte ((((own_r v 1) &&& (127 : Int32)) ||| (128 : Int32)).toInt8.toInt32))), (.int (nar .byte ((((own_r v 2) &&& (127 : Int32)) ||| (128 : Int32)).toInt8.toInt32)))] (.int 0) := (V45.other W52 (own_nn (by omega)))
          have V55 : Arv Z h52 b_8 kb_8 .byte (8 : Int32) [(.int (nar .byte ((((own_r v 0) &&& (127 : Int32)) ||| (128 : Int32)).toInt8.toInt32))), (.int (nar .byte ((((own_r v 1) &&& (127 : Int32)) ||| (128 : Int32)).toInt8.toInt32))), (.int (nar .byte ((((own_r v 2) &&& (127 : Int32)) ||| (128 : Int32)).toInt8.toInt32))), (.int 0)] (.int 0) := f53.pad (pad_rep [(.int (nar .byte ((((own_r v 0) &&& (127 : Int32)) ||| (128 : Int32)).toInt8.toInt32))), (.int (nar .byte ((((own_r v 1) &&& (127 : Int32)) ||| (128 : Int32)).toInt8.toInt32))), (.int (nar .byte ((((own_r v 2) &&& (127 : Int32)) ||| (128 : Int32)).toInt8.toInt32)))] (.int 0) 1)
          refine own_bastore X52 hx hZ e52 V55 ⟨by decide, by decide⟩ 3 (by decide) (Nat.le_of_ble_eq_true rfl) rfl hby d9_69 N52 (by omega) ?_
          intro T54 h54 lo54 X54 e54 N54 W54 V54 z54
          have V56 : Arv Z h54 b_8 kb_8 .byte (8 : Int32) [(.int (nar .byte ((((own_r v 0) &&& (127 : Int32)) ||| (128 : Int32)).toInt8.toInt32))), (.int (nar .byte ((((own_r v 1) &&& (127 : Int32)) ||| (128 : Int32)).toInt8.toInt32))), (.int (nar .byte ((((own_r v 2) &&& (127 : Int32)) ||| (128 : Int32)).toInt8.toInt32))), (.int (nar .byte ((((own_r v 3) &&& (127 : Int32)) ||| (128 : Int32)).toInt8.toInt32)))] (.int 0) := V54
          refine own_iloadN X54.here hx hby d9_70 rfl ?_
          refine own_bipush X54.here hx hby d9_71 (v := (7 : Int32)) (by decide) ?_
          refine own_iushr X54.here hx hby d9_73 rfl ?_
          refine own_istoreN X54.here hx hby d9_74 (l' := #[.val (.ref t), .val (.int v), .val (.int (((own_r v 3).toUInt32 >>> ((7 : Int32) &&& 31).toUInt32).toInt32))]) rfl ?_
          refine own_goto X54.here hx hby (pc' := 39) d9_75 (by decide) (by decide) ?_
          refine own_sh (T := T54) 39 #[.val (.ref t), .val (.int v), .val (.int (own_r v 4))] [] ?_
          refine own_iloadN X54.here hx hby d9_39 rfl ?_
          refine own_bipush X54.here hx hby d9_40 (v := (127 : Int32)) (by decide) ?_
          refine own_icmpYes X54.here hx hby (pc' := 78) d9_42 (flt (show ¬ ((127 : Int32) < (own_r v 4)) from (own_r4 v hv))).2.2.2 (by decide) (by decide) ?_
          refine own_aloadN X54.here hx hby d9_78 rfl rfl ?_
          have f57 : Fld Z h54 t "com/example/rank_to_reach/ranktoreach/Postings$Writer" "bytes" "[B" (.ref b_8) := ((f47.other W52 (Or.inr (slot_ne (Or.inl (own_w hw 18 rfl)) (Or.inl (own_w hw 27 rfl)) (by decide) (t := (.array .byte)) (t' := .int) (by decide) (by decide)))).other W54 (Or.inl (own_nn (by omega))))
          refine own_getF X54 hx hZ hown (host := "") (Or.inl (own_w hw 17 rfl)) Via.refl e54 f57 hby d9_79 ?_
          intro T58 X58 e58
          refine own_aloadN X58.here hx hby d9_82 rfl rfl ?_
          refine own_dup X58.here hx hby d9_83 rfl ?_
          have f59 : Fld Z h54 t "com/example/rank_to_reach/ranktoreach/Postings$Writer" "size" "I" (.int 4) := (F52.other W54 (Or.inl (own_nn (by omega))))
          refine own_getF X58 hx hZ hown (host := "") (Or.inl (own_w hw 26 rfl)) Via.refl e58 f59 hby d9_84 ?_
          intro T60 X60 e60
          refine own_dupX1 X60.here hx hby d9_87 rfl rfl ?_
          refine own_iconst X60.here hx hby d9_88 (v := (1 : Int32)) (by decide) ?_
          refine own_iadd X60.here hx hby d9_89 (v := (5 : Int32)) (by decide) ?_
          have f61 : Exa Z h54 t "com/example/rank_to_reach/ranktoreach/Postings$Writer" := ((f51.wr W52).wr W54)
          refine own_putF X60 hx hZ (ty := .int) hown (host := "") (Or.inl (own_w hw 26 rfl)) Via.refl e60 f59 f61 (Or.inl (own_w hw 27 rfl)) (own_w hw 7 rfl) (by decide) rfl rfl hby d9_90 N54 g_t ?_
          intro T62 h62 lo62 X62 e62 N62 W62 F62 z62
          refine own_iloadN X62.here hx hby d9_93 rfl ?_
          refine own_i2b X62.here hx hby d9_94 rfl ?_
          have f63 : Arv Z h62 b_8 kb_8 .byte (8 : Int32) [(.int (nar .byte ((((own_r v 0) &&& (127 : Int32)) ||| (128 : Int32)).toInt8.toInt32))), (.int (nar .byte ((((own_r v 1) &&& (127 : Int32)) ||| (128 : Int32)).toInt8.toInt32))), (.int (nar .byte ((((own_r v 2) &&& (127 : Int32)) ||| (128 : Int32)).toInt8.toInt32))), (.int (nar .byte ((((own_r v 3) &&& (127 : Int32)) ||| (128 : Int32)).toInt8.toInt32)))] (.int 0) := (V56.other W62 (own_nn (by omega)))
          have V65 : Arv Z h62 b_8 kb_8 .byte (8 : Int32) [(.int (nar .byte ((((own_r v 0) &&& (127 : Int32)) ||| (128 : Int32)).toInt8.toInt32))), (.int (nar .byte ((((own_r v 1) &&& (127 : Int32)) ||| (128 : Int32)).toInt8.toInt32))), (.int (nar .byte ((((own_r v 2) &&& (127 : Int32)) ||| (128 : Int32)).toInt8.toInt32))), (.int (nar .byte ((((own_r v 3) &&& (127 : Int32)) ||| (128 : Int32)).toInt8.toInt32))), (.int 0)] (.int 0) := f63.pad (pad_rep [(.int (nar .byte ((((own_r v 0) &&& (127 : Int32)) ||| (128 : Int32)).toInt8.toInt32))), (.int (nar .byte ((((own_r v 1) &&& (127 : Int32)) ||| (128 : Int32)).toInt8.toInt32))), (.int (nar .byte ((((own_r v 2) &&& (127 : Int32)) ||| (128 : Int32)).toInt8.toInt32))), (.int (nar .byte ((((own_r v 3) &&& (127 : Int32)) ||| (128 : Int32)).toInt8.toInt32)))] (.int 0) 1)
          refine own_bastore X62 hx hZ e62 V65 ⟨by decide, by decide⟩ 4 (by decide) (Nat.le_of_ble_eq_true rfl) rfl hby d9_95 N62 (by omega) ?_
          intro T64 h64 lo64 X64 e64 N64 W64 V64 z64
          have V66 : Arv Z h64 b_8 kb_8 .byte (8 : Int32) [(.int (nar .byte ((((own_r v 0) &&& (127 : Int32)) ||| (128 : Int32)).toInt8.toInt32))), (.int (nar .byte ((((own_r v 1) &&& (127 : Int32)) ||| (128 : Int32)).toInt8.toInt32))), (.int (nar .byte ((((own_r v 2) &&& (127 : Int32)) ||| (128 : Int32)).toInt8.toInt32))), (.int (nar .byte ((((own_r v 3) &&& (127 : Int32)) ||| (128 : Int32)).toInt8.toInt32))), (.int (nar .byte ((own_r v 4).toInt8.toInt32)))] (.int 0) := V64
          have hvl : own_vl v = 5 := own_vl5 hc42_14 hc42_24 hc42_35 hc42_46
          have f67 : Fld Z h64 t "com/example/rank_to_reach/ranktoreach/Postings$Writer" "size" "I" (.int 5) := (F62.other W64 (Or.inl (own_nn (by omega))))
          have hvI : own_vI v = (5 : Int32) := by unfold own_vI; rw [hvl]; decide
          have K68 : Keep h0 h64 [t] := (((((((((((((Keep.refl h0 [t]).trans K8 all0).wr W13 (Or.inl (List.mem_of_getElem? (i := 0) rfl))).wr W19 (Or.inl (List.mem_of_getElem? (i := 0) rfl))).wr W21 (Or.inr (by omega))).wr W30 (Or.inl (List.mem_of_getElem? (i := 0) rfl))).wr W32 (Or.inr (by omega))).wr W41 (Or.inl (List.mem_of_getElem? (i := 0) rfl))).wr W43 (Or.inr (by omega))).wr W52 (Or.inl (List.mem_of_getElem? (i := 0) rfl))).wr W54 (Or.inr (by omega))).wr W62 (Or.inl (List.mem_of_getElem? (i := 0) rfl))).wr W64 (Or.inr (by omega)))
          have f69 : Exa Z h64 t "com/example/rank_to_reach/ranktoreach/Postings$Writer" := ((f61.wr W62).wr W64)
          have f70 : Fld Z h64 t "com/example/rank_to_reach/ranktoreach/Postings$Writer" "bytes" "[B" (.ref b_8) := ((f57.other W62 (Or.inr (slot_ne (Or.inl (own_w hw 18 rfl)) (Or.inl (own_w hw 27 rfl)) (by decide) (t := (.array .byte)) (t' := .int) (by decide) (by decide)))).other W64 (Or.inl (own_nn (by omega))))
          have f71 : Fld Z h64 t "com/example/rank_to_reach/ranktoreach/Postings$Writer" "last" "I" (.int lst) := ((((((((((((F_last.keep K8 nin0).other W13 (Or.inr (slot_ne (Or.inl (own_w hw 20 rfl)) (Or.inl (own_w hw 18 rfl)) (by decide) (t := .int) (t' := (.array .byte)) (by decide) (by decide)))).other W19 (Or.inr (slot_ne (Or.inl (own_w hw 20 rfl)) (Or.inl (own_w hw 27 rfl)) (by decide) (t := .int) (t' := .int) (by decide) (by decide)))).other W21 (Or.inl (own_nn (by omega)))).other W30 (Or.inr (slot_ne (Or.inl (own_w hw 20 rfl)) (Or.inl (own_w hw 27 rfl)) (by decide) (t := .int) (t' := .int) (by decide) (by decide)))).other W32 (Or.inl (own_nn (by omega)))).other W41 (Or.inr (slot_ne (Or.inl (own_w hw 20 rfl)) (Or.inl (own_w hw 27 rfl)) (by decide) (t := .int) (t' := .int) (by decide) (by decide)))).other W43 (Or.inl (own_nn (by omega)))).other W52 (Or.inr (slot_ne (Or.inl (own_w hw 20 rfl)) (Or.inl (own_w hw 27 rfl)) (by decide) (t := .int) (t' := .int) (by decide) (by decide)))).other W54 (Or.inl (own_nn (by omega)))).other W62 (Or.inr (slot_ne (Or.inl (own_w hw 20 rfl)) (Or.inl (own_w hw 27 rfl)) (by decide) (t := .int) (t' := .int) (by decide) (by decide)))).other W64 (Or.inl (own_nn (by omega))))
          have f72 : Fld Z h64 t "com/example/rank_to_reach/ranktoreach/Postings$Writer" "count" "I" (.int cnt) := ((((((((((((F_count.keep K8 nin0).other W13 (Or.inr (slot_ne (Or.inl (own_w hw 44 rfl)) (Or.inl (own_w hw 18 rfl)) (by decide) (t := .int) (t' := (.array .byte)) (by decide) (by decide)))).other W19 (Or.inr (slot_ne (Or.inl (own_w hw 44 rfl)) (Or.inl (own_w hw 27 rfl)) (by decide) (t := .int) (t' := .int) (by decide) (by decide)))).other W21 (Or.inl (own_nn (by omega)))).other W30 (Or.inr (slot_ne (Or.inl (own_w hw 44 rfl)) (Or.inl (own_w hw 27 rfl)) (by decide) (t := .int) (t' := .int) (by decide) (by decide)))).other W32 (Or.inl (own_nn (by omega)))).other W41 (Or.inr (slot_ne (Or.inl (own_w hw 44 rfl)) (Or.inl (own_w hw 27 rfl)) (by decide) (t := .int) (t' := .int) (by decide) (by decide)))).other W43 (Or.inl (own_nn (by omega)))).other W52 (Or.inr (slot_ne (Or.inl (own_w hw 44 rfl)) (Or.inl (own_w hw 27 rfl)) (by decide) (t := .int) (t' := .int) (by decide) (by decide)))).other W54 (Or.inl (own_nn (by omega)))).other W62 (Or.inr (slot_ne (Or.inl (own_w hw 44 rfl)) (Or.inl (own_w hw 27 rfl)) (by decide) (t := .int) (t' := .int) (by decide) (by decide)))).other W64 (Or.inl (own_nn (by omega))))
          obtain ⟨fs, hr, hrun, hended, hW, hsame⟩ := X64.leave (v := none) (fun _ => rfl)
          refine own_ret (t := T64.setFrames fs) ?_ ⟨_, hrun, hended, _, _, rfl, ?_, ⟨_, rfl⟩, hW, hsame.mono (by decide) (by decide)⟩
          · exact X64.returnOut hx Bd.returns (hb hby d9_96) hr
          · show Q_put0 Z _ _ _ _ _ _ h0 n0 _ T64.heap _
            rw [e64]
            exact ⟨b_8, kb_8, [(.int (nar .byte ((((own_r v 0) &&& (127 : Int32)) ||| (128 : Int32)).toInt8.toInt32))), (.int (nar .byte ((((own_r v 1) &&& (127 : Int32)) ||| (128 : Int32)).toInt8.toInt32))), (.int (nar .byte ((((own_r v 2) &&& (127 : Int32)) ||| (128 : Int32)).toInt8.toInt32))), (.int (nar .byte ((((own_r v 3) &&& (127 : Int32)) ||| (128 : Int32)).toInt8.toInt32))), (.int (nar .byte ((own_r v 4).toInt8.toInt32)))], rfl, N64, K68, f69, f70, (by rw [hvI]; exact f67), f71, f72, (by omega), V66, (fun j hj => own_ws_at (k := 4) hvl hj)⟩
        · refine own_icmpYes X43.here hx hby (pc' := 78) d9_42 (flt hc42_46).2.2.2 (by decide) (by decide) ?_
          refine own_aloadN X43.here hx hby d9_78 rfl rfl ?_
          have f73 : Fld Z h43 t "com/example/rank_to_reach/ranktoreach/Postings$Writer" "bytes" "[B" (.ref b_8) := ((f36.other W41 (Or.inr (slot_ne (Or.inl (own_w hw 18 rfl)) (Or.inl (own_w hw 27 rfl)) (by decide) (t := (.array .byte)) (t' := .int) (by decide) (by decide)))).other W43 (Or.inl (own_nn (by omega))))
          refine own_getF X43 hx hZ hown (host := "") (Or.inl (own_w hw 17 rfl)) Via.refl e43 f73 hby d9_79 ?_
          intro T74 X74 e74
          refine own_aloadN X74.here hx hby d9_82 rfl rfl ?_
          refine own_dup X74.here hx hby d9_83 rfl ?_
          have f75 : Fld Z h43 t "com/example/rank_to_reach/ranktoreach/Postings$Writer" "size" "I" (.int 3) := (F41.other W43 (Or.inl (own_nn (by omega))))
          refine own_getF X74 hx hZ hown (host := "") (Or.inl (own_w hw 26 rfl)) Via.refl e74 f75 hby d9_84 ?_
          intro T76 X76 e76
          refine own_dupX1 X76.here hx hby d9_87 rfl rfl ?_
          refine own_iconst X76.here hx hby d9_88 (v := (1 : Int32)) (by decide) ?_
          refine own_iadd X76.here hx hby d9_89 (v := (4 : Int32)) (by decide) ?_
          have f77 : Exa Z h43 t "com/example/rank_to_reach/ranktoreach/Postings$Writer" := ((f40.wr W41).wr W43)
          refine own_putF X76 hx hZ (ty := .int) hown (host := "") (Or.inl (own_w hw 26 rfl)) Via.refl e76 f75 f77 (Or.inl (own_w hw 27 rfl)) (own_w hw 7 rfl) (by decide) rfl rfl hby d9_90 N43 g_t ?_
          intro T78 h78 lo78 X78 e78 N78 W78 F78 z78
          refine own_iloadN X78.here hx hby d9_93 rfl ?_
          refine own_i2b X78.here hx hby d9_94 rfl ?_
          have f79 : Arv Z h78 b_8 kb_8 .byte (8 : Int32) [(.int (nar .byte ((((own_r v 0) &&& (127 : Int32)) ||| (128 : Int32)).toInt8.toInt32))), (.int (nar .byte ((((own_r v 1) &&& (127 : Int32)) ||| (128 : Int32)).toInt8.toInt32))), (.int (nar .byte ((((own_r v 2) &&& (127 : Int32)) ||| (128 : Int32)).toInt8.toInt32)))] (.int 0) := (V45.other W78 (own_nn (by omega)))
          have V81 : Arv Z h78 b_8 kb_8 .byte (8 : Int32) [(.int (nar .byte ((((own_r v 0) &&& (127 : Int32)) ||| (128 : Int32)).toInt8.toInt32))), (.int (nar .byte ((((own_r v 1) &&& (127 : Int32)) ||| (128 : Int32)).toInt8.toInt32))), (.int (nar .byte ((((own_r v 2) &&& (127 : Int32)) ||| (128 : Int32)).toInt8.toInt32))), (.int 0)] (.int 0) := f79.pad (pad_rep [(.int (nar .byte ((((own_r v 0) &&& (127 : Int32)) ||| (128 : Int32)).toInt8.toInt32))), (.int (nar .byte ((((own_r v 1) &&& (127 : Int32)) ||| (128 : Int32)).toInt8.toInt32))), (.int (nar .byte ((((own_r v 2) &&& (127 : Int32)) ||| (128 : Int32)).toInt8.toInt32)))] (.int 0) 1)
          refine own_bastore X78 hx hZ e78 V81 ⟨by decide, by decide⟩ 3 (by decide) (Nat.le_of_ble_eq_true rfl) rfl hby d9_95 N78 (by omega) ?_
          intro T80 h80 lo80 X80 e80 N80 W80 V80 z80
          have V82 : Arv Z h80 b_8 kb_8 .byte (8 : Int32) [(.int (nar .byte ((((own_r v 0) &&& (127 : Int32)) ||| (128 : Int32)).toInt8.toInt32))), (.int (nar .byte ((((own_r v 1) &&& (127 : Int32)) ||| (128 : Int32)).toInt8.toInt32))), (.int (nar .byte ((((own_r v 2) &&& (127 : Int32)) ||| (128 : Int32)).toInt8.toInt32))), (.int (nar .byte ((own_r v 3).toInt8.toInt32)))] (.int 0) := V80
          have hvl : own_vl v = 4 := own_vl4 hc42_14 hc42_24 hc42_35 hc42_46
          have f83 : Fld Z h80 t "com/example/rank_to_reach/ranktoreach/Postings$Writer" "size" "I" (.int 4) := (F78.other W80 (Or.inl (own_nn (by omega))))
          have hvI : own_vI v = (4 : Int32) := by unfold own_vI; rw [hvl]; decide
          have K84 : Keep h0 h80 [t] := (((((((((((Keep.refl h0 [t]).trans K8 all0).wr W13 (Or.inl (List.mem_of_getElem? (i := 0) rfl))).wr W19 (Or.inl (List.mem_of_getElem? (i := 0) rfl))).wr W21 (Or.inr (by omega))).wr W30 (Or.inl (List.mem_of_getElem? (i := 0) rfl))).wr W32 (Or.inr (by omega))).wr W41 (Or.inl (List.mem_of_getElem? (i := 0) rfl))).wr W43 (Or.inr (by omega))).wr W78 (Or.inl (List.mem_of_getElem? (i := 0) rfl))).wr W80 (Or.inr (by omega)))
          have f85 : Exa Z h80 t "com/example/rank_to_reach/ranktoreach/Postings$Writer" := ((f77.wr W78).wr W80)
          have f86 : Fld Z h80 t "com/example/rank_to_reach/ranktoreach/Postings$Writer" "bytes" "[B" (.ref b_8) := ((f73.other W78 (Or.inr (slot_ne (Or.inl (own_w hw 18 rfl)) (Or.inl (own_w hw 27 rfl)) (by decide) (t := (.array .byte)) (t' := .int) (by decide) (by decide)))).other W80 (Or.inl (own_nn (by omega))))
          have f87 : Fld Z h80 t "com/example/rank_to_reach/ranktoreach/Postings$Writer" "last" "I" (.int lst) := ((((((((((F_last.keep K8 nin0).other W13 (Or.inr (slot_ne (Or.inl (own_w hw 20 rfl)) (Or.inl (own_w hw 18 rfl)) (by decide) (t := .int) (t' := (.array .byte)) (by decide) (by decide)))).other W19 (Or.inr (slot_ne (Or.inl (own_w hw 20 rfl)) (Or.inl (own_w hw 27 rfl)) (by decide) (t := .int) (t' := .int) (by decide) (by decide)))).other W21 (Or.inl (own_nn (by omega)))).other W30 (Or.inr (slot_ne (Or.inl (own_w hw 20 rfl)) (Or.inl (own_w hw 27 rfl)) (by decide) (t := .int) (t' := .int) (by decide) (by decide)))).other W32 (Or.inl (own_nn (by omega)))).other W41 (Or.inr (slot_ne (Or.inl (own_w hw 20 rfl)) (Or.inl (own_w hw 27 rfl)) (by decide) (t := .int) (t' := .int) (by decide) (by decide)))).other W43 (Or.inl (own_nn (by omega)))).other W78 (Or.inr (slot_ne (Or.inl (own_w hw 20 rfl)) (Or.inl (own_w hw 27 rfl)) (by decide) (t := .int) (t' := .int) (by decide) (by decide)))).other W80 (Or.inl (own_nn (by omega))))
          have f88 : Fld Z h80 t "com/example/rank_to_reach/ranktoreach/Postings$Writer" "count" "I" (.int cnt) := ((((((((((F_count.keep K8 nin0).other W13 (Or.inr (slot_ne (Or.inl (own_w hw 44 rfl)) (Or.inl (own_w hw 18 rfl)) (by decide) (t := .int) (t' := (.array .byte)) (by decide) (by decide)))).other W19 (Or.inr (slot_ne (Or.inl (own_w hw 44 rfl)) (Or.inl (own_w hw 27 rfl)) (by decide) (t := .int) (t' := .int) (by decide) (by decide)))).other W21 (Or.inl (own_nn (by omega)))).other W30 (Or.inr (slot_ne (Or.inl (own_w hw 44 rfl)) (Or.inl (own_w hw 27 rfl)) (by decide) (t := .int) (t' := .int) (by decide) (by decide)))).other W32 (Or.inl (own_nn (by omega)))).other W41 (Or.inr (slot_ne (Or.inl (own_w hw 44 rfl)) (Or.inl (own_w hw 27 rfl)) (by decide) (t := .int) (t' := .int) (by decide) (by decide)))).other W43 (Or.inl (own_nn (by omega)))).other W78 (Or.inr (slot_ne (Or.inl (own_w hw 44 rfl)) (Or.inl (own_w hw 27 rfl)) (by decide) (t := .int) (t' := .int) (by decide) (by decide)))).other W80 (Or.inl (own_nn (by omega))))
          obtain ⟨fs, hr, hrun, hended, hW, hsame⟩ := X80.leave (v := none) (fun _ => rfl)
          refine own_ret (t := T80.setFrames fs) ?_ ⟨_, hrun, hended, _, _, rfl, ?_, ⟨_, rfl⟩, hW, hsame.mono (by decide) (by decide)⟩
          · exact X80.returnOut hx Bd.returns (hb hby d9_96) hr
          · show Q_put0 Z _ _ _ _ _ _ h0 n0 _ T80.heap _
            rw [e80]
            exact ⟨b_8, kb_8, [(.int (nar .byte ((((own_r v 0) &&& (127 : Int32)) ||| (128 : Int32)).toInt8.toInt32))), (.int (nar .byte ((((own_r v 1) &&& (127 : Int32)) ||| (128 : Int32)).toInt8.toInt32))), (.int (nar .byte ((((own_r v 2) &&& (127 : Int32)) ||| (128 : Int32)).toInt8.toInt32))), (.int (nar .byte ((own_r v 3).toInt8.toInt32)))], rfl, N80, K84, f85, f86, (by rw [hvI]; exact f83), f87, f88, (by omega), V82, (fun j hj => own_ws_at (k := 3) hvl hj)⟩
      · refine own_icmpYes X32.here hx hby (pc' := 78) d9_42 (flt hc42_35).2.2.2 (by decide) (by decide) ?_
        refine own_aloadN X32.here hx hby d9_78 rfl rfl ?_
        have f89 : Fld Z h32 t "com/example/rank_to_reach/ranktoreach/Postings$Writer" "bytes" "[B" (.ref b_8) := ((f25.other W30 (Or.inr (slot_ne (Or.inl (own_w hw 18 rfl)) (Or.inl (own_w hw 27 rfl)) (by decide) (t := (.array .byte)) (t' := .int) (by decide) (by decide)))).other W32 (Or.inl (own_nn (by omega))))
        refine own_getF X32 hx hZ hown (host := "") (Or.inl (own_w hw 17 rfl)) Via.refl e32 f89 hby d9_79 ?_
        intro T90 X90 e90
        refine own_aloadN X90.here hx hby d9_82 rfl rfl ?_
        refine own_dup X90.here hx hby d9_83 rfl ?_
        have f91 : Fld Z h32 t "com/example/rank_to_reach/ranktoreach/Postings$Writer" "size" "I" (.int 2) := (F30.other W32 (Or.inl (own_nn (by omega))))
        refine own_getF X90 hx hZ hown (host := "") (Or.inl (own_w hw 26 rfl)) Via.refl e90 f91 hby d9_84 ?_
        intro T92 X92 e92
        refine own_dupX1 X92.here hx hby d9_87 rfl rfl ?_
        refine own_iconst X92.here hx hby d9_88 (v := (1 : Int32)) (by decide) ?_
        refine own_iadd X92.here hx hby d9_89 (v := (3 : Int32)) (by decide) ?_
        have f93 : Exa Z h32 t "com/example/rank_to_reach/ranktoreach/Postings$Writer" := ((f29.wr W30).wr W32)
        refine own_putF X92 hx hZ (ty := .int) hown (host := "") (Or.inl (own_w hw 26 rfl)) Via.refl e92 f91 f93 (Or.inl (own_w hw 27 rfl)) (own_w hw 7 rfl) (by decide) rfl rfl hby d9_90 N32 g_t ?_
        intro T94 h94 lo94 X94 e94 N94 W94 F94 z94
        refine own_iloadN X94.here hx hby d9_93 rfl ?_
        refine own_i2b X94.here hx hby d9_94 rfl ?_
        have f95 : Arv Z h94 b_8 kb_8 .byte (8 : Int32) [(.int (nar .byte ((((own_r v 0) &&& (127 : Int32)) ||| (128 : Int32)).toInt8.toInt32))), (.int (nar .byte ((((own_r v 1) &&& (127 : Int32)) ||| (128 : Int32)).toInt8.toInt32)))] (.int 0) := (V34.other W94 (own_nn (by omega)))
        have V97 : Arv Z h94 b_8 kb_8 .byte (8 : Int32) [(.int (nar .byte ((((own_r v 0) &&& (127 : Int32)) ||| (128 : Int32)).toInt8.toInt32))), (.int (nar .byte ((((own_r v 1) &&& (127 : Int32)) ||| (128 : Int32)).toInt8.toInt32))), (.int 0)] (.int 0) := f95.pad (pad_rep [(.int (nar .byte ((((own_r v 0) &&& (127 : Int32)) ||| (128 : Int32)).toInt8.toInt32))), (.int (nar .byte ((((own_r v 1) &&& (127 : Int32)) ||| (128 : Int32)).toInt8.toInt32)))] (.int 0) 1)
        refine own_bastore X94 hx hZ e94 V97 ⟨by decide, by decide⟩ 2 (by decide) (Nat.le_of_ble_eq_true rfl) rfl hby d9_95 N94 (by omega) ?_
        intro T96 h96 lo96 X96 e96 N96 W96 V96 z96
        have V98 : Arv Z h96 b_8 kb_8 .byte (8 : Int32) [(.int (nar .byte ((((own_r v 0) &&& (127 : Int32)) ||| (128 : Int32)).toInt8.toInt32))), (.int (nar .byte ((((own_r v 1) &&& (127 : Int32)) ||| (128 : Int32)).toInt8.toInt32))), (.int (nar .byte ((own_r v 2).toInt8.toInt32)))] (.int 0) := V96
        have hvl : own_vl v = 3 := own_vl3 hc42_14 hc42_24 hc42_35
        have f99 : Fld Z h96 t "com/example/rank_to_reach/ranktoreach/Postings$Writer" "size" "I" (.int 3) := (F94.other W96 (Or.inl (own_nn (by omega))))
        have hvI : own_vI v = (3 : Int32) := by unfold own_vI; rw [hvl]; decide
        have K100 : Keep h0 h96 [t] := (((((((((Keep.refl h0 [t]).trans K8 all0).wr W13 (Or.inl (List.mem_of_getElem? (i := 0) rfl))).wr W19 (Or.inl (List.mem_of_getElem? (i := 0) rfl))).wr W21 (Or.inr (by omega))).wr W30 (Or.inl (List.mem_of_getElem? (i := 0) rfl))).wr W32 (Or.inr (by omega))).wr W94 (Or.inl (List.mem_of_getElem? (i := 0) rfl))).wr W96 (Or.inr (by omega)))
        have f101 : Exa Z h96 t "com/example/rank_to_reach/ranktoreach/Postings$Writer" := ((f93.wr W94).wr W96)
        have f102 : Fld Z h96 t "com/example/rank_to_reach/ranktoreach/Postings$Writer" "bytes" "[B" (.ref b_8) := ((f89.other W94 (Or.inr (slot_ne (Or.inl (own_w hw 18 rfl)) (Or.inl (own_w hw 27 rfl)) (by decide) (t := (.array .byte)) (t' := .int) (by decide) (by decide)))).other W96 (Or.inl (own_nn (by omega))))
        have f103 : Fld Z h96 t "com/example/rank_to_reach/ranktoreach/Postings$Writer" "last" "I" (.int lst) := ((((((((F_last.keep K8 nin0).other W13 (Or.inr (slot_ne (Or.inl (own_w hw 20 rfl)) (Or.inl (own_w hw 18 rfl)) (by decide) (t := .int) (t' := (.array .byte)) (by decide) (by decide)))).other W19 (Or.inr (slot_ne (Or.inl (own_w hw 20 rfl)) (Or.inl (own_w hw 27 rfl)) (by decide) (t := .int) (t' := .int) (by decide) (by decide)))).other W21 (Or.inl (own_nn (by omega)))).other W30 (Or.inr (slot_ne (Or.inl (own_w hw 20 rfl)) (Or.inl (own_w hw 27 rfl)) (by decide) (t := .int) (t' := .int) (by decide) (by decide)))).other W32 (Or.inl (own_nn (by omega)))).other W94 (Or.inr (slot_ne (Or.inl (own_w hw 20 rfl)) (Or.inl (own_w hw 27 rfl)) (by decide) (t := .int) (t' := .int) (by decide) (by decide)))).other W96 (Or.inl (own_nn (by omega))))
        have f104 : Fld Z h96 t "com/example/rank_to_reach/ranktoreach/Postings$Writer" "count" "I" (.int cnt) := ((((((((F_count.keep K8 nin0).other W13 (Or.inr (slot_ne (Or.inl (own_w hw 44 rfl)) (Or.inl (own_w hw 18 rfl)) (by decide) (t := .int) (t' := (.array .byte)) (by decide) (by decide)))).other W19 (Or.inr (slot_ne (Or.inl (own_w hw 44 rfl)) (Or.inl (own_w hw 27 rfl)) (by decide) (t := .int) (t' := .int) (by decide) (by decide)))).other W21 (Or.inl (own_nn (by omega)))).other W30 (Or.inr (slot_ne (Or.inl (own_w hw 44 rfl)) (Or.inl (own_w hw 27 rfl)) (by decide) (t := .int) (t' := .int) (by decide) (by decide)))).other W32 (Or.inl (own_nn (by omega)))).other W94 (Or.inr (slot_ne (Or.inl (own_w hw 44 rfl)) (Or.inl (own_w hw 27 rfl)) (by decide) (t := .int) (t' := .int) (by decide) (by decide)))).other W96 (Or.inl (own_nn (by omega))))
        obtain ⟨fs, hr, hrun, hended, hW, hsame⟩ := X96.leave (v := none) (fun _ => rfl)
        refine own_ret (t := T96.setFrames fs) ?_ ⟨_, hrun, hended, _, _, rfl, ?_, ⟨_, rfl⟩, hW, hsame.mono (by decide) (by decide)⟩
        · exact X96.returnOut hx Bd.returns (hb hby d9_96) hr
        · show Q_put0 Z _ _ _ _ _ _ h0 n0 _ T96.heap _
          rw [e96]
          exact ⟨b_8, kb_8, [(.int (nar .byte ((((own_r v 0) &&& (127 : Int32)) ||| (128 : Int32)).toInt8.toInt32))), (.int (nar .byte ((((own_r v 1) &&& (127 : Int32)) ||| (128 : Int32)).toInt8.toInt32))), (.int (nar .byte ((own_r v 2).toInt8.toInt32)))], rfl, N96, K100, f101, f102, (by rw [hvI]; exact f99), f103, f104, (by omega), V98, (fun j hj => own_ws_at (k := 2) hvl hj)⟩
    · refine own_icmpYes X21.here hx hby (pc' := 78) d9_42 (flt hc42_24).2.2.2 (by decide) (by decide) ?_
      refine own_aloadN X21.here hx hby d9_78 rfl rfl ?_
      have f105 : Fld Z h21 t "com/example/rank_to_reach/ranktoreach/Postings$Writer" "bytes" "[B" (.ref b_8) := ((F13.other W19 (Or.inr (slot_ne (Or.inl (own_w hw 18 rfl)) (Or.inl (own_w hw 27 rfl)) (by decide) (t := (.array .byte)) (t' := .int) (by decide) (by decide)))).other W21 (Or.inl (own_nn (by omega))))
      refine own_getF X21 hx hZ hown (host := "") (Or.inl (own_w hw 17 rfl)) Via.refl e21 f105 hby d9_79 ?_
      intro T106 X106 e106
      refine own_aloadN X106.here hx hby d9_82 rfl rfl ?_
      refine own_dup X106.here hx hby d9_83 rfl ?_
      have f107 : Fld Z h21 t "com/example/rank_to_reach/ranktoreach/Postings$Writer" "size" "I" (.int 1) := (F19.other W21 (Or.inl (own_nn (by omega))))
      refine own_getF X106 hx hZ hown (host := "") (Or.inl (own_w hw 26 rfl)) Via.refl e106 f107 hby d9_84 ?_
      intro T108 X108 e108
      refine own_dupX1 X108.here hx hby d9_87 rfl rfl ?_
      refine own_iconst X108.here hx hby d9_88 (v := (1 : Int32)) (by decide) ?_
      refine own_iadd X108.here hx hby d9_89 (v := (2 : Int32)) (by decide) ?_
      have f109 : Exa Z h21 t "com/example/rank_to_reach/ranktoreach/Postings$Writer" := ((f18.wr W19).wr W21)
      refine own_putF X108 hx hZ (ty := .int) hown (host := "") (Or.inl (own_w hw 26 rfl)) Via.refl e108 f107 f109 (Or.inl (own_w hw 27 rfl)) (own_w hw 7 rfl) (by decide) rfl rfl hby d9_90 N21 g_t ?_
      intro T110 h110 lo110 X110 e110 N110 W110 F110 z110
      refine own_iloadN X110.here hx hby d9_93 rfl ?_
      refine own_i2b X110.here hx hby d9_94 rfl ?_
      have f111 : Arv Z h110 b_8 kb_8 .byte (8 : Int32) [(.int (nar .byte ((((own_r v 0) &&& (127 : Int32)) ||| (128 : Int32)).toInt8.toInt32)))] (.int 0) := (V23.other W110 (own_nn (by omega)))
      have V113 : Arv Z h110 b_8 kb_8 .byte (8 : Int32) [(.int (nar .byte ((((own_r v 0) &&& (127 : Int32)) ||| (128 : Int32)).toInt8.toInt32))), (.int 0)] (.int 0) := f111.pad (pad_rep [(.int (nar .byte ((((own_r v 0) &&& (127 : Int32)) ||| (128 : Int32)).toInt8.toInt32)))] (.int 0) 1)
      refine own_bastore X110 hx hZ e110 V113 ⟨by decide, by decide⟩ 1 (by decide) (Nat.le_of_ble_eq_true rfl) rfl hby d9_95 N110 (by omega) ?_
      intro T112 h112 lo112 X112 e112 N112 W112 V112 z112
      have V114 : Arv Z h112 b_8 kb_8 .byte (8 : Int32) [(.int (nar .byte ((((own_r v 0) &&& (127 : Int32)) ||| (128 : Int32)).toInt8.toInt32))), (.int (nar .byte ((own_r v 1).toInt8.toInt32)))] (.int 0) := V112
      have hvl : own_vl v = 2 := own_vl2 hc42_14 hc42_24
      have f115 : Fld Z h112 t "com/example/rank_to_reach/ranktoreach/Postings$Writer" "size" "I" (.int 2) := (F110.other W112 (Or.inl (own_nn (by omega))))
      have hvI : own_vI v = (2 : Int32) := by unfold own_vI; rw [hvl]; decide
      have K116 : Keep h0 h112 [t] := (((((((Keep.refl h0 [t]).trans K8 all0).wr W13 (Or.inl (List.mem_of_getElem? (i := 0) rfl))).wr W19 (Or.inl (List.mem_of_getElem? (i := 0) rfl))).wr W21 (Or.inr (by omega))).wr W110 (Or.inl (List.mem_of_getElem? (i := 0) rfl))).wr W112 (Or.inr (by omega)))
      have f117 : Exa Z h112 t "com/example/rank_to_reach/ranktoreach/Postings$Writer" := ((f109.wr W110).wr W112)
      have f118 : Fld Z h112 t "com/example/rank_to_reach/ranktoreach/Postings$Writer" "bytes" "[B" (.ref b_8) := ((f105.other W110 (Or.inr (slot_ne (Or.inl (own_w hw 18 rfl)) (Or.inl (own_w hw 27 rfl)) (by decide) (t := (.array .byte)) (t' := .int) (by decide) (by decide)))).other W112 (Or.inl (own_nn (by omega))))
      have f119 : Fld Z h112 t "com/example/rank_to_reach/ranktoreach/Postings$Writer" "last" "I" (.int lst) := ((((((F_last.keep K8 nin0).other W13 (Or.inr (slot_ne (Or.inl (own_w hw 20 rfl)) (Or.inl (own_w hw 18 rfl)) (by decide) (t := .int) (t' := (.array .byte)) (by decide) (by decide)))).other W19 (Or.inr (slot_ne (Or.inl (own_w hw 20 rfl)) (Or.inl (own_w hw 27 rfl)) (by decide) (t := .int) (t' := .int) (by decide) (by decide)))).other W21 (Or.inl (own_nn (by omega)))).other W110 (Or.inr (slot_ne (Or.inl (own_w hw 20 rfl)) (Or.inl (own_w hw 27 rfl)) (by decide) (t := .int) (t' := .int) (by decide) (by decide)))).other W112 (Or.inl (own_nn (by omega))))
      have f120 : Fld Z h112 t "com/example/rank_to_reach/ranktoreach/Postings$Writer" "count" "I" (.int cnt) := ((((((F_count.keep K8 nin0).other W13 (Or.inr (slot_ne (Or.inl (own_w hw 44 rfl)) (Or.inl (own_w hw 18 rfl)) (by decide) (t := .int) (t' := (.array .byte)) (by decide) (by decide)))).other W19 (Or.inr (slot_ne (Or.inl (own_w hw 44 rfl)) (Or.inl (own_w hw 27 rfl)) (by decide) (t := .int) (t' := .int) (by decide) (by decide)))).other W21 (Or.inl (own_nn (by omega)))).other W110 (Or.inr (slot_ne (Or.inl (own_w hw 44 rfl)) (Or.inl (own_w hw 27 rfl)) (by decide) (t := .int) (t' := .int) (by decide) (by decide)))).other W112 (Or.inl (own_nn (by omega))))
      obtain ⟨fs, hr, hrun, hended, hW, hsame⟩ := X112.leave (v := none) (fun _ => rfl)
      refine own_ret (t := T112.setFrames fs) ?_ ⟨_, hrun, hended, _, _, rfl, ?_, ⟨_, rfl⟩, hW, hsame.mono (by decide) (by decide)⟩
      · exact X112.returnOut hx Bd.returns (hb hby d9_96) hr
      · show Q_put0 Z _ _ _ _ _ _ h0 n0 _ T112.heap _
        rw [e112]
        exact ⟨b_8, kb_8, [(.int (nar .byte ((((own_r v 0) &&& (127 : Int32)) ||| (128 : Int32)).toInt8.toInt32))), (.int (nar .byte ((own_r v 1).toInt8.toInt32)))], rfl, N112, K116, f117, f118, (by rw [hvI]; exact f115), f119, f120, (by omega), V114, (fun j hj => own_ws_at (k := 1) hvl hj)⟩
  · refine own_icmpYes X13.here hx hby (pc' := 78) d9_42 (flt hc42_14).2.2.2 (by decide) (by decide) ?_
    refine own_aloadN X13.here hx hby d9_78 rfl rfl ?_
    refine own_getF X13 hx hZ hown (host := "") (Or.inl (own_w hw 17 rfl)) Via.refl e13 F13 hby d9_79 ?_
    intro T121 X121 e121
    refine own_aloadN X121.here hx hby d9_82 rfl rfl ?_
    refine own_dup X121.here hx hby d9_83 rfl ?_
    have f122 : Fld Z h13 t "com/example/rank_to_reach/ranktoreach/Postings$Writer" "size" "I" (.int 0) := ((F_size.keep K8 nin0).other W13 (Or.inr (slot_ne (Or.inl (own_w hw 27 rfl)) (Or.inl (own_w hw 18 rfl)) (by decide) (t := .int) (t' := (.array .byte)) (by decide) (by decide))))
    refine own_getF X121 hx hZ hown (host := "") (Or.inl (own_w hw 26 rfl)) Via.refl e121 f122 hby d9_84 ?_
    intro T123 X123 e123
    refine own_dupX1 X123.here hx hby d9_87 rfl rfl ?_
    refine own_iconst X123.here hx hby d9_88 (v := (1 : Int32)) (by decide) ?_
    refine own_iadd X123.here hx hby d9_89 (v := (1 : Int32)) (by decide) ?_
    have f124 : Exa Z h13 t "com/example/rank_to_reach/ranktoreach/Postings$Writer" := (f11.wr W13)
    refine own_putF X123 hx hZ (ty := .int) hown (host := "") (Or.inl (own_w hw 26 rfl)) Via.refl e123 f122 f124 (Or.inl (own_w hw 27 rfl)) (own_w hw 7 rfl) (by decide) rfl rfl hby d9_90 N13 g_t ?_
    intro T125 h125 lo125 X125 e125 N125 W125 F125 z125
    refine own_iloadN X125.here hx hby d9_93 rfl ?_
    refine own_i2b X125.here hx hby d9_94 rfl ?_
    have f126 : Arv Z h125 b_8 kb_8 .byte (8 : Int32) [] (.int 0) := ((P8_1.other W13 (own_nn (by omega))).other W125 (own_nn (by omega)))
    have V128 : Arv Z h125 b_8 kb_8 .byte (8 : Int32) [(.int 0)] (.int 0) := f126.pad (pad_rep [] (.int 0) 1)
    refine own_bastore X125 hx hZ e125 V128 ⟨by decide, by decide⟩ 0 (by decide) (Nat.le_of_ble_eq_true rfl) rfl hby d9_95 N125 (by omega) ?_
    intro T127 h127 lo127 X127 e127 N127 W127 V127 z127
    have V129 : Arv Z h127 b_8 kb_8 .byte (8 : Int32) [(.int (nar .byte ((own_r v 0).toInt8.toInt32)))] (.int 0) := V127
    have hvl : own_vl v = 1 := own_vl1 hc42_14
    have f130 : Fld Z h127 t "com/example/rank_to_reach/ranktoreach/Postings$Writer" "size" "I" (.int 1) := (F125.other W127 (Or.inl (own_nn (by omega))))
    have hvI : own_vI v = (1 : Int32) := by unfold own_vI; rw [hvl]; decide
    have K131 : Keep h0 h127 [t] := (((((Keep.refl h0 [t]).trans K8 all0).wr W13 (Or.inl (List.mem_of_getElem? (i := 0) rfl))).wr W125 (Or.inl (List.mem_of_getElem? (i := 0) rfl))).wr W127 (Or.inr (by omega)))
    have f132 : Exa Z h127 t "com/example/rank_to_reach/ranktoreach/Postings$Writer" := ((f124.wr W125).wr W127)
    have f133 : Fld Z h127 t "com/example/rank_to_reach/ranktoreach/Postings$Writer" "bytes" "[B" (.ref b_8) := ((F13.other W125 (Or.inr (slot_ne (Or.inl (own_w hw 18 rfl)) (Or.inl (own_w hw 27 rfl)) (by decide) (t := (.array .byte)) (t' := .int) (by decide) (by decide)))).other W127 (Or.inl (own_nn (by omega))))
    have f134 : Fld Z h127 t "com/example/rank_to_reach/ranktoreach/Postings$Writer" "last" "I" (.int lst) := ((((F_last.keep K8 nin0).other W13 (Or.inr (slot_ne (Or.inl (own_w hw 20 rfl)) (Or.inl (own_w hw 18 rfl)) (by decide) (t := .int) (t' := (.array .byte)) (by decide) (by decide)))).other W125 (Or.inr (slot_ne (Or.inl (own_w hw 20 rfl)) (Or.inl (own_w hw 27 rfl)) (by decide) (t := .int) (t' := .int) (by decide) (by decide)))).other W127 (Or.inl (own_nn (by omega))))
    have f135 : Fld Z h127 t "com/example/rank_to_reach/ranktoreach/Postings$Writer" "count" "I" (.int cnt) := ((((F_count.keep K8 nin0).other W13 (Or.inr (slot_ne (Or.inl (own_w hw 44 rfl)) (Or.inl (own_w hw 18 rfl)) (by decide) (t := .int) (t' := (.array .byte)) (by decide) (by decide)))).other W125 (Or.inr (slot_ne (Or.inl (own_w hw 44 rfl)) (Or.inl (own_w hw 27 rfl)) (by decide) (t := .int) (t' := .int) (by decide) (by decide)))).other W127 (Or.inl (own_nn (by omega))))
    obtain ⟨fs, hr, hrun, hended, hW, hsame⟩ := X127.leave (v := none) (fun _ => rfl)
    refine own_ret (t := T127.setFrames fs) ?_ ⟨_, hrun, hended, _, _, rfl, ?_, ⟨_, rfl⟩, hW, hsame.mono (by decide) (by decide)⟩
    · exact X127.returnOut hx Bd.returns (hb hby d9_96) hr
    · show Q_put0 Z _ _ _ _ _ _ h0 n0 _ T127.heap _
      rw [e127]
      exact ⟨b_8, kb_8, [(.int (nar .byte ((own_r v 0).toInt8.toInt32)))], rfl, N127, K131, f132, f133, (by rw [hvI]; exact f130), f134, f135, (by omega), V129, (fun j hj => own_ws_at (k := 0) hvl hj)⟩
def Q_put1 (Z : State) (t : Nat) (a : Nat) (ka : ClassId) (z : Int32) (vs : List Value) (sz : Int32) (v : Int32) (lst : Int32) (cnt : Int32) (h0 : Heap) (n0 : Nat) (vR : Option Value) (hR : Heap) (LR : List Loc) : Prop := ∃ (b : Nat) (kb : ClassId) (y : Int32) (us : List Value), vR = none ∧ Fr n0 LR ∧ Keep h0 hR [t, a] ∧ (Exa Z hR t "com/example/rank_to_reach/ranktoreach/Postings$Writer") ∧ (Fld Z hR t "com/example/rank_to_reach/ranktoreach/Postings$Writer" "bytes" "[B" (.ref b)) ∧ (Fld Z hR t "com/example/rank_to_reach/ranktoreach/Postings$Writer" "size" "I" (.int (sz + own_vI v))) ∧ (Fld Z hR t "com/example/rank_to_reach/ranktoreach/Postings$Writer" "last" "I" (.int lst)) ∧ (Fld Z hR t "com/example/rank_to_reach/ranktoreach/Postings$Writer" "count" "I" (.int cnt)) ∧ (Arv Z hR b kb .byte y us (.int 0)) ∧ (n0 ≤ b ∧ (b = a ∨ h0.size ≤ b)) ∧ (y = (8 : Int32) ∨ y = (16 : Int32) ∨ y = (32 : Int32)) ∧ (sz.toInt ≤ 11 → y = (8 : Int32) ∨ y = (16 : Int32)) ∧ (sz.toNatClampNeg + own_vl v ≤ y.toNatClampNeg) ∧ (∀ j, j < sz.toNatClampNeg → us.getD j (.int 0) = vs.getD j (.int 0)) ∧ (∀ j, j < own_vl v → us.getD (sz.toNatClampNeg + j) (.int 0) = .int (own_by v j))
set_option maxRecDepth 65536 in
set_option maxHeartbeats 40000000 in
theorem put1 (l : Launch) (Z : State) (a0 : Array Value) (hw : ∀ d ∈ tables_1, d.before a0 Z = true) (ws : List Jvm.Cond) (t : Nat) (a : Nat) (ka : ClassId) (z : Int32) (vs : List Value) (sz : Int32) (v : Int32) (lst : Int32) (cnt : Int32) (h0 : Heap) (n0 : Nat) (Z0 : n0 ≤ h0.size) (E_t : Exa Z h0 t "com/example/rank_to_reach/ranktoreach/Postings$Writer") (F_bytes : Fld Z h0 t "com/example/rank_to_reach/ranktoreach/Postings$Writer" "bytes" "[B" (.ref a)) (F_size : Fld Z h0 t "com/example/rank_to_reach/ranktoreach/Postings$Writer" "size" "I" (.int sz)) (V_a : Arv Z h0 a ka .byte z vs (.int 0)) (F_last : Fld Z h0 t "com/example/rank_to_reach/ranktoreach/Postings$Writer" "last" "I" (.int lst)) (F_count : Fld Z h0 t "com/example/rank_to_reach/ranktoreach/Postings$Writer" "count" "I" (.int cnt)) (g_t : n0 ≤ t) (g_a : n0 ≤ a) (hz : z = (8 : Int32) ∨ z = (16 : Int32)) (hs0 : 0 ≤ sz.toInt) (hsz : sz.toInt ≤ z.toInt) (hv : (0 : Int32) < v) :
    own_M l (⟨"com/example/rank_to_reach/ranktoreach/Postings$Writer", "put", "(I)V"⟩ : MethodName) prog_36_method_8_code 3 none ws ({ frames := 2, cells := 1, slots := 32, locals := 33 } : Room) Z #[(.ref t), (.int v)] h0 (Q_put1 Z t a ka z vs sz v lst cnt h0 n0) := by
  refine own_body (own := "com/example/rank_to_reach/ranktoreach/Postings$Writer") rfl (plainFor_of_name pn_9) (fun m => ef_put0 m t v) ?_
  intro p e s m below meth c s₁ Bd hml hZ hh hx hby hown X0 e0
  have N0 := Fr.nil n0
  have lt1 : h0.size > t := E_t.lt
  have lt2 : h0.size > a := V_a.lt
  refine own_sh (T := s₁) 0 #[.val (.ref t), .val (.int v), .unset] [] ?_
  rcases hz with rfl | rfl
  · have hs16 : sz.toInt ≤ 16 := by have h_ : (8 : Int32).toInt = 8 := (by decide); omega
    have hsz' : sz.toInt ≤ 8 := by have h_ : (8 : Int32).toInt = 8 := (by decide); omega
    have h5 : (sz + (5 : Int32)).toInt = sz.toInt + 5 := by have h_ : (5 : Int32).toInt = 5 := (by decide); rw [own_addI (by omega) (by omega)]; omega
    refine own_aloadN X0.here hx hby d9_0 rfl rfl ?_
    refine own_getF X0 hx hZ hown (host := "") (Or.inl (own_w hw 26 rfl)) Via.refl e0 F_size hby d9_1 ?_
    intro T3 X3 e3
    refine own_iconst X3.here hx hby d9_4 (v := (5 : Int32)) (by decide) ?_
    refine own_iadd X3.here hx hby d9_5 rfl ?_
    refine own_aloadN X3.here hx hby d9_6 rfl rfl ?_
    refine own_getF X3 hx hZ hown (host := "") (Or.inl (own_w hw 17 rfl)) Via.refl e3 F_bytes hby d9_7 ?_
    intro T4 X4 e4
    refine own_alen X4 hx hZ e4 V_a hby d9_10 ?_
    by_cases hc11_5 : (8 : Int32) < (sz + (5 : Int32))
    · refine own_icmpNo X4.here hx hby d9_11 (tlt hc11_5).2.2.2 ?_
      refine own_aloadN X4.here hx hby d9_14 rfl rfl ?_
      refine own_aloadN X4.here hx hby d9_15 rfl rfl ?_
      refine own_getF X4 hx hZ hown (host := "") (Or.inl (own_w hw 17 rfl)) Via.refl e4 F_bytes hby d9_16 ?_
      intro T6 X6 e6
      refine own_bipush X6.here hx hby d9_19 (v := (8 : Int32)) (by decide) ?_
      refine own_aloadN X6.here hx hby d9_21 rfl rfl ?_
      refine own_getF X6 hx hZ hown (host := "") (Or.inl (own_w hw 17 rfl)) Via.refl e6 F_bytes hby d9_22 ?_
      intro T7 X7 e7
      refine own_alen X7 hx hZ e7 V_a hby d9_25 ?_
      refine own_iconst X7.here hx hby d9_26 (v := (2 : Int32)) (by decide) ?_
      refine own_imul X7.here hx hby d9_27 (v := (16 : Int32)) (by decide) ?_
      refine own_callS X7 hx hZ hown (own_w hw 54 rfl) (own_w hw 2 rfl) (own_w hw 3 rfl) (own_w hw 4 rfl) (by decide) (max_8_16 l Z a0 hw []  h0 n0 Z0 ) 2 (Nat.le_of_eq rfl) (by decide) (by decide) (by rw [hml]; rfl) (argsL := [(.int 8), (.int 16)]) (st := [(.ref a), (.ref t)]) (lenOf pd_0 rfl) rfl rfl (by decide) (by decide) e7 hby d9_28 ?_
      intro T8 v8 L8 X8 hQ8
      obtain ⟨rfl, Nq8, eh8⟩ := hQ8
      have N8 := Fr.app N0 Nq8
      refine own_sh (T := T8) 31 #[.val (.ref t), .val (.int v), .unset] [(.int 16), (.ref a), (.ref t)] ?_
      refine own_callS X8 hx hZ hown (own_w hw 55 rfl) (own_w hw 56 rfl) (own_w hw 57 rfl) (own_w hw 58 rfl) (by decide) (copyOf_8 l Z a0 hw [] a ka vs h0 n0 Z0 V_a) 1 (Nat.le_of_eq rfl) (by decide) (by decide) (by rw [hml]; rfl) (argsL := [(.ref a), (.int 16)]) (st := [(.ref t)]) (lenOf pd_1 rfl) rfl rfl (by decide) (by decide) eh8 hby d9_31 ?_
      intro T9 v9 L9 X9 hQ9
      obtain ⟨b_9, kb_9, rfl, Nq9, K9, P9_0, P9_1⟩ := hQ9
      have N9 := Fr.app N8 Nq9
      have z10 : h0.size ≤ T9.heap.size := K9.1
      have lt11 : T9.heap.size > b_9 := P9_1.lt
      refine own_sh (T := T9) 34 #[.val (.ref t), .val (.int v), .unset] [(.ref b_9), (.ref t)] ?_
      have f12 : Exa Z T9.heap t "com/example/rank_to_reach/ranktoreach/Postings$Writer" := (E_t.keep K9)
      have f13 : Fld Z T9.heap t "com/example/rank_to_reach/ranktoreach/Postings$Writer" "bytes" "[B" (.ref a) := (F_bytes.keep K9 nin0)
      refine own_putF X9 hx hZ (ty := (.array .byte)) hown (host := "") (Or.inl (own_w hw 17 rfl)) Via.refl rfl f13 f12 (Or.inl (own_w hw 18 rfl)) (own_w hw 7 rfl) (by decide) rfl rfl hby d9_34 N9 g_t ?_
      intro T14 h14 lo14 X14 e14 N14 W14 F14 z14
      have f15 : Arv Z h14 b_9 kb_9 .byte (16 : Int32) ((List.range 8).map fun i => vs.getD i (.int 0)) (.int 0) := (P9_1.other W14 (own_nn (by omega)))
      have hroom : sz.toInt + 5 ≤ 16 := by
        have q := Int32.lt_iff_toInt_lt (x := (8 : Int32)) (y := (sz + (5 : Int32)))
        have a : (8 : Int32).toInt = 8 := by decide
        rw [a, h5] at q
        first | omega | (have h_ : ¬ (8 < sz.toInt + 5) := fun r => hc11_5 (q.mpr r); omega)
      obtain ⟨L0, VL, hLl, hLp⟩ : ∃ L0 : List Value, Arv Z h14 b_9 kb_9 .byte (16 : Int32) L0 (.int 0) ∧ 16 ≤ L0.length ∧ ∀ j, j < sz.toNatClampNeg → L0.getD j (.int 0) = vs.getD j (.int 0) := ⟨((List.range 8).map fun i => vs.getD i (.int 0)) ++ List.replicate 16 (.int 0), f15.pad (pad_rep ((List.range 8).map fun i => vs.getD i (.int 0)) (.int 0) 16), by rw [List.length_append, List.length_replicate]; omega, fun j hj => by
        have := own_clamp hs0
        rw [pad_rep]
        exact own_cp_at (by omega)⟩
      have hcl := own_clamp hs0
      refine own_iloadN X14.here hx hby d9_37 rfl ?_
      refine own_istoreN X14.here hx hby d9_38 (l' := #[.val (.ref t), .val (.int v), .val (.int v)]) rfl ?_
      refine own_sh (T := T14) 39 #[.val (.ref t), .val (.int v), .val (.int (own_r v 0))] [] ?_
      refine own_iloadN X14.here hx hby d9_39 rfl ?_
      refine own_bipush X14.here hx hby d9_40 (v := (127 : Int32)) (by decide) ?_
      by_cases hc42_16 : (127 : Int32) < (own_r v 0)
      · refine own_icmpNo X14.here hx hby d9_42 (tlt hc42_16).2.2.2 ?_
        refine own_aloadN X14.here hx hby d9_45 rfl rfl ?_
        refine own_getF X14 hx hZ hown (host := "") (Or.inl (own_w hw 17 rfl)) Via.refl e14 F14 hby d9_46 ?_
        intro T17 X17 e17
        refine own_aloadN X17.here hx hby d9_49 rfl rfl ?_
        refine own_dup X17.here hx hby d9_50 rfl ?_
        have f18 : Fld Z h14 t "com/example/rank_to_reach/ranktoreach/Postings$Writer" "size" "I" (.int sz) := ((F_size.keep K9 nin0).other W14 (Or.inr (slot_ne (Or.inl (own_w hw 27 rfl)) (Or.inl (own_w hw 18 rfl)) (by decide) (t := .int) (t' := (.array .byte)) (by decide) (by decide))))
        refine own_getF X17 hx hZ hown (host := "") (Or.inl (own_w hw 26 rfl)) Via.refl e17 f18 hby d9_51 ?_
        intro T19 X19 e19
        refine own_dupX1 X19.here hx hby d9_54 rfl rfl ?_
        refine own_iconst X19.here hx hby d9_55 (v := (1 : Int32)) (by decide) ?_
        refine own_iadd X19.here hx hby d9_56 rfl ?_
        have f20 : Exa Z h14 t "com/example/rank_to_reach/ranktoreach/Postings$Writer" := (f12.wr W14)
        refine own_putF X19 hx hZ (ty := .int) hown (host := "") (Or.inl (own_w hw 26 rfl)) Via.refl e19 f18 f20 (Or.inl (own_w hw 27 rfl)) (own_w hw 7 rfl) (by decide) rfl rfl hby d9_57 N14 g_t ?_
        intro T21 h21 lo21 X21 e21 N21 W21 F21 z21
        refine own_iloadN X21.here hx hby d9_60 rfl ?_
        refine own_bipush X21.here hx hby d9_61 (v := (127 : Int32)) (by decide) ?_
        refine own_iand X21.here hx hby d9_63 rfl ?_
        refine own_sipush X21.here hx hby d9_64 (v := (128 : Int32)) (by decide) ?_
        refine own_ior X21.here hx hby d9_67 rfl ?_
        refine own_i2b X21.here hx hby d9_68 rfl ?_
        have f22 : Arv Z h21 b_9 kb_9 .byte (16 : Int32) L0 (.int 0) := (VL.other W21 (own_nn (by omega)))
        refine own_bastore X21 hx hZ e21 f22 (own_inc_in hs0 hs16 0 (by decide) (by have h_ : (16 : Int32).toInt = 16 := (by decide); omega)) (sz.toNatClampNeg + 0) (own_inc_nat hs0 hs16 0 (by decide)) (by first | omega | (simp only [List.length_set]; omega)) rfl hby d9_69 N21 (by omega) ?_
        intro T23 h23 lo23 X23 e23 N23 W23 V23 z23
        have V24 : Arv Z h23 b_9 kb_9 .byte (16 : Int32) (L0.set (sz.toNatClampNeg + 0) (.int (nar .byte ((((own_r v 0) &&& (127 : Int32)) ||| (128 : Int32)).toInt8.toInt32)))) (.int 0) := V23
        refine own_iloadN X23.here hx hby d9_70 rfl ?_
        refine own_bipush X23.here hx hby d9_71 (v := (7 : Int32)) (by decide) ?_
        refine own_iushr X23.here hx hby d9_73 rfl ?_
        refine own_istoreN X23.here hx hby d9_74 (l' := #[.val (.ref t), .val (.int v), .val (.int (((own_r v 0).toUInt32 >>> ((7 : Int32) &&& 31).toUInt32).toInt32))]) rfl ?_
        refine own_goto X23.here hx hby (pc' := 39) d9_75 (by decide) (by decide) ?_
        refine own_sh (T := T23) 39 #[.val (.ref t), .val (.int v), .val (.int (own_r v 1))] [] ?_
        refine own_iloadN X23.here hx hby d9_39 rfl ?_
        refine own_bipush X23.here hx hby d9_40 (v := (127 : Int32)) (by decide) ?_
        by_cases hc42_25 : (127 : Int32) < (own_r v 1)
        · refine own_icmpNo X23.here hx hby d9_42 (tlt hc42_25).2.2.2 ?_
          refine own_aloadN X23.here hx hby d9_45 rfl rfl ?_
          have f26 : Fld Z h23 t "com/example/rank_to_reach/ranktoreach/Postings$Writer" "bytes" "[B" (.ref b_9) := ((F14.other W21 (Or.inr (slot_ne (Or.inl (own_w hw 18 rfl)) (Or.inl (own_w hw 27 rfl)) (by decide) (t := (.array .byte)) (t' := .int) (by decide) (by decide)))).other W23 (Or.inl (own_nn (by omega))))
          refine own_getF X23 hx hZ hown (host := "") (Or.inl (own_w hw 17 rfl)) Via.refl e23 f26 hby d9_46 ?_
          intro T27 X27 e27
          refine own_aloadN X27.here hx hby d9_49 rfl rfl ?_
          refine own_dup X27.here hx hby d9_50 rfl ?_
          have f28 : Fld Z h23 t "com/example/rank_to_reach/ranktoreach/Postings$Writer" "size" "I" (.int (sz + (1 : Int32))) := (F21.other W23 (Or.inl (own_nn (by omega))))
          refine own_getF X27 hx hZ hown (host := "") (Or.inl (own_w hw 26 rfl)) Via.refl e27 f28 hby d9_51 ?_
          intro T29 X29 e29
          refine own_dupX1 X29.here hx hby d9_54 rfl rfl ?_
          refine own_iconst X29.here hx hby d9_55 (v := (1 : Int32)) (by decide) ?_
          refine own_iadd X29.here hx hby d9_56 rfl ?_
          have f30 : Exa Z h23 t "com/example/rank_to_reach/ranktoreach/Postings$Writer" := ((f20.wr W21).wr W23)
          refine own_putF X29 hx hZ (ty := .int) hown (host := "") (Or.inl (own_w hw 26 rfl)) Via.refl e29 f28 f30 (Or.inl (own_w hw 27 rfl)) (own_w hw 7 rfl) (by decide) rfl rfl hby d9_57 N23 g_t ?_
          intro T31 h31 lo31 X31 e31 N31 W31 F31 z31
          refine own_iloadN X31.here hx hby d9_60 rfl ?_
          refine own_bipush X31.here hx hby d9_61 (v := (127 : Int32)) (by decide) ?_
          refine own_iand X31.here hx hby d9_63 rfl ?_
          refine own_sipush X31.here hx hby d9_64 (v := (128 : Int32)) (by decide) ?_
          refine own_ior X31.here hx hby d9_67 rfl ?_
          refine own_i2b X31.here hx hby d9_68 rfl ?_
          have f32 : Arv Z h31 b_9 kb_9 .byte (16 : Int32) (L0.set (sz.toNatClampNeg + 0) (.int (nar .byte ((((own_r v 0) &&& (127 : Int32)) ||| (128 : Int32)).toInt8.toInt32)))) (.int 0) := (V24.other W31 (own_nn (by omega)))
          refine own_bastore X31 hx hZ e31 f32 (own_inc_in hs0 hs16 1 (by decide) (by have h_ : (16 : Int32).toInt = 16 := (by decide); omega)) (sz.toNatClampNeg + 1) (own_inc_nat hs0 hs16 1 (by decide)) (by first | omega | (simp only [List.length_set]; omega)) rfl hby d9_69 N31 (by omega) ?_
          intro T33 h33 lo33 X33 e33 N33 W33 V33 z33
          have V34 : Arv Z h33 b_9 kb_9 .byte (16 : Int32) ((L0.set (sz.toNatClampNeg + 0) (.int (nar .byte ((((own_r v 0) &&& (127 : Int32)) ||| (128 : Int32)).toInt8.toInt32)))).set (sz.toNatClampNeg + 1) (.int (nar .byte ((((own_r v 1) &&& (127 : Int32)) ||| (128 : Int32)).toInt8.toInt32)))) (.int 0) := V33
          refine own_iloadN X33.here hx hby d9_70 rfl ?_
          refine own_bipush X33.here hx hby d9_71 (v := (7 : Int32)) (by decide) ?_
          refine own_iushr X33.here hx hby d9_73 rfl ?_
          refine own_istoreN X33.here hx hby d9_74 (l' := #[.val (.ref t), .val (.int v), .val (.int (((own_r v 1).toUInt32 >>> ((7 : Int32) &&& 31).toUInt32).toInt32))]) rfl ?_
          refine own_goto X33.here hx hby (pc' := 39) d9_75 (by decide) (by decide) ?_
          refine own_sh (T := T33) 39 #[.val (.ref t), .val (.int v), .val (.int (own_r v 2))] [] ?_
          refine own_iloadN X33.here hx hby d9_39 rfl ?_
          refine own_bipush X33.here hx hby d9_40 (v := (127 : Int32)) (by decide) ?_
          by_cases hc42_35 : (127 : Int32) < (own_r v 2)
          · refine own_icmpNo X33.here hx hby d9_42 (tlt hc42_35).2.2.2 ?_
            refine own_aloadN X33.here hx hby d9_45 rfl rfl ?_
            have f36 : Fld Z h33 t "com/example/rank_to_reach/ranktoreach/Postings$Writer" "bytes" "[B" (.ref b_9) := ((f26.other W31 (Or.inr (slot_ne (Or.inl (own_w hw 18 rfl)) (Or.inl (own_w hw 27 rfl)) (by decide) (t := (.array .byte)) (t' := .int) (by decide) (by decide)))).other W33 (Or.inl (own_nn (by omega))))
            refine own_getF X33 hx hZ hown (host := "") (Or.inl (own_w hw 17 rfl)) Via.refl e33 f36 hby d9_46 ?_
            intro T37 X37 e37
            refine own_aloadN X37.here hx hby d9_49 rfl rfl ?_
            refine own_dup X37.here hx hby d9_50 rfl ?_
            have f38 : Fld Z h33 t "com/example/rank_to_reach/ranktoreach/Postings$Writer" "size" "I" (.int ((sz + (1 : Int32)) + (1 : Int32))) := (F31.other W33 (Or.inl (own_nn (by omega))))
            refine own_getF X37 hx hZ hown (host := "") (Or.inl (own_w hw 26 rfl)) Via.refl e37 f38 hby d9_51 ?_
            intro T39 X39 e39
            refine own_dupX1 X39.here hx hby d9_54 rfl rfl ?_
            refine own_iconst X39.here hx hby d9_55 (v := (1 : Int32)) (by decide) ?_
            refine own_iadd X39.here hx hby d9_56 rfl ?_
            have f40 : Exa Z h33 t "com/example/rank_to_reach/ranktoreach/Postings$Writer" := ((f30.wr W31).wr W33)
            refine own_putF X39 hx hZ (ty := .int) hown (host := "") (Or.inl (own_w hw 26 rfl)) Via.refl e39 f38 f40 (Or.inl (own_w hw 27 rfl)) (own_w hw 7 rfl) (by decide) rfl rfl hby d9_57 N33 g_t ?_
            intro T41 h41 lo41 X41 e41 N41 W41 F41 z41
            refine own_iloadN X41.here hx hby d9_60 rfl ?_
            refine own_bipush X41.here hx hby d9_61 (v := (127 : Int32)) (by decide) ?_
            refine own_iand X41.here hx hby d9_63 rfl ?_
            refine own_sipush X41.here hx hby d9_64 (v := (128 : Int32)) (by decide) ?_
            refine own_ior X41.here hx hby d9_67 rfl ?_
            refine own_i2b X41.here hx hby d9_68 rfl ?_
            have f42 : Arv Z h41 b_9 kb_9 .byte (16 : Int32) ((L0.set (sz.toNatClampNeg + 0) (.int (nar .byte ((((own_r v 0) &&& (127 : Int32)) ||| (128 : Int32)).toInt8.toInt32)))).set (sz.toNatClampNeg + 1) (.int (nar .byte ((((own_r v 1) &&& (127 : Int32)) ||| (128 : Int32)).toInt8.toInt32)))) (.int 0) := (V34.other W41 (own_nn (by omega)))
            refine own_bastore X41 hx hZ e41 f42 (own_inc_in hs0 hs16 2 (by decide) (by have h_ : (16 : Int32).toInt = 16 := (by decide); omega)) (sz.toNatClampNeg + 2) (own_inc_nat hs0 hs16 2 (by decide)) (by first | omega | (simp only [List.length_set]; omega)) rfl hby d9_69 N41 (by omega) ?_
            intro T43 h43 lo43 X43 e43 N43 W43 V43 z43
            have V44 : Arv Z h43 b_9 kb_9 .byte (16 : Int32) (((L0.set (sz.toNatClampNeg + 0) (.int (nar .byte ((((own_r v 0) &&& (127 : Int32)) ||| (128 : Int32)).toInt8.toInt32)))).set (sz.toNatClampNeg + 1) (.int (nar .byte ((((own_r v 1) &&& (127 : Int32)) ||| (128 : Int32)).toInt8.toInt32)))).set (sz.toNatClampNeg + 2) (.int (nar .byte ((((own_r v 2) &&& (127 : Int32)) ||| (128 : Int32)).toInt8.toInt32)))) (.int 0) := V43
            refine own_iloadN X43.here hx hby d9_70 rfl ?_
            refine own_bipush X43.here hx hby d9_71 (v := (7 : Int32)) (by decide) ?_
            refine own_iushr X43.here hx hby d9_73 rfl ?_
            refine own_istoreN X43.here hx hby d9_74 (l' := #[.val (.ref t), .val (.int v), .val (.int (((own_r v 2).toUInt32 >>> ((7 : Int32) &&& 31).toUInt32).toInt32))]) rfl ?_
            refine own_goto X43.here hx hby (pc' := 39) d9_75 (by decide) (by decide) ?_
            refine own_sh (T := T43) 39 #[.val (.ref t), .val (.int v), .val (.int (own_r v 3))] [] ?_
            refine own_iloadN X43.here hx hby d9_39 rfl ?_
            refine own_bipush X43.here hx hby d9_40 (v := (127 : Int32)) (by decide) ?_
            by_cases hc42_45 : (127 : Int32) < (own_r v 3)
            · refine own_icmpNo X43.here hx hby d9_42 (tlt hc42_45).2.2.2 ?_
              refine own_aloadN X43.here hx hby d9_45 rfl rfl ?_
              have f46 : Fld Z h43 t "com/example/rank_to_reach/ranktoreach/Postings$Writer" "bytes" "[B" (.ref b_9) := ((f36.other W41 (Or.inr (slot_ne (Or.inl (own_w hw 18 rfl)) (Or.inl (own_w hw 27 rfl)) (by decide) (t := (.array .byte)) (t' := .int) (by decide) (by decide)))).other W43 (Or.inl (own_nn (by omega))))
              refine own_getF X43 hx hZ hown (host := "") (Or.inl (own_w hw 17 rfl)) Via.refl e43 f46 hby d9_46 ?_
              intro T47 X47 e47
              refine own_aloadN X47.here hx hby d9_49 rfl rfl ?_
              refine own_dup X47.here hx hby d9_50 rfl ?_
              have f48 : Fld Z h43 t "com/example/rank_to_reach/ranktoreach/Postings$Writer" "size" "I" (.int (((sz + (1 : Int32)) + (1 : Int32)) + (1 : Int32))) := (F41.other W43 (Or.inl (own_nn (by omega))))
              refine own_getF X47 hx hZ hown (host := "") (Or.inl (own_w hw 26 rfl)) Via.refl e47 f48 hby d9_51 ?_
              intro T49 X49 e49
              refine own_dupX1 X49.here hx hby d9_54 rfl rfl ?_
              refine own_iconst X49.here hx hby d9_55 (v := (1 : Int32)) (by decide) ?_
              refine own_iadd X49.here hx hby d9_56 rfl ?_
              have f50 : Exa Z h43 t "com/example/rank_to_reach/ranktoreach/Postings$Writer" := ((f40.wr W41).wr W43)
              refine own_putF X49 hx hZ (ty := .int) hown (host := "") (Or.inl (own_w hw 26 rfl)) Via.refl e49 f48 f50 (Or.inl (own_w hw 27 rfl)) (own_w hw 7 rfl) (by decide) rfl rfl hby d9_57 N43 g_t ?_
              intro T51 h51 lo51 X51 e51 N51 W51 F51 z51
              refine own_iloadN X51.here hx hby d9_60 rfl ?_
              refine own_bipush X51.here hx hby d9_61 (v := (127 : Int32)) (by decide) ?_
              refine own_iand X51.here hx hby d9_63 rfl ?_
              refine own_sipush X51.here hx hby d9_64 (v := (128 : Int32)) (by decide) ?_
              refine own_ior X51.here hx hby d9_67 rfl ?_
              refine own_i2b X51.here hx hby d9_68 rfl ?_
              have f52 : Arv Z h51 b_9 kb_9 .byte (16 : Int32) (((L0.set (sz.toNatClampNeg + 0) (.int (nar .byte ((((own_r v 0) &&& (127 : Int32)) ||| (128 : Int32)).toInt8.toInt32)))).set (sz.toNatClampNeg + 1) (.int (nar .byte ((((own_r v 1) &&& (127 : Int32)) ||| (128 : Int32)).toInt8.toInt32)))).set (sz.toNatClampNeg + 2) (.int (nar .byte ((((own_r v 2) &&& (127 : Int32)) ||| (128 : Int32)).toInt8.toInt32)))) (.int 0) := (V44.other W51 (own_nn (by omega)))
              refine own_bastore X51 hx hZ e51 f52 (own_inc_in hs0 hs16 3 (by decide) (by have h_ : (16 : Int32).toInt = 16 := (by decide); omega)) (sz.toNatClampNeg + 3) (own_inc_nat hs0 hs16 3 (by decide)) (by first | omega | (simp only [List.length_set]; omega)) rfl hby d9_69 N51 (by omega) ?_
              intro T53 h53 lo53 X53 e53 N53 W53 V53 z53
              have V54 : Arv Z h53 b_9 kb_9 .byte (16 : Int32) ((((L0.set (sz.toNatClampNeg + 0) (.int (nar .byte ((((own_r v 0) &&& (127 : Int32)) ||| (128 : Int32)).toInt8.toInt32)))).set (sz.toNatClampNeg + 1) (.int (nar .byte ((((own_r v 1) &&& (127 : Int32)) ||| (128 : Int32)).toInt8.toInt32)))).set (sz.toNatClampNeg + 2) (.int (nar .byte ((((own_r v 2) &&& (127 : Int32)) ||| (128 : Int32)).toInt8.toInt32)))).set (sz.toNatClampNeg + 3) (.int (nar .byte ((((own_r v 3) &&& (127 : Int32)) ||| (128 : Int32)).toInt8.toInt32)))) (.int 0) := V53
              refine own_iloadN X53.here hx hby d9_70 rfl ?_
              refine own_bipush X53.here hx hby d9_71 (v := (7 : Int32)) (by decide) ?_
              refine own_iushr X53.here hx hby d9_73 rfl ?_
              refine own_istoreN X53.here hx hby d9_74 (l' := #[.val (.ref t), .val (.int v), .val (.int (((own_r v 3).toUInt32 >>> ((7 : Int32) &&& 31).toUInt32).toInt32))]) rfl ?_
              refine own_goto X53.here hx hby (pc' := 39) d9_75 (by decide) (by decide) ?_
              refine own_sh (T := T53) 39 #[.val (.ref t), .val (.int v), .val (.int (own_r v 4))] [] ?_
              refine own_iloadN X53.here hx hby d9_39 rfl ?_
              refine own_bipush X53.here hx hby d9_40 (v := (127 : Int32)) (by decide) ?_
              refine own_icmpYes X53.here hx hby (pc' := 78) d9_42 (flt (show ¬ ((127 : Int32) < (own_r v 4)) from (own_r4 v hv))).2.2.2 (by decide) (by decide) ?_
              refine own_aloadN X53.here hx hby d9_78 rfl rfl ?_
              have f55 : Fld Z h53 t "com/example/rank_to_reach/ranktoreach/Postings$Writer" "bytes" "[B" (.ref b_9) := ((f46.other W51 (Or.inr (slot_ne (Or.inl (own_w hw 18 rfl)) (Or.inl (own_w hw 27 rfl)) (by decide) (t := (.array .byte)) (t' := .int) (by decide) (by decide)))).other W53 (Or.inl (own_nn (by omega))))
              refine own_getF X53 hx hZ hown (host := "") (Or.inl (own_w hw 17 rfl)) Via.refl e53 f55 hby d9_79 ?_
              intro T56 X56 e56
              refine own_aloadN X56.here hx hby d9_82 rfl rfl ?_
              refine own_dup X56.here hx hby d9_83 rfl ?_
              have f57 : Fld Z h53 t "com/example/rank_to_reach/ranktoreach/Postings$Writer" "size" "I" (.int ((((sz + (1 : Int32)) + (1 : Int32)) + (1 : Int32)) + (1 : Int32))) := (F51.other W53 (Or.inl (own_nn (by omega))))
              refine own_getF X56 hx hZ hown (host := "") (Or.inl (own_w hw 26 rfl)) Via.refl e56 f57 hby d9_84 ?_
              intro T58 X58 e58
              refine own_dupX1 X58.here hx hby d9_87 rfl rfl ?_
              refine own_iconst X58.here hx hby d9_88 (v := (1 : Int32)) (by decide) ?_
              refine own_iadd X58.here hx hby d9_89 rfl ?_
              have f59 : Exa Z h53 t "com/example/rank_to_reach/ranktoreach/Postings$Writer" := ((f50.wr W51).wr W53)
              refine own_putF X58 hx hZ (ty := .int) hown (host := "") (Or.inl (own_w hw 26 rfl)) Via.refl e58 f57 f59 (Or.inl (own_w hw 27 rfl)) (own_w hw 7 rfl) (by decide) rfl rfl hby d9_90 N53 g_t ?_
              intro T60 h60 lo60 X60 e60 N60 W60 F60 z60
              refine own_iloadN X60.here hx hby d9_93 rfl ?_
              refine own_i2b X60.here hx hby d9_94 rfl ?_
              have f61 : Arv Z h60 b_9 kb_9 .byte (16 : Int32) ((((L0.set (sz.toNatClampNeg + 0) (.int (nar .byte ((((own_r v 0) &&& (127 : Int32)) ||| (128 : Int32)).toInt8.toInt32)))).set (sz.toNatClampNeg + 1) (.int (nar .byte ((((own_r v 1) &&& (127 : Int32)) ||| (128 : Int32)).toInt8.toInt32)))).set (sz.toNatClampNeg + 2) (.int (nar .byte ((((own_r v 2) &&& (127 : Int32)) ||| (128 : Int32)).toInt8.toInt32)))).set (sz.toNatClampNeg + 3) (.int (nar .byte ((((own_r v 3) &&& (127 : Int32)) ||| (128 : Int32)).toInt8.toInt32)))) (.int 0) := (V54.other W60 (own_nn (by omega)))
              refine own_bastore X60 hx hZ e60 f61 (own_inc_in hs0 hs16 4 (by decide) (by have h_ : (16 : Int32).toInt = 16 := (by decide); omega)) (sz.toNatClampNeg + 4) (own_inc_nat hs0 hs16 4 (by decide)) (by first | omega | (simp only [List.length_set]; omega)) rfl hby d9_95 N60 (by omega) ?_
              intro T62 h62 lo62 X62 e62 N62 W62 V62 z62
              have V63 : Arv Z h62 b_9 kb_9 .byte (16 : Int32) (((((L0.set (sz.toNatClampNeg + 0) (.int (nar .byte ((((own_r v 0) &&& (127 : Int32)) ||| (128 : Int32)).toInt8.toInt32)))).set (sz.toNatClampNeg + 1) (.int (nar .byte ((((own_r v 1) &&& (127 : Int32)) ||| (128 : Int32)).toInt8.toInt32)))).set (sz.toNatClampNeg + 2) (.int (nar .byte ((((own_r v 2) &&& (127 : Int32)) ||| (128 : Int32)).toInt8.toInt32)))).set (sz.toNatClampNeg + 3) (.int (nar .byte ((((own_r v 3) &&& (127 : Int32)) ||| (128 : Int32)).toInt8.toInt32)))).set (sz.toNatClampNeg + 4) (.int (nar .byte ((own_r v 4).toInt8.toInt32)))) (.int 0) := V62
              have hvl : own_vl v = 5 := own_vl5 hc42_16 hc42_25 hc42_35 hc42_45
              have f64 : Fld Z h62 t "com/example/rank_to_reach/ranktoreach/Postings$Writer" "size" "I" (.int (((((sz + (1 : Int32)) + (1 : Int32)) + (1 : Int32)) + (1 : Int32)) + (1 : Int32))) := (F60.other W62 (Or.inl (own_nn (by omega))))
              have hsz2 : sz + own_vI v = own_inc sz 5 := by
                rw [own_inc_vI hvl]
                simp only [own_inc, Int32.add_assoc]
                rfl
              have hP2 := own_post (L' := (((((L0.set (sz.toNatClampNeg + 0) (.int (nar .byte ((((own_r v 0) &&& (127 : Int32)) ||| (128 : Int32)).toInt8.toInt32)))).set (sz.toNatClampNeg + 1) (.int (nar .byte ((((own_r v 1) &&& (127 : Int32)) ||| (128 : Int32)).toInt8.toInt32)))).set (sz.toNatClampNeg + 2) (.int (nar .byte ((((own_r v 2) &&& (127 : Int32)) ||| (128 : Int32)).toInt8.toInt32)))).set (sz.toNatClampNeg + 3) (.int (nar .byte ((((own_r v 3) &&& (127 : Int32)) ||| (128 : Int32)).toInt8.toInt32)))).set (sz.toNatClampNeg + 4) (.int (nar .byte ((own_r v 4).toInt8.toInt32))))) (i := sz.toNatClampNeg) (k := 4) hvl (by omega) rfl hLp
              have hyN : (16 : Int32).toNatClampNeg = 16 := by decide
              have K65 : Keep h0 h62 [t, a] := (((((((((((((Keep.refl h0 [t, a]).trans K9 all0).wr W14 (Or.inl (List.mem_of_getElem? (i := 0) rfl))).wr W21 (Or.inl (List.mem_of_getElem? (i := 0) rfl))).wr W23 (Or.inr (by omega))).wr W31 (Or.inl (List.mem_of_getElem? (i := 0) rfl))).wr W33 (Or.inr (by omega))).wr W41 (Or.inl (List.mem_of_getElem? (i := 0) rfl))).wr W43 (Or.inr (by omega))).wr W51 (Or.inl (List.mem_of_getElem? (i := 0) rfl))).wr W53 (Or.inr (by omega))).wr W60 (Or.inl (List.mem_of_getElem? (i := 0) rfl))).wr W62 (Or.inr (by omega)))
              have f66 : Exa Z h62 t "com/example/rank_to_reach/ranktoreach/Postings$Writer" := ((f59.wr W60).wr W62)
              have f67 : Fld Z h62 t "com/example/rank_to_reach/ranktoreach/Postings$Writer" "bytes" "[B" (.ref b_9) := ((f55.other W60 (Or.inr (slot_ne (Or.inl (own_w hw 18 rfl)) (Or.inl (own_w hw 27 rfl)) (by decide) (t := (.array .byte)) (t' := .int) (by decide) (by decide)))).other W62 (Or.inl (own_nn (by omega))))
              have f68 : Fld Z h62 t "com/example/rank_to_reach/ranktoreach/Postings$Writer" "last" "I" (.int lst) := ((((((((((((F_last.keep K9 nin0).other W14 (Or.inr (slot_ne (Or.inl (own_w hw 20 rfl)) (Or.inl (own_w hw 18 rfl)) (by decide) (t := .int) (t' := (.array .byte)) (by decide) (by decide)))).other W21 (Or.inr (slot_ne (Or.inl (own_w hw 20 rfl)) (Or.inl (own_w hw 27 rfl)) (by decide) (t := .int) (t' := .int) (by decide) (by decide)))).other W23 (Or.inl (own_nn (by omega)))).other W31 (Or.inr (slot_ne (Or.inl (own_w hw 20 rfl)) (Or.inl (own_w hw 27 rfl)) (by decide) (t := .int) (t' := .int) (by decide) (by decide)))).other W33 (Or.inl (own_nn (by omega)))).other W41 (Or.inr (slot_ne (Or.inl (own_w hw 20 rfl)) (Or.inl (own_w hw 27 rfl)) (by decide) (t := .int) (t' := .int) (by decide) (by decide)))).other W43 (Or.inl (own_nn (by omega)))).other W51 (Or.inr (slot_ne (Or.inl (own_w hw 20 rfl)) (Or.inl (own_w hw 27 rfl)) (by decide) (t := .int) (t' := .int) (by decide) (by decide)))).other W53 (Or.inl (own_nn (by omega)))).other W60 (Or.inr (slot_ne (Or.inl (own_w hw 20 rfl)) (Or.inl (own_w hw 27 rfl)) (by decide) (t := .int) (t' := .int) (by decide) (by decide)))).other W62 (Or.inl (own_nn (by omega))))
              have f69 : Fld Z h62 t "com/example/rank_to_reach/ranktoreach/Postings$Writer" "count" "I" (.int cnt) := ((((((((((((F_count.keep K9 nin0).other W14 (Or.inr (slot_ne (Or.inl (own_w hw 44 rfl)) (Or.inl (own_w hw 18 rfl)) (by decide) (t := .int) (t' := (.array .byte)) (by decide) (by decide)))).other W21 (Or.inr (slot_ne (Or.inl (own_w hw 44 rfl)) (Or.inl (own_w hw 27 rfl)) (by decide) (t := .int) (t' := .int) (by decide) (by decide)))).other W23 (Or.inl (own_nn (by omega)))).other W31 (Or.inr (slot_ne (Or.inl (own_w hw 44 rfl)) (Or.inl (own_w hw 27 rfl)) (by decide) (t := .int) (t' := .int) (by decide) (by decide)))).other W33 (Or.inl (own_nn (by omega)))).other W41 (Or.inr (slot_ne (Or.inl (own_w hw 44 rfl)) (Or.inl (own_w hw 27 rfl)) (by decide) (t := .int) (t' := .int) (by decide) (by decide)))).other W43 (Or.inl (own_nn (by omega)))).other W51 (Or.inr (slot_ne (Or.inl (own_w hw 44 rfl)) (Or.inl (own_w hw 27 rfl)) (by decide) (t := .int) (t' := .int) (by decide) (by decide)))).other W53 (Or.inl (own_nn (by omega)))).other W60 (Or.inr (slot_ne (Or.inl (own_w hw 44 rfl)) (Or.inl (own_w hw 27 rfl)) (by decide) (t := .int) (t' := .int) (by decide) (by decide)))).other W62 (Or.inl (own_nn (by omega))))
              obtain ⟨fs, hr, hrun, hended, hW, hsame⟩ := X62.leave (v := none) (fun _ => rfl)
              refine own_ret (t := T62.setFrames fs) ?_ ⟨_, hrun, hended, _, _, rfl, ?_, ⟨_, rfl⟩, hW, hsame.mono (by decide) (by decide)⟩
              · exact X62.returnOut hx Bd.returns (hb hby d9_96) hr
              · show Q_put1 Z _ _ _ _ _ _ _ _ _ h0 n0 _ T62.heap _
                rw [e62]
                exact ⟨b_9, kb_9, (16 : Int32), (((((L0.set (sz.toNatClampNeg + 0) (.int (nar .byte ((((own_r v 0) &&& (127 : Int32)) ||| (128 : Int32)).toInt8.toInt32)))).set (sz.toNatClampNeg + 1) (.int (nar .byte ((((own_r v 1) &&& (127 : Int32)) ||| (128 : Int32)).toInt8.toInt32)))).set (sz.toNatClampNeg + 2) (.int (nar .byte ((((own_r v 2) &&& (127 : Int32)) ||| (128 : Int32)).toInt8.toInt32)))).set (sz.toNatClampNeg + 3) (.int (nar .byte ((((own_r v 3) &&& (127 : Int32)) ||| (128 : Int32)).toInt8.toInt32)))).set (sz.toNatClampNeg + 4) (.int (nar .byte ((own_r v 4).toInt8.toInt32)))), rfl, N62, K65, f66, f67, (by rw [hsz2]; exact f64), f68, f69, V63, ⟨(by omega), Or.inr (by omega)⟩, (Or.inr (Or.inl rfl)), (fun _ => Or.inr rfl), (by rw [hyN, hvl]; omega), hP2.1, hP2.2⟩
            · refine own_icmpYes X43.here hx hby (pc' := 78) d9_42 (flt hc42_45).2.2.2 (by decide) (by decide) ?_
              refine own_aloadN X43.here hx hby d9_78 rfl rfl ?_
              have f70 : Fld Z h43 t "com/example/rank_to_reach/ranktoreach/Postings$Writer" "bytes" "[B" (.ref b_9) := ((f36.other W41 (Or.inr (slot_ne (Or.inl (own_w hw 18 rfl)) (Or.inl (own_w hw 27 rfl)) (by decide) (t := (.array .byte)) (t' := .int) (by decide) (by decide)))).other W43 (Or.inl (own_nn (by omega))))
              refine own_getF X43 hx hZ hown (host := "") (Or.inl (own_w hw 17 rfl)) Via.refl e43 f70 hby d9_79 ?_
              intro T71 X71 e71
              refine own_aloadN X71.here hx hby d9_82 rfl rfl ?_
              refine own_dup X71.here hx hby d9_83 rfl ?_
              have f72 : Fld Z h43 t "com/example/rank_to_reach/ranktoreach/Postings$Writer" "size" "I" (.int (((sz + (1 : Int32)) + (1 : Int32)) + (1 : Int32))) := (F41.other W43 (Or.inl (own_nn (by omega))))
              refine own_getF X71 hx hZ hown (host := "") (Or.inl (own_w hw 26 rfl)) Via.refl e71 f72 hby d9_84 ?_
              intro T73 X73 e73
              refine own_dupX1 X73.here hx hby d9_87 rfl rfl ?_
              refine own_iconst X73.here hx hby d9_88 (v := (1 : Int32)) (by decide) ?_
              refine own_iadd X73.here hx hby d9_89 rfl ?_
              have f74 : Exa Z h43 t "com/example/rank_to_reach/ranktoreach/Postings$Writer" := ((f40.wr W41).wr W43)
              refine own_putF X73 hx hZ (ty := .int) hown (host := "") (Or.inl (own_w hw 26 rfl)) Via.refl e73 f72 f74 (Or.inl (own_w hw 27 rfl)) (own_w hw 7 rfl) (by decide) rfl rfl hby d9_90 N43 g_t ?_
              intro T75 h75 lo75 X75 e75 N75 W75 F75 z75
              refine own_iloadN X75.here hx hby d9_93 rfl ?_
              refine own_i2b X75.here hx hby d9_94 rfl ?_
              have f76 : Arv Z h75 b_9 kb_9 .byte (16 : Int32) (((L0.set (sz.toNatClampNeg + 0) (.int (nar .byte ((((own_r v 0) &&& (127 : Int32)) ||| (128 : Int32)).toInt8.toInt32)))).set (sz.toNatClampNeg + 1) (.int (nar .byte ((((own_r v 1) &&& (127 : Int32)) ||| (128 : Int32)).toInt8.toInt32)))).set (sz.toNatClampNeg + 2) (.int (nar .byte ((((own_r v 2) &&& (127 : Int32)) ||| (128 : Int32)).toInt8.toInt32)))) (.int 0) := (V44.other W75 (own_nn (by omega)))
              refine own_bastore X75 hx hZ e75 f76 (own_inc_in hs0 hs16 3 (by decide) (by have h_ : (16 : Int32).toInt = 16 := (by decide); omega)) (sz.toNatClampNeg + 3) (own_inc_nat hs0 hs16 3 (by decide)) (by first | omega | (simp only [List.length_set]; omega)) rfl hby d9_95 N75 (by omega) ?_
              intro T77 h77 lo77 X77 e77 N77 W77 V77 z77
              have V78 : Arv Z h77 b_9 kb_9 .byte (16 : Int32) ((((L0.set (sz.toNatClampNeg + 0) (.int (nar .byte ((((own_r v 0) &&& (127 : Int32)) ||| (128 : Int32)).toInt8.toInt32)))).set (sz.toNatClampNeg + 1) (.int (nar .byte ((((own_r v 1) &&& (127 : Int32)) ||| (128 : Int32)).toInt8.toInt32)))).set (sz.toNatClampNeg + 2) (.int (nar .byte ((((own_r v 2) &&& (127 : Int32)) ||| (128 : Int32)).toInt8.toInt32)))).set (sz.toNatClampNeg + 3) (.int (nar .byte ((own_r v 3).toInt8.toInt32)))) (.int 0) := V77
              have hvl : own_vl v = 4 := own_vl4 hc42_16 hc42_25 hc42_35 hc42_45
              have f79 : Fld Z h77 t "com/example/rank_to_reach/ranktoreach/Postings$Writer" "size" "I" (.int ((((sz + (1 : Int32)) + (1 : Int32)) + (1 : Int32)) + (1 : Int32))) := (F75.other W77 (Or.inl (own_nn (by omega))))
              have hsz2 : sz + own_vI v = own_inc sz 4 := by
                rw [own_inc_vI hvl]
                simp only [own_inc, Int32.add_assoc]
                rfl
              have hP2 := own_post (L' := ((((L0.set (sz.toNatClampNeg + 0) (.int (nar .byte ((((own_r v 0) &&& (127 : Int32)) ||| (128 : Int32)).toInt8.toInt32)))).set (sz.toNatClampNeg + 1) (.int (nar .byte ((((own_r v 1) &&& (127 : Int32)) ||| (128 : Int32)).toInt8.toInt32)))).set (sz.toNatClampNeg + 2) (.int (nar .byte ((((own_r v 2) &&& (127 : Int32)) ||| (128 : Int32)).toInt8.toInt32)))).set (sz.toNatClampNeg + 3) (.int (nar .byte ((own_r v 3).toInt8.toInt32))))) (i := sz.toNatClampNeg) (k := 3) hvl (by omega) rfl hLp
              have hyN : (16 : Int32).toNatClampNeg = 16 := by decide
              have K80 : Keep h0 h77 [t, a] := (((((((((((Keep.refl h0 [t, a]).trans K9 all0).wr W14 (Or.inl (List.mem_of_getElem? (i := 0) rfl))).wr W21 (Or.inl (List.mem_of_getElem? (i := 0) rfl))).wr W23 (Or.inr (by omega))).wr W31 (Or.inl (List.mem_of_getElem? (i := 0) rfl))).wr W33 (Or.inr (by omega))).wr W41 (Or.inl (List.mem_of_getElem? (i := 0) rfl))).wr W43 (Or.inr (by omega))).wr W75 (Or.inl (List.mem_of_getElem? (i := 0) rfl))).wr W77 (Or.inr (by omega)))
              have f81 : Exa Z h77 t "com/example/rank_to_reach/ranktoreach/Postings$Writer" := ((f74.wr W75).wr W77)
              have f82 : Fld Z h77 t "com/example/rank_to_reach/ranktoreach/Postings$Writer" "bytes" "[B" (.ref b_9) := ((f70.other W75 (Or.inr (slot_ne (Or.inl (own_w hw 18 rfl)) (Or.inl (own_w hw 27 rfl)) (by decide) (t := (.array .byte)) (t' := .int) (by decide) (by decide)))).other W77 (Or.inl (own_nn (by omega))))
              have f83 : Fld Z h77 t "com/example/rank_to_reach/ranktoreach/Postings$Writer" "last" "I" (.int lst) := ((((((((((F_last.keep K9 nin0).other W14 (Or.inr (slot_ne (Or.inl (own_w hw 20 rfl)) (Or.inl (own_w hw 18 rfl)) (by decide) (t := .int) (t' := (.array .byte)) (by decide) (by decide)))).other W21 (Or.inr (slot_ne (Or.inl (own_w hw 20 rfl)) (Or.inl (own_w hw 27 rfl)) (by decide) (t := .int) (t' := .int) (by decide) (by decide)))).other W23 (Or.inl (own_nn (by omega)))).other W31 (Or.inr (slot_ne (Or.inl (own_w hw 20 rfl)) (Or.inl (own_w hw 27 rfl)) (by decide) (t := .int) (t' := .int) (by decide) (by decide)))).other W33 (Or.inl (own_nn (by omega)))).other W41 (Or.inr (slot_ne (Or.inl (own_w hw 20 rfl)) (Or.inl (own_w hw 27 rfl)) (by decide) (t := .int) (t' := .int) (by decide) (by decide)))).other W43 (Or.inl (own_nn (by omega)))).other W75 (Or.inr (slot_ne (Or.inl (own_w hw 20 rfl)) (Or.inl (own_w hw 27 rfl)) (by decide) (t := .int) (t' := .int) (by decide) (by decide)))).other W77 (Or.inl (own_nn (by omega))))
              have f84 : Fld Z h77 t "com/example/rank_to_reach/ranktoreach/Postings$Writer" "count" "I" (.int cnt) := ((((((((((F_count.keep K9 nin0).other W14 (Or.inr (slot_ne (Or.inl (own_w hw 44 rfl)) (Or.inl (own_w hw 18 rfl)) (by decide) (t := .int) (t' := (.array .byte)) (by decide) (by decide)))).other W21 (Or.inr (slot_ne (Or.inl (own_w hw 44 rfl)) (Or.inl (own_w hw 27 rfl)) (by decide) (t := .int) (t' := .int) (by decide) (by decide)))).other W23 (Or.inl (own_nn (by omega)))).other W31 (Or.inr (slot_ne (Or.inl (own_w hw 44 rfl)) (Or.inl (own_w hw 27 rfl)) (by decide) (t := .int) (t' := .int) (by decide) (by decide)))).other W33 (Or.inl (own_nn (by omega)))).other W41 (Or.inr (slot_ne (Or.inl (own_w hw 44 rfl)) (Or.inl (own_w hw 27 rfl)) (by decide) (t := .int) (t' := .int) (by decide) (by decide)))).other W43 (Or.inl (own_nn (by omega)))).other W75 (Or.inr (slot_ne (Or.inl (own_w hw 44 rfl)) (Or.inl (own_w hw 27 rfl)) (by decide) (t := .int) (t' := .int) (by decide) (by decide)))).other W77 (Or.inl (own_nn (by omega))))
              obtain ⟨fs, hr, hrun, hended, hW, hsame⟩ := X77.leave (v := none) (fun _ => rfl)
              refine own_ret (t := T77.setFrames fs) ?_ ⟨_, hrun, hended, _, _, rfl, ?_, ⟨_, rfl⟩, hW, hsame.mono (by decide) (by decide)⟩
              · exact X77.returnOut hx Bd.returns (hb hby d9_96) hr
              · show Q_put1 Z _ _ _ _ _ _ _ _ _ h0 n0 _ T77.heap _
                rw [e77]
                exact ⟨b_9, kb_9, (16 : Int32), ((((L0.set (sz.toNatClampNeg + 0) (.int (nar .byte ((((own_r v 0) &&& (127 : Int32)) ||| (128 : Int32)).toInt8.toInt32)))).set (sz.toNatClampNeg + 1) (.int (nar .byte ((((own_r v 1) &&& (127 : Int32)) ||| (128 : Int32)).toInt8.toInt32)))).set (sz.toNatClampNeg + 2) (.int (nar .byte ((((own_r v 2) &&& (127 : Int32)) ||| (128 : Int32)).toInt8.toInt32)))).set (sz.toNatClampNeg + 3) (.int (nar .byte ((own_r v 3).toInt8.toInt32)))), rfl, N77, K80, f81, f82, (by rw [hsz2]; exact f79), f83, f84, V78, ⟨(by omega), Or.inr (by omega)⟩, (Or.inr (Or.inl rfl)), (fun _ => Or.inr rfl), (by rw [hyN, hvl]; omega), hP2.1, hP2.2⟩
          · refine own_icmpYes X33.here hx hby (pc' := 78) d9_42 (flt hc42_35).2.2.2 (by decide) (by decide) ?_
            refine own_aloadN X33.here hx hby d9_78 rfl rfl ?_
            have f85 : Fld Z h33 t "com/example/rank_to_reach/ranktoreach/Postings$Writer" "bytes" "[B" (.ref b_9) := ((f26.other W31 (Or.inr (slot_ne (Or.inl (own_w hw 18 rfl)) (Or.inl (own_w hw 27 rfl)) (by decide) (t := (.array .byte)) (t' := .int) (by decide) (by decide)))).other W33 (Or.inl (own_nn (by omega))))
            refine own_getF X33 hx hZ hown (host := "") (Or.inl (own_w hw 17 rfl)) Via.refl e33 f85 hby d9_79 ?_
            intro T86 X86 e86
            refine own_aloadN X86.here hx hby d9_82 rfl rfl ?_
            refine own_dup X86.here hx hby d9_83 rfl ?_
            have f87 : Fld Z h33 t "com/example/rank_to_reach/ranktoreach/Postings$Writer" "size" "I" (.int ((sz + (1 : Int32)) + (1 : Int32))) := (F31.other W33 (Or.inl (own_nn (by omega))))
            refine own_getF X86 hx hZ hown (host := "") (Or.inl (own_w hw 26 rfl)) Via.refl e86 f87 hby d9_84 ?_
            intro T88 X88 e88
            refine own_dupX1 X88.here hx hby d9_87 rfl rfl ?_
            refine own_iconst X88.here hx hby d9_88 (v := (1 : Int32)) (by decide) ?_
            refine own_iadd X88.here hx hby d9_89 rfl ?_
            have f89 : Exa Z h33 t "com/example/rank_to_reach/ranktoreach/Postings$Writer" := ((f30.wr W31).wr W33)
            refine own_putF X88 hx hZ (ty := .int) hown (host := "") (Or.inl (own_w hw 26 rfl)) Via.refl e88 f87 f89 (Or.inl (own_w hw 27 rfl)) (own_w hw 7 rfl) (by decide) rfl rfl hby d9_90 N33 g_t ?_
            intro T90 h90 lo90 X90 e90 N90 W90 F90 z90
            refine own_iloadN X90.here hx hby d9_93 rfl ?_
            refine own_i2b X90.here hx hby d9_94 rfl ?_
            have f91 : Arv Z h90 b_9 kb_9 .byte (16 : Int32) ((L0.set (sz.toNatClampNeg + 0) (.int (nar .byte ((((own_r v 0) &&& (127 : Int32)) ||| (128 : Int32)).toInt8.toInt32)))).set (sz.toNatClampNeg + 1) (.int (nar .byte ((((own_r v 1) &&& (127 : Int32)) ||| (128 : Int32)).toInt8.toInt32)))) (.int 0) := (V34.other W90 (own_nn (by omega)))
            refine own_bastore X90 hx hZ e90 f91 (own_inc_in hs0 hs16 2 (by decide) (by have h_ : (16 : Int32).toInt = 16 := (by decide); omega)) (sz.toNatClampNeg + 2) (own_inc_nat hs0 hs16 2 (by decide)) (by first | omega | (simp only [List.length_set]; omega)) rfl hby d9_95 N90 (by omega) ?_
            intro T92 h92 lo92 X92 e92 N92 W92 V92 z92
            have V93 : Arv Z h92 b_9 kb_9 .byte (16 : Int32) (((L0.set (sz.toNatClampNeg + 0) (.int (nar .byte ((((own_r v 0) &&& (127 : Int32)) ||| (128 : Int32)).toInt8.toInt32)))).set (sz.toNatClampNeg + 1) (.int (nar .byte ((((own_r v 1) &&& (127 : Int32)) ||| (128 : Int32)).toInt8.toInt32)))).set (sz.toNatClampNeg + 2) (.int (nar .byte ((own_r v 2).toInt8.toInt32)))) (.int 0) := V92
            have hvl : own_vl v = 3 := own_vl3 hc42_16 hc42_25 hc42_35
            have f94 : Fld Z h92 t "com/example/rank_to_reach/ranktoreach/Postings$Writer" "size" "I" (.int (((sz + (1 : Int32)) + (1 : Int32)) + (1 : Int32))) := (F90.other W92 (Or.inl (own_nn (by omega))))
            have hsz2 : sz + own_vI v = own_inc sz 3 := by
              rw [own_inc_vI hvl]
              simp only [own_inc, Int32.add_assoc]
              rfl
            have hP2 := own_post (L' := (((L0.set (sz.toNatClampNeg + 0) (.int (nar .byte ((((own_r v 0) &&& (127 : Int32)) ||| (128 : Int32)).toInt8.toInt32)))).set (sz.toNatClampNeg + 1) (.int (nar .byte ((((own_r v 1) &&& (127 : Int32)) ||| (128 : Int32)).toInt8.toInt32)))).set (sz.toNatClampNeg + 2) (.int (nar .byte ((own_r v 2).toInt8.toInt32))))) (i := sz.toNatClampNeg) (k := 2) hvl (by omega) rfl hLp
            have hyN : (16 : Int32).toNatClampNeg = 16 := by decide
            have K95 : Keep h0 h92 [t, a] := (((((((((Keep.refl h0 [t, a]).trans K9 all0).wr W14 (Or.inl (List.mem_of_getElem? (i := 0) rfl))).wr W21 (Or.inl (List.mem_of_getElem? (i := 0) rfl))).wr W23 (Or.inr (by omega))).wr W31 (Or.inl (List.mem_of_getElem? (i := 0) rfl))).wr W33 (Or.inr (by omega))).wr W90 (Or.inl (List.mem_of_getElem? (i := 0) rfl))).wr W92 (Or.inr (by omega)))
            have f96 : Exa Z h92 t "com/example/rank_to_reach/ranktoreach/Postings$Writer" := ((f89.wr W90).wr W92)
            have f97 : Fld Z h92 t "com/example/rank_to_reach/ranktoreach/Postings$Writer" "bytes" "[B" (.ref b_9) := ((f85.other W90 (Or.inr (slot_ne (Or.inl (own_w hw 18 rfl)) (Or.inl (own_w hw 27 rfl)) (by decide) (t := (.array .byte)) (t' := .int) (by decide) (by decide)))).other W92 (Or.inl (own_nn (by omega))))
            have f98 : Fld Z h92 t "com/example/rank_to_reach/ranktoreach/Postings$Writer" "last" "I" (.int lst) := ((((((((F_last.keep K9 nin0).other W14 (Or.inr (slot_ne (Or.inl (own_w hw 20 rfl)) (Or.inl (own_w hw 18 rfl)) (by decide) (t := .int) (t' := (.array .byte)) (by decide) (by decide)))).other W21 (Or.inr (slot_ne (Or.inl (own_w hw 20 rfl)) (Or.inl (own_w hw 27 rfl)) (by decide) (t := .int) (t' := .int) (by decide) (by decide)))).other W23 (Or.inl (own_nn (by omega)))).other W31 (Or.inr (slot_ne (Or.inl (own_w hw 20 rfl)) (Or.inl (own_w hw 27 rfl)) (by decide) (t := .int) (t' := .int) (by decide) (by decide)))).other W33 (Or.inl (own_nn (by omega)))).other W90 (Or.inr (slot_ne (Or.inl (own_w hw 20 rfl)) (Or.inl (own_w hw 27 rfl)) (by decide) (t := .int) (t' := .int) (by decide) (by decide)))).other W92 (Or.inl (own_nn (by omega))))
            have f99 : Fld Z h92 t "com/example/rank_to_reach/ranktoreach/Postings$Writer" "count" "I" (.int cnt) := ((((((((F_count.keep K9 nin0).other W14 (Or.inr (slot_ne (Or.inl (own_w hw 44 rfl)) (Or.inl (own_w hw 18 rfl)) (by decide) (t := .int) (t' := (.array .byte)) (by decide) (by decide)))).other W21 (Or.inr (slot_ne (Or.inl (own_w hw 44 rfl)) (Or.inl (own_w hw 27 rfl)) (by decide) (t := .int) (t' := .int) (by decide) (by decide)))).other W23 (Or.inl (own_nn (by omega)))).other W31 (Or.inr (slot_ne (Or.inl (own_w hw 44 rfl)) (Or.inl (own_w hw 27 rfl)) (by decide) (t := .int) (t' := .int) (by decide) (by decide)))).other W33 (Or.inl (own_nn (by omega)))).other W90 (Or.inr (slot_ne (Or.inl (own_w hw 44 rfl)) (Or.inl (own_w hw 27 rfl)) (by decide) (t := .int) (t' := .int) (by decide) (by decide)))).other W92 (Or.inl (own_nn (by omega))))
            obtain ⟨fs, hr, hrun, hended, hW, hsame⟩ := X92.leave (v := none) (fun _ => rfl)
            refine own_ret (t := T92.setFrames fs) ?_ ⟨_, hrun, hended, _, _, rfl, ?_, ⟨_, rfl⟩, hW, hsame.mono (by decide) (by decide)⟩
            · exact X92.returnOut hx Bd.returns (hb hby d9_96) hr
            · show Q_put1 Z _ _ _ _ _ _ _ _ _ h0 n0 _ T92.heap _
              rw [e92]
              exact ⟨b_9, kb_9, (16 : Int32), (((L0.set (sz.toNatClampNeg + 0) (.int (nar .byte ((((own_r v 0) &&& (127 : Int32)) ||| (128 : Int32)).toInt8.toInt32)))).set (sz.toNatClampNeg + 1) (.int (nar .byte ((((own_r v 1) &&& (127 : Int32)) ||| (128 : Int32)).toInt8.toInt32)))).set (sz.toNatClampNeg + 2) (.int (nar .byte ((own_r v 2).toInt8.toInt32)))), rfl, N92, K95, f96, f97, (by rw [hsz2]; exact f94), f98, f99, V93, ⟨(by omega), Or.inr (by omega)⟩, (Or.inr (Or.inl rfl)), (fun _ => Or.inr rfl), (by rw [hyN, hvl]; omega), hP2.1, hP2.2⟩
        · refine own_icmpYes X23.here hx hby (pc' := 78) d9_42 (flt hc42_25).2.2.2 (by decide) (by decide) ?_
          refine own_aloadN X23.here hx hby d9_78 rfl rfl ?_
          have f100 : Fld Z h23 t "com/example/rank_to_reach/ranktoreach/Postings$Writer" "bytes" "[B" (.ref b_9) := ((F14.other W21 (Or.inr (slot_ne (Or.inl (own_w hw 18 rfl)) (Or.inl (own_w hw 27 rfl)) (by decide) (t := (.array .byte)) (t' := .int) (by decide) (by decide)))).other W23 (Or.inl (own_nn (by omega))))
          refine own_getF X23 hx hZ hown (host := "") (Or.inl (own_w hw 17 rfl)) Via.refl e23 f100 hby d9_79 ?_
          intro T101 X101 e101
          refine own_aloadN X101.here hx hby d9_82 rfl rfl ?_
          refine own_dup X101.here hx hby d9_83 rfl ?_
          have f102 : Fld Z h23 t "com/example/rank_to_reach/ranktoreach/Postings$Writer" "size" "I" (.int (sz + (1 : Int32))) := (F21.other W23 (Or.inl (own_nn (by omega))))
          refine own_getF X101 hx hZ hown (host := "") (Or.inl (own_w hw 26 rfl)) Via.refl e101 f102 hby d9_84 ?_
          intro T103 X103 e103
          refine own_dupX1 X103.here hx hby d9_87 rfl rfl ?_
          refine own_iconst X103.here hx hby d9_88 (v := (1 : Int32)) (by decide) ?_
          refine own_iadd X103.here hx hby d9_89 rfl ?_
          have f104 : Exa Z h23 t "com/example/rank_to_reach/ranktoreach/Postings$Writer" := ((f20.wr W21).wr W23)
          refine own_putF X103 hx hZ (ty := .int) hown (host := "") (Or.inl (own_w hw 26 rfl)) Via.refl e103 f102 f104 (Or.inl (own_w hw 27 rfl)) (own_w hw 7 rfl) (by decide) rfl rfl hby d9_90 N23 g_t ?_
          intro T105 h105 lo105 X105 e105 N105 W105 F105 z105
          refine own_iloadN X105.here hx hby d9_93 rfl ?_
          refine own_i2b X105.here hx hby d9_94 rfl ?_
          have f106 : Arv Z h105 b_9 kb_9 .byte (16 : Int32) (L0.set (sz.toNatClampNeg + 0) (.int (nar .byte ((((own_r v 0) &&& (127 : Int32)) ||| (128 : Int32)).toInt8.toInt32)))) (.int 0) := (V24.other W105 (own_nn (by omega)))
          refine own_bastore X105 hx hZ e105 f106 (own_inc_in hs0 hs16 1 (by decide) (by have h_ : (16 : Int32).toInt = 16 := (by decide); omega)) (sz.toNatClampNeg + 1) (own_inc_nat hs0 hs16 1 (by decide)) (by first | omega | (simp only [List.length_set]; omega)) rfl hby d9_95 N105 (by omega) ?_
          intro T107 h107 lo107 X107 e107 N107 W107 V107 z107
          have V108 : Arv Z h107 b_9 kb_9 .byte (16 : Int32) ((L0.set (sz.toNatClampNeg + 0) (.int (nar .byte ((((own_r v 0) &&& (127 : Int32)) ||| (128 : Int32)).toInt8.toInt32)))).set (sz.toNatClampNeg + 1) (.int (nar .byte ((own_r v 1).toInt8.toInt32)))) (.int 0) := V107
          have hvl : own_vl v = 2 := own_vl2 hc42_16 hc42_25
          have f109 : Fld Z h107 t "com/example/rank_to_reach/ranktoreach/Postings$Writer" "size" "I" (.int ((sz + (1 : Int32)) + (1 : Int32))) := (F105.other W107 (Or.inl (own_nn (by omega))))
          have hsz2 : sz + own_vI v = own_inc sz 2 := by
            rw [own_inc_vI hvl]
            simp only [own_inc, Int32.add_assoc]
            rfl
          have hP2 := own_post (L' := ((L0.set (sz.toNatClampNeg + 0) (.int (nar .byte ((((own_r v 0) &&& (127 : Int32)) ||| (128 : Int32)).toInt8.toInt32)))).set (sz.toNatClampNeg + 1) (.int (nar .byte ((own_r v 1).toInt8.toInt32))))) (i := sz.toNatClampNeg) (k := 1) hvl (by omega) rfl hLp
          have hyN : (16 : Int32).toNatClampNeg = 16 := by decide
          have K110 : Keep h0 h107 [t, a] := (((((((Keep.refl h0 [t, a]).trans K9 all0).wr W14 (Or.inl (List.mem_of_getElem? (i := 0) rfl))).wr W21 (Or.inl (List.mem_of_getElem? (i := 0) rfl))).wr W23 (Or.inr (by omega))).wr W105 (Or.inl (List.mem_of_getElem? (i := 0) rfl))).wr W107 (Or.inr (by omega)))
          have f111 : Exa Z h107 t "com/example/rank_to_reach/ranktoreach/Postings$Writer" := ((f104.wr W105).wr W107)
          have f112 : Fld Z h107 t "com/example/rank_to_reach/ranktoreach/Postings$Writer" "bytes" "[B" (.ref b_9) := ((f100.other W105 (Or.inr (slot_ne (Or.inl (own_w hw 18 rfl)) (Or.inl (own_w hw 27 rfl)) (by decide) (t := (.array .byte)) (t' := .int) (by decide) (by decide)))).other W107 (Or.inl (own_nn (by omega))))
          have f113 : Fld Z h107 t "com/example/rank_to_reach/ranktoreach/Postings$Writer" "last" "I" (.int lst) := ((((((F_last.keep K9 nin0).other W14 (Or.inr (slot_ne (Or.inl (own_w hw 20 rfl)) (Or.inl (own_w hw 18 rfl)) (by decide) (t := .int) (t' := (.array .byte)) (by decide) (by decide)))).other W21 (Or.inr (slot_ne (Or.inl (own_w hw 20 rfl)) (Or.inl (own_w hw 27 rfl)) (by decide) (t := .int) (t' := .int) (by decide) (by decide)))).other W23 (Or.inl (own_nn (by omega)))).other W105 (Or.inr (slot_ne (Or.inl (own_w hw 20 rfl)) (Or.inl (own_w hw 27 rfl)) (by decide) (t := .int) (t' := .int) (by decide) (by decide)))).other W107 (Or.inl (own_nn (by omega))))
          have f114 : Fld Z h107 t "com/example/rank_to_reach/ranktoreach/Postings$Writer" "count" "I" (.int cnt) := ((((((F_count.keep K9 nin0).other W14 (Or.inr (slot_ne (Or.inl (own_w hw 44 rfl)) (Or.inl (own_w hw 18 rfl)) (by decide) (t := .int) (t' := (.array .byte)) (by decide) (by decide)))).other W21 (Or.inr (slot_ne (Or.inl (own_w hw 44 rfl)) (Or.inl (own_w hw 27 rfl)) (by decide) (t := .int) (t' := .int) (by decide) (by decide)))).other W23 (Or.inl (own_nn (by omega)))).other W105 (Or.inr (slot_ne (Or.inl (own_w hw 44 rfl)) (Or.inl (own_w hw 27 rfl)) (by decide) (t := .int) (t' := .int) (by decide) (by decide)))).other W107 (Or.inl (own_nn (by omega))))
          obtain ⟨fs, hr, hrun, hended, hW, hsame⟩ := X107.leave (v := none) (fun _ => rfl)
          refine own_ret (t := T107.setFrames fs) ?_ ⟨_, hrun, hended, _, _, rfl, ?_, ⟨_, rfl⟩, hW, hsame.mono (by decide) (by decide)⟩
          · exact X107.returnOut hx Bd.returns (hb hby d9_96) hr
          · show Q_put1 Z _ _ _ _ _ _ _ _ _ h0 n0 _ T107.heap _
            rw [e107]
            exact ⟨b_9, kb_9, (16 : Int32), ((L0.set (sz.toNatClampNeg + 0) (.int (nar .byte ((((own_r v 0) &&& (127 : Int32)) ||| (128 : Int32)).toInt8.toInt32)))).set (sz.toNatClampNeg + 1) (.int (nar .byte ((own_r v 1).toInt8.toInt32)))), rfl, N107, K110, f111, f112, (by rw [hsz2]; exact f109), f113, f114, V108, ⟨(by omega), Or.inr (by omega)⟩, (Or.inr (Or.inl rfl)), (fun _ => Or.inr rfl), (by rw [hyN, hvl]; omega), hP2.1, hP2.2⟩
      · refine own_icmpYes X14.here hx hby (pc' := 78) d9_42 (flt hc42_16).2.2.2 (by decide) (by decide) ?_
        refine own_aloadN X14.here hx hby d9_78 rfl rfl ?_
        refine own_getF X14 hx hZ hown (host := "") (Or.inl (own_w hw 17 rfl)) Via.refl e14 F14 hby d9_79 ?_
        intro T115 X115 e115
        refine own_aloadN X115.here hx hby d9_82 rfl rfl ?_
        refine own_dup X115.here hx hby d9_83 rfl ?_
        have f116 : Fld Z h14 t "com/example/rank_to_reach/ranktoreach/Postings$Writer" "size" "I" (.int sz) := ((F_size.keep K9 nin0).other W14 (Or.inr (slot_ne (Or.inl (own_w hw 27 rfl)) (Or.inl (own_w hw 18 rfl)) (by decide) (t := .int) (t' := (.array .byte)) (by decide) (by decide))))
        refine own_getF X115 hx hZ hown (host := "") (Or.inl (own_w hw 26 rfl)) Via.refl e115 f116 hby d9_84 ?_
        intro T117 X117 e117
        refine own_dupX1 X117.here hx hby d9_87 rfl rfl ?_
        refine own_iconst X117.here hx hby d9_88 (v := (1 : Int32)) (by decide) ?_
        refine own_iadd X117.here hx hby d9_89 rfl ?_
        have f118 : Exa Z h14 t "com/example/rank_to_reach/ranktoreach/Postings$Writer" := (f12.wr W14)
        refine own_putF X117 hx hZ (ty := .int) hown (host := "") (Or.inl (own_w hw 26 rfl)) Via.refl e117 f116 f118 (Or.inl (own_w hw 27 rfl)) (own_w hw 7 rfl) (by decide) rfl rfl hby d9_90 N14 g_t ?_
        intro T119 h119 lo119 X119 e119 N119 W119 F119 z119
        refine own_iloadN X119.here hx hby d9_93 rfl ?_
        refine own_i2b X119.here hx hby d9_94 rfl ?_
        have f120 : Arv Z h119 b_9 kb_9 .byte (16 : Int32) L0 (.int 0) := (VL.other W119 (own_nn (by omega)))
        refine own_bastore X119 hx hZ e119 f120 (own_inc_in hs0 hs16 0 (by decide) (by have h_ : (16 : Int32).toInt = 16 := (by decide); omega)) (sz.toNatClampNeg + 0) (own_inc_nat hs0 hs16 0 (by decide)) (by first | omega | (simp only [List.length_set]; omega)) rfl hby d9_95 N119 (by omega) ?_
        intro T121 h121 lo121 X121 e121 N121 W121 V121 z121
        have V122 : Arv Z h121 b_9 kb_9 .byte (16 : Int32) (L0.set (sz.toNatClampNeg + 0) (.int (nar .byte ((own_r v 0).toInt8.toInt32)))) (.int 0) := V121
        have hvl : own_vl v = 1 := own_vl1 hc42_16
        have f123 : Fld Z h121 t "com/example/rank_to_reach/ranktoreach/Postings$Writer" "size" "I" (.int (sz + (1 : Int32))) := (F119.other W121 (Or.inl (own_nn (by omega))))
        have hsz2 : sz + own_vI v = own_inc sz 1 := by
          rw [own_inc_vI hvl]
          simp only [own_inc, Int32.add_assoc]
          rfl
        have hP2 := own_post (L' := (L0.set (sz.toNatClampNeg + 0) (.int (nar .byte ((own_r v 0).toInt8.toInt32))))) (i := sz.toNatClampNeg) (k := 0) hvl (by omega) rfl hLp
        have hyN : (16 : Int32).toNatClampNeg = 16 := by decide
        have K124 : Keep h0 h121 [t, a] := (((((Keep.refl h0 [t, a]).trans K9 all0).wr W14 (Or.inl (List.mem_of_getElem? (i := 0) rfl))).wr W119 (Or.inl (List.mem_of_getElem? (i := 0) rfl))).wr W121 (Or.inr (by omega)))
        have f125 : Exa Z h121 t "com/example/rank_to_reach/ranktoreach/Postings$Writer" := ((f118.wr W119).wr W121)
        have f126 : Fld Z h121 t "com/example/rank_to_reach/ranktoreach/Postings$Writer" "bytes" "[B" (.ref b_9) := ((F14.other W119 (Or.inr (slot_ne (Or.inl (own_w hw 18 rfl)) (Or.inl (own_w hw 27 rfl)) (by decide) (t := (.array .byte)) (t' := .int) (by decide) (by decide)))).other W121 (Or.inl (own_nn (by omega))))
        have f127 : Fld Z h121 t "com/example/rank_to_reach/ranktoreach/Postings$Writer" "last" "I" (.int lst) := ((((F_last.keep K9 nin0).other W14 (Or.inr (slot_ne (Or.inl (own_w hw 20 rfl)) (Or.inl (own_w hw 18 rfl)) (by decide) (t := .int) (t' := (.array .byte)) (by decide) (by decide)))).other W119 (Or.inr (slot_ne (Or.inl (own_w hw 20 rfl)) (Or.inl (own_w hw 27 rfl)) (by decide) (t := .int) (t' := .int) (by decide) (by decide)))).other W121 (Or.inl (own_nn (by omega))))
        have f128 : Fld Z h121 t "com/example/rank_to_reach/ranktoreach/Postings$Writer" "count" "I" (.int cnt) := ((((F_count.keep K9 nin0).other W14 (Or.inr (slot_ne (Or.inl (own_w hw 44 rfl)) (Or.inl (own_w hw 18 rfl)) (by decide) (t := .int) (t' := (.array .byte)) (by decide) (by decide)))).other W119 (Or.inr (slot_ne (Or.inl (own_w hw 44 rfl)) (Or.inl (own_w hw 27 rfl)) (by decide) (t := .int) (t' := .int) (by decide) (by decide)))).other W121 (Or.inl (own_nn (by omega))))
        obtain ⟨fs, hr, hrun, hended, hW, hsame⟩ := X121.leave (v := none) (fun _ => rfl)
        refine own_ret (t := T121.setFrames fs) ?_ ⟨_, hrun, hended, _, _, rfl, ?_, ⟨_, rfl⟩, hW, hsame.mono (by decide) (by decide)⟩
        · exact X121.returnOut hx Bd.returns (hb hby d9_96) hr
        · show Q_put1 Z _ _ _ _ _ _ _ _ _ h0 n0 _ T121.heap _
          rw [e121]
          exact ⟨b_9, kb_9, (16 : Int32), (L0.set (sz.toNatClampNeg + 0) (.int (nar .byte ((own_r v 0).toInt8.toInt32)))), rfl, N121, K124, f125, f126, (by rw [hsz2]; exact f123), f127, f128, V122, ⟨(by omega), Or.inr (by omega)⟩, (Or.inr (Or.inl rfl)), (fun _ => Or.inr rfl), (by rw [hyN, hvl]; omega), hP2.1, hP2.2⟩
    · refine own_icmpYes X4.here hx hby (pc' := 37) d9_11 (flt hc11_5).2.2.2 (by decide) (by decide) ?_
      have hroom : sz.toInt + 5 ≤ 8 := by
        have q := Int32.lt_iff_toInt_lt (x := (8 : Int32)) (y := (sz + (5 : Int32)))
        have a : (8 : Int32).toInt = 8 := by decide
        rw [a, h5] at q
        first | omega | (have h_ : ¬ (8 < sz.toInt + 5) := fun r => hc11_5 (q.mpr r); omega)
      obtain ⟨L0, VL, hLl, hLp⟩ : ∃ L0 : List Value, Arv Z h0 a ka .byte (8 : Int32) L0 (.int 0) ∧ 8 ≤ L0.length ∧ ∀ j, j < sz.toNatClampNeg → L0.getD j (.int 0) = vs.getD j (.int 0) := ⟨vs ++ List.replicate 8 (.int 0), V_a.pad (pad_rep vs (.int 0) 8), by rw [List.length_append, List.length_replicate]; omega, fun j hj => by
        have := own_clamp hs0
        rw [pad_rep]⟩
      have hcl := own_clamp hs0
      refine own_iloadN X4.here hx hby d9_37 rfl ?_
      refine own_istoreN X4.here hx hby d9_38 (l' := #[.val (.ref t), .val (.int v), .val (.int v)]) rfl ?_
      refine own_sh (T := T4) 39 #[.val (.ref t), .val (.int v), .val (.int (own_r v 0))] [] ?_
      refine own_iloadN X4.here hx hby d9_39 rfl ?_
      refine own_bipush X4.here hx hby d9_40 (v := (127 : Int32)) (by decide) ?_
      by_cases hc42_129 : (127 : Int32) < (own_r v 0)
      · refine own_icmpNo X4.here hx hby d9_42 (tlt hc42_129).2.2.2 ?_
        refine own_aloadN X4.here hx hby d9_45 rfl rfl ?_
        refine own_getF X4 hx hZ hown (host := "") (Or.inl (own_w hw 17 rfl)) Via.refl e4 F_bytes hby d9_46 ?_
        intro T130 X130 e130
        refine own_aloadN X130.here hx hby d9_49 rfl rfl ?_
        refine own_dup X130.here hx hby d9_50 rfl ?_
        refine own_getF X130 hx hZ hown (host := "") (Or.inl (own_w hw 26 rfl)) Via.refl e130 F_size hby d9_51 ?_
        intro T131 X131 e131
        refine own_dupX1 X131.here hx hby d9_54 rfl rfl ?_
        refine own_iconst X131.here hx hby d9_55 (v := (1 : Int32)) (by decide) ?_
        refine own_iadd X131.here hx hby d9_56 rfl ?_
        refine own_putF X131 hx hZ (ty := .int) hown (host := "") (Or.inl (own_w hw 26 rfl)) Via.refl e131 F_size E_t (Or.inl (own_w hw 27 rfl)) (own_w hw 7 rfl) (by decide) rfl rfl hby d9_57 N0 g_t ?_
        intro T132 h132 lo132 X132 e132 N132 W132 F132 z132
        refine own_iloadN X132.here hx hby d9_60 rfl ?_
        refine own_bipush X132.here hx hby d9_61 (v := (127 : Int32)) (by decide) ?_
        refine own_iand X132.here hx hby d9_63 rfl ?_
        refine own_sipush X132.here hx hby d9_64 (v := (128 : Int32)) (by decide) ?_
        refine own_ior X132.here hx hby d9_67 rfl ?_
        refine own_i2b X132.here hx hby d9_68 rfl ?_
        have f133 : Arv Z h132 a ka .byte (8 : Int32) L0 (.int 0) := (VL.other W132 (Ne.symm (own_ne_oa E_t (own_w hw 7 rfl) V_a)))
        refine own_bastore X132 hx hZ e132 f133 (own_inc_in hs0 hs16 0 (by decide) (by have h_ : (8 : Int32).toInt = 8 := (by decide); omega)) (sz.toNatClampNeg + 0) (own_inc_nat hs0 hs16 0 (by decide)) (by first | omega | (simp only [List.length_set]; omega)) rfl hby d9_69 N132 g_a ?_
        intro T134 h134 lo134 X134 e134 N134 W134 V134 z134
        have V135 : Arv Z h134 a ka .byte (8 : Int32) (L0.set (sz.toNatClampNeg + 0) (.int (nar .byte ((((own_r v 0) &&& (127 : Int32)) ||| (128 : Int32)).toInt8.toInt32)))) (.int 0) := V134
        refine own_iloadN X134.here hx hby d9_70 rfl ?_
        refine own_bipush X134.here hx hby d9_71 (v := (7 : Int32)) (by decide) ?_
        refine own_iushr X134.here hx hby d9_73 rfl ?_
        refine own_istoreN X134.here hx hby d9_74 (l' := #[.val (.ref t), .val (.int v), .val (.int (((own_r v 0).toUInt32 >>> ((7 : Int32) &&& 31).toUInt32).toInt32))]) rfl ?_
        refine own_goto X134.here hx hby (pc' := 39) d9_75 (by decide) (by decide) ?_
        refine own_sh (T := T134) 39 #[.val (.ref t), .val (.int v), .val (.int (own_r v 1))] [] ?_
        refine own_iloadN X134.here hx hby d9_39 rfl ?_
        refine own_bipush X134.here hx hby d9_40 (v := (127 : Int32)) (by decide) ?_
        by_cases hc42_136 : (127 : Int32) < (own_r v 1)
        · refine own_icmpNo X134.here hx hby d9_42 (tlt hc42_136).2.2.2 ?_
          refine own_aloadN X134.here hx hby d9_45 rfl rfl ?_
          have f137 : Fld Z h134 t "com/example/rank_to_reach/ranktoreach/Postings$Writer" "bytes" "[B" (.ref a) := ((F_bytes.other W132 (Or.inr (slot_ne (Or.inl (own_w hw 18 rfl)) (Or.inl (own_w hw 27 rfl)) (by decide) (t := (.array .byte)) (t' := .int) (by decide) (by decide)))).other W134 (Or.inl (own_ne_oa E_t (own_w hw 7 rfl) V_a)))
          refine own_getF X134 hx hZ hown (host := "") (Or.inl (own_w hw 17 rfl)) Via.refl e134 f137 hby d9_46 ?_
          intro T138 X138 e138
          refine own_aloadN X138.here hx hby d9_49 rfl rfl ?_
          refine own_dup X138.here hx hby d9_50 rfl ?_
          have f139 : Fld Z h134 t "com/example/rank_to_reach/ranktoreach/Postings$Writer" "size" "I" (.int (sz + (1 : Int32))) := (F132.other W134 (Or.inl (own_ne_oa E_t (own_w hw 7 rfl) V_a)))
          refine own_getF X138 hx hZ hown (host := "") (Or.inl (own_w hw 26 rfl)) Via.refl e138 f139 hby d9_51 ?_
          intro T140 X140 e140
          refine own_dupX1 X140.here hx hby d9_54 rfl rfl ?_
          refine own_iconst X140.here hx hby d9_55 (v := (1 : Int32)) (by decide) ?_
          refine own_iadd X140.here hx hby d9_56 rfl ?_
          have f141 : Exa Z h134 t "com/example/rank_to_reach/ranktoreach/Postings$Writer" := ((E_t.wr W132).wr W134)
          refine own_putF X140 hx hZ (ty := .int) hown (host := "") (Or.inl (own_w hw 26 rfl)) Via.refl e140 f139 f141 (Or.inl (own_w hw 27 rfl)) (own_w hw 7 rfl) (by decide) rfl rfl hby d9_57 N134 g_t ?_
          intro T142 h142 lo142 X142 e142 N142 W142 F142 z142
          refine own_iloadN X142.here hx hby d9_60 rfl ?_
          refine own_bipush X142.here hx hby d9_61 (v := (127 : Int32)) (by decide) ?_
          refine own_iand X142.here hx hby d9_63 rfl ?_
          refine own_sipush X142.here hx hby d9_64 (v := (128 : Int32)) (by decide) ?_
          refine own_ior X142.here hx hby d9_67 rfl ?_
          refine own_i2b X142.here hx hby d9_68 rfl ?_
          have f143 : Arv Z h142 a ka .byte (8 : Int32) (L0.set (sz.toNatClampNeg + 0) (.int (nar .byte ((((own_r v 0) &&& (127 : Int32)) ||| (128 : Int32)).toInt8.toInt32)))) (.int 0) := (V135.other W142 (Ne.symm (own_ne_oa E_t (own_w hw 7 rfl) V_a)))
          refine own_bastore X142 hx hZ e142 f143 (own_inc_in hs0 hs16 1 (by decide) (by have h_ : (8 : Int32).toInt = 8 := (by decide); omega)) (sz.toNatClampNeg + 1) (own_inc_nat hs0 hs16 1 (by decide)) (by first | omega | (simp only [List.length_set]; omega)) rfl hby d9_69 N142 g_a ?_
          intro T144 h144 lo144 X144 e144 N144 W144 V144 z144
          have V145 : Arv Z h144 a ka .byte (8 : Int32) ((L0.set (sz.toNatClampNeg + 0) (.int (nar .byte ((((own_r v 0) &&& (127 : Int32)) ||| (128 : Int32)).toInt8.toInt32)))).set (sz.toNatClampNeg + 1) (.int (nar .byte ((((own_r v 1) &&& (127 : Int32)) ||| (128 : Int32)).toInt8.toInt32)))) (.int 0) := V144
          refine own_iloadN X144.here hx hby d9_70 rfl ?_
          refine own_bipush X144.here hx hby d9_71 (v := (7 : Int32)) (by decide) ?_
          refine own_iushr X144.here hx hby d9_73 rfl ?_
          refine own_istoreN X144.here hx hby d9_74 (l' := #[.val (.ref t), .val (.int v), .val (.int (((own_r v 1).toUInt32 >>> ((7 : Int32) &&& 31).toUInt32).toInt32))]) rfl ?_
          refine own_goto X144.here hx hby (pc' := 39) d9_75 (by decide) (by decide) ?_
          refine own_sh (T := T144) 39 #[.val (.ref t), .val (.int v), .val (.int (own_r v 2))] [] ?_
          refine own_iloadN X144.here hx hby d9_39 rfl ?_
          refine own_bipush X144.here hx hby d9_40 (v := (127 : Int32)) (by decide) ?_
          by_cases hc42_146 : (127 : Int32) < (own_r v 2)
          · refine own_icmpNo X144.here hx hby d9_42 (tlt hc42_146).2.2.2 ?_
            refine own_aloadN X144.here hx hby d9_45 rfl rfl ?_
            have f147 : Fld Z h144 t "com/example/rank_to_reach/ranktoreach/Postings$Writer" "bytes" "[B" (.ref a) := ((f137.other W142 (Or.inr (slot_ne (Or.inl (own_w hw 18 rfl)) (Or.inl (own_w hw 27 rfl)) (by decide) (t := (.array .byte)) (t' := .int) (by decide) (by decide)))).other W144 (Or.inl (own_ne_oa E_t (own_w hw 7 rfl) V_a)))
            refine own_getF X144 hx hZ hown (host := "") (Or.inl (own_w hw 17 rfl)) Via.refl e144 f147 hby d9_46 ?_
            intro T148 X148 e148
            refine own_aloadN X148.here hx hby d9_49 rfl rfl ?_
            refine own_dup X148.here hx hby d9_50 rfl ?_
            have f149 : Fld Z h144 t "com/example/rank_to_reach/ranktoreach/Postings$Writer" "size" "I" (.int ((sz + (1 : Int32)) + (1 : Int32))) := (F142.other W144 (Or.inl (own_ne_oa E_t (own_w hw 7 rfl) V_a)))
            refine own_getF X148 hx hZ hown (host := "") (Or.inl (own_w hw 26 rfl)) Via.refl e148 f149 hby d9_51 ?_
            intro T150 X150 e150
            refine own_dupX1 X150.here hx hby d9_54 rfl rfl ?_
            refine own_iconst X150.here hx hby d9_55 (v := (1 : Int32)) (by decide) ?_
            refine own_iadd X150.here hx hby d9_56 rfl ?_
            have f151 : Exa Z h144 t "com/example/rank_to_reach/ranktoreach/Postings$Writer" := ((f141.wr W142).wr W144)
            refine own_putF X150 hx hZ (ty := .int) hown (host := "") (Or.inl (own_w hw 26 rfl)) Via.refl e150 f149 f151 (Or.inl (own_w hw 27 rfl)) (own_w hw 7 rfl) (by decide) rfl rfl hby d9_57 N144 g_t ?_
            intro T152 h152 lo152 X152 e152 N152 W152 F152 z152
            refine own_iloadN X152.here hx hby d9_60 rfl ?_
            refine own_bipush X152.here hx hby d9_61 (v := (127 : Int32)) (by decide) ?_
            refine own_iand X152.here hx hby d9_63 rfl ?_
            refine own_sipush X152.here hx hby d9_64 (v := (128 : Int32)) (by decide) ?_
            refine own_ior X152.here hx hby d9_67 rfl ?_
            refine own_i2b X152.here hx hby d9_68 rfl ?_
            have f153 : Arv Z h152 a ka .byte (8 : Int32) ((L0.set (sz.toNatClampNeg + 0) (.int (nar .byte ((((own_r v 0) &&& (127 : Int32)) ||| (128 : Int32)).toInt8.toInt32)))).set (sz.toNatClampNeg + 1) (.int (nar .byte ((((own_r v 1) &&& (127 : Int32)) ||| (128 : Int32)).toInt8.toInt32)))) (.int 0) := (V145.other W152 (Ne.symm (own_ne_oa E_t (own_w hw 7 rfl) V_a)))
            refine own_bastore X152 hx hZ e152 f153 (own_inc_in hs0 hs16 2 (by decide) (by have h_ : (8 : Int32).toInt = 8 := (by decide); omega)) (sz.toNatClampNeg + 2) (own_inc_nat hs0 hs16 2 (by decide)) (by first | omega | (simp only [List.length_set]; omega)) rfl hby d9_69 N152 g_a ?_
            intro T154 h154 lo154 X154 e154 N154 W154 V154 z154
            have V155 : Arv Z h154 a ka .byte (8 : Int32) (((L0.set (sz.toNatClampNeg + 0) (.int (nar .byte ((((own_r v 0) &&& (127 : Int32)) ||| (128 : Int32)).toInt8.toInt32)))).set (sz.toNatClampNeg + 1) (.int (nar .byte ((((own_r v 1) &&& (127 : Int32)) ||| (128 : Int32)).toInt8.toInt32)))).set (sz.toNatClampNeg + 2) (.int (nar .byte ((((own_r v 2) &&& (127 : Int32)) ||| (128 : Int32)).toInt8.toInt32)))) (.int 0) := V154
            refine own_iloadN X154.here hx hby d9_70 rfl ?_
            refine own_bipush X154.here hx hby d9_71 (v := (7 : Int32)) (by decide) ?_
            refine own_iushr X154.here hx hby d9_73 rfl ?_
            refine own_istoreN X154.here hx hby d9_74 (l' := #[.val (.ref t), .val (.int v), .val (.int (((own_r v 2).toUInt32 >>> ((7 : Int32) &&& 31).toUInt32).toInt32))]) rfl ?_
            refine own_goto X154.here hx hby (pc' := 39) d9_75 (by decide) (by decide) ?_
            refine own_sh (T := T154) 39 #[.val (.ref t), .val (.int v), .val (.int (own_r v 3))] [] ?_
            refine own_iloadN X154.here hx hby d9_39 rfl ?_
            refine own_bipush X154.here hx hby d9_40 (v := (127 : Int32)) (by decide) ?_
            by_cases hc42_156 : (127 : Int32) < (own_r v 3)
            · refine own_icmpNo X154.here hx hby d9_42 (tlt hc42_156).2.2.2 ?_
              refine own_aloadN X154.here hx hby d9_45 rfl rfl ?_
              have f157 : Fld Z h154 t "com/example/rank_to_reach/ranktoreach/Postings$Writer" "bytes" "[B" (.ref a) := ((f147.other W152 (Or.inr (slot_ne (Or.inl (own_w hw 18 rfl)) (Or.inl (own_w hw 27 rfl)) (by decide) (t := (.array .byte)) (t' := .int) (by decide) (by decide)))).other W154 (Or.inl (own_ne_oa E_t (own_w hw 7 rfl) V_a)))
              refine own_getF X154 hx hZ hown (host := "") (Or.inl (own_w hw 17 rfl)) Via.refl e154 f157 hby d9_46 ?_
              intro T158 X158 e158
              refine own_aloadN X158.here hx hby d9_49 rfl rfl ?_
              refine own_dup X158.here hx hby d9_50 rfl ?_
              have f159 : Fld Z h154 t "com/example/rank_to_reach/ranktoreach/Postings$Writer" "size" "I" (.int (((sz + (1 : Int32)) + (1 : Int32)) + (1 : Int32))) := (F152.other W154 (Or.inl (own_ne_oa E_t (own_w hw 7 rfl) V_a)))
              refine own_getF X158 hx hZ hown (host := "") (Or.inl (own_w hw 26 rfl)) Via.refl e158 f159 hby d9_51 ?_
              intro T160 X160 e160
              refine own_dupX1 X160.here hx hby d9_54 rfl rfl ?_
              refine own_iconst X160.here hx hby d9_55 (v := (1 : Int32)) (by decide) ?_
              refine own_iadd X160.here hx hby d9_56 rfl ?_
              have f161 : Exa Z h154 t "com/example/rank_to_reach/ranktoreach/Postings$Writer" := ((f151.wr W152).wr W154)
              refine own_putF X160 hx hZ (ty := .int) hown (host := "") (Or.inl (own_w hw 26 rfl)) Via.refl e160 f159 f161 (Or.inl (own_w hw 27 rfl)) (own_w hw 7 rfl) (by decide) rfl rfl hby d9_57 N154 g_t ?_
              intro T162 h162 lo162 X162 e162 N162 W162 F162 z162
              refine own_iloadN X162.here hx hby d9_60 rfl ?_
              refine own_bipush X162.here hx hby d9_61 (v := (127 : Int32)) (by decide) ?_
              refine own_iand X162.here hx hby d9_63 rfl ?_
              refine own_sipush X162.here hx hby d9_64 (v := (128 : Int32)) (by decide) ?_
              refine own_ior X162.here hx hby d9_67 rfl ?_
              refine own_i2b X162.here hx hby d9_68 rfl ?_
              have f163 : Arv Z h162 a ka .byte (8 : Int32) (((L0.set (sz.toNatClampNeg + 0) (.int (nar .byte ((((own_r v 0) &&& (127 : Int32)) ||| (128 : Int32)).toInt8.toInt32)))).set (sz.toNatClampNeg + 1) (.int (nar .byte ((((own_r v 1) &&& (127 : Int32)) ||| (128 : Int32)).toInt8.toInt32)))).set (sz.toNatClampNeg + 2) (.int (nar .byte ((((own_r v 2) &&& (127 : Int32)) ||| (128 : Int32)).toInt8.toInt32)))) (.int 0) := (V155.other W162 (Ne.symm (own_ne_oa E_t (own_w hw 7 rfl) V_a)))
              refine own_bastore X162 hx hZ e162 f163 (own_inc_in hs0 hs16 3 (by decide) (by have h_ : (8 : Int32).toInt = 8 := (by decide); omega)) (sz.toNatClampNeg + 3) (own_inc_nat hs0 hs16 3 (by decide)) (by first | omega | (simp only [List.length_set]; omega)) rfl hby d9_69 N162 g_a ?_
              intro T164 h164 lo164 X164 e164 N164 W164 V164 z164
              have V165 : Arv Z h164 a ka .byte (8 : Int32) ((((L0.set (sz.toNatClampNeg + 0) (.int (nar .byte ((((own_r v 0) &&& (127 : Int32)) ||| (128 : Int32)).toInt8.toInt32)))).set (sz.toNatClampNeg + 1) (.int (nar .byte ((((own_r v 1) &&& (127 : Int32)) ||| (128 : Int32)).toInt8.toInt32)))).set (sz.toNatClampNeg + 2) (.int (nar .byte ((((own_r v 2) &&& (127 : Int32)) ||| (128 : Int32)).toInt8.toInt32)))).set (sz.toNatClampNeg + 3) (.int (nar .byte ((((own_r v 3) &&& (127 : Int32)) ||| (128 : Int32)).toInt8.toInt32)))) (.int 0) := V164
              refine own_iloadN X164.here hx hby d9_70 rfl ?_
              refine own_bipush X164.here hx hby d9_71 (v := (7 : Int32)) (by decide) ?_
              refine own_iushr X164.here hx hby d9_73 rfl ?_
              refine own_istoreN X164.here hx hby d9_74 (l' := #[.val (.ref t), .val (.int v), .val (.int (((own_r v 3).toUInt32 >>> ((7 : Int32) &&& 31).toUInt32).toInt32))]) rfl ?_
              refine own_goto X164.here hx hby (pc' := 39) d9_75 (by decide) (by decide) ?_
              refine own_sh (T := T164) 39 #[.val (.ref t), .val (.int v), .val (.int (own_r v 4))] [] ?_
              refine own_iloadN X164.here hx hby d9_39 rfl ?_
              refine own_bipush X164.here hx hby d9_40 (v := (127 : Int32)) (by decide) ?_
              refine own_icmpYes X164.here hx hby (pc' := 78) d9_42 (flt (show ¬ ((127 : Int32) < (own_r v 4)) from (own_r4 v hv))).2.2.2 (by decide) (by decide) ?_
              refine own_aloadN X164.here hx hby d9_78 rfl rfl ?_
              have f166 : Fld Z h164 t "com/example/rank_to_reach/ranktoreach/Postings$Writer" "bytes" "[B" (.ref a) := ((f157.other W162 (Or.inr (slot_ne (Or.inl (own_w hw 18 rfl)) (Or.inl (own_w hw 27 rfl)) (by decide) (t := (.array .byte)) (t' := .int) (by decide) (by decide)))).other W164 (Or.inl (own_ne_oa E_t (own_w hw 7 rfl) V_a)))
              refine own_getF X164 hx hZ hown (host := "") (Or.inl (own_w hw 17 rfl)) Via.refl e164 f166 hby d9_79 ?_
              intro T167 X167 e167
              refine own_aloadN X167.here hx hby d9_82 rfl rfl ?_
              refine own_dup X167.here hx hby d9_83 rfl ?_
              have f168 : Fld Z h164 t "com/example/rank_to_reach/ranktoreach/Postings$Writer" "size" "I" (.int ((((sz + (1 : Int32)) + (1 : Int32)) + (1 : Int32)) + (1 : Int32))) := (F162.other W164 (Or.inl (own_ne_oa E_t (own_w hw 7 rfl) V_a)))
              refine own_getF X167 hx hZ hown (host := "") (Or.inl (own_w hw 26 rfl)) Via.refl e167 f168 hby d9_84 ?_
              intro T169 X169 e169
              refine own_dupX1 X169.here hx hby d9_87 rfl rfl ?_
              refine own_iconst X169.here hx hby d9_88 (v := (1 : Int32)) (by decide) ?_
              refine own_iadd X169.here hx hby d9_89 rfl ?_
              have f170 : Exa Z h164 t "com/example/rank_to_reach/ranktoreach/Postings$Writer" := ((f161.wr W162).wr W164)
              refine own_putF X169 hx hZ (ty := .int) hown (host := "") (Or.inl (own_w hw 26 rfl)) Via.refl e169 f168 f170 (Or.inl (own_w hw 27 rfl)) (own_w hw 7 rfl) (by decide) rfl rfl hby d9_90 N164 g_t ?_
              intro T171 h171 lo171 X171 e171 N171 W171 F171 z171
              refine own_iloadN X171.here hx hby d9_93 rfl ?_
              refine own_i2b X171.here hx hby d9_94 rfl ?_
              have f172 : Arv Z h171 a ka .byte (8 : Int32) ((((L0.set (sz.toNatClampNeg + 0) (.int (nar .byte ((((own_r v 0) &&& (127 : Int32)) ||| (128 : Int32)).toInt8.toInt32)))).set (sz.toNatClampNeg + 1) (.int (nar .byte ((((own_r v 1) &&& (127 : Int32)) ||| (128 : Int32)).toInt8.toInt32)))).set (sz.toNatClampNeg + 2) (.int (nar .byte ((((own_r v 2) &&& (127 : Int32)) ||| (128 : Int32)).toInt8.toInt32)))).set (sz.toNatClampNeg + 3) (.int (nar .byte ((((own_r v 3) &&& (127 : Int32)) ||| (128 : Int32)).toInt8.toInt32)))) (.int 0) := (V165.other W171 (Ne.symm (own_ne_oa E_t (own_w hw 7 rfl) V_a)))
              refine own_bastore X171 hx hZ e171 f172 (own_inc_in hs0 hs16 4 (by decide) (by have h_ : (8 : Int32).toInt = 8 := (by decide); omega)) (sz.toNatClampNeg + 4) (own_inc_nat hs0 hs16 4 (by decide)) (by first | omega | (simp only [List.length_set]; omega)) rfl hby d9_95 N171 g_a ?_
              intro T173 h173 lo173 X173 e173 N173 W173 V173 z173
              have V174 : Arv Z h173 a ka .byte (8 : Int32) (((((L0.set (sz.toNatClampNeg + 0) (.int (nar .byte ((((own_r v 0) &&& (127 : Int32)) ||| (128 : Int32)).toInt8.toInt32)))).set (sz.toNatClampNeg + 1) (.int (nar .byte ((((own_r v 1) &&& (127 : Int32)) ||| (128 : Int32)).toInt8.toInt32)))).set (sz.toNatClampNeg + 2) (.int (nar .byte ((((own_r v 2) &&& (127 : Int32)) ||| (128 : Int32)).toInt8.toInt32)))).set (sz.toNatClampNeg + 3) (.int (nar .byte ((((own_r v 3) &&& (127 : Int32)) ||| (128 : Int32)).toInt8.toInt32)))).set (sz.toNatClampNeg + 4) (.int (nar .byte ((own_r v 4).toInt8.toInt32)))) (.int 0) := V173
              have hvl : own_vl v = 5 := own_vl5 hc42_129 hc42_136 hc42_146 hc42_156
              have f175 : Fld Z h173 t "com/example/rank_to_reach/ranktoreach/Postings$Writer" "size" "I" (.int (((((sz + (1 : Int32)) + (1 : Int32)) + (1 : Int32)) + (1 : Int32)) + (1 : Int32))) := (F171.other W173 (Or.inl (own_ne_oa E_t (own_w hw 7 rfl) V_a)))
              have hsz2 : sz + own_vI v = own_inc sz 5 := by
                rw [own_inc_vI hvl]
                simp only [own_inc, Int32.add_assoc]
                rfl
              have hP2 := own_post (L' := (((((L0.set (sz.toNatClampNeg + 0) (.int (nar .byte ((((own_r v 0) &&& (127 : Int32)) ||| (128 : Int32)).toInt8.toInt32)))).set (sz.toNatClampNeg + 1) (.int (nar .byte ((((own_r v 1) &&& (127 : Int32)) ||| (128 : Int32)).toInt8.toInt32)))).set (sz.toNatClampNeg + 2) (.int (nar .byte ((((own_r v 2) &&& (127 : Int32)) ||| (128 : Int32)).toInt8.toInt32)))).set (sz.toNatClampNeg + 3) (.int (nar .byte ((((own_r v 3) &&& (127 : Int32)) ||| (128 : Int32)).toInt8.toInt32)))).set (sz.toNatClampNeg + 4) (.int (nar .byte ((own_r v 4).toInt8.toInt32))))) (i := sz.toNatClampNeg) (k := 4) hvl (by omega) rfl hLp
              have hyN : (8 : Int32).toNatClampNeg = 8 := by decide
              have K176 : Keep h0 h173 [t, a] := (((((((((((Keep.refl h0 [t, a]).wr W132 (Or.inl (List.mem_of_getElem? (i := 0) rfl))).wr W134 (Or.inl (List.mem_of_getElem? (i := 1) rfl))).wr W142 (Or.inl (List.mem_of_getElem? (i := 0) rfl))).wr W144 (Or.inl (List.mem_of_getElem? (i := 1) rfl))).wr W152 (Or.inl (List.mem_of_getElem? (i := 0) rfl))).wr W154 (Or.inl (List.mem_of_getElem? (i := 1) rfl))).wr W162 (Or.inl (List.mem_of_getElem? (i := 0) rfl))).wr W164 (Or.inl (List.mem_of_getElem? (i := 1) rfl))).wr W171 (Or.inl (List.mem_of_getElem? (i := 0) rfl))).wr W173 (Or.inl (List.mem_of_getElem? (i := 1) rfl)))
              have f177 : Exa Z h173 t "com/example/rank_to_reach/ranktoreach/Postings$Writer" := ((f170.wr W171).wr W173)
              have f178 : Fld Z h173 t "com/example/rank_to_reach/ranktoreach/Postings$Writer" "bytes" "[B" (.ref a) := ((f166.other W171 (Or.inr (slot_ne (Or.inl (own_w hw 18 rfl)) (Or.inl (own_w hw 27 rfl)) (by decide) (t := (.array .byte)) (t' := .int) (by decide) (by decide)))).other W173 (Or.inl (own_ne_oa E_t (own_w hw 7 rfl) V_a)))
              have f179 : Fld Z h173 t "com/example/rank_to_reach/ranktoreach/Postings$Writer" "last" "I" (.int lst) := ((((((((((F_last.other W132 (Or.inr (slot_ne (Or.inl (own_w hw 20 rfl)) (Or.inl (own_w hw 27 rfl)) (by decide) (t := .int) (t' := .int) (by decide) (by decide)))).other W134 (Or.inl (own_ne_oa E_t (own_w hw 7 rfl) V_a))).other W142 (Or.inr (slot_ne (Or.inl (own_w hw 20 rfl)) (Or.inl (own_w hw 27 rfl)) (by decide) (t := .int) (t' := .int) (by decide) (by decide)))).other W144 (Or.inl (own_ne_oa E_t (own_w hw 7 rfl) V_a))).other W152 (Or.inr (slot_ne (Or.inl (own_w hw 20 rfl)) (Or.inl (own_w hw 27 rfl)) (by decide) (t := .int) (t' := .int) (by decide) (by decide)))).other W154 (Or.inl (own_ne_oa E_t (own_w hw 7 rfl) V_a))).other W162 (Or.inr (slot_ne (Or.inl (own_w hw 20 rfl)) (Or.inl (own_w hw 27 rfl)) (by decide) (t := .int) (t' := .int) (by decide) (by decide)))).other W164 (Or.inl (own_ne_oa E_t (own_w hw 7 rfl) V_a))).other W171 (Or.inr (slot_ne (Or.inl (own_w hw 20 rfl)) (Or.inl (own_w hw 27 rfl)) (by decide) (t := .int) (t' := .int) (by decide) (by decide)))).other W173 (Or.inl (own_ne_oa E_t (own_w hw 7 rfl) V_a)))
              have f180 : Fld Z h173 t "com/example/rank_to_reach/ranktoreach/Postings$Writer" "count" "I" (.int cnt) := ((((((((((F_count.other W132 (Or.inr (slot_ne (Or.inl (own_w hw 44 rfl)) (Or.inl (own_w hw 27 rfl)) (by decide) (t := .int) (t' := .int) (by decide) (by decide)))).other W134 (Or.inl (own_ne_oa E_t (own_w hw 7 rfl) V_a))).other W142 (Or.inr (slot_ne (Or.inl (own_w hw 44 rfl)) (Or.inl (own_w hw 27 rfl)) (by decide) (t := .int) (t' := .int) (by decide) (by decide)))).other W144 (Or.inl (own_ne_oa E_t (own_w hw 7 rfl) V_a))).other W152 (Or.inr (slot_ne (Or.inl (own_w hw 44 rfl)) (Or.inl (own_w hw 27 rfl)) (by decide) (t := .int) (t' := .int) (by decide) (by decide)))).other W154 (Or.inl (own_ne_oa E_t (own_w hw 7 rfl) V_a))).other W162 (Or.inr (slot_ne (Or.inl (own_w hw 44 rfl)) (Or.inl (own_w hw 27 rfl)) (by decide) (t := .int) (t' := .int) (by decide) (by decide)))).other W164 (Or.inl (own_ne_oa E_t (own_w hw 7 rfl) V_a))).other W171 (Or.inr (slot_ne (Or.inl (own_w hw 44 rfl)) (Or.inl (own_w hw 27 rfl)) (by decide) (t := .int) (t' := .int) (by decide) (by decide)))).other W173 (Or.inl (own_ne_oa E_t (own_w hw 7 rfl) V_a)))
              obtain ⟨fs, hr, hrun, hended, hW, hsame⟩ := X173.leave (v := none) (fun _ => rfl)
              refine own_ret (t := T173.setFrames fs) ?_ ⟨_, hrun, hended, _, _, rfl, ?_, ⟨_, rfl⟩, hW, hsame.mono (by decide) (by decide)⟩
              · exact X173.returnOut hx Bd.returns (hb hby d9_96) hr
              · show Q_put1 Z _ _ _ _ _ _ _ _ _ h0 n0 _ T173.heap _
                rw [e173]
                exact ⟨a, ka, (8 : Int32), (((((L0.set (sz.toNatClampNeg + 0) (.int (nar .byte ((((own_r v 0) &&& (127 : Int32)) ||| (128 : Int32)).toInt8.toInt32)))).set (sz.toNatClampNeg + 1) (.int (nar .byte ((((own_r v 1) &&& (127 : Int32)) ||| (128 : Int32)).toInt8.toInt32)))).set (sz.toNatClampNeg + 2) (.int (nar .byte ((((own_r v 2) &&& (127 : Int32)) ||| (128 : Int32)).toInt8.toInt32)))).set (sz.toNatClampNeg + 3) (.int (nar .byte ((((own_r v 3) &&& (127 : Int32)) ||| (128 : Int32)).toInt8.toInt32)))).set (sz.toNatClampNeg + 4) (.int (nar .byte ((own_r v 4).toInt8.toInt32)))), rfl, N173, K176, f177, f178, (by rw [hsz2]; exact f175), f179, f180, V174, ⟨g_a, Or.inl rfl⟩, (Or.inl rfl), (fun _ => Or.inl rfl), (by rw [hyN, hvl]; omega), hP2.1, hP2.2⟩
            · refine own_icmpYes X154.here hx hby (pc' := 78) d9_42 (flt hc42_156).2.2.2 (by decide) (by decide) ?_
              refine own_aloadN X154.here hx hby d9_78 rfl rfl ?_
              have f181 : Fld Z h154 t "com/example/rank_to_reach/ranktoreach/Postings$Writer" "bytes" "[B" (.ref a) := ((f147.other W152 (Or.inr (slot_ne (Or.inl (own_w hw 18 rfl)) (Or.inl (own_w hw 27 rfl)) (by decide) (t := (.array .byte)) (t' := .int) (by decide) (by decide)))).other W154 (Or.inl (own_ne_oa E_t (own_w hw 7 rfl) V_a)))
              refine own_getF X154 hx hZ hown (host := "") (Or.inl (own_w hw 17 rfl)) Via.refl e154 f181 hby d9_79 ?_
              intro T182 X182 e182
              refine own_aloadN X182.here hx hby d9_82 rfl rfl ?_
              refine own_dup X182.here hx hby d9_83 rfl ?_
              have f183 : Fld Z h154 t "com/example/rank_to_reach/ranktoreach/Postings$Writer" "size" "I" (.int (((sz + (1 : Int32)) + (1 : Int32)) + (1 : Int32))) := (F152.other W154 (Or.inl (own_ne_oa E_t (own_w hw 7 rfl) V_a)))
              refine own_getF X182 hx hZ hown (host := "") (Or.inl (own_w hw 26 rfl)) Via.refl e182 f183 hby d9_84 ?_
              intro T184 X184 e184
              refine own_dupX1 X184.here hx hby d9_87 rfl rfl ?_
              refine own_iconst X184.here hx hby d9_88 (v := (1 : Int32)) (by decide) ?_
              refine own_iadd X184.here hx hby d9_89 rfl ?_
              have f185 : Exa Z h154 t "com/example/rank_to_reach/ranktoreach/Postings$Writer" := ((f151.wr W152).wr W154)
              refine own_putF X184 hx hZ (ty := .int) hown (host := "") (Or.inl (own_w hw 26 rfl)) Via.refl e184 f183 f185 (Or.inl (own_w hw 27 rfl)) (own_w hw 7 rfl) (by decide) rfl rfl hby d9_90 N154 g_t ?_
              intro T186 h186 lo186 X186 e186 N186 W186 F186 z186
              refine own_iloadN X186.here hx hby d9_93 rfl ?_
              refine own_i2b X186.here hx hby d9_94 rfl ?_
              have f187 : Arv Z h186 a ka .byte (8 : Int32) (((L0.set (sz.toNatClampNeg + 0) (.int (nar .byte ((((own_r v 0) &&& (127 : Int32)) ||| (128 : Int32)).toInt8.toInt32)))).set (sz.toNatClampNeg + 1) (.int (nar .byte ((((own_r v 1) &&& (127 : Int32)) ||| (128 : Int32)).toInt8.toInt32)))).set (sz.toNatClampNeg + 2) (.int (nar .byte ((((own_r v 2) &&& (127 : Int32)) ||| (128 : Int32)).toInt8.toInt32)))) (.int 0) := (V155.other W186 (Ne.symm (own_ne_oa E_t (own_w hw 7 rfl) V_a)))
              refine own_bastore X186 hx hZ e186 f187 (own_inc_in hs0 hs16 3 (by decide) (by have h_ : (8 : Int32).toInt = 8 := (by decide); omega)) (sz.toNatClampNeg + 3) (own_inc_nat hs0 hs16 3 (by decide)) (by first | omega | (simp only [List.length_set]; omega)) rfl hby d9_95 N186 g_a ?_
              intro T188 h188 lo188 X188 e188 N188 W188 V188 z188
              have V189 : Arv Z h188 a ka .byte (8 : Int32) ((((L0.set (sz.toNatClampNeg + 0) (.int (nar .byte ((((own_r v 0) &&& (127 : Int32)) ||| (128 : Int32)).toInt8.toInt32)))).set (sz.toNatClampNeg + 1) (.int (nar .byte ((((own_r v 1) &&& (127 : Int32)) ||| (128 : Int32)).toInt8.toInt32)))).set (sz.toNatClampNeg + 2) (.int (nar .byte ((((own_r v 2) &&& (127 : Int32)) ||| (128 : Int32)).toInt8.toInt32)))).set (sz.toNatClampNeg + 3) (.int (nar .byte ((own_r v 3).toInt8.toInt32)))) (.int 0) := V188
              have hvl : own_vl v = 4 := own_vl4 hc42_129 hc42_136 hc42_146 hc42_156
              have f190 : Fld Z h188 t "com/example/rank_to_reach/ranktoreach/Postings$Writer" "size" "I" (.int ((((sz + (1 : Int32)) + (1 : Int32)) + (1 : Int32)) + (1 : Int32))) := (F186.other W188 (Or.inl (own_ne_oa E_t (own_w hw 7 rfl) V_a)))
              have hsz2 : sz + own_vI v = own_inc sz 4 := by
                rw [own_inc_vI hvl]
                simp only [own_inc, Int32.add_assoc]
                rfl
              have hP2 := own_post (L' := ((((L0.set (sz.toNatClampNeg + 0) (.int (nar .byte ((((own_r v 0) &&& (127 : Int32)) ||| (128 : Int32)).toInt8.toInt32)))).set (sz.toNatClampNeg + 1) (.int (nar .byte ((((own_r v 1) &&& (127 : Int32)) ||| (128 : Int32)).toInt8.toInt32)))).set (sz.toNatClampNeg + 2) (.int (nar .byte ((((own_r v 2) &&& (127 : Int32)) ||| (128 : Int32)).toInt8.toInt32)))).set (sz.toNatClampNeg + 3) (.int (nar .byte ((own_r v 3).toInt8.toInt32))))) (i := sz.toNatClampNeg) (k := 3) hvl (by omega) rfl hLp
              have hyN : (8 : Int32).toNatClampNeg = 8 := by decide
              have K191 : Keep h0 h188 [t, a] := (((((((((Keep.refl h0 [t, a]).wr W132 (Or.inl (List.mem_of_getElem? (i := 0) rfl))).wr W134 (Or.inl (List.mem_of_getElem? (i := 1) rfl))).wr W142 (Or.inl (List.mem_of_getElem? (i := 0) rfl))).wr W144 (Or.inl (List.mem_of_getElem? (i := 1) rfl))).wr W152 (Or.inl (List.mem_of_getElem? (i := 0) rfl))).wr W154 (Or.inl (List.mem_of_getElem? (i := 1) rfl))).wr W186 (Or.inl (List.mem_of_getElem? (i := 0) rfl))).wr W188 (Or.inl (List.mem_of_getElem? (i := 1) rfl)))
              have f192 : Exa Z h188 t "com/example/rank_to_reach/ranktoreach/Postings$Writer" := ((f185.wr W186).wr W188)
              have f193 : Fld Z h188 t "com/example/rank_to_reach/ranktoreach/Postings$Writer" "bytes" "[B" (.ref a) := ((f181.other W186 (Or.inr (slot_ne (Or.inl (own_w hw 18 rfl)) (Or.inl (own_w hw 27 rfl)) (by decide) (t := (.array .byte)) (t' := .int) (by decide) (by decide)))).other W188 (Or.inl (own_ne_oa E_t (own_w hw 7 rfl) V_a)))
              have f194 : Fld Z h188 t "com/example/rank_to_reach/ranktoreach/Postings$Writer" "last" "I" (.int lst) := ((((((((F_last.other W132 (Or.inr (slot_ne (Or.inl (own_w hw 20 rfl)) (Or.inl (own_w hw 27 rfl)) (by decide) (t := .int) (t' := .int) (by decide) (by decide)))).other W134 (Or.inl (own_ne_oa E_t (own_w hw 7 rfl) V_a))).other W142 (Or.inr (slot_ne (Or.inl (own_w hw 20 rfl)) (Or.inl (own_w hw 27 rfl)) (by decide) (t := .int) (t' := .int) (by decide) (by decide)))).other W144 (Or.inl (own_ne_oa E_t (own_w hw 7 rfl) V_a))).other W152 (Or.inr (slot_ne (Or.inl (own_w hw 20 rfl)) (Or.inl (own_w hw 27 rfl)) (by decide) (t := .int) (t' := .int) (by decide) (by decide)))).other W154 (Or.inl (own_ne_oa E_t (own_w hw 7 rfl) V_a))).other W186 (Or.inr (slot_ne (Or.inl (own_w hw 20 rfl)) (Or.inl (own_w hw 27 rfl)) (by decide) (t := .int) (t' := .int) (by decide) (by decide)))).other W188 (Or.inl (own_ne_oa E_t (own_w hw 7 rfl) V_a)))
              have f195 : Fld Z h188 t "com/example/rank_to_reach/ranktoreach/Postings$Writer" "count" "I" (.int cnt) := ((((((((F_count.other W132 (Or.inr (slot_ne (Or.inl (own_w hw 44 rfl)) (Or.inl (own_w hw 27 rfl)) (by decide) (t := .int) (t' := .int) (by decide) (by decide)))).other W134 (Or.inl (own_ne_oa E_t (own_w hw 7 rfl) V_a))).other W142 (Or.inr (slot_ne (Or.inl (own_w hw 44 rfl)) (Or.inl (own_w hw 27 rfl)) (by decide) (t := .int) (t' := .int) (by decide) (by decide)))).other W144 (Or.inl (own_ne_oa E_t (own_w hw 7 rfl) V_a))).other W152 (Or.inr (slot_ne (Or.inl (own_w hw 44 rfl)) (Or.inl (own_w hw 27 rfl)) (by decide) (t := .int) (t' := .int) (by decide) (by decide)))).other W154 (Or.inl (own_ne_oa E_t (own_w hw 7 rfl) V_a))).other W186 (Or.inr (slot_ne (Or.inl (own_w hw 44 rfl)) (Or.inl (own_w hw 27 rfl)) (by decide) (t := .int) (t' := .int) (by decide) (by decide)))).other W188 (Or.inl (own_ne_oa E_t (own_w hw 7 rfl) V_a)))
              obtain ⟨fs, hr, hrun, hended, hW, hsame⟩ := X188.leave (v := none) (fun _ => rfl)
              refine own_ret (t := T188.setFrames fs) ?_ ⟨_, hrun, hended, _, _, rfl, ?_, ⟨_, rfl⟩, hW, hsame.mono (by decide) (by decide)⟩
              · exact X188.returnOut hx Bd.returns (hb hby d9_96) hr
              · show Q_put1 Z _ _ _ _ _ _ _ _ _ h0 n0 _ T188.heap _
                rw [e188]
                exact ⟨a, ka, (8 : Int32), ((((L0.set (sz.toNatClampNeg + 0) (.int (nar .byte ((((own_r v 0) &&& (127 : Int32)) ||| (128 : Int32)).toInt8.toInt32)))).set (sz.toNatClampNeg + 1) (.int (nar .byte ((((own_r v 1) &&& (127 : Int32)) ||| (128 : Int32)).toInt8.toInt32)))).set (sz.toNatClampNeg + 2) (.int (nar .byte ((((own_r v 2) &&& (127 : Int32)) ||| (128 : Int32)).toInt8.toInt32)))).set (sz.toNatClampNeg + 3) (.int (nar .byte ((own_r v 3).toInt8.toInt32)))), rfl, N188, K191, f192, f193, (by rw [hsz2]; exact f190), f194, f195, V189, ⟨g_a, Or.inl rfl⟩, (Or.inl rfl), (fun _ => Or.inl rfl), (by rw [hyN, hvl]; omega), hP2.1, hP2.2⟩
          · refine own_icmpYes X144.here hx hby (pc' := 78) d9_42 (flt hc42_146).2.2.2 (by decide) (by decide) ?_
            refine own_aloadN X144.here hx hby d9_78 rfl rfl ?_
            have f196 : Fld Z h144 t "com/example/rank_to_reach/ranktoreach/Postings$Writer" "bytes" "[B" (.ref a) := ((f137.other W142 (Or.inr (slot_ne (Or.inl (own_w hw 18 rfl)) (Or.inl (own_w hw 27 rfl)) (by decide) (t := (.array .byte)) (t' := .int) (by decide) (by decide)))).other W144 (Or.inl (own_ne_oa E_t (own_w hw 7 rfl) V_a)))
            refine own_getF X144 hx hZ hown (host := "") (Or.inl (own_w hw 17 rfl)) Via.refl e144 f196 hby d9_79 ?_
            intro T197 X197 e197
            refine own_aloadN X197.here hx hby d9_82 rfl rfl ?_
            refine own_dup X197.here hx hby d9_83 rfl ?_
            have f198 : Fld Z h144 t "com/example/rank_to_reach/ranktoreach/Postings$Writer" "size" "I" (.int ((sz + (1 : Int32)) + (1 : Int32))) := (F142.other W144 (Or.inl (own_ne_oa E_t (own_w hw 7 rfl) V_a)))
            refine own_getF X197 hx hZ hown (host := "") (Or.inl (own_w hw 26 rfl)) Via.refl e197 f198 hby d9_84 ?_
            intro T199 X199 e199
            refine own_dupX1 X199.here hx hby d9_87 rfl rfl ?_
            refine own_iconst X199.here hx hby d9_88 (v := (1 : Int32)) (by decide) ?_
            refine own_iadd X199.here hx hby d9_89 rfl ?_
            have f200 : Exa Z h144 t "com/example/rank_to_reach/ranktoreach/Postings$Writer" := ((f141.wr W142).wr W144)
            refine own_putF X199 hx hZ (ty := .int) hown (host := "") (Or.inl (own_w hw 26 rfl)) Via.refl e199 f198 f200 (Or.inl (own_w hw 27 rfl)) (own_w hw 7 rfl) (by decide) rfl rfl hby d9_90 N144 g_t ?_
            intro T201 h201 lo201 X201 e201 N201 W201 F201 z201
            refine own_iloadN X201.here hx hby d9_93 rfl ?_
            refine own_i2b X201.here hx hby d9_94 rfl ?_
            have f202 : Arv Z h201 a ka .byte (8 : Int32) ((L0.set (sz.toNatClampNeg + 0) (.int (nar .byte ((((own_r v 0) &&& (127 : Int32)) ||| (128 : Int32)).toInt8.toInt32)))).set (sz.toNatClampNeg + 1) (.int (nar .byte ((((own_r v 1) &&& (127 : Int32)) ||| (128 : Int32)).toInt8.toInt32)))) (.int 0) := (V145.other W201 (Ne.symm (own_ne_oa E_t (own_w hw 7 rfl) V_a)))
            refine own_bastore X201 hx hZ e201 f202 (own_inc_in hs0 hs16 2 (by decide) (by have h_ : (8 : Int32).toInt = 8 := (by decide); omega)) (sz.toNatClampNeg + 2) (own_inc_nat hs0 hs16 2 (by decide)) (by first | omega | (simp only [List.length_set]; omega)) rfl hby d9_95 N201 g_a ?_
            intro T203 h203 lo203 X203 e203 N203 W203 V203 z203
            have V204 : Arv Z h203 a ka .byte (8 : Int32) (((L0.set (sz.toNatClampNeg + 0) (.int (nar .byte ((((own_r v 0) &&& (127 : Int32)) ||| (128 : Int32)).toInt8.toInt32)))).set (sz.toNatClampNeg + 1) (.int (nar .byte ((((own_r v 1) &&& (127 : Int32)) ||| (128 : Int32)).toInt8.toInt32)))).set (sz.toNatClampNeg + 2) (.int (nar .byte ((own_r v 2).toInt8.toInt32)))) (.int 0) := V203
            have hvl : own_vl v = 3 := own_vl3 hc42_129 hc42_136 hc42_146
            have f205 : Fld Z h203 t "com/example/rank_to_reach/ranktoreach/Postings$Writer" "size" "I" (.int (((sz + (1 : Int32)) + (1 : Int32)) + (1 : Int32))) := (F201.other W203 (Or.inl (own_ne_oa E_t (own_w hw 7 rfl) V_a)))
            have hsz2 : sz + own_vI v = own_inc sz 3 := by
              rw [own_inc_vI hvl]
              simp only [own_inc, Int32.add_assoc]
              rfl
            have hP2 := own_post (L' := (((L0.set (sz.toNatClampNeg + 0) (.int (nar .byte ((((own_r v 0) &&& (127 : Int32)) ||| (128 : Int32)).toInt8.toInt32)))).set (sz.toNatClampNeg + 1) (.int (nar .byte ((((own_r v 1) &&& (127 : Int32)) ||| (128 : Int32)).toInt8.toInt32)))).set (sz.toNatClampNeg + 2) (.int (nar .byte ((own_r v 2).toInt8.toInt32))))) (i := sz.toNatClampNeg) (k := 2) hvl (by omega) rfl hLp
            have hyN : (8 : Int32).toNatClampNeg = 8 := by decide
            have K206 : Keep h0 h203 [t, a] := (((((((Keep.refl h0 [t, a]).wr W132 (Or.inl (List.mem_of_getElem? (i := 0) rfl))).wr W134 (Or.inl (List.mem_of_getElem? (i := 1) rfl))).wr W142 (Or.inl (List.mem_of_getElem? (i := 0) rfl))).wr W144 (Or.inl (List.mem_of_getElem? (i := 1) rfl))).wr W201 (Or.inl (List.mem_of_getElem? (i := 0) rfl))).wr W203 (Or.inl (List.mem_of_getElem? (i := 1) rfl)))
            have f207 : Exa Z h203 t "com/example/rank_to_reach/ranktoreach/Postings$Writer" := ((f200.wr W201).wr W203)
            have f208 : Fld Z h203 t "com/example/rank_to_reach/ranktoreach/Postings$Writer" "bytes" "[B" (.ref a) := ((f196.other W201 (Or.inr (slot_ne (Or.inl (own_w hw 18 rfl)) (Or.inl (own_w hw 27 rfl)) (by decide) (t := (.array .byte)) (t' := .int) (by decide) (by decide)))).other W203 (Or.inl (own_ne_oa E_t (own_w hw 7 rfl) V_a)))
            have f209 : Fld Z h203 t "com/example/rank_to_reach/ranktoreach/Postings$Writer" "last" "I" (.int lst) := ((((((F_last.other W132 (Or.inr (slot_ne (Or.inl (own_w hw 20 rfl)) (Or.inl (own_w hw 27 rfl)) (by decide) (t := .int) (t' := .int) (by decide) (by decide)))).other W134 (Or.inl (own_ne_oa E_t (own_w hw 7 rfl) V_a))).other W142 (Or.inr (slot_ne (Or.inl (own_w hw 20 rfl)) (Or.inl (own_w hw 27 rfl)) (by decide) (t := .int) (t' := .int) (by decide) (by decide)))).other W144 (Or.inl (own_ne_oa E_t (own_w hw 7 rfl) V_a))).other W201 (Or.inr (slot_ne (Or.inl (own_w hw 20 rfl)) (Or.inl (own_w hw 27 rfl)) (by decide) (t := .int) (t' := .int) (by decide) (by decide)))).other W203 (Or.inl (own_ne_oa E_t (own_w hw 7 rfl) V_a)))
            have f210 : Fld Z h203 t "com/example/rank_to_reach/ranktoreach/Postings$Writer" "count" "I" (.int cnt) := ((((((F_count.other W132 (Or.inr (slot_ne (Or.inl (own_w hw 44 rfl)) (Or.inl (own_w hw 27 rfl)) (by decide) (t := .int) (t' := .int) (by decide) (by decide)))).other W134 (Or.inl (own_ne_oa E_t (own_w hw 7 rfl) V_a))).other W142 (Or.inr (slot_ne (Or.inl (own_w hw 44 rfl)) (Or.inl (own_w hw 27 rfl)) (by decide) (t := .int) (t' := .int) (by decide) (by decide)))).other W144 (Or.inl (own_ne_oa E_t (own_w hw 7 rfl) V_a))).other W201 (Or.inr (slot_ne (Or.inl (own_w hw 44 rfl)) (Or.inl (own_w hw 27 rfl)) (by decide) (t := .int) (t' := .int) (by decide) (by decide)))).other W203 (Or.inl (own_ne_oa E_t (own_w hw 7 rfl) V_a)))
            obtain ⟨fs, hr, hrun, hended, hW, hsame⟩ := X203.leave (v := none) (fun _ => rfl)
            refine own_ret (t := T203.setFrames fs) ?_ ⟨_, hrun, hended, _, _, rfl, ?_, ⟨_, rfl⟩, hW, hsame.mono (by decide) (by decide)⟩
            · exact X203.returnOut hx Bd.returns (hb hby d9_96) hr
            · show Q_put1 Z _ _ _ _ _ _ _ _ _ h0 n0 _ T203.heap _
              rw [e203]
              exact ⟨a, ka, (8 : Int32), (((L0.set (sz.toNatClampNeg + 0) (.int (nar .byte ((((own_r v 0) &&& (127 : Int32)) ||| (128 : Int32)).toInt8.toInt32)))).set (sz.toNatClampNeg + 1) (.int (nar .byte ((((own_r v 1) &&& (127 : Int32)) ||| (128 : Int32)).toInt8.toInt32)))).set (sz.toNatClampNeg + 2) (.int (nar .byte ((own_r v 2).toInt8.toInt32)))), rfl, N203, K206, f207, f208, (by rw [hsz2]; exact f205), f209, f210, V204, ⟨g_a, Or.inl rfl⟩, (Or.inl rfl), (fun _ => Or.inl rfl), (by rw [hyN, hvl]; omega), hP2.1, hP2.2⟩
        · refine own_icmpYes X134.here hx hby (pc' := 78) d9_42 (flt hc42_136).2.2.2 (by decide) (by decide) ?_
          refine own_aloadN X134.here hx hby d9_78 rfl rfl ?_
          have f211 : Fld Z h134 t "com/example/rank_to_reach/ranktoreach/Postings$Writer" "bytes" "[B" (.ref a) := ((F_bytes.other W132 (Or.inr (slot_ne (Or.inl (own_w hw 18 rfl)) (Or.inl (own_w hw 27 rfl)) (by decide) (t := (.array .byte)) (t' := .int) (by decide) (by decide)))).other W134 (Or.inl (own_ne_oa E_t (own_w hw 7 rfl) V_a)))
          refine own_getF X134 hx hZ hown (host := "") (Or.inl (own_w hw 17 rfl)) Via.refl e134 f211 hby d9_79 ?_
          intro T212 X212 e212
          refine own_aloadN X212.here hx hby d9_82 rfl rfl ?_
          refine own_dup X212.here hx hby d9_83 rfl ?_
          have f213 : Fld Z h134 t "com/example/rank_to_reach/ranktoreach/Postings$Writer" "size" "I" (.int (sz + (1 : Int32))) := (F132.other W134 (Or.inl (own_ne_oa E_t (own_w hw 7 rfl) V_a)))
          refine own_getF X212 hx hZ hown (host := "") (Or.inl (own_w hw 26 rfl)) Via.refl e212 f213 hby d9_84 ?_
          intro T214 X214 e214
          refine own_dupX1 X214.here hx hby d9_87 rfl rfl ?_
          refine own_iconst X214.here hx hby d9_88 (v := (1 : Int32)) (by decide) ?_
          refine own_iadd X214.here hx hby d9_89 rfl ?_
          have f215 : Exa Z h134 t "com/example/rank_to_reach/ranktoreach/Postings$Writer" := ((E_t.wr W132).wr W134)
          refine own_putF X214 hx hZ (ty := .int) hown (host := "") (Or.inl (own_w hw 26 rfl)) Via.refl e214 f213 f215 (Or.inl (own_w hw 27 rfl)) (own_w hw 7 rfl) (by decide) rfl rfl hby d9_90 N134 g_t ?_
          intro T216 h216 lo216 X216 e216 N216 W216 F216 z216
          refine own_iloadN X216.here hx hby d9_93 rfl ?_
          refine own_i2b X216.here hx hby d9_94 rfl ?_
          have f217 : Arv Z h216 a ka .byte (8 : Int32) (L0.set (sz.toNatClampNeg + 0) (.int (nar .byte ((((own_r v 0) &&& (127 : Int32)) ||| (128 : Int32)).toInt8.toInt32)))) (.int 0) := (V135.other W216 (Ne.symm (own_ne_oa E_t (own_w hw 7 rfl) V_a)))
          refine own_bastore X216 hx hZ e216 f217 (own_inc_in hs0 hs16 1 (by decide) (by have h_ : (8 : Int32).toInt = 8 := (by decide); omega)) (sz.toNatClampNeg + 1) (own_inc_nat hs0 hs16 1 (by decide)) (by first | omega | (simp only [List.length_set]; omega)) rfl hby d9_95 N216 g_a ?_
          intro T218 h218 lo218 X218 e218 N218 W218 V218 z218
          have V219 : Arv Z h218 a ka .byte (8 : Int32) ((L0.set (sz.toNatClampNeg + 0) (.int (nar .byte ((((own_r v 0) &&& (127 : Int32)) ||| (128 : Int32)).toInt8.toInt32)))).set (sz.toNatClampNeg + 1) (.int (nar .byte ((own_r v 1).toInt8.toInt32)))) (.int 0) := V218
          have hvl : own_vl v = 2 := own_vl2 hc42_129 hc42_136
          have f220 : Fld Z h218 t "com/example/rank_to_reach/ranktoreach/Postings$Writer" "size" "I" (.int ((sz + (1 : Int32)) + (1 : Int32))) := (F216.other W218 (Or.inl (own_ne_oa E_t (own_w hw 7 rfl) V_a)))
          have hsz2 : sz + own_vI v = own_inc sz 2 := by
            rw [own_inc_vI hvl]
            simp only [own_inc, Int32.add_assoc]
            rfl
          have hP2 := own_post (L' := ((L0.set (sz.toNatClampNeg + 0) (.int (nar .byte ((((own_r v 0) &&& (127 : Int32)) ||| (128 : Int32)).toInt8.toInt32)))).set (sz.toNatClampNeg + 1) (.int (nar .byte ((own_r v 1).toInt8.toInt32))))) (i := sz.toNatClampNeg) (k := 1) hvl (by omega) rfl hLp
          have hyN : (8 : Int32).toNatClampNeg = 8 := by decide
          have K221 : Keep h0 h218 [t, a] := (((((Keep.refl h0 [t, a]).wr W132 (Or.inl (List.mem_of_getElem? (i := 0) rfl))).wr W134 (Or.inl (List.mem_of_getElem? (i := 1) rfl))).wr W216 (Or.inl (List.mem_of_getElem? (i := 0) rfl))).wr W218 (Or.inl (List.mem_of_getElem? (i := 1) rfl)))
          have f222 : Exa Z h218 t "com/example/rank_to_reach/ranktoreach/Postings$Writer" := ((f215.wr W216).wr W218)
          have f223 : Fld Z h218 t "com/example/rank_to_reach/ranktoreach/Postings$Writer" "bytes" "[B" (.ref a) := ((f211.other W216 (Or.inr (slot_ne (Or.inl (own_w hw 18 rfl)) (Or.inl (own_w hw 27 rfl)) (by decide) (t := (.array .byte)) (t' := .int) (by decide) (by decide)))).other W218 (Or.inl (own_ne_oa E_t (own_w hw 7 rfl) V_a)))
          have f224 : Fld Z h218 t "com/example/rank_to_reach/ranktoreach/Postings$Writer" "last" "I" (.int lst) := ((((F_last.other W132 (Or.inr (slot_ne (Or.inl (own_w hw 20 rfl)) (Or.inl (own_w hw 27 rfl)) (by decide) (t := .int) (t' := .int) (by decide) (by decide)))).other W134 (Or.inl (own_ne_oa E_t (own_w hw 7 rfl) V_a))).other W216 (Or.inr (slot_ne (Or.inl (own_w hw 20 rfl)) (Or.inl (own_w hw 27 rfl)) (by decide) (t := .int) (t' := .int) (by decide) (by decide)))).other W218 (Or.inl (own_ne_oa E_t (own_w hw 7 rfl) V_a)))
          have f225 : Fld Z h218 t "com/example/rank_to_reach/ranktoreach/Postings$Writer" "count" "I" (.int cnt) := ((((F_count.other W132 (Or.inr (slot_ne (Or.inl (own_w hw 44 rfl)) (Or.inl (own_w hw 27 rfl)) (by decide) (t := .int) (t' := .int) (by decide) (by decide)))).other W134 (Or.inl (own_ne_oa E_t (own_w hw 7 rfl) V_a))).other W216 (Or.inr (slot_ne (Or.inl (own_w hw 44 rfl)) (Or.inl (own_w hw 27 rfl)) (by decide) (t := .int) (t' := .int) (by decide) (by decide)))).other W218 (Or.inl (own_ne_oa E_t (own_w hw 7 rfl) V_a)))
          obtain ⟨fs, hr, hrun, hended, hW, hsame⟩ := X218.leave (v := none) (fun _ => rfl)
          refine own_ret (t := T218.setFrames fs) ?_ ⟨_, hrun, hended, _, _, rfl, ?_, ⟨_, rfl⟩, hW, hsame.mono (by decide) (by decide)⟩
          · exact X218.returnOut hx Bd.returns (hb hby d9_96) hr
          · show Q_put1 Z _ _ _ _ _ _ _ _ _ h0 n0 _ T218.heap _
            rw [e218]
            exact ⟨a, ka, (8 : Int32), ((L0.set (sz.toNatClampNeg + 0) (.int (nar .byte ((((own_r v 0) &&& (127 : Int32)) ||| (128 : Int32)).toInt8.toInt32)))).set (sz.toNatClampNeg + 1) (.int (nar .byte ((own_r v 1).toInt8.toInt32)))), rfl, N218, K221, f222, f223, (by rw [hsz2]; exact f220), f224, f225, V219, ⟨g_a, Or.inl rfl⟩, (Or.inl rfl), (fun _ => Or.inl rfl), (by rw [hyN, hvl]; omega), hP2.1, hP2.2⟩
      · refine own_icmpYes X4.here hx hby (pc' := 78) d9_42 (flt hc42_129).2.2.2 (by decide) (by decide) ?_
        refine own_aloadN X4.here hx hby d9_78 rfl rfl ?_
        refine own_getF X4 hx hZ hown (host := "") (Or.inl (own_w hw 17 rfl)) Via.refl e4 F_bytes hby d9_79 ?_
        intro T226 X226 e226
        refine own_aloadN X226.here hx hby d9_82 rfl rfl ?_
        refine own_dup X226.here hx hby d9_83 rfl ?_
        refine own_getF X226 hx hZ hown (host := "") (Or.inl (own_w hw 26 rfl)) Via.refl e226 F_size hby d9_84 ?_
        intro T227 X227 e227
        refine own_dupX1 X227.here hx hby d9_87 rfl rfl ?_
        refine own_iconst X227.here hx hby d9_88 (v := (1 : Int32)) (by decide) ?_
        refine own_iadd X227.here hx hby d9_89 rfl ?_
        refine own_putF X227 hx hZ (ty := .int) hown (host := "") (Or.inl (own_w hw 26 rfl)) Via.refl e227 F_size E_t (Or.inl (own_w hw 27 rfl)) (own_w hw 7 rfl) (by decide) rfl rfl hby d9_90 N0 g_t ?_
        intro T228 h228 lo228 X228 e228 N228 W228 F228 z228
        refine own_iloadN X228.here hx hby d9_93 rfl ?_
        refine own_i2b X228.here hx hby d9_94 rfl ?_
        have f229 : Arv Z h228 a ka .byte (8 : Int32) L0 (.int 0) := (VL.other W228 (Ne.symm (own_ne_oa E_t (own_w hw 7 rfl) V_a)))
        refine own_bastore X228 hx hZ e228 f229 (own_inc_in hs0 hs16 0 (by decide) (by have h_ : (8 : Int32).toInt = 8 := (by decide); omega)) (sz.toNatClampNeg + 0) (own_inc_nat hs0 hs16 0 (by decide)) (by first | omega | (simp only [List.length_set]; omega)) rfl hby d9_95 N228 g_a ?_
        intro T230 h230 lo230 X230 e230 N230 W230 V230 z230
        have V231 : Arv Z h230 a ka .byte (8 : Int32) (L0.set (sz.toNatClampNeg + 0) (.int (nar .byte ((own_r v 0).toInt8.toInt32)))) (.int 0) := V230
        have hvl : own_vl v = 1 := own_vl1 hc42_129
        have f232 : Fld Z h230 t "com/example/rank_to_reach/ranktoreach/Postings$Writer" "size" "I" (.int (sz + (1 : Int32))) := (F228.other W230 (Or.inl (own_ne_oa E_t (own_w hw 7 rfl) V_a)))
        have hsz2 : sz + own_vI v = own_inc sz 1 := by
          rw [own_inc_vI hvl]
          simp only [own_inc, Int32.add_assoc]
          rfl
        have hP2 := own_post (L' := (L0.set (sz.toNatClampNeg + 0) (.int (nar .byte ((own_r v 0).toInt8.toInt32))))) (i := sz.toNatClampNeg) (k := 0) hvl (by omega) rfl hLp
        have hyN : (8 : Int32).toNatClampNeg = 8 := by decide
        have K233 : Keep h0 h230 [t, a] := (((Keep.refl h0 [t, a]).wr W228 (Or.inl (List.mem_of_getElem? (i := 0) rfl))).wr W230 (Or.inl (List.mem_of_getElem? (i := 1) rfl)))
        have f234 : Exa Z h230 t "com/example/rank_to_reach/ranktoreach/Postings$Writer" := ((E_t.wr W228).wr W230)
        have f235 : Fld Z h230 t "com/example/rank_to_reach/ranktoreach/Postings$Writer" "bytes" "[B" (.ref a) := ((F_bytes.other W228 (Or.inr (slot_ne (Or.inl (own_w hw 18 rfl)) (Or.inl (own_w hw 27 rfl)) (by decide) (t := (.array .byte)) (t' := .int) (by decide) (by decide)))).other W230 (Or.inl (own_ne_oa E_t (own_w hw 7 rfl) V_a)))
        have f236 : Fld Z h230 t "com/example/rank_to_reach/ranktoreach/Postings$Writer" "last" "I" (.int lst) := ((F_last.other W228 (Or.inr (slot_ne (Or.inl (own_w hw 20 rfl)) (Or.inl (own_w hw 27 rfl)) (by decide) (t := .int) (t' := .int) (by decide) (by decide)))).other W230 (Or.inl (own_ne_oa E_t (own_w hw 7 rfl) V_a)))
        have f237 : Fld Z h230 t "com/example/rank_to_reach/ranktoreach/Postings$Writer" "count" "I" (.int cnt) := ((F_count.other W228 (Or.inr (slot_ne (Or.inl (own_w hw 44 rfl)) (Or.inl (own_w hw 27 rfl)) (by decide) (t := .int) (t' := .int) (by decide) (by decide)))).other W230 (Or.inl (own_ne_oa E_t (own_w hw 7 rfl) V_a)))
        obtain ⟨fs, hr, hrun, hended, hW, hsame⟩ := X230.leave (v := none) (fun _ => rfl)
        refine own_ret (t := T230.setFrames fs) ?_ ⟨_, hrun, hended, _, _, rfl, ?_, ⟨_, rfl⟩, hW, hsame.mono (by decide) (by decide)⟩
        · exact X230.returnOut hx Bd.returns (hb hby d9_96) hr
        · show Q_put1 Z _ _ _ _ _ _ _ _ _ h0 n0 _ T230.heap _
          rw [e230]
          exact ⟨a, ka, (8 : Int32), (L0.set (sz.toNatClampNeg + 0) (.int (nar .byte ((own_r v 0).toInt8.toInt32)))), rfl, N230, K233, f234, f235, (by rw [hsz2]; exact f232), f236, f237, V231, ⟨g_a, Or.inl rfl⟩, (Or.inl rfl), (fun _ => Or.inl rfl), (by rw [hyN, hvl]; omega), hP2.1, hP2.2⟩
  · have hs16 : sz.toInt ≤ 16 := by have h_ : (16 : Int32).toInt = 16 := (by decide); omega
    have hsz' : sz.toInt ≤ 16 := by have h_ : (16 : Int32).toInt = 16 := (by decide); omega
    have h5 : (sz + (5 : Int32)).toInt = sz.toInt + 5 := by have h_ : (5 : Int32).toInt = 5 := (by decide); rw [own_addI (by omega) (by omega)]; omega
    refine own_aloadN X0.here hx hby d9_0 rfl rfl ?_
    refine own_getF X0 hx hZ hown (host := "") (Or.inl (own_w hw 26 rfl)) Via.refl e0 F_size hby d9_1 ?_
    intro T238 X238 e238
    refine own_iconst X238.here hx hby d9_4 (v := (5 : Int32)) (by decide) ?_
    refine own_iadd X238.here hx hby d9_5 rfl ?_
    refine own_aloadN X238.here hx hby d9_6 rfl rfl ?_
    refine own_getF X238 hx hZ hown (host := "") (Or.inl (own_w hw 17 rfl)) Via.refl e238 F_bytes hby d9_7 ?_
    intro T239 X239 e239
    refine own_alen X239 hx hZ e239 V_a hby d9_10 ?_
    by_cases hc11_240 : (16 : Int32) < (sz + (5 : Int32))
    · refine own_icmpNo X239.here hx hby d9_11 (tlt hc11_240).2.2.2 ?_
      refine own_aloadN X239.here hx hby d9_14 rfl rfl ?_
      refine own_aloadN X239.here hx hby d9_15 rfl rfl ?_
      refine own_getF X239 hx hZ hown (host := "") (Or.inl (own_w hw 17 rfl)) Via.refl e239 F_bytes hby d9_16 ?_
      intro T241 X241 e241
      refine own_bipush X241.here hx hby d9_19 (v := (8 : Int32)) (by decide) ?_
      refine own_aloadN X241.here hx hby d9_21 rfl rfl ?_
      refine own_getF X241 hx hZ hown (host := "") (Or.inl (own_w hw 17 rfl)) Via.refl e241 F_bytes hby d9_22 ?_
      intro T242 X242 e242
      refine own_alen X242 hx hZ e242 V_a hby d9_25 ?_
      refine own_iconst X242.here hx hby d9_26 (v := (2 : Int32)) (by decide) ?_
      refine own_imul X242.here hx hby d9_27 (v := (32 : Int32)) (by decide) ?_
      refine own_callS X242 hx hZ hown (own_w hw 54 rfl) (own_w hw 2 rfl) (own_w hw 3 rfl) (own_w hw 4 rfl) (by decide) (max_8_32 l Z a0 hw []  h0 n0 Z0 ) 2 (Nat.le_of_eq rfl) (by decide) (by decide) (by rw [hml]; rfl) (argsL := [(.int 8), (.int 32)]) (st := [(.ref a), (.ref t)]) (lenOf pd_0 rfl) rfl rfl (by decide) (by decide) e242 hby d9_28 ?_
      intro T243 v243 L243 X243 hQ243
      obtain ⟨rfl, Nq243, eh243⟩ := hQ243
      have N243 := Fr.app N0 Nq243
      refine own_sh (T := T243) 31 #[.val (.ref t), .val (.int v), .unset] [(.int 32), (.ref a), (.ref t)] ?_
      refine own_callS X243 hx hZ hown (own_w hw 55 rfl) (own_w hw 56 rfl) (own_w hw 57 rfl) (own_w hw 58 rfl) (by decide) (copyOf_16 l Z a0 hw [] a ka vs h0 n0 Z0 V_a) 1 (Nat.le_of_eq rfl) (by decide) (by decide) (by rw [hml]; rfl) (argsL := [(.ref a), (.int 32)]) (st := [(.ref t)]) (lenOf pd_1 rfl) rfl rfl (by decide) (by decide) eh243 hby d9_31 ?_
      intro T244 v244 L244 X244 hQ244
      obtain ⟨b_244, kb_244, rfl, Nq244, K244, P244_0, P244_1⟩ := hQ244
      have N244 := Fr.app N243 Nq244
      have z245 : h0.size ≤ T244.heap.size := K244.1
      have lt246 : T244.heap.size > b_244 := P244_1.lt
      refine own_sh (T := T244) 34 #[.val (.ref t), .val (.int v), .unset] [(.ref b_244), (.ref t)] ?_
      have f247 : Exa Z T244.heap t "com/example/rank_to_reach/ranktoreach/Postings$Writer" := (E_t.keep K244)
      have f248 : Fld Z T244.heap t "com/example/rank_to_reach/ranktoreach/Postings$Writer" "bytes" "[B" (.ref a) := (F_bytes.keep K244 nin0)
      refine own_putF X244 hx hZ (ty := (.array .byte)) hown (host := "") (Or.inl (own_w hw 17 rfl)) Via.refl rfl f248 f247 (Or.inl (own_w hw 18 rfl)) (own_w hw 7 rfl) (by decide) rfl rfl hby d9_34 N244 g_t ?_
      intro T249 h249 lo249 X249 e249 N249 W249 F249 z249
      have f250 : Arv Z h249 b_244 kb_244 .byte (32 : Int32) ((List.range 16).map fun i => vs.getD i (.int 0)) (.int 0) := (P244_1.other W249 (own_nn (by omega)))
      have hroom : sz.toInt + 5 ≤ 32 := by
        have q := Int32.lt_iff_toInt_lt (x := (16 : Int32)) (y := (sz + (5 : Int32)))
        have a : (16 : Int32).toInt = 16 := by decide
        rw [a, h5] at q
        first | omega | (have h_ : ¬ (16 < sz.toInt + 5) := fun r => hc11_240 (q.mpr r); omega)
      obtain ⟨L0, VL, hLl, hLp⟩ : ∃ L0 : List Value, Arv Z h249 b_244 kb_244 .byte (32 : Int32) L0 (.int 0) ∧ 32 ≤ L0.length ∧ ∀ j, j < sz.toNatClampNeg → L0.getD j (.int 0) = vs.getD j (.int 0) := ⟨((List.range 16).map fun i => vs.getD i (.int 0)) ++ List.replicate 32 (.int 0), f250.pad (pad_rep ((List.range 16).map fun i => vs.getD i (.int 0)) (.int 0) 32), by rw [List.length_append, List.length_replicate]; omega, fun j hj => by
        have := own_clamp hs0
        rw [pad_rep]
        exact own_cp_at (by omega)⟩
      have hcl := own_clamp hs0
      refine own_iloadN X249.here hx hby d9_37 rfl ?_
      refine own_istoreN X249.here hx hby d9_38 (l' := #[.val (.ref t), .val (.int v), .val (.int v)]) rfl ?_
      refine own_sh (T := T249) 39 #[.val (.ref t), .val (.int v), .val (.int (own_r v 0))] [] ?_
      refine own_iloadN X249.here hx hby d9_39 rfl ?_
      refine own_bipush X249.here hx hby d9_40 (v := (127 : Int32)) (by decide) ?_
      by_cases hc42_251 : (127 : Int32) < (own_r v 0)
      · refine own_icmpNo X249.here hx hby d9_42 (tlt hc42_251).2.2.2 ?_
        refine own_aloadN X249.here hx hby d9_45 rfl rfl ?_
        refine own_getF X249 hx hZ hown (host := "") (Or.inl (own_w hw 17 rfl)) Via.refl e249 F249 hby d9_46 ?_
        intro T252 X252 e252
        refine own_aloadN X252.here hx hby d9_49 rfl rfl ?_
        refine own_dup X252.here hx hby d9_50 rfl ?_
        have f253 : Fld Z h249 t "com/example/rank_to_reach/ranktoreach/Postings$Writer" "size" "I" (.int sz) := ((F_size.keep K244 nin0).other W249 (Or.inr (slot_ne (Or.inl (own_w hw 27 rfl)) (Or.inl (own_w hw 18 rfl)) (by decide) (t := .int) (t' := (.array .byte)) (by decide) (by decide))))
        refine own_getF X252 hx hZ hown (host := "") (Or.inl (own_w hw 26 rfl)) Via.refl e252 f253 hby d9_51 ?_
        intro T254 X254 e254
        refine own_dupX1 X254.here hx hby d9_54 rfl rfl ?_
        refine own_iconst X254.here hx hby d9_55 (v := (1 : Int32)) (by decide) ?_
        refine own_iadd X254.here hx hby d9_56 rfl ?_
        have f255 : Exa Z h249 t "com/example/rank_to_reach/ranktoreach/Postings$Writer" := (f247.wr W249)
        refine own_putF X254 hx hZ (ty := .int) hown (host := "") (Or.inl (own_w hw 26 rfl)) Via.refl e254 f253 f255 (Or.inl (own_w hw 27 rfl)) (own_w hw 7 rfl) (by decide) rfl rfl hby d9_57 N249 g_t ?_
        intro T256 h256 lo256 X256 e256 N256 W256 F256 z256
        refine own_iloadN X256.here hx hby d9_60 rfl ?_
        refine own_bipush X256.here hx hby d9_61 (v := (127 : Int32)) (by decide) ?_
        refine own_iand X256.here hx hby d9_63 rfl ?_
        refine own_sipush X256.here hx hby d9_64 (v := (128 : Int32)) (by decide) ?_
        refine own_ior X256.here hx hby d9_67 rfl ?_
        refine own_i2b X256.here hx hby d9_68 rfl ?_
        have f257 : Arv Z h256 b_244 kb_244 .byte (32 : Int32) L0 (.int 0) := (VL.other W256 (own_nn (by omega)))
        refine own_bastore X256 hx hZ e256 f257 (own_inc_in hs0 hs16 0 (by decide) (by have h_ : (32 : Int32).toInt = 32 := (by decide); omega)) (sz.toNatClampNeg + 0) (own_inc_nat hs0 hs16 0 (by decide)) (by first | omega | (simp only [List.length_set]; omega)) rfl hby d9_69 N256 (by omega) ?_
        intro T258 h258 lo258 X258 e258 N258 W258 V258 z258
        have V259 : Arv Z h258 b_244 kb_244 .byte (32 : Int32) (L0.set (sz.toNatClampNeg + 0) (.int (nar .byte ((((own_r v 0) &&& (127 : Int32)) ||| (128 : Int32)).toInt8.toInt32)))) (.int 0) := V258
        refine own_iloadN X258.here hx hby d9_70 rfl ?_
        refine own_bipush X258.here hx hby d9_71 (v := (7 : Int32)) (by decide) ?_
        refine own_iushr X258.here hx hby d9_73 rfl ?_
        refine own_istoreN X258.here hx hby d9_74 (l' := #[.val (.ref t), .val (.int v), .val (.int (((own_r v 0).toUInt32 >>> ((7 : Int32) &&& 31).toUInt32).toInt32))]) rfl ?_
        refine own_goto X258.here hx hby (pc' := 39) d9_75 (by decide) (by decide) ?_
        refine own_sh (T := T258) 39 #[.val (.ref t), .val (.int v), .val (.int (own_r v 1))] [] ?_
        refine own_iloadN X258.here hx hby d9_39 rfl ?_
        refine own_bipush X258.here hx hby d9_40 (v := (127 : Int32)) (by decide) ?_
        by_cases hc42_260 : (127 : Int32) < (own_r v 1)
        · refine own_icmpNo X258.here hx hby d9_42 (tlt hc42_260).2.2.2 ?_
          refine own_aloadN X258.here hx hby d9_45 rfl rfl ?_
          have f261 : Fld Z h258 t "com/example/rank_to_reach/ranktoreach/Postings$Writer" "bytes" "[B" (.ref b_244) := ((F249.other W256 (Or.inr (slot_ne (Or.inl (own_w hw 18 rfl)) (Or.inl (own_w hw 27 rfl)) (by decide) (t := (.array .byte)) (t' := .int) (by decide) (by decide)))).other W258 (Or.inl (own_nn (by omega))))
          refine own_getF X258 hx hZ hown (host := "") (Or.inl (own_w hw 17 rfl)) Via.refl e258 f261 hby d9_46 ?_
          intro T262 X262 e262
          refine own_aloadN X262.here hx hby d9_49 rfl rfl ?_
          refine own_dup X262.here hx hby d9_50 rfl ?_
          have f263 : Fld Z h258 t "com/example/rank_to_reach/ranktoreach/Postings$Writer" "size" "I" (.int (sz + (1 : Int32))) := (F256.other W258 (Or.inl (own_nn (by omega))))
          refine own_getF X262 hx hZ hown (host := "") (Or.inl (own_w hw 26 rfl)) Via.refl e262 f263 hby d9_51 ?_
          intro T264 X264 e264
          refine own_dupX1 X264.here hx hby d9_54 rfl rfl ?_
          refine own_iconst X264.here hx hby d9_55 (v := (1 : Int32)) (by decide) ?_
          refine own_iadd X264.here hx hby d9_56 rfl ?_
          have f265 : Exa Z h258 t "com/example/rank_to_reach/ranktoreach/Postings$Writer" := ((f255.wr W256).wr W258)
          refine own_putF X264 hx hZ (ty := .int) hown (host := "") (Or.inl (own_w hw 26 rfl)) Via.refl e264 f263 f265 (Or.inl (own_w hw 27 rfl)) (own_w hw 7 rfl) (by decide) rfl rfl hby d9_57 N258 g_t ?_
          intro T266 h266 lo266 X266 e266 N266 W266 F266 z266
          refine own_iloadN X266.here hx hby d9_60 rfl ?_
          refine own_bipush X266.here hx hby d9_61 (v := (127 : Int32)) (by decide) ?_
          refine own_iand X266.here hx hby d9_63 rfl ?_
          refine own_sipush X266.here hx hby d9_64 (v := (128 : Int32)) (by decide) ?_
          refine own_ior X266.here hx hby d9_67 rfl ?_
          refine own_i2b X266.here hx hby d9_68 rfl ?_
          have f267 : Arv Z h266 b_244 kb_244 .byte (32 : Int32) (L0.set (sz.toNatClampNeg + 0) (.int (nar .byte ((((own_r v 0) &&& (127 : Int32)) ||| (128 : Int32)).toInt8.toInt32)))) (.int 0) := (V259.other W266 (own_nn (by omega)))
          refine own_bastore X266 hx hZ e266 f267 (own_inc_in hs0 hs16 1 (by decide) (by have h_ : (32 : Int32).toInt = 32 := (by decide); omega)) (sz.toNatClampNeg + 1) (own_inc_nat hs0 hs16 1 (by decide)) (by first | omega | (simp only [List.length_set]; omega)) rfl hby d9_69 N266 (by omega) ?_
          intro T268 h268 lo268 X268 e268 N268 W268 V268 z268
          have V269 : Arv Z h268 b_244 kb_244 .byte (32 : Int32) ((L0.set (sz.toNatClampNeg + 0) (.int (nar .byte ((((own_r v 0) &&& (127 : Int32)) ||| (128 : Int32)).toInt8.toInt32)))).set (sz.toNatClampNeg + 1) (.int (nar .byte ((((own_r v 1) &&& (127 : Int32)) ||| (128 : Int32)).toInt8.toInt32)))) (.int 0) := V268
          refine own_iloadN X268.here hx hby d9_70 rfl ?_
          refine own_bipush X268.here hx hby d9_71 (v := (7 : Int32)) (by decide) ?_
          refine own_iushr X268.here hx hby d9_73 rfl ?_
          refine own_istoreN X268.here hx hby d9_74 (l' := #[.val (.ref t), .val (.int v), .val (.int (((own_r v 1).toUInt32 >>> ((7 : Int32) &&& 31).toUInt32).toInt32))]) rfl ?_
          refine own_goto X268.here hx hby (pc' := 39) d9_75 (by decide) (by decide) ?_
          refine own_sh (T := T268) 39 #[.val (.ref t), .val (.int v), .val (.int (own_r v 2))] [] ?_
          refine own_iloadN X268.here hx hby d9_39 rfl ?_
          refine own_bipush X268.here hx hby d9_40 (v := (127 : Int32)) (by decide) ?_
          by_cases hc42_270 : (127 : Int32) < (own_r v 2)
          · refine own_icmpNo X268.here hx hby d9_42 (tlt hc42_270).2.2.2 ?_
            refine own_aloadN X268.here hx hby d9_45 rfl rfl ?_
            have f271 : Fld Z h268 t "com/example/rank_to_reach/ranktoreach/Postings$Writer" "bytes" "[B" (.ref b_244) := ((f261.other W266 (Or.inr (slot_ne (Or.inl (own_w hw 18 rfl)) (Or.inl (own_w hw 27 rfl)) (by decide) (t := (.array .byte)) (t' := .int) (by decide) (by decide)))).other W268 (Or.inl (own_nn (by omega))))
            refine own_getF X268 hx hZ hown (host := "") (Or.inl (own_w hw 17 rfl)) Via.refl e268 f271 hby d9_46 ?_
            intro T272 X272 e272
            refine own_aloadN X272.here hx hby d9_49 rfl rfl ?_
            refine own_dup X272.here hx hby d9_50 rfl ?_
            have f273 : Fld Z h268 t "com/example/rank_to_reach/ranktoreach/Postings$Writer" "size" "I" (.int ((sz + (1 : Int32)) + (1 : Int32))) := (F266.other W268 (Or.inl (own_nn (by omega))))
            refine own_getF X272 hx hZ hown (host := "") (Or.inl (own_w hw 26 rfl)) Via.refl e272 f273 hby d9_51 ?_
            intro T274 X274 e274
            refine own_dupX1 X274.here hx hby d9_54 rfl rfl ?_
            refine own_iconst X274.here hx hby d9_55 (v := (1 : Int32)) (by decide) ?_
            refine own_iadd X274.here hx hby d9_56 rfl ?_
            have f275 : Exa Z h268 t "com/example/rank_to_reach/ranktoreach/Postings$Writer" := ((f265.wr W266).wr W268)
            refine own_putF X274 hx hZ (ty := .int) hown (host := "") (Or.inl (own_w hw 26 rfl)) Via.refl e274 f273 f275 (Or.inl (own_w hw 27 rfl)) (own_w hw 7 rfl) (by decide) rfl rfl hby d9_57 N268 g_t ?_
            intro T276 h276 lo276 X276 e276 N276 W276 F276 z276
            refine own_iloadN X276.here hx hby d9_60 rfl ?_
            refine own_bipush X276.here hx hby d9_61 (v := (127 : Int32)) (by decide) ?_
            refine own_iand X276.here hx hby d9_63 rfl ?_
            refine own_sipush X276.here hx hby d9_64 (v := (128 : Int32)) (by decide) ?_
            refine own_ior X276.here hx hby d9_67 rfl ?_
            refine own_i2b X276.here hx hby d9_68 rfl ?_
            have f277 : Arv Z h276 b_244 kb_244 .byte (32 : Int32) ((L0.set (sz.toNatClampNeg + 0) (.int (nar .byte ((((own_r v 0) &&& (127 : Int32)) ||| (128 : Int32)).toInt8.toInt32)))).set (sz.toNatClampNeg + 1) (.int (nar .byte ((((own_r v 1) &&& (127 : Int32)) ||| (128 : Int32)).toInt8.toInt32)))) (.int 0) := (V269.other W276 (own_nn (by omega)))
            refine own_bastore X276 hx hZ e276 f277 (own_inc_in hs0 hs16 2 (by decide) (by have h_ : (32 : Int32).toInt = 32 := (by decide); omega)) (sz.toNatClampNeg + 2) (own_inc_nat hs0 hs16 2 (by decide)) (by first | omega | (simp only [List.length_set]; omega)) rfl hby d9_69 N276 (by omega) ?_
            intro T278 h278 lo278 X278 e278 N278 W278 V278 z278
            have V279 : Arv Z h278 b_244 kb_244 .byte (32 : Int32) (((L0.set (sz.toNatClampNeg + 0) (.int (nar .byte ((((own_r v 0) &&& (127 : Int32)) ||| (128 : Int32)).toInt8.toInt32)))).set (sz.toNatClampNeg + 1) (.int (nar .byte ((((own_r v 1) &&& (127 : Int32)) ||| (128 : Int32)).toInt8.toInt32)))).set (sz.toNatClampNeg + 2) (.int (nar .byte ((((own_r v 2) &&& (127 : Int32)) ||| (128 : Int32)).toInt8.toInt32)))) (.int 0) := V278
            refine own_iloadN X278.here hx hby d9_70 rfl ?_
            refine own_bipush X278.here hx hby d9_71 (v := (7 : Int32)) (by decide) ?_
            refine own_iushr X278.here hx hby d9_73 rfl ?_
            refine own_istoreN X278.here hx hby d9_74 (l' := #[.val (.ref t), .val (.int v), .val (.int (((own_r v 2).toUInt32 >>> ((7 : Int32) &&& 31).toUInt32).toInt32))]) rfl ?_
            refine own_goto X278.here hx hby (pc' := 39) d9_75 (by decide) (by decide) ?_
            refine own_sh (T := T278) 39 #[.val (.ref t), .val (.int v), .val (.int (own_r v 3))] [] ?_
            refine own_iloadN X278.here hx hby d9_39 rfl ?_
            refine own_bipush X278.here hx hby d9_40 (v := (127 : Int32)) (by decide) ?_
            by_cases hc42_280 : (127 : Int32) < (own_r v 3)
            · refine own_icmpNo X278.here hx hby d9_42 (tlt hc42_280).2.2.2 ?_
              refine own_aloadN X278.here hx hby d9_45 rfl rfl ?_
              have f281 : Fld Z h278 t "com/example/rank_to_reach/ranktoreach/Postings$Writer" "bytes" "[B" (.ref b_244) := ((f271.other W276 (Or.inr (slot_ne (Or.inl (own_w hw 18 rfl)) (Or.inl (own_w hw 27 rfl)) (by decide) (t := (.array .byte)) (t' := .int) (by decide) (by decide)))).other W278 (Or.inl (own_nn (by omega))))
              refine own_getF X278 hx hZ hown (host := "") (Or.inl (own_w hw 17 rfl)) Via.refl e278 f281 hby d9_46 ?_
              intro T282 X282 e282
              refine own_aloadN X282.here hx hby d9_49 rfl rfl ?_
              refine own_dup X282.here hx hby d9_50 rfl ?_
              have f283 : Fld Z h278 t "com/example/rank_to_reach/ranktoreach/Postings$Writer" "size" "I" (.int (((sz + (1 : Int32)) + (1 : Int32)) + (1 : Int32))) := (F276.other W278 (Or.inl (own_nn (by omega))))
              refine own_getF X282 hx hZ hown (host := "") (Or.inl (own_w hw 26 rfl)) Via.refl e282 f283 hby d9_51 ?_
              intro T284 X284 e284
              refine own_dupX1 X284.here hx hby d9_54 rfl rfl ?_
              refine own_iconst X284.here hx hby d9_55 (v := (1 : Int32)) (by decide) ?_
              refine own_iadd X284.here hx hby d9_56 rfl ?_
              have f285 : Exa Z h278 t "com/example/rank_to_reach/ranktoreach/Postings$Writer" := ((f275.wr W276).wr W278)
              refine own_putF X284 hx hZ (ty := .int) hown (host := "") (Or.inl (own_w hw 26 rfl)) Via.refl e284 f283 f285 (Or.inl (own_w hw 27 rfl)) (own_w hw 7 rfl) (by decide) rfl rfl hby d9_57 N278 g_t ?_
              intro T286 h286 lo286 X286 e286 N286 W286 F286 z286
              refine own_iloadN X286.here hx hby d9_60 rfl ?_
              refine own_bipush X286.here hx hby d9_61 (v := (127 : Int32)) (by decide) ?_
              refine own_iand X286.here hx hby d9_63 rfl ?_
              refine own_sipush X286.here hx hby d9_64 (v := (128 : Int32)) (by decide) ?_
              refine own_ior X286.here hx hby d9_67 rfl ?_
              refine own_i2b X286.here hx hby d9_68 rfl ?_
              have f287 : Arv Z h286 b_244 kb_244 .byte (32 : Int32) (((L0.set (sz.toNatClampNeg + 0) (.int (nar .byte ((((own_r v 0) &&& (127 : Int32)) ||| (128 : Int32)).toInt8.toInt32)))).set (sz.toNatClampNeg + 1) (.int (nar .byte ((((own_r v 1) &&& (127 : Int32)) ||| (128 : Int32)).toInt8.toInt32)))).set (sz.toNatClampNeg + 2) (.int (nar .byte ((((own_r v 2) &&& (127 : Int32)) ||| (128 : Int32)).toInt8.toInt32)))) (.int 0) := (V279.other W286 (own_nn (by omega)))
              refine own_bastore X286 hx hZ e286 f287 (own_inc_in hs0 hs16 3 (by decide) (by have h_ : (32 : Int32).toInt = 32 := (by decide); omega)) (sz.toNatClampNeg + 3) (own_inc_nat hs0 hs16 3 (by decide)) (by first | omega | (simp only [List.length_set]; omega)) rfl hby d9_69 N286 (by omega) ?_
              intro T288 h288 lo288 X288 e288 N288 W288 V288 z288
              have V289 : Arv Z h288 b_244 kb_244 .byte (32 : Int32) ((((L0.set (sz.toNatClampNeg + 0) (.int (nar .byte ((((own_r v 0) &&& (127 : Int32)) ||| (128 : Int32)).toInt8.toInt32)))).set (sz.toNatClampNeg + 1) (.int (nar .byte ((((own_r v 1) &&& (127 : Int32)) ||| (128 : Int32)).toInt8.toInt32)))).set (sz.toNatClampNeg + 2) (.int (nar .byte ((((own_r v 2) &&& (127 : Int32)) ||| (128 : Int32)).toInt8.toInt32)))).set (sz.toNatClampNeg + 3) (.int (nar .byte ((((own_r v 3) &&& (127 : Int32)) ||| (128 : Int32)).toInt8.toInt32)))) (.int 0) := V288
              refine own_iloadN X288.here hx hby d9_70 rfl ?_
              refine own_bipush X288.here hx hby d9_71 (v := (7 : Int32)) (by decide) ?_
              refine own_iushr X288.here hx hby d9_73 rfl ?_
              refine own_istoreN X288.here hx hby d9_74 (l' := #[.val (.ref t), .val (.int v), .val (.int (((own_r v 3).toUInt32 >>> ((7 : Int32) &&& 31).toUInt32).toInt32))]) rfl ?_
              refine own_goto X288.here hx hby (pc' := 39) d9_75 (by decide) (by decide) ?_
              refine own_sh (T := T288) 39 #[.val (.ref t), .val (.int v), .val (.int (own_r v 4))] [] ?_
              refine own_iloadN X288.here hx hby d9_39 rfl ?_
              refine own_bipush X288.here hx hby d9_40 (v := (127 : Int32)) (by decide) ?_
              refine own_icmpYes X288.here hx hby (pc' := 78) d9_42 (flt (show ¬ ((127 : Int32) < (own_r v 4)) from (own_r4 v hv))).2.2.2 (by decide) (by decide) ?_
              refine own_aloadN X288.here hx hby d9_78 rfl rfl ?_
              have f290 : Fld Z h288 t "com/example/rank_to_reach/ranktoreach/Postings$Writer" "bytes" "[B" (.ref b_244) := ((f281.other W286 (Or.inr (slot_ne (Or.inl (own_w hw 18 rfl)) (Or.inl (own_w hw 27 rfl)) (by decide) (t := (.array .byte)) (t' := .int) (by decide) (by decide)))).other W288 (Or.inl (own_nn (by omega))))
              refine own_getF X288 hx hZ hown (host := "") (Or.inl (own_w hw 17 rfl)) Via.refl e288 f290 hby d9_79 ?_
              intro T291 X291 e291
              refine own_aloadN X291.here hx hby d9_82 rfl rfl ?_
              refine own_dup X291.here hx hby d9_83 rfl ?_
              have f292 : Fld Z h288 t "com/example/rank_to_reach/ranktoreach/Postings$Writer" "size" "I" (.int ((((sz + (1 : Int32)) + (1 : Int32)) + (1 : Int32)) + (1 : Int32))) := (F286.other W288 (Or.inl (own_nn (by omega))))
              refine own_getF X291 hx hZ hown (host := "") (Or.inl (own_w hw 26 rfl)) Via.refl e291 f292 hby d9_84 ?_
              intro T293 X293 e293
              refine own_dupX1 X293.here hx hby d9_87 rfl rfl ?_
              refine own_iconst X293.here hx hby d9_88 (v := (1 : Int32)) (by decide) ?_
              refine own_iadd X293.here hx hby d9_89 rfl ?_
              have f294 : Exa Z h288 t "com/example/rank_to_reach/ranktoreach/Postings$Writer" := ((f285.wr W286).wr W288)
              refine own_putF X293 hx hZ (ty := .int) hown (host := "") (Or.inl (own_w hw 26 rfl)) Via.refl e293 f292 f294 (Or.inl (own_w hw 27 rfl)) (own_w hw 7 rfl) (by decide) rfl rfl hby d9_90 N288 g_t ?_
              intro T295 h295 lo295 X295 e295 N295 W295 F295 z295
              refine own_iloadN X295.here hx hby d9_93 rfl ?_
              refine own_i2b X295.here hx hby d9_94 rfl ?_
              have f296 : Arv Z h295 b_244 kb_244 .byte (32 : Int32) ((((L0.set (sz.toNatClampNeg + 0) (.int (nar .byte ((((own_r v 0) &&& (127 : Int32)) ||| (128 : Int32)).toInt8.toInt32)))).set (sz.toNatClampNeg + 1) (.int (nar .byte ((((own_r v 1) &&& (127 : Int32)) ||| (128 : Int32)).toInt8.toInt32)))).set (sz.toNatClampNeg + 2) (.int (nar .byte ((((own_r v 2) &&& (127 : Int32)) ||| (128 : Int32)).toInt8.toInt32)))).set (sz.toNatClampNeg + 3) (.int (nar .byte ((((own_r v 3) &&& (127 : Int32)) ||| (128 : Int32)).toInt8.toInt32)))) (.int 0) := (V289.other W295 (own_nn (by omega)))
              refine own_bastore X295 hx hZ e295 f296 (own_inc_in hs0 hs16 4 (by decide) (by have h_ : (32 : Int32).toInt = 32 := (by decide); omega)) (sz.toNatClampNeg + 4) (own_inc_nat hs0 hs16 4 (by decide)) (by first | omega | (simp only [List.length_set]; omega)) rfl hby d9_95 N295 (by omega) ?_
              intro T297 h297 lo297 X297 e297 N297 W297 V297 z297
              have V298 : Arv Z h297 b_244 kb_244 .byte (32 : Int32) (((((L0.set (sz.toNatClampNeg + 0) (.int (nar .byte ((((own_r v 0) &&& (127 : Int32)) ||| (128 : Int32)).toInt8.toInt32)))).set (sz.toNatClampNeg + 1) (.int (nar .byte ((((own_r v 1) &&& (127 : Int32)) ||| (128 : Int32)).toInt8.toInt32)))).set (sz.toNatClampNeg + 2) (.int (nar .byte ((((own_r v 2) &&& (127 : Int32)) ||| (128 : Int32)).toInt8.toInt32)))).set (sz.toNatClampNeg + 3) (.int (nar .byte ((((own_r v 3) &&& (127 : Int32)) ||| (128 : Int32)).toInt8.toInt32)))).set (sz.toNatClampNeg + 4) (.int (nar .byte ((own_r v 4).toInt8.toInt32)))) (.int 0) := V297
              have hvl : own_vl v = 5 := own_vl5 hc42_251 hc42_260 hc42_270 hc42_280
              have f299 : Fld Z h297 t "com/example/rank_to_reach/ranktoreach/Postings$Writer" "size" "I" (.int (((((sz + (1 : Int32)) + (1 : Int32)) + (1 : Int32)) + (1 : Int32)) + (1 : Int32))) := (F295.other W297 (Or.inl (own_nn (by omega))))
              have hsz2 : sz + own_vI v = own_inc sz 5 := by
                rw [own_inc_vI hvl]
                simp only [own_inc, Int32.add_assoc]
                rfl
              have hP2 := own_post (L' := (((((L0.set (sz.toNatClampNeg + 0) (.int (nar .byte ((((own_r v 0) &&& (127 : Int32)) ||| (128 : Int32)).toInt8.toInt32)))).set (sz.toNatClampNeg + 1) (.int (nar .byte ((((own_r v 1) &&& (127 : Int32)) ||| (128 : Int32)).toInt8.toInt32)))).set (sz.toNatClampNeg + 2) (.int (nar .byte ((((own_r v 2) &&& (127 : Int32)) ||| (128 : Int32)).toInt8.toInt32)))).set (sz.toNatClampNeg + 3) (.int (nar .byte ((((own_r v 3) &&& (127 : Int32)) ||| (128 : Int32)).toInt8.toInt32)))).set (sz.toNatClampNeg + 4) (.int (nar .byte ((own_r v 4).toInt8.toInt32))))) (i := sz.toNatClampNeg) (k := 4) hvl (by omega) rfl hLp
              have hyN : (32 : Int32).toNatClampNeg = 32 := by decide
              have hc16 : 16 < sz.toInt + 5 := by
                have q := Int32.lt_iff_toInt_lt.mp hc11_240
                have a : (16 : Int32).toInt = 16 := by decide
                omega
              have K300 : Keep h0 h297 [t, a] := (((((((((((((Keep.refl h0 [t, a]).trans K244 all0).wr W249 (Or.inl (List.mem_of_getElem? (i := 0) rfl))).wr W256 (Or.inl (List.mem_of_getElem? (i := 0) rfl))).wr W258 (Or.inr (by omega))).wr W266 (Or.inl (List.mem_of_getElem? (i := 0) rfl))).wr W268 (Or.inr (by omega))).wr W276 (Or.inl (List.mem_of_getElem? (i := 0) rfl))).wr W278 (Or.inr (by omega))).wr W286 (Or.inl (List.mem_of_getElem? (i := 0) rfl))).wr W288 (Or.inr (by omega))).wr W295 (Or.inl (List.mem_of_getElem? (i := 0) rfl))).wr W297 (Or.inr (by omega)))
              have f301 : Exa Z h297 t "com/example/rank_to_reach/ranktoreach/Postings$Writer" := ((f294.wr W295).wr W297)
              have f302 : Fld Z h297 t "com/example/rank_to_reach/ranktoreach/Postings$Writer" "bytes" "[B" (.ref b_244) := ((f290.other W295 (Or.inr (slot_ne (Or.inl (own_w hw 18 rfl)) (Or.inl (own_w hw 27 rfl)) (by decide) (t := (.array .byte)) (t' := .int) (by decide) (by decide)))).other W297 (Or.inl (own_nn (by omega))))
              have f303 : Fld Z h297 t "com/example/rank_to_reach/ranktoreach/Postings$Writer" "last" "I" (.int lst) := ((((((((((((F_last.keep K244 nin0).other W249 (Or.inr (slot_ne (Or.inl (own_w hw 20 rfl)) (Or.inl (own_w hw 18 rfl)) (by decide) (t := .int) (t' := (.array .byte)) (by decide) (by decide)))).other W256 (Or.inr (slot_ne (Or.inl (own_w hw 20 rfl)) (Or.inl (own_w hw 27 rfl)) (by decide) (t := .int) (t' := .int) (by decide) (by decide)))).other W258 (Or.inl (own_nn (by omega)))).other W266 (Or.inr (slot_ne (Or.inl (own_w hw 20 rfl)) (Or.inl (own_w hw 27 rfl)) (by decide) (t := .int) (t' := .int) (by decide) (by decide)))).other W268 (Or.inl (own_nn (by omega)))).other W276 (Or.inr (slot_ne (Or.inl (own_w hw 20 rfl)) (Or.inl (own_w hw 27 rfl)) (by decide) (t := .int) (t' := .int) (by decide) (by decide)))).other W278 (Or.inl (own_nn (by omega)))).other W286 (Or.inr (slot_ne (Or.inl (own_w hw 20 rfl)) (Or.inl (own_w hw 27 rfl)) (by decide) (t := .int) (t' := .int) (by decide) (by decide)))).other W288 (Or.inl (own_nn (by omega)))).other W295 (Or.inr (slot_ne (Or.inl (own_w hw 20 rfl)) (Or.inl (own_w hw 27 rfl)) (by decide) (t := .int) (t' := .int) (by decide) (by decide)))).other W297 (Or.inl (own_nn (by omega))))
              have f304 : Fld Z h297 t "com/example/rank_to_reach/ranktoreach/Postings$Writer" "count" "I" (.int cnt) := ((((((((((((F_count.keep K244 nin0).other W249 (Or.inr (slot_ne (Or.inl (own_w hw 44 rfl)) (Or.inl (own_w hw 18 rfl)) (by decide) (t := .int) (t' := (.array .byte)) (by decide) (by decide)))).other W256 (Or.inr (slot_ne (Or.inl (own_w hw 44 rfl)) (Or.inl (own_w hw 27 rfl)) (by decide) (t := .int) (t' := .int) (by decide) (by decide)))).other W258 (Or.inl (own_nn (by omega)))).other W266 (Or.inr (slot_ne (Or.inl (own_w hw 44 rfl)) (Or.inl (own_w hw 27 rfl)) (by decide) (t := .int) (t' := .int) (by decide) (by decide)))).other W268 (Or.inl (own_nn (by omega)))).other W276 (Or.inr (slot_ne (Or.inl (own_w hw 44 rfl)) (Or.inl (own_w hw 27 rfl)) (by decide) (t := .int) (t' := .int) (by decide) (by decide)))).other W278 (Or.inl (own_nn (by omega)))).other W286 (Or.inr (slot_ne (Or.inl (own_w hw 44 rfl)) (Or.inl (own_w hw 27 rfl)) (by decide) (t := .int) (t' := .int) (by decide) (by decide)))).other W288 (Or.inl (own_nn (by omega)))).other W295 (Or.inr (slot_ne (Or.inl (own_w hw 44 rfl)) (Or.inl (own_w hw 27 rfl)) (by decide) (t := .int) (t' := .int) (by decide) (by decide)))).other W297 (Or.inl (own_nn (by omega))))
              obtain ⟨fs, hr, hrun, hended, hW, hsame⟩ := X297.leave (v := none) (fun _ => rfl)
              refine own_ret (t := T297.setFrames fs) ?_ ⟨_, hrun, hended, _, _, rfl, ?_, ⟨_, rfl⟩, hW, hsame.mono (by decide) (by decide)⟩
              · exact X297.returnOut hx Bd.returns (hb hby d9_96) hr
              · show Q_put1 Z _ _ _ _ _ _ _ _ _ h0 n0 _ T297.heap _
                rw [e297]
                exact ⟨b_244, kb_244, (32 : Int32), (((((L0.set (sz.toNatClampNeg + 0) (.int (nar .byte ((((own_r v 0) &&& (127 : Int32)) ||| (128 : Int32)).toInt8.toInt32)))).set (sz.toNatClampNeg + 1) (.int (nar .byte ((((own_r v 1) &&& (127 : Int32)) ||| (128 : Int32)).toInt8.toInt32)))).set (sz.toNatClampNeg + 2) (.int (nar .byte ((((own_r v 2) &&& (127 : Int32)) ||| (128 : Int32)).toInt8.toInt32)))).set (sz.toNatClampNeg + 3) (.int (nar .byte ((((own_r v 3) &&& (127 : Int32)) ||| (128 : Int32)).toInt8.toInt32)))).set (sz.toNatClampNeg + 4) (.int (nar .byte ((own_r v 4).toInt8.toInt32)))), rfl, N297, K300, f301, f302, (by rw [hsz2]; exact f299), f303, f304, V298, ⟨(by omega), Or.inr (by omega)⟩, (Or.inr (Or.inr rfl)), (fun q => absurd hc16 (by omega)), (by rw [hyN, hvl]; omega), hP2.1, hP2.2⟩
            · refine own_icmpYes X278.here hx hby (pc' := 78) d9_42 (flt hc42_280).2.2.2 (by decide) (by decide) ?_
              refine own_aloadN X278.here hx hby d9_78 rfl rfl ?_
              have f305 : Fld Z h278 t "com/example/rank_to_reach/ranktoreach/Postings$Writer" "bytes" "[B" (.ref b_244) := ((f271.other W276 (Or.inr (slot_ne (Or.inl (own_w hw 18 rfl)) (Or.inl (own_w hw 27 rfl)) (by decide) (t := (.array .byte)) (t' := .int) (by decide) (by decide)))).other W278 (Or.inl (own_nn (by omega))))
              refine own_getF X278 hx hZ hown (host := "") (Or.inl (own_w hw 17 rfl)) Via.refl e278 f305 hby d9_79 ?_
              intro T306 X306 e306
              refine own_aloadN X306.here hx hby d9_82 rfl rfl ?_
              refine own_dup X306.here hx hby d9_83 rfl ?_
              have f307 : Fld Z h278 t "com/example/rank_to_reach/ranktoreach/Postings$Writer" "size" "I" (.int (((sz + (1 : Int32)) + (1 : Int32)) + (1 : Int32))) := (F276.other W278 (Or.inl (own_nn (by omega))))
              refine own_getF X306 hx hZ hown (host := "") (Or.inl (own_w hw 26 rfl)) Via.refl e306 f307 hby d9_84 ?_
              intro T308 X308 e308
              refine own_dupX1 X308.here hx hby d9_87 rfl rfl ?_
              refine own_iconst X308.here hx hby d9_88 (v := (1 : Int32)) (by decide) ?_
              refine own_iadd X308.here hx hby d9_89 rfl ?_
              have f309 : Exa Z h278 t "com/example/rank_to_reach/ranktoreach/Postings$Writer" := ((f275.wr W276).wr W278)
              refine own_putF X308 hx hZ (ty := .int) hown (host := "") (Or.inl (own_w hw 26 rfl)) Via.refl e308 f307 f309 (Or.inl (own_w hw 27 rfl)) (own_w hw 7 rfl) (by decide) rfl rfl hby d9_90 N278 g_t ?_
              intro T310 h310 lo310 X310 e310 N310 W310 F310 z310
              refine own_iloadN X310.here hx hby d9_93 rfl ?_
              refine own_i2b X310.here hx hby d9_94 rfl ?_
              have f311 : Arv Z h310 b_244 kb_244 .byte (32 : Int32) (((L0.set (sz.toNatClampNeg + 0) (.int (nar .byte ((((own_r v 0) &&& (127 : Int32)) ||| (128 : Int32)).toInt8.toInt32)))).set (sz.toNatClampNeg + 1) (.int (nar .byte ((((own_r v 1) &&& (127 : Int32)) ||| (128 : Int32)).toInt8.toInt32)))).set (sz.toNatClampNeg + 2) (.int (nar .byte ((((own_r v 2) &&& (127 : Int32)) ||| (128 : Int32)).toInt8.toInt32)))) (.int 0) := (V279.other W310 (own_nn (by omega)))
              refine own_bastore X310 hx hZ e310 f311 (own_inc_in hs0 hs16 3 (by decide) (by have h_ : (32 : Int32).toInt = 32 := (by decide); omega)) (sz.toNatClampNeg + 3) (own_inc_nat hs0 hs16 3 (by decide)) (by first | omega | (simp only [List.length_set]; omega)) rfl hby d9_95 N310 (by omega) ?_
              intro T312 h312 lo312 X312 e312 N312 W312 V312 z312
              have V313 : Arv Z h312 b_244 kb_244 .byte (32 : Int32) ((((L0.set (sz.toNatClampNeg + 0) (.int (nar .byte ((((own_r v 0) &&& (127 : Int32)) ||| (128 : Int32)).toInt8.toInt32)))).set (sz.toNatClampNeg + 1) (.int (nar .byte ((((own_r v 1) &&& (127 : Int32)) ||| (128 : Int32)).toInt8.toInt32)))).set (sz.toNatClampNeg + 2) (.int (nar .byte ((((own_r v 2) &&& (127 : Int32)) ||| (128 : Int32)).toInt8.toInt32)))).set (sz.toNatClampNeg + 3) (.int (nar .byte ((own_r v 3).toInt8.toInt32)))) (.int 0) := V312
              have hvl : own_vl v = 4 := own_vl4 hc42_251 hc42_260 hc42_270 hc42_280
              have f314 : Fld Z h312 t "com/example/rank_to_reach/ranktoreach/Postings$Writer" "size" "I" (.int ((((sz + (1 : Int32)) + (1 : Int32)) + (1 : Int32)) + (1 : Int32))) := (F310.other W312 (Or.inl (own_nn (by omega))))
              have hsz2 : sz + own_vI v = own_inc sz 4 := by
                rw [own_inc_vI hvl]
                simp only [own_inc, Int32.add_assoc]
                rfl
              have hP2 := own_post (L' := ((((L0.set (sz.toNatClampNeg + 0) (.int (nar .byte ((((own_r v 0) &&& (127 : Int32)) ||| (128 : Int32)).toInt8.toInt32)))).set (sz.toNatClampNeg + 1) (.int (nar .byte ((((own_r v 1) &&& (127 : Int32)) ||| (128 : Int32)).toInt8.toInt32)))).set (sz.toNatClampNeg + 2) (.int (nar .byte ((((own_r v 2) &&& (127 : Int32)) ||| (128 : Int32)).toInt8.toInt32)))).set (sz.toNatClampNeg + 3) (.int (nar .byte ((own_r v 3).toInt8.toInt32))))) (i := sz.toNatClampNeg) (k := 3) hvl (by omega) rfl hLp
              have hyN : (32 : Int32).toNatClampNeg = 32 := by decide
              have hc16 : 16 < sz.toInt + 5 := by
                have q := Int32.lt_iff_toInt_lt.mp hc11_240
                have a : (16 : Int32).toInt = 16 := by decide
                omega
              have K315 : Keep h0 h312 [t, a] := (((((((((((Keep.refl h0 [t, a]).trans K244 all0).wr W249 (Or.inl (List.mem_of_getElem? (i := 0) rfl))).wr W256 (Or.inl (List.mem_of_getElem? (i := 0) rfl))).wr W258 (Or.inr (by omega))).wr W266 (Or.inl (List.mem_of_getElem? (i := 0) rfl))).wr W268 (Or.inr (by omega))).wr W276 (Or.inl (List.mem_of_getElem? (i := 0) rfl))).wr W278 (Or.inr (by omega))).wr W310 (Or.inl (List.mem_of_getElem? (i := 0) rfl))).wr W312 (Or.inr (by omega)))
              have f316 : Exa Z h312 t "com/example/rank_to_reach/ranktoreach/Postings$Writer" := ((f309.wr W310).wr W312)
              have f317 : Fld Z h312 t "com/example/rank_to_reach/ranktoreach/Postings$Writer" "bytes" "[B" (.ref b_244) := ((f305.other W310 (Or.inr (slot_ne (Or.inl (own_w hw 18 rfl)) (Or.inl (own_w hw 27 rfl)) (by decide) (t := (.array .byte)) (t' := .int) (by decide) (by decide)))).other W312 (Or.inl (own_nn (by omega))))
              have f318 : Fld Z h312 t "com/example/rank_to_reach/ranktoreach/Postings$Writer" "last" "I" (.int lst) := ((((((((((F_last.keep K244 nin0).other W249 (Or.inr (slot_ne (Or.inl (own_w hw 20 rfl)) (Or.inl (own_w hw 18 rfl)) (by decide) (t := .int) (t' := (.array .byte)) (by decide) (by decide)))).other W256 (Or.inr (slot_ne (Or.inl (own_w hw 20 rfl)) (Or.inl (own_w hw 27 rfl)) (by decide) (t := .int) (t' := .int) (by decide) (by decide)))).other W258 (Or.inl (own_nn (by omega)))).other W266 (Or.inr (slot_ne (Or.inl (own_w hw 20 rfl)) (Or.inl (own_w hw 27 rfl)) (by decide) (t := .int) (t' := .int) (by decide) (by decide)))).other W268 (Or.inl (own_nn (by omega)))).other W276 (Or.inr (slot_ne (Or.inl (own_w hw 20 rfl)) (Or.inl (own_w hw 27 rfl)) (by decide) (t := .int) (t' := .int) (by decide) (by decide)))).other W278 (Or.inl (own_nn (by omega)))).other W310 (Or.inr (slot_ne (Or.inl (own_w hw 20 rfl)) (Or.inl (own_w hw 27 rfl)) (by decide) (t := .int) (t' := .int) (by decide) (by decide)))).other W312 (Or.inl (own_nn (by omega))))
              have f319 : Fld Z h312 t "com/example/rank_to_reach/ranktoreach/Postings$Writer" "count" "I" (.int cnt) := ((((((((((F_count.keep K244 nin0).other W249 (Or.inr (slot_ne (Or.inl (own_w hw 44 rfl)) (Or.inl (own_w hw 18 rfl)) (by decide) (t := .int) (t' := (.array .byte)) (by decide) (by decide)))).other W256 (Or.inr (slot_ne (Or.inl (own_w hw 44 rfl)) (Or.inl (own_w hw 27 rfl)) (by decide) (t := .int) (t' := .int) (by decide) (by decide)))).other W258 (Or.inl (own_nn (by omega)))).other W266 (Or.inr (slot_ne (Or.inl (own_w hw 44 rfl)) (Or.inl (own_w hw 27 rfl)) (by decide) (t := .int) (t' := .int) (by decide) (by decide)))).other W268 (Or.inl (own_nn (by omega)))).other W276 (Or.inr (slot_ne (Or.inl (own_w hw 44 rfl)) (Or.inl (own_w hw 27 rfl)) (by decide) (t := .int) (t' := .int) (by decide) (by decide)))).other W278 (Or.inl (own_nn (by omega)))).other W310 (Or.inr (slot_ne (Or.inl (own_w hw 44 rfl)) (Or.inl (own_w hw 27 rfl)) (by decide) (t := .int) (t' := .int) (by decide) (by decide)))).other W312 (Or.inl (own_nn (by omega))))
              obtain ⟨fs, hr, hrun, hended, hW, hsame⟩ := X312.leave (v := none) (fun _ => rfl)
              refine own_ret (t := T312.setFrames fs) ?_ ⟨_, hrun, hended, _, _, rfl, ?_, ⟨_, rfl⟩, hW, hsame.mono (by decide) (by decide)⟩
              · exact X312.returnOut hx Bd.returns (hb hby d9_96) hr
              · show Q_put1 Z _ _ _ _ _ _ _ _ _ h0 n0 _ T312.heap _
                rw [e312]
                exact ⟨b_244, kb_244, (32 : Int32), ((((L0.set (sz.toNatClampNeg + 0) (.int (nar .byte ((((own_r v 0) &&& (127 : Int32)) ||| (128 : Int32)).toInt8.toInt32)))).set (sz.toNatClampNeg + 1) (.int (nar .byte ((((own_r v 1) &&& (127 : Int32)) ||| (128 : Int32)).toInt8.toInt32)))).set (sz.toNatClampNeg + 2) (.int (nar .byte ((((own_r v 2) &&& (127 : Int32)) ||| (128 : Int32)).toInt8.toInt32)))).set (sz.toNatClampNeg + 3) (.int (nar .byte ((own_r v 3).toInt8.toInt32)))), rfl, N312, K315, f316, f317, (by rw [hsz2]; exact f314), f318, f319, V313, ⟨(by omega), Or.inr (by omega)⟩, (Or.inr (Or.inr rfl)), (fun q => absurd hc16 (by omega)), (by rw [hyN, hvl]; omega), hP2.1, hP2.2⟩
          · refine own_icmpYes X268.here hx hby (pc' := 78) d9_42 (flt hc42_270).2.2.2 (by decide) (by decide) ?_
            refine own_aloadN X268.here hx hby d9_78 rfl rfl ?_
            have f320 : Fld Z h268 t "com/example/rank_to_reach/ranktoreach/Postings$Writer" "bytes" "[B" (.ref b_244) := ((f261.other W266 (Or.inr (slot_ne (Or.inl (own_w hw 18 rfl)) (Or.inl (own_w hw 27 rfl)) (by decide) (t := (.array .byte)) (t' := .int) (by decide) (by decide)))).other W268 (Or.inl (own_nn (by omega))))
            refine own_getF X268 hx hZ hown (host := "") (Or.inl (own_w hw 17 rfl)) Via.refl e268 f320 hby d9_79 ?_
            intro T321 X321 e321
            refine own_aloadN X321.here hx hby d9_82 rfl rfl ?_
            refine own_dup X321.here hx hby d9_83 rfl ?_
            have f322 : Fld Z h268 t "com/example/rank_to_reach/ranktoreach/Postings$Writer" "size" "I" (.int ((sz + (1 : Int32)) + (1 : Int32))) := (F266.other W268 (Or.inl (own_nn (by omega))))
            refine own_getF X321 hx hZ hown (host := "") (Or.inl (own_w hw 26 rfl)) Via.refl e321 f322 hby d9_84 ?_
            intro T323 X323 e323
            refine own_dupX1 X323.here hx hby d9_87 rfl rfl ?_
            refine own_iconst X323.here hx hby d9_88 (v := (1 : Int32)) (by decide) ?_
            refine own_iadd X323.here hx hby d9_89 rfl ?_
            have f324 : Exa Z h268 t "com/example/rank_to_reach/ranktoreach/Postings$Writer" := ((f265.wr W266).wr W268)
            refine own_putF X323 hx hZ (ty := .int) hown (host := "") (Or.inl (own_w hw 26 rfl)) Via.refl e323 f322 f324 (Or.inl (own_w hw 27 rfl)) (own_w hw 7 rfl) (by decide) rfl rfl hby d9_90 N268 g_t ?_
            intro T325 h325 lo325 X325 e325 N325 W325 F325 z325
            refine own_iloadN X325.here hx hby d9_93 rfl ?_
            refine own_i2b X325.here hx hby d9_94 rfl ?_
            have f326 : Arv Z h325 b_244 kb_244 .byte (32 : Int32) ((L0.set (sz.toNatClampNeg + 0) (.int (nar .byte ((((own_r v 0) &&& (127 : Int32)) ||| (128 : Int32)).toInt8.toInt32)))).set (sz.toNatClampNeg + 1) (.int (nar .byte ((((own_r v 1) &&& (127 : Int32)) ||| (128 : Int32)).toInt8.toInt32)))) (.int 0) := (V269.other W325 (own_nn (by omega)))
            refine own_bastore X325 hx hZ e325 f326 (own_inc_in hs0 hs16 2 (by decide) (by have h_ : (32 : Int32).toInt = 32 := (by decide); omega)) (sz.toNatClampNeg + 2) (own_inc_nat hs0 hs16 2 (by decide)) (by first | omega | (simp only [List.length_set]; omega)) rfl hby d9_95 N325 (by omega) ?_
            intro T327 h327 lo327 X327 e327 N327 W327 V327 z327
            have V328 : Arv Z h327 b_244 kb_244 .byte (32 : Int32) (((L0.set (sz.toNatClampNeg + 0) (.int (nar .byte ((((own_r v 0) &&& (127 : Int32)) ||| (128 : Int32)).toInt8.toInt32)))).set (sz.toNatClampNeg + 1) (.int (nar .byte ((((own_r v 1) &&& (127 : Int32)) ||| (128 : Int32)).toInt8.toInt32)))).set (sz.toNatClampNeg + 2) (.int (nar .byte ((own_r v 2).toInt8.toInt32)))) (.int 0) := V327
            have hvl : own_vl v = 3 := own_vl3 hc42_251 hc42_260 hc42_270
            have f329 : Fld Z h327 t "com/example/rank_to_reach/ranktoreach/Postings$Writer" "size" "I" (.int (((sz + (1 : Int32)) + (1 : Int32)) + (1 : Int32))) := (F325.other W327 (Or.inl (own_nn (by omega))))
            have hsz2 : sz + own_vI v = own_inc sz 3 := by
              rw [own_inc_vI hvl]
              simp only [own_inc, Int32.add_assoc]
              rfl
            have hP2 := own_post (L' := (((L0.set (sz.toNatClampNeg + 0) (.int (nar .byte ((((own_r v 0) &&& (127 : Int32)) ||| (128 : Int32)).toInt8.toInt32)))).set (sz.toNatClampNeg + 1) (.int (nar .byte ((((own_r v 1) &&& (127 : Int32)) ||| (128 : Int32)).toInt8.toInt32)))).set (sz.toNatClampNeg + 2) (.int (nar .byte ((own_r v 2).toInt8.toInt32))))) (i := sz.toNatClampNeg) (k := 2) hvl (by omega) rfl hLp
            have hyN : (32 : Int32).toNatClampNeg = 32 := by decide
            have hc16 : 16 < sz.toInt + 5 := by
              have q := Int32.lt_iff_toInt_lt.mp hc11_240
              have a : (16 : Int32).toInt = 16 := by decide
              omega
            have K330 : Keep h0 h327 [t, a] := (((((((((Keep.refl h0 [t, a]).trans K244 all0).wr W249 (Or.inl (List.mem_of_getElem? (i := 0) rfl))).wr W256 (Or.inl (List.mem_of_getElem? (i := 0) rfl))).wr W258 (Or.inr (by omega))).wr W266 (Or.inl (List.mem_of_getElem? (i := 0) rfl))).wr W268 (Or.inr (by omega))).wr W325 (Or.inl (List.mem_of_getElem? (i := 0) rfl))).wr W327 (Or.inr (by omega)))
            have f331 : Exa Z h327 t "com/example/rank_to_reach/ranktoreach/Postings$Writer" := ((f324.wr W325).wr W327)
            have f332 : Fld Z h327 t "com/example/rank_to_reach/ranktoreach/Postings$Writer" "bytes" "[B" (.ref b_244) := ((f320.other W325 (Or.inr (slot_ne (Or.inl (own_w hw 18 rfl)) (Or.inl (own_w hw 27 rfl)) (by decide) (t := (.array .byte)) (t' := .int) (by decide) (by decide)))).other W327 (Or.inl (own_nn (by omega))))
            have f333 : Fld Z h327 t "com/example/rank_to_reach/ranktoreach/Postings$Writer" "last" "I" (.int lst) := ((((((((F_last.keep K244 nin0).other W249 (Or.inr (slot_ne (Or.inl (own_w hw 20 rfl)) (Or.inl (own_w hw 18 rfl)) (by decide) (t := .int) (t' := (.array .byte)) (by decide) (by decide)))).other W256 (Or.inr (slot_ne (Or.inl (own_w hw 20 rfl)) (Or.inl (own_w hw 27 rfl)) (by decide) (t := .int) (t' := .int) (by decide) (by decide)))).other W258 (Or.inl (own_nn (by omega)))).other W266 (Or.inr (slot_ne (Or.inl (own_w hw 20 rfl)) (Or.inl (own_w hw 27 rfl)) (by decide) (t := .int) (t' := .int) (by decide) (by decide)))).other W268 (Or.inl (own_nn (by omega)))).other W325 (Or.inr (slot_ne (Or.inl (own_w hw 20 rfl)) (Or.inl (own_w hw 27 rfl)) (by decide) (t := .int) (t' := .int) (by decide) (by decide)))).other W327 (Or.inl (own_nn (by omega))))
            have f334 : Fld Z h327 t "com/example/rank_to_reach/ranktoreach/Postings$Writer" "count" "I" (.int cnt) := ((((((((F_count.keep K244 nin0).other W249 (Or.inr (slot_ne (Or.inl (own_w hw 44 rfl)) (Or.inl (own_w hw 18 rfl)) (by decide) (t := .int) (t' := (.array .byte)) (by decide) (by decide)))).other W256 (Or.inr (slot_ne (Or.inl (own_w hw 44 rfl)) (Or.inl (own_w hw 27 rfl)) (by decide) (t := .int) (t' := .int) (by decide) (by decide)))).other W258 (Or.inl (own_nn (by omega)))).other W266 (Or.inr (slot_ne (Or.inl (own_w hw 44 rfl)) (Or.inl (own_w hw 27 rfl)) (by decide) (t := .int) (t' := .int) (by decide) (by decide)))).other W268 (Or.inl (own_nn (by omega)))).other W325 (Or.inr (slot_ne (Or.inl (own_w hw 44 rfl)) (Or.inl (own_w hw 27 rfl)) (by decide) (t := .int) (t' := .int) (by decide) (by decide)))).other W327 (Or.inl (own_nn (by omega))))
            obtain ⟨fs, hr, hrun, hended, hW, hsame⟩ := X327.leave (v := none) (fun _ => rfl)
            refine own_ret (t := T327.setFrames fs) ?_ ⟨_, hrun, hended, _, _, rfl, ?_, ⟨_, rfl⟩, hW, hsame.mono (by decide) (by decide)⟩
            · exact X327.returnOut hx Bd.returns (hb hby d9_96) hr
            · show Q_put1 Z _ _ _ _ _ _ _ _ _ h0 n0 _ T327.heap _
              rw [e327]
              exact ⟨b_244, kb_244, (32 : Int32), (((L0.set (sz.toNatClampNeg + 0) (.int (nar .byte ((((own_r v 0) &&& (127 : Int32)) ||| (128 : Int32)).toInt8.toInt32)))).set (sz.toNatClampNeg + 1) (.int (nar .byte ((((own_r v 1) &&& (127 : Int32)) ||| (128 : Int32)).toInt8.toInt32)))).set (sz.toNatClampNeg + 2) (.int (nar .byte ((own_r v 2).toInt8.toInt32)))), rfl, N327, K330, f331, f332, (by rw [hsz2]; exact f329), f333, f334, V328, ⟨(by omega), Or.inr (by omega)⟩, (Or.inr (Or.inr rfl)), (fun q => absurd hc16 (by omega)), (by rw [hyN, hvl]; omega), hP2.1, hP2.2⟩
        · refine own_icmpYes X258.here hx hby (pc' := 78) d9_42 (flt hc42_260).2.2.2 (by decide) (by decide) ?_
          refine own_aloadN X258.here hx hby d9_78 rfl rfl ?_
          have f335 : Fld Z h258 t "com/example/rank_to_reach/ranktoreach/Postings$Writer" "bytes" "[B" (.ref b_244) := ((F249.other W256 (Or.inr (slot_ne (Or.inl (own_w hw 18 rfl)) (Or.inl (own_w hw 27 rfl)) (by decide) (t := (.array .byte)) (t' := .int) (by decide) (by decide)))).other W258 (Or.inl (own_nn (by omega))))
          refine own_getF X258 hx hZ hown (host := "") (Or.inl (own_w hw 17 rfl)) Via.refl e258 f335 hby d9_79 ?_
          intro T336 X336 e336
          refine own_aloadN X336.here hx hby d9_82 rfl rfl ?_
          refine own_dup X336.here hx hby d9_83 rfl ?_
          have f337 : Fld Z h258 t "com/example/rank_to_reach/ranktoreach/Postings$Writer" "size" "I" (.int (sz + (1 : Int32))) := (F256.other W258 (Or.inl (own_nn (by omega))))
          refine own_getF X336 hx hZ hown (host := "") (Or.inl (own_w hw 26 rfl)) Via.refl e336 f337 hby d9_84 ?_
          intro T338 X338 e338
          refine own_dupX1 X338.here hx hby d9_87 rfl rfl ?_
          refine own_iconst X338.here hx hby d9_88 (v := (1 : Int32)) (by decide) ?_
          refine own_iadd X338.here hx hby d9_89 rfl ?_
          have f339 : Exa Z h258 t "com/example/rank_to_reach/ranktoreach/Postings$Writer" := ((f255.wr W256).wr W258)
          refine own_putF X338 hx hZ (ty := .int) hown (host := "") (Or.inl (own_w hw 26 rfl)) Via.refl e338 f337 f339 (Or.inl (own_w hw 27 rfl)) (own_w hw 7 rfl) (by decide) rfl rfl hby d9_90 N258 g_t ?_
          intro T340 h340 lo340 X340 e340 N340 W340 F340 z340
          refine own_iloadN X340.here hx hby d9_93 rfl ?_
          refine own_i2b X340.here hx hby d9_94 rfl ?_
          have f341 : Arv Z h340 b_244 kb_244 .byte (32 : Int32) (L0.set (sz.toNatClampNeg + 0) (.int (nar .byte ((((own_r v 0) &&& (127 : Int32)) ||| (128 : Int32)).toInt8.toInt32)))) (.int 0) := (V259.other W340 (own_nn (by omega)))
          refine own_bastore X340 hx hZ e340 f341 (own_inc_in hs0 hs16 1 (by decide) (by have h_ : (32 : Int32).toInt = 32 := (by decide); omega)) (sz.toNatClampNeg + 1) (own_inc_nat hs0 hs16 1 (by decide)) (by first | omega | (simp only [List.length_set]; omega)) rfl hby d9_95 N340 (by omega) ?_
          intro T342 h342 lo342 X342 e342 N342 W342 V342 z342
          have V343 : Arv Z h342 b_244 kb_244 .byte (32 : Int32) ((L0.set (sz.toNatClampNeg + 0) (.int (nar .byte ((((own_r v 0) &&& (127 : Int32)) ||| (128 : Int32)).toInt8.toInt32)))).set (sz.toNatClampNeg + 1) (.int (nar .byte ((own_r v 1).toInt8.toInt32)))) (.int 0) := V342
          have hvl : own_vl v = 2 := own_vl2 hc42_251 hc42_260
          have f344 : Fld Z h342 t "com/example/rank_to_reach/ranktoreach/Postings$Writer" "size" "I" (.int ((sz + (1 : Int32)) + (1 : Int32))) := (F340.other W342 (Or.inl (own_nn (by omega))))
          have hsz2 : sz + own_vI v = own_inc sz 2 := by
            rw [own_inc_vI hvl]
            simp only [own_inc, Int32.add_assoc]
            rfl
          have hP2 := own_post (L' := ((L0.set (sz.toNatClampNeg + 0) (.int (nar .byte ((((own_r v 0) &&& (127 : Int32)) ||| (128 : Int32)).toInt8.toInt32)))).set (sz.toNatClampNeg + 1) (.int (nar .byte ((own_r v 1).toInt8.toInt32))))) (i := sz.toNatClampNeg) (k := 1) hvl (by omega) rfl hLp
          have hyN : (32 : Int32).toNatClampNeg = 32 := by decide
          have hc16 : 16 < sz.toInt + 5 := by
            have q := Int32.lt_iff_toInt_lt.mp hc11_240
            have a : (16 : Int32).toInt = 16 := by decide
            omega
          have K345 : Keep h0 h342 [t, a] := (((((((Keep.refl h0 [t, a]).trans K244 all0).wr W249 (Or.inl (List.mem_of_getElem? (i := 0) rfl))).wr W256 (Or.inl (List.mem_of_getElem? (i := 0) rfl))).wr W258 (Or.inr (by omega))).wr W340 (Or.inl (List.mem_of_getElem? (i := 0) rfl))).wr W342 (Or.inr (by omega)))
          have f346 : Exa Z h342 t "com/example/rank_to_reach/ranktoreach/Postings$Writer" := ((f339.wr W340).wr W342)
          have f347 : Fld Z h342 t "com/example/rank_to_reach/ranktoreach/Postings$Writer" "bytes" "[B" (.ref b_244) := ((f335.other W340 (Or.inr (slot_ne (Or.inl (own_w hw 18 rfl)) (Or.inl (own_w hw 27 rfl)) (by decide) (t := (.array .byte)) (t' := .int) (by decide) (by decide)))).other W342 (Or.inl (own_nn (by omega))))
          have f348 : Fld Z h342 t "com/example/rank_to_reach/ranktoreach/Postings$Writer" "last" "I" (.int lst) := ((((((F_last.keep K244 nin0).other W249 (Or.inr (slot_ne (Or.inl (own_w hw 20 rfl)) (Or.inl (own_w hw 18 rfl)) (by decide) (t := .int) (t' := (.array .byte)) (by decide) (by decide)))).other W256 (Or.inr (slot_ne (Or.inl (own_w hw 20 rfl)) (Or.inl (own_w hw 27 rfl)) (by decide) (t := .int) (t' := .int) (by decide) (by decide)))).other W258 (Or.inl (own_nn (by omega)))).other W340 (Or.inr (slot_ne (Or.inl (own_w hw 20 rfl)) (Or.inl (own_w hw 27 rfl)) (by decide) (t := .int) (t' := .int) (by decide) (by decide)))).other W342 (Or.inl (own_nn (by omega))))
          have f349 : Fld Z h342 t "com/example/rank_to_reach/ranktoreach/Postings$Writer" "count" "I" (.int cnt) := ((((((F_count.keep K244 nin0).other W249 (Or.inr (slot_ne (Or.inl (own_w hw 44 rfl)) (Or.inl (own_w hw 18 rfl)) (by decide) (t := .int) (t' := (.array .byte)) (by decide) (by decide)))).other W256 (Or.inr (slot_ne (Or.inl (own_w hw 44 rfl)) (Or.inl (own_w hw 27 rfl)) (by decide) (t := .int) (t' := .int) (by decide) (by decide)))).other W258 (Or.inl (own_nn (by omega)))).other W340 (Or.inr (slot_ne (Or.inl (own_w hw 44 rfl)) (Or.inl (own_w hw 27 rfl)) (by decide) (t := .int) (t' := .int) (by decide) (by decide)))).other W342 (Or.inl (own_nn (by omega))))
          obtain ⟨fs, hr, hrun, hended, hW, hsame⟩ := X342.leave (v := none) (fun _ => rfl)
          refine own_ret (t := T342.setFrames fs) ?_ ⟨_, hrun, hended, _, _, rfl, ?_, ⟨_, rfl⟩, hW, hsame.mono (by decide) (by decide)⟩
          · exact X342.returnOut hx Bd.returns (hb hby d9_96) hr
          · show Q_put1 Z _ _ _ _ _ _ _ _ _ h0 n0 _ T342.heap _
            rw [e342]
            exact ⟨b_244, kb_244, (32 : Int32), ((L0.set (sz.toNatClampNeg + 0) (.int (nar .byte ((((own_r v 0) &&& (127 : Int32)) ||| (128 : Int32)).toInt8.toInt32)))).set (sz.toNatClampNeg + 1) (.int (nar .byte ((own_r v 1).toInt8.toInt32)))), rfl, N342, K345, f346, f347, (by rw [hsz2]; exact f344), f348, f349, V343, ⟨(by omega), Or.inr (by omega)⟩, (Or.inr (Or.inr rfl)), (fun q => absurd hc16 (by omega)), (by rw [hyN, hvl]; omega), hP2.1, hP2.2⟩
      · refine own_icmpYes X249.here hx hby (pc' := 78) d9_42 (flt hc42_251).2.2.2 (by decide) (by decide) ?_
        refine own_aloadN X249.here hx hby d9_78 rfl rfl ?_
        refine own_getF X249 hx hZ hown (host := "") (Or.inl (own_w hw 17 rfl)) Via.refl e249 F249 hby d9_79 ?_
        intro T350 X350 e350
        refine own_aloadN X350.here hx hby d9_82 rfl rfl ?_
        refine own_dup X350.here hx hby d9_83 rfl ?_
        have f351 : Fld Z h249 t "com/example/rank_to_reach/ranktoreach/Postings$Writer" "size" "I" (.int sz) := ((F_size.keep K244 nin0).other W249 (Or.inr (slot_ne (Or.inl (own_w hw 27 rfl)) (Or.inl (own_w hw 18 rfl)) (by decide) (t := .int) (t' := (.array .byte)) (by decide) (by decide))))
        refine own_getF X350 hx hZ hown (host := "") (Or.inl (own_w hw 26 rfl)) Via.refl e350 f351 hby d9_84 ?_
        intro T352 X352 e352
        refine own_dupX1 X352.here hx hby d9_87 rfl rfl ?_
        refine own_iconst X352.here hx hby d9_88 (v := (1 : Int32)) (by decide) ?_
        refine own_iadd X352.here hx hby d9_89 rfl ?_
        have f353 : Exa Z h249 t "com/example/rank_to_reach/ranktoreach/Postings$Writer" := (f247.wr W249)
        refine own_putF X352 hx hZ (ty := .int) hown (host := "") (Or.inl (own_w hw 26 rfl)) Via.refl e352 f351 f353 (Or.inl (own_w hw 27 rfl)) (own_w hw 7 rfl) (by decide) rfl rfl hby d9_90 N249 g_t ?_
        intro T354 h354 lo354 X354 e354 N354 W354 F354 z354
        refine own_iloadN X354.here hx hby d9_93 rfl ?_
        refine own_i2b X354.here hx hby d9_94 rfl ?_
        have f355 : Arv Z h354 b_244 kb_244 .byte (32 : Int32) L0 (.int 0) := (VL.other W354 (own_nn (by omega)))
        refine own_bastore X354 hx hZ e354 f355 (own_inc_in hs0 hs16 0 (by decide) (by have h_ : (32 : Int32).toInt = 32 := (by decide); omega)) (sz.toNatClampNeg + 0) (own_inc_nat hs0 hs16 0 (by decide)) (by first | omega | (simp only [List.length_set]; omega)) rfl hby d9_95 N354 (by omega) ?_
        intro T356 h356 lo356 X356 e356 N356 W356 V356 z356
        have V357 : Arv Z h356 b_244 kb_244 .byte (32 : Int32) (L0.set (sz.toNatClampNeg + 0) (.int (nar .byte ((own_r v 0).toInt8.toInt32)))) (.int 0) := V356
        have hvl : own_vl v = 1 := own_vl1 hc42_251
        have f358 : Fld Z h356 t "com/example/rank_to_reach/ranktoreach/Postings$Writer" "size" "I" (.int (sz + (1 : Int32))) := (F354.other W356 (Or.inl (own_nn (by omega))))
        have hsz2 : sz + own_vI v = own_inc sz 1 := by
          rw [own_inc_vI hvl]
          simp only [own_inc, Int32.add_assoc]
          rfl
        have hP2 := own_post (L' := (L0.set (sz.toNatClampNeg + 0) (.int (nar .byte ((own_r v 0).toInt8.toInt32))))) (i := sz.toNatClampNeg) (k := 0) hvl (by omega) rfl hLp
        have hyN : (32 : Int32).toNatClampNeg = 32 := by decide
        have hc16 : 16 < sz.toInt + 5 := by
          have q := Int32.lt_iff_toInt_lt.mp hc11_240
          have a : (16 : Int32).toInt = 16 := by decide
          omega
        have K359 : Keep h0 h356 [t, a] := (((((Keep.refl h0 [t, a]).trans K244 all0).wr W249 (Or.inl (List.mem_of_getElem? (i := 0) rfl))).wr W354 (Or.inl (List.mem_of_getElem? (i := 0) rfl))).wr W356 (Or.inr (by omega)))
        have f360 : Exa Z h356 t "com/example/rank_to_reach/ranktoreach/Postings$Writer" := ((f353.wr W354).wr W356)
        have f361 : Fld Z h356 t "com/example/rank_to_reach/ranktoreach/Postings$Writer" "bytes" "[B" (.ref b_244) := ((F249.other W354 (Or.inr (slot_ne (Or.inl (own_w hw 18 rfl)) (Or.inl (own_w hw 27 rfl)) (by decide) (t := (.array .byte)) (t' := .int) (by decide) (by decide)))).other W356 (Or.inl (own_nn (by omega))))
        have f362 : Fld Z h356 t "com/example/rank_to_reach/ranktoreach/Postings$Writer" "last" "I" (.int lst) := ((((F_last.keep K244 nin0).other W249 (Or.inr (slot_ne (Or.inl (own_w hw 20 rfl)) (Or.inl (own_w hw 18 rfl)) (by decide) (t := .int) (t' := (.array .byte)) (by decide) (by decide)))).other W354 (Or.inr (slot_ne (Or.inl (own_w hw 20 rfl)) (Or.inl (own_w hw 27 rfl)) (by decide) (t := .int) (t' := .int) (by decide) (by decide)))).other W356 (Or.inl (own_nn (by omega))))
        have f363 : Fld Z h356 t "com/example/rank_to_reach/ranktoreach/Postings$Writer" "count" "I" (.int cnt) := ((((F_count.keep K244 nin0).other W249 (Or.inr (slot_ne (Or.inl (own_w hw 44 rfl)) (Or.inl (own_w hw 18 rfl)) (by decide) (t := .int) (t' := (.array .byte)) (by decide) (by decide)))).other W354 (Or.inr (slot_ne (Or.inl (own_w hw 44 rfl)) (Or.inl (own_w hw 27 rfl)) (by decide) (t := .int) (t' := .int) (by decide) (by decide)))).other W356 (Or.inl (own_nn (by omega))))
        obtain ⟨fs, hr, hrun, hended, hW, hsame⟩ := X356.leave (v := none) (fun _ => rfl)
        refine own_ret (t := T356.setFrames fs) ?_ ⟨_, hrun, hended, _, _, rfl, ?_, ⟨_, rfl⟩, hW, hsame.mono (by decide) (by decide)⟩
        · exact X356.returnOut hx Bd.returns (hb hby d9_96) hr
        · show Q_put1 Z _ _ _ _ _ _ _ _ _ h0 n0 _ T356.heap _
          rw [e356]
          exact ⟨b_244, kb_244, (32 : Int32), (L0.set (sz.toNatClampNeg + 0) (.int (nar .byte ((own_r v 0).toInt8.toInt32)))), rfl, N356, K359, f360, f361, (by rw [hsz2]; exact f358), f362, f363, V357, ⟨(by omega), Or.inr (by omega)⟩, (Or.inr (Or.inr rfl)), (fun q => absurd hc16 (by omega)), (by rw [hyN, hvl]; omega), hP2.1, hP2.2⟩
    · refine own_icmpYes X239.here hx hby (pc' := 37) d9_11 (flt hc11_240).2.2.2 (by decide) (by decide) ?_
      have hroom : sz.toInt + 5 ≤ 16 := by
        have q := Int32.lt_iff_toInt_lt (x := (16 : Int32)) (y := (sz + (5 : Int32)))
        have a : (16 : Int32).toInt = 16 := by decide
        rw [a, h5] at q
        first | omega | (have h_ : ¬ (16 < sz.toInt + 5) := fun r => hc11_240 (q.mpr r); omega)
      obtain ⟨L0, VL, hLl, hLp⟩ : ∃ L0 : List Value, Arv Z h0 a ka .byte (16 : Int32) L0 (.int 0) ∧ 16 ≤ L0.length ∧ ∀ j, j < sz.toNatClampNeg → L0.getD j (.int 0) = vs.getD j (.int 0) := ⟨vs ++ List.replicate 16 (.int 0), V_a.pad (pad_rep vs (.int 0) 16), by rw [List.length_append, List.length_replicate]; omega, fun j hj => by
        have := own_clamp hs0
        rw [pad_rep]⟩
      have hcl := own_clamp hs0
      refine own_iloadN X239.here hx hby d9_37 rfl ?_
      refine own_istoreN X239.here hx hby d9_38 (l' := #[.val (.ref t), .val (.int v), .val (.int v)]) rfl ?_
      refine own_sh (T := T239) 39 #[.val (.ref t), .val (.int v), .val (.int (own_r v 0))] [] ?_
      refine own_iloadN X239.here hx hby d9_39 rfl ?_
      refine own_bipush X239.here hx hby d9_40 (v := (127 : Int32)) (by decide) ?_
      by_cases hc42_364 : (127 : Int32) < (own_r v 0)
      · refine own_icmpNo X239.here hx hby d9_42 (tlt hc42_364).2.2.2 ?_
        refine own_aloadN X239.here hx hby d9_45 rfl rfl ?_
        refine own_getF X239 hx hZ hown (host := "") (Or.inl (own_w hw 17 rfl)) Via.refl e239 F_bytes hby d9_46 ?_
        intro T365 X365 e365
        refine own_aloadN X365.here hx hby d9_49 rfl rfl ?_
        refine own_dup X365.here hx hby d9_50 rfl ?_
        refine own_getF X365 hx hZ hown (host := "") (Or.inl (own_w hw 26 rfl)) Via.refl e365 F_size hby d9_51 ?_
        intro T366 X366 e366
        refine own_dupX1 X366.here hx hby d9_54 rfl rfl ?_
        refine own_iconst X366.here hx hby d9_55 (v := (1 : Int32)) (by decide) ?_
        refine own_iadd X366.here hx hby d9_56 rfl ?_
        refine own_putF X366 hx hZ (ty := .int) hown (host := "") (Or.inl (own_w hw 26 rfl)) Via.refl e366 F_size E_t (Or.inl (own_w hw 27 rfl)) (own_w hw 7 rfl) (by decide) rfl rfl hby d9_57 N0 g_t ?_
        intro T367 h367 lo367 X367 e367 N367 W367 F367 z367
        refine own_iloadN X367.here hx hby d9_60 rfl ?_
        refine own_bipush X367.here hx hby d9_61 (v := (127 : Int32)) (by decide) ?_
        refine own_iand X367.here hx hby d9_63 rfl ?_
        refine own_sipush X367.here hx hby d9_64 (v := (128 : Int32)) (by decide) ?_
        refine own_ior X367.here hx hby d9_67 rfl ?_
        refine own_i2b X367.here hx hby d9_68 rfl ?_
        have f368 : Arv Z h367 a ka .byte (16 : Int32) L0 (.int 0) := (VL.other W367 (Ne.symm (own_ne_oa E_t (own_w hw 7 rfl) V_a)))
        refine own_bastore X367 hx hZ e367 f368 (own_inc_in hs0 hs16 0 (by decide) (by have h_ : (16 : Int32).toInt = 16 := (by decide); omega)) (sz.toNatClampNeg + 0) (own_inc_nat hs0 hs16 0 (by decide)) (by first | omega | (simp only [List.length_set]; omega)) rfl hby d9_69 N367 g_a ?_
        intro T369 h369 lo369 X369 e369 N369 W369 V369 z369
        have V370 : Arv Z h369 a ka .byte (16 : Int32) (L0.set (sz.toNatClampNeg + 0) (.int (nar .byte ((((own_r v 0) &&& (127 : Int32)) ||| (128 : Int32)).toInt8.toInt32)))) (.int 0) := V369
        refine own_iloadN X369.here hx hby d9_70 rfl ?_
        refine own_bipush X369.here hx hby d9_71 (v := (7 : Int32)) (by decide) ?_
        refine own_iushr X369.here hx hby d9_73 rfl ?_
        refine own_istoreN X369.here hx hby d9_74 (l' := #[.val (.ref t), .val (.int v), .val (.int (((own_r v 0).toUInt32 >>> ((7 : Int32) &&& 31).toUInt32).toInt32))]) rfl ?_
        refine own_goto X369.here hx hby (pc' := 39) d9_75 (by decide) (by decide) ?_
        refine own_sh (T := T369) 39 #[.val (.ref t), .val (.int v), .val (.int (own_r v 1))] [] ?_
        refine own_iloadN X369.here hx hby d9_39 rfl ?_
        refine own_bipush X369.here hx hby d9_40 (v := (127 : Int32)) (by decide) ?_
        by_cases hc42_371 : (127 : Int32) < (own_r v 1)
        · refine own_icmpNo X369.here hx hby d9_42 (tlt hc42_371).2.2.2 ?_
          refine own_aloadN X369.here hx hby d9_45 rfl rfl ?_
          have f372 : Fld Z h369 t "com/example/rank_to_reach/ranktoreach/Postings$Writer" "bytes" "[B" (.ref a) := ((F_bytes.other W367 (Or.inr (slot_ne (Or.inl (own_w hw 18 rfl)) (Or.inl (own_w hw 27 rfl)) (by decide) (t := (.array .byte)) (t' := .int) (by decide) (by decide)))).other W369 (Or.inl (own_ne_oa E_t (own_w hw 7 rfl) V_a)))
          refine own_getF X369 hx hZ hown (host := "") (Or.inl (own_w hw 17 rfl)) Via.refl e369 f372 hby d9_46 ?_
          intro T373 X373 e373
          refine own_aloadN X373.here hx hby d9_49 rfl rfl ?_
          refine own_dup X373.here hx hby d9_50 rfl ?_
          have f374 : Fld Z h369 t "com/example/rank_to_reach/ranktoreach/Postings$Writer" "size" "I" (.int (sz + (1 : Int32))) := (F367.other W369 (Or.inl (own_ne_oa E_t (own_w hw 7 rfl) V_a)))
          refine own_getF X373 hx hZ hown (host := "") (Or.inl (own_w hw 26 rfl)) Via.refl e373 f374 hby d9_51 ?_
          intro T375 X375 e375
          refine own_dupX1 X375.here hx hby d9_54 rfl rfl ?_
          refine own_iconst X375.here hx hby d9_55 (v := (1 : Int32)) (by decide) ?_
          refine own_iadd X375.here hx hby d9_56 rfl ?_
          have f376 : Exa Z h369 t "com/example/rank_to_reach/ranktoreach/Postings$Writer" := ((E_t.wr W367).wr W369)
          refine own_putF X375 hx hZ (ty := .int) hown (host := "") (Or.inl (own_w hw 26 rfl)) Via.refl e375 f374 f376 (Or.inl (own_w hw 27 rfl)) (own_w hw 7 rfl) (by decide) rfl rfl hby d9_57 N369 g_t ?_
          intro T377 h377 lo377 X377 e377 N377 W377 F377 z377
          refine own_iloadN X377.here hx hby d9_60 rfl ?_
          refine own_bipush X377.here hx hby d9_61 (v := (127 : Int32)) (by decide) ?_
          refine own_iand X377.here hx hby d9_63 rfl ?_
          refine own_sipush X377.here hx hby d9_64 (v := (128 : Int32)) (by decide) ?_
          refine own_ior X377.here hx hby d9_67 rfl ?_
          refine own_i2b X377.here hx hby d9_68 rfl ?_
          have f378 : Arv Z h377 a ka .byte (16 : Int32) (L0.set (sz.toNatClampNeg + 0) (.int (nar .byte ((((own_r v 0) &&& (127 : Int32)) ||| (128 : Int32)).toInt8.toInt32)))) (.int 0) := (V370.other W377 (Ne.symm (own_ne_oa E_t (own_w hw 7 rfl) V_a)))
          refine own_bastore X377 hx hZ e377 f378 (own_inc_in hs0 hs16 1 (by decide) (by have h_ : (16 : Int32).toInt = 16 := (by decide); omega)) (sz.toNatClampNeg + 1) (own_inc_nat hs0 hs16 1 (by decide)) (by first | omega | (simp only [List.length_set]; omega)) rfl hby d9_69 N377 g_a ?_
          intro T379 h379 lo379 X379 e379 N379 W379 V379 z379
          have V380 : Arv Z h379 a ka .byte (16 : Int32) ((L0.set (sz.toNatClampNeg + 0) (.int (nar .byte ((((own_r v 0) &&& (127 : Int32)) ||| (128 : Int32)).toInt8.toInt32)))).set (sz.toNatClampNeg + 1) (.int (nar .byte ((((own_r v 1) &&& (127 : Int32)) ||| (128 : Int32)).toInt8.toInt32)))) (.int 0) := V379
          refine own_iloadN X379.here hx hby d9_70 rfl ?_
          refine own_bipush X379.here hx hby d9_71 (v := (7 : Int32)) (by decide) ?_
          refine own_iushr X379.here hx hby d9_73 rfl ?_
          refine own_istoreN X379.here hx hby d9_74 (l' := #[.val (.ref t), .val (.int v), .val (.int (((own_r v 1).toUInt32 >>> ((7 : Int32) &&& 31).toUInt32).toInt32))]) rfl ?_
          refine own_goto X379.here hx hby (pc' := 39) d9_75 (by decide) (by decide) ?_
          refine own_sh (T := T379) 39 #[.val (.ref t), .val (.int v), .val (.int (own_r v 2))] [] ?_
          refine own_iloadN X379.here hx hby d9_39 rfl ?_
          refine own_bipush X379.here hx hby d9_40 (v := (127 : Int32)) (by decide) ?_
          by_cases hc42_381 : (127 : Int32) < (own_r v 2)
          · refine own_icmpNo X379.here hx hby d9_42 (tlt hc42_381).2.2.2 ?_
            refine own_aloadN X379.here hx hby d9_45 rfl rfl ?_
            have f382 : Fld Z h379 t "com/example/rank_to_reach/ranktoreach/Postings$Writer" "bytes" "[B" (.ref a) := ((f372.other W377 (Or.inr (slot_ne (Or.inl (own_w hw 18 rfl)) (Or.inl (own_w hw 27 rfl)) (by decide) (t := (.array .byte)) (t' := .int) (by decide) (by decide)))).other W379 (Or.inl (own_ne_oa E_t (own_w hw 7 rfl) V_a)))
            refine own_getF X379 hx hZ hown (host := "") (Or.inl (own_w hw 17 rfl)) Via.refl e379 f382 hby d9_46 ?_
            intro T383 X383 e383
            refine own_aloadN X383.here hx hby d9_49 rfl rfl ?_
            refine own_dup X383.here hx hby d9_50 rfl ?_
            have f384 : Fld Z h379 t "com/example/rank_to_reach/ranktoreach/Postings$Writer" "size" "I" (.int ((sz + (1 : Int32)) + (1 : Int32))) := (F377.other W379 (Or.inl (own_ne_oa E_t (own_w hw 7 rfl) V_a)))
            refine own_getF X383 hx hZ hown (host := "") (Or.inl (own_w hw 26 rfl)) Via.refl e383 f384 hby d9_51 ?_
            intro T385 X385 e385
            refine own_dupX1 X385.here hx hby d9_54 rfl rfl ?_
            refine own_iconst X385.here hx hby d9_55 (v := (1 : Int32)) (by decide) ?_
            refine own_iadd X385.here hx hby d9_56 rfl ?_
            have f386 : Exa Z h379 t "com/example/rank_to_reach/ranktoreach/Postings$Writer" := ((f376.wr W377).wr W379)
            refine own_putF X385 hx hZ (ty := .int) hown (host := "") (Or.inl (own_w hw 26 rfl)) Via.refl e385 f384 f386 (Or.inl (own_w hw 27 rfl)) (own_w hw 7 rfl) (by decide) rfl rfl hby d9_57 N379 g_t ?_
            intro T387 h387 lo387 X387 e387 N387 W387 F387 z387
            refine own_iloadN X387.here hx hby d9_60 rfl ?_
            refine own_bipush X387.here hx hby d9_61 (v := (127 : Int32)) (by decide) ?_
            refine own_iand X387.here hx hby d9_63 rfl ?_
            refine own_sipush X387.here hx hby d9_64 (v := (128 : Int32)) (by decide) ?_
            refine own_ior X387.here hx hby d9_67 rfl ?_
            refine own_i2b X387.here hx hby d9_68 rfl ?_
            have f388 : Arv Z h387 a ka .byte (16 : Int32) ((L0.set (sz.toNatClampNeg + 0) (.int (nar .byte ((((own_r v 0) &&& (127 : Int32)) ||| (128 : Int32)).toInt8.toInt32)))).set (sz.toNatClampNeg + 1) (.int (nar .byte ((((own_r v 1) &&& (127 : Int32)) ||| (128 : Int32)).toInt8.toInt32)))) (.int 0) := (V380.other W387 (Ne.symm (own_ne_oa E_t (own_w hw 7 rfl) V_a)))
            refine own_bastore X387 hx hZ e387 f388 (own_inc_in hs0 hs16 2 (by decide) (by have h_ : (16 : Int32).toInt = 16 := (by decide); omega)) (sz.toNatClampNeg + 2) (own_inc_nat hs0 hs16 2 (by decide)) (by first | omega | (simp only [List.length_set]; omega)) rfl hby d9_69 N387 g_a ?_
            intro T389 h389 lo389 X389 e389 N389 W389 V389 z389
            have V390 : Arv Z h389 a ka .byte (16 : Int32) (((L0.set (sz.toNatClampNeg + 0) (.int (nar .byte ((((own_r v 0) &&& (127 : Int32)) ||| (128 : Int32)).toInt8.toInt32)))).set (sz.toNatClampNeg + 1) (.int (nar .byte ((((own_r v 1) &&& (127 : Int32)) ||| (128 : Int32)).toInt8.toInt32)))).set (sz.toNatClampNeg + 2) (.int (nar .byte ((((own_r v 2) &&& (127 : Int32)) ||| (128 : Int32)).toInt8.toInt32)))) (.int 0) := V389
            refine own_iloadN X389.here hx hby d9_70 rfl ?_
            refine own_bipush X389.here hx hby d9_71 (v := (7 : Int32)) (by decide) ?_
            refine own_iushr X389.here hx hby d9_73 rfl ?_
            refine own_istoreN X389.here hx hby d9_74 (l' := #[.val (.ref t), .val (.int v), .val (.int (((own_r v 2).toUInt32 >>> ((7 : Int32) &&& 31).toUInt32).toInt32))]) rfl ?_
            refine own_goto X389.here hx hby (pc' := 39) d9_75 (by decide) (by decide) ?_
            refine own_sh (T := T389) 39 #[.val (.ref t), .val (.int v), .val (.int (own_r v 3))] [] ?_
            refine own_iloadN X389.here hx hby d9_39 rfl ?_
            refine own_bipush X389.here hx hby d9_40 (v := (127 : Int32)) (by decide) ?_
            by_cases hc42_391 : (127 : Int32) < (own_r v 3)
            · refine own_icmpNo X389.here hx hby d9_42 (tlt hc42_391).2.2.2 ?_
              refine own_aloadN X389.here hx hby d9_45 rfl rfl ?_
              have f392 : Fld Z h389 t "com/example/rank_to_reach/ranktoreach/Postings$Writer" "bytes" "[B" (.ref a) := ((f382.other W387 (Or.inr (slot_ne (Or.inl (own_w hw 18 rfl)) (Or.inl (own_w hw 27 rfl)) (by decide) (t := (.array .byte)) (t' := .int) (by decide) (by decide)))).other W389 (Or.inl (own_ne_oa E_t (own_w hw 7 rfl) V_a)))
              refine own_getF X389 hx hZ hown (host := "") (Or.inl (own_w hw 17 rfl)) Via.refl e389 f392 hby d9_46 ?_
              intro T393 X393 e393
              refine own_aloadN X393.here hx hby d9_49 rfl rfl ?_
              refine own_dup X393.here hx hby d9_50 rfl ?_
              have f394 : Fld Z h389 t "com/example/rank_to_reach/ranktoreach/Postings$Writer" "size" "I" (.int (((sz + (1 : Int32)) + (1 : Int32)) + (1 : Int32))) := (F387.other W389 (Or.inl (own_ne_oa E_t (own_w hw 7 rfl) V_a)))
              refine own_getF X393 hx hZ hown (host := "") (Or.inl (own_w hw 26 rfl)) Via.refl e393 f394 hby d9_51 ?_
              intro T395 X395 e395
              refine own_dupX1 X395.here hx hby d9_54 rfl rfl ?_
              refine own_iconst X395.here hx hby d9_55 (v := (1 : Int32)) (by decide) ?_
              refine own_iadd X395.here hx hby d9_56 rfl ?_
              have f396 : Exa Z h389 t "com/example/rank_to_reach/ranktoreach/Postings$Writer" := ((f386.wr W387).wr W389)
              refine own_putF X395 hx hZ (ty := .int) hown (host := "") (Or.inl (own_w hw 26 rfl)) Via.refl e395 f394 f396 (Or.inl (own_w hw 27 rfl)) (own_w hw 7 rfl) (by decide) rfl rfl hby d9_57 N389 g_t ?_
              intro T397 h397 lo397 X397 e397 N397 W397 F397 z397
              refine own_iloadN X397.here hx hby d9_60 rfl ?_
              refine own_bipush X397.here hx hby d9_61 (v := (127 : Int32)) (by decide) ?_
              refine own_iand X397.here hx hby d9_63 rfl ?_
              refine own_sipush X397.here hx hby d9_64 (v := (128 : Int32)) (by decide) ?_
              refine own_ior X397.here hx hby d9_67 rfl ?_
              refine own_i2b X397.here hx hby d9_68 rfl ?_
              have f398 : Arv Z h397 a ka .byte (16 : Int32) (((L0.set (sz.toNatClampNeg + 0) (.int (nar .byte ((((own_r v 0) &&& (127 : Int32)) ||| (128 : Int32)).toInt8.toInt32)))).set (sz.toNatClampNeg + 1) (.int (nar .byte ((((own_r v 1) &&& (127 : Int32)) ||| (128 : Int32)).toInt8.toInt32)))).set (sz.toNatClampNeg + 2) (.int (nar .byte ((((own_r v 2) &&& (127 : Int32)) ||| (128 : Int32)).toInt8.toInt32)))) (.int 0) := (V390.other W397 (Ne.symm (own_ne_oa E_t (own_w hw 7 rfl) V_a)))
              refine own_bastore X397 hx hZ e397 f398 (own_inc_in hs0 hs16 3 (by decide) (by have h_ : (16 : Int32).toInt = 16 := (by decide); omega)) (sz.toNatClampNeg + 3) (own_inc_nat hs0 hs16 3 (by decide)) (by first | omega | (simp only [List.length_set]; omega)) rfl hby d9_69 N397 g_a ?_
              intro T399 h399 lo399 X399 e399 N399 W399 V399 z399
              have V400 : Arv Z h399 a ka .byte (16 : Int32) ((((L0.set (sz.toNatClampNeg + 0) (.int (nar .byte ((((own_r v 0) &&& (127 : Int32)) ||| (128 : Int32)).toInt8.toInt32)))).set (sz.toNatClampNeg + 1) (.int (nar .byte ((((own_r v 1) &&& (127 : Int32)) ||| (128 : Int32)).toInt8.toInt32)))).set (sz.toNatClampNeg + 2) (.int (nar .byte ((((own_r v 2) &&& (127 : Int32)) ||| (128 : Int32)).toInt8.toInt32)))).set (sz.toNatClampNeg + 3) (.int (nar .byte ((((own_r v 3) &&& (127 : Int32)) ||| (128 : Int32)).toInt8.toInt32)))) (.int 0) := V399
              refine own_iloadN X399.here hx hby d9_70 rfl ?_
              refine own_bipush X399.here hx hby d9_71 (v := (7 : Int32)) (by decide) ?_
              refine own_iushr X399.here hx hby d9_73 rfl ?_
              refine own_istoreN X399.here hx hby d9_74 (l' := #[.val (.ref t), .val (.int v), .val (.int (((own_r v 3).toUInt32 >>> ((7 : Int32) &&& 31).toUInt32).toInt32))]) rfl ?_
              refine own_goto X399.here hx hby (pc' := 39) d9_75 (by decide) (by decide) ?_
              refine own_sh (T := T399) 39 #[.val (.ref t), .val (.int v), .val (.int (own_r v 4))] [] ?_
              refine own_iloadN X399.here hx hby d9_39 rfl ?_
              refine own_bipush X399.here hx hby d9_40 (v := (127 : Int32)) (by decide) ?_
              refine own_icmpYes X399.here hx hby (pc' := 78) d9_42 (flt (show ¬ ((127 : Int32) < (own_r v 4)) from (own_r4 v hv))).2.2.2 (by decide) (by decide) ?_
              refine own_aloadN X399.here hx hby d9_78 rfl rfl ?_
              have f401 : Fld Z h399 t "com/example/rank_to_reach/ranktoreach/Postings$Writer" "bytes" "[B" (.ref a) := ((f392.other W397 (Or.inr (slot_ne (Or.inl (own_w hw 18 rfl)) (Or.inl (own_w hw 27 rfl)) (by decide) (t := (.array .byte)) (t' := .int) (by decide) (by decide)))).other W399 (Or.inl (own_ne_oa E_t (own_w hw 7 rfl) V_a)))
              refine own_getF X399 hx hZ hown (host := "") (Or.inl (own_w hw 17 rfl)) Via.refl e399 f401 hby d9_79 ?_
              intro T402 X402 e402
              refine own_aloadN X402.here hx hby d9_82 rfl rfl ?_
              refine own_dup X402.here hx hby d9_83 rfl ?_
              have f403 : Fld Z h399 t "com/example/rank_to_reach/ranktoreach/Postings$Writer" "size" "I" (.int ((((sz + (1 : Int32)) + (1 : Int32)) + (1 : Int32)) + (1 : Int32))) := (F397.other W399 (Or.inl (own_ne_oa E_t (own_w hw 7 rfl) V_a)))
              refine own_getF X402 hx hZ hown (host := "") (Or.inl (own_w hw 26 rfl)) Via.refl e402 f403 hby d9_84 ?_
              intro T404 X404 e404
              refine own_dupX1 X404.here hx hby d9_87 rfl rfl ?_
              refine own_iconst X404.here hx hby d9_88 (v := (1 : Int32)) (by decide) ?_
              refine own_iadd X404.here hx hby d9_89 rfl ?_
              have f405 : Exa Z h399 t "com/example/rank_to_reach/ranktoreach/Postings$Writer" := ((f396.wr W397).wr W399)
              refine own_putF X404 hx hZ (ty := .int) hown (host := "") (Or.inl (own_w hw 26 rfl)) Via.refl e404 f403 f405 (Or.inl (own_w hw 27 rfl)) (own_w hw 7 rfl) (by decide) rfl rfl hby d9_90 N399 g_t ?_
              intro T406 h406 lo406 X406 e406 N406 W406 F406 z406
              refine own_iloadN X406.here hx hby d9_93 rfl ?_
              refine own_i2b X406.here hx hby d9_94 rfl ?_
              have f407 : Arv Z h406 a ka .byte (16 : Int32) ((((L0.set (sz.toNatClampNeg + 0) (.int (nar .byte ((((own_r v 0) &&& (127 : Int32)) ||| (128 : Int32)).toInt8.toInt32)))).set (sz.toNatClampNeg + 1) (.int (nar .byte ((((own_r v 1) &&& (127 : Int32)) ||| (128 : Int32)).toInt8.toInt32)))).set (sz.toNatClampNeg + 2) (.int (nar .byte ((((own_r v 2) &&& (127 : Int32)) ||| (128 : Int32)).toInt8.toInt32)))).set (sz.toNatClampNeg + 3) (.int (nar .byte ((((own_r v 3) &&& (127 : Int32)) ||| (128 : Int32)).toInt8.toInt32)))) (.int 0) := (V400.other W406 (Ne.symm (own_ne_oa E_t (own_w hw 7 rfl) V_a)))
              refine own_bastore X406 hx hZ e406 f407 (own_inc_in hs0 hs16 4 (by decide) (by have h_ : (16 : Int32).toInt = 16 := (by decide); omega)) (sz.toNatClampNeg + 4) (own_inc_nat hs0 hs16 4 (by decide)) (by first | omega | (simp only [List.length_set]; omega)) rfl hby d9_95 N406 g_a ?_
              intro T408 h408 lo408 X408 e408 N408 W408 V408 z408
              have V409 : Arv Z h408 a ka .byte (16 : Int32) (((((L0.set (sz.toNatClampNeg + 0) (.int (nar .byte ((((own_r v 0) &&& (127 : Int32)) ||| (128 : Int32)).toInt8.toInt32)))).set (sz.toNatClampNeg + 1) (.int (nar .byte ((((own_r v 1) &&& (127 : Int32)) ||| (128 : Int32)).toInt8.toInt32)))).set (sz.toNatClampNeg + 2) (.int (nar .byte ((((own_r v 2) &&& (127 : Int32)) ||| (128 : Int32)).toInt8.toInt32)))).set (sz.toNatClampNeg + 3) (.int (nar .byte ((((own_r v 3) &&& (127 : Int32)) ||| (128 : Int32)).toInt8.toInt32)))).set (sz.toNatClampNeg + 4) (.int (nar .byte ((own_r v 4).toInt8.toInt32)))) (.int 0) := V408
              have hvl : own_vl v = 5 := own_vl5 hc42_364 hc42_371 hc42_381 hc42_391
              have f410 : Fld Z h408 t "com/example/rank_to_reach/ranktoreach/Postings$Writer" "size" "I" (.int (((((sz + (1 : Int32)) + (1 : Int32)) + (1 : Int32)) + (1 : Int32)) + (1 : Int32))) := (F406.other W408 (Or.inl (own_ne_oa E_t (own_w hw 7 rfl) V_a)))
              have hsz2 : sz + own_vI v = own_inc sz 5 := by
                rw [own_inc_vI hvl]
                simp only [own_inc, Int32.add_assoc]
                rfl
              have hP2 := own_post (L' := (((((L0.set (sz.toNatClampNeg + 0) (.int (nar .byte ((((own_r v 0) &&& (127 : Int32)) ||| (128 : Int32)).toInt8.toInt32)))).set (sz.toNatClampNeg + 1) (.int (nar .byte ((((own_r v 1) &&& (127 : Int32)) ||| (128 : Int32)).toInt8.toInt32)))).set (sz.toNatClampNeg + 2) (.int (nar .byte ((((own_r v 2) &&& (127 : Int32)) ||| (128 : Int32)).toInt8.toInt32)))).set (sz.toNatClampNeg + 3) (.int (nar .byte ((((own_r v 3) &&& (127 : Int32)) ||| (128 : Int32)).toInt8.toInt32)))).set (sz.toNatClampNeg + 4) (.int (nar .byte ((own_r v 4).toInt8.toInt32))))) (i := sz.toNatClampNeg) (k := 4) hvl (by omega) rfl hLp
              have hyN : (16 : Int32).toNatClampNeg = 16 := by decide
              have K411 : Keep h0 h408 [t, a] := (((((((((((Keep.refl h0 [t, a]).wr W367 (Or.inl (List.mem_of_getElem? (i := 0) rfl))).wr W369 (Or.inl (List.mem_of_getElem? (i := 1) rfl))).wr W377 (Or.inl (List.mem_of_getElem? (i := 0) rfl))).wr W379 (Or.inl (List.mem_of_getElem? (i := 1) rfl))).wr W387 (Or.inl (List.mem_of_getElem? (i := 0) rfl))).wr W389 (Or.inl (List.mem_of_getElem? (i := 1) rfl))).wr W397 (Or.inl (List.mem_of_getElem? (i := 0) rfl))).wr W399 (Or.inl (List.mem_of_getElem? (i := 1) rfl))).wr W406 (Or.inl (List.mem_of_getElem? (i := 0) rfl))).wr W408 (Or.inl (List.mem_of_getElem? (i := 1) rfl)))
              have f412 : Exa Z h408 t "com/example/rank_to_reach/ranktoreach/Postings$Writer" := ((f405.wr W406).wr W408)
              have f413 : Fld Z h408 t "com/example/rank_to_reach/ranktoreach/Postings$Writer" "bytes" "[B" (.ref a) := ((f401.other W406 (Or.inr (slot_ne (Or.inl (own_w hw 18 rfl)) (Or.inl (own_w hw 27 rfl)) (by decide) (t := (.array .byte)) (t' := .int) (by decide) (by decide)))).other W408 (Or.inl (own_ne_oa E_t (own_w hw 7 rfl) V_a)))
              have f414 : Fld Z h408 t "com/example/rank_to_reach/ranktoreach/Postings$Writer" "last" "I" (.int lst) := ((((((((((F_last.other W367 (Or.inr (slot_ne (Or.inl (own_w hw 20 rfl)) (Or.inl (own_w hw 27 rfl)) (by decide) (t := .int) (t' := .int) (by decide) (by decide)))).other W369 (Or.inl (own_ne_oa E_t (own_w hw 7 rfl) V_a))).other W377 (Or.inr (slot_ne (Or.inl (own_w hw 20 rfl)) (Or.inl (own_w hw 27 rfl)) (by decide) (t := .int) (t' := .int) (by decide) (by decide)))).other W379 (Or.inl (own_ne_oa E_t (own_w hw 7 rfl) V_a))).other W387 (Or.inr (slot_ne (Or.inl (own_w hw 20 rfl)) (Or.inl (own_w hw 27 rfl)) (by decide) (t := .int) (t' := .int) (by decide) (by decide)))).other W389 (Or.inl (own_ne_oa E_t (own_w hw 7 rfl) V_a))).other W397 (Or.inr (slot_ne (Or.inl (own_w hw 20 rfl)) (Or.inl (own_w hw 27 rfl)) (by decide) (t := .int) (t' := .int) (by decide) (by decide)))).other W399 (Or.inl (own_ne_oa E_t (own_w hw 7 rfl) V_a))).other W406 (Or.inr (slot_ne (Or.inl (own_w hw 20 rfl)) (Or.inl (own_w hw 27 rfl)) (by decide) (t := .int) (t' := .int) (by decide) (by decide)))).other W408 (Or.inl (own_ne_oa E_t (own_w hw 7 rfl) V_a)))
              have f415 : Fld Z h408 t "com/example/rank_to_reach/ranktoreach/Postings$Writer" "count" "I" (.int cnt) := ((((((((((F_count.other W367 (Or.inr (slot_ne (Or.inl (own_w hw 44 rfl)) (Or.inl (own_w hw 27 rfl)) (by decide) (t := .int) (t' := .int) (by decide) (by decide)))).other W369 (Or.inl (own_ne_oa E_t (own_w hw 7 rfl) V_a))).other W377 (Or.inr (slot_ne (Or.inl (own_w hw 44 rfl)) (Or.inl (own_w hw 27 rfl)) (by decide) (t := .int) (t' := .int) (by decide) (by decide)))).other W379 (Or.inl (own_ne_oa E_t (own_w hw 7 rfl) V_a))).other W387 (Or.inr (slot_ne (Or.inl (own_w hw 44 rfl)) (Or.inl (own_w hw 27 rfl)) (by decide) (t := .int) (t' := .int) (by decide) (by decide)))).other W389 (Or.inl (own_ne_oa E_t (own_w hw 7 rfl) V_a))).other W397 (Or.inr (slot_ne (Or.inl (own_w hw 44 rfl)) (Or.inl (own_w hw 27 rfl)) (by decide) (t := .int) (t' := .int) (by decide) (by decide)))).other W399 (Or.inl (own_ne_oa E_t (own_w hw 7 rfl) V_a))).other W406 (Or.inr (slot_ne (Or.inl (own_w hw 44 rfl)) (Or.inl (own_w hw 27 rfl)) (by decide) (t := .int) (t' := .int) (by decide) (by decide)))).other W408 (Or.inl (own_ne_oa E_t (own_w hw 7 rfl) V_a)))
              obtain ⟨fs, hr, hrun, hended, hW, hsame⟩ := X408.leave (v := none) (fun _ => rfl)
              refine own_ret (t := T408.setFrames fs) ?_ ⟨_, hrun, hended, _, _, rfl, ?_, ⟨_, rfl⟩, hW, hsame.mono (by decide) (by decide)⟩
              · exact X408.returnOut hx Bd.returns (hb hby d9_96) hr
              · show Q_put1 Z _ _ _ _ _ _ _ _ _ h0 n0 _ T408.heap _
                rw [e408]
                exact ⟨a, ka, (16 : Int32), (((((L0.set (sz.toNatClampNeg + 0) (.int (nar .byte ((((own_r v 0) &&& (127 : Int32)) ||| (128 : Int32)).toInt8.toInt32)))).set (sz.toNatClampNeg + 1) (.int (nar .byte ((((own_r v 1) &&& (127 : Int32)) ||| (128 : Int32)).toInt8.toInt32)))).set (sz.toNatClampNeg + 2) (.int (nar .byte ((((own_r v 2) &&& (127 : Int32)) ||| (128 : Int32)).toInt8.toInt32)))).set (sz.toNatClampNeg + 3) (.int (nar .byte ((((own_r v 3) &&& (127 : Int32)) ||| (128 : Int32)).toInt8.toInt32)))).set (sz.toNatClampNeg + 4) (.int (nar .byte ((own_r v 4).toInt8.toInt32)))), rfl, N408, K411, f412, f413, (by rw [hsz2]; exact f410), f414, f415, V409, ⟨g_a, Or.inl rfl⟩, (Or.inr (Or.inl rfl)), (fun _ => Or.inr rfl), (by rw [hyN, hvl]; omega), hP2.1, hP2.2⟩
            · refine own_icmpYes X389.here hx hby (pc' := 78) d9_42 (flt hc42_391).2.2.2 (by decide) (by decide) ?_
              refine own_aloadN X389.here hx hby d9_78 rfl rfl ?_
              have f416 : Fld Z h389 t "com/example/rank_to_reach/ranktoreach/Postings$Writer" "bytes" "[B" (.ref a) := ((f382.other W387 (Or.inr (slot_ne (Or.inl (own_w hw 18 rfl)) (Or.inl (own_w hw 27 rfl)) (by decide) (t := (.array .byte)) (t' := .int) (by decide) (by decide)))).other W389 (Or.inl (own_ne_oa E_t (own_w hw 7 rfl) V_a)))
              refine own_getF X389 hx hZ hown (host := "") (Or.inl (own_w hw 17 rfl)) Via.refl e389 f416 hby d9_79 ?_
              intro T417 X417 e417
              refine own_aloadN X417.here hx hby d9_82 rfl rfl ?_
              refine own_dup X417.here hx hby d9_83 rfl ?_
              have f418 : Fld Z h389 t "com/example/rank_to_reach/ranktoreach/Postings$Writer" "size" "I" (.int (((sz + (1 : Int32)) + (1 : Int32)) + (1 : Int32))) := (F387.other W389 (Or.inl (own_ne_oa E_t (own_w hw 7 rfl) V_a)))
              refine own_getF X417 hx hZ hown (host := "") (Or.inl (own_w hw 26 rfl)) Via.refl e417 f418 hby d9_84 ?_
              intro T419 X419 e419
              refine own_dupX1 X419.here hx hby d9_87 rfl rfl ?_
              refine own_iconst X419.here hx hby d9_88 (v := (1 : Int32)) (by decide) ?_
              refine own_iadd X419.here hx hby d9_89 rfl ?_
              have f420 : Exa Z h389 t "com/example/rank_to_reach/ranktoreach/Postings$Writer" := ((f386.wr W387).wr W389)
              refine own_putF X419 hx hZ (ty := .int) hown (host := "") (Or.inl (own_w hw 26 rfl)) Via.refl e419 f418 f420 (Or.inl (own_w hw 27 rfl)) (own_w hw 7 rfl) (by decide) rfl rfl hby d9_90 N389 g_t ?_
              intro T421 h421 lo421 X421 e421 N421 W421 F421 z421
              refine own_iloadN X421.here hx hby d9_93 rfl ?_
              refine own_i2b X421.here hx hby d9_94 rfl ?_
              have f422 : Arv Z h421 a ka .byte (16 : Int32) (((L0.set (sz.toNatClampNeg + 0) (.int (nar .byte ((((own_r v 0) &&& (127 : Int32)) ||| (128 : Int32)).toInt8.toInt32)))).set (sz.toNatClampNeg + 1) (.int (nar .byte ((((own_r v 1) &&& (127 : Int32)) ||| (128 : Int32)).toInt8.toInt32)))).set (sz.toNatClampNeg + 2) (.int (nar .byte ((((own_r v 2) &&& (127 : Int32)) ||| (128 : Int32)).toInt8.toInt32)))) (.int 0) := (V390.other W421 (Ne.symm (own_ne_oa E_t (own_w hw 7 rfl) V_a)))
              refine own_bastore X421 hx hZ e421 f422 (own_inc_in hs0 hs16 3 (by decide) (by have h_ : (16 : Int32).toInt = 16 := (by decide); omega)) (sz.toNatClampNeg + 3) (own_inc_nat hs0 hs16 3 (by decide)) (by first | omega | (simp only [List.length_set]; omega)) rfl hby d9_95 N421 g_a ?_
              intro T423 h423 lo423 X423 e423 N423 W423 V423 z423
              have V424 : Arv Z h423 a ka .byte (16 : Int32) ((((L0.set (sz.toNatClampNeg + 0) (.int (nar .byte ((((own_r v 0) &&& (127 : Int32)) ||| (128 : Int32)).toInt8.toInt32)))).set (sz.toNatClampNeg + 1) (.int (nar .byte ((((own_r v 1) &&& (127 : Int32)) ||| (128 : Int32)).toInt8.toInt32)))).set (sz.toNatClampNeg + 2) (.int (nar .byte ((((own_r v 2) &&& (127 : Int32)) ||| (128 : Int32)).toInt8.toInt32)))).set (sz.toNatClampNeg + 3) (.int (nar .byte ((own_r v 3).toInt8.toInt32)))) (.int 0) := V423
              have hvl : own_vl v = 4 := own_vl4 hc42_364 hc42_371 hc42_381 hc42_391
              have f425 : Fld Z h423 t "com/example/rank_to_reach/ranktoreach/Postings$Writer" "size" "I" (.int ((((sz + (1 : Int32)) + (1 : Int32)) + (1 : Int32)) + (1 : Int32))) := (F421.other W423 (Or.inl (own_ne_oa E_t (own_w hw 7 rfl) V_a)))
              have hsz2 : sz + own_vI v = own_inc sz 4 := by
                rw [own_inc_vI hvl]
                simp only [own_inc, Int32.add_assoc]
                rfl
              have hP2 := own_post (L' := ((((L0.set (sz.toNatClampNeg + 0) (.int (nar .byte ((((own_r v 0) &&& (127 : Int32)) ||| (128 : Int32)).toInt8.toInt32)))).set (sz.toNatClampNeg + 1) (.int (nar .byte ((((own_r v 1) &&& (127 : Int32)) ||| (128 : Int32)).toInt8.toInt32)))).set (sz.toNatClampNeg + 2) (.int (nar .byte ((((own_r v 2) &&& (127 : Int32)) ||| (128 : Int32)).toInt8.toInt32)))).set (sz.toNatClampNeg + 3) (.int (nar .byte ((own_r v 3).toInt8.toInt32))))) (i := sz.toNatClampNeg) (k := 3) hvl (by omega) rfl hLp
              have hyN : (16 : Int32).toNatClampNeg = 16 := by decide
              have K426 : Keep h0 h423 [t, a] := (((((((((Keep.refl h0 [t, a]).wr W367 (Or.inl (List.mem_of_getElem? (i := 0) rfl))).wr W369 (Or.inl (List.mem_of_getElem? (i := 1) rfl))).wr W377 (Or.inl (List.mem_of_getElem? (i := 0) rfl))).wr W379 (Or.inl (List.mem_of_getElem? (i := 1) rfl))).wr W387 (Or.inl (List.mem_of_getElem? (i := 0) rfl))).wr W389 (Or.inl (List.mem_of_getElem? (i := 1) rfl))).wr W421 (Or.inl (List.mem_of_getElem? (i := 0) rfl))).wr W423 (Or.inl (List.mem_of_getElem? (i := 1) rfl)))
              have f427 : Exa Z h423 t "com/example/rank_to_reach/ranktoreach/Postings$Writer" := ((f420.wr W421).wr W423)
              have f428 : Fld Z h423 t "com/example/rank_to_reach/ranktoreach/Postings$Writer" "bytes" "[B" (.ref a) := ((f416.other W421 (Or.inr (slot_ne (Or.inl (own_w hw 18 rfl)) (Or.inl (own_w hw 27 rfl)) (by decide) (t := (.array .byte)) (t' := .int) (by decide) (by decide)))).other W423 (Or.inl (own_ne_oa E_t (own_w hw 7 rfl) V_a)))
              have f429 : Fld Z h423 t "com/example/rank_to_reach/ranktoreach/Postings$Writer" "last" "I" (.int lst) := ((((((((F_last.other W367 (Or.inr (slot_ne (Or.inl (own_w hw 20 rfl)) (Or.inl (own_w hw 27 rfl)) (by decide) (t := .int) (t' := .int) (by decide) (by decide)))).other W369 (Or.inl (own_ne_oa E_t (own_w hw 7 rfl) V_a))).other W377 (Or.inr (slot_ne (Or.inl (own_w hw 20 rfl)) (Or.inl (own_w hw 27 rfl)) (by decide) (t := .int) (t' := .int) (by decide) (by decide)))).other W379 (Or.inl (own_ne_oa E_t (own_w hw 7 rfl) V_a))).other W387 (Or.inr (slot_ne (Or.inl (own_w hw 20 rfl)) (Or.inl (own_w hw 27 rfl)) (by decide) (t := .int) (t' := .int) (by decide) (by decide)))).other W389 (Or.inl (own_ne_oa E_t (own_w hw 7 rfl) V_a))).other W421 (Or.inr (slot_ne (Or.inl (own_w hw 20 rfl)) (Or.inl (own_w hw 27 rfl)) (by decide) (t := .int) (t' := .int) (by decide) (by decide)))).other W423 (Or.inl (own_ne_oa E_t (own_w hw 7 rfl) V_a)))
              have f430 : Fld Z h423 t "com/example/rank_to_reach/ranktoreach/Postings$Writer" "count" "I" (.int cnt) := ((((((((F_count.other W367 (Or.inr (slot_ne (Or.inl (own_w hw 44 rfl)) (Or.inl (own_w hw 27 rfl)) (by decide) (t := .int) (t' := .int) (by decide) (by decide)))).other W369 (Or.inl (own_ne_oa E_t (own_w hw 7 rfl) V_a))).other W377 (Or.inr (slot_ne (Or.inl (own_w hw 44 rfl)) (Or.inl (own_w hw 27 rfl)) (by decide) (t := .int) (t' := .int) (by decide) (by decide)))).other W379 (Or.inl (own_ne_oa E_t (own_w hw 7 rfl) V_a))).other W387 (Or.inr (slot_ne (Or.inl (own_w hw 44 rfl)) (Or.inl (own_w hw 27 rfl)) (by decide) (t := .int) (t' := .int) (by decide) (by decide)))).other W389 (Or.inl (own_ne_oa E_t (own_w hw 7 rfl) V_a))).other W421 (Or.inr (slot_ne (Or.inl (own_w hw 44 rfl)) (Or.inl (own_w hw 27 rfl)) (by decide) (t := .int) (t' := .int) (by decide) (by decide)))).other W423 (Or.inl (own_ne_oa E_t (own_w hw 7 rfl) V_a)))
              obtain ⟨fs, hr, hrun, hended, hW, hsame⟩ := X423.leave (v := none) (fun _ => rfl)
              refine own_ret (t := T423.setFrames fs) ?_ ⟨_, hrun, hended, _, _, rfl, ?_, ⟨_, rfl⟩, hW, hsame.mono (by decide) (by decide)⟩
              · exact X423.returnOut hx Bd.returns (hb hby d9_96) hr
              · show Q_put1 Z _ _ _ _ _ _ _ _ _ h0 n0 _ T423.heap _
                rw [e423]
                exact ⟨a, ka, (16 : Int32), ((((L0.set (sz.toNatClampNeg + 0) (.int (nar .byte ((((own_r v 0) &&& (127 : Int32)) ||| (128 : Int32)).toInt8.toInt32)))).set (sz.toNatClampNeg + 1) (.int (nar .byte ((((own_r v 1) &&& (127 : Int32)) ||| (128 : Int32)).toInt8.toInt32)))).set (sz.toNatClampNeg + 2) (.int (nar .byte ((((own_r v 2) &&& (127 : Int32)) ||| (128 : Int32)).toInt8.toInt32)))).set (sz.toNatClampNeg + 3) (.int (nar .byte ((own_r v 3).toInt8.toInt32)))), rfl, N423, K426, f427, f428, (by rw [hsz2]; exact f425), f429, f430, V424, ⟨g_a, Or.inl rfl⟩, (Or.inr (Or.inl rfl)), (fun _ => Or.inr rfl), (by rw [hyN, hvl]; omega), hP2.1, hP2.2⟩
          · refine own_icmpYes X379.here hx hby (pc' := 78) d9_42 (flt hc42_381).2.2.2 (by decide) (by decide) ?_
            refine own_aloadN X379.here hx hby d9_78 rfl rfl ?_
            have f431 : Fld Z h379 t "com/example/rank_to_reach/ranktoreach/Postings$Writer" "bytes" "[B" (.ref a) := ((f372.other W377 (Or.inr (slot_ne (Or.inl (own_w hw 18 rfl)) (Or.inl (own_w hw 27 rfl)) (by decide) (t := (.array .byte)) (t' := .int) (by decide) (by decide)))).other W379 (Or.inl (own_ne_oa E_t (own_w hw 7 rfl) V_a)))
            refine own_getF X379 hx hZ hown (host := "") (Or.inl (own_w hw 17 rfl)) Via.refl e379 f431 hby d9_79 ?_
            intro T432 X432 e432
            refine own_aloadN X432.here hx hby d9_82 rfl rfl ?_
            refine own_dup X432.here hx hby d9_83 rfl ?_
            have f433 : Fld Z h379 t "com/example/rank_to_reach/ranktoreach/Postings$Writer" "size" "I" (.int ((sz + (1 : Int32)) + (1 : Int32))) := (F377.other W379 (Or.inl (own_ne_oa E_t (own_w hw 7 rfl) V_a)))
            refine own_getF X432 hx hZ hown (host := "") (Or.inl (own_w hw 26 rfl)) Via.refl e432 f433 hby d9_84 ?_
            intro T434 X434 e434
            refine own_dupX1 X434.here hx hby d9_87 rfl rfl ?_
            refine own_iconst X434.here hx hby d9_88 (v := (1 : Int32)) (by decide) ?_
            refine own_iadd X434.here hx hby d9_89 rfl ?_
            have f435 : Exa Z h379 t "com/example/rank_to_reach/ranktoreach/Postings$Writer" := ((f376.wr W377).wr W379)
            refine own_putF X434 hx hZ (ty := .int) hown (host := "") (Or.inl (own_w hw 26 rfl)) Via.refl e434 f433 f435 (Or.inl (own_w hw 27 rfl)) (own_w hw 7 rfl) (by decide) rfl rfl hby d9_90 N379 g_t ?_
            intro T436 h436 lo436 X436 e436 N436 W436 F436 z436
            refine own_iloadN X436.here hx hby d9_93 rfl ?_
            refine own_i2b X436.here hx hby d9_94 rfl ?_
            have f437 : Arv Z h436 a ka .byte (16 : Int32) ((L0.set (sz.toNatClampNeg + 0) (.int (nar .byte ((((own_r v 0) &&& (127 : Int32)) ||| (128 : Int32)).toInt8.toInt32)))).set (sz.toNatClampNeg + 1) (.int (nar .byte ((((own_r v 1) &&& (127 : Int32)) ||| (128 : Int32)).toInt8.toInt32)))) (.int 0) := (V380.other W436 (Ne.symm (own_ne_oa E_t (own_w hw 7 rfl) V_a)))
            refine own_bastore X436 hx hZ e436 f437 (own_inc_in hs0 hs16 2 (by decide) (by have h_ : (16 : Int32).toInt = 16 := (by decide); omega)) (sz.toNatClampNeg + 2) (own_inc_nat hs0 hs16 2 (by decide)) (by first | omega | (simp only [List.length_set]; omega)) rfl hby d9_95 N436 g_a ?_
            intro T438 h438 lo438 X438 e438 N438 W438 V438 z438
            have V439 : Arv Z h438 a ka .byte (16 : Int32) (((L0.set (sz.toNatClampNeg + 0) (.int (nar .byte ((((own_r v 0) &&& (127 : Int32)) ||| (128 : Int32)).toInt8.toInt32)))).set (sz.toNatClampNeg + 1) (.int (nar .byte ((((own_r v 1) &&& (127 : Int32)) ||| (128 : Int32)).toInt8.toInt32)))).set (sz.toNatClampNeg + 2) (.int (nar .byte ((own_r v 2).toInt8.toInt32)))) (.int 0) := V438
            have hvl : own_vl v = 3 := own_vl3 hc42_364 hc42_371 hc42_381
            have f440 : Fld Z h438 t "com/example/rank_to_reach/ranktoreach/Postings$Writer" "size" "I" (.int (((sz + (1 : Int32)) + (1 : Int32)) + (1 : Int32))) := (F436.other W438 (Or.inl (own_ne_oa E_t (own_w hw 7 rfl) V_a)))
            have hsz2 : sz + own_vI v = own_inc sz 3 := by
              rw [own_inc_vI hvl]
              simp only [own_inc, Int32.add_assoc]
              rfl
            have hP2 := own_post (L' := (((L0.set (sz.toNatClampNeg + 0) (.int (nar .byte ((((own_r v 0) &&& (127 : Int32)) ||| (128 : Int32)).toInt8.toInt32)))).set (sz.toNatClampNeg + 1) (.int (nar .byte ((((own_r v 1) &&& (127 : Int32)) ||| (128 : Int32)).toInt8.toInt32)))).set (sz.toNatClampNeg + 2) (.int (nar .byte ((own_r v 2).toInt8.toInt32))))) (i := sz.toNatClampNeg) (k := 2) hvl (by omega) rfl hLp
            have hyN : (16 : Int32).toNatClampNeg = 16 := by decide
            have K441 : Keep h0 h438 [t, a] := (((((((Keep.refl h0 [t, a]).wr W367 (Or.inl (List.mem_of_getElem? (i := 0) rfl))).wr W369 (Or.inl (List.mem_of_getElem? (i := 1) rfl))).wr W377 (Or.inl (List.mem_of_getElem? (i := 0) rfl))).wr W379 (Or.inl (List.mem_of_getElem? (i := 1) rfl))).wr W436 (Or.inl (List.mem_of_getElem? (i := 0) rfl))).wr W438 (Or.inl (List.mem_of_getElem? (i := 1) rfl)))
            have f442 : Exa Z h438 t "com/example/rank_to_reach/ranktoreach/Postings$Writer" := ((f435.wr W436).wr W438)
            have f443 : Fld Z h438 t "com/example/rank_to_reach/ranktoreach/Postings$Writer" "bytes" "[B" (.ref a) := ((f431.other W436 (Or.inr (slot_ne (Or.inl (own_w hw 18 rfl)) (Or.inl (own_w hw 27 rfl)) (by decide) (t := (.array .byte)) (t' := .int) (by decide) (by decide)))).other W438 (Or.inl (own_ne_oa E_t (own_w hw 7 rfl) V_a)))
            have f444 : Fld Z h438 t "com/example/rank_to_reach/ranktoreach/Postings$Writer" "last" "I" (.int lst) := ((((((F_last.other W367 (Or.inr (slot_ne (Or.inl (own_w hw 20 rfl)) (Or.inl (own_w hw 27 rfl)) (by decide) (t := .int) (t' := .int) (by decide) (by decide)))).other W369 (Or.inl (own_ne_oa E_t (own_w hw 7 rfl) V_a))).other W377 (Or.inr (slot_ne (Or.inl (own_w hw 20 rfl)) (Or.inl (own_w hw 27 rfl)) (by decide) (t := .int) (t' := .int) (by decide) (by decide)))).other W379 (Or.inl (own_ne_oa E_t (own_w hw 7 rfl) V_a))).other W436 (Or.inr (slot_ne (Or.inl (own_w hw 20 rfl)) (Or.inl (own_w hw 27 rfl)) (by decide) (t := .int) (t' := .int) (by decide) (by decide)))).other W438 (Or.inl (own_ne_oa E_t (own_w hw 7 rfl) V_a)))
            have f445 : Fld Z h438 t "com/example/rank_to_reach/ranktoreach/Postings$Writer" "count" "I" (.int cnt) := ((((((F_count.other W367 (Or.inr (slot_ne (Or.inl (own_w hw 44 rfl)) (Or.inl (own_w hw 27 rfl)) (by decide) (t := .int) (t' := .int) (by decide) (by decide)))).other W369 (Or.inl (own_ne_oa E_t (own_w hw 7 rfl) V_a))).other W377 (Or.inr (slot_ne (Or.inl (own_w hw 44 rfl)) (Or.inl (own_w hw 27 rfl)) (by decide) (t := .int) (t' := .int) (by decide) (by decide)))).other W379 (Or.inl (own_ne_oa E_t (own_w hw 7 rfl) V_a))).other W436 (Or.inr (slot_ne (Or.inl (own_w hw 44 rfl)) (Or.inl (own_w hw 27 rfl)) (by decide) (t := .int) (t' := .int) (by decide) (by decide)))).other W438 (Or.inl (own_ne_oa E_t (own_w hw 7 rfl) V_a)))
            obtain ⟨fs, hr, hrun, hended, hW, hsame⟩ := X438.leave (v := none) (fun _ => rfl)
            refine own_ret (t := T438.setFrames fs) ?_ ⟨_, hrun, hended, _, _, rfl, ?_, ⟨_, rfl⟩, hW, hsame.mono (by decide) (by decide)⟩
            · exact X438.returnOut hx Bd.returns (hb hby d9_96) hr
            · show Q_put1 Z _ _ _ _ _ _ _ _ _ h0 n0 _ T438.heap _
              rw [e438]
              exact ⟨a, ka, (16 : Int32), (((L0.set (sz.toNatClampNeg + 0) (.int (nar .byte ((((own_r v 0) &&& (127 : Int32)) ||| (128 : Int32)).toInt8.toInt32)))).set (sz.toNatClampNeg + 1) (.int (nar .byte ((((own_r v 1) &&& (127 : Int32)) ||| (128 : Int32)).toInt8.toInt32)))).set (sz.toNatClampNeg + 2) (.int (nar .byte ((own_r v 2).toInt8.toInt32)))), rfl, N438, K441, f442, f443, (by rw [hsz2]; exact f440), f444, f445, V439, ⟨g_a, Or.inl rfl⟩, (Or.inr (Or.inl rfl)), (fun _ => Or.inr rfl), (by rw [hyN, hvl]; omega), hP2.1, hP2.2⟩
        · refine own_icmpYes X369.here hx hby (pc' := 78) d9_42 (flt hc42_371).2.2.2 (by decide) (by decide) ?_
          refine own_aloadN X369.here hx hby d9_78 rfl rfl ?_
          have f446 : Fld Z h369 t "com/example/rank_to_reach/ranktoreach/Postings$Writer" "bytes" "[B" (.ref a) := ((F_bytes.other W367 (Or.inr (slot_ne (Or.inl (own_w hw 18 rfl)) (Or.inl (own_w hw 27 rfl)) (by decide) (t := (.array .byte)) (t' := .int) (by decide) (by decide)))).other W369 (Or.inl (own_ne_oa E_t (own_w hw 7 rfl) V_a)))
          refine own_getF X369 hx hZ hown (host := "") (Or.inl (own_w hw 17 rfl)) Via.refl e369 f446 hby d9_79 ?_
          intro T447 X447 e447
          refine own_aloadN X447.here hx hby d9_82 rfl rfl ?_
          refine own_dup X447.here hx hby d9_83 rfl ?_
          have f448 : Fld Z h369 t "com/example/rank_to_reach/ranktoreach/Postings$Writer" "size" "I" (.int (sz + (1 : Int32))) := (F367.other W369 (Or.inl (own_ne_oa E_t (own_w hw 7 rfl) V_a)))
          refine own_getF X447 hx hZ hown (host := "") (Or.inl (own_w hw 26 rfl)) Via.refl e447 f448 hby d9_84 ?_
          intro T449 X449 e449
          refine own_dupX1 X449.here hx hby d9_87 rfl rfl ?_
          refine own_iconst X449.here hx hby d9_88 (v := (1 : Int32)) (by decide) ?_
          refine own_iadd X449.here hx hby d9_89 rfl ?_
          have f450 : Exa Z h369 t "com/example/rank_to_reach/ranktoreach/Postings$Writer" := ((E_t.wr W367).wr W369)
          refine own_putF X449 hx hZ (ty := .int) hown (host := "") (Or.inl (own_w hw 26 rfl)) Via.refl e449 f448 f450 (Or.inl (own_w hw 27 rfl)) (own_w hw 7 rfl) (by decide) rfl rfl hby d9_90 N369 g_t ?_
          intro T451 h451 lo451 X451 e451 N451 W451 F451 z451
          refine own_iloadN X451.here hx hby d9_93 rfl ?_
          refine own_i2b X451.here hx hby d9_94 rfl ?_
          have f452 : Arv Z h451 a ka .byte (16 : Int32) (L0.set (sz.toNatClampNeg + 0) (.int (nar .byte ((((own_r v 0) &&& (127 : Int32)) ||| (128 : Int32)).toInt8.toInt32)))) (.int 0) := (V370.other W451 (Ne.symm (own_ne_oa E_t (own_w hw 7 rfl) V_a)))
          refine own_bastore X451 hx hZ e451 f452 (own_inc_in hs0 hs16 1 (by decide) (by have h_ : (16 : Int32).toInt = 16 := (by decide); omega)) (sz.toNatClampNeg + 1) (own_inc_nat hs0 hs16 1 (by decide)) (by first | omega | (simp only [List.length_set]; omega)) rfl hby d9_95 N451 g_a ?_
          intro T453 h453 lo453 X453 e453 N453 W453 V453 z453
          have V454 : Arv Z h453 a ka .byte (16 : Int32) ((L0.set (sz.toNatClampNeg + 0) (.int (nar .byte ((((own_r v 0) &&& (127 : Int32)) ||| (128 : Int32)).toInt8.toInt32)))).set (sz.toNatClampNeg + 1) (.int (nar .byte ((own_r v 1).toInt8.toInt32)))) (.int 0) := V453
          have hvl : own_vl v = 2 := own_vl2 hc42_364 hc42_371
          have f455 : Fld Z h453 t "com/example/rank_to_reach/ranktoreach/Postings$Writer" "size" "I" (.int ((sz + (1 : Int32)) + (1 : Int32))) := (F451.other W453 (Or.inl (own_ne_oa E_t (own_w hw 7 rfl) V_a)))
          have hsz2 : sz + own_vI v = own_inc sz 2 := by
            rw [own_inc_vI hvl]
            simp only [own_inc, Int32.add_assoc]
            rfl
          have hP2 := own_post (L' := ((L0.set (sz.toNatClampNeg + 0) (.int (nar .byte ((((own_r v 0) &&& (127 : Int32)) ||| (128 : Int32)).toInt8.toInt32)))).set (sz.toNatClampNeg + 1) (.int (nar .byte ((own_r v 1).toInt8.toInt32))))) (i := sz.toNatClampNeg) (k := 1) hvl (by omega) rfl hLp
          have hyN : (16 : Int32).toNatClampNeg = 16 := by decide
          have K456 : Keep h0 h453 [t, a] := (((((Keep.refl h0 [t, a]).wr W367 (Or.inl (List.mem_of_getElem? (i := 0) rfl))).wr W369 (Or.inl (List.mem_of_getElem? (i := 1) rfl))).wr W451 (Or.inl (List.mem_of_getElem? (i := 0) rfl))).wr W453 (Or.inl (List.mem_of_getElem? (i := 1) rfl)))
          have f457 : Exa Z h453 t "com/example/rank_to_reach/ranktoreach/Postings$Writer" := ((f450.wr W451).wr W453)
          have f458 : Fld Z h453 t "com/example/rank_to_reach/ranktoreach/Postings$Writer" "bytes" "[B" (.ref a) := ((f446.other W451 (Or.inr (slot_ne (Or.inl (own_w hw 18 rfl)) (Or.inl (own_w hw 27 rfl)) (by decide) (t := (.array .byte)) (t' := .int) (by decide) (by decide)))).other W453 (Or.inl (own_ne_oa E_t (own_w hw 7 rfl) V_a)))
          have f459 : Fld Z h453 t "com/example/rank_to_reach/ranktoreach/Postings$Writer" "last" "I" (.int lst) := ((((F_last.other W367 (Or.inr (slot_ne (Or.inl (own_w hw 20 rfl)) (Or.inl (own_w hw 27 rfl)) (by decide) (t := .int) (t' := .int) (by decide) (by decide)))).other W369 (Or.inl (own_ne_oa E_t (own_w hw 7 rfl) V_a))).other W451 (Or.inr (slot_ne (Or.inl (own_w hw 20 rfl)) (Or.inl (own_w hw 27 rfl)) (by decide) (t := .int) (t' := .int) (by decide) (by decide)))).other W453 (Or.inl (own_ne_oa E_t (own_w hw 7 rfl) V_a)))
          have f460 : Fld Z h453 t "com/example/rank_to_reach/ranktoreach/Postings$Writer" "count" "I" (.int cnt) := ((((F_count.other W367 (Or.inr (slot_ne (Or.inl (own_w hw 44 rfl)) (Or.inl (own_w hw 27 rfl)) (by decide) (t := .int) (t' := .int) (by decide) (by decide)))).other W369 (Or.inl (own_ne_oa E_t (own_w hw 7 rfl) V_a))).other W451 (Or.inr (slot_ne (Or.inl (own_w hw 44 rfl)) (Or.inl (own_w hw 27 rfl)) (by decide) (t := .int) (t' := .int) (by decide) (by decide)))).other W453 (Or.inl (own_ne_oa E_t (own_w hw 7 rfl) V_a)))
          obtain ⟨fs, hr, hrun, hended, hW, hsame⟩ := X453.leave (v := none) (fun _ => rfl)
          refine own_ret (t := T453.setFrames fs) ?_ ⟨_, hrun, hended, _, _, rfl, ?_, ⟨_, rfl⟩, hW, hsame.mono (by decide) (by decide)⟩
          · exact X453.returnOut hx Bd.returns (hb hby d9_96) hr
          · show Q_put1 Z _ _ _ _ _ _ _ _ _ h0 n0 _ T453.heap _
            rw [e453]
            exact ⟨a, ka, (16 : Int32), ((L0.set (sz.toNatClampNeg + 0) (.int (nar .byte ((((own_r v 0) &&& (127 : Int32)) ||| (128 : Int32)).toInt8.toInt32)))).set (sz.toNatClampNeg + 1) (.int (nar .byte ((own_r v 1).toInt8.toInt32)))), rfl, N453, K456, f457, f458, (by rw [hsz2]; exact f455), f459, f460, V454, ⟨g_a, Or.inl rfl⟩, (Or.inr (Or.inl rfl)), (fun _ => Or.inr rfl), (by rw [hyN, hvl]; omega), hP2.1, hP2.2⟩
      · refine own_icmpYes X239.here hx hby (pc' := 78) d9_42 (flt hc42_364).2.2.2 (by decide) (by decide) ?_
        refine own_aloadN X239.here hx hby d9_78 rfl rfl ?_
        refine own_getF X239 hx hZ hown (host := "") (Or.inl (own_w hw 17 rfl)) Via.refl e239 F_bytes hby d9_79 ?_
        intro T461 X461 e461
        refine own_aloadN X461.here hx hby d9_82 rfl rfl ?_
        refine own_dup X461.here hx hby d9_83 rfl ?_
        refine own_getF X461 hx hZ hown (host := "") (Or.inl (own_w hw 26 rfl)) Via.refl e461 F_size hby d9_84 ?_
        intro T462 X462 e462
        refine own_dupX1 X462.here hx hby d9_87 rfl rfl ?_
        refine own_iconst X462.here hx hby d9_88 (v := (1 : Int32)) (by decide) ?_
        refine own_iadd X462.here hx hby d9_89 rfl ?_
        refine own_putF X462 hx hZ (ty := .int) hown (host := "") (Or.inl (own_w hw 26 rfl)) Via.refl e462 F_size E_t (Or.inl (own_w hw 27 rfl)) (own_w hw 7 rfl) (by decide) rfl rfl hby d9_90 N0 g_t ?_
        intro T463 h463 lo463 X463 e463 N463 W463 F463 z463
        refine own_iloadN X463.here hx hby d9_93 rfl ?_
        refine own_i2b X463.here hx hby d9_94 rfl ?_
        have f464 : Arv Z h463 a ka .byte (16 : Int32) L0 (.int 0) := (VL.other W463 (Ne.symm (own_ne_oa E_t (own_w hw 7 rfl) V_a)))
        refine own_bastore X463 hx hZ e463 f464 (own_inc_in hs0 hs16 0 (by decide) (by have h_ : (16 : Int32).toInt = 16 := (by decide); omega)) (sz.toNatClampNeg + 0) (own_inc_nat hs0 hs16 0 (by decide)) (by first | omega | (simp only [List.length_set]; omega)) rfl hby d9_95 N463 g_a ?_
        intro T465 h465 lo465 X465 e465 N465 W465 V465 z465
        have V466 : Arv Z h465 a ka .byte (16 : Int32) (L0.set (sz.toNatClampNeg + 0) (.int (nar .byte ((own_r v 0).toInt8.toInt32)))) (.int 0) := V465
        have hvl : own_vl v = 1 := own_vl1 hc42_364
        have f467 : Fld Z h465 t "com/example/rank_to_reach/ranktoreach/Postings$Writer" "size" "I" (.int (sz + (1 : Int32))) := (F463.other W465 (Or.inl (own_ne_oa E_t (own_w hw 7 rfl) V_a)))
        have hsz2 : sz + own_vI v = own_inc sz 1 := by
          rw [own_inc_vI hvl]
          simp only [own_inc, Int32.add_assoc]
          rfl
        have hP2 := own_post (L' := (L0.set (sz.toNatClampNeg + 0) (.int (nar .byte ((own_r v 0).toInt8.toInt32))))) (i := sz.toNatClampNeg) (k := 0) hvl (by omega) rfl hLp
        have hyN : (16 : Int32).toNatClampNeg = 16 := by decide
        have K468 : Keep h0 h465 [t, a] := (((Keep.refl h0 [t, a]).wr W463 (Or.inl (List.mem_of_getElem? (i := 0) rfl))).wr W465 (Or.inl (List.mem_of_getElem? (i := 1) rfl)))
        have f469 : Exa Z h465 t "com/example/rank_to_reach/ranktoreach/Postings$Writer" := ((E_t.wr W463).wr W465)
        have f470 : Fld Z h465 t "com/example/rank_to_reach/ranktoreach/Postings$Writer" "bytes" "[B" (.ref a) := ((F_bytes.other W463 (Or.inr (slot_ne (Or.inl (own_w hw 18 rfl)) (Or.inl (own_w hw 27 rfl)) (by decide) (t := (.array .byte)) (t' := .int) (by decide) (by decide)))).other W465 (Or.inl (own_ne_oa E_t (own_w hw 7 rfl) V_a)))
        have f471 : Fld Z h465 t "com/example/rank_to_reach/ranktoreach/Postings$Writer" "last" "I" (.int lst) := ((F_last.other W463 (Or.inr (slot_ne (Or.inl (own_w hw 20 rfl)) (Or.inl (own_w hw 27 rfl)) (by decide) (t := .int) (t' := .int) (by decide) (by decide)))).other W465 (Or.inl (own_ne_oa E_t (own_w hw 7 rfl) V_a)))
        have f472 : Fld Z h465 t "com/example/rank_to_reach/ranktoreach/Postings$Writer" "count" "I" (.int cnt) := ((F_count.other W463 (Or.inr (slot_ne (Or.inl (own_w hw 44 rfl)) (Or.inl (own_w hw 27 rfl)) (by decide) (t := .int) (t' := .int) (by decide) (by decide)))).other W465 (Or.inl (own_ne_oa E_t (own_w hw 7 rfl) V_a)))
        obtain ⟨fs, hr, hrun, hended, hW, hsame⟩ := X465.leave (v := none) (fun _ => rfl)
        refine own_ret (t := T465.setFrames fs) ?_ ⟨_, hrun, hended, _, _, rfl, ?_, ⟨_, rfl⟩, hW, hsame.mono (by decide) (by decide)⟩
        · exact X465.returnOut hx Bd.returns (hb hby d9_96) hr
        · show Q_put1 Z _ _ _ _ _ _ _ _ _ h0 n0 _ T465.heap _
          rw [e465]
          exact ⟨a, ka, (16 : Int32), (L0.set (sz.toNatClampNeg + 0) (.int (nar .byte ((own_r v 0).toInt8.toInt32)))), rfl, N465, K468, f469, f470, (by rw [hsz2]; exact f467), f471, f472, V466, ⟨g_a, Or.inl rfl⟩, (Or.inr (Or.inl rfl)), (fun _ => Or.inr rfl), (by rw [hyN, hvl]; omega), hP2.1, hP2.2⟩
theorem ef_add0 (m : MethodId) (x0 : Nat) (x1 : Int32) (x2 : Int32) : entryFrame m #[(.ref x0), (.int x1), (.int x2)] 3 = mkF m 0 #[.val (.ref x0), .val (.int x1), .val (.int x2)] [] := by first | (simp [entryFrame, mkF, argsToLocals, Value.category]; done) | rfl
theorem pn_8 : plainName "com/example/rank_to_reach/ranktoreach/Postings$Writer" = true := by first | (simp [plainName, overriddenIn]; done) | decide +kernel
theorem d8_0 : decode prog_36_method_2_code 0 = .ok (.aload_n 0, 1) := by decide +kernel
theorem d8_1 : decode prog_36_method_2_code 1 = .ok (.iload_n 1, 1) := by decide +kernel
theorem d8_2 : decode prog_36_method_2_code 2 = .ok (.aload_n 0, 1) := by decide +kernel
theorem d8_3 : decode prog_36_method_2_code 3 = .ok (.getfield 18, 3) := by decide +kernel
theorem d8_6 : decode prog_36_method_2_code 6 = .ok (.isub, 1) := by decide +kernel
theorem d8_7 : decode prog_36_method_2_code 7 = .ok (.invokevirtual 22, 3) := by decide +kernel
theorem pd_2 : parseMethodDescriptor "(I)V" = some ⟨[.int], none⟩ := by decide +kernel
theorem d8_10 : decode prog_36_method_2_code 10 = .ok (.aload_n 0, 1) := by decide +kernel
theorem d8_11 : decode prog_36_method_2_code 11 = .ok (.iload_n 2, 1) := by decide +kernel
theorem d8_12 : decode prog_36_method_2_code 12 = .ok (.invokevirtual 22, 3) := by decide +kernel
theorem d8_15 : decode prog_36_method_2_code 15 = .ok (.aload_n 0, 1) := by decide +kernel
theorem d8_16 : decode prog_36_method_2_code 16 = .ok (.iload_n 1, 1) := by decide +kernel
theorem d8_17 : decode prog_36_method_2_code 17 = .ok (.putfield 18, 3) := by decide +kernel
theorem d8_20 : decode prog_36_method_2_code 20 = .ok (.aload_n 0, 1) := by decide +kernel
theorem d8_21 : decode prog_36_method_2_code 21 = .ok (.dup, 1) := by decide +kernel
theorem d8_22 : decode prog_36_method_2_code 22 = .ok (.getfield 26, 3) := by decide +kernel
theorem d8_25 : decode prog_36_method_2_code 25 = .ok (.iconst 1, 1) := by decide +kernel
theorem d8_26 : decode prog_36_method_2_code 26 = .ok (.iadd, 1) := by decide +kernel
theorem d8_27 : decode prog_36_method_2_code 27 = .ok (.putfield 26, 3) := by decide +kernel
theorem d8_30 : decode prog_36_method_2_code 30 = .ok (.return_, 1) := by decide +kernel
def Q_add0 (Z : State) (t : Nat) (wN : Nat) (doc : Int32) (f : Int32) (lst : Int32) (cnt : Int32) (kN : ClassId) (h0 : Heap) (n0 : Nat) (vR : Option Value) (hR : Heap) (LR : List Loc) : Prop := ∃ (b : Nat) (kb : ClassId) (y : Int32) (us : List Value), vR = none ∧ Fr n0 LR ∧ Keep h0 hR [t] ∧ (Exa Z hR t "com/example/rank_to_reach/ranktoreach/Postings$Writer") ∧ (Fld Z hR t "com/example/rank_to_reach/ranktoreach/Postings$Writer" "bytes" "[B" (.ref b)) ∧ (Fld Z hR t "com/example/rank_to_reach/ranktoreach/Postings$Writer" "size" "I" (.int ((own_vI (doc - lst)) + (own_vI f)))) ∧ (Fld Z hR t "com/example/rank_to_reach/ranktoreach/Postings$Writer" "last" "I" (.int doc)) ∧ (Fld Z hR t "com/example/rank_to_reach/ranktoreach/Postings$Writer" "count" "I" (.int (cnt + (1 : Int32)))) ∧ h0.size ≤ b ∧ (Arv Z hR b kb .byte y us (.int 0)) ∧ (y = (8 : Int32) ∨ y = (16 : Int32)) ∧ (own_vl (doc - lst) + own_vl f ≤ y.toNatClampNeg) ∧ (∀ j, j < own_vl (doc - lst) → us.getD j (.int 0) = .int (own_by (doc - lst) j)) ∧ (∀ j, j < own_vl f → us.getD (own_vl (doc - lst) + j) (.int 0) = .int (own_by f j))
set_option maxRecDepth 65536 in
set_option maxHeartbeats 40000000 in
theorem add0 (l : Launch) (Z : State) (a0 : Array Value) (hw : ∀ d ∈ tables_1, d.before a0 Z = true) (ws : List Jvm.Cond) (t : Nat) (wN : Nat) (doc : Int32) (f : Int32) (lst : Int32) (cnt : Int32) (kN : ClassId) (h0 : Heap) (n0 : Nat) (Z0 : n0 ≤ h0.size) (E_t : Exa Z h0 t "com/example/rank_to_reach/ranktoreach/Postings$Writer") (F_bytes : Fld Z h0 t "com/example/rank_to_reach/ranktoreach/Postings$Writer" "bytes" "[B" (.ref wN)) (F_size : Fld Z h0 t "com/example/rank_to_reach/ranktoreach/Postings$Writer" "size" "I" (.int 0)) (V_wN : Arv Z h0 wN kN .byte (0 : Int32) [] (.int 0)) (F_last : Fld Z h0 t "com/example/rank_to_reach/ranktoreach/Postings$Writer" "last" "I" (.int lst)) (F_count : Fld Z h0 t "com/example/rank_to_reach/ranktoreach/Postings$Writer" "count" "I" (.int cnt)) (g_t : n0 ≤ t) (hg : (0 : Int32) < (doc - lst)) (hf : (0 : Int32) < f) :
    own_M l (⟨"com/example/rank_to_reach/ranktoreach/Postings$Writer", "add", "(II)V"⟩ : MethodName) prog_36_method_2_code 3 none ws ({ frames := 3, cells := 2, slots := 40, locals := 47 } : Room) Z #[(.ref t), (.int doc), (.int f)] h0 (Q_add0 Z t wN doc f lst cnt kN h0 n0) := by
  refine own_body (own := "com/example/rank_to_reach/ranktoreach/Postings$Writer") rfl (plainFor_of_name pn_8) (fun m => ef_add0 m t doc f) ?_
  intro p e s m below meth c s₁ Bd hml hZ hh hx hby hown X0 e0
  have N0 := Fr.nil n0
  have lt1 : h0.size > t := E_t.lt
  have lt2 : h0.size > wN := V_wN.lt
  refine own_aloadN X0.here hx hby d8_0 rfl rfl ?_
  refine own_iloadN X0.here hx hby d8_1 rfl ?_
  refine own_aloadN X0.here hx hby d8_2 rfl rfl ?_
  refine own_getF X0 hx hZ hown (host := "") (Or.inl (own_w hw 19 rfl)) Via.refl e0 F_last hby d8_3 ?_
  intro T3 X3 e3
  refine own_isub X3.here hx hby d8_6 rfl ?_
  refine own_private X3 hx hZ hown (own_w hw 50 rfl) (own_w hw 51 rfl) (own_w hw 7 rfl) (own_w hw 52 rfl) (own_w hw 8 rfl) (own_w hw 53 rfl) (by decide) (put0 l Z a0 hw [] t wN (doc - lst) lst cnt kN h0 n0 Z0 E_t F_bytes F_size V_wN F_last F_count g_t hg) 0 (Nat.le_of_eq rfl) (by decide) (by decide) (by rw [hml]; rfl) (argsL := [(.int (doc - lst))]) (st := []) E_t (lenOf pd_2 rfl) rfl rfl (by decide) (by decide) e3 hby d8_7 ?_
  intro T4 v4 L4 X4 hQ4
  obtain ⟨b_4, kb_4, us_4, rfl, Nq4, K4, P4_0, P4_1, P4_2, P4_3, P4_4, P4_5, P4_6, P4_7⟩ := hQ4
  have N4 := Fr.app N0 Nq4
  have z5 : h0.size ≤ T4.heap.size := K4.1
  have lt6 : T4.heap.size > t := P4_0.lt
  have lt7 : T4.heap.size > b_4 := P4_6.lt
  refine own_sh (T := T4) 10 #[.val (.ref t), .val (.int doc), .val (.int f)] [] ?_
  refine own_aloadN X4.here hx hby d8_10 rfl rfl ?_
  refine own_iloadN X4.here hx hby d8_11 rfl ?_
  have q1 := own_vI_toInt (doc - lst)
  have q2 := own_vl_pos (doc - lst)
  have q3 : (own_vI (doc - lst)).toNatClampNeg = own_vl (doc - lst) := by have h_ := own_clamp (x := own_vI (doc - lst)) (by omega); omega
  have z9 : n0 ≤ T4.heap.size := by omega
  refine own_private X4 hx hZ hown (own_w hw 50 rfl) (own_w hw 51 rfl) (own_w hw 7 rfl) (own_w hw 52 rfl) (own_w hw 8 rfl) (own_w hw 53 rfl) (by decide) (put1 l Z a0 hw [] t b_4 kb_4 (8 : Int32) us_4 (own_vI (doc - lst)) f lst cnt T4.heap n0 z9 P4_0 P4_1 P4_2 P4_6 P4_3 P4_4 g_t (by omega) (Or.inl rfl) (by omega) (by have h_ : (8 : Int32).toInt = 8 := (by decide); omega) hf) 0 (Nat.le_of_eq rfl) (by decide) (by decide) (by rw [hml]; rfl) (argsL := [(.int f)]) (st := []) P4_0 (lenOf pd_2 rfl) rfl rfl (by decide) (by decide) rfl hby d8_12 ?_
  intro T8 v8 L8 X8 hQ8
  obtain ⟨b_8, kb_8, y_8, us_8, rfl, Nq8, K8, P8_0, P8_1, P8_2, P8_3, P8_4, P8_5, P8_6, P8_7, P8_8, P8_9, P8_10, P8_11⟩ := hQ8
  have N8 := Fr.app N4 Nq8
  have z10 : T4.heap.size ≤ T8.heap.size := K8.1
  have lt11 : T8.heap.size > t := P8_0.lt
  have lt12 : T8.heap.size > b_8 := P8_5.lt
  refine own_sh (T := T8) 15 #[.val (.ref t), .val (.int doc), .val (.int f)] [] ?_
  refine own_aloadN X8.here hx hby d8_15 rfl rfl ?_
  refine own_iloadN X8.here hx hby d8_16 rfl ?_
  refine own_putF X8 hx hZ (ty := .int) hown (host := "") (Or.inl (own_w hw 19 rfl)) Via.refl rfl P8_3 P8_0 (Or.inl (own_w hw 20 rfl)) (own_w hw 7 rfl) (by decide) rfl rfl hby d8_17 N8 g_t ?_
  intro T13 h13 lo13 X13 e13 N13 W13 F13 z13
  refine own_aloadN X13.here hx hby d8_20 rfl rfl ?_
  refine own_dup X13.here hx hby d8_21 rfl ?_
  have f14 : Fld Z h13 t "com/example/rank_to_reach/ranktoreach/Postings$Writer" "count" "I" (.int cnt) := (P8_4.other W13 (Or.inr (slot_ne (Or.inl (own_w hw 44 rfl)) (Or.inl (own_w hw 20 rfl)) (by decide) (t := .int) (t' := .int) (by decide) (by decide))))
  refine own_getF X13 hx hZ hown (host := "") (Or.inl (own_w hw 43 rfl)) Via.refl e13 f14 hby d8_22 ?_
  intro T15 X15 e15
  refine own_iconst X15.here hx hby d8_25 (v := (1 : Int32)) (by decide) ?_
  refine own_iadd X15.here hx hby d8_26 rfl ?_
  have f16 : Exa Z h13 t "com/example/rank_to_reach/ranktoreach/Postings$Writer" := (P8_0.wr W13)
  refine own_putF X15 hx hZ (ty := .int) hown (host := "") (Or.inl (own_w hw 43 rfl)) Via.refl e15 f14 f16 (Or.inl (own_w hw 44 rfl)) (own_w hw 7 rfl) (by decide) rfl rfl hby d8_27 N13 g_t ?_
  intro T17 h17 lo17 X17 e17 N17 W17 F17 z17
  have hpre2 := P8_10
  have hat2 := P8_11
  have hfit2 := P8_9
  rw [q3] at hpre2 hat2 hfit2
  have hb2 := P8_6
  have K18 : Keep h0 h17 [t] := (((((Keep.refl h0 [t]).trans K4 (allS (P := fun xq_ => xq_ ∈ [t] ∨ h0.size ≤ xq_) (Or.inl (List.mem_of_getElem? (i := 0) rfl)) all0)).trans K8 (allS (P := fun xq_ => xq_ ∈ [t] ∨ h0.size ≤ xq_) (Or.inl (List.mem_of_getElem? (i := 0) rfl)) (allS (P := fun xq_ => xq_ ∈ [t] ∨ h0.size ≤ xq_) (Or.inr (by omega)) all0))).wr W13 (Or.inl (List.mem_of_getElem? (i := 0) rfl))).wr W17 (Or.inl (List.mem_of_getElem? (i := 0) rfl)))
  have f19 : Exa Z h17 t "com/example/rank_to_reach/ranktoreach/Postings$Writer" := (f16.wr W17)
  have f20 : Fld Z h17 t "com/example/rank_to_reach/ranktoreach/Postings$Writer" "bytes" "[B" (.ref b_8) := ((P8_1.other W13 (Or.inr (slot_ne (Or.inl (own_w hw 18 rfl)) (Or.inl (own_w hw 20 rfl)) (by decide) (t := (.array .byte)) (t' := .int) (by decide) (by decide)))).other W17 (Or.inr (slot_ne (Or.inl (own_w hw 18 rfl)) (Or.inl (own_w hw 44 rfl)) (by decide) (t := (.array .byte)) (t' := .int) (by decide) (by decide))))
  have f21 : Fld Z h17 t "com/example/rank_to_reach/ranktoreach/Postings$Writer" "size" "I" (.int ((own_vI (doc - lst)) + own_vI f)) := ((P8_2.other W13 (Or.inr (slot_ne (Or.inl (own_w hw 27 rfl)) (Or.inl (own_w hw 20 rfl)) (by decide) (t := .int) (t' := .int) (by decide) (by decide)))).other W17 (Or.inr (slot_ne (Or.inl (own_w hw 27 rfl)) (Or.inl (own_w hw 44 rfl)) (by decide) (t := .int) (t' := .int) (by decide) (by decide))))
  have f22 : Fld Z h17 t "com/example/rank_to_reach/ranktoreach/Postings$Writer" "last" "I" (.int doc) := (F13.other W17 (Or.inr (slot_ne (Or.inl (own_w hw 20 rfl)) (Or.inl (own_w hw 44 rfl)) (by decide) (t := .int) (t' := .int) (by decide) (by decide))))
  have f23 : Arv Z h17 b_8 kb_8 .byte y_8 us_8 (.int 0) := ((P8_5.other W13 (own_nn (by omega))).other W17 (own_nn (by omega)))
  obtain ⟨fs, hr, hrun, hended, hW, hsame⟩ := X17.leave (v := none) (fun _ => rfl)
  refine own_ret (t := T17.setFrames fs) ?_ ⟨_, hrun, hended, _, _, rfl, ?_, ⟨_, rfl⟩, hW, hsame.mono (by decide) (by decide)⟩
  · exact X17.returnOut hx Bd.returns (hb hby d8_30) hr
  · show Q_add0 Z _ _ _ _ _ _ _ h0 n0 _ T17.heap _
    rw [e17]
    exact ⟨b_8, kb_8, y_8, us_8, rfl, N17, K18, f19, f20, f21, f22, F17, (by omega), f23, (P8_8 (by omega)), hfit2, (fun j hj => (hpre2 j hj).trans (P4_7 j hj)), hat2⟩
def Q_add1 (Z : State) (t : Nat) (a : Nat) (ka : ClassId) (z : Int32) (vs : List Value) (sz : Int32) (doc : Int32) (f : Int32) (lst : Int32) (cnt : Int32) (h0 : Heap) (n0 : Nat) (vR : Option Value) (hR : Heap) (LR : List Loc) : Prop := ∃ (b : Nat) (s2 : Int32), vR = none ∧ Fr n0 LR ∧ Keep h0 hR [t, a] ∧ (Exa Z hR t "com/example/rank_to_reach/ranktoreach/Postings$Writer") ∧ (Fld Z hR t "com/example/rank_to_reach/ranktoreach/Postings$Writer" "bytes" "[B" (.ref b)) ∧ (Fld Z hR t "com/example/rank_to_reach/ranktoreach/Postings$Writer" "size" "I" (.int s2)) ∧ (Fld Z hR t "com/example/rank_to_reach/ranktoreach/Postings$Writer" "last" "I" (.int doc)) ∧ (Fld Z hR t "com/example/rank_to_reach/ranktoreach/Postings$Writer" "count" "I" (.int (cnt + (1 : Int32))))
set_option maxRecDepth 65536 in
set_option maxHeartbeats 40000000 in
theorem add1 (l : Launch) (Z : State) (a0 : Array Value) (hw : ∀ d ∈ tables_1, d.before a0 Z = true) (ws : List Jvm.Cond) (t : Nat) (a : Nat) (ka : ClassId) (z : Int32) (vs : List Value) (sz : Int32) (doc : Int32) (f : Int32) (lst : Int32) (cnt : Int32) (h0 : Heap) (n0 : Nat) (Z0 : n0 ≤ h0.size) (E_t : Exa Z h0 t "com/example/rank_to_reach/ranktoreach/Postings$Writer") (F_bytes : Fld Z h0 t "com/example/rank_to_reach/ranktoreach/Postings$Writer" "bytes" "[B" (.ref a)) (F_size : Fld Z h0 t "com/example/rank_to_reach/ranktoreach/Postings$Writer" "size" "I" (.int sz)) (V_a : Arv Z h0 a ka .byte z vs (.int 0)) (F_last : Fld Z h0 t "com/example/rank_to_reach/ranktoreach/Postings$Writer" "last" "I" (.int lst)) (F_count : Fld Z h0 t "com/example/rank_to_reach/ranktoreach/Postings$Writer" "count" "I" (.int cnt)) (g_t : n0 ≤ t) (g_a : n0 ≤ a) (hz : z = (8 : Int32) ∨ z = (16 : Int32)) (hs0 : 0 ≤ sz.toInt) (hs10 : sz.toInt ≤ 10) (hsz : sz.toInt ≤ z.toInt) (hg : (0 : Int32) < (doc - lst)) (hf : (0 : Int32) < f) :
    own_M l (⟨"com/example/rank_to_reach/ranktoreach/Postings$Writer", "add", "(II)V"⟩ : MethodName) prog_36_method_2_code 3 none ws ({ frames := 3, cells := 2, slots := 64, locals := 47 } : Room) Z #[(.ref t), (.int doc), (.int f)] h0 (Q_add1 Z t a ka z vs sz doc f lst cnt h0 n0) := by
  refine own_body (own := "com/example/rank_to_reach/ranktoreach/Postings$Writer") rfl (plainFor_of_name pn_8) (fun m => ef_add0 m t doc f) ?_
  intro p e s m below meth c s₁ Bd hml hZ hh hx hby hown X0 e0
  have N0 := Fr.nil n0
  have lt1 : h0.size > t := E_t.lt
  have lt2 : h0.size > a := V_a.lt
  refine own_aloadN X0.here hx hby d8_0 rfl rfl ?_
  refine own_iloadN X0.here hx hby d8_1 rfl ?_
  refine own_aloadN X0.here hx hby d8_2 rfl rfl ?_
  refine own_getF X0 hx hZ hown (host := "") (Or.inl (own_w hw 19 rfl)) Via.refl e0 F_last hby d8_3 ?_
  intro T3 X3 e3
  refine own_isub X3.here hx hby d8_6 rfl ?_
  refine own_private X3 hx hZ hown (own_w hw 50 rfl) (own_w hw 51 rfl) (own_w hw 7 rfl) (own_w hw 52 rfl) (own_w hw 8 rfl) (own_w hw 53 rfl) (by decide) (put1 l Z a0 hw [] t a ka z vs sz (doc - lst) lst cnt h0 n0 Z0 E_t F_bytes F_size V_a F_last F_count g_t g_a hz hs0 hsz hg) 0 (Nat.le_of_eq rfl) (by decide) (by decide) (by rw [hml]; rfl) (argsL := [(.int (doc - lst))]) (st := []) E_t (lenOf pd_2 rfl) rfl rfl (by decide) (by decide) e3 hby d8_7 ?_
  intro T4 v4 L4 X4 hQ4
  obtain ⟨b_4, kb_4, y_4, us_4, rfl, Nq4, K4, P4_0, P4_1, P4_2, P4_3, P4_4, P4_5, P4_6, P4_7, P4_8, P4_9, P4_10, P4_11⟩ := hQ4
  have N4 := Fr.app N0 Nq4
  have z5 : h0.size ≤ T4.heap.size := K4.1
  have lt6 : T4.heap.size > t := P4_0.lt
  have lt7 : T4.heap.size > b_4 := P4_5.lt
  refine own_sh (T := T4) 10 #[.val (.ref t), .val (.int doc), .val (.int f)] [] ?_
  refine own_aloadN X4.here hx hby d8_10 rfl rfl ?_
  refine own_iloadN X4.here hx hby d8_11 rfl ?_
  have q1 := own_vI_toInt (doc - lst)
  have q2 := own_vl_pos (doc - lst)
  have q4 : (sz + own_vI (doc - lst)).toInt = sz.toInt + own_vl (doc - lst) := by rw [own_addI (by omega) (by omega), q1]
  have hb1 := P4_6
  have hz1 := P4_8 (by omega)
  have hft := P4_9
  have q5 := own_clamp hs0
  have q6 : (y_4).toInt = (y_4).toNatClampNeg := by rcases hz1 with q | q <;> rw [q] <;> decide
  have z9 : n0 ≤ T4.heap.size := by omega
  refine own_private X4 hx hZ hown (own_w hw 50 rfl) (own_w hw 51 rfl) (own_w hw 7 rfl) (own_w hw 52 rfl) (own_w hw 8 rfl) (own_w hw 53 rfl) (by decide) (put1 l Z a0 hw [] t b_4 kb_4 y_4 us_4 (sz + own_vI (doc - lst)) f lst cnt T4.heap n0 z9 P4_0 P4_1 P4_2 P4_5 P4_3 P4_4 g_t (by omega) hz1 (by omega) (by omega) hf) 0 (Nat.le_of_eq rfl) (by decide) (by decide) (by rw [hml]; rfl) (argsL := [(.int f)]) (st := []) P4_0 (lenOf pd_2 rfl) rfl rfl (by decide) (by decide) rfl hby d8_12 ?_
  intro T8 v8 L8 X8 hQ8
  obtain ⟨b_8, kb_8, y_8, us_8, rfl, Nq8, K8, P8_0, P8_1, P8_2, P8_3, P8_4, P8_5, P8_6, P8_7, P8_8, P8_9, P8_10, P8_11⟩ := hQ8
  have N8 := Fr.app N4 Nq8
  have z10 : T4.heap.size ≤ T8.heap.size := K8.1
  have lt11 : T8.heap.size > t := P8_0.lt
  have lt12 : T8.heap.size > b_8 := P8_5.lt
  refine own_sh (T := T8) 15 #[.val (.ref t), .val (.int doc), .val (.int f)] [] ?_
  refine own_aloadN X8.here hx hby d8_15 rfl rfl ?_
  refine own_iloadN X8.here hx hby d8_16 rfl ?_
  refine own_putF X8 hx hZ (ty := .int) hown (host := "") (Or.inl (own_w hw 19 rfl)) Via.refl rfl P8_3 P8_0 (Or.inl (own_w hw 20 rfl)) (own_w hw 7 rfl) (by decide) rfl rfl hby d8_17 N8 g_t ?_
  intro T13 h13 lo13 X13 e13 N13 W13 F13 z13
  refine own_aloadN X13.here hx hby d8_20 rfl rfl ?_
  refine own_dup X13.here hx hby d8_21 rfl ?_
  have f14 : Fld Z h13 t "com/example/rank_to_reach/ranktoreach/Postings$Writer" "count" "I" (.int cnt) := (P8_4.other W13 (Or.inr (slot_ne (Or.inl (own_w hw 44 rfl)) (Or.inl (own_w hw 20 rfl)) (by decide) (t := .int) (t' := .int) (by decide) (by decide))))
  refine own_getF X13 hx hZ hown (host := "") (Or.inl (own_w hw 43 rfl)) Via.refl e13 f14 hby d8_22 ?_
  intro T15 X15 e15
  refine own_iconst X15.here hx hby d8_25 (v := (1 : Int32)) (by decide) ?_
  refine own_iadd X15.here hx hby d8_26 rfl ?_
  have f16 : Exa Z h13 t "com/example/rank_to_reach/ranktoreach/Postings$Writer" := (P8_0.wr W13)
  refine own_putF X15 hx hZ (ty := .int) hown (host := "") (Or.inl (own_w hw 43 rfl)) Via.refl e15 f14 f16 (Or.inl (own_w hw 44 rfl)) (own_w hw 7 rfl) (by decide) rfl rfl hby d8_27 N13 g_t ?_
  intro T17 h17 lo17 X17 e17 N17 W17 F17 z17
  have K18 : Keep h0 h17 [t, a] := (((((Keep.refl h0 [t, a]).trans K4 (allS (P := fun xq_ => xq_ ∈ [t, a] ∨ h0.size ≤ xq_) (Or.inl (List.mem_of_getElem? (i := 0) rfl)) (allS (P := fun xq_ => xq_ ∈ [t, a] ∨ h0.size ≤ xq_) (Or.inl (List.mem_of_getElem? (i := 1) rfl)) all0))).trans K8 (allS (P := fun xq_ => xq_ ∈ [t, a] ∨ h0.size ≤ xq_) (Or.inl (List.mem_of_getElem? (i := 0) rfl)) (allS (P := fun xq_ => xq_ ∈ [t, a] ∨ h0.size ≤ xq_) (hb1.2.elim (fun q => Or.inl (by rw [q]; exact List.mem_of_getElem? (i := 1) rfl)) Or.inr) all0))).wr W13 (Or.inl (List.mem_of_getElem? (i := 0) rfl))).wr W17 (Or.inl (List.mem_of_getElem? (i := 0) rfl)))
  have f19 : Exa Z h17 t "com/example/rank_to_reach/ranktoreach/Postings$Writer" := (f16.wr W17)
  have f20 : Fld Z h17 t "com/example/rank_to_reach/ranktoreach/Postings$Writer" "bytes" "[B" (.ref b_8) := ((P8_1.other W13 (Or.inr (slot_ne (Or.inl (own_w hw 18 rfl)) (Or.inl (own_w hw 20 rfl)) (by decide) (t := (.array .byte)) (t' := .int) (by decide) (by decide)))).other W17 (Or.inr (slot_ne (Or.inl (own_w hw 18 rfl)) (Or.inl (own_w hw 44 rfl)) (by decide) (t := (.array .byte)) (t' := .int) (by decide) (by decide))))
  have f21 : Fld Z h17 t "com/example/rank_to_reach/ranktoreach/Postings$Writer" "size" "I" (.int ((sz + own_vI (doc - lst)) + own_vI f)) := ((P8_2.other W13 (Or.inr (slot_ne (Or.inl (own_w hw 27 rfl)) (Or.inl (own_w hw 20 rfl)) (by decide) (t := .int) (t' := .int) (by decide) (by decide)))).other W17 (Or.inr (slot_ne (Or.inl (own_w hw 27 rfl)) (Or.inl (own_w hw 44 rfl)) (by decide) (t := .int) (t' := .int) (by decide) (by decide))))
  have f22 : Fld Z h17 t "com/example/rank_to_reach/ranktoreach/Postings$Writer" "last" "I" (.int doc) := (F13.other W17 (Or.inr (slot_ne (Or.inl (own_w hw 20 rfl)) (Or.inl (own_w hw 44 rfl)) (by decide) (t := .int) (t' := .int) (by decide) (by decide))))
  obtain ⟨fs, hr, hrun, hended, hW, hsame⟩ := X17.leave (v := none) (fun _ => rfl)
  refine own_ret (t := T17.setFrames fs) ?_ ⟨_, hrun, hended, _, _, rfl, ?_, ⟨_, rfl⟩, hW, hsame.mono (by decide) (by decide)⟩
  · exact X17.returnOut hx Bd.returns (hb hby d8_30) hr
  · show Q_add1 Z _ _ _ _ _ _ _ _ _ _ h0 n0 _ T17.heap _
    rw [e17]
    exact ⟨b_8, ((sz + own_vI (doc - lst)) + own_vI f), rfl, N17, K18, f19, f20, f21, f22, F17⟩
theorem ef_wInit (m : MethodId) (x0 : Nat) : entryFrame m #[(.ref x0)] 1 = mkF m 0 #[.val (.ref x0)] [] := by first | (simp [entryFrame, mkF, argsToLocals, Value.category]; done) | rfl
theorem pn_2 : plainName "com/example/rank_to_reach/ranktoreach/Postings$Writer" = true := by first | (simp [plainName, overriddenIn]; done) | decide +kernel
theorem d2_0 : decode prog_36_method_1_code 0 = .ok (.aload_n 0, 1) := by decide +kernel
theorem d2_1 : decode prog_36_method_1_code 1 = .ok (.invokespecial 3, 3) := by decide +kernel
theorem d2_4 : decode prog_36_method_1_code 4 = .ok (.aload_n 0, 1) := by decide +kernel
theorem d2_5 : decode prog_36_method_1_code 5 = .ok (.getstatic 9, 3) := by decide +kernel
theorem d2_8 : decode prog_36_method_1_code 8 = .ok (.putfield 15, 3) := by decide +kernel
theorem d2_11 : decode prog_36_method_1_code 11 = .ok (.aload_n 0, 1) := by decide +kernel
theorem d2_12 : decode prog_36_method_1_code 12 = .ok (.iconst (-1), 1) := by decide +kernel
theorem d2_13 : decode prog_36_method_1_code 13 = .ok (.putfield 18, 3) := by decide +kernel
theorem d2_16 : decode prog_36_method_1_code 16 = .ok (.return_, 1) := by decide +kernel
def Q_wInit (Z : State) (t : Nat) (wN : Nat) (h0 : Heap) (n0 : Nat) (vR : Option Value) (hR : Heap) (LR : List Loc) : Prop := vR = none ∧ Fr n0 LR ∧ Keep h0 hR [t] ∧ (Exa Z hR t "com/example/rank_to_reach/ranktoreach/Postings$Writer") ∧ (Fld Z hR t "com/example/rank_to_reach/ranktoreach/Postings$Writer" "bytes" "[B" (.ref wN)) ∧ (Fld Z hR t "com/example/rank_to_reach/ranktoreach/Postings$Writer" "last" "I" (.int (-1))) ∧ (Fld Z hR t "com/example/rank_to_reach/ranktoreach/Postings$Writer" "size" "I" (.int 0)) ∧ (Fld Z hR t "com/example/rank_to_reach/ranktoreach/Postings$Writer" "count" "I" (.int 0))
set_option maxRecDepth 65536 in
set_option maxHeartbeats 40000000 in
theorem wInit (l : Launch) (Z : State) (a0 : Array Value) (hw : ∀ d ∈ tables_1, d.before a0 Z = true) (ws : List Jvm.Cond) (t : Nat) (wN : Nat) (h0 : Heap) (n0 : Nat) (Z0 : n0 ≤ h0.size) (E_t : Exa Z h0 t "com/example/rank_to_reach/ranktoreach/Postings$Writer") (F_bytes : Fld Z h0 t "com/example/rank_to_reach/ranktoreach/Postings$Writer" "bytes" "[B" .null) (F_last : Fld Z h0 t "com/example/rank_to_reach/ranktoreach/Postings$Writer" "last" "I" (.int 0)) (F_size : Fld Z h0 t "com/example/rank_to_reach/ranktoreach/Postings$Writer" "size" "I" (.int 0)) (F_count : Fld Z h0 t "com/example/rank_to_reach/ranktoreach/Postings$Writer" "count" "I" (.int 0)) (S_NONE : Sta Z h0 "com/example/rank_to_reach/ranktoreach/Postings$Writer" "NONE" "[B" (.ref wN)) (g_t : n0 ≤ t) :
    own_M l (⟨"com/example/rank_to_reach/ranktoreach/Postings$Writer", "<init>", "()V"⟩ : MethodName) prog_36_method_1_code 1 none ws ({ frames := 1, cells := 0, slots := 0, locals := 12 } : Room) Z #[(.ref t)] h0 (Q_wInit Z t wN h0 n0) := by
  refine own_body (own := "com/example/rank_to_reach/ranktoreach/Postings$Writer") rfl (plainFor_of_name pn_2) (fun m => ef_wInit m t) ?_
  intro p e s m below meth c s₁ Bd hml hZ hh hx hby hown X0 e0
  have N0 := Fr.nil n0
  have lt1 : h0.size > t := E_t.lt
  refine own_aloadN X0.here hx hby d2_0 rfl rfl ?_
  refine own_initO X0 hx hZ hown (own_w hw 12 rfl) (own_w hw 13 rfl) (own_w hw 14 rfl) e0 (by rw [hml]; rfl) hby d2_1 (by decide) 0 (Nat.le_of_eq rfl) (by decide) ?_
  intro T2 X2 e2
  refine own_aloadN X2.here hx hby d2_4 rfl rfl ?_
  refine own_getS X2 hx hZ hown (host := "") (Or.inl (own_w hw 15 rfl)) Via.refl e2 S_NONE hby d2_5 ?_
  intro T3 X3 e3
  refine own_putF X3 hx hZ (ty := (.array .byte)) hown (host := "") (Or.inl (own_w hw 17 rfl)) Via.refl e3 F_bytes E_t (Or.inl (own_w hw 18 rfl)) (own_w hw 7 rfl) (by decide) rfl rfl hby d2_8 N0 g_t ?_
  intro T4 h4 lo4 X4 e4 N4 W4 F4 z4
  refine own_aloadN X4.here hx hby d2_11 rfl rfl ?_
  refine own_iconst X4.here hx hby d2_12 (v := (-1 : Int32)) (by decide) ?_
  have f5 : Exa Z h4 t "com/example/rank_to_reach/ranktoreach/Postings$Writer" := (E_t.wr W4)
  have f6 : Fld Z h4 t "com/example/rank_to_reach/ranktoreach/Postings$Writer" "last" "I" (.int 0) := (F_last.other W4 (Or.inr (slot_ne (Or.inl (own_w hw 20 rfl)) (Or.inl (own_w hw 18 rfl)) (by decide) (t := .int) (t' := (.array .byte)) (by decide) (by decide))))
  refine own_putF X4 hx hZ (ty := .int) hown (host := "") (Or.inl (own_w hw 19 rfl)) Via.refl e4 f6 f5 (Or.inl (own_w hw 20 rfl)) (own_w hw 7 rfl) (by decide) rfl rfl hby d2_13 N4 g_t ?_
  intro T7 h7 lo7 X7 e7 N7 W7 F7 z7
  have K8 : Keep h0 h7 [t] := (((Keep.refl h0 [t]).wr W4 (Or.inl (List.mem_of_getElem? (i := 0) rfl))).wr W7 (Or.inl (List.mem_of_getElem? (i := 0) rfl)))
  have f9 : Exa Z h7 t "com/example/rank_to_reach/ranktoreach/Postings$Writer" := (f5.wr W7)
  have f10 : Fld Z h7 t "com/example/rank_to_reach/ranktoreach/Postings$Writer" "bytes" "[B" (.ref wN) := (F4.other W7 (Or.inr (slot_ne (Or.inl (own_w hw 18 rfl)) (Or.inl (own_w hw 20 rfl)) (by decide) (t := (.array .byte)) (t' := .int) (by decide) (by decide))))
  have f11 : Fld Z h7 t "com/example/rank_to_reach/ranktoreach/Postings$Writer" "size" "I" (.int 0) := ((F_size.other W4 (Or.inr (slot_ne (Or.inl (own_w hw 27 rfl)) (Or.inl (own_w hw 18 rfl)) (by decide) (t := .int) (t' := (.array .byte)) (by decide) (by decide)))).other W7 (Or.inr (slot_ne (Or.inl (own_w hw 27 rfl)) (Or.inl (own_w hw 20 rfl)) (by decide) (t := .int) (t' := .int) (by decide) (by decide))))
  have f12 : Fld Z h7 t "com/example/rank_to_reach/ranktoreach/Postings$Writer" "count" "I" (.int 0) := ((F_count.other W4 (Or.inr (slot_ne (Or.inl (own_w hw 44 rfl)) (Or.inl (own_w hw 18 rfl)) (by decide) (t := .int) (t' := (.array .byte)) (by decide) (by decide)))).other W7 (Or.inr (slot_ne (Or.inl (own_w hw 44 rfl)) (Or.inl (own_w hw 20 rfl)) (by decide) (t := .int) (t' := .int) (by decide) (by decide))))
  obtain ⟨fs, hr, hrun, hended, hW, hsame⟩ := X7.leave (v := none) (fun _ => rfl)
  refine own_ret (t := T7.setFrames fs) ?_ ⟨_, hrun, hended, _, _, rfl, ?_, ⟨_, rfl⟩, hW, hsame.mono (by decide) (by decide)⟩
  · exact X7.returnOut hx Bd.returns (hb hby d2_16) hr
  · show Q_wInit Z _ _ h0 n0 _ T7.heap _
    rw [e7]
    exact ⟨rfl, N7, K8, f9, f10, F7, f11, f12⟩
theorem ef_clear_ (m : MethodId) (x0 : Nat) : entryFrame m #[(.ref x0)] 1 = mkF m 0 #[.val (.ref x0)] [] := by first | (simp [entryFrame, mkF, argsToLocals, Value.category]; done) | rfl
theorem pn_4 : plainName "com/example/rank_to_reach/ranktoreach/Postings$Writer" = true := by first | (simp [plainName, overriddenIn]; done) | decide +kernel
theorem d4_0 : decode prog_36_method_7_code 0 = .ok (.aload_n 0, 1) := by decide +kernel
theorem d4_1 : decode prog_36_method_7_code 1 = .ok (.getstatic 9, 3) := by decide +kernel
theorem d4_4 : decode prog_36_method_7_code 4 = .ok (.putfield 15, 3) := by decide +kernel
theorem d4_7 : decode prog_36_method_7_code 7 = .ok (.aload_n 0, 1) := by decide +kernel
theorem d4_8 : decode prog_36_method_7_code 8 = .ok (.iconst 0, 1) := by decide +kernel
theorem d4_9 : decode prog_36_method_7_code 9 = .ok (.putfield 29, 3) := by decide +kernel
theorem d4_12 : decode prog_36_method_7_code 12 = .ok (.return_, 1) := by decide +kernel
def Q_clear_ (Z : State) (t : Nat) (b : Nat) (wN : Nat) (sz : Int32) (lst : Int32) (cnt : Int32) (h0 : Heap) (n0 : Nat) (vR : Option Value) (hR : Heap) (LR : List Loc) : Prop := vR = none ∧ Fr n0 LR ∧ Keep h0 hR [t] ∧ (Exa Z hR t "com/example/rank_to_reach/ranktoreach/Postings$Writer") ∧ (Fld Z hR t "com/example/rank_to_reach/ranktoreach/Postings$Writer" "bytes" "[B" (.ref wN)) ∧ (Fld Z hR t "com/example/rank_to_reach/ranktoreach/Postings$Writer" "size" "I" (.int 0)) ∧ (Fld Z hR t "com/example/rank_to_reach/ranktoreach/Postings$Writer" "last" "I" (.int lst)) ∧ (Fld Z hR t "com/example/rank_to_reach/ranktoreach/Postings$Writer" "count" "I" (.int cnt))
set_option maxRecDepth 65536 in
set_option maxHeartbeats 40000000 in
theorem clear_ (l : Launch) (Z : State) (a0 : Array Value) (hw : ∀ d ∈ tables_1, d.before a0 Z = true) (ws : List Jvm.Cond) (t : Nat) (b : Nat) (wN : Nat) (sz : Int32) (lst : Int32) (cnt : Int32) (h0 : Heap) (n0 : Nat) (Z0 : n0 ≤ h0.size) (E_t : Exa Z h0 t "com/example/rank_to_reach/ranktoreach/Postings$Writer") (F_bytes : Fld Z h0 t "com/example/rank_to_reach/ranktoreach/Postings$Writer" "bytes" "[B" (.ref b)) (F_size : Fld Z h0 t "com/example/rank_to_reach/ranktoreach/Postings$Writer" "size" "I" (.int sz)) (F_last : Fld Z h0 t "com/example/rank_to_reach/ranktoreach/Postings$Writer" "last" "I" (.int lst)) (F_count : Fld Z h0 t "com/example/rank_to_reach/ranktoreach/Postings$Writer" "count" "I" (.int cnt)) (S_NONE : Sta Z h0 "com/example/rank_to_reach/ranktoreach/Postings$Writer" "NONE" "[B" (.ref wN)) (g_t : n0 ≤ t) :
    own_M l (⟨"com/example/rank_to_reach/ranktoreach/Postings$Writer", "clear", "()V"⟩ : MethodName) prog_36_method_7_code 1 none ws ({ frames := 0, cells := 0, slots := 0, locals := 0 } : Room) Z #[(.ref t)] h0 (Q_clear_ Z t b wN sz lst cnt h0 n0) := by
  refine own_body (own := "com/example/rank_to_reach/ranktoreach/Postings$Writer") rfl (plainFor_of_name pn_4) (fun m => ef_clear_ m t) ?_
  intro p e s m below meth c s₁ Bd hml hZ hh hx hby hown X0 e0
  have N0 := Fr.nil n0
  have lt1 : h0.size > t := E_t.lt
  refine own_aloadN X0.here hx hby d4_0 rfl rfl ?_
  refine own_getS X0 hx hZ hown (host := "") (Or.inl (own_w hw 15 rfl)) Via.refl e0 S_NONE hby d4_1 ?_
  intro T2 X2 e2
  refine own_putF X2 hx hZ (ty := (.array .byte)) hown (host := "") (Or.inl (own_w hw 17 rfl)) Via.refl e2 F_bytes E_t (Or.inl (own_w hw 18 rfl)) (own_w hw 7 rfl) (by decide) rfl rfl hby d4_4 N0 g_t ?_
  intro T3 h3 lo3 X3 e3 N3 W3 F3 z3
  refine own_aloadN X3.here hx hby d4_7 rfl rfl ?_
  refine own_iconst X3.here hx hby d4_8 (v := (0 : Int32)) (by decide) ?_
  have f4 : Exa Z h3 t "com/example/rank_to_reach/ranktoreach/Postings$Writer" := (E_t.wr W3)
  have f5 : Fld Z h3 t "com/example/rank_to_reach/ranktoreach/Postings$Writer" "size" "I" (.int sz) := (F_size.other W3 (Or.inr (slot_ne (Or.inl (own_w hw 27 rfl)) (Or.inl (own_w hw 18 rfl)) (by decide) (t := .int) (t' := (.array .byte)) (by decide) (by decide))))
  refine own_putF X3 hx hZ (ty := .int) hown (host := "") (Or.inl (own_w hw 26 rfl)) Via.refl e3 f5 f4 (Or.inl (own_w hw 27 rfl)) (own_w hw 7 rfl) (by decide) rfl rfl hby d4_9 N3 g_t ?_
  intro T6 h6 lo6 X6 e6 N6 W6 F6 z6
  have K7 : Keep h0 h6 [t] := (((Keep.refl h0 [t]).wr W3 (Or.inl (List.mem_of_getElem? (i := 0) rfl))).wr W6 (Or.inl (List.mem_of_getElem? (i := 0) rfl)))
  have f8 : Exa Z h6 t "com/example/rank_to_reach/ranktoreach/Postings$Writer" := (f4.wr W6)
  have f9 : Fld Z h6 t "com/example/rank_to_reach/ranktoreach/Postings$Writer" "bytes" "[B" (.ref wN) := (F3.other W6 (Or.inr (slot_ne (Or.inl (own_w hw 18 rfl)) (Or.inl (own_w hw 27 rfl)) (by decide) (t := (.array .byte)) (t' := .int) (by decide) (by decide))))
  have f10 : Fld Z h6 t "com/example/rank_to_reach/ranktoreach/Postings$Writer" "last" "I" (.int lst) := ((F_last.other W3 (Or.inr (slot_ne (Or.inl (own_w hw 20 rfl)) (Or.inl (own_w hw 18 rfl)) (by decide) (t := .int) (t' := (.array .byte)) (by decide) (by decide)))).other W6 (Or.inr (slot_ne (Or.inl (own_w hw 20 rfl)) (Or.inl (own_w hw 27 rfl)) (by decide) (t := .int) (t' := .int) (by decide) (by decide))))
  have f11 : Fld Z h6 t "com/example/rank_to_reach/ranktoreach/Postings$Writer" "count" "I" (.int cnt) := ((F_count.other W3 (Or.inr (slot_ne (Or.inl (own_w hw 44 rfl)) (Or.inl (own_w hw 18 rfl)) (by decide) (t := .int) (t' := (.array .byte)) (by decide) (by decide)))).other W6 (Or.inr (slot_ne (Or.inl (own_w hw 44 rfl)) (Or.inl (own_w hw 27 rfl)) (by decide) (t := .int) (t' := .int) (by decide) (by decide))))
  obtain ⟨fs, hr, hrun, hended, hW, hsame⟩ := X6.leave (v := none) (fun _ => rfl)
  refine own_ret (t := T6.setFrames fs) ?_ ⟨_, hrun, hended, _, _, rfl, ?_, ⟨_, rfl⟩, hW, hsame.mono (by decide) (by decide)⟩
  · exact X6.returnOut hx Bd.returns (hb hby d4_12) hr
  · show Q_clear_ Z _ _ _ _ _ _ h0 n0 _ T6.heap _
    rw [e6]
    exact ⟨rfl, N6, K7, f8, f9, F6, f10, f11⟩
theorem ef_size_ (m : MethodId) (x0 : Nat) : entryFrame m #[(.ref x0)] 1 = mkF m 0 #[.val (.ref x0)] [] := by first | (simp [entryFrame, mkF, argsToLocals, Value.category]; done) | rfl
theorem pn_5 : plainName "com/example/rank_to_reach/ranktoreach/Postings$Writer" = true := by first | (simp [plainName, overriddenIn]; done) | decide +kernel
theorem d5_0 : decode prog_36_method_5_code 0 = .ok (.aload_n 0, 1) := by decide +kernel
theorem d5_1 : decode prog_36_method_5_code 1 = .ok (.getfield 29, 3) := by decide +kernel
theorem d5_4 : decode prog_36_method_5_code 4 = .ok (.ireturn, 1) := by decide +kernel
def Q_size_ (Z : State) (t : Nat) (sz : Int32) (h0 : Heap) (n0 : Nat) (vR : Option Value) (hR : Heap) (LR : List Loc) : Prop := vR = some (.int sz) ∧ Fr n0 LR ∧ hR = h0
set_option maxRecDepth 65536 in
set_option maxHeartbeats 40000000 in
theorem size_ (l : Launch) (Z : State) (a0 : Array Value) (hw : ∀ d ∈ tables_1, d.before a0 Z = true) (ws : List Jvm.Cond) (t : Nat) (sz : Int32) (h0 : Heap) (n0 : Nat) (Z0 : n0 ≤ h0.size) (F_size : Fld Z h0 t "com/example/rank_to_reach/ranktoreach/Postings$Writer" "size" "I" (.int sz)) :
    own_M l (⟨"com/example/rank_to_reach/ranktoreach/Postings$Writer", "size", "()I"⟩ : MethodName) prog_36_method_5_code 1 (some .int) ws ({ frames := 0, cells := 0, slots := 0, locals := 0 } : Room) Z #[(.ref t)] h0 (Q_size_ Z t sz h0 n0) := by
  refine own_body (own := "com/example/rank_to_reach/ranktoreach/Postings$Writer") rfl (plainFor_of_name pn_5) (fun m => ef_size_ m t) ?_
  intro p e s m below meth c s₁ Bd hml hZ hh hx hby hown X0 e0
  have N0 := Fr.nil n0
  have lt1 : h0.size > t := F_size.lt
  refine own_aloadN X0.here hx hby d5_0 rfl rfl ?_
  refine own_getF X0 hx hZ hown (host := "") (Or.inl (own_w hw 26 rfl)) Via.refl e0 F_size hby d5_1 ?_
  intro T2 X2 e2
  obtain ⟨fs, hr, hrun, hended, hW, hsame⟩ := X2.leave (v := some (.int sz)) (fun h => by rw [Bd.returns] at h; cases h)
  refine own_ret (t := T2.setFrames fs) ?_ ⟨_, hrun, hended, _, _, rfl, ?_, ⟨_, rfl⟩, hW, hsame.mono (by decide) (by decide)⟩
  · exact retOut X2 hx Bd.returns rfl (Or.inl ⟨rfl, Or.inl rfl, _, rfl⟩) (hb hby d5_4) hr
  · show Q_size_ Z _ _ h0 n0 _ T2.heap _
    rw [e2]
    exact ⟨rfl, N0, rfl⟩
theorem ef_count_ (m : MethodId) (x0 : Nat) : entryFrame m #[(.ref x0)] 1 = mkF m 0 #[.val (.ref x0)] [] := by first | (simp [entryFrame, mkF, argsToLocals, Value.category]; done) | rfl
theorem pn_7 : plainName "com/example/rank_to_reach/ranktoreach/Postings$Writer" = true := by first | (simp [plainName, overriddenIn]; done) | decide +kernel
theorem d7_0 : decode prog_36_method_3_code 0 = .ok (.aload_n 0, 1) := by decide +kernel
theorem d7_1 : decode prog_36_method_3_code 1 = .ok (.getfield 26, 3) := by decide +kernel
theorem d7_4 : decode prog_36_method_3_code 4 = .ok (.ireturn, 1) := by decide +kernel
def Q_count_ (Z : State) (t : Nat) (sz : Int32) (h0 : Heap) (n0 : Nat) (vR : Option Value) (hR : Heap) (LR : List Loc) : Prop := vR = some (.int sz) ∧ Fr n0 LR ∧ hR = h0
set_option maxRecDepth 65536 in
set_option maxHeartbeats 40000000 in
theorem count_ (l : Launch) (Z : State) (a0 : Array Value) (hw : ∀ d ∈ tables_1, d.before a0 Z = true) (ws : List Jvm.Cond) (t : Nat) (sz : Int32) (h0 : Heap) (n0 : Nat) (Z0 : n0 ≤ h0.size) (F_count : Fld Z h0 t "com/example/rank_to_reach/ranktoreach/Postings$Writer" "count" "I" (.int sz)) :
    own_M l (⟨"com/example/rank_to_reach/ranktoreach/Postings$Writer", "count", "()I"⟩ : MethodName) prog_36_method_3_code 1 (some .int) ws ({ frames := 0, cells := 0, slots := 0, locals := 0 } : Room) Z #[(.ref t)] h0 (Q_count_ Z t sz h0 n0) := by
  refine own_body (own := "com/example/rank_to_reach/ranktoreach/Postings$Writer") rfl (plainFor_of_name pn_7) (fun m => ef_count_ m t) ?_
  intro p e s m below meth c s₁ Bd hml hZ hh hx hby hown X0 e0
  have N0 := Fr.nil n0
  have lt1 : h0.size > t := F_count.lt
  refine own_aloadN X0.here hx hby d7_0 rfl rfl ?_
  refine own_getF X0 hx hZ hown (host := "") (Or.inl (own_w hw 43 rfl)) Via.refl e0 F_count hby d7_1 ?_
  intro T2 X2 e2
  obtain ⟨fs, hr, hrun, hended, hW, hsame⟩ := X2.leave (v := some (.int sz)) (fun h => by rw [Bd.returns] at h; cases h)
  refine own_ret (t := T2.setFrames fs) ?_ ⟨_, hrun, hended, _, _, rfl, ?_, ⟨_, rfl⟩, hW, hsame.mono (by decide) (by decide)⟩
  · exact retOut X2 hx Bd.returns rfl (Or.inl ⟨rfl, Or.inl rfl, _, rfl⟩) (hb hby d7_4) hr
  · show Q_count_ Z _ _ h0 n0 _ T2.heap _
    rw [e2]
    exact ⟨rfl, N0, rfl⟩
theorem ef_capac_ (m : MethodId) (x0 : Nat) : entryFrame m #[(.ref x0)] 1 = mkF m 0 #[.val (.ref x0)] [] := by first | (simp [entryFrame, mkF, argsToLocals, Value.category]; done) | rfl
theorem pn_6 : plainName "com/example/rank_to_reach/ranktoreach/Postings$Writer" = true := by first | (simp [plainName, overriddenIn]; done) | decide +kernel
theorem d6_0 : decode prog_36_method_6_code 0 = .ok (.aload_n 0, 1) := by decide +kernel
theorem d6_1 : decode prog_36_method_6_code 1 = .ok (.getfield 15, 3) := by decide +kernel
theorem d6_4 : decode prog_36_method_6_code 4 = .ok (.arraylength, 1) := by decide +kernel
theorem d6_5 : decode prog_36_method_6_code 5 = .ok (.ireturn, 1) := by decide +kernel
def Q_capac_ (Z : State) (t : Nat) (a : Nat) (ka : ClassId) (z : Int32) (vs : List Value) (h0 : Heap) (n0 : Nat) (vR : Option Value) (hR : Heap) (LR : List Loc) : Prop := vR = some (.int z) ∧ Fr n0 LR ∧ hR = h0
set_option maxRecDepth 65536 in
set_option maxHeartbeats 40000000 in
theorem capac_ (l : Launch) (Z : State) (a0 : Array Value) (hw : ∀ d ∈ tables_1, d.before a0 Z = true) (ws : List Jvm.Cond) (t : Nat) (a : Nat) (ka : ClassId) (z : Int32) (vs : List Value) (h0 : Heap) (n0 : Nat) (Z0 : n0 ≤ h0.size) (F_bytes : Fld Z h0 t "com/example/rank_to_reach/ranktoreach/Postings$Writer" "bytes" "[B" (.ref a)) (V_a : Arv Z h0 a ka .byte z vs (.int 0)) :
    own_M l (⟨"com/example/rank_to_reach/ranktoreach/Postings$Writer", "capacity", "()I"⟩ : MethodName) prog_36_method_6_code 1 (some .int) ws ({ frames := 0, cells := 0, slots := 0, locals := 0 } : Room) Z #[(.ref t)] h0 (Q_capac_ Z t a ka z vs h0 n0) := by
  refine own_body (own := "com/example/rank_to_reach/ranktoreach/Postings$Writer") rfl (plainFor_of_name pn_6) (fun m => ef_capac_ m t) ?_
  intro p e s m below meth c s₁ Bd hml hZ hh hx hby hown X0 e0
  have N0 := Fr.nil n0
  have lt1 : h0.size > t := F_bytes.lt
  have lt2 : h0.size > a := V_a.lt
  refine own_aloadN X0.here hx hby d6_0 rfl rfl ?_
  refine own_getF X0 hx hZ hown (host := "") (Or.inl (own_w hw 17 rfl)) Via.refl e0 F_bytes hby d6_1 ?_
  intro T3 X3 e3
  refine own_alen X3 hx hZ e3 V_a hby d6_4 ?_
  obtain ⟨fs, hr, hrun, hended, hW, hsame⟩ := X3.leave (v := some (.int z)) (fun h => by rw [Bd.returns] at h; cases h)
  refine own_ret (t := T3.setFrames fs) ?_ ⟨_, hrun, hended, _, _, rfl, ?_, ⟨_, rfl⟩, hW, hsame.mono (by decide) (by decide)⟩
  · exact retOut X3 hx Bd.returns rfl (Or.inl ⟨rfl, Or.inl rfl, _, rfl⟩) (hb hby d6_5) hr
  · show Q_capac_ Z _ _ _ _ _ h0 n0 _ T3.heap _
    rw [e3]
    exact ⟨rfl, N0, rfl⟩
theorem ef_bytes_ (m : MethodId) (x0 : Nat) : entryFrame m #[(.ref x0)] 1 = mkF m 0 #[.val (.ref x0)] [] := by first | (simp [entryFrame, mkF, argsToLocals, Value.category]; done) | rfl
theorem pn_12 : plainName "com/example/rank_to_reach/ranktoreach/Postings$Writer" = true := by first | (simp [plainName, overriddenIn]; done) | decide +kernel
theorem d12_0 : decode prog_36_method_4_code 0 = .ok (.aload_n 0, 1) := by decide +kernel
theorem d12_1 : decode prog_36_method_4_code 1 = .ok (.getfield 15, 3) := by decide +kernel
theorem d12_4 : decode prog_36_method_4_code 4 = .ok (.areturn, 1) := by decide +kernel
def Q_bytes_ (Z : State) (t : Nat) (a : Nat) (h0 : Heap) (n0 : Nat) (vR : Option Value) (hR : Heap) (LR : List Loc) : Prop := vR = some (.ref a) ∧ Fr n0 LR ∧ hR = h0
set_option maxRecDepth 65536 in
set_option maxHeartbeats 40000000 in
theorem bytes_ (l : Launch) (Z : State) (a0 : Array Value) (hw : ∀ d ∈ tables_1, d.before a0 Z = true) (ws : List Jvm.Cond) (t : Nat) (a : Nat) (h0 : Heap) (n0 : Nat) (Z0 : n0 ≤ h0.size) (F_bytes : Fld Z h0 t "com/example/rank_to_reach/ranktoreach/Postings$Writer" "bytes" "[B" (.ref a)) :
    own_M l (⟨"com/example/rank_to_reach/ranktoreach/Postings$Writer", "bytes", "()[B"⟩ : MethodName) prog_36_method_4_code 1 (some (.array .byte)) ws ({ frames := 0, cells := 0, slots := 0, locals := 0 } : Room) Z #[(.ref t)] h0 (Q_bytes_ Z t a h0 n0) := by
  refine own_body (own := "com/example/rank_to_reach/ranktoreach/Postings$Writer") rfl (plainFor_of_name pn_12) (fun m => ef_bytes_ m t) ?_
  intro p e s m below meth c s₁ Bd hml hZ hh hx hby hown X0 e0
  have N0 := Fr.nil n0
  have lt1 : h0.size > t := F_bytes.lt
  refine own_aloadN X0.here hx hby d12_0 rfl rfl ?_
  refine own_getF X0 hx hZ hown (host := "") (Or.inl (own_w hw 17 rfl)) Via.refl e0 F_bytes hby d12_1 ?_
  intro T2 X2 e2
  obtain ⟨fs, hr, hrun, hended, hW, hsame⟩ := X2.leave (v := some (.ref a)) (fun h => by rw [Bd.returns] at h; cases h)
  refine own_ret (t := T2.setFrames fs) ?_ ⟨_, hrun, hended, _, _, rfl, ?_, ⟨_, rfl⟩, hW, hsame.mono (by decide) (by decide)⟩
  · exact retOut X2 hx Bd.returns rfl (Or.inr (Or.inr (Or.inr (Or.inr ⟨rfl, rfl, rfl⟩)))) (hb hby d12_4) hr
  · show Q_bytes_ Z _ _ h0 n0 _ T2.heap _
    rw [e2]
    exact ⟨rfl, N0, rfl⟩
theorem ef_vlen_ (m : MethodId) (x0 : Int32) : entryFrame m #[(.int x0)] 1 = mkF m 0 #[.val (.int x0)] [] := by first | (simp [entryFrame, mkF, argsToLocals, Value.category]; done) | rfl
theorem pn_13 : plainName "com/example/rank_to_reach/ranktoreach/WriterClearPinLaw" = true := by first | (simp [plainName, overriddenIn]; done) | decide +kernel
theorem d13_0 : decode method_3_code 0 = .ok (.iload_n 0, 1) := by decide +kernel
theorem d13_1 : decode method_3_code 1 = .ok (.sipush 128, 3) := by decide +kernel
theorem d13_4 : decode method_3_code 4 = .ok (.if_icmp .ge 5, 3) := by decide +kernel
theorem d13_7 : decode method_3_code 7 = .ok (.iconst 1, 1) := by decide +kernel
theorem d13_8 : decode method_3_code 8 = .ok (.ireturn, 1) := by decide +kernel
theorem d13_9 : decode method_3_code 9 = .ok (.iload_n 0, 1) := by decide +kernel
theorem d13_10 : decode method_3_code 10 = .ok (.sipush 16384, 3) := by decide +kernel
theorem d13_13 : decode method_3_code 13 = .ok (.if_icmp .ge 5, 3) := by decide +kernel
theorem d13_16 : decode method_3_code 16 = .ok (.iconst 2, 1) := by decide +kernel
theorem d13_17 : decode method_3_code 17 = .ok (.ireturn, 1) := by decide +kernel
theorem d13_18 : decode method_3_code 18 = .ok (.iload_n 0, 1) := by decide +kernel
theorem d13_19 : decode method_3_code 19 = .ok (.ldc 49, 2) := by decide +kernel
theorem d13_21 : decode method_3_code 21 = .ok (.if_icmp .ge 5, 3) := by decide +kernel
theorem d13_24 : decode method_3_code 24 = .ok (.iconst 3, 1) := by decide +kernel
theorem d13_25 : decode method_3_code 25 = .ok (.ireturn, 1) := by decide +kernel
theorem d13_26 : decode method_3_code 26 = .ok (.iload_n 0, 1) := by decide +kernel
theorem d13_27 : decode method_3_code 27 = .ok (.ldc 50, 2) := by decide +kernel
theorem d13_29 : decode method_3_code 29 = .ok (.if_icmp .ge 5, 3) := by decide +kernel
theorem d13_32 : decode method_3_code 32 = .ok (.iconst 4, 1) := by decide +kernel
theorem d13_33 : decode method_3_code 33 = .ok (.ireturn, 1) := by decide +kernel
theorem d13_34 : decode method_3_code 34 = .ok (.iconst 5, 1) := by decide +kernel
theorem d13_35 : decode method_3_code 35 = .ok (.ireturn, 1) := by decide +kernel
def Q_vlen_ (Z : State) (v : Int32) (h0 : Heap) (n0 : Nat) (vR : Option Value) (hR : Heap) (LR : List Loc) : Prop := vR = some (.int (own_vI v)) ∧ Fr n0 LR ∧ hR = h0
set_option maxRecDepth 65536 in
set_option maxHeartbeats 40000000 in
theorem vlen_ (l : Launch) (Z : State) (a0 : Array Value) (hw : ∀ d ∈ tables_1, d.before a0 Z = true) (ws : List Jvm.Cond) (v : Int32) (h0 : Heap) (n0 : Nat) (Z0 : n0 ≤ h0.size) (hv : (0 : Int32) < v) :
    own_M l (⟨"com/example/rank_to_reach/ranktoreach/WriterClearPinLaw", "vlen", "(I)I"⟩ : MethodName) method_3_code 1 (some .int) ws ({ frames := 0, cells := 0, slots := 0, locals := 0 } : Room) Z #[(.int v)] h0 (Q_vlen_ Z v h0 n0) := by
  refine own_body (own := "com/example/rank_to_reach/ranktoreach/WriterClearPinLaw") rfl (plainFor_of_name pn_13) (fun m => ef_vlen_ m v) ?_
  intro p e s m below meth c s₁ Bd hml hZ hh hx hby hown X0 e0
  have N0 := Fr.nil n0
  refine own_iloadN X0.here hx hby d13_0 rfl ?_
  refine own_sipush X0.here hx hby d13_1 (v := (128 : Int32)) (by decide) ?_
  by_cases hc4_1 : v < (128 : Int32)
  · refine own_icmpNo X0.here hx hby d13_4 (tlt hc4_1).2.1 ?_
    refine own_iconst X0.here hx hby d13_7 (v := (1 : Int32)) (by decide) ?_
    have hvl : own_vl v = 1 := own_vl1 (fun r => (own_th v hv).1.mp r hc4_1)
    have hvI : own_vI v = (1 : Int32) := by unfold own_vI; rw [hvl]; decide
    obtain ⟨fs, hr, hrun, hended, hW, hsame⟩ := X0.leave (v := some (.int 1)) (fun h => by rw [Bd.returns] at h; cases h)
    refine own_ret (t := s₁.setFrames fs) ?_ ⟨_, hrun, hended, _, _, rfl, ?_, ⟨_, rfl⟩, hW, hsame.mono (by decide) (by decide)⟩
    · exact retOut X0 hx Bd.returns rfl (Or.inl ⟨rfl, Or.inl rfl, _, rfl⟩) (hb hby d13_8) hr
    · show Q_vlen_ Z _ h0 n0 _ s₁.heap _
      rw [e0]
      exact ⟨(by rw [hvI]), N0, rfl⟩
  · refine own_icmpYes X0.here hx hby (pc' := 9) d13_4 (flt hc4_1).2.1 (by decide) (by decide) ?_
    refine own_iloadN X0.here hx hby d13_9 rfl ?_
    refine own_sipush X0.here hx hby d13_10 (v := (16384 : Int32)) (by decide) ?_
    by_cases hc13_2 : v < (16384 : Int32)
    · refine own_icmpNo X0.here hx hby d13_13 (tlt hc13_2).2.1 ?_
      refine own_iconst X0.here hx hby d13_16 (v := (2 : Int32)) (by decide) ?_
      have hvl : own_vl v = 2 := own_vl2 ((own_th v hv).1.mpr hc4_1) (fun r => (own_th v hv).2.1.mp r hc13_2)
      have hvI : own_vI v = (2 : Int32) := by unfold own_vI; rw [hvl]; decide
      obtain ⟨fs, hr, hrun, hended, hW, hsame⟩ := X0.leave (v := some (.int 2)) (fun h => by rw [Bd.returns] at h; cases h)
      refine own_ret (t := s₁.setFrames fs) ?_ ⟨_, hrun, hended, _, _, rfl, ?_, ⟨_, rfl⟩, hW, hsame.mono (by decide) (by decide)⟩
      · exact retOut X0 hx Bd.returns rfl (Or.inl ⟨rfl, Or.inl rfl, _, rfl⟩) (hb hby d13_17) hr
      · show Q_vlen_ Z _ h0 n0 _ s₁.heap _
        rw [e0]
        exact ⟨(by rw [hvI]), N0, rfl⟩
    · refine own_icmpYes X0.here hx hby (pc' := 18) d13_13 (flt hc13_2).2.1 (by decide) (by decide) ?_
      refine own_iloadN X0.here hx hby d13_18 rfl ?_
      refine own_ldcInt X0 hx hZ hown (own_w hw 82 rfl) hby d13_19 ?_
      by_cases hc21_3 : v < (2097152 : Int32)
      · refine own_icmpNo X0.here hx hby d13_21 (tlt hc21_3).2.1 ?_
        refine own_iconst X0.here hx hby d13_24 (v := (3 : Int32)) (by decide) ?_
        have hvl : own_vl v = 3 := own_vl3 ((own_th v hv).1.mpr hc4_1) ((own_th v hv).2.1.mpr hc13_2) (fun r => (own_th v hv).2.2.1.mp r hc21_3)
        have hvI : own_vI v = (3 : Int32) := by unfold own_vI; rw [hvl]; decide
        obtain ⟨fs, hr, hrun, hended, hW, hsame⟩ := X0.leave (v := some (.int 3)) (fun h => by rw [Bd.returns] at h; cases h)
        refine own_ret (t := s₁.setFrames fs) ?_ ⟨_, hrun, hended, _, _, rfl, ?_, ⟨_, rfl⟩, hW, hsame.mono (by decide) (by decide)⟩
        · exact retOut X0 hx Bd.returns rfl (Or.inl ⟨rfl, Or.inl rfl, _, rfl⟩) (hb hby d13_25) hr
        · show Q_vlen_ Z _ h0 n0 _ s₁.heap _
          rw [e0]
          exact ⟨(by rw [hvI]), N0, rfl⟩
      · refine own_icmpYes X0.here hx hby (pc' := 26) d13_21 (flt hc21_3).2.1 (by decide) (by decide) ?_
        refine own_iloadN X0.here hx hby d13_26 rfl ?_
        refine own_ldcInt X0 hx hZ hown (own_w hw 83 rfl) hby d13_27 ?_
        by_cases hc29_4 : v < (268435456 : Int32)
        · refine own_icmpNo X0.here hx hby d13_29 (tlt hc29_4).2.1 ?_
          refine own_iconst X0.here hx hby d13_32 (v := (4 : Int32)) (by decide) ?_
          have hvl : own_vl v = 4 := own_vl4 ((own_th v hv).1.mpr hc4_1) ((own_th v hv).2.1.mpr hc13_2) ((own_th v hv).2.2.1.mpr hc21_3) (fun r => (own_th v hv).2.2.2.mp r hc29_4)
          have hvI : own_vI v = (4 : Int32) := by unfold own_vI; rw [hvl]; decide
          obtain ⟨fs, hr, hrun, hended, hW, hsame⟩ := X0.leave (v := some (.int 4)) (fun h => by rw [Bd.returns] at h; cases h)
          refine own_ret (t := s₁.setFrames fs) ?_ ⟨_, hrun, hended, _, _, rfl, ?_, ⟨_, rfl⟩, hW, hsame.mono (by decide) (by decide)⟩
          · exact retOut X0 hx Bd.returns rfl (Or.inl ⟨rfl, Or.inl rfl, _, rfl⟩) (hb hby d13_33) hr
          · show Q_vlen_ Z _ h0 n0 _ s₁.heap _
            rw [e0]
            exact ⟨(by rw [hvI]), N0, rfl⟩
        · refine own_icmpYes X0.here hx hby (pc' := 34) d13_29 (flt hc29_4).2.1 (by decide) (by decide) ?_
          refine own_iconst X0.here hx hby d13_34 (v := (5 : Int32)) (by decide) ?_
          have hvl : own_vl v = 5 := own_vl5 ((own_th v hv).1.mpr hc4_1) ((own_th v hv).2.1.mpr hc13_2) ((own_th v hv).2.2.1.mpr hc21_3) ((own_th v hv).2.2.2.mpr hc29_4)
          have hvI : own_vI v = (5 : Int32) := by unfold own_vI; rw [hvl]; decide
          obtain ⟨fs, hr, hrun, hended, hW, hsame⟩ := X0.leave (v := some (.int 5)) (fun h => by rw [Bd.returns] at h; cases h)
          refine own_ret (t := s₁.setFrames fs) ?_ ⟨_, hrun, hended, _, _, rfl, ?_, ⟨_, rfl⟩, hW, hsame.mono (by decide) (by decide)⟩
          · exact retOut X0 hx Bd.returns rfl (Or.inl ⟨rfl, Or.inl rfl, _, rfl⟩) (hb hby d13_35) hr
          · show Q_vlen_ Z _ h0 n0 _ s₁.heap _
            rw [e0]
            exact ⟨(by rw [hvI]), N0, rfl⟩
theorem ef_byteOk_0 (m : MethodId) (x0 : Nat) (x1 : Int32) (x2 : Int32) (x3 : Int32) (x4 : Int32) : entryFrame m #[(.ref x0), (.int x1), (.int x2), (.int x3), (.int x4)] 7 = mkF m 0 #[.val (.ref x0), .val (.int x1), .val (.int x2), .val (.int x3), .val (.int x4), .unset, .unset] [] := by first | (simp [entryFrame, mkF, argsToLocals, Value.category]; done) | rfl
theorem pn_15 : plainName "com/example/rank_to_reach/ranktoreach/WriterClearPinLaw" = true := by first | (simp [plainName, overriddenIn]; done) | decide +kernel
theorem d15_0 : decode method_5_code 0 = .ok (.iload_n 3, 1) := by decide +kernel
theorem d15_1 : decode method_5_code 1 = .ok (.iload 4, 2) := by decide +kernel
theorem d15_3 : decode method_5_code 3 = .ok (.if_icmp .lt 5, 3) := by decide +kernel
theorem d15_8 : decode method_5_code 8 = .ok (.iload_n 1, 1) := by decide +kernel
theorem d15_9 : decode method_5_code 9 = .ok (.iload_n 3, 1) := by decide +kernel
theorem d15_10 : decode method_5_code 10 = .ok (.iadd, 1) := by decide +kernel
theorem d15_11 : decode method_5_code 11 = .ok (.istore 5, 2) := by decide +kernel
theorem d15_13 : decode method_5_code 13 = .ok (.iload 5, 2) := by decide +kernel
theorem d15_15 : decode method_5_code 15 = .ok (.ifCond .lt 10, 3) := by decide +kernel
theorem d15_18 : decode method_5_code 18 = .ok (.iload 5, 2) := by decide +kernel
theorem d15_20 : decode method_5_code 20 = .ok (.aload_n 0, 1) := by decide +kernel
theorem d15_21 : decode method_5_code 21 = .ok (.arraylength, 1) := by decide +kernel
theorem d15_22 : decode method_5_code 22 = .ok (.if_icmp .lt 5, 3) := by decide +kernel
theorem d15_27 : decode method_5_code 27 = .ok (.iload_n 2, 1) := by decide +kernel
theorem d15_28 : decode method_5_code 28 = .ok (.bipush 7, 2) := by decide +kernel
theorem d15_30 : decode method_5_code 30 = .ok (.iload_n 3, 1) := by decide +kernel
theorem d15_31 : decode method_5_code 31 = .ok (.imul, 1) := by decide +kernel
theorem d15_32 : decode method_5_code 32 = .ok (.iushr, 1) := by decide +kernel
theorem d15_33 : decode method_5_code 33 = .ok (.bipush 127, 2) := by decide +kernel
theorem d15_35 : decode method_5_code 35 = .ok (.iand, 1) := by decide +kernel
theorem d15_36 : decode method_5_code 36 = .ok (.iload_n 3, 1) := by decide +kernel
theorem d15_37 : decode method_5_code 37 = .ok (.iload 4, 2) := by decide +kernel
theorem d15_39 : decode method_5_code 39 = .ok (.iconst 1, 1) := by decide +kernel
theorem d15_40 : decode method_5_code 40 = .ok (.isub, 1) := by decide +kernel
theorem d15_41 : decode method_5_code 41 = .ok (.if_icmp .ge 9, 3) := by decide +kernel
theorem d15_44 : decode method_5_code 44 = .ok (.sipush 128, 3) := by decide +kernel
theorem d15_47 : decode method_5_code 47 = .ok (.goto 4, 3) := by decide +kernel
theorem d15_51 : decode method_5_code 51 = .ok (.ior, 1) := by decide +kernel
theorem d15_52 : decode method_5_code 52 = .ok (.istore 6, 2) := by decide +kernel
theorem d15_54 : decode method_5_code 54 = .ok (.aload_n 0, 1) := by decide +kernel
theorem d15_55 : decode method_5_code 55 = .ok (.iload 5, 2) := by decide +kernel
theorem d15_57 : decode method_5_code 57 = .ok (.baload, 1) := by decide +kernel
theorem d15_58 : decode method_5_code 58 = .ok (.sipush 255, 3) := by decide +kernel
theorem d15_61 : decode method_5_code 61 = .ok (.iand, 1) := by decide +kernel
theorem d15_62 : decode method_5_code 62 = .ok (.iload 6, 2) := by decide +kernel
theorem d15_64 : decode method_5_code 64 = .ok (.if_icmp .ne 7, 3) := by decide +kernel
theorem d15_67 : decode method_5_code 67 = .ok (.iconst 1, 1) := by decide +kernel
theorem d15_68 : decode method_5_code 68 = .ok (.goto 4, 3) := by decide +kernel
theorem d15_72 : decode method_5_code 72 = .ok (.ireturn, 1) := by decide +kernel
theorem d15_50 : decode method_5_code 50 = .ok (.iconst 0, 1) := by decide +kernel
theorem d15_6 : decode method_5_code 6 = .ok (.iconst 1, 1) := by decide +kernel
theorem d15_7 : decode method_5_code 7 = .ok (.ireturn, 1) := by decide +kernel
def Q_byteOk_0 (Z : State) (b : Nat) (kb : ClassId) (z : Int32) (vs : List Value) (at_ : Int32) (v : Int32) (h0 : Heap) (n0 : Nat) (vR : Option Value) (hR : Heap) (LR : List Loc) : Prop := vR = some (.int 1) ∧ Fr n0 LR ∧ hR = h0
set_option maxRecDepth 65536 in
set_option maxHeartbeats 40000000 in
theorem byteOk_0 (l : Launch) (Z : State) (a0 : Array Value) (hw : ∀ d ∈ tables_1, d.before a0 Z = true) (ws : List Jvm.Cond) (b : Nat) (kb : ClassId) (z : Int32) (vs : List Value) (at_ : Int32) (v : Int32) (h0 : Heap) (n0 : Nat) (Z0 : n0 ≤ h0.size) (V_b : Arv Z h0 b kb .byte z vs (.int 0)) (hat0 : 0 ≤ at_.toInt) (hsz : at_.toInt + own_vl v ≤ z.toInt) (hv : (0 : Int32) < v) (hc : ∀ j, j < own_vl v → vs.getD (at_.toNatClampNeg + j) (.int 0) = .int (own_by v j)) :
    own_M l (⟨"com/example/rank_to_reach/ranktoreach/WriterClearPinLaw", "byteOk", "([BIIII)Z"⟩ : MethodName) method_5_code 7 (some .boolean) ws ({ frames := 0, cells := 0, slots := 0, locals := 0 } : Room) Z #[(.ref b), (.int at_), (.int v), (.int 0), (.int (own_vI v))] h0 (Q_byteOk_0 Z b kb z vs at_ v h0 n0) := by
  refine own_body (own := "com/example/rank_to_reach/ranktoreach/WriterClearPinLaw") rfl (plainFor_of_name pn_15) (fun m => ef_byteOk_0 m b at_ v (0 : Int32) (own_vI v)) ?_
  intro p e s m below meth c s₁ Bd hml hZ hh hx hby hown X0 e0
  have N0 := Fr.nil n0
  have lt1 : h0.size > b := V_b.lt
  refine own_iloadN X0.here hx hby d15_0 rfl ?_
  refine own_iload X0.here hx hby d15_1 rfl ?_
  by_cases hc3_2 : (0 : Int32) < (own_vI v)
  · refine own_icmpYes X0.here hx hby (pc' := 8) d15_3 (tlt hc3_2).1 (by decide) (by decide) ?_
    have hk := own_kvl (k := 0) (by decide) hc3_2
    have q1 : (at_ + (0 : Int32)).toInt = at_.toInt + 0 := by
      have a : (0 : Int32).toInt = 0 := by decide
      have := rng32 z
      rw [own_addI (by omega) (by omega), a]
    have q2 : (at_ + (0 : Int32)).toNatClampNeg = at_.toNatClampNeg + 0 := by
      have a := own_clamp hat0
      have b := own_clamp (x := at_ + (0 : Int32)) (by omega)
      omega
    have z0 : (0 : Int32).toInt = 0 := by decide
    refine own_iloadN X0.here hx hby d15_8 rfl ?_
    refine own_iloadN X0.here hx hby d15_9 rfl ?_
    refine own_iadd X0.here hx hby d15_10 rfl ?_
    refine own_istore X0.here hx hby d15_11 (l' := #[.val (.ref b), .val (.int at_), .val (.int v), .val (.int 0), .val (.int (own_vI v)), .val (.int (at_ + (0 : Int32))), .unset]) rfl ?_
    refine own_iload X0.here hx hby d15_13 rfl ?_
    refine own_ifNo X0.here hx hby d15_15 ((if0 _ _).trans (flt (show ¬ ((at_ + (0 : Int32)) < (0 : Int32)) from (own_nlt (by omega)))).1) ?_
    refine own_iload X0.here hx hby d15_18 rfl ?_
    refine own_aloadN X0.here hx hby d15_20 rfl rfl ?_
    refine own_alen X0 hx hZ e0 V_b hby d15_21 ?_
    refine own_icmpYes X0.here hx hby (pc' := 27) d15_22 (tlt (show (at_ + (0 : Int32)) < z from (own_lt (by omega)))).1 (by decide) (by decide) ?_
    refine own_iloadN X0.here hx hby d15_27 rfl ?_
    refine own_bipush X0.here hx hby d15_28 (v := (7 : Int32)) (by decide) ?_
    refine own_iloadN X0.here hx hby d15_30 rfl ?_
    refine own_imul X0.here hx hby d15_31 (v := (0 : Int32)) (by decide) ?_
    refine own_iushr X0.here hx hby d15_32 rfl ?_
    refine own_bipush X0.here hx hby d15_33 (v := (127 : Int32)) (by decide) ?_
    refine own_iand X0.here hx hby d15_35 rfl ?_
    refine own_iloadN X0.here hx hby d15_36 rfl ?_
    refine own_iload X0.here hx hby d15_37 rfl ?_
    refine own_iconst X0.here hx hby d15_39 (v := (1 : Int32)) (by decide) ?_
    refine own_isub X0.here hx hby d15_40 rfl ?_
    by_cases hc41_3 : (0 : Int32) < ((own_vI v) - (1 : Int32))
    · refine own_icmpNo X0.here hx hby d15_41 (tlt hc41_3).2.1 ?_
      refine own_sipush X0.here hx hby d15_44 (v := (128 : Int32)) (by decide) ?_
      refine own_goto X0.here hx hby (pc' := 51) d15_47 (by decide) (by decide) ?_
      refine own_ior X0.here hx hby d15_51 rfl ?_
      refine own_istore X0.here hx hby d15_52 (l' := #[.val (.ref b), .val (.int at_), .val (.int v), .val (.int 0), .val (.int (own_vI v)), .val (.int (at_ + (0 : Int32))), .val (.int ((((v.toUInt32 >>> ((0 : Int32) &&& 31).toUInt32).toInt32) &&& (127 : Int32)) ||| (128 : Int32)))]) rfl ?_
      refine own_aloadN X0.here hx hby d15_54 rfl rfl ?_
      refine own_iload X0.here hx hby d15_55 rfl ?_
      refine own_baload X0 hx hZ e0 V_b ⟨own_nlt (by omega), own_lt (by omega)⟩ (v := (.int (own_by v 0))) (by rw [q2]; exact hc 0 hk) hby d15_57 ?_
      refine own_sipush X0.here hx hby d15_58 (v := (255 : Int32)) (by decide) ?_
      refine own_iand X0.here hx hby d15_61 rfl ?_
      refine own_iload X0.here hx hby d15_62 rfl ?_
      refine own_icmpNo X0.here hx hby d15_64 (teq (show ((own_by v 0) &&& (255 : Int32)) = ((((v.toUInt32 >>> ((0 : Int32) &&& 31).toUInt32).toInt32) &&& (127 : Int32)) ||| (128 : Int32)) from ((own_want (q := (0 : Int32)) (k := 0) hv (by decide) (by decide) hk).1 (own_ksub (k := 0) (by decide) hc41_3)))).2 ?_
      refine own_iconst X0.here hx hby d15_67 (v := (1 : Int32)) (by decide) ?_
      refine own_goto X0.here hx hby (pc' := 72) d15_68 (by decide) (by decide) ?_
      obtain ⟨fs, hr, hrun, hended, hW, hsame⟩ := X0.leave (v := some (.int 1)) (fun h => by rw [Bd.returns] at h; cases h)
      refine own_ret (t := s₁.setFrames fs) ?_ ⟨_, hrun, hended, _, _, rfl, ?_, ⟨_, rfl⟩, hW, hsame.mono (by decide) (by decide)⟩
      · exact retN X0 hx (t := .boolean) Bd.returns (by simp) (hb hby d15_72) hr
      · show Q_byteOk_0 Z _ _ _ _ _ _ h0 n0 _ s₁.heap _
        rw [e0]
        exact ⟨rfl, N0, rfl⟩
    · refine own_icmpYes X0.here hx hby (pc' := 50) d15_41 (flt hc41_3).2.1 (by decide) (by decide) ?_
      refine own_iconst X0.here hx hby d15_50 (v := (0 : Int32)) (by decide) ?_
      refine own_ior X0.here hx hby d15_51 rfl ?_
      refine own_istore X0.here hx hby d15_52 (l' := #[.val (.ref b), .val (.int at_), .val (.int v), .val (.int 0), .val (.int (own_vI v)), .val (.int (at_ + (0 : Int32))), .val (.int ((((v.toUInt32 >>> ((0 : Int32) &&& 31).toUInt32).toInt32) &&& (127 : Int32)) ||| (0 : Int32)))]) rfl ?_
      refine own_aloadN X0.here hx hby d15_54 rfl rfl ?_
      refine own_iload X0.here hx hby d15_55 rfl ?_
      refine own_baload X0 hx hZ e0 V_b ⟨own_nlt (by omega), own_lt (by omega)⟩ (v := (.int (own_by v 0))) (by rw [q2]; exact hc 0 hk) hby d15_57 ?_
      refine own_sipush X0.here hx hby d15_58 (v := (255 : Int32)) (by decide) ?_
      refine own_iand X0.here hx hby d15_61 rfl ?_
      refine own_iload X0.here hx hby d15_62 rfl ?_
      refine own_icmpNo X0.here hx hby d15_64 (teq (show ((own_by v 0) &&& (255 : Int32)) = ((((v.toUInt32 >>> ((0 : Int32) &&& 31).toUInt32).toInt32) &&& (127 : Int32)) ||| (0 : Int32)) from ((own_want (q := (0 : Int32)) (k := 0) hv (by decide) (by decide) hk).2 (fun r => hc41_3 (own_ksub' (k := 0) (by decide) r))))).2 ?_
      refine own_iconst X0.here hx hby d15_67 (v := (1 : Int32)) (by decide) ?_
      refine own_goto X0.here hx hby (pc' := 72) d15_68 (by decide) (by decide) ?_
      obtain ⟨fs, hr, hrun, hended, hW, hsame⟩ := X0.leave (v := some (.int 1)) (fun h => by rw [Bd.returns] at h; cases h)
      refine own_ret (t := s₁.setFrames fs) ?_ ⟨_, hrun, hended, _, _, rfl, ?_, ⟨_, rfl⟩, hW, hsame.mono (by decide) (by decide)⟩
      · exact retN X0 hx (t := .boolean) Bd.returns (by simp) (hb hby d15_72) hr
      · show Q_byteOk_0 Z _ _ _ _ _ _ h0 n0 _ s₁.heap _
        rw [e0]
        exact ⟨rfl, N0, rfl⟩
  · refine own_icmpNo X0.here hx hby d15_3 (flt hc3_2).1 ?_
    refine own_iconst X0.here hx hby d15_6 (v := (1 : Int32)) (by decide) ?_
    obtain ⟨fs, hr, hrun, hended, hW, hsame⟩ := X0.leave (v := some (.int 1)) (fun h => by rw [Bd.returns] at h; cases h)
    refine own_ret (t := s₁.setFrames fs) ?_ ⟨_, hrun, hended, _, _, rfl, ?_, ⟨_, rfl⟩, hW, hsame.mono (by decide) (by decide)⟩
    · exact retN X0 hx (t := .boolean) Bd.returns (by simp) (hb hby d15_7) hr
    · show Q_byteOk_0 Z _ _ _ _ _ _ h0 n0 _ s₁.heap _
      rw [e0]
      exact ⟨rfl, N0, rfl⟩
def Q_byteOk_1 (Z : State) (b : Nat) (kb : ClassId) (z : Int32) (vs : List Value) (at_ : Int32) (v : Int32) (h0 : Heap) (n0 : Nat) (vR : Option Value) (hR : Heap) (LR : List Loc) : Prop := vR = some (.int 1) ∧ Fr n0 LR ∧ hR = h0
set_option maxRecDepth 65536 in
set_option maxHeartbeats 40000000 in
theorem byteOk_1 (l : Launch) (Z : State) (a0 : Array Value) (hw : ∀ d ∈ tables_1, d.before a0 Z = true) (ws : List Jvm.Cond) (b : Nat) (kb : ClassId) (z : Int32) (vs : List Value) (at_ : Int32) (v : Int32) (h0 : Heap) (n0 : Nat) (Z0 : n0 ≤ h0.size) (V_b : Arv Z h0 b kb .byte z vs (.int 0)) (hat0 : 0 ≤ at_.toInt) (hsz : at_.toInt + own_vl v ≤ z.toInt) (hv : (0 : Int32) < v) (hc : ∀ j, j < own_vl v → vs.getD (at_.toNatClampNeg + j) (.int 0) = .int (own_by v j)) :
    own_M l (⟨"com/example/rank_to_reach/ranktoreach/WriterClearPinLaw", "byteOk", "([BIIII)Z"⟩ : MethodName) method_5_code 7 (some .boolean) ws ({ frames := 0, cells := 0, slots := 0, locals := 0 } : Room) Z #[(.ref b), (.int at_), (.int v), (.int 1), (.int (own_vI v))] h0 (Q_byteOk_1 Z b kb z vs at_ v h0 n0) := by
  refine own_body (own := "com/example/rank_to_reach/ranktoreach/WriterClearPinLaw") rfl (plainFor_of_name pn_15) (fun m => ef_byteOk_0 m b at_ v (1 : Int32) (own_vI v)) ?_
  intro p e s m below meth c s₁ Bd hml hZ hh hx hby hown X0 e0
  have N0 := Fr.nil n0
  have lt1 : h0.size > b := V_b.lt
  refine own_iloadN X0.here hx hby d15_0 rfl ?_
  refine own_iload X0.here hx hby d15_1 rfl ?_
  by_cases hc3_2 : (1 : Int32) < (own_vI v)
  · refine own_icmpYes X0.here hx hby (pc' := 8) d15_3 (tlt hc3_2).1 (by decide) (by decide) ?_
    have hk := own_kvl (k := 1) (by decide) hc3_2
    have q1 : (at_ + (1 : Int32)).toInt = at_.toInt + 1 := by
      have a : (1 : Int32).toInt = 1 := by decide
      have := rng32 z
      rw [own_addI (by omega) (by omega), a]
    have q2 : (at_ + (1 : Int32)).toNatClampNeg = at_.toNatClampNeg + 1 := by
      have a := own_clamp hat0
      have b := own_clamp (x := at_ + (1 : Int32)) (by omega)
      omega
    have z0 : (0 : Int32).toInt = 0 := by decide
    refine own_iloadN X0.here hx hby d15_8 rfl ?_
    refine own_iloadN X0.here hx hby d15_9 rfl ?_
    refine own_iadd X0.here hx hby d15_10 rfl ?_
    refine own_istore X0.here hx hby d15_11 (l' := #[.val (.ref b), .val (.int at_), .val (.int v), .val (.int 1), .val (.int (own_vI v)), .val (.int (at_ + (1 : Int32))), .unset]) rfl ?_
    refine own_iload X0.here hx hby d15_13 rfl ?_
    refine own_ifNo X0.here hx hby d15_15 ((if0 _ _).trans (flt (show ¬ ((at_ + (1 : Int32)) < (0 : Int32)) from (own_nlt (by omega)))).1) ?_
    refine own_iload X0.here hx hby d15_18 rfl ?_
    refine own_aloadN X0.here hx hby d15_20 rfl rfl ?_
    refine own_alen X0 hx hZ e0 V_b hby d15_21 ?_
    refine own_icmpYes X0.here hx hby (pc' := 27) d15_22 (tlt (show (at_ + (1 : Int32)) < z from (own_lt (by omega)))).1 (by decide) (by decide) ?_
    refine own_iloadN X0.here hx hby d15_27 rfl ?_
    refine own_bipush X0.here hx hby d15_28 (v := (7 : Int32)) (by decide) ?_
    refine own_iloadN X0.here hx hby d15_30 rfl ?_
    refine own_imul X0.here hx hby d15_31 (v := (7 : Int32)) (by decide) ?_
    refine own_iushr X0.here hx hby d15_32 rfl ?_
    refine own_bipush X0.here hx hby d15_33 (v := (127 : Int32)) (by decide) ?_
    refine own_iand X0.here hx hby d15_35 rfl ?_
    refine own_iloadN X0.here hx hby d15_36 rfl ?_
    refine own_iload X0.here hx hby d15_37 rfl ?_
    refine own_iconst X0.here hx hby d15_39 (v := (1 : Int32)) (by decide) ?_
    refine own_isub X0.here hx hby d15_40 rfl ?_
    by_cases hc41_3 : (1 : Int32) < ((own_vI v) - (1 : Int32))
    · refine own_icmpNo X0.here hx hby d15_41 (tlt hc41_3).2.1 ?_
      refine own_sipush X0.here hx hby d15_44 (v := (128 : Int32)) (by decide) ?_
      refine own_goto X0.here hx hby (pc' := 51) d15_47 (by decide) (by decide) ?_
      refine own_ior X0.here hx hby d15_51 rfl ?_
      refine own_istore X0.here hx hby d15_52 (l' := #[.val (.ref b), .val (.int at_), .val (.int v), .val (.int 1), .val (.int (own_vI v)), .val (.int (at_ + (1 : Int32))), .val (.int ((((v.toUInt32 >>> ((7 : Int32) &&& 31).toUInt32).toInt32) &&& (127 : Int32)) ||| (128 : Int32)))]) rfl ?_
      refine own_aloadN X0.here hx hby d15_54 rfl rfl ?_
      refine own_iload X0.here hx hby d15_55 rfl ?_
      refine own_baload X0 hx hZ e0 V_b ⟨own_nlt (by omega), own_lt (by omega)⟩ (v := (.int (own_by v 1))) (by rw [q2]; exact hc 1 hk) hby d15_57 ?_
      refine own_sipush X0.here hx hby d15_58 (v := (255 : Int32)) (by decide) ?_
      refine own_iand X0.here hx hby d15_61 rfl ?_
      refine own_iload X0.here hx hby d15_62 rfl ?_
      refine own_icmpNo X0.here hx hby d15_64 (teq (show ((own_by v 1) &&& (255 : Int32)) = ((((v.toUInt32 >>> ((7 : Int32) &&& 31).toUInt32).toInt32) &&& (127 : Int32)) ||| (128 : Int32)) from ((own_want (q := (7 : Int32)) (k := 1) hv (by decide) (by decide) hk).1 (own_ksub (k := 1) (by decide) hc41_3)))).2 ?_
      refine own_iconst X0.here hx hby d15_67 (v := (1 : Int32)) (by decide) ?_
      refine own_goto X0.here hx hby (pc' := 72) d15_68 (by decide) (by decide) ?_
      obtain ⟨fs, hr, hrun, hended, hW, hsame⟩ := X0.leave (v := some (.int 1)) (fun h => by rw [Bd.returns] at h; cases h)
      refine own_ret (t := s₁.setFrames fs) ?_ ⟨_, hrun, hended, _, _, rfl, ?_, ⟨_, rfl⟩, hW, hsame.mono (by decide) (by decide)⟩
      · exact retN X0 hx (t := .boolean) Bd.returns (by simp) (hb hby d15_72) hr
      · show Q_byteOk_1 Z _ _ _ _ _ _ h0 n0 _ s₁.heap _
        rw [e0]
        exact ⟨rfl, N0, rfl⟩
    · refine own_icmpYes X0.here hx hby (pc' := 50) d15_41 (flt hc41_3).2.1 (by decide) (by decide) ?_
      refine own_iconst X0.here hx hby d15_50 (v := (0 : Int32)) (by decide) ?_
      refine own_ior X0.here hx hby d15_51 rfl ?_
      refine own_istore X0.here hx hby d15_52 (l' := #[.val (.ref b), .val (.int at_), .val (.int v), .val (.int 1), .val (.int (own_vI v)), .val (.int (at_ + (1 : Int32))), .val (.int ((((v.toUInt32 >>> ((7 : Int32) &&& 31).toUInt32).toInt32) &&& (127 : Int32)) ||| (0 : Int32)))]) rfl ?_
      refine own_aloadN X0.here hx hby d15_54 rfl rfl ?_
      refine own_iload X0.here hx hby d15_55 rfl ?_
      refine own_baload X0 hx hZ e0 V_b ⟨own_nlt (by omega), own_lt (by omega)⟩ (v := (.int (own_by v 1))) (by rw [q2]; exact hc 1 hk) hby d15_57 ?_
      refine own_sipush X0.here hx hby d15_58 (v := (255 : Int32)) (by decide) ?_
      refine own_iand X0.here hx hby d15_61 rfl ?_
      refine own_iload X0.here hx hby d15_62 rfl ?_
      refine own_icmpNo X0.here hx hby d15_64 (teq (show ((own_by v 1) &&& (255 : Int32)) = ((((v.toUInt32 >>> ((7 : Int32) &&& 31).toUInt32).toInt32) &&& (127 : Int32)) ||| (0 : Int32)) from ((own_want (q := (7 : Int32)) (k := 1) hv (by decide) (by decide) hk).2 (fun r => hc41_3 (own_ksub' (k := 1) (by decide) r))))).2 ?_
      refine own_iconst X0.here hx hby d15_67 (v := (1 : Int32)) (by decide) ?_
      refine own_goto X0.here hx hby (pc' := 72) d15_68 (by decide) (by decide) ?_
      obtain ⟨fs, hr, hrun, hended, hW, hsame⟩ := X0.leave (v := some (.int 1)) (fun h => by rw [Bd.returns] at h; cases h)
      refine own_ret (t := s₁.setFrames fs) ?_ ⟨_, hrun, hended, _, _, rfl, ?_, ⟨_, rfl⟩, hW, hsame.mono (by decide) (by decide)⟩
      · exact retN X0 hx (t := .boolean) Bd.returns (by simp) (hb hby d15_72) hr
      · show Q_byteOk_1 Z _ _ _ _ _ _ h0 n0 _ s₁.heap _
        rw [e0]
        exact ⟨rfl, N0, rfl⟩
  · refine own_icmpNo X0.here hx hby d15_3 (flt hc3_2).1 ?_
    refine own_iconst X0.here hx hby d15_6 (v := (1 : Int32)) (by decide) ?_
    obtain ⟨fs, hr, hrun, hended, hW, hsame⟩ := X0.leave (v := some (.int 1)) (fun h => by rw [Bd.returns] at h; cases h)
    refine own_ret (t := s₁.setFrames fs) ?_ ⟨_, hrun, hended, _, _, rfl, ?_, ⟨_, rfl⟩, hW, hsame.mono (by decide) (by decide)⟩
    · exact retN X0 hx (t := .boolean) Bd.returns (by simp) (hb hby d15_7) hr
    · show Q_byteOk_1 Z _ _ _ _ _ _ h0 n0 _ s₁.heap _
      rw [e0]
      exact ⟨rfl, N0, rfl⟩
def Q_byteOk_2 (Z : State) (b : Nat) (kb : ClassId) (z : Int32) (vs : List Value) (at_ : Int32) (v : Int32) (h0 : Heap) (n0 : Nat) (vR : Option Value) (hR : Heap) (LR : List Loc) : Prop := vR = some (.int 1) ∧ Fr n0 LR ∧ hR = h0
set_option maxRecDepth 65536 in
set_option maxHeartbeats 40000000 in
theorem byteOk_2 (l : Launch) (Z : State) (a0 : Array Value) (hw : ∀ d ∈ tables_1, d.before a0 Z = true) (ws : List Jvm.Cond) (b : Nat) (kb : ClassId) (z : Int32) (vs : List Value) (at_ : Int32) (v : Int32) (h0 : Heap) (n0 : Nat) (Z0 : n0 ≤ h0.size) (V_b : Arv Z h0 b kb .byte z vs (.int 0)) (hat0 : 0 ≤ at_.toInt) (hsz : at_.toInt + own_vl v ≤ z.toInt) (hv : (0 : Int32) < v) (hc : ∀ j, j < own_vl v → vs.getD (at_.toNatClampNeg + j) (.int 0) = .int (own_by v j)) :
    own_M l (⟨"com/example/rank_to_reach/ranktoreach/WriterClearPinLaw", "byteOk", "([BIIII)Z"⟩ : MethodName) method_5_code 7 (some .boolean) ws ({ frames := 0, cells := 0, slots := 0, locals := 0 } : Room) Z #[(.ref b), (.int at_), (.int v), (.int 2), (.int (own_vI v))] h0 (Q_byteOk_2 Z b kb z vs at_ v h0 n0) := by
  refine own_body (own := "com/example/rank_to_reach/ranktoreach/WriterClearPinLaw") rfl (plainFor_of_name pn_15) (fun m => ef_byteOk_0 m b at_ v (2 : Int32) (own_vI v)) ?_
  intro p e s m below meth c s₁ Bd hml hZ hh hx hby hown X0 e0
  have N0 := Fr.nil n0
  have lt1 : h0.size > b := V_b.lt
  refine own_iloadN X0.here hx hby d15_0 rfl ?_
  refine own_iload X0.here hx hby d15_1 rfl ?_
  by_cases hc3_2 : (2 : Int32) < (own_vI v)
  · refine own_icmpYes X0.here hx hby (pc' := 8) d15_3 (tlt hc3_2).1 (by decide) (by decide) ?_
    have hk := own_kvl (k := 2) (by decide) hc3_2
    have q1 : (at_ + (2 : Int32)).toInt = at_.toInt + 2 := by
      have a : (2 : Int32).toInt = 2 := by decide
      have := rng32 z
      rw [own_addI (by omega) (by omega), a]
    have q2 : (at_ + (2 : Int32)).toNatClampNeg = at_.toNatClampNeg + 2 := by
      have a := own_clamp hat0
      have b := own_clamp (x := at_ + (2 : Int32)) (by omega)
      omega
    have z0 : (0 : Int32).toInt = 0 := by decide
    refine own_iloadN X0.here hx hby d15_8 rfl ?_
    refine own_iloadN X0.here hx hby d15_9 rfl ?_
    refine own_iadd X0.here hx hby d15_10 rfl ?_
    refine own_istore X0.here hx hby d15_11 (l' := #[.val (.ref b), .val (.int at_), .val (.int v), .val (.int 2), .val (.int (own_vI v)), .val (.int (at_ + (2 : Int32))), .unset]) rfl ?_
    refine own_iload X0.here hx hby d15_13 rfl ?_
    refine own_ifNo X0.here hx hby d15_15 ((if0 _ _).trans (flt (show ¬ ((at_ + (2 : Int32)) < (0 : Int32)) from (own_nlt (by omega)))).1) ?_
    refine own_iload X0.here hx hby d15_18 rfl ?_
    refine own_aloadN X0.here hx hby d15_20 rfl rfl ?_
    refine own_alen X0 hx hZ e0 V_b hby d15_21 ?_
    refine own_icmpYes X0.here hx hby (pc' := 27) d15_22 (tlt (show (at_ + (2 : Int32)) < z from (own_lt (by omega)))).1 (by decide) (by decide) ?_
    refine own_iloadN X0.here hx hby d15_27 rfl ?_
    refine own_bipush X0.here hx hby d15_28 (v := (7 : Int32)) (by decide) ?_
    refine own_iloadN X0.here hx hby d15_30 rfl ?_
    refine own_imul X0.here hx hby d15_31 (v := (14 : Int32)) (by decide) ?_
    refine own_iushr X0.here hx hby d15_32 rfl ?_
    refine own_bipush X0.here hx hby d15_33 (v := (127 : Int32)) (by decide) ?_
    refine own_iand X0.here hx hby d15_35 rfl ?_
    refine own_iloadN X0.here hx hby d15_36 rfl ?_
    refine own_iload X0.here hx hby d15_37 rfl ?_
    refine own_iconst X0.here hx hby d15_39 (v := (1 : Int32)) (by decide) ?_
    refine own_isub X0.here hx hby d15_40 rfl ?_
    by_cases hc41_3 : (2 : Int32) < ((own_vI v) - (1 : Int32))
    · refine own_icmpNo X0.here hx hby d15_41 (tlt hc41_3).2.1 ?_
      refine own_sipush X0.here hx hby d15_44 (v := (128 : Int32)) (by decide) ?_
      refine own_goto X0.here hx hby (pc' := 51) d15_47 (by decide) (by decide) ?_
      refine own_ior X0.here hx hby d15_51 rfl ?_
      refine own_istore X0.here hx hby d15_52 (l' := #[.val (.ref b), .val (.int at_), .val (.int v), .val (.int 2), .val (.int (own_vI v)), .val (.int (at_ + (2 : Int32))), .val (.int ((((v.toUInt32 >>> ((14 : Int32) &&& 31).toUInt32).toInt32) &&& (127 : Int32)) ||| (128 : Int32)))]) rfl ?_
      refine own_aloadN X0.here hx hby d15_54 rfl rfl ?_
      refine own_iload X0.here hx hby d15_55 rfl ?_
      refine own_baload X0 hx hZ e0 V_b ⟨own_nlt (by omega), own_lt (by omega)⟩ (v := (.int (own_by v 2))) (by rw [q2]; exact hc 2 hk) hby d15_57 ?_
      refine own_sipush X0.here hx hby d15_58 (v := (255 : Int32)) (by decide) ?_
      refine own_iand X0.here hx hby d15_61 rfl ?_
      refine own_iload X0.here hx hby d15_62 rfl ?_
      refine own_icmpNo X0.here hx hby d15_64 (teq (show ((own_by v 2) &&& (255 : Int32)) = ((((v.toUInt32 >>> ((14 : Int32) &&& 31).toUInt32).toInt32) &&& (127 : Int32)) ||| (128 : Int32)) from ((own_want (q := (14 : Int32)) (k := 2) hv (by decide) (by decide) hk).1 (own_ksub (k := 2) (by decide) hc41_3)))).2 ?_
      refine own_iconst X0.here hx hby d15_67 (v := (1 : Int32)) (by decide) ?_
      refine own_goto X0.here hx hby (pc' := 72) d15_68 (by decide) (by decide) ?_
      obtain ⟨fs, hr, hrun, hended, hW, hsame⟩ := X0.leave (v := some (.int 1)) (fun h => by rw [Bd.returns] at h; cases h)
      refine own_ret (t := s₁.setFrames fs) ?_ ⟨_, hrun, hended, _, _, rfl, ?_, ⟨_, rfl⟩, hW, hsame.mono (by decide) (by decide)⟩
      · exact retN X0 hx (t := .boolean) Bd.returns (by simp) (hb hby d15_72) hr
      · show Q_byteOk_2 Z _ _ _ _ _ _ h0 n0 _ s₁.heap _
        rw [e0]
        exact ⟨rfl, N0, rfl⟩
    · refine own_icmpYes X0.here hx hby (pc' := 50) d15_41 (flt hc41_3).2.1 (by decide) (by decide) ?_
      refine own_iconst X0.here hx hby d15_50 (v := (0 : Int32)) (by decide) ?_
      refine own_ior X0.here hx hby d15_51 rfl ?_
      refine own_istore X0.here hx hby d15_52 (l' := #[.val (.ref b), .val (.int at_), .val (.int v), .val (.int 2), .val (.int (own_vI v)), .val (.int (at_ + (2 : Int32))), .val (.int ((((v.toUInt32 >>> ((14 : Int32) &&& 31).toUInt32).toInt32) &&& (127 : Int32)) ||| (0 : Int32)))]) rfl ?_
      refine own_aloadN X0.here hx hby d15_54 rfl rfl ?_
      refine own_iload X0.here hx hby d15_55 rfl ?_
      refine own_baload X0 hx hZ e0 V_b ⟨own_nlt (by omega), own_lt (by omega)⟩ (v := (.int (own_by v 2))) (by rw [q2]; exact hc 2 hk) hby d15_57 ?_
      refine own_sipush X0.here hx hby d15_58 (v := (255 : Int32)) (by decide) ?_
      refine own_iand X0.here hx hby d15_61 rfl ?_
      refine own_iload X0.here hx hby d15_62 rfl ?_
      refine own_icmpNo X0.here hx hby d15_64 (teq (show ((own_by v 2) &&& (255 : Int32)) = ((((v.toUInt32 >>> ((14 : Int32) &&& 31).toUInt32).toInt32) &&& (127 : Int32)) ||| (0 : Int32)) from ((own_want (q := (14 : Int32)) (k := 2) hv (by decide) (by decide) hk).2 (fun r => hc41_3 (own_ksub' (k := 2) (by decide) r))))).2 ?_
      refine own_iconst X0.here hx hby d15_67 (v := (1 : Int32)) (by decide) ?_
      refine own_goto X0.here hx hby (pc' := 72) d15_68 (by decide) (by decide) ?_
      obtain ⟨fs, hr, hrun, hended, hW, hsame⟩ := X0.leave (v := some (.int 1)) (fun h => by rw [Bd.returns] at h; cases h)
      refine own_ret (t := s₁.setFrames fs) ?_ ⟨_, hrun, hended, _, _, rfl, ?_, ⟨_, rfl⟩, hW, hsame.mono (by decide) (by decide)⟩
      · exact retN X0 hx (t := .boolean) Bd.returns (by simp) (hb hby d15_72) hr
      · show Q_byteOk_2 Z _ _ _ _ _ _ h0 n0 _ s₁.heap _
        rw [e0]
        exact ⟨rfl, N0, rfl⟩
  · refine own_icmpNo X0.here hx hby d15_3 (flt hc3_2).1 ?_
    refine own_iconst X0.here hx hby d15_6 (v := (1 : Int32)) (by decide) ?_
    obtain ⟨fs, hr, hrun, hended, hW, hsame⟩ := X0.leave (v := some (.int 1)) (fun h => by rw [Bd.returns] at h; cases h)
    refine own_ret (t := s₁.setFrames fs) ?_ ⟨_, hrun, hended, _, _, rfl, ?_, ⟨_, rfl⟩, hW, hsame.mono (by decide) (by decide)⟩
    · exact retN X0 hx (t := .boolean) Bd.returns (by simp) (hb hby d15_7) hr
    · show Q_byteOk_2 Z _ _ _ _ _ _ h0 n0 _ s₁.heap _
      rw [e0]
      exact ⟨rfl, N0, rfl⟩
def Q_byteOk_3 (Z : State) (b : Nat) (kb : ClassId) (z : Int32) (vs : List Value) (at_ : Int32) (v : Int32) (h0 : Heap) (n0 : Nat) (vR : Option Value) (hR : Heap) (LR : List Loc) : Prop := vR = some (.int 1) ∧ Fr n0 LR ∧ hR = h0
set_option maxRecDepth 65536 in
set_option maxHeartbeats 40000000 in
theorem byteOk_3 (l : Launch) (Z : State) (a0 : Array Value) (hw : ∀ d ∈ tables_1, d.before a0 Z = true) (ws : List Jvm.Cond) (b : Nat) (kb : ClassId) (z : Int32) (vs : List Value) (at_ : Int32) (v : Int32) (h0 : Heap) (n0 : Nat) (Z0 : n0 ≤ h0.size) (V_b : Arv Z h0 b kb .byte z vs (.int 0)) (hat0 : 0 ≤ at_.toInt) (hsz : at_.toInt + own_vl v ≤ z.toInt) (hv : (0 : Int32) < v) (hc : ∀ j, j < own_vl v → vs.getD (at_.toNatClampNeg + j) (.int 0) = .int (own_by v j)) :
    own_M l (⟨"com/example/rank_to_reach/ranktoreach/WriterClearPinLaw", "byteOk", "([BIIII)Z"⟩ : MethodName) method_5_code 7 (some .boolean) ws ({ frames := 0, cells := 0, slots := 0, locals := 0 } : Room) Z #[(.ref b), (.int at_), (.int v), (.int 3), (.int (own_vI v))] h0 (Q_byteOk_3 Z b kb z vs at_ v h0 n0) := by
  refine own_body (own := "com/example/rank_to_reach/ranktoreach/WriterClearPinLaw") rfl (plainFor_of_name pn_15) (fun m => ef_byteOk_0 m b at_ v (3 : Int32) (own_vI v)) ?_
  intro p e s m below meth c s₁ Bd hml hZ hh hx hby hown X0 e0
  have N0 := Fr.nil n0
  have lt1 : h0.size > b := V_b.lt
  refine own_iloadN X0.here hx hby d15_0 rfl ?_
  refine own_iload X0.here hx hby d15_1 rfl ?_
  by_cases hc3_2 : (3 : Int32) < (own_vI v)
  · refine own_icmpYes X0.here hx hby (pc' := 8) d15_3 (tlt hc3_2).1 (by decide) (by decide) ?_
    have hk := own_kvl (k := 3) (by decide) hc3_2
    have q1 : (at_ + (3 : Int32)).toInt = at_.toInt + 3 := by
      have a : (3 : Int32).toInt = 3 := by decide
      have := rng32 z
      rw [own_addI (by omega) (by omega), a]
    have q2 : (at_ + (3 : Int32)).toNatClampNeg = at_.toNatClampNeg + 3 := by
      have a := own_clamp hat0
      have b := own_clamp (x := at_ + (3 : Int32)) (by omega)
      omega
    have z0 : (0 : Int32).toInt = 0 := by decide
    refine own_iloadN X0.here hx hby d15_8 rfl ?_
    refine own_iloadN X0.here hx hby d15_9 rfl ?_
    refine own_iadd X0.here hx hby d15_10 rfl ?_
    refine own_istore X0.here hx hby d15_11 (l' := #[.val (.ref b), .val (.int at_), .val (.int v), .val (.int 3), .val (.int (own_vI v)), .val (.int (at_ + (3 : Int32))), .unset]) rfl ?_
    refine own_iload X0.here hx hby d15_13 rfl ?_
    refine own_ifNo X0.here hx hby d15_15 ((if0 _ _).trans (flt (show ¬ ((at_ + (3 : Int32)) < (0 : Int32)) from (own_nlt (by omega)))).1) ?_
    refine own_iload X0.here hx hby d15_18 rfl ?_
    refine own_aloadN X0.here hx hby d15_20 rfl rfl ?_
    refine own_alen X0 hx hZ e0 V_b hby d15_21 ?_
    refine own_icmpYes X0.here hx hby (pc' := 27) d15_22 (tlt (show (at_ + (3 : Int32)) < z from (own_lt (by omega)))).1 (by decide) (by decide) ?_
    refine own_iloadN X0.here hx hby d15_27 rfl ?_
    refine own_bipush X0.here hx hby d15_28 (v := (7 : Int32)) (by decide) ?_
    refine own_iloadN X0.here hx hby d15_30 rfl ?_
    refine own_imul X0.here hx hby d15_31 (v := (21 : Int32)) (by decide) ?_
    refine own_iushr X0.here hx hby d15_32 rfl ?_
    refine own_bipush X0.here hx hby d15_33 (v := (127 : Int32)) (by decide) ?_
    refine own_iand X0.here hx hby d15_35 rfl ?_
    refine own_iloadN X0.here hx hby d15_36 rfl ?_
    refine own_iload X0.here hx hby d15_37 rfl ?_
    refine own_iconst X0.here hx hby d15_39 (v := (1 : Int32)) (by decide) ?_
    refine own_isub X0.here hx hby d15_40 rfl ?_
    by_cases hc41_3 : (3 : Int32) < ((own_vI v) - (1 : Int32))
    · refine own_icmpNo X0.here hx hby d15_41 (tlt hc41_3).2.1 ?_
      refine own_sipush X0.here hx hby d15_44 (v := (128 : Int32)) (by decide) ?_
      refine own_goto X0.here hx hby (pc' := 51) d15_47 (by decide) (by decide) ?_
      refine own_ior X0.here hx hby d15_51 rfl ?_
      refine own_istore X0.here hx hby d15_52 (l' := #[.val (.ref b), .val (.int at_), .val (.int v), .val (.int 3), .val (.int (own_vI v)), .val (.int (at_ + (3 : Int32))), .val (.int ((((v.toUInt32 >>> ((21 : Int32) &&& 31).toUInt32).toInt32) &&& (127 : Int32)) ||| (128 : Int32)))]) rfl ?_
      refine own_aloadN X0.here hx hby d15_54 rfl rfl ?_
      refine own_iload X0.here hx hby d15_55 rfl ?_
      refine own_baload X0 hx hZ e0 V_b ⟨own_nlt (by omega), own_lt (by omega)⟩ (v := (.int (own_by v 3))) (by rw [q2]; exact hc 3 hk) hby d15_57 ?_
      refine own_sipush X0.here hx hby d15_58 (v := (255 : Int32)) (by decide) ?_
      refine own_iand X0.here hx hby d15_61 rfl ?_
      refine own_iload X0.here hx hby d15_62 rfl ?_
      refine own_icmpNo X0.here hx hby d15_64 (teq (show ((own_by v 3) &&& (255 : Int32)) = ((((v.toUInt32 >>> ((21 : Int32) &&& 31).toUInt32).toInt32) &&& (127 : Int32)) ||| (128 : Int32)) from ((own_want (q := (21 : Int32)) (k := 3) hv (by decide) (by decide) hk).1 (own_ksub (k := 3) (by decide) hc41_3)))).2 ?_
      refine own_iconst X0.here hx hby d15_67 (v := (1 : Int32)) (by decide) ?_
      refine own_goto X0.here hx hby (pc' := 72) d15_68 (by decide) (by decide) ?_
      obtain ⟨fs, hr, hrun, hended, hW, hsame⟩ := X0.leave (v := some (.int 1)) (fun h => by rw [Bd.returns] at h; cases h)
      refine own_ret (t := s₁.setFrames fs) ?_ ⟨_, hrun, hended, _, _, rfl, ?_, ⟨_, rfl⟩, hW, hsame.mono (by decide) (by decide)⟩
      · exact retN X0 hx (t := .boolean) Bd.returns (by simp) (hb hby d15_72) hr
      · show Q_byteOk_3 Z _ _ _ _ _ _ h0 n0 _ s₁.heap _
        rw [e0]
        exact ⟨rfl, N0, rfl⟩
    · refine own_icmpYes X0.here hx hby (pc' := 50) d15_41 (flt hc41_3).2.1 (by decide) (by decide) ?_
      refine own_iconst X0.here hx hby d15_50 (v := (0 : Int32)) (by decide) ?_
      refine own_ior X0.here hx hby d15_51 rfl ?_
      refine own_istore X0.here hx hby d15_52 (l' := #[.val (.ref b), .val (.int at_), .val (.int v), .val (.int 3), .val (.int (own_vI v)), .val (.int (at_ + (3 : Int32))), .val (.int ((((v.toUInt32 >>> ((21 : Int32) &&& 31).toUInt32).toInt32) &&& (127 : Int32)) ||| (0 : Int32)))]) rfl ?_
      refine own_aloadN X0.here hx hby d15_54 rfl rfl ?_
      refine own_iload X0.here hx hby d15_55 rfl ?_
      refine own_baload X0 hx hZ e0 V_b ⟨own_nlt (by omega), own_lt (by omega)⟩ (v := (.int (own_by v 3))) (by rw [q2]; exact hc 3 hk) hby d15_57 ?_
      refine own_sipush X0.here hx hby d15_58 (v := (255 : Int32)) (by decide) ?_
      refine own_iand X0.here hx hby d15_61 rfl ?_
      refine own_iload X0.here hx hby d15_62 rfl ?_
      refine own_icmpNo X0.here hx hby d15_64 (teq (show ((own_by v 3) &&& (255 : Int32)) = ((((v.toUInt32 >>> ((21 : Int32) &&& 31).toUInt32).toInt32) &&& (127 : Int32)) ||| (0 : Int32)) from ((own_want (q := (21 : Int32)) (k := 3) hv (by decide) (by decide) hk).2 (fun r => hc41_3 (own_ksub' (k := 3) (by decide) r))))).2 ?_
      refine own_iconst X0.here hx hby d15_67 (v := (1 : Int32)) (by decide) ?_
      refine own_goto X0.here hx hby (pc' := 72) d15_68 (by decide) (by decide) ?_
      obtain ⟨fs, hr, hrun, hended, hW, hsame⟩ := X0.leave (v := some (.int 1)) (fun h => by rw [Bd.returns] at h; cases h)
      refine own_ret (t := s₁.setFrames fs) ?_ ⟨_, hrun, hended, _, _, rfl, ?_, ⟨_, rfl⟩, hW, hsame.mono (by decide) (by decide)⟩
      · exact retN X0 hx (t := .boolean) Bd.returns (by simp) (hb hby d15_72) hr
      · show Q_byteOk_3 Z _ _ _ _ _ _ h0 n0 _ s₁.heap _
        rw [e0]
        exact ⟨rfl, N0, rfl⟩
  · refine own_icmpNo X0.here hx hby d15_3 (flt hc3_2).1 ?_
    refine own_iconst X0.here hx hby d15_6 (v := (1 : Int32)) (by decide) ?_
    obtain ⟨fs, hr, hrun, hended, hW, hsame⟩ := X0.leave (v := some (.int 1)) (fun h => by rw [Bd.returns] at h; cases h)
    refine own_ret (t := s₁.setFrames fs) ?_ ⟨_, hrun, hended, _, _, rfl, ?_, ⟨_, rfl⟩, hW, hsame.mono (by decide) (by decide)⟩
    · exact retN X0 hx (t := .boolean) Bd.returns (by simp) (hb hby d15_7) hr
    · show Q_byteOk_3 Z _ _ _ _ _ _ h0 n0 _ s₁.heap _
      rw [e0]
      exact ⟨rfl, N0, rfl⟩
def Q_byteOk_4 (Z : State) (b : Nat) (kb : ClassId) (z : Int32) (vs : List Value) (at_ : Int32) (v : Int32) (h0 : Heap) (n0 : Nat) (vR : Option Value) (hR : Heap) (LR : List Loc) : Prop := vR = some (.int 1) ∧ Fr n0 LR ∧ hR = h0
set_option maxRecDepth 65536 in
set_option maxHeartbeats 40000000 in
theorem byteOk_4 (l : Launch) (Z : State) (a0 : Array Value) (hw : ∀ d ∈ tables_1, d.before a0 Z = true) (ws : List Jvm.Cond) (b : Nat) (kb : ClassId) (z : Int32) (vs : List Value) (at_ : Int32) (v : Int32) (h0 : Heap) (n0 : Nat) (Z0 : n0 ≤ h0.size) (V_b : Arv Z h0 b kb .byte z vs (.int 0)) (hat0 : 0 ≤ at_.toInt) (hsz : at_.toInt + own_vl v ≤ z.toInt) (hv : (0 : Int32) < v) (hc : ∀ j, j < own_vl v → vs.getD (at_.toNatClampNeg + j) (.int 0) = .int (own_by v j)) :
    own_M l (⟨"com/example/rank_to_reach/ranktoreach/WriterClearPinLaw", "byteOk", "([BIIII)Z"⟩ : MethodName) method_5_code 7 (some .boolean) ws ({ frames := 0, cells := 0, slots := 0, locals := 0 } : Room) Z #[(.ref b), (.int at_), (.int v), (.int 4), (.int (own_vI v))] h0 (Q_byteOk_4 Z b kb z vs at_ v h0 n0) := by
  refine own_body (own := "com/example/rank_to_reach/ranktoreach/WriterClearPinLaw") rfl (plainFor_of_name pn_15) (fun m => ef_byteOk_0 m b at_ v (4 : Int32) (own_vI v)) ?_
  intro p e s m below meth c s₁ Bd hml hZ hh hx hby hown X0 e0
  have N0 := Fr.nil n0
  have lt1 : h0.size > b := V_b.lt
  refine own_iloadN X0.here hx hby d15_0 rfl ?_
  refine own_iload X0.here hx hby d15_1 rfl ?_
  by_cases hc3_2 : (4 : Int32) < (own_vI v)
  · refine own_icmpYes X0.here hx hby (pc' := 8) d15_3 (tlt hc3_2).1 (by decide) (by decide) ?_
    have hk := own_kvl (k := 4) (by decide) hc3_2
    have q1 : (at_ + (4 : Int32)).toInt = at_.toInt + 4 := by
      have a : (4 : Int32).toInt = 4 := by decide
      have := rng32 z
      rw [own_addI (by omega) (by omega), a]
    have q2 : (at_ + (4 : Int32)).toNatClampNeg = at_.toNatClampNeg + 4 := by
      have a := own_clamp hat0
      have b := own_clamp (x := at_ + (4 : Int32)) (by omega)
      omega
    have z0 : (0 : Int32).toInt = 0 := by decide
    refine own_iloadN X0.here hx hby d15_8 rfl ?_
    refine own_iloadN X0.here hx hby d15_9 rfl ?_
    refine own_iadd X0.here hx hby d15_10 rfl ?_
    refine own_istore X0.here hx hby d15_11 (l' := #[.val (.ref b), .val (.int at_), .val (.int v), .val (.int 4), .val (.int (own_vI v)), .val (.int (at_ + (4 : Int32))), .unset]) rfl ?_
    refine own_iload X0.here hx hby d15_13 rfl ?_
    refine own_ifNo X0.here hx hby d15_15 ((if0 _ _).trans (flt (show ¬ ((at_ + (4 : Int32)) < (0 : Int32)) from (own_nlt (by omega)))).1) ?_
    refine own_iload X0.here hx hby d15_18 rfl ?_
    refine own_aloadN X0.here hx hby d15_20 rfl rfl ?_
    refine own_alen X0 hx hZ e0 V_b hby d15_21 ?_
    refine own_icmpYes X0.here hx hby (pc' := 27) d15_22 (tlt (show (at_ + (4 : Int32)) < z from (own_lt (by omega)))).1 (by decide) (by decide) ?_
    refine own_iloadN X0.here hx hby d15_27 rfl ?_
    refine own_bipush X0.here hx hby d15_28 (v := (7 : Int32)) (by decide) ?_
    refine own_iloadN X0.here hx hby d15_30 rfl ?_
    refine own_imul X0.here hx hby d15_31 (v := (28 : Int32)) (by decide) ?_
    refine own_iushr X0.here hx hby d15_32 rfl ?_
    refine own_bipush X0.here hx hby d15_33 (v := (127 : Int32)) (by decide) ?_
    refine own_iand X0.here hx hby d15_35 rfl ?_
    refine own_iloadN X0.here hx hby d15_36 rfl ?_
    refine own_iload X0.here hx hby d15_37 rfl ?_
    refine own_iconst X0.here hx hby d15_39 (v := (1 : Int32)) (by decide) ?_
    refine own_isub X0.here hx hby d15_40 rfl ?_
    by_cases hc41_3 : (4 : Int32) < ((own_vI v) - (1 : Int32))
    · refine own_icmpNo X0.here hx hby d15_41 (tlt hc41_3).2.1 ?_
      refine own_sipush X0.here hx hby d15_44 (v := (128 : Int32)) (by decide) ?_
      refine own_goto X0.here hx hby (pc' := 51) d15_47 (by decide) (by decide) ?_
      refine own_ior X0.here hx hby d15_51 rfl ?_
      refine own_istore X0.here hx hby d15_52 (l' := #[.val (.ref b), .val (.int at_), .val (.int v), .val (.int 4), .val (.int (own_vI v)), .val (.int (at_ + (4 : Int32))), .val (.int ((((v.toUInt32 >>> ((28 : Int32) &&& 31).toUInt32).toInt32) &&& (127 : Int32)) ||| (128 : Int32)))]) rfl ?_
      refine own_aloadN X0.here hx hby d15_54 rfl rfl ?_
      refine own_iload X0.here hx hby d15_55 rfl ?_
      refine own_baload X0 hx hZ e0 V_b ⟨own_nlt (by omega), own_lt (by omega)⟩ (v := (.int (own_by v 4))) (by rw [q2]; exact hc 4 hk) hby d15_57 ?_
      refine own_sipush X0.here hx hby d15_58 (v := (255 : Int32)) (by decide) ?_
      refine own_iand X0.here hx hby d15_61 rfl ?_
      refine own_iload X0.here hx hby d15_62 rfl ?_
      refine own_icmpNo X0.here hx hby d15_64 (teq (show ((own_by v 4) &&& (255 : Int32)) = ((((v.toUInt32 >>> ((28 : Int32) &&& 31).toUInt32).toInt32) &&& (127 : Int32)) ||| (128 : Int32)) from ((own_want (q := (28 : Int32)) (k := 4) hv (by decide) (by decide) hk).1 (own_ksub (k := 4) (by decide) hc41_3)))).2 ?_
      refine own_iconst X0.here hx hby d15_67 (v := (1 : Int32)) (by decide) ?_
      refine own_goto X0.here hx hby (pc' := 72) d15_68 (by decide) (by decide) ?_
      obtain ⟨fs, hr, hrun, hended, hW, hsame⟩ := X0.leave (v := some (.int 1)) (fun h => by rw [Bd.returns] at h; cases h)
      refine own_ret (t := s₁.setFrames fs) ?_ ⟨_, hrun, hended, _, _, rfl, ?_, ⟨_, rfl⟩, hW, hsame.mono (by decide) (by decide)⟩
      · exact retN X0 hx (t := .boolean) Bd.returns (by simp) (hb hby d15_72) hr
      · show Q_byteOk_4 Z _ _ _ _ _ _ h0 n0 _ s₁.heap _
        rw [e0]
        exact ⟨rfl, N0, rfl⟩
    · refine own_icmpYes X0.here hx hby (pc' := 50) d15_41 (flt hc41_3).2.1 (by decide) (by decide) ?_
      refine own_iconst X0.here hx hby d15_50 (v := (0 : Int32)) (by decide) ?_
      refine own_ior X0.here hx hby d15_51 rfl ?_
      refine own_istore X0.here hx hby d15_52 (l' := #[.val (.ref b), .val (.int at_), .val (.int v), .val (.int 4), .val (.int (own_vI v)), .val (.int (at_ + (4 : Int32))), .val (.int ((((v.toUInt32 >>> ((28 : Int32) &&& 31).toUInt32).toInt32) &&& (127 : Int32)) ||| (0 : Int32)))]) rfl ?_
      refine own_aloadN X0.here hx hby d15_54 rfl rfl ?_
      refine own_iload X0.here hx hby d15_55 rfl ?_
      refine own_baload X0 hx hZ e0 V_b ⟨own_nlt (by omega), own_lt (by omega)⟩ (v := (.int (own_by v 4))) (by rw [q2]; exact hc 4 hk) hby d15_57 ?_
      refine own_sipush X0.here hx hby d15_58 (v := (255 : Int32)) (by decide) ?_
      refine own_iand X0.here hx hby d15_61 rfl ?_
      refine own_iload X0.here hx hby d15_62 rfl ?_
      refine own_icmpNo X0.here hx hby d15_64 (teq (show ((own_by v 4) &&& (255 : Int32)) = ((((v.toUInt32 >>> ((28 : Int32) &&& 31).toUInt32).toInt32) &&& (127 : Int32)) ||| (0 : Int32)) from ((own_want (q := (28 : Int32)) (k := 4) hv (by decide) (by decide) hk).2 (fun r => hc41_3 (own_ksub' (k := 4) (by decide) r))))).2 ?_
      refine own_iconst X0.here hx hby d15_67 (v := (1 : Int32)) (by decide) ?_
      refine own_goto X0.here hx hby (pc' := 72) d15_68 (by decide) (by decide) ?_
      obtain ⟨fs, hr, hrun, hended, hW, hsame⟩ := X0.leave (v := some (.int 1)) (fun h => by rw [Bd.returns] at h; cases h)
      refine own_ret (t := s₁.setFrames fs) ?_ ⟨_, hrun, hended, _, _, rfl, ?_, ⟨_, rfl⟩, hW, hsame.mono (by decide) (by decide)⟩
      · exact retN X0 hx (t := .boolean) Bd.returns (by simp) (hb hby d15_72) hr
      · show Q_byteOk_4 Z _ _ _ _ _ _ h0 n0 _ s₁.heap _
        rw [e0]
        exact ⟨rfl, N0, rfl⟩
  · refine own_icmpNo X0.here hx hby d15_3 (flt hc3_2).1 ?_
    refine own_iconst X0.here hx hby d15_6 (v := (1 : Int32)) (by decide) ?_
    obtain ⟨fs, hr, hrun, hended, hW, hsame⟩ := X0.leave (v := some (.int 1)) (fun h => by rw [Bd.returns] at h; cases h)
    refine own_ret (t := s₁.setFrames fs) ?_ ⟨_, hrun, hended, _, _, rfl, ?_, ⟨_, rfl⟩, hW, hsame.mono (by decide) (by decide)⟩
    · exact retN X0 hx (t := .boolean) Bd.returns (by simp) (hb hby d15_7) hr
    · show Q_byteOk_4 Z _ _ _ _ _ _ h0 n0 _ s₁.heap _
      rw [e0]
      exact ⟨rfl, N0, rfl⟩
theorem ef_enc_ (m : MethodId) (x0 : Nat) (x1 : Int32) (x2 : Int32) : entryFrame m #[(.ref x0), (.int x1), (.int x2)] 4 = mkF m 0 #[.val (.ref x0), .val (.int x1), .val (.int x2), .unset] [] := by first | (simp [entryFrame, mkF, argsToLocals, Value.category]; done) | rfl
theorem pn_14 : plainName "com/example/rank_to_reach/ranktoreach/WriterClearPinLaw" = true := by first | (simp [plainName, overriddenIn]; done) | decide +kernel
theorem d14_0 : decode method_4_code 0 = .ok (.iload_n 2, 1) := by decide +kernel
theorem d14_1 : decode method_4_code 1 = .ok (.invokestatic 39, 3) := by decide +kernel
theorem pd_3 : parseMethodDescriptor "(I)I" = some ⟨[.int], some .int⟩ := by decide +kernel
theorem d14_4 : decode method_4_code 4 = .ok (.istore_n 3, 1) := by decide +kernel
theorem d14_5 : decode method_4_code 5 = .ok (.aload_n 0, 1) := by decide +kernel
theorem d14_6 : decode method_4_code 6 = .ok (.iload_n 1, 1) := by decide +kernel
theorem d14_7 : decode method_4_code 7 = .ok (.iload_n 2, 1) := by decide +kernel
theorem d14_8 : decode method_4_code 8 = .ok (.iconst 0, 1) := by decide +kernel
theorem d14_9 : decode method_4_code 9 = .ok (.iload_n 3, 1) := by decide +kernel
theorem d14_10 : decode method_4_code 10 = .ok (.invokestatic 51, 3) := by decide +kernel
theorem pd_4 : parseMethodDescriptor "([BIIII)Z" = some ⟨[(.array .byte), .int, .int, .int, .int], some .boolean⟩ := by decide +kernel
theorem d14_13 : decode method_4_code 13 = .ok (.ifCond .eq 51, 3) := by decide +kernel
theorem d14_16 : decode method_4_code 16 = .ok (.aload_n 0, 1) := by decide +kernel
theorem d14_17 : decode method_4_code 17 = .ok (.iload_n 1, 1) := by decide +kernel
theorem d14_18 : decode method_4_code 18 = .ok (.iload_n 2, 1) := by decide +kernel
theorem d14_19 : decode method_4_code 19 = .ok (.iconst 1, 1) := by decide +kernel
theorem d14_20 : decode method_4_code 20 = .ok (.iload_n 3, 1) := by decide +kernel
theorem d14_21 : decode method_4_code 21 = .ok (.invokestatic 51, 3) := by decide +kernel
theorem d14_24 : decode method_4_code 24 = .ok (.ifCond .eq 40, 3) := by decide +kernel
theorem d14_27 : decode method_4_code 27 = .ok (.aload_n 0, 1) := by decide +kernel
theorem d14_28 : decode method_4_code 28 = .ok (.iload_n 1, 1) := by decide +kernel
theorem d14_29 : decode method_4_code 29 = .ok (.iload_n 2, 1) := by decide +kernel
theorem d14_30 : decode method_4_code 30 = .ok (.iconst 2, 1) := by decide +kernel
theorem d14_31 : decode method_4_code 31 = .ok (.iload_n 3, 1) := by decide +kernel
theorem d14_32 : decode method_4_code 32 = .ok (.invokestatic 51, 3) := by decide +kernel
theorem d14_35 : decode method_4_code 35 = .ok (.ifCond .eq 29, 3) := by decide +kernel
theorem d14_38 : decode method_4_code 38 = .ok (.aload_n 0, 1) := by decide +kernel
theorem d14_39 : decode method_4_code 39 = .ok (.iload_n 1, 1) := by decide +kernel
theorem d14_40 : decode method_4_code 40 = .ok (.iload_n 2, 1) := by decide +kernel
theorem d14_41 : decode method_4_code 41 = .ok (.iconst 3, 1) := by decide +kernel
theorem d14_42 : decode method_4_code 42 = .ok (.iload_n 3, 1) := by decide +kernel
theorem d14_43 : decode method_4_code 43 = .ok (.invokestatic 51, 3) := by decide +kernel
theorem d14_46 : decode method_4_code 46 = .ok (.ifCond .eq 18, 3) := by decide +kernel
theorem d14_49 : decode method_4_code 49 = .ok (.aload_n 0, 1) := by decide +kernel
theorem d14_50 : decode method_4_code 50 = .ok (.iload_n 1, 1) := by decide +kernel
theorem d14_51 : decode method_4_code 51 = .ok (.iload_n 2, 1) := by decide +kernel
theorem d14_52 : decode method_4_code 52 = .ok (.iconst 4, 1) := by decide +kernel
theorem d14_53 : decode method_4_code 53 = .ok (.iload_n 3, 1) := by decide +kernel
theorem d14_54 : decode method_4_code 54 = .ok (.invokestatic 51, 3) := by decide +kernel
theorem d14_57 : decode method_4_code 57 = .ok (.ifCond .eq 7, 3) := by decide +kernel
theorem d14_60 : decode method_4_code 60 = .ok (.iconst 1, 1) := by decide +kernel
theorem d14_61 : decode method_4_code 61 = .ok (.goto 4, 3) := by decide +kernel
theorem d14_65 : decode method_4_code 65 = .ok (.ireturn, 1) := by decide +kernel
def Q_enc_ (Z : State) (b : Nat) (kb : ClassId) (z : Int32) (vs : List Value) (at_ : Int32) (v : Int32) (h0 : Heap) (n0 : Nat) (vR : Option Value) (hR : Heap) (LR : List Loc) : Prop := vR = some (.int 1) ∧ Fr n0 LR ∧ hR = h0
set_option maxRecDepth 65536 in
set_option maxHeartbeats 40000000 in
theorem enc_ (l : Launch) (Z : State) (a0 : Array Value) (hw : ∀ d ∈ tables_1, d.before a0 Z = true) (ws : List Jvm.Cond) (b : Nat) (kb : ClassId) (z : Int32) (vs : List Value) (at_ : Int32) (v : Int32) (h0 : Heap) (n0 : Nat) (Z0 : n0 ≤ h0.size) (V_b : Arv Z h0 b kb .byte z vs (.int 0)) (hat0 : 0 ≤ at_.toInt) (hsz : at_.toInt + own_vl v ≤ z.toInt) (hv : (0 : Int32) < v) (hc : ∀ j, j < own_vl v → vs.getD (at_.toNatClampNeg + j) (.int 0) = .int (own_by v j)) :
    own_M l (⟨"com/example/rank_to_reach/ranktoreach/WriterClearPinLaw", "enc", "([BII)Z"⟩ : MethodName) method_4_code 4 (some .boolean) ws ({ frames := 1, cells := 0, slots := 0, locals := 18 } : Room) Z #[(.ref b), (.int at_), (.int v)] h0 (Q_enc_ Z b kb z vs at_ v h0 n0) := by
  refine own_body (own := "com/example/rank_to_reach/ranktoreach/WriterClearPinLaw") rfl (plainFor_of_name pn_14) (fun m => ef_enc_ m b at_ v) ?_
  intro p e s m below meth c s₁ Bd hml hZ hh hx hby hown X0 e0
  have N0 := Fr.nil n0
  have lt1 : h0.size > b := V_b.lt
  refine own_iloadN X0.here hx hby d14_0 rfl ?_
  refine own_callS X0 hx hZ hown (own_w hw 72 rfl) (own_w hw 73 rfl) (own_w hw 74 rfl) (own_w hw 75 rfl) (by decide) (vlen_ l Z a0 hw [] v h0 n0 Z0 hv) 0 (Nat.le_of_eq rfl) (by decide) (by decide) (by rw [hml]; rfl) (argsL := [(.int v)]) (st := []) (lenOf pd_3 rfl) rfl rfl (by decide) (by decide) e0 hby d14_1 ?_
  intro T2 v2 L2 X2 hQ2
  obtain ⟨rfl, Nq2, eh2⟩ := hQ2
  have N2 := Fr.app N0 Nq2
  refine own_sh (T := T2) 4 #[.val (.ref b), .val (.int at_), .val (.int v), .unset] [(.int (own_vI v))] ?_
  refine own_istoreN X2.here hx hby d14_4 (l' := #[.val (.ref b), .val (.int at_), .val (.int v), .val (.int (own_vI v))]) rfl ?_
  refine own_aloadN X2.here hx hby d14_5 rfl rfl ?_
  refine own_iloadN X2.here hx hby d14_6 rfl ?_
  refine own_iloadN X2.here hx hby d14_7 rfl ?_
  refine own_iconst X2.here hx hby d14_8 (v := (0 : Int32)) (by decide) ?_
  refine own_iloadN X2.here hx hby d14_9 rfl ?_
  refine own_callS X2 hx hZ hown (own_w hw 79 rfl) (own_w hw 80 rfl) (own_w hw 74 rfl) (own_w hw 81 rfl) (by decide) (byteOk_0 l Z a0 hw [] b kb z vs at_ v h0 n0 Z0 V_b hat0 hsz hv hc) 0 (Nat.le_of_eq rfl) (by decide) (by decide) (by rw [hml]; rfl) (argsL := [(.ref b), (.int at_), (.int v), (.int 0), (.int (own_vI v))]) (st := []) (lenOf pd_4 rfl) rfl rfl (by decide) (by decide) eh2 hby d14_10 ?_
  intro T3 v3 L3 X3 hQ3
  obtain ⟨rfl, Nq3, eh3⟩ := hQ3
  have N3 := Fr.app N2 Nq3
  refine own_sh (T := T3) 13 #[.val (.ref b), .val (.int at_), .val (.int v), .val (.int (own_vI v))] [(.int 1)] ?_
  refine own_ifNo X3.here hx hby d14_13 ((if0 _ _).trans (feq (show ¬ ((1 : Int32) = (0 : Int32)) from (by decide))).1) ?_
  refine own_aloadN X3.here hx hby d14_16 rfl rfl ?_
  refine own_iloadN X3.here hx hby d14_17 rfl ?_
  refine own_iloadN X3.here hx hby d14_18 rfl ?_
  refine own_iconst X3.here hx hby d14_19 (v := (1 : Int32)) (by decide) ?_
  refine own_iloadN X3.here hx hby d14_20 rfl ?_
  refine own_callS X3 hx hZ hown (own_w hw 79 rfl) (own_w hw 80 rfl) (own_w hw 74 rfl) (own_w hw 81 rfl) (by decide) (byteOk_1 l Z a0 hw [] b kb z vs at_ v h0 n0 Z0 V_b hat0 hsz hv hc) 0 (Nat.le_of_eq rfl) (by decide) (by decide) (by rw [hml]; rfl) (argsL := [(.ref b), (.int at_), (.int v), (.int 1), (.int (own_vI v))]) (st := []) (lenOf pd_4 rfl) rfl rfl (by decide) (by decide) eh3 hby d14_21 ?_
  intro T4 v4 L4 X4 hQ4
  obtain ⟨rfl, Nq4, eh4⟩ := hQ4
  have N4 := Fr.app N3 Nq4
  refine own_sh (T := T4) 24 #[.val (.ref b), .val (.int at_), .val (.int v), .val (.int (own_vI v))] [(.int 1)] ?_
  refine own_ifNo X4.here hx hby d14_24 ((if0 _ _).trans (feq (show ¬ ((1 : Int32) = (0 : Int32)) from (by decide))).1) ?_
  refine own_aloadN X4.here hx hby d14_27 rfl rfl ?_
  refine own_iloadN X4.here hx hby d14_28 rfl ?_
  refine own_iloadN X4.here hx hby d14_29 rfl ?_
  refine own_iconst X4.here hx hby d14_30 (v := (2 : Int32)) (by decide) ?_
  refine own_iloadN X4.here hx hby d14_31 rfl ?_
  refine own_callS X4 hx hZ hown (own_w hw 79 rfl) (own_w hw 80 rfl) (own_w hw 74 rfl) (own_w hw 81 rfl) (by decide) (byteOk_2 l Z a0 hw [] b kb z vs at_ v h0 n0 Z0 V_b hat0 hsz hv hc) 0 (Nat.le_of_eq rfl) (by decide) (by decide) (by rw [hml]; rfl) (argsL := [(.ref b), (.int at_), (.int v), (.int 2), (.int (own_vI v))]) (st := []) (lenOf pd_4 rfl) rfl rfl (by decide) (by decide) eh4 hby d14_32 ?_
  intro T5 v5 L5 X5 hQ5
  obtain ⟨rfl, Nq5, eh5⟩ := hQ5
  have N5 := Fr.app N4 Nq5
  refine own_sh (T := T5) 35 #[.val (.ref b), .val (.int at_), .val (.int v), .val (.int (own_vI v))] [(.int 1)] ?_
  refine own_ifNo X5.here hx hby d14_35 ((if0 _ _).trans (feq (show ¬ ((1 : Int32) = (0 : Int32)) from (by decide))).1) ?_
  refine own_aloadN X5.here hx hby d14_38 rfl rfl ?_
  refine own_iloadN X5.here hx hby d14_39 rfl ?_
  refine own_iloadN X5.here hx hby d14_40 rfl ?_
  refine own_iconst X5.here hx hby d14_41 (v := (3 : Int32)) (by decide) ?_
  refine own_iloadN X5.here hx hby d14_42 rfl ?_
  refine own_callS X5 hx hZ hown (own_w hw 79 rfl) (own_w hw 80 rfl) (own_w hw 74 rfl) (own_w hw 81 rfl) (by decide) (byteOk_3 l Z a0 hw [] b kb z vs at_ v h0 n0 Z0 V_b hat0 hsz hv hc) 0 (Nat.le_of_eq rfl) (by decide) (by decide) (by rw [hml]; rfl) (argsL := [(.ref b), (.int at_), (.int v), (.int 3), (.int (own_vI v))]) (st := []) (lenOf pd_4 rfl) rfl rfl (by decide) (by decide) eh5 hby d14_43 ?_
  intro T6 v6 L6 X6 hQ6
  obtain ⟨rfl, Nq6, eh6⟩ := hQ6
  have N6 := Fr.app N5 Nq6
  refine own_sh (T := T6) 46 #[.val (.ref b), .val (.int at_), .val (.int v), .val (.int (own_vI v))] [(.int 1)] ?_
  refine own_ifNo X6.here hx hby d14_46 ((if0 _ _).trans (feq (show ¬ ((1 : Int32) = (0 : Int32)) from (by decide))).1) ?_
  refine own_aloadN X6.here hx hby d14_49 rfl rfl ?_
  refine own_iloadN X6.here hx hby d14_50 rfl ?_
  refine own_iloadN X6.here hx hby d14_51 rfl ?_
  refine own_iconst X6.here hx hby d14_52 (v := (4 : Int32)) (by decide) ?_
  refine own_iloadN X6.here hx hby d14_53 rfl ?_
  refine own_callS X6 hx hZ hown (own_w hw 79 rfl) (own_w hw 80 rfl) (own_w hw 74 rfl) (own_w hw 81 rfl) (by decide) (byteOk_4 l Z a0 hw [] b kb z vs at_ v h0 n0 Z0 V_b hat0 hsz hv hc) 0 (Nat.le_of_eq rfl) (by decide) (by decide) (by rw [hml]; rfl) (argsL := [(.ref b), (.int at_), (.int v), (.int 4), (.int (own_vI v))]) (st := []) (lenOf pd_4 rfl) rfl rfl (by decide) (by decide) eh6 hby d14_54 ?_
  intro T7 v7 L7 X7 hQ7
  obtain ⟨rfl, Nq7, eh7⟩ := hQ7
  have N7 := Fr.app N6 Nq7
  refine own_sh (T := T7) 57 #[.val (.ref b), .val (.int at_), .val (.int v), .val (.int (own_vI v))] [(.int 1)] ?_
  refine own_ifNo X7.here hx hby d14_57 ((if0 _ _).trans (feq (show ¬ ((1 : Int32) = (0 : Int32)) from (by decide))).1) ?_
  refine own_iconst X7.here hx hby d14_60 (v := (1 : Int32)) (by decide) ?_
  refine own_goto X7.here hx hby (pc' := 65) d14_61 (by decide) (by decide) ?_
  obtain ⟨fs, hr, hrun, hended, hW, hsame⟩ := X7.leave (v := some (.int 1)) (fun h => by rw [Bd.returns] at h; cases h)
  refine own_ret (t := T7.setFrames fs) ?_ ⟨_, hrun, hended, _, _, rfl, ?_, ⟨_, rfl⟩, hW, hsame.mono (by decide) (by decide)⟩
  · exact retN X7 hx (t := .boolean) Bd.returns (by simp) (hb hby d14_65) hr
  · show Q_enc_ Z _ _ _ _ _ _ h0 n0 _ T7.heap _
    rw [eh7]
    exact ⟨rfl, N7, rfl⟩
theorem ef_rm0 (m : MethodId) (x0 : Int32) (x1 : Int32) (x2 : Int32) (x3 : Int32) (x4 : Int32) (x5 : Int32) : entryFrame m #[(.int x0), (.int x1), (.int x2), (.int x3), (.int x4), (.int x5)] maxLocals = mkF m 0 #[.val (.int x0), .val (.int x1), .val (.int x2), .val (.int x3), .val (.int x4), .val (.int x5), .unset, .unset, .unset, .unset, .unset, .unset, .unset, .unset, .unset, .unset, .unset, .unset, .unset] [] := by first | (simp [entryFrame, mkF, argsToLocals, Value.category, maxLocals]; done) | rfl
theorem pn_0 : plainName "com/example/rank_to_reach/ranktoreach/WriterClearPinLaw" = true := by first | (simp [plainName, overriddenIn]; done) | decide +kernel
theorem pd_5 : parseMethodDescriptor "()V" = some ⟨[], none⟩ := by decide +kernel
theorem pd_6 : parseMethodDescriptor "()I" = some ⟨[], some .int⟩ := by decide +kernel
theorem pd_7 : parseMethodDescriptor "(II)V" = some ⟨[.int, .int], none⟩ := by decide +kernel
theorem pd_8 : parseMethodDescriptor "()[B" = some ⟨[], some (.array .byte)⟩ := by decide +kernel
theorem pd_9 : parseMethodDescriptor "([BII)Z" = some ⟨[(.array .byte), .int, .int], some .boolean⟩ := by decide +kernel
def Q_rm0 (Z : State) (p1 : Int32) (p2 : Int32) (p3 : Int32) (p4 : Int32) (p5 : Int32) (p6 : Int32) (wN : Nat) (kN : ClassId) (h0 : Heap) (n0 : Nat) (vR : Option Value) (hR : Heap) (LR : List Loc) : Prop := vR = some (.int 1) ∧ Fr n0 LR ∧ True
set_option maxRecDepth 65536 in
set_option maxHeartbeats 40000000 in
theorem rm0 (l : Launch) (Z : State) (a0 : Array Value) (hw : ∀ d ∈ tables_1, d.before a0 Z = true) (ws : List Jvm.Cond) (p1 : Int32) (p2 : Int32) (p3 : Int32) (p4 : Int32) (p5 : Int32) (p6 : Int32) (wN : Nat) (kN : ClassId) (h0 : Heap) (n0 : Nat) (Z0 : n0 ≤ h0.size) (S_NONE : Sta Z h0 "com/example/rank_to_reach/ranktoreach/Postings$Writer" "NONE" "[B" (.ref wN)) (V_wN : Arv Z h0 wN kN .byte (0 : Int32) [] (.int 0)) (E_wN : Exa Z h0 wN "[B") :
    own_M l x code maxLocals ret ws room_1 Z #[(.int p1), (.int p2), (.int p3), (.int p4), (.int p5), (.int p6)] h0 (Q_rm0 Z p1 p2 p3 p4 p5 p6 wN kN h0 n0) := by
  refine own_body (own := "com/example/rank_to_reach/ranktoreach/WriterClearPinLaw") rfl (plainFor_of_name pn_0) (fun m => ef_rm0 m p1 p2 p3 p4 p5 p6) ?_
  intro p e s m below meth c s₁ Bd hml hZ hh hx hby hown X0 e0
  have N0 := Fr.nil n0
  have lt7 : h0.size > wN := V_wN.lt
  refine own_iload X0.here hx hby at_0 rfl ?_
  refine own_ldcInt X0 hx hZ hown (own_w hw 0 rfl) hby at_2 ?_
  refine own_iand X0.here hx hby at_4 rfl ?_
  refine own_iconst X0.here hx hby at_5 (v := (3 : Int32)) (by decide) ?_
  refine own_irem X0.here hx hby at_6 (by decide) rfl ?_
  refine own_sh (T := s₁) 7 #[.val (.int p1), .val (.int p2), .val (.int p3), .val (.int p4), .val (.int p5), .val (.int p6), .unset, .unset, .unset, .unset, .unset, .unset, .unset, .unset, .unset, .unset, .unset, .unset, .unset] [(.int ((p6 &&& (2147483647 : Int32)) % (3 : Int32)))] ?_
  rcases own_mod3 p6 with hk | hk | hk
  · rw [hk]
    refine own_istore X0.here hx hby at_7 (l' := #[.val (.int p1), .val (.int p2), .val (.int p3), .val (.int p4), .val (.int p5), .val (.int p6), .val (.int 0), .unset, .unset, .unset, .unset, .unset, .unset, .unset, .unset, .unset, .unset, .unset, .unset]) rfl ?_
    refine own_iconst X0.here hx hby at_9 (v := (1 : Int32)) (by decide) ?_
    refine own_iloadN X0.here hx hby at_10 rfl ?_
    refine own_ldcInt X0 hx hZ hown (own_w hw 0 rfl) hby at_11 ?_
    refine own_iand X0.here hx hby at_13 rfl ?_
    refine own_callS X0 hx hZ hown (own_w hw 1 rfl) (own_w hw 2 rfl) (own_w hw 3 rfl) (own_w hw 4 rfl) (by decide) (max1 l Z a0 hw [] (p4 &&& (2147483647 : Int32)) h0 n0 Z0 ) 0 (Nat.le_of_eq rfl) (by decide) (by decide) (by rw [hml]; rfl) (argsL := [(.int 1), (.int (p4 &&& (2147483647 : Int32)))]) (st := []) (lenOf pd_0 rfl) rfl rfl (by decide) (by decide) e0 hby at_14 ?_
    intro T8 v8 L8 X8 hQ8
    obtain ⟨m_8, rfl, Nq8, eh8, P8_0⟩ := hQ8
    have N8 := Fr.app N0 Nq8
    refine own_sh (T := T8) 17 #[.val (.int p1), .val (.int p2), .val (.int p3), .val (.int p4), .val (.int p5), .val (.int p6), .val (.int 0), .unset, .unset, .unset, .unset, .unset, .unset, .unset, .unset, .unset, .unset, .unset, .unset] [(.int m_8)] ?_
    refine own_istore X8.here hx hby at_17 (l' := #[.val (.int p1), .val (.int p2), .val (.int p3), .val (.int p4), .val (.int p5), .val (.int p6), .val (.int 0), .val (.int m_8), .unset, .unset, .unset, .unset, .unset, .unset, .unset, .unset, .unset, .unset, .unset]) rfl ?_
    refine own_iconst X8.here hx hby at_19 (v := (1 : Int32)) (by decide) ?_
    refine own_iload X8.here hx hby at_20 rfl ?_
    refine own_ldcInt X8 hx hZ hown (own_w hw 0 rfl) hby at_22 ?_
    refine own_iand X8.here hx hby at_24 rfl ?_
    refine own_callS X8 hx hZ hown (own_w hw 1 rfl) (own_w hw 2 rfl) (own_w hw 3 rfl) (own_w hw 4 rfl) (by decide) (max1 l Z a0 hw [] (p5 &&& (2147483647 : Int32)) h0 n0 Z0 ) 0 (Nat.le_of_eq rfl) (by decide) (by decide) (by rw [hml]; rfl) (argsL := [(.int 1), (.int (p5 &&& (2147483647 : Int32)))]) (st := []) (lenOf pd_0 rfl) rfl rfl (by decide) (by decide) eh8 hby at_25 ?_
    intro T9 v9 L9 X9 hQ9
    obtain ⟨m_9, rfl, Nq9, eh9, P9_0⟩ := hQ9
    have N9 := Fr.app N8 Nq9
    refine own_sh (T := T9) 28 #[.val (.int p1), .val (.int p2), .val (.int p3), .val (.int p4), .val (.int p5), .val (.int p6), .val (.int 0), .val (.int m_8), .unset, .unset, .unset, .unset, .unset, .unset, .unset, .unset, .unset, .unset, .unset] [(.int m_9)] ?_
    refine own_istore X9.here hx hby at_28 (l' := #[.val (.int p1), .val (.int p2), .val (.int p3), .val (.int p4), .val (.int p5), .val (.int p6), .val (.int 0), .val (.int m_8), .val (.int m_9), .unset, .unset, .unset, .unset, .unset, .unset, .unset, .unset, .unset, .unset]) rfl ?_
    refine own_iloadN X9.here hx hby at_30 rfl ?_
    refine own_ldcInt X9 hx hZ hown (own_w hw 5 rfl) hby at_31 ?_
    refine own_iand X9.here hx hby at_33 rfl ?_
    refine own_sh (T := T9) 34 #[.val (.int p1), .val (.int p2), .val (.int p3), .val (.int p4), .val (.int p5), .val (.int p6), .val (.int 0), .val (.int m_8), .val (.int m_9), .unset, .unset, .unset, .unset, .unset, .unset, .unset, .unset, .unset, .unset] [(.int (p1 &&& (536870911 : Int32)))] ?_
    obtain ⟨d10, ed10⟩ : ∃ z : Int32, z = (p1 &&& (536870911 : Int32)) := ⟨_, rfl⟩
    rw [← ed10]
    have hd0 := own_m29 p1
    rw [← ed10] at hd0
    refine own_istore X9.here hx hby at_34 (l' := #[.val (.int p1), .val (.int p2), .val (.int p3), .val (.int p4), .val (.int p5), .val (.int p6), .val (.int 0), .val (.int m_8), .val (.int m_9), .val (.int d10), .unset, .unset, .unset, .unset, .unset, .unset, .unset, .unset, .unset]) rfl ?_
    refine own_iload X9.here hx hby at_36 rfl ?_
    refine own_iconst X9.here hx hby at_38 (v := (1 : Int32)) (by decide) ?_
    refine own_iadd X9.here hx hby at_39 rfl ?_
    refine own_iloadN X9.here hx hby at_40 rfl ?_
    refine own_ldcInt X9 hx hZ hown (own_w hw 5 rfl) hby at_41 ?_
    refine own_iand X9.here hx hby at_43 rfl ?_
    refine own_iadd X9.here hx hby at_44 rfl ?_
    refine own_sh (T := T9) 45 #[.val (.int p1), .val (.int p2), .val (.int p3), .val (.int p4), .val (.int p5), .val (.int p6), .val (.int 0), .val (.int m_8), .val (.int m_9), .val (.int d10), .unset, .unset, .unset, .unset, .unset, .unset, .unset, .unset, .unset] [(.int ((d10 + (1 : Int32)) + (p2 &&& (536870911 : Int32))))] ?_
    obtain ⟨d11, ed11⟩ : ∃ z : Int32, z = ((d10 + (1 : Int32)) + (p2 &&& (536870911 : Int32))) := ⟨_, rfl⟩
    rw [← ed11]
    have hg1 := own_m29 p2
    have hd1 : d11.toInt = d10.toInt + 1 + (p2 &&& (536870911 : Int32)).toInt := by
      have a : (1 : Int32).toInt = 1 := by decide
      have b := own_addI (x := d10) (y := (1 : Int32)) (by omega) (by omega)
      rw [ed11, own_addI (by omega) (by omega), b, a]
    refine own_istore X9.here hx hby at_45 (l' := #[.val (.int p1), .val (.int p2), .val (.int p3), .val (.int p4), .val (.int p5), .val (.int p6), .val (.int 0), .val (.int m_8), .val (.int m_9), .val (.int d10), .val (.int d11), .unset, .unset, .unset, .unset, .unset, .unset, .unset, .unset]) rfl ?_
    refine own_newO X9 hx hZ hown (own_w hw 6 rfl) (own_w hw 7 rfl) (own_w hw 8 rfl) eh9 hby at_47 (by decide) (by decide) ?_
    intro T12 h12 b12 X12 e12 E12 g12 A12 D12 lt12
    have z13 : h0.size ≤ h12.size := E12.1
    have F14 : Fld Z h12 b12 "com/example/rank_to_reach/ranktoreach/Postings$Writer" "bytes" "[B" .null := D12 (Or.inl (own_w hw 18 rfl)) (ty := (.array .byte)) (by decide)
    have F15 : Fld Z h12 b12 "com/example/rank_to_reach/ranktoreach/Postings$Writer" "last" "I" (.int 0) := D12 (Or.inl (own_w hw 20 rfl)) (ty := .int) (by decide)
    have F16 : Fld Z h12 b12 "com/example/rank_to_reach/ranktoreach/Postings$Writer" "size" "I" (.int 0) := D12 (Or.inl (own_w hw 27 rfl)) (ty := .int) (by decide)
    have F17 : Fld Z h12 b12 "com/example/rank_to_reach/ranktoreach/Postings$Writer" "count" "I" (.int 0) := D12 (Or.inl (own_w hw 44 rfl)) (ty := .int) (by decide)
    refine own_dup X12.here hx hby at_50 rfl ?_
    have f18 : Sta Z h12 "com/example/rank_to_reach/ranktoreach/Postings$Writer" "NONE" "[B" (.ref wN) := (S_NONE.ext E12)
    have z20 : n0 ≤ h12.size := by omega
    refine own_special X12 hx hZ rfl hown (own_w hw 9 rfl) (own_w hw 10 rfl) (own_w hw 8 rfl) (own_w hw 11 rfl) (by decide) (wInit l Z a0 hw [] b12 wN h12 n0 z20 A12 F14 F15 F16 F17 f18 (by omega)) 1 (Nat.le_of_eq rfl) (by decide) (by decide) (by rw [hml]; rfl) (argsL := []) (st := [(.ref b12)]) (a := b12) (lenOf pd_5 rfl) rfl rfl (by decide) (by decide) e12 hby at_51 ?_
    intro T19 v19 L19 X19 hQ19
    obtain ⟨rfl, Nq19, K19, P19_0, P19_1, P19_2, P19_3, P19_4⟩ := hQ19
    have N19 := Fr.app N9 Nq19
    have z21 : h12.size ≤ T19.heap.size := K19.1
    have lt22 : T19.heap.size > b12 := P19_0.lt
    refine own_sh (T := T19) 54 #[.val (.int p1), .val (.int p2), .val (.int p3), .val (.int p4), .val (.int p5), .val (.int p6), .val (.int 0), .val (.int m_8), .val (.int m_9), .val (.int d10), .val (.int d11), .unset, .unset, .unset, .unset, .unset, .unset, .unset, .unset] [(.ref b12)] ?_
    refine own_astore X19.here hx hby at_54 rfl (l' := #[.val (.int p1), .val (.int p2), .val (.int p3), .val (.int p4), .val (.int p5), .val (.int p6), .val (.int 0), .val (.int m_8), .val (.int m_9), .val (.int d10), .val (.int d11), .val (.ref b12), .unset, .unset, .unset, .unset, .unset, .unset, .unset]) rfl ?_
    refine own_iconst X19.here hx hby at_56 (v := (-1 : Int32)) (by decide) ?_
    refine own_istore X19.here hx hby at_57 (l' := #[.val (.int p1), .val (.int p2), .val (.int p3), .val (.int p4), .val (.int p5), .val (.int p6), .val (.int 0), .val (.int m_8), .val (.int m_9), .val (.int d10), .val (.int d11), .val (.ref b12), .val (.int (-1)), .unset, .unset, .unset, .unset, .unset, .unset]) rfl ?_
    refine own_iload X19.here hx hby at_59 rfl ?_
    refine own_iconst X19.here hx hby at_61 (v := (1 : Int32)) (by decide) ?_
    refine own_icmpYes X19.here hx hby (pc' := 78) at_62 (tlt (show (0 : Int32) < (1 : Int32) from (by decide))).1 (by decide) (by decide) ?_
    refine own_iload X19.here hx hby at_78 rfl ?_
    refine own_iconst X19.here hx hby at_80 (v := (2 : Int32)) (by decide) ?_
    refine own_icmpYes X19.here hx hby (pc' := 97) at_81 (tlt (show (0 : Int32) < (2 : Int32) from (by decide))).1 (by decide) (by decide) ?_
    refine own_aload X19.here hx hby at_97 rfl rfl ?_
    have f23 : Sta Z T19.heap "com/example/rank_to_reach/ranktoreach/Postings$Writer" "NONE" "[B" (.ref wN) := (own_sta_keep f18 K19 (allS (own_exa_plain A12) all0))
    have z25 : n0 ≤ T19.heap.size := by omega
    refine own_virtual X19 hx hZ hown (own_w hw 21 rfl) (own_w hw 22 rfl) (notFace_of_selects (args := #[]) (mvT hZ (own_w hw 24 rfl))) (own_w hw 24 rfl) (own_w hw 23 rfl) (own_w hw 8 rfl) (own_w hw 25 rfl) (by decide) (clear_ l Z a0 hw [] b12 wN wN (0 : Int32) (-1 : Int32) (0 : Int32) T19.heap n0 z25 P19_0 P19_1 P19_3 P19_2 P19_4 f23 (by omega)) 0 (Nat.le_of_eq rfl) (by decide) (by decide) (by rw [hml]; rfl) (argsL := []) (st := []) P19_0 (lenOf pd_5 rfl) rfl rfl (by decide) (by decide) rfl hby at_99 ?_
    intro T24 v24 L24 X24 hQ24
    obtain ⟨rfl, Nq24, K24, P24_0, P24_1, P24_2, P24_3, P24_4⟩ := hQ24
    have N24 := Fr.app N19 Nq24
    have z26 : T19.heap.size ≤ T24.heap.size := K24.1
    have lt27 : T24.heap.size > b12 := P24_0.lt
    refine own_sh (T := T24) 102 #[.val (.int p1), .val (.int p2), .val (.int p3), .val (.int p4), .val (.int p5), .val (.int p6), .val (.int 0), .val (.int m_8), .val (.int m_9), .val (.int d10), .val (.int d11), .val (.ref b12), .val (.int (-1)), .unset, .unset, .unset, .unset, .unset, .unset] [] ?_
    refine own_aload X24.here hx hby at_102 rfl rfl ?_
    have z29 : n0 ≤ T24.heap.size := by omega
    refine own_virtual X24 hx hZ hown (own_w hw 28 rfl) (own_w hw 29 rfl) (notFace_of_selects (args := #[]) (mvT hZ (own_w hw 31 rfl))) (own_w hw 31 rfl) (own_w hw 30 rfl) (own_w hw 8 rfl) (own_w hw 32 rfl) (by decide) (size_ l Z a0 hw [] b12 (0 : Int32) T24.heap n0 z29 P24_2) 0 (Nat.le_of_eq rfl) (by decide) (by decide) (by rw [hml]; rfl) (argsL := []) (st := []) P24_0 (lenOf pd_6 rfl) rfl rfl (by decide) (by decide) rfl hby at_104 ?_
    intro T28 v28 L28 X28 hQ28
    obtain ⟨rfl, Nq28, eh28⟩ := hQ28
    have N28 := Fr.app N24 Nq28
    refine own_sh (T := T28) 107 #[.val (.int p1), .val (.int p2), .val (.int p3), .val (.int p4), .val (.int p5), .val (.int p6), .val (.int 0), .val (.int m_8), .val (.int m_9), .val (.int d10), .val (.int d11), .val (.ref b12), .val (.int (-1)), .unset, .unset, .unset, .unset, .unset, .unset] [(.int 0)] ?_
    refine own_ifNo X28.here hx hby at_107 ((if0 _ _).trans (teq (show (0 : Int32) = (0 : Int32) from (by decide))).2) ?_
    refine own_aload X28.here hx hby at_110 rfl rfl ?_
    have f30 : Arv Z T24.heap wN kN .byte (0 : Int32) [] (.int 0) := (((V_wN.ext E12).keep K19 (ninS (own_nn (by omega)) nin0)).keep K24 (ninS (own_nn (by omega)) nin0))
    refine own_virtual X28 hx hZ hown (own_w hw 33 rfl) (own_w hw 34 rfl) (notFace_of_selects (args := #[]) (mvT hZ (own_w hw 36 rfl))) (own_w hw 36 rfl) (own_w hw 35 rfl) (own_w hw 8 rfl) (own_w hw 37 rfl) (by decide) (capac_ l Z a0 hw [] b12 wN kN (0 : Int32) ([]) T24.heap n0 z29 P24_1 f30) 0 (Nat.le_of_eq rfl) (by decide) (by decide) (by rw [hml]; rfl) (argsL := []) (st := []) P24_0 (lenOf pd_6 rfl) rfl rfl (by decide) (by decide) eh28 hby at_112 ?_
    intro T31 v31 L31 X31 hQ31
    obtain ⟨rfl, Nq31, eh31⟩ := hQ31
    have N31 := Fr.app N28 Nq31
    refine own_sh (T := T31) 115 #[.val (.int p1), .val (.int p2), .val (.int p3), .val (.int p4), .val (.int p5), .val (.int p6), .val (.int 0), .val (.int m_8), .val (.int m_9), .val (.int d10), .val (.int d11), .val (.ref b12), .val (.int (-1)), .unset, .unset, .unset, .unset, .unset, .unset] [(.int 0)] ?_
    refine own_ifNo X31.here hx hby at_115 ((if0 _ _).trans (teq (show (0 : Int32) = (0 : Int32) from (by decide))).2) ?_
    refine own_aload X31.here hx hby at_118 rfl rfl ?_
    refine own_virtual X31 hx hZ hown (own_w hw 38 rfl) (own_w hw 39 rfl) (notFace_of_selects (args := #[]) (mvT hZ (own_w hw 41 rfl))) (own_w hw 41 rfl) (own_w hw 40 rfl) (own_w hw 8 rfl) (own_w hw 42 rfl) (by decide) (count_ l Z a0 hw [] b12 (0 : Int32) T24.heap n0 z29 P24_4) 0 (Nat.le_of_eq rfl) (by decide) (by decide) (by rw [hml]; rfl) (argsL := []) (st := []) P24_0 (lenOf pd_6 rfl) rfl rfl (by decide) (by decide) eh31 hby at_120 ?_
    intro T32 v32 L32 X32 hQ32
    obtain ⟨rfl, Nq32, eh32⟩ := hQ32
    have N32 := Fr.app N31 Nq32
    refine own_sh (T := T32) 123 #[.val (.int p1), .val (.int p2), .val (.int p3), .val (.int p4), .val (.int p5), .val (.int p6), .val (.int 0), .val (.int m_8), .val (.int m_9), .val (.int d10), .val (.int d11), .val (.ref b12), .val (.int (-1)), .unset, .unset, .unset, .unset, .unset, .unset] [(.int 0)] ?_
    refine own_iload X32.here hx hby at_123 rfl ?_
    refine own_icmpNo X32.here hx hby at_125 (teq (show (0 : Int32) = (0 : Int32) from (by decide))).2 ?_
    refine own_iconst X32.here hx hby at_128 (v := (1 : Int32)) (by decide) ?_
    refine own_goto X32.here hx hby (pc' := 133) at_129 (by decide) (by decide) ?_
    refine own_istore X32.here hx hby at_133 (l' := #[.val (.int p1), .val (.int p2), .val (.int p3), .val (.int p4), .val (.int p5), .val (.int p6), .val (.int 0), .val (.int m_8), .val (.int m_9), .val (.int d10), .val (.int d11), .val (.ref b12), .val (.int (-1)), .val (.int 1), .unset, .unset, .unset, .unset, .unset]) rfl ?_
    refine own_iload X32.here hx hby at_135 rfl ?_
    refine own_iconst X32.here hx hby at_137 (v := (1 : Int32)) (by decide) ?_
    refine own_iadd X32.here hx hby at_138 (v := (0 : Int32)) (by decide) ?_
    refine own_iloadN X32.here hx hby at_139 rfl ?_
    refine own_ldcInt X32 hx hZ hown (own_w hw 5 rfl) hby at_140 ?_
    refine own_iand X32.here hx hby at_142 rfl ?_
    refine own_iadd X32.here hx hby at_143 rfl ?_
    refine own_sh (T := T32) 144 #[.val (.int p1), .val (.int p2), .val (.int p3), .val (.int p4), .val (.int p5), .val (.int p6), .val (.int 0), .val (.int m_8), .val (.int m_9), .val (.int d10), .val (.int d11), .val (.ref b12), .val (.int (-1)), .val (.int 1), .unset, .unset, .unset, .unset, .unset] [(.int ((0 : Int32) + (p3 &&& (536870911 : Int32))))] ?_
    obtain ⟨d33, ed33⟩ : ∃ z : Int32, z = ((0 : Int32) + (p3 &&& (536870911 : Int32))) := ⟨_, rfl⟩
    rw [← ed33]
    have hg2 := own_m29 p3
    have m1 : (-1 : Int32).toInt = -1 := by decide
    have hd2 : d33.toInt = (-1 : Int32).toInt + 1 + (p3 &&& (536870911 : Int32)).toInt := by
      have a : (0 : Int32).toInt = 0 := by decide
      rw [ed33, own_addI (by omega) (by omega), a]; omega
    have hgap : (0 : Int32) < (d33 - (-1 : Int32)) := own_gap (by omega) (by omega) (by omega)
    refine own_istore X32.here hx hby at_144 (l' := #[.val (.int p1), .val (.int p2), .val (.int p3), .val (.int p4), .val (.int p5), .val (.int p6), .val (.int 0), .val (.int m_8), .val (.int m_9), .val (.int d10), .val (.int d11), .val (.ref b12), .val (.int (-1)), .val (.int 1), .val (.int d33), .unset, .unset, .unset, .unset]) rfl ?_
    refine own_aload X32.here hx hby at_146 rfl rfl ?_
    refine own_iload X32.here hx hby at_148 rfl ?_
    refine own_iload X32.here hx hby at_150 rfl ?_
    refine own_virtual X32 hx hZ hown (own_w hw 45 rfl) (own_w hw 46 rfl) (notFace_of_selects (args := #[]) (mvT hZ (own_w hw 48 rfl))) (own_w hw 48 rfl) (own_w hw 47 rfl) (own_w hw 8 rfl) (own_w hw 49 rfl) (by decide) (add0 l Z a0 hw [] b12 wN d33 m_9 (-1 : Int32) (0 : Int32) kN T24.heap n0 z29 P24_0 P24_1 P24_2 f30 P24_3 P24_4 (by omega) hgap P9_0) 0 (Nat.le_of_eq rfl) (by decide) (by decide) (by rw [hml]; rfl) (argsL := [(.int d33), (.int m_9)]) (st := []) P24_0 (lenOf pd_7 rfl) rfl rfl (by decide) (by decide) eh32 hby at_152 ?_
    intro T34 v34 L34 X34 hQ34
    obtain ⟨b_34, kb_34, y_34, us_34, rfl, Nq34, K34, P34_0, P34_1, P34_2, P34_3, P34_4, P34_5, P34_6, P34_7, P34_8, P34_9, P34_10⟩ := hQ34
    have N34 := Fr.app N32 Nq34
    have z35 : T24.heap.size ≤ T34.heap.size := K34.1
    have lt36 : T34.heap.size > b12 := P34_0.lt
    have lt37 : T34.heap.size > b_34 := P34_6.lt
    refine own_sh (T := T34) 155 #[.val (.int p1), .val (.int p2), .val (.int p3), .val (.int p4), .val (.int p5), .val (.int p6), .val (.int 0), .val (.int m_8), .val (.int m_9), .val (.int d10), .val (.int d11), .val (.ref b12), .val (.int (-1)), .val (.int 1), .val (.int d33), .unset, .unset, .unset, .unset] [] ?_
    refine own_iload X34.here hx hby at_155 rfl ?_
    refine own_iload X34.here hx hby at_157 rfl ?_
    refine own_isub X34.here hx hby at_159 rfl ?_
    refine own_istore X34.here hx hby at_160 (l' := #[.val (.int p1), .val (.int p2), .val (.int p3), .val (.int p4), .val (.int p5), .val (.int p6), .val (.int 0), .val (.int m_8), .val (.int m_9), .val (.int d10), .val (.int d11), .val (.ref b12), .val (.int (-1)), .val (.int 1), .val (.int d33), .val (.int (d33 - (-1 : Int32))), .unset, .unset, .unset]) rfl ?_
    refine own_aload X34.here hx hby at_162 rfl rfl ?_
    have z39 : n0 ≤ T34.heap.size := by omega
    refine own_virtual X34 hx hZ hown (own_w hw 67 rfl) (own_w hw 68 rfl) (notFace_of_selects (args := #[]) (mvT hZ (own_w hw 70 rfl))) (own_w hw 70 rfl) (own_w hw 69 rfl) (own_w hw 8 rfl) (own_w hw 71 rfl) (by decide) (bytes_ l Z a0 hw [] b12 b_34 T34.heap n0 z39 P34_1) 0 (Nat.le_of_eq rfl) (by decide) (by decide) (by rw [hml]; rfl) (argsL := []) (st := []) P34_0 (lenOf pd_8 rfl) rfl rfl (by decide) (by decide) rfl hby at_164 ?_
    intro T38 v38 L38 X38 hQ38
    obtain ⟨rfl, Nq38, eh38⟩ := hQ38
    have N38 := Fr.app N34 Nq38
    refine own_sh (T := T38) 167 #[.val (.int p1), .val (.int p2), .val (.int p3), .val (.int p4), .val (.int p5), .val (.int p6), .val (.int 0), .val (.int m_8), .val (.int m_9), .val (.int d10), .val (.int d11), .val (.ref b12), .val (.int (-1)), .val (.int 1), .val (.int d33), .val (.int (d33 - (-1 : Int32))), .unset, .unset, .unset] [(.ref b_34)] ?_
    refine own_astore X38.here hx hby at_167 rfl (l' := #[.val (.int p1), .val (.int p2), .val (.int p3), .val (.int p4), .val (.int p5), .val (.int p6), .val (.int 0), .val (.int m_8), .val (.int m_9), .val (.int d10), .val (.int d11), .val (.ref b12), .val (.int (-1)), .val (.int 1), .val (.int d33), .val (.int (d33 - (-1 : Int32))), .val (.ref b_34), .unset, .unset]) rfl ?_
    refine own_iload X38.here hx hby at_169 rfl ?_
    refine own_callS X38 hx hZ hown (own_w hw 72 rfl) (own_w hw 73 rfl) (own_w hw 74 rfl) (own_w hw 75 rfl) (by decide) (vlen_ l Z a0 hw [] (d33 - (-1 : Int32)) T34.heap n0 z39 hgap) 0 (Nat.le_of_eq rfl) (by decide) (by decide) (by rw [hml]; rfl) (argsL := [(.int (d33 - (-1 : Int32)))]) (st := []) (lenOf pd_3 rfl) rfl rfl (by decide) (by decide) eh38 hby at_171 ?_
    intro T40 v40 L40 X40 hQ40
    obtain ⟨rfl, Nq40, eh40⟩ := hQ40
    have N40 := Fr.app N38 Nq40
    refine own_sh (T := T40) 174 #[.val (.int p1), .val (.int p2), .val (.int p3), .val (.int p4), .val (.int p5), .val (.int p6), .val (.int 0), .val (.int m_8), .val (.int m_9), .val (.int d10), .val (.int d11), .val (.ref b12), .val (.int (-1)), .val (.int 1), .val (.int d33), .val (.int (d33 - (-1 : Int32))), .val (.ref b_34), .unset, .unset] [(.int (own_vI (d33 - (-1 : Int32))))] ?_
    refine own_istore X40.here hx hby at_174 (l' := #[.val (.int p1), .val (.int p2), .val (.int p3), .val (.int p4), .val (.int p5), .val (.int p6), .val (.int 0), .val (.int m_8), .val (.int m_9), .val (.int d10), .val (.int d11), .val (.ref b12), .val (.int (-1)), .val (.int 1), .val (.int d33), .val (.int (d33 - (-1 : Int32))), .val (.ref b_34), .val (.int (own_vI (d33 - (-1 : Int32)))), .unset]) rfl ?_
    refine own_iload X40.here hx hby at_176 rfl ?_
    refine own_callS X40 hx hZ hown (own_w hw 72 rfl) (own_w hw 73 rfl) (own_w hw 74 rfl) (own_w hw 75 rfl) (by decide) (vlen_ l Z a0 hw [] m_9 T34.heap n0 z39 P9_0) 0 (Nat.le_of_eq rfl) (by decide) (by decide) (by rw [hml]; rfl) (argsL := [(.int m_9)]) (st := []) (lenOf pd_3 rfl) rfl rfl (by decide) (by decide) eh40 hby at_178 ?_
    intro T41 v41 L41 X41 hQ41
    obtain ⟨rfl, Nq41, eh41⟩ := hQ41
    have N41 := Fr.app N40 Nq41
    refine own_sh (T := T41) 181 #[.val (.int p1), .val (.int p2), .val (.int p3), .val (.int p4), .val (.int p5), .val (.int p6), .val (.int 0), .val (.int m_8), .val (.int m_9), .val (.int d10), .val (.int d11), .val (.ref b12), .val (.int (-1)), .val (.int 1), .val (.int d33), .val (.int (d33 - (-1 : Int32))), .val (.ref b_34), .val (.int (own_vI (d33 - (-1 : Int32)))), .unset] [(.int (own_vI m_9))] ?_
    refine own_istore X41.here hx hby at_181 (l' := #[.val (.int p1), .val (.int p2), .val (.int p3), .val (.int p4), .val (.int p5), .val (.int p6), .val (.int 0), .val (.int m_8), .val (.int m_9), .val (.int d10), .val (.int d11), .val (.ref b12), .val (.int (-1)), .val (.int 1), .val (.int d33), .val (.int (d33 - (-1 : Int32))), .val (.ref b_34), .val (.int (own_vI (d33 - (-1 : Int32)))), .val (.int (own_vI m_9))]) rfl ?_
    refine own_iload X41.here hx hby at_183 rfl ?_
    refine own_ifNo X41.here hx hby at_185 ((if0 _ _).trans (feq (show ¬ ((1 : Int32) = (0 : Int32)) from (by decide))).1) ?_
    refine own_aload X41.here hx hby at_188 rfl rfl ?_
    refine own_virtual X41 hx hZ hown (own_w hw 38 rfl) (own_w hw 39 rfl) (notFace_of_selects (args := #[]) (mvT hZ (own_w hw 41 rfl))) (own_w hw 41 rfl) (own_w hw 40 rfl) (own_w hw 8 rfl) (own_w hw 42 rfl) (by decide) (count_ l Z a0 hw [] b12 ((0 : Int32) + (1 : Int32)) T34.heap n0 z39 P34_4) 0 (Nat.le_of_eq rfl) (by decide) (by decide) (by rw [hml]; rfl) (argsL := []) (st := []) P34_0 (lenOf pd_6 rfl) rfl rfl (by decide) (by decide) eh41 hby at_190 ?_
    intro T42 v42 L42 X42 hQ42
    obtain ⟨rfl, Nq42, eh42⟩ := hQ42
    have N42 := Fr.app N41 Nq42
    refine own_sh (T := T42) 193 #[.val (.int p1), .val (.int p2), .val (.int p3), .val (.int p4), .val (.int p5), .val (.int p6), .val (.int 0), .val (.int m_8), .val (.int m_9), .val (.int d10), .val (.int d11), .val (.ref b12), .val (.int (-1)), .val (.int 1), .val (.int d33), .val (.int (d33 - (-1 : Int32))), .val (.ref b_34), .val (.int (own_vI (d33 - (-1 : Int32)))), .val (.int (own_vI m_9))] [(.int ((0 : Int32) + (1 : Int32)))] ?_
    refine own_iload X42.here hx hby at_193 rfl ?_
    refine own_iconst X42.here hx hby at_195 (v := (1 : Int32)) (by decide) ?_
    refine own_iadd X42.here hx hby at_196 (v := (1 : Int32)) (by decide) ?_
    refine own_icmpNo X42.here hx hby at_197 (teq (show ((0 : Int32) + (1 : Int32)) = (1 : Int32) from (by decide))).2 ?_
    refine own_aload X42.here hx hby at_200 rfl rfl ?_
    refine own_virtual X42 hx hZ hown (own_w hw 28 rfl) (own_w hw 29 rfl) (notFace_of_selects (args := #[]) (mvT hZ (own_w hw 31 rfl))) (own_w hw 31 rfl) (own_w hw 30 rfl) (own_w hw 8 rfl) (own_w hw 32 rfl) (by decide) (size_ l Z a0 hw [] b12 ((own_vI (d33 - (-1 : Int32))) + (own_vI m_9)) T34.heap n0 z39 P34_2) 0 (Nat.le_of_eq rfl) (by decide) (by decide) (by rw [hml]; rfl) (argsL := []) (st := []) P34_0 (lenOf pd_6 rfl) rfl rfl (by decide) (by decide) eh42 hby at_202 ?_
    intro T43 v43 L43 X43 hQ43
    obtain ⟨rfl, Nq43, eh43⟩ := hQ43
    have N43 := Fr.app N42 Nq43
    refine own_sh (T := T43) 205 #[.val (.int p1), .val (.int p2), .val (.int p3), .val (.int p4), .val (.int p5), .val (.int p6), .val (.int 0), .val (.int m_8), .val (.int m_9), .val (.int d10), .val (.int d11), .val (.ref b12), .val (.int (-1)), .val (.int 1), .val (.int d33), .val (.int (d33 - (-1 : Int32))), .val (.ref b_34), .val (.int (own_vI (d33 - (-1 : Int32)))), .val (.int (own_vI m_9))] [(.int ((own_vI (d33 - (-1 : Int32))) + (own_vI m_9)))] ?_
    refine own_iload X43.here hx hby at_205 rfl ?_
    refine own_iload X43.here hx hby at_207 rfl ?_
    refine own_iadd X43.here hx hby at_209 rfl ?_
    refine own_icmpNo X43.here hx hby at_210 (teq (show ((own_vI (d33 - (-1 : Int32))) + (own_vI m_9)) = ((own_vI (d33 - (-1 : Int32))) + (own_vI m_9)) from rfl)).2 ?_
    refine own_aload X43.here hx hby at_213 rfl rfl ?_
    refine own_iconst X43.here hx hby at_215 (v := (0 : Int32)) (by decide) ?_
    refine own_iload X43.here hx hby at_216 rfl ?_
    have u1 := own_vI_toInt (d33 - (-1 : Int32))
    have u2 := own_vl_pos (d33 - (-1 : Int32))
    have u6 := P34_7
    have u7 := P34_8
    have u8 : (y_34).toInt = (y_34).toNatClampNeg := by rcases u6 with q | q <;> rw [q] <;> decide
    have u9 : (0 : Int32).toInt = 0 := by decide
    have u10 : (0 : Int32).toNatClampNeg = 0 := by decide
    have u11 : (own_vI (d33 - (-1 : Int32))).toNatClampNeg = own_vl (d33 - (-1 : Int32)) := by have h_ := own_clamp (x := own_vI (d33 - (-1 : Int32))) (by omega); omega
    refine own_callS X43 hx hZ hown (own_w hw 76 rfl) (own_w hw 77 rfl) (own_w hw 74 rfl) (own_w hw 78 rfl) (by decide) (enc_ l Z a0 hw [] b_34 kb_34 y_34 us_34 (0 : Int32) (d33 - (-1 : Int32)) T34.heap n0 z39 P34_6 (by decide) (by omega) hgap (fun j hj => by rw [u10, Nat.zero_add]; exact P34_9 j hj)) 0 (Nat.le_of_eq rfl) (by decide) (by decide) (by rw [hml]; rfl) (argsL := [(.ref b_34), (.int 0), (.int (d33 - (-1 : Int32)))]) (st := []) (lenOf pd_9 rfl) rfl rfl (by decide) (by decide) eh43 hby at_218 ?_
    intro T44 v44 L44 X44 hQ44
    obtain ⟨rfl, Nq44, eh44⟩ := hQ44
    have N44 := Fr.app N43 Nq44
    refine own_sh (T := T44) 221 #[.val (.int p1), .val (.int p2), .val (.int p3), .val (.int p4), .val (.int p5), .val (.int p6), .val (.int 0), .val (.int m_8), .val (.int m_9), .val (.int d10), .val (.int d11), .val (.ref b12), .val (.int (-1)), .val (.int 1), .val (.int d33), .val (.int (d33 - (-1 : Int32))), .val (.ref b_34), .val (.int (own_vI (d33 - (-1 : Int32)))), .val (.int (own_vI m_9))] [(.int 1)] ?_
    refine own_ifNo X44.here hx hby at_221 ((if0 _ _).trans (feq (show ¬ ((1 : Int32) = (0 : Int32)) from (by decide))).1) ?_
    refine own_aload X44.here hx hby at_224 rfl rfl ?_
    refine own_iload X44.here hx hby at_226 rfl ?_
    refine own_iload X44.here hx hby at_228 rfl ?_
    refine own_callS X44 hx hZ hown (own_w hw 76 rfl) (own_w hw 77 rfl) (own_w hw 74 rfl) (own_w hw 78 rfl) (by decide) (enc_ l Z a0 hw [] b_34 kb_34 y_34 us_34 (own_vI (d33 - (-1 : Int32))) m_9 T34.heap n0 z39 P34_6 (by omega) (by omega) P9_0 (fun j hj => by rw [u11]; exact P34_10 j hj)) 0 (Nat.le_of_eq rfl) (by decide) (by decide) (by rw [hml]; rfl) (argsL := [(.ref b_34), (.int (own_vI (d33 - (-1 : Int32)))), (.int m_9)]) (st := []) (lenOf pd_9 rfl) rfl rfl (by decide) (by decide) eh44 hby at_230 ?_
    intro T45 v45 L45 X45 hQ45
    obtain ⟨rfl, Nq45, eh45⟩ := hQ45
    have N45 := Fr.app N44 Nq45
    refine own_sh (T := T45) 233 #[.val (.int p1), .val (.int p2), .val (.int p3), .val (.int p4), .val (.int p5), .val (.int p6), .val (.int 0), .val (.int m_8), .val (.int m_9), .val (.int d10), .val (.int d11), .val (.ref b12), .val (.int (-1)), .val (.int 1), .val (.int d33), .val (.int (d33 - (-1 : Int32))), .val (.ref b_34), .val (.int (own_vI (d33 - (-1 : Int32)))), .val (.int (own_vI m_9))] [(.int 1)] ?_
    refine own_ifNo X45.here hx hby at_233 ((if0 _ _).trans (feq (show ¬ ((1 : Int32) = (0 : Int32)) from (by decide))).1) ?_
    refine own_iconst X45.here hx hby at_236 (v := (1 : Int32)) (by decide) ?_
    refine own_goto X45.here hx hby (pc' := 241) at_237 (by decide) (by decide) ?_
    refine own_istore X45.here hx hby at_241 (l' := #[.val (.int p1), .val (.int p2), .val (.int p3), .val (.int p4), .val (.int p5), .val (.int p6), .val (.int 0), .val (.int m_8), .val (.int m_9), .val (.int d10), .val (.int d11), .val (.ref b12), .val (.int (-1)), .val (.int 1), .val (.int d33), .val (.int (d33 - (-1 : Int32))), .val (.ref b_34), .val (.int (own_vI (d33 - (-1 : Int32)))), .val (.int (own_vI m_9))]) rfl ?_
    refine own_iload X45.here hx hby at_243 rfl ?_
    obtain ⟨fs, hr, hrun, hended, hW, hsame⟩ := X45.leave (v := some (.int 1)) (fun h => by rw [Bd.returns] at h; cases h)
    refine own_ret (t := T45.setFrames fs) ?_ ⟨_, hrun, hended, _, _, rfl, ?_, ⟨_, rfl⟩, hW, hsame.mono (by decide) (by decide)⟩
    · exact retN X45 hx (t := .boolean) Bd.returns (by simp) (hb hby at_245) hr
    · show Q_rm0 Z _ _ _ _ _ _ _ _ h0 n0 _ T45.heap _
      rw [eh45]
      exact ⟨rfl, N45, trivial⟩
  · rw [hk]
    refine own_istore X0.here hx hby at_7 (l' := #[.val (.int p1), .val (.int p2), .val (.int p3), .val (.int p4), .val (.int p5), .val (.int p6), .val (.int 1), .unset, .unset, .unset, .unset, .unset, .unset, .unset, .unset, .unset, .unset, .unset, .unset]) rfl ?_
    refine own_iconst X0.here hx hby at_9 (v := (1 : Int32)) (by decide) ?_
    refine own_iloadN X0.here hx hby at_10 rfl ?_
    refine own_ldcInt X0 hx hZ hown (own_w hw 0 rfl) hby at_11 ?_
    refine own_iand X0.here hx hby at_13 rfl ?_
    refine own_callS X0 hx hZ hown (own_w hw 1 rfl) (own_w hw 2 rfl) (own_w hw 3 rfl) (own_w hw 4 rfl) (by decide) (max1 l Z a0 hw [] (p4 &&& (2147483647 : Int32)) h0 n0 Z0 ) 0 (Nat.le_of_eq rfl) (by decide) (by decide) (by rw [hml]; rfl) (argsL := [(.int 1), (.int (p4 &&& (2147483647 : Int32)))]) (st := []) (lenOf pd_0 rfl) rfl rfl (by decide) (by decide) e0 hby at_14 ?_
    intro T46 v46 L46 X46 hQ46
    obtain ⟨m_46, rfl, Nq46, eh46, P46_0⟩ := hQ46
    have N46 := Fr.app N0 Nq46
    refine own_sh (T := T46) 17 #[.val (.int p1), .val (.int p2), .val (.int p3), .val (.int p4), .val (.int p5), .val (.int p6), .val (.int 1), .unset, .unset, .unset, .unset, .unset, .unset, .unset, .unset, .unset, .unset, .unset, .unset] [(.int m_46)] ?_
    refine own_istore X46.here hx hby at_17 (l' := #[.val (.int p1), .val (.int p2), .val (.int p3), .val (.int p4), .val (.int p5), .val (.int p6), .val (.int 1), .val (.int m_46), .unset, .unset, .unset, .unset, .unset, .unset, .unset, .unset, .unset, .unset, .unset]) rfl ?_
    refine own_iconst X46.here hx hby at_19 (v := (1 : Int32)) (by decide) ?_
    refine own_iload X46.here hx hby at_20 rfl ?_
    refine own_ldcInt X46 hx hZ hown (own_w hw 0 rfl) hby at_22 ?_
    refine own_iand X46.here hx hby at_24 rfl ?_
    refine own_callS X46 hx hZ hown (own_w hw 1 rfl) (own_w hw 2 rfl) (own_w hw 3 rfl) (own_w hw 4 rfl) (by decide) (max1 l Z a0 hw [] (p5 &&& (2147483647 : Int32)) h0 n0 Z0 ) 0 (Nat.le_of_eq rfl) (by decide) (by decide) (by rw [hml]; rfl) (argsL := [(.int 1), (.int (p5 &&& (2147483647 : Int32)))]) (st := []) (lenOf pd_0 rfl) rfl rfl (by decide) (by decide) eh46 hby at_25 ?_
    intro T47 v47 L47 X47 hQ47
    obtain ⟨m_47, rfl, Nq47, eh47, P47_0⟩ := hQ47
    have N47 := Fr.app N46 Nq47
    refine own_sh (T := T47) 28 #[.val (.int p1), .val (.int p2), .val (.int p3), .val (.int p4), .val (.int p5), .val (.int p6), .val (.int 1), .val (.int m_46), .unset, .unset, .unset, .unset, .unset, .unset, .unset, .unset, .unset, .unset, .unset] [(.int m_47)] ?_
    refine own_istore X47.here hx hby at_28 (l' := #[.val (.int p1), .val (.int p2), .val (.int p3), .val (.int p4), .val (.int p5), .val (.int p6), .val (.int 1), .val (.int m_46), .val (.int m_47), .unset, .unset, .unset, .unset, .unset, .unset, .unset, .unset, .unset, .unset]) rfl ?_
    refine own_iloadN X47.here hx hby at_30 rfl ?_
    refine own_ldcInt X47 hx hZ hown (own_w hw 5 rfl) hby at_31 ?_
    refine own_iand X47.here hx hby at_33 rfl ?_
    refine own_sh (T := T47) 34 #[.val (.int p1), .val (.int p2), .val (.int p3), .val (.int p4), .val (.int p5), .val (.int p6), .val (.int 1), .val (.int m_46), .val (.int m_47), .unset, .unset, .unset, .unset, .unset, .unset, .unset, .unset, .unset, .unset] [(.int (p1 &&& (536870911 : Int32)))] ?_
    obtain ⟨d48, ed48⟩ : ∃ z : Int32, z = (p1 &&& (536870911 : Int32)) := ⟨_, rfl⟩
    rw [← ed48]
    have hd0 := own_m29 p1
    rw [← ed48] at hd0
    refine own_istore X47.here hx hby at_34 (l' := #[.val (.int p1), .val (.int p2), .val (.int p3), .val (.int p4), .val (.int p5), .val (.int p6), .val (.int 1), .val (.int m_46), .val (.int m_47), .val (.int d48), .unset, .unset, .unset, .unset, .unset, .unset, .unset, .unset, .unset]) rfl ?_
    refine own_iload X47.here hx hby at_36 rfl ?_
    refine own_iconst X47.here hx hby at_38 (v := (1 : Int32)) (by decide) ?_
    refine own_iadd X47.here hx hby at_39 rfl ?_
    refine own_iloadN X47.here hx hby at_40 rfl ?_
    refine own_ldcInt X47 hx hZ hown (own_w hw 5 rfl) hby at_41 ?_
    refine own_iand X47.here hx hby at_43 rfl ?_
    refine own_iadd X47.here hx hby at_44 rfl ?_
    refine own_sh (T := T47) 45 #[.val (.int p1), .val (.int p2), .val (.int p3), .val (.int p4), .val (.int p5), .val (.int p6), .val (.int 1), .val (.int m_46), .val (.int m_47), .val (.int d48), .unset, .unset, .unset, .unset, .unset, .unset, .unset, .unset, .unset] [(.int ((d48 + (1 : Int32)) + (p2 &&& (536870911 : Int32))))] ?_
    obtain ⟨d49, ed49⟩ : ∃ z : Int32, z = ((d48 + (1 : Int32)) + (p2 &&& (536870911 : Int32))) := ⟨_, rfl⟩
    rw [← ed49]
    have hg1 := own_m29 p2
    have hd1 : d49.toInt = d48.toInt + 1 + (p2 &&& (536870911 : Int32)).toInt := by
      have a : (1 : Int32).toInt = 1 := by decide
      have b := own_addI (x := d48) (y := (1 : Int32)) (by omega) (by omega)
      rw [ed49, own_addI (by omega) (by omega), b, a]
    refine own_istore X47.here hx hby at_45 (l' := #[.val (.int p1), .val (.int p2), .val (.int p3), .val (.int p4), .val (.int p5), .val (.int p6), .val (.int 1), .val (.int m_46), .val (.int m_47), .val (.int d48), .val (.int d49), .unset, .unset, .unset, .unset, .unset, .unset, .unset, .unset]) rfl ?_
    refine own_newO X47 hx hZ hown (own_w hw 6 rfl) (own_w hw 7 rfl) (own_w hw 8 rfl) eh47 hby at_47 (by decide) (by decide) ?_
    intro T50 h50 b50 X50 e50 E50 g50 A50 D50 lt50
    have z51 : h0.size ≤ h50.size := E50.1
    have F52 : Fld Z h50 b50 "com/example/rank_to_reach/ranktoreach/Postings$Writer" "bytes" "[B" .null := D50 (Or.inl (own_w hw 18 rfl)) (ty := (.array .byte)) (by decide)
    have F53 : Fld Z h50 b50 "com/example/rank_to_reach/ranktoreach/Postings$Writer" "last" "I" (.int 0) := D50 (Or.inl (own_w hw 20 rfl)) (ty := .int) (by decide)
    have F54 : Fld Z h50 b50 "com/example/rank_to_reach/ranktoreach/Postings$Writer" "size" "I" (.int 0) := D50 (Or.inl (own_w hw 27 rfl)) (ty := .int) (by decide)
    have F55 : Fld Z h50 b50 "com/example/rank_to_reach/ranktoreach/Postings$Writer" "count" "I" (.int 0) := D50 (Or.inl (own_w hw 44 rfl)) (ty := .int) (by decide)
    refine own_dup X50.here hx hby at_50 rfl ?_
    have f56 : Sta Z h50 "com/example/rank_to_reach/ranktoreach/Postings$Writer" "NONE" "[B" (.ref wN) := (S_NONE.ext E50)
    have z58 : n0 ≤ h50.size := by omega
    refine own_special X50 hx hZ rfl hown (own_w hw 9 rfl) (own_w hw 10 rfl) (own_w hw 8 rfl) (own_w hw 11 rfl) (by decide) (wInit l Z a0 hw [] b50 wN h50 n0 z58 A50 F52 F53 F54 F55 f56 (by omega)) 1 (Nat.le_of_eq rfl) (by decide) (by decide) (by rw [hml]; rfl) (argsL := []) (st := [(.ref b50)]) (a := b50) (lenOf pd_5 rfl) rfl rfl (by decide) (by decide) e50 hby at_51 ?_
    intro T57 v57 L57 X57 hQ57
    obtain ⟨rfl, Nq57, K57, P57_0, P57_1, P57_2, P57_3, P57_4⟩ := hQ57
    have N57 := Fr.app N47 Nq57
    have z59 : h50.size ≤ T57.heap.size := K57.1
    have lt60 : T57.heap.size > b50 := P57_0.lt
    refine own_sh (T := T57) 54 #[.val (.int p1), .val (.int p2), .val (.int p3), .val (.int p4), .val (.int p5), .val (.int p6), .val (.int 1), .val (.int m_46), .val (.int m_47), .val (.int d48), .val (.int d49), .unset, .unset, .unset, .unset, .unset, .unset, .unset, .unset] [(.ref b50)] ?_
    refine own_astore X57.here hx hby at_54 rfl (l' := #[.val (.int p1), .val (.int p2), .val (.int p3), .val (.int p4), .val (.int p5), .val (.int p6), .val (.int 1), .val (.int m_46), .val (.int m_47), .val (.int d48), .val (.int d49), .val (.ref b50), .unset, .unset, .unset, .unset, .unset, .unset, .unset]) rfl ?_
    refine own_iconst X57.here hx hby at_56 (v := (-1 : Int32)) (by decide) ?_
    refine own_istore X57.here hx hby at_57 (l' := #[.val (.int p1), .val (.int p2), .val (.int p3), .val (.int p4), .val (.int p5), .val (.int p6), .val (.int 1), .val (.int m_46), .val (.int m_47), .val (.int d48), .val (.int d49), .val (.ref b50), .val (.int (-1)), .unset, .unset, .unset, .unset, .unset, .unset]) rfl ?_
    refine own_iload X57.here hx hby at_59 rfl ?_
    refine own_iconst X57.here hx hby at_61 (v := (1 : Int32)) (by decide) ?_
    refine own_icmpNo X57.here hx hby at_62 (flt (show ¬ ((1 : Int32) < (1 : Int32)) from (by decide))).1 ?_
    refine own_aload X57.here hx hby at_65 rfl rfl ?_
    refine own_iload X57.here hx hby at_67 rfl ?_
    refine own_iload X57.here hx hby at_69 rfl ?_
    have m0 : (-1 : Int32).toInt = -1 := by decide
    have hgap0 : (0 : Int32) < (d48 - (-1 : Int32)) := own_gap (by omega) (by omega) (by omega)
    have f61 : Arv Z T57.heap wN kN .byte (0 : Int32) [] (.int 0) := ((V_wN.ext E50).keep K57 (ninS (own_nn (by omega)) nin0))
    have z63 : n0 ≤ T57.heap.size := by omega
    refine own_virtual X57 hx hZ hown (own_w hw 45 rfl) (own_w hw 46 rfl) (notFace_of_selects (args := #[]) (mvT hZ (own_w hw 48 rfl))) (own_w hw 48 rfl) (own_w hw 47 rfl) (own_w hw 8 rfl) (own_w hw 49 rfl) (by decide) (add0 l Z a0 hw [] b50 wN d48 m_46 (-1 : Int32) (0 : Int32) kN T57.heap n0 z63 P57_0 P57_1 P57_3 f61 P57_2 P57_4 (by omega) hgap0 P46_0) 0 (Nat.le_of_eq rfl) (by decide) (by decide) (by rw [hml]; rfl) (argsL := [(.int d48), (.int m_46)]) (st := []) P57_0 (lenOf pd_7 rfl) rfl rfl (by decide) (by decide) rfl hby at_71 ?_
    intro T62 v62 L62 X62 hQ62
    obtain ⟨b_62, kb_62, y_62, us_62, rfl, Nq62, K62, P62_0, P62_1, P62_2, P62_3, P62_4, P62_5, P62_6, P62_7, P62_8, P62_9, P62_10⟩ := hQ62
    have N62 := Fr.app N57 Nq62
    have z64 : T57.heap.size ≤ T62.heap.size := K62.1
    have lt65 : T62.heap.size > b50 := P62_0.lt
    have lt66 : T62.heap.size > b_62 := P62_6.lt
    refine own_sh (T := T62) 74 #[.val (.int p1), .val (.int p2), .val (.int p3), .val (.int p4), .val (.int p5), .val (.int p6), .val (.int 1), .val (.int m_46), .val (.int m_47), .val (.int d48), .val (.int d49), .val (.ref b50), .val (.int (-1)), .unset, .unset, .unset, .unset, .unset, .unset] [] ?_
    refine own_iload X62.here hx hby at_74 rfl ?_
    refine own_istore X62.here hx hby at_76 (l' := #[.val (.int p1), .val (.int p2), .val (.int p3), .val (.int p4), .val (.int p5), .val (.int p6), .val (.int 1), .val (.int m_46), .val (.int m_47), .val (.int d48), .val (.int d49), .val (.ref b50), .val (.int d48), .unset, .unset, .unset, .unset, .unset, .unset]) rfl ?_
    refine own_iload X62.here hx hby at_78 rfl ?_
    refine own_iconst X62.here hx hby at_80 (v := (2 : Int32)) (by decide) ?_
    refine own_icmpYes X62.here hx hby (pc' := 97) at_81 (tlt (show (1 : Int32) < (2 : Int32) from (by decide))).1 (by decide) (by decide) ?_
    refine own_aload X62.here hx hby at_97 rfl rfl ?_
    have f67 : Sta Z T62.heap "com/example/rank_to_reach/ranktoreach/Postings$Writer" "NONE" "[B" (.ref wN) := (own_sta_keep (own_sta_keep f56 K57 (allS (own_exa_plain A50) all0)) K62 (allS (own_exa_plain P57_0) all0))
    have z69 : n0 ≤ T62.heap.size := by omega
    refine own_virtual X62 hx hZ hown (own_w hw 21 rfl) (own_w hw 22 rfl) (notFace_of_selects (args := #[]) (mvT hZ (own_w hw 24 rfl))) (own_w hw 24 rfl) (own_w hw 23 rfl) (own_w hw 8 rfl) (own_w hw 25 rfl) (by decide) (clear_ l Z a0 hw [] b50 b_62 wN ((own_vI (d48 - (-1 : Int32))) + (own_vI m_46)) d48 ((0 : Int32) + (1 : Int32)) T62.heap n0 z69 P62_0 P62_1 P62_2 P62_3 P62_4 f67 (by omega)) 0 (Nat.le_of_eq rfl) (by decide) (by decide) (by rw [hml]; rfl) (argsL := []) (st := []) P62_0 (lenOf pd_5 rfl) rfl rfl (by decide) (by decide) rfl hby at_99 ?_
    intro T68 v68 L68 X68 hQ68
    obtain ⟨rfl, Nq68, K68, P68_0, P68_1, P68_2, P68_3, P68_4⟩ := hQ68
    have N68 := Fr.app N62 Nq68
    have z70 : T62.heap.size ≤ T68.heap.size := K68.1
    have lt71 : T68.heap.size > b50 := P68_0.lt
    refine own_sh (T := T68) 102 #[.val (.int p1), .val (.int p2), .val (.int p3), .val (.int p4), .val (.int p5), .val (.int p6), .val (.int 1), .val (.int m_46), .val (.int m_47), .val (.int d48), .val (.int d49), .val (.ref b50), .val (.int d48), .unset, .unset, .unset, .unset, .unset, .unset] [] ?_
    refine own_aload X68.here hx hby at_102 rfl rfl ?_
    have z73 : n0 ≤ T68.heap.size := by omega
    refine own_virtual X68 hx hZ hown (own_w hw 28 rfl) (own_w hw 29 rfl) (notFace_of_selects (args := #[]) (mvT hZ (own_w hw 31 rfl))) (own_w hw 31 rfl) (own_w hw 30 rfl) (own_w hw 8 rfl) (own_w hw 32 rfl) (by decide) (size_ l Z a0 hw [] b50 (0 : Int32) T68.heap n0 z73 P68_2) 0 (Nat.le_of_eq rfl) (by decide) (by decide) (by rw [hml]; rfl) (argsL := []) (st := []) P68_0 (lenOf pd_6 rfl) rfl rfl (by decide) (by decide) rfl hby at_104 ?_
    intro T72 v72 L72 X72 hQ72
    obtain ⟨rfl, Nq72, eh72⟩ := hQ72
    have N72 := Fr.app N68 Nq72
    refine own_sh (T := T72) 107 #[.val (.int p1), .val (.int p2), .val (.int p3), .val (.int p4), .val (.int p5), .val (.int p6), .val (.int 1), .val (.int m_46), .val (.int m_47), .val (.int d48), .val (.int d49), .val (.ref b50), .val (.int d48), .unset, .unset, .unset, .unset, .unset, .unset] [(.int 0)] ?_
    refine own_ifNo X72.here hx hby at_107 ((if0 _ _).trans (teq (show (0 : Int32) = (0 : Int32) from (by decide))).2) ?_
    refine own_aload X72.here hx hby at_110 rfl rfl ?_
    have f74 : Arv Z T68.heap wN kN .byte (0 : Int32) [] (.int 0) := ((f61.keep K62 (ninS (own_nn (by omega)) nin0)).keep K68 (ninS (own_nn (by omega)) nin0))
    refine own_virtual X72 hx hZ hown (own_w hw 33 rfl) (own_w hw 34 rfl) (notFace_of_selects (args := #[]) (mvT hZ (own_w hw 36 rfl))) (own_w hw 36 rfl) (own_w hw 35 rfl) (own_w hw 8 rfl) (own_w hw 37 rfl) (by decide) (capac_ l Z a0 hw [] b50 wN kN (0 : Int32) ([]) T68.heap n0 z73 P68_1 f74) 0 (Nat.le_of_eq rfl) (by decide) (by decide) (by rw [hml]; rfl) (argsL := []) (st := []) P68_0 (lenOf pd_6 rfl) rfl rfl (by decide) (by decide) eh72 hby at_112 ?_
    intro T75 v75 L75 X75 hQ75
    obtain ⟨rfl, Nq75, eh75⟩ := hQ75
    have N75 := Fr.app N72 Nq75
    refine own_sh (T := T75) 115 #[.val (.int p1), .val (.int p2), .val (.int p3), .val (.int p4), .val (.int p5), .val (.int p6), .val (.int 1), .val (.int m_46), .val (.int m_47), .val (.int d48), .val (.int d49), .val (.ref b50), .val (.int d48), .unset, .unset, .unset, .unset, .unset, .unset] [(.int 0)] ?_
    refine own_ifNo X75.here hx hby at_115 ((if0 _ _).trans (teq (show (0 : Int32) = (0 : Int32) from (by decide))).2) ?_
    refine own_aload X75.here hx hby at_118 rfl rfl ?_
    refine own_virtual X75 hx hZ hown (own_w hw 38 rfl) (own_w hw 39 rfl) (notFace_of_selects (args := #[]) (mvT hZ (own_w hw 41 rfl))) (own_w hw 41 rfl) (own_w hw 40 rfl) (own_w hw 8 rfl) (own_w hw 42 rfl) (by decide) (count_ l Z a0 hw [] b50 ((0 : Int32) + (1 : Int32)) T68.heap n0 z73 P68_4) 0 (Nat.le_of_eq rfl) (by decide) (by decide) (by rw [hml]; rfl) (argsL := []) (st := []) P68_0 (lenOf pd_6 rfl) rfl rfl (by decide) (by decide) eh75 hby at_120 ?_
    intro T76 v76 L76 X76 hQ76
    obtain ⟨rfl, Nq76, eh76⟩ := hQ76
    have N76 := Fr.app N75 Nq76
    refine own_sh (T := T76) 123 #[.val (.int p1), .val (.int p2), .val (.int p3), .val (.int p4), .val (.int p5), .val (.int p6), .val (.int 1), .val (.int m_46), .val (.int m_47), .val (.int d48), .val (.int d49), .val (.ref b50), .val (.int d48), .unset, .unset, .unset, .unset, .unset, .unset] [(.int ((0 : Int32) + (1 : Int32)))] ?_
    refine own_iload X76.here hx hby at_123 rfl ?_
    refine own_icmpNo X76.here hx hby at_125 (teq (show ((0 : Int32) + (1 : Int32)) = (1 : Int32) from (by decide))).2 ?_
    refine own_iconst X76.here hx hby at_128 (v := (1 : Int32)) (by decide) ?_
    refine own_goto X76.here hx hby (pc' := 133) at_129 (by decide) (by decide) ?_
    refine own_istore X76.here hx hby at_133 (l' := #[.val (.int p1), .val (.int p2), .val (.int p3), .val (.int p4), .val (.int p5), .val (.int p6), .val (.int 1), .val (.int m_46), .val (.int m_47), .val (.int d48), .val (.int d49), .val (.ref b50), .val (.int d48), .val (.int 1), .unset, .unset, .unset, .unset, .unset]) rfl ?_
    refine own_iload X76.here hx hby at_135 rfl ?_
    refine own_iconst X76.here hx hby at_137 (v := (1 : Int32)) (by decide) ?_
    refine own_iadd X76.here hx hby at_138 rfl ?_
    refine own_iloadN X76.here hx hby at_139 rfl ?_
    refine own_ldcInt X76 hx hZ hown (own_w hw 5 rfl) hby at_140 ?_
    refine own_iand X76.here hx hby at_142 rfl ?_
    refine own_iadd X76.here hx hby at_143 rfl ?_
    refine own_sh (T := T76) 144 #[.val (.int p1), .val (.int p2), .val (.int p3), .val (.int p4), .val (.int p5), .val (.int p6), .val (.int 1), .val (.int m_46), .val (.int m_47), .val (.int d48), .val (.int d49), .val (.ref b50), .val (.int d48), .val (.int 1), .unset, .unset, .unset, .unset, .unset] [(.int ((d48 + (1 : Int32)) + (p3 &&& (536870911 : Int32))))] ?_
    obtain ⟨d77, ed77⟩ : ∃ z : Int32, z = ((d48 + (1 : Int32)) + (p3 &&& (536870911 : Int32))) := ⟨_, rfl⟩
    rw [← ed77]
    have hg2 := own_m29 p3
    have m1 : (-1 : Int32).toInt = -1 := by decide
    have hd2 : d77.toInt = d48.toInt + 1 + (p3 &&& (536870911 : Int32)).toInt := by
      have a : (1 : Int32).toInt = 1 := by decide
      have b := own_addI (x := d48) (y := (1 : Int32)) (by omega) (by omega)
      rw [ed77, own_addI (by omega) (by omega), b, a]
    have hgap : (0 : Int32) < (d77 - d48) := own_gap (by omega) (by omega) (by omega)
    refine own_istore X76.here hx hby at_144 (l' := #[.val (.int p1), .val (.int p2), .val (.int p3), .val (.int p4), .val (.int p5), .val (.int p6), .val (.int 1), .val (.int m_46), .val (.int m_47), .val (.int d48), .val (.int d49), .val (.ref b50), .val (.int d48), .val (.int 1), .val (.int d77), .unset, .unset, .unset, .unset]) rfl ?_
    refine own_aload X76.here hx hby at_146 rfl rfl ?_
    refine own_iload X76.here hx hby at_148 rfl ?_
    refine own_iload X76.here hx hby at_150 rfl ?_
    refine own_virtual X76 hx hZ hown (own_w hw 45 rfl) (own_w hw 46 rfl) (notFace_of_selects (args := #[]) (mvT hZ (own_w hw 48 rfl))) (own_w hw 48 rfl) (own_w hw 47 rfl) (own_w hw 8 rfl) (own_w hw 49 rfl) (by decide) (add0 l Z a0 hw [] b50 wN d77 m_47 d48 ((0 : Int32) + (1 : Int32)) kN T68.heap n0 z73 P68_0 P68_1 P68_2 f74 P68_3 P68_4 (by omega) hgap P47_0) 0 (Nat.le_of_eq rfl) (by decide) (by decide) (by rw [hml]; rfl) (argsL := [(.int d77), (.int m_47)]) (st := []) P68_0 (lenOf pd_7 rfl) rfl rfl (by decide) (by decide) eh76 hby at_152 ?_
    intro T78 v78 L78 X78 hQ78
    obtain ⟨b_78, kb_78, y_78, us_78, rfl, Nq78, K78, P78_0, P78_1, P78_2, P78_3, P78_4, P78_5, P78_6, P78_7, P78_8, P78_9, P78_10⟩ := hQ78
    have N78 := Fr.app N76 Nq78
    have z79 : T68.heap.size ≤ T78.heap.size := K78.1
    have lt80 : T78.heap.size > b50 := P78_0.lt
    have lt81 : T78.heap.size > b_78 := P78_6.lt
    refine own_sh (T := T78) 155 #[.val (.int p1), .val (.int p2), .val (.int p3), .val (.int p4), .val (.int p5), .val (.int p6), .val (.int 1), .val (.int m_46), .val (.int m_47), .val (.int d48), .val (.int d49), .val (.ref b50), .val (.int d48), .val (.int 1), .val (.int d77), .unset, .unset, .unset, .unset] [] ?_
    refine own_iload X78.here hx hby at_155 rfl ?_
    refine own_iload X78.here hx hby at_157 rfl ?_
    refine own_isub X78.here hx hby at_159 rfl ?_
    refine own_istore X78.here hx hby at_160 (l' := #[.val (.int p1), .val (.int p2), .val (.int p3), .val (.int p4), .val (.int p5), .val (.int p6), .val (.int 1), .val (.int m_46), .val (.int m_47), .val (.int d48), .val (.int d49), .val (.ref b50), .val (.int d48), .val (.int 1), .val (.int d77), .val (.int (d77 - d48)), .unset, .unset, .unset]) rfl ?_
    refine own_aload X78.here hx hby at_162 rfl rfl ?_
    have z83 : n0 ≤ T78.heap.size := by omega
    refine own_virtual X78 hx hZ hown (own_w hw 67 rfl) (own_w hw 68 rfl) (notFace_of_selects (args := #[]) (mvT hZ (own_w hw 70 rfl))) (own_w hw 70 rfl) (own_w hw 69 rfl) (own_w hw 8 rfl) (own_w hw 71 rfl) (by decide) (bytes_ l Z a0 hw [] b50 b_78 T78.heap n0 z83 P78_1) 0 (Nat.le_of_eq rfl) (by decide) (by decide) (by rw [hml]; rfl) (argsL := []) (st := []) P78_0 (lenOf pd_8 rfl) rfl rfl (by decide) (by decide) rfl hby at_164 ?_
    intro T82 v82 L82 X82 hQ82
    obtain ⟨rfl, Nq82, eh82⟩ := hQ82
    have N82 := Fr.app N78 Nq82
    refine own_sh (T := T82) 167 #[.val (.int p1), .val (.int p2), .val (.int p3), .val (.int p4), .val (.int p5), .val (.int p6), .val (.int 1), .val (.int m_46), .val (.int m_47), .val (.int d48), .val (.int d49), .val (.ref b50), .val (.int d48), .val (.int 1), .val (.int d77), .val (.int (d77 - d48)), .unset, .unset, .unset] [(.ref b_78)] ?_
    refine own_astore X82.here hx hby at_167 rfl (l' := #[.val (.int p1), .val (.int p2), .val (.int p3), .val (.int p4), .val (.int p5), .val (.int p6), .val (.int 1), .val (.int m_46), .val (.int m_47), .val (.int d48), .val (.int d49), .val (.ref b50), .val (.int d48), .val (.int 1), .val (.int d77), .val (.int (d77 - d48)), .val (.ref b_78), .unset, .unset]) rfl ?_
    refine own_iload X82.here hx hby at_169 rfl ?_
    refine own_callS X82 hx hZ hown (own_w hw 72 rfl) (own_w hw 73 rfl) (own_w hw 74 rfl) (own_w hw 75 rfl) (by decide) (vlen_ l Z a0 hw [] (d77 - d48) T78.heap n0 z83 hgap) 0 (Nat.le_of_eq rfl) (by decide) (by decide) (by rw [hml]; rfl) (argsL := [(.int (d77 - d48))]) (st := []) (lenOf pd_3 rfl) rfl rfl (by decide) (by decide) eh82 hby at_171 ?_
    intro T84 v84 L84 X84 hQ84
    obtain ⟨rfl, Nq84, eh84⟩ := hQ84
    have N84 := Fr.app N82 Nq84
    refine own_sh (T := T84) 174 #[.val (.int p1), .val (.int p2), .val (.int p3), .val (.int p4), .val (.int p5), .val (.int p6), .val (.int 1), .val (.int m_46), .val (.int m_47), .val (.int d48), .val (.int d49), .val (.ref b50), .val (.int d48), .val (.int 1), .val (.int d77), .val (.int (d77 - d48)), .val (.ref b_78), .unset, .unset] [(.int (own_vI (d77 - d48)))] ?_
    refine own_istore X84.here hx hby at_174 (l' := #[.val (.int p1), .val (.int p2), .val (.int p3), .val (.int p4), .val (.int p5), .val (.int p6), .val (.int 1), .val (.int m_46), .val (.int m_47), .val (.int d48), .val (.int d49), .val (.ref b50), .val (.int d48), .val (.int 1), .val (.int d77), .val (.int (d77 - d48)), .val (.ref b_78), .val (.int (own_vI (d77 - d48))), .unset]) rfl ?_
    refine own_iload X84.here hx hby at_176 rfl ?_
    refine own_callS X84 hx hZ hown (own_w hw 72 rfl) (own_w hw 73 rfl) (own_w hw 74 rfl) (own_w hw 75 rfl) (by decide) (vlen_ l Z a0 hw [] m_47 T78.heap n0 z83 P47_0) 0 (Nat.le_of_eq rfl) (by decide) (by decide) (by rw [hml]; rfl) (argsL := [(.int m_47)]) (st := []) (lenOf pd_3 rfl) rfl rfl (by decide) (by decide) eh84 hby at_178 ?_
    intro T85 v85 L85 X85 hQ85
    obtain ⟨rfl, Nq85, eh85⟩ := hQ85
    have N85 := Fr.app N84 Nq85
    refine own_sh (T := T85) 181 #[.val (.int p1), .val (.int p2), .val (.int p3), .val (.int p4), .val (.int p5), .val (.int p6), .val (.int 1), .val (.int m_46), .val (.int m_47), .val (.int d48), .val (.int d49), .val (.ref b50), .val (.int d48), .val (.int 1), .val (.int d77), .val (.int (d77 - d48)), .val (.ref b_78), .val (.int (own_vI (d77 - d48))), .unset] [(.int (own_vI m_47))] ?_
    refine own_istore X85.here hx hby at_181 (l' := #[.val (.int p1), .val (.int p2), .val (.int p3), .val (.int p4), .val (.int p5), .val (.int p6), .val (.int 1), .val (.int m_46), .val (.int m_47), .val (.int d48), .val (.int d49), .val (.ref b50), .val (.int d48), .val (.int 1), .val (.int d77), .val (.int (d77 - d48)), .val (.ref b_78), .val (.int (own_vI (d77 - d48))), .val (.int (own_vI m_47))]) rfl ?_
    refine own_iload X85.here hx hby at_183 rfl ?_
    refine own_ifNo X85.here hx hby at_185 ((if0 _ _).trans (feq (show ¬ ((1 : Int32) = (0 : Int32)) from (by decide))).1) ?_
    refine own_aload X85.here hx hby at_188 rfl rfl ?_
    refine own_virtual X85 hx hZ hown (own_w hw 38 rfl) (own_w hw 39 rfl) (notFace_of_selects (args := #[]) (mvT hZ (own_w hw 41 rfl))) (own_w hw 41 rfl) (own_w hw 40 rfl) (own_w hw 8 rfl) (own_w hw 42 rfl) (by decide) (count_ l Z a0 hw [] b50 (((0 : Int32) + (1 : Int32)) + (1 : Int32)) T78.heap n0 z83 P78_4) 0 (Nat.le_of_eq rfl) (by decide) (by decide) (by rw [hml]; rfl) (argsL := []) (st := []) P78_0 (lenOf pd_6 rfl) rfl rfl (by decide) (by decide) eh85 hby at_190 ?_
    intro T86 v86 L86 X86 hQ86
    obtain ⟨rfl, Nq86, eh86⟩ := hQ86
    have N86 := Fr.app N85 Nq86
    refine own_sh (T := T86) 193 #[.val (.int p1), .val (.int p2), .val (.int p3), .val (.int p4), .val (.int p5), .val (.int p6), .val (.int 1), .val (.int m_46), .val (.int m_47), .val (.int d48), .val (.int d49), .val (.ref b50), .val (.int d48), .val (.int 1), .val (.int d77), .val (.int (d77 - d48)), .val (.ref b_78), .val (.int (own_vI (d77 - d48))), .val (.int (own_vI m_47))] [(.int (((0 : Int32) + (1 : Int32)) + (1 : Int32)))] ?_
    refine own_iload X86.here hx hby at_193 rfl ?_
    refine own_iconst X86.here hx hby at_195 (v := (1 : Int32)) (by decide) ?_
    refine own_iadd X86.here hx hby at_196 (v := (2 : Int32)) (by decide) ?_
    refine own_icmpNo X86.here hx hby at_197 (teq (show (((0 : Int32) + (1 : Int32)) + (1 : Int32)) = (2 : Int32) from (by decide))).2 ?_
    refine own_aload X86.here hx hby at_200 rfl rfl ?_
    refine own_virtual X86 hx hZ hown (own_w hw 28 rfl) (own_w hw 29 rfl) (notFace_of_selects (args := #[]) (mvT hZ (own_w hw 31 rfl))) (own_w hw 31 rfl) (own_w hw 30 rfl) (own_w hw 8 rfl) (own_w hw 32 rfl) (by decide) (size_ l Z a0 hw [] b50 ((own_vI (d77 - d48)) + (own_vI m_47)) T78.heap n0 z83 P78_2) 0 (Nat.le_of_eq rfl) (by decide) (by decide) (by rw [hml]; rfl) (argsL := []) (st := []) P78_0 (lenOf pd_6 rfl) rfl rfl (by decide) (by decide) eh86 hby at_202 ?_
    intro T87 v87 L87 X87 hQ87
    obtain ⟨rfl, Nq87, eh87⟩ := hQ87
    have N87 := Fr.app N86 Nq87
    refine own_sh (T := T87) 205 #[.val (.int p1), .val (.int p2), .val (.int p3), .val (.int p4), .val (.int p5), .val (.int p6), .val (.int 1), .val (.int m_46), .val (.int m_47), .val (.int d48), .val (.int d49), .val (.ref b50), .val (.int d48), .val (.int 1), .val (.int d77), .val (.int (d77 - d48)), .val (.ref b_78), .val (.int (own_vI (d77 - d48))), .val (.int (own_vI m_47))] [(.int ((own_vI (d77 - d48)) + (own_vI m_47)))] ?_
    refine own_iload X87.here hx hby at_205 rfl ?_
    refine own_iload X87.here hx hby at_207 rfl ?_
    refine own_iadd X87.here hx hby at_209 rfl ?_
    refine own_icmpNo X87.here hx hby at_210 (teq (show ((own_vI (d77 - d48)) + (own_vI m_47)) = ((own_vI (d77 - d48)) + (own_vI m_47)) from rfl)).2 ?_
    refine own_aload X87.here hx hby at_213 rfl rfl ?_
    refine own_iconst X87.here hx hby at_215 (v := (0 : Int32)) (by decide) ?_
    refine own_iload X87.here hx hby at_216 rfl ?_
    have u1 := own_vI_toInt (d77 - d48)
    have u2 := own_vl_pos (d77 - d48)
    have u6 := P78_7
    have u7 := P78_8
    have u8 : (y_78).toInt = (y_78).toNatClampNeg := by rcases u6 with q | q <;> rw [q] <;> decide
    have u9 : (0 : Int32).toInt = 0 := by decide
    have u10 : (0 : Int32).toNatClampNeg = 0 := by decide
    have u11 : (own_vI (d77 - d48)).toNatClampNeg = own_vl (d77 - d48) := by have h_ := own_clamp (x := own_vI (d77 - d48)) (by omega); omega
    refine own_callS X87 hx hZ hown (own_w hw 76 rfl) (own_w hw 77 rfl) (own_w hw 74 rfl) (own_w hw 78 rfl) (by decide) (enc_ l Z a0 hw [] b_78 kb_78 y_78 us_78 (0 : Int32) (d77 - d48) T78.heap n0 z83 P78_6 (by decide) (by omega) hgap (fun j hj => by rw [u10, Nat.zero_add]; exact P78_9 j hj)) 0 (Nat.le_of_eq rfl) (by decide) (by decide) (by rw [hml]; rfl) (argsL := [(.ref b_78), (.int 0), (.int (d77 - d48))]) (st := []) (lenOf pd_9 rfl) rfl rfl (by decide) (by decide) eh87 hby at_218 ?_
    intro T88 v88 L88 X88 hQ88
    obtain ⟨rfl, Nq88, eh88⟩ := hQ88
    have N88 := Fr.app N87 Nq88
    refine own_sh (T := T88) 221 #[.val (.int p1), .val (.int p2), .val (.int p3), .val (.int p4), .val (.int p5), .val (.int p6), .val (.int 1), .val (.int m_46), .val (.int m_47), .val (.int d48), .val (.int d49), .val (.ref b50), .val (.int d48), .val (.int 1), .val (.int d77), .val (.int (d77 - d48)), .val (.ref b_78), .val (.int (own_vI (d77 - d48))), .val (.int (own_vI m_47))] [(.int 1)] ?_
    refine own_ifNo X88.here hx hby at_221 ((if0 _ _).trans (feq (show ¬ ((1 : Int32) = (0 : Int32)) from (by decide))).1) ?_
    refine own_aload X88.here hx hby at_224 rfl rfl ?_
    refine own_iload X88.here hx hby at_226 rfl ?_
    refine own_iload X88.here hx hby at_228 rfl ?_
    refine own_callS X88 hx hZ hown (own_w hw 76 rfl) (own_w hw 77 rfl) (own_w hw 74 rfl) (own_w hw 78 rfl) (by decide) (enc_ l Z a0 hw [] b_78 kb_78 y_78 us_78 (own_vI (d77 - d48)) m_47 T78.heap n0 z83 P78_6 (by omega) (by omega) P47_0 (fun j hj => by rw [u11]; exact P78_10 j hj)) 0 (Nat.le_of_eq rfl) (by decide) (by decide) (by rw [hml]; rfl) (argsL := [(.ref b_78), (.int (own_vI (d77 - d48))), (.int m_47)]) (st := []) (lenOf pd_9 rfl) rfl rfl (by decide) (by decide) eh88 hby at_230 ?_
    intro T89 v89 L89 X89 hQ89
    obtain ⟨rfl, Nq89, eh89⟩ := hQ89
    have N89 := Fr.app N88 Nq89
    refine own_sh (T := T89) 233 #[.val (.int p1), .val (.int p2), .val (.int p3), .val (.int p4), .val (.int p5), .val (.int p6), .val (.int 1), .val (.int m_46), .val (.int m_47), .val (.int d48), .val (.int d49), .val (.ref b50), .val (.int d48), .val (.int 1), .val (.int d77), .val (.int (d77 - d48)), .val (.ref b_78), .val (.int (own_vI (d77 - d48))), .val (.int (own_vI m_47))] [(.int 1)] ?_
    refine own_ifNo X89.here hx hby at_233 ((if0 _ _).trans (feq (show ¬ ((1 : Int32) = (0 : Int32)) from (by decide))).1) ?_
    refine own_iconst X89.here hx hby at_236 (v := (1 : Int32)) (by decide) ?_
    refine own_goto X89.here hx hby (pc' := 241) at_237 (by decide) (by decide) ?_
    refine own_istore X89.here hx hby at_241 (l' := #[.val (.int p1), .val (.int p2), .val (.int p3), .val (.int p4), .val (.int p5), .val (.int p6), .val (.int 1), .val (.int m_46), .val (.int m_47), .val (.int d48), .val (.int d49), .val (.ref b50), .val (.int d48), .val (.int 1), .val (.int d77), .val (.int (d77 - d48)), .val (.ref b_78), .val (.int (own_vI (d77 - d48))), .val (.int (own_vI m_47))]) rfl ?_
    refine own_iload X89.here hx hby at_243 rfl ?_
    obtain ⟨fs, hr, hrun, hended, hW, hsame⟩ := X89.leave (v := some (.int 1)) (fun h => by rw [Bd.returns] at h; cases h)
    refine own_ret (t := T89.setFrames fs) ?_ ⟨_, hrun, hended, _, _, rfl, ?_, ⟨_, rfl⟩, hW, hsame.mono (by decide) (by decide)⟩
    · exact retN X89 hx (t := .boolean) Bd.returns (by simp) (hb hby at_245) hr
    · show Q_rm0 Z _ _ _ _ _ _ _ _ h0 n0 _ T89.heap _
      rw [eh89]
      exact ⟨rfl, N89, trivial⟩
  · rw [hk]
    refine own_istore X0.here hx hby at_7 (l' := #[.val (.int p1), .val (.int p2), .val (.int p3), .val (.int p4), .val (.int p5), .val (.int p6), .val (.int 2), .unset, .unset, .unset, .unset, .unset, .unset, .unset, .unset, .unset, .unset, .unset, .unset]) rfl ?_
    refine own_iconst X0.here hx hby at_9 (v := (1 : Int32)) (by decide) ?_
    refine own_iloadN X0.here hx hby at_10 rfl ?_
    refine own_ldcInt X0 hx hZ hown (own_w hw 0 rfl) hby at_11 ?_
    refine own_iand X0.here hx hby at_13 rfl ?_
    refine own_callS X0 hx hZ hown (own_w hw 1 rfl) (own_w hw 2 rfl) (own_w hw 3 rfl) (own_w hw 4 rfl) (by decide) (max1 l Z a0 hw [] (p4 &&& (2147483647 : Int32)) h0 n0 Z0 ) 0 (Nat.le_of_eq rfl) (by decide) (by decide) (by rw [hml]; rfl) (argsL := [(.int 1), (.int (p4 &&& (2147483647 : Int32)))]) (st := []) (lenOf pd_0 rfl) rfl rfl (by decide) (by decide) e0 hby at_14 ?_
    intro T90 v90 L90 X90 hQ90
    obtain ⟨m_90, rfl, Nq90, eh90, P90_0⟩ := hQ90
    have N90 := Fr.app N0 Nq90
    refine own_sh (T := T90) 17 #[.val (.int p1), .val (.int p2), .val (.int p3), .val (.int p4), .val (.int p5), .val (.int p6), .val (.int 2), .unset, .unset, .unset, .unset, .unset, .unset, .unset, .unset, .unset, .unset, .unset, .unset] [(.int m_90)] ?_
    refine own_istore X90.here hx hby at_17 (l' := #[.val (.int p1), .val (.int p2), .val (.int p3), .val (.int p4), .val (.int p5), .val (.int p6), .val (.int 2), .val (.int m_90), .unset, .unset, .unset, .unset, .unset, .unset, .unset, .unset, .unset, .unset, .unset]) rfl ?_
    refine own_iconst X90.here hx hby at_19 (v := (1 : Int32)) (by decide) ?_
    refine own_iload X90.here hx hby at_20 rfl ?_
    refine own_ldcInt X90 hx hZ hown (own_w hw 0 rfl) hby at_22 ?_
    refine own_iand X90.here hx hby at_24 rfl ?_
    refine own_callS X90 hx hZ hown (own_w hw 1 rfl) (own_w hw 2 rfl) (own_w hw 3 rfl) (own_w hw 4 rfl) (by decide) (max1 l Z a0 hw [] (p5 &&& (2147483647 : Int32)) h0 n0 Z0 ) 0 (Nat.le_of_eq rfl) (by decide) (by decide) (by rw [hml]; rfl) (argsL := [(.int 1), (.int (p5 &&& (2147483647 : Int32)))]) (st := []) (lenOf pd_0 rfl) rfl rfl (by decide) (by decide) eh90 hby at_25 ?_
    intro T91 v91 L91 X91 hQ91
    obtain ⟨m_91, rfl, Nq91, eh91, P91_0⟩ := hQ91
    have N91 := Fr.app N90 Nq91
    refine own_sh (T := T91) 28 #[.val (.int p1), .val (.int p2), .val (.int p3), .val (.int p4), .val (.int p5), .val (.int p6), .val (.int 2), .val (.int m_90), .unset, .unset, .unset, .unset, .unset, .unset, .unset, .unset, .unset, .unset, .unset] [(.int m_91)] ?_
    refine own_istore X91.here hx hby at_28 (l' := #[.val (.int p1), .val (.int p2), .val (.int p3), .val (.int p4), .val (.int p5), .val (.int p6), .val (.int 2), .val (.int m_90), .val (.int m_91), .unset, .unset, .unset, .unset, .unset, .unset, .unset, .unset, .unset, .unset]) rfl ?_
    refine own_iloadN X91.here hx hby at_30 rfl ?_
    refine own_ldcInt X91 hx hZ hown (own_w hw 5 rfl) hby at_31 ?_
    refine own_iand X91.here hx hby at_33 rfl ?_
    refine own_sh (T := T91) 34 #[.val (.int p1), .val (.int p2), .val (.int p3), .val (.int p4), .val (.int p5), .val (.int p6), .val (.int 2), .val (.int m_90), .val (.int m_91), .unset, .unset, .unset, .unset, .unset, .unset, .unset, .unset, .unset, .unset] [(.int (p1 &&& (536870911 : Int32)))] ?_
    obtain ⟨d92, ed92⟩ : ∃ z : Int32, z = (p1 &&& (536870911 : Int32)) := ⟨_, rfl⟩
    rw [← ed92]
    have hd0 := own_m29 p1
    rw [← ed92] at hd0
    refine own_istore X91.here hx hby at_34 (l' := #[.val (.int p1), .val (.int p2), .val (.int p3), .val (.int p4), .val (.int p5), .val (.int p6), .val (.int 2), .val (.int m_90), .val (.int m_91), .val (.int d92), .unset, .unset, .unset, .unset, .unset, .unset, .unset, .unset, .unset]) rfl ?_
    refine own_iload X91.here hx hby at_36 rfl ?_
    refine own_iconst X91.here hx hby at_38 (v := (1 : Int32)) (by decide) ?_
    refine own_iadd X91.here hx hby at_39 rfl ?_
    refine own_iloadN X91.here hx hby at_40 rfl ?_
    refine own_ldcInt X91 hx hZ hown (own_w hw 5 rfl) hby at_41 ?_
    refine own_iand X91.here hx hby at_43 rfl ?_
    refine own_iadd X91.here hx hby at_44 rfl ?_
    refine own_sh (T := T91) 45 #[.val (.int p1), .val (.int p2), .val (.int p3), .val (.int p4), .val (.int p5), .val (.int p6), .val (.int 2), .val (.int m_90), .val (.int m_91), .val (.int d92), .unset, .unset, .unset, .unset, .unset, .unset, .unset, .unset, .unset] [(.int ((d92 + (1 : Int32)) + (p2 &&& (536870911 : Int32))))] ?_
    obtain ⟨d93, ed93⟩ : ∃ z : Int32, z = ((d92 + (1 : Int32)) + (p2 &&& (536870911 : Int32))) := ⟨_, rfl⟩
    rw [← ed93]
    have hg1 := own_m29 p2
    have hd1 : d93.toInt = d92.toInt + 1 + (p2 &&& (536870911 : Int32)).toInt := by
      have a : (1 : Int32).toInt = 1 := by decide
      have b := own_addI (x := d92) (y := (1 : Int32)) (by omega) (by omega)
      rw [ed93, own_addI (by omega) (by omega), b, a]
    refine own_istore X91.here hx hby at_45 (l' := #[.val (.int p1), .val (.int p2), .val (.int p3), .val (.int p4), .val (.int p5), .val (.int p6), .val (.int 2), .val (.int m_90), .val (.int m_91), .val (.int d92), .val (.int d93), .unset, .unset, .unset, .unset, .unset, .unset, .unset, .unset]) rfl ?_
    refine own_newO X91 hx hZ hown (own_w hw 6 rfl) (own_w hw 7 rfl) (own_w hw 8 rfl) eh91 hby at_47 (by decide) (by decide) ?_
    intro T94 h94 b94 X94 e94 E94 g94 A94 D94 lt94
    have z95 : h0.size ≤ h94.size := E94.1
    have F96 : Fld Z h94 b94 "com/example/rank_to_reach/ranktoreach/Postings$Writer" "bytes" "[B" .null := D94 (Or.inl (own_w hw 18 rfl)) (ty := (.array .byte)) (by decide)
    have F97 : Fld Z h94 b94 "com/example/rank_to_reach/ranktoreach/Postings$Writer" "last" "I" (.int 0) := D94 (Or.inl (own_w hw 20 rfl)) (ty := .int) (by decide)
    have F98 : Fld Z h94 b94 "com/example/rank_to_reach/ranktoreach/Postings$Writer" "size" "I" (.int 0) := D94 (Or.inl (own_w hw 27 rfl)) (ty := .int) (by decide)
    have F99 : Fld Z h94 b94 "com/example/rank_to_reach/ranktoreach/Postings$Writer" "count" "I" (.int 0) := D94 (Or.inl (own_w hw 44 rfl)) (ty := .int) (by decide)
    refine own_dup X94.here hx hby at_50 rfl ?_
    have f100 : Sta Z h94 "com/example/rank_to_reach/ranktoreach/Postings$Writer" "NONE" "[B" (.ref wN) := (S_NONE.ext E94)
    have z102 : n0 ≤ h94.size := by omega
    refine own_special X94 hx hZ rfl hown (own_w hw 9 rfl) (own_w hw 10 rfl) (own_w hw 8 rfl) (own_w hw 11 rfl) (by decide) (wInit l Z a0 hw [] b94 wN h94 n0 z102 A94 F96 F97 F98 F99 f100 (by omega)) 1 (Nat.le_of_eq rfl) (by decide) (by decide) (by rw [hml]; rfl) (argsL := []) (st := [(.ref b94)]) (a := b94) (lenOf pd_5 rfl) rfl rfl (by decide) (by decide) e94 hby at_51 ?_
    intro T101 v101 L101 X101 hQ101
    obtain ⟨rfl, Nq101, K101, P101_0, P101_1, P101_2, P101_3, P101_4⟩ := hQ101
    have N101 := Fr.app N91 Nq101
    have z103 : h94.size ≤ T101.heap.size := K101.1
    have lt104 : T101.heap.size > b94 := P101_0.lt
    refine own_sh (T := T101) 54 #[.val (.int p1), .val (.int p2), .val (.int p3), .val (.int p4), .val (.int p5), .val (.int p6), .val (.int 2), .val (.int m_90), .val (.int m_91), .val (.int d92), .val (.int d93), .unset, .unset, .unset, .unset, .unset, .unset, .unset, .unset] [(.ref b94)] ?_
    refine own_astore X101.here hx hby at_54 rfl (l' := #[.val (.int p1), .val (.int p2), .val (.int p3), .val (.int p4), .val (.int p5), .val (.int p6), .val (.int 2), .val (.int m_90), .val (.int m_91), .val (.int d92), .val (.int d93), .val (.ref b94), .unset, .unset, .unset, .unset, .unset, .unset, .unset]) rfl ?_
    refine own_iconst X101.here hx hby at_56 (v := (-1 : Int32)) (by decide) ?_
    refine own_istore X101.here hx hby at_57 (l' := #[.val (.int p1), .val (.int p2), .val (.int p3), .val (.int p4), .val (.int p5), .val (.int p6), .val (.int 2), .val (.int m_90), .val (.int m_91), .val (.int d92), .val (.int d93), .val (.ref b94), .val (.int (-1)), .unset, .unset, .unset, .unset, .unset, .unset]) rfl ?_
    refine own_iload X101.here hx hby at_59 rfl ?_
    refine own_iconst X101.here hx hby at_61 (v := (1 : Int32)) (by decide) ?_
    refine own_icmpNo X101.here hx hby at_62 (flt (show ¬ ((2 : Int32) < (1 : Int32)) from (by decide))).1 ?_
    refine own_aload X101.here hx hby at_65 rfl rfl ?_
    refine own_iload X101.here hx hby at_67 rfl ?_
    refine own_iload X101.here hx hby at_69 rfl ?_
    have m0 : (-1 : Int32).toInt = -1 := by decide
    have hgap0 : (0 : Int32) < (d92 - (-1 : Int32)) := own_gap (by omega) (by omega) (by omega)
    have f105 : Arv Z T101.heap wN kN .byte (0 : Int32) [] (.int 0) := ((V_wN.ext E94).keep K101 (ninS (own_nn (by omega)) nin0))
    have z107 : n0 ≤ T101.heap.size := by omega
    refine own_virtual X101 hx hZ hown (own_w hw 45 rfl) (own_w hw 46 rfl) (notFace_of_selects (args := #[]) (mvT hZ (own_w hw 48 rfl))) (own_w hw 48 rfl) (own_w hw 47 rfl) (own_w hw 8 rfl) (own_w hw 49 rfl) (by decide) (add0 l Z a0 hw [] b94 wN d92 m_90 (-1 : Int32) (0 : Int32) kN T101.heap n0 z107 P101_0 P101_1 P101_3 f105 P101_2 P101_4 (by omega) hgap0 P90_0) 0 (Nat.le_of_eq rfl) (by decide) (by decide) (by rw [hml]; rfl) (argsL := [(.int d92), (.int m_90)]) (st := []) P101_0 (lenOf pd_7 rfl) rfl rfl (by decide) (by decide) rfl hby at_71 ?_
    intro T106 v106 L106 X106 hQ106
    obtain ⟨b_106, kb_106, y_106, us_106, rfl, Nq106, K106, P106_0, P106_1, P106_2, P106_3, P106_4, P106_5, P106_6, P106_7, P106_8, P106_9, P106_10⟩ := hQ106
    have N106 := Fr.app N101 Nq106
    have z108 : T101.heap.size ≤ T106.heap.size := K106.1
    have lt109 : T106.heap.size > b94 := P106_0.lt
    have lt110 : T106.heap.size > b_106 := P106_6.lt
    refine own_sh (T := T106) 74 #[.val (.int p1), .val (.int p2), .val (.int p3), .val (.int p4), .val (.int p5), .val (.int p6), .val (.int 2), .val (.int m_90), .val (.int m_91), .val (.int d92), .val (.int d93), .val (.ref b94), .val (.int (-1)), .unset, .unset, .unset, .unset, .unset, .unset] [] ?_
    refine own_iload X106.here hx hby at_74 rfl ?_
    refine own_istore X106.here hx hby at_76 (l' := #[.val (.int p1), .val (.int p2), .val (.int p3), .val (.int p4), .val (.int p5), .val (.int p6), .val (.int 2), .val (.int m_90), .val (.int m_91), .val (.int d92), .val (.int d93), .val (.ref b94), .val (.int d92), .unset, .unset, .unset, .unset, .unset, .unset]) rfl ?_
    refine own_iload X106.here hx hby at_78 rfl ?_
    refine own_iconst X106.here hx hby at_80 (v := (2 : Int32)) (by decide) ?_
    refine own_icmpNo X106.here hx hby at_81 (flt (show ¬ ((2 : Int32) < (2 : Int32)) from (by decide))).1 ?_
    refine own_aload X106.here hx hby at_84 rfl rfl ?_
    refine own_iload X106.here hx hby at_86 rfl ?_
    refine own_iload X106.here hx hby at_88 rfl ?_
    have hgap1 : (0 : Int32) < (d93 - d92) := own_gap (by omega) (by omega) (by omega)
    have v1 := own_vI_toInt (d92 - (-1 : Int32))
    have v2 := own_vl_pos (d92 - (-1 : Int32))
    have v3 := own_vI_toInt m_90
    have v4 := own_vl_pos m_90
    have v5 : ((own_vI (d92 - (-1 : Int32))) + (own_vI m_90)).toInt = own_vl (d92 - (-1 : Int32)) + own_vl m_90 := by rw [own_addI (by omega) (by omega), v1, v3]
    have v6 := P106_7
    have v7 := P106_8
    have v8 : (y_106).toInt = (y_106).toNatClampNeg := by rcases v6 with q | q <;> rw [q] <;> decide
    have z112 : n0 ≤ T106.heap.size := by omega
    refine own_virtual X106 hx hZ hown (own_w hw 45 rfl) (own_w hw 46 rfl) (notFace_of_selects (args := #[]) (mvT hZ (own_w hw 48 rfl))) (own_w hw 48 rfl) (own_w hw 47 rfl) (own_w hw 8 rfl) (own_w hw 49 rfl) (by decide) (add1 l Z a0 hw [] b94 b_106 kb_106 y_106 us_106 ((own_vI (d92 - (-1 : Int32))) + (own_vI m_90)) d93 m_90 d92 ((0 : Int32) + (1 : Int32)) T106.heap n0 z112 P106_0 P106_1 P106_2 P106_6 P106_3 P106_4 (by omega) (by omega) v6 (by omega) (by omega) (by omega) hgap1 P90_0) 0 (Nat.le_of_eq rfl) (by decide) (by decide) (by rw [hml]; rfl) (argsL := [(.int d93), (.int m_90)]) (st := []) P106_0 (lenOf pd_7 rfl) rfl rfl (by decide) (by decide) rfl hby at_90 ?_
    intro T111 v111 L111 X111 hQ111
    obtain ⟨b_111, s2_111, rfl, Nq111, K111, P111_0, P111_1, P111_2, P111_3, P111_4⟩ := hQ111
    have N111 := Fr.app N106 Nq111
    have z113 : T106.heap.size ≤ T111.heap.size := K111.1
    have lt114 : T111.heap.size > b94 := P111_0.lt
    refine own_sh (T := T111) 93 #[.val (.int p1), .val (.int p2), .val (.int p3), .val (.int p4), .val (.int p5), .val (.int p6), .val (.int 2), .val (.int m_90), .val (.int m_91), .val (.int d92), .val (.int d93), .val (.ref b94), .val (.int d92), .unset, .unset, .unset, .unset, .unset, .unset] [] ?_
    refine own_iload X111.here hx hby at_93 rfl ?_
    refine own_istore X111.here hx hby at_95 (l' := #[.val (.int p1), .val (.int p2), .val (.int p3), .val (.int p4), .val (.int p5), .val (.int p6), .val (.int 2), .val (.int m_90), .val (.int m_91), .val (.int d92), .val (.int d93), .val (.ref b94), .val (.int d93), .unset, .unset, .unset, .unset, .unset, .unset]) rfl ?_
    refine own_aload X111.here hx hby at_97 rfl rfl ?_
    have f115 : Sta Z T111.heap "com/example/rank_to_reach/ranktoreach/Postings$Writer" "NONE" "[B" (.ref wN) := (own_sta_keep (own_sta_keep (own_sta_keep f100 K101 (allS (own_exa_plain A94) all0)) K106 (allS (own_exa_plain P101_0) all0)) K111 (allS (own_exa_plain P106_0) (allS (own_arv_plain P106_6) all0)))
    have z117 : n0 ≤ T111.heap.size := by omega
    refine own_virtual X111 hx hZ hown (own_w hw 21 rfl) (own_w hw 22 rfl) (notFace_of_selects (args := #[]) (mvT hZ (own_w hw 24 rfl))) (own_w hw 24 rfl) (own_w hw 23 rfl) (own_w hw 8 rfl) (own_w hw 25 rfl) (by decide) (clear_ l Z a0 hw [] b94 b_111 wN s2_111 d93 (((0 : Int32) + (1 : Int32)) + (1 : Int32)) T111.heap n0 z117 P111_0 P111_1 P111_2 P111_3 P111_4 f115 (by omega)) 0 (Nat.le_of_eq rfl) (by decide) (by decide) (by rw [hml]; rfl) (argsL := []) (st := []) P111_0 (lenOf pd_5 rfl) rfl rfl (by decide) (by decide) rfl hby at_99 ?_
    intro T116 v116 L116 X116 hQ116
    obtain ⟨rfl, Nq116, K116, P116_0, P116_1, P116_2, P116_3, P116_4⟩ := hQ116
    have N116 := Fr.app N111 Nq116
    have z118 : T111.heap.size ≤ T116.heap.size := K116.1
    have lt119 : T116.heap.size > b94 := P116_0.lt
    refine own_sh (T := T116) 102 #[.val (.int p1), .val (.int p2), .val (.int p3), .val (.int p4), .val (.int p5), .val (.int p6), .val (.int 2), .val (.int m_90), .val (.int m_91), .val (.int d92), .val (.int d93), .val (.ref b94), .val (.int d93), .unset, .unset, .unset, .unset, .unset, .unset] [] ?_
    refine own_aload X116.here hx hby at_102 rfl rfl ?_
    have z121 : n0 ≤ T116.heap.size := by omega
    refine own_virtual X116 hx hZ hown (own_w hw 28 rfl) (own_w hw 29 rfl) (notFace_of_selects (args := #[]) (mvT hZ (own_w hw 31 rfl))) (own_w hw 31 rfl) (own_w hw 30 rfl) (own_w hw 8 rfl) (own_w hw 32 rfl) (by decide) (size_ l Z a0 hw [] b94 (0 : Int32) T116.heap n0 z121 P116_2) 0 (Nat.le_of_eq rfl) (by decide) (by decide) (by rw [hml]; rfl) (argsL := []) (st := []) P116_0 (lenOf pd_6 rfl) rfl rfl (by decide) (by decide) rfl hby at_104 ?_
    intro T120 v120 L120 X120 hQ120
    obtain ⟨rfl, Nq120, eh120⟩ := hQ120
    have N120 := Fr.app N116 Nq120
    refine own_sh (T := T120) 107 #[.val (.int p1), .val (.int p2), .val (.int p3), .val (.int p4), .val (.int p5), .val (.int p6), .val (.int 2), .val (.int m_90), .val (.int m_91), .val (.int d92), .val (.int d93), .val (.ref b94), .val (.int d93), .unset, .unset, .unset, .unset, .unset, .unset] [(.int 0)] ?_
    refine own_ifNo X120.here hx hby at_107 ((if0 _ _).trans (teq (show (0 : Int32) = (0 : Int32) from (by decide))).2) ?_
    refine own_aload X120.here hx hby at_110 rfl rfl ?_
    have f122 : Arv Z T116.heap wN kN .byte (0 : Int32) [] (.int 0) := (((f105.keep K106 (ninS (own_nn (by omega)) nin0)).keep K111 (ninS (own_nn (by omega)) (ninS (own_nn (by omega)) nin0))).keep K116 (ninS (own_nn (by omega)) nin0))
    refine own_virtual X120 hx hZ hown (own_w hw 33 rfl) (own_w hw 34 rfl) (notFace_of_selects (args := #[]) (mvT hZ (own_w hw 36 rfl))) (own_w hw 36 rfl) (own_w hw 35 rfl) (own_w hw 8 rfl) (own_w hw 37 rfl) (by decide) (capac_ l Z a0 hw [] b94 wN kN (0 : Int32) ([]) T116.heap n0 z121 P116_1 f122) 0 (Nat.le_of_eq rfl) (by decide) (by decide) (by rw [hml]; rfl) (argsL := []) (st := []) P116_0 (lenOf pd_6 rfl) rfl rfl (by decide) (by decide) eh120 hby at_112 ?_
    intro T123 v123 L123 X123 hQ123
    obtain ⟨rfl, Nq123, eh123⟩ := hQ123
    have N123 := Fr.app N120 Nq123
    refine own_sh (T := T123) 115 #[.val (.int p1), .val (.int p2), .val (.int p3), .val (.int p4), .val (.int p5), .val (.int p6), .val (.int 2), .val (.int m_90), .val (.int m_91), .val (.int d92), .val (.int d93), .val (.ref b94), .val (.int d93), .unset, .unset, .unset, .unset, .unset, .unset] [(.int 0)] ?_
    refine own_ifNo X123.here hx hby at_115 ((if0 _ _).trans (teq (show (0 : Int32) = (0 : Int32) from (by decide))).2) ?_
    refine own_aload X123.here hx hby at_118 rfl rfl ?_
    refine own_virtual X123 hx hZ hown (own_w hw 38 rfl) (own_w hw 39 rfl) (notFace_of_selects (args := #[]) (mvT hZ (own_w hw 41 rfl))) (own_w hw 41 rfl) (own_w hw 40 rfl) (own_w hw 8 rfl) (own_w hw 42 rfl) (by decide) (count_ l Z a0 hw [] b94 (((0 : Int32) + (1 : Int32)) + (1 : Int32)) T116.heap n0 z121 P116_4) 0 (Nat.le_of_eq rfl) (by decide) (by decide) (by rw [hml]; rfl) (argsL := []) (st := []) P116_0 (lenOf pd_6 rfl) rfl rfl (by decide) (by decide) eh123 hby at_120 ?_
    intro T124 v124 L124 X124 hQ124
    obtain ⟨rfl, Nq124, eh124⟩ := hQ124
    have N124 := Fr.app N123 Nq124
    refine own_sh (T := T124) 123 #[.val (.int p1), .val (.int p2), .val (.int p3), .val (.int p4), .val (.int p5), .val (.int p6), .val (.int 2), .val (.int m_90), .val (.int m_91), .val (.int d92), .val (.int d93), .val (.ref b94), .val (.int d93), .unset, .unset, .unset, .unset, .unset, .unset] [(.int (((0 : Int32) + (1 : Int32)) + (1 : Int32)))] ?_
    refine own_iload X124.here hx hby at_123 rfl ?_
    refine own_icmpNo X124.here hx hby at_125 (teq (show (((0 : Int32) + (1 : Int32)) + (1 : Int32)) = (2 : Int32) from (by decide))).2 ?_
    refine own_iconst X124.here hx hby at_128 (v := (1 : Int32)) (by decide) ?_
    refine own_goto X124.here hx hby (pc' := 133) at_129 (by decide) (by decide) ?_
    refine own_istore X124.here hx hby at_133 (l' := #[.val (.int p1), .val (.int p2), .val (.int p3), .val (.int p4), .val (.int p5), .val (.int p6), .val (.int 2), .val (.int m_90), .val (.int m_91), .val (.int d92), .val (.int d93), .val (.ref b94), .val (.int d93), .val (.int 1), .unset, .unset, .unset, .unset, .unset]) rfl ?_
    refine own_iload X124.here hx hby at_135 rfl ?_
    refine own_iconst X124.here hx hby at_137 (v := (1 : Int32)) (by decide) ?_
    refine own_iadd X124.here hx hby at_138 rfl ?_
    refine own_iloadN X124.here hx hby at_139 rfl ?_
    refine own_ldcInt X124 hx hZ hown (own_w hw 5 rfl) hby at_140 ?_
    refine own_iand X124.here hx hby at_142 rfl ?_
    refine own_iadd X124.here hx hby at_143 rfl ?_
    refine own_sh (T := T124) 144 #[.val (.int p1), .val (.int p2), .val (.int p3), .val (.int p4), .val (.int p5), .val (.int p6), .val (.int 2), .val (.int m_90), .val (.int m_91), .val (.int d92), .val (.int d93), .val (.ref b94), .val (.int d93), .val (.int 1), .unset, .unset, .unset, .unset, .unset] [(.int ((d93 + (1 : Int32)) + (p3 &&& (536870911 : Int32))))] ?_
    obtain ⟨d125, ed125⟩ : ∃ z : Int32, z = ((d93 + (1 : Int32)) + (p3 &&& (536870911 : Int32))) := ⟨_, rfl⟩
    rw [← ed125]
    have hg2 := own_m29 p3
    have m1 : (-1 : Int32).toInt = -1 := by decide
    have hd2 : d125.toInt = d93.toInt + 1 + (p3 &&& (536870911 : Int32)).toInt := by
      have a : (1 : Int32).toInt = 1 := by decide
      have b := own_addI (x := d93) (y := (1 : Int32)) (by omega) (by omega)
      rw [ed125, own_addI (by omega) (by omega), b, a]
    have hgap : (0 : Int32) < (d125 - d93) := own_gap (by omega) (by omega) (by omega)
    refine own_istore X124.here hx hby at_144 (l' := #[.val (.int p1), .val (.int p2), .val (.int p3), .val (.int p4), .val (.int p5), .val (.int p6), .val (.int 2), .val (.int m_90), .val (.int m_91), .val (.int d92), .val (.int d93), .val (.ref b94), .val (.int d93), .val (.int 1), .val (.int d125), .unset, .unset, .unset, .unset]) rfl ?_
    refine own_aload X124.here hx hby at_146 rfl rfl ?_
    refine own_iload X124.here hx hby at_148 rfl ?_
    refine own_iload X124.here hx hby at_150 rfl ?_
    refine own_virtual X124 hx hZ hown (own_w hw 45 rfl) (own_w hw 46 rfl) (notFace_of_selects (args := #[]) (mvT hZ (own_w hw 48 rfl))) (own_w hw 48 rfl) (own_w hw 47 rfl) (own_w hw 8 rfl) (own_w hw 49 rfl) (by decide) (add0 l Z a0 hw [] b94 wN d125 m_91 d93 (((0 : Int32) + (1 : Int32)) + (1 : Int32)) kN T116.heap n0 z121 P116_0 P116_1 P116_2 f122 P116_3 P116_4 (by omega) hgap P91_0) 0 (Nat.le_of_eq rfl) (by decide) (by decide) (by rw [hml]; rfl) (argsL := [(.int d125), (.int m_91)]) (st := []) P116_0 (lenOf pd_7 rfl) rfl rfl (by decide) (by decide) eh124 hby at_152 ?_
    intro T126 v126 L126 X126 hQ126
    obtain ⟨b_126, kb_126, y_126, us_126, rfl, Nq126, K126, P126_0, P126_1, P126_2, P126_3, P126_4, P126_5, P126_6, P126_7, P126_8, P126_9, P126_10⟩ := hQ126
    have N126 := Fr.app N124 Nq126
    have z127 : T116.heap.size ≤ T126.heap.size := K126.1
    have lt128 : T126.heap.size > b94 := P126_0.lt
    have lt129 : T126.heap.size > b_126 := P126_6.lt
    refine own_sh (T := T126) 155 #[.val (.int p1), .val (.int p2), .val (.int p3), .val (.int p4), .val (.int p5), .val (.int p6), .val (.int 2), .val (.int m_90), .val (.int m_91), .val (.int d92), .val (.int d93), .val (.ref b94), .val (.int d93), .val (.int 1), .val (.int d125), .unset, .unset, .unset, .unset] [] ?_
    refine own_iload X126.here hx hby at_155 rfl ?_
    refine own_iload X126.here hx hby at_157 rfl ?_
    refine own_isub X126.here hx hby at_159 rfl ?_
    refine own_istore X126.here hx hby at_160 (l' := #[.val (.int p1), .val (.int p2), .val (.int p3), .val (.int p4), .val (.int p5), .val (.int p6), .val (.int 2), .val (.int m_90), .val (.int m_91), .val (.int d92), .val (.int d93), .val (.ref b94), .val (.int d93), .val (.int 1), .val (.int d125), .val (.int (d125 - d93)), .unset, .unset, .unset]) rfl ?_
    refine own_aload X126.here hx hby at_162 rfl rfl ?_
    have z131 : n0 ≤ T126.heap.size := by omega
    refine own_virtual X126 hx hZ hown (own_w hw 67 rfl) (own_w hw 68 rfl) (notFace_of_selects (args := #[]) (mvT hZ (own_w hw 70 rfl))) (own_w hw 70 rfl) (own_w hw 69 rfl) (own_w hw 8 rfl) (own_w hw 71 rfl) (by decide) (bytes_ l Z a0 hw [] b94 b_126 T126.heap n0 z131 P126_1) 0 (Nat.le_of_eq rfl) (by decide) (by decide) (by rw [hml]; rfl) (argsL := []) (st := []) P126_0 (lenOf pd_8 rfl) rfl rfl (by decide) (by decide) rfl hby at_164 ?_
    intro T130 v130 L130 X130 hQ130
    obtain ⟨rfl, Nq130, eh130⟩ := hQ130
    have N130 := Fr.app N126 Nq130
    refine own_sh (T := T130) 167 #[.val (.int p1), .val (.int p2), .val (.int p3), .val (.int p4), .val (.int p5), .val (.int p6), .val (.int 2), .val (.int m_90), .val (.int m_91), .val (.int d92), .val (.int d93), .val (.ref b94), .val (.int d93), .val (.int 1), .val (.int d125), .val (.int (d125 - d93)), .unset, .unset, .unset] [(.ref b_126)] ?_
    refine own_astore X130.here hx hby at_167 rfl (l' := #[.val (.int p1), .val (.int p2), .val (.int p3), .val (.int p4), .val (.int p5), .val (.int p6), .val (.int 2), .val (.int m_90), .val (.int m_91), .val (.int d92), .val (.int d93), .val (.ref b94), .val (.int d93), .val (.int 1), .val (.int d125), .val (.int (d125 - d93)), .val (.ref b_126), .unset, .unset]) rfl ?_
    refine own_iload X130.here hx hby at_169 rfl ?_
    refine own_callS X130 hx hZ hown (own_w hw 72 rfl) (own_w hw 73 rfl) (own_w hw 74 rfl) (own_w hw 75 rfl) (by decide) (vlen_ l Z a0 hw [] (d125 - d93) T126.heap n0 z131 hgap) 0 (Nat.le_of_eq rfl) (by decide) (by decide) (by rw [hml]; rfl) (argsL := [(.int (d125 - d93))]) (st := []) (lenOf pd_3 rfl) rfl rfl (by decide) (by decide) eh130 hby at_171 ?_
    intro T132 v132 L132 X132 hQ132
    obtain ⟨rfl, Nq132, eh132⟩ := hQ132
    have N132 := Fr.app N130 Nq132
    refine own_sh (T := T132) 174 #[.val (.int p1), .val (.int p2), .val (.int p3), .val (.int p4), .val (.int p5), .val (.int p6), .val (.int 2), .val (.int m_90), .val (.int m_91), .val (.int d92), .val (.int d93), .val (.ref b94), .val (.int d93), .val (.int 1), .val (.int d125), .val (.int (d125 - d93)), .val (.ref b_126), .unset, .unset] [(.int (own_vI (d125 - d93)))] ?_
    refine own_istore X132.here hx hby at_174 (l' := #[.val (.int p1), .val (.int p2), .val (.int p3), .val (.int p4), .val (.int p5), .val (.int p6), .val (.int 2), .val (.int m_90), .val (.int m_91), .val (.int d92), .val (.int d93), .val (.ref b94), .val (.int d93), .val (.int 1), .val (.int d125), .val (.int (d125 - d93)), .val (.ref b_126), .val (.int (own_vI (d125 - d93))), .unset]) rfl ?_
    refine own_iload X132.here hx hby at_176 rfl ?_
    refine own_callS X132 hx hZ hown (own_w hw 72 rfl) (own_w hw 73 rfl) (own_w hw 74 rfl) (own_w hw 75 rfl) (by decide) (vlen_ l Z a0 hw [] m_91 T126.heap n0 z131 P91_0) 0 (Nat.le_of_eq rfl) (by decide) (by decide) (by rw [hml]; rfl) (argsL := [(.int m_91)]) (st := []) (lenOf pd_3 rfl) rfl rfl (by decide) (by decide) eh132 hby at_178 ?_
    intro T133 v133 L133 X133 hQ133
    obtain ⟨rfl, Nq133, eh133⟩ := hQ133
    have N133 := Fr.app N132 Nq133
    refine own_sh (T := T133) 181 #[.val (.int p1), .val (.int p2), .val (.int p3), .val (.int p4), .val (.int p5), .val (.int p6), .val (.int 2), .val (.int m_90), .val (.int m_91), .val (.int d92), .val (.int d93), .val (.ref b94), .val (.int d93), .val (.int 1), .val (.int d125), .val (.int (d125 - d93)), .val (.ref b_126), .val (.int (own_vI (d125 - d93))), .unset] [(.int (own_vI m_91))] ?_
    refine own_istore X133.here hx hby at_181 (l' := #[.val (.int p1), .val (.int p2), .val (.int p3), .val (.int p4), .val (.int p5), .val (.int p6), .val (.int 2), .val (.int m_90), .val (.int m_91), .val (.int d92), .val (.int d93), .val (.ref b94), .val (.int d93), .val (.int 1), .val (.int d125), .val (.int (d125 - d93)), .val (.ref b_126), .val (.int (own_vI (d125 - d93))), .val (.int (own_vI m_91))]) rfl ?_
    refine own_iload X133.here hx hby at_183 rfl ?_
    refine own_ifNo X133.here hx hby at_185 ((if0 _ _).trans (feq (show ¬ ((1 : Int32) = (0 : Int32)) from (by decide))).1) ?_
    refine own_aload X133.here hx hby at_188 rfl rfl ?_
    refine own_virtual X133 hx hZ hown (own_w hw 38 rfl) (own_w hw 39 rfl) (notFace_of_selects (args := #[]) (mvT hZ (own_w hw 41 rfl))) (own_w hw 41 rfl) (own_w hw 40 rfl) (own_w hw 8 rfl) (own_w hw 42 rfl) (by decide) (count_ l Z a0 hw [] b94 ((((0 : Int32) + (1 : Int32)) + (1 : Int32)) + (1 : Int32)) T126.heap n0 z131 P126_4) 0 (Nat.le_of_eq rfl) (by decide) (by decide) (by rw [hml]; rfl) (argsL := []) (st := []) P126_0 (lenOf pd_6 rfl) rfl rfl (by decide) (by decide) eh133 hby at_190 ?_
    intro T134 v134 L134 X134 hQ134
    obtain ⟨rfl, Nq134, eh134⟩ := hQ134
    have N134 := Fr.app N133 Nq134
    refine own_sh (T := T134) 193 #[.val (.int p1), .val (.int p2), .val (.int p3), .val (.int p4), .val (.int p5), .val (.int p6), .val (.int 2), .val (.int m_90), .val (.int m_91), .val (.int d92), .val (.int d93), .val (.ref b94), .val (.int d93), .val (.int 1), .val (.int d125), .val (.int (d125 - d93)), .val (.ref b_126), .val (.int (own_vI (d125 - d93))), .val (.int (own_vI m_91))] [(.int ((((0 : Int32) + (1 : Int32)) + (1 : Int32)) + (1 : Int32)))] ?_
    refine own_iload X134.here hx hby at_193 rfl ?_
    refine own_iconst X134.here hx hby at_195 (v := (1 : Int32)) (by decide) ?_
    refine own_iadd X134.here hx hby at_196 (v := (3 : Int32)) (by decide) ?_
    refine own_icmpNo X134.here hx hby at_197 (teq (show ((((0 : Int32) + (1 : Int32)) + (1 : Int32)) + (1 : Int32)) = (3 : Int32) from (by decide))).2 ?_
    refine own_aload X134.here hx hby at_200 rfl rfl ?_
    refine own_virtual X134 hx hZ hown (own_w hw 28 rfl) (own_w hw 29 rfl) (notFace_of_selects (args := #[]) (mvT hZ (own_w hw 31 rfl))) (own_w hw 31 rfl) (own_w hw 30 rfl) (own_w hw 8 rfl) (own_w hw 32 rfl) (by decide) (size_ l Z a0 hw [] b94 ((own_vI (d125 - d93)) + (own_vI m_91)) T126.heap n0 z131 P126_2) 0 (Nat.le_of_eq rfl) (by decide) (by decide) (by rw [hml]; rfl) (argsL := []) (st := []) P126_0 (lenOf pd_6 rfl) rfl rfl (by decide) (by decide) eh134 hby at_202 ?_
    intro T135 v135 L135 X135 hQ135
    obtain ⟨rfl, Nq135, eh135⟩ := hQ135
    have N135 := Fr.app N134 Nq135
    refine own_sh (T := T135) 205 #[.val (.int p1), .val (.int p2), .val (.int p3), .val (.int p4), .val (.int p5), .val (.int p6), .val (.int 2), .val (.int m_90), .val (.int m_91), .val (.int d92), .val (.int d93), .val (.ref b94), .val (.int d93), .val (.int 1), .val (.int d125), .val (.int (d125 - d93)), .val (.ref b_126), .val (.int (own_vI (d125 - d93))), .val (.int (own_vI m_91))] [(.int ((own_vI (d125 - d93)) + (own_vI m_91)))] ?_
    refine own_iload X135.here hx hby at_205 rfl ?_
    refine own_iload X135.here hx hby at_207 rfl ?_
    refine own_iadd X135.here hx hby at_209 rfl ?_
    refine own_icmpNo X135.here hx hby at_210 (teq (show ((own_vI (d125 - d93)) + (own_vI m_91)) = ((own_vI (d125 - d93)) + (own_vI m_91)) from rfl)).2 ?_
    refine own_aload X135.here hx hby at_213 rfl rfl ?_
    refine own_iconst X135.here hx hby at_215 (v := (0 : Int32)) (by decide) ?_
    refine own_iload X135.here hx hby at_216 rfl ?_
    have u1 := own_vI_toInt (d125 - d93)
    have u2 := own_vl_pos (d125 - d93)
    have u6 := P126_7
    have u7 := P126_8
    have u8 : (y_126).toInt = (y_126).toNatClampNeg := by rcases u6 with q | q <;> rw [q] <;> decide
    have u9 : (0 : Int32).toInt = 0 := by decide
    have u10 : (0 : Int32).toNatClampNeg = 0 := by decide
    have u11 : (own_vI (d125 - d93)).toNatClampNeg = own_vl (d125 - d93) := by have h_ := own_clamp (x := own_vI (d125 - d93)) (by omega); omega
    refine own_callS X135 hx hZ hown (own_w hw 76 rfl) (own_w hw 77 rfl) (own_w hw 74 rfl) (own_w hw 78 rfl) (by decide) (enc_ l Z a0 hw [] b_126 kb_126 y_126 us_126 (0 : Int32) (d125 - d93) T126.heap n0 z131 P126_6 (by decide) (by omega) hgap (fun j hj => by rw [u10, Nat.zero_add]; exact P126_9 j hj)) 0 (Nat.le_of_eq rfl) (by decide) (by decide) (by rw [hml]; rfl) (argsL := [(.ref b_126), (.int 0), (.int (d125 - d93))]) (st := []) (lenOf pd_9 rfl) rfl rfl (by decide) (by decide) eh135 hby at_218 ?_
    intro T136 v136 L136 X136 hQ136
    obtain ⟨rfl, Nq136, eh136⟩ := hQ136
    have N136 := Fr.app N135 Nq136
    refine own_sh (T := T136) 221 #[.val (.int p1), .val (.int p2), .val (.int p3), .val (.int p4), .val (.int p5), .val (.int p6), .val (.int 2), .val (.int m_90), .val (.int m_91), .val (.int d92), .val (.int d93), .val (.ref b94), .val (.int d93), .val (.int 1), .val (.int d125), .val (.int (d125 - d93)), .val (.ref b_126), .val (.int (own_vI (d125 - d93))), .val (.int (own_vI m_91))] [(.int 1)] ?_
    refine own_ifNo X136.here hx hby at_221 ((if0 _ _).trans (feq (show ¬ ((1 : Int32) = (0 : Int32)) from (by decide))).1) ?_
    refine own_aload X136.here hx hby at_224 rfl rfl ?_
    refine own_iload X136.here hx hby at_226 rfl ?_
    refine own_iload X136.here hx hby at_228 rfl ?_
    refine own_callS X136 hx hZ hown (own_w hw 76 rfl) (own_w hw 77 rfl) (own_w hw 74 rfl) (own_w hw 78 rfl) (by decide) (enc_ l Z a0 hw [] b_126 kb_126 y_126 us_126 (own_vI (d125 - d93)) m_91 T126.heap n0 z131 P126_6 (by omega) (by omega) P91_0 (fun j hj => by rw [u11]; exact P126_10 j hj)) 0 (Nat.le_of_eq rfl) (by decide) (by decide) (by rw [hml]; rfl) (argsL := [(.ref b_126), (.int (own_vI (d125 - d93))), (.int m_91)]) (st := []) (lenOf pd_9 rfl) rfl rfl (by decide) (by decide) eh136 hby at_230 ?_
    intro T137 v137 L137 X137 hQ137
    obtain ⟨rfl, Nq137, eh137⟩ := hQ137
    have N137 := Fr.app N136 Nq137
    refine own_sh (T := T137) 233 #[.val (.int p1), .val (.int p2), .val (.int p3), .val (.int p4), .val (.int p5), .val (.int p6), .val (.int 2), .val (.int m_90), .val (.int m_91), .val (.int d92), .val (.int d93), .val (.ref b94), .val (.int d93), .val (.int 1), .val (.int d125), .val (.int (d125 - d93)), .val (.ref b_126), .val (.int (own_vI (d125 - d93))), .val (.int (own_vI m_91))] [(.int 1)] ?_
    refine own_ifNo X137.here hx hby at_233 ((if0 _ _).trans (feq (show ¬ ((1 : Int32) = (0 : Int32)) from (by decide))).1) ?_
    refine own_iconst X137.here hx hby at_236 (v := (1 : Int32)) (by decide) ?_
    refine own_goto X137.here hx hby (pc' := 241) at_237 (by decide) (by decide) ?_
    refine own_istore X137.here hx hby at_241 (l' := #[.val (.int p1), .val (.int p2), .val (.int p3), .val (.int p4), .val (.int p5), .val (.int p6), .val (.int 2), .val (.int m_90), .val (.int m_91), .val (.int d92), .val (.int d93), .val (.ref b94), .val (.int d93), .val (.int 1), .val (.int d125), .val (.int (d125 - d93)), .val (.ref b_126), .val (.int (own_vI (d125 - d93))), .val (.int (own_vI m_91))]) rfl ?_
    refine own_iload X137.here hx hby at_243 rfl ?_
    obtain ⟨fs, hr, hrun, hended, hW, hsame⟩ := X137.leave (v := some (.int 1)) (fun h => by rw [Bd.returns] at h; cases h)
    refine own_ret (t := T137.setFrames fs) ?_ ⟨_, hrun, hended, _, _, rfl, ?_, ⟨_, rfl⟩, hW, hsame.mono (by decide) (by decide)⟩
    · exact retN X137 hx (t := .boolean) Bd.returns (by simp) (hb hby at_245) hr
    · show Q_rm0 Z _ _ _ _ _ _ _ _ h0 n0 _ T137.heap _
      rw [eh137]
      exact ⟨rfl, N137, trivial⟩
set_option maxRecDepth 65536 in
set_option maxHeartbeats 40000000 in
theorem comes_1 {Post : Tables → Env → Array Value → State → Outcome → State → Prop} (hpost : ∀ tb e args s v u, (limb_1_1.after args s (.returned v) u = true ∧ limb_1_2.after args s (.returned v) u = true ∧ True) → FrameEnd s (.returned v) u (Jvm.fieldLocs frame_1_writes args s ++ Jvm.arrayLocs frame_1_arrays args s ++ Jvm.staticLocs frame_1_statics s) 24 256 → Post tb e args s (.returned v) u) :
    ArmFor flags0 classFile x code maxLocals ret World_1 tables_1 room_1 Calls_1 rest_1 Pre_1 Post := by
  intro l hfl _ _ p e ha hc hk s m args below hf hA hF happ hP
  obtain ⟨hcalls, hrest, hpre⟩ := hP
  obtain ⟨-, -, -, hnamed, -, -, -, hat⟩ := (Spec.applies_iff hf).mp happ
  obtain ⟨hg, hn⟩ := and_e (Cond.before_iff.mp (show (Jvm.Cond.and given_1 narrow_1).before args s = true from hpre))
  obtain ⟨g1, g2⟩ := and_e hg
  obtain ⟨g3, g4⟩ := and_e g2
  obtain ⟨g5, g6⟩ := and_e g4
  obtain ⟨g7, g8⟩ := and_e g6
  obtain ⟨g9, g10⟩ := and_e g8
  obtain ⟨g11, g12⟩ := and_e g10
  obtain ⟨w0, w1, w2, w3, w4, w5, rfl⟩ : ∃ w0 w1 w2 w3 w4 w5 : Value, args = #[w0, w1, w2, w3, w4, w5] := by
    have hs : args.size = 6 := by simpa [Cond.value, given_1] using g1
    obtain ⟨L⟩ := args
    match L, hs with
    | [w0, w1, w2, w3, w4, w5], _ => exact ⟨w0, w1, w2, w3, w4, w5, rfl⟩
  have hw := fun d (hd : d ∈ tables_1) => atoms_spec (ws := Jvm.Cond.code x code maxLocals ret :: tables_1) hat d (List.mem_cons_of_mem _ hd)
  have hfit : Fit s := fun {y c} hc i hi => by
    obtain ⟨ha, rfl⟩ := Array.getElem?_eq_some_iff.mp hc
    have q := List.all_eq_true.mp ((Array.all_eq_true_iff_forall_mem.mp hF) _ (Array.getElem_mem ha)) i (List.mem_range.mpr hi)
    simpa [Array.getElem?_eq_getElem hi] using q
  obtain ⟨i0, ei0⟩ := is_v g3
  obtain rfl : w0 = (.int i0) := Option.some.inj ei0
  obtain ⟨i1, ei1⟩ := is_v g5
  obtain rfl : w1 = (.int i1) := Option.some.inj ei1
  obtain ⟨i2, ei2⟩ := is_v g7
  obtain rfl : w2 = (.int i2) := Option.some.inj ei2
  obtain ⟨i3, ei3⟩ := is_v g9
  obtain rfl : w3 = (.int i3) := Option.some.inj ei3
  obtain ⟨i4, ei4⟩ := is_v g11
  obtain rfl : w4 = (.int i4) := Option.some.inj ei4
  obtain ⟨i5, ei5⟩ := is_v g12
  obtain rfl : w5 = (.int i5) := Option.some.inj ei5
  obtain ⟨nA, hn⟩ := and_e hn
  obtain ⟨nX, nL⟩ := and_e hn
  obtain ⟨xN, evN⟩ := exa_v nX
  have EaN := Exa.start evN nX
  have StN := Sta.start evN (Or.inr ⟨(own_w hw 8 rfl), (own_w hw 16 rfl)⟩)
  obtain ⟨clN, ArN⟩ := Arr.start evN nA
  have hlen := Cond.eq_int (Cond.before_iff.mpr nL) rfl
  have h31 := SBG.length_lt evN (ArN.fin (Vm.Alike.refl _)) hlen
  have hsz : clN.slots.size.toInt32 = (0 : Int32) := by
    have q := len_f evN (ArN.fin (Vm.Alike.refl _)) h31
    exact Value.int.inj (Option.some.inj (q.symm.trans hlen))
  have VaN : Arv s s.heap xN clN.cls .byte (0 : Int32) [] (.int 0) := Arv.start hfit ArN h31 hsz (by decide) rfl trivial
  obtain ⟨n, o, h1, h2, h3, _, L, rfl, ⟨rfl, N, -⟩, hq⟩ := rm0 l s _ hw tables_1 i0 i1 i2 i3 i4 i5 xN clN.cls s.heap s.heap.size (Nat.le_refl _) StN VaN EaN p e ha hc hk s m _ below hf ((Spec.applies_iff_loose hf).mp happ).1 ⟨rfl, State.Warmed39.refl s, rfl⟩ trivial
  refine ⟨n, _, h1, h2, h3, hpost _ _ _ _ _ _ ⟨Cond.after_iff.mpr rfl, Cond.after_iff.mpr (eq_i res_at (Term.int_eval (1)) rfl), trivial⟩ ⟨hq.1, hq.2.1, (hq.2.2.sift fun y hy => Or.inr (N y hy)).mono (by decide) (by decide)⟩⟩
theorem main_1_1 : Claimed_1_1 := comes_1 fun _ _ _ _ _ _ h hF => ⟨h.1, hF⟩
theorem main_1_2 : Claimed_1_2 := comes_1 fun _ _ _ _ _ _ h hF => ⟨h.2.1, hF⟩
end Jvm.Pilot.@@N@@
namespace Jvm.Pilot.@@N@@
open Jvm Jvm.ClassFile Sem Op Lib Jvm.Free Jvm.Stand Jvm.Pilot.@@N@@.Jvm.D
/-! MADE BY PROGRAM (witnessworld.py) out of the Statement's table words and the real class files: 12 classes; the members and pool entries that the words name. The judged class is class 1, her method 1. -/
namespace start1
open Jvm.ClassFile
def u (s : String) : CpInfo := .utf8 (stringToUtf16 s)
/-- a pool by its gaps: so many unusable entries, then the entry; so many at the end -/
def gap : Nat → List CpInfo → List CpInfo
  | 0, r => r
  | n + 1, r => .unusable :: gap n r
def poolList (es : List (Nat × CpInfo)) (last : Nat) : List CpInfo := es.foldr (fun e r => gap e.1 (e.2 :: r)) (gap last [])
def pool (es : List (Nat × CpInfo)) (last : Nat) : Array CpInfo := ⟨poolList es last⟩
def fileOf (pool : Array CpInfo) (this : Nat) (attrs : Array Attribute := #[]) (ms : Array MethodInfo := #[]) (fl : Nat := 33) (sup : Nat := 0) (ifs : Array Nat := #[]) (fds : Array FieldInfo := #[]) : ClassFile where
  minorVersion := 0
  majorVersion := 65
  constantPool := pool
  accessFlags := fl
  thisClass := this
  superClass := sup
  interfaces := ifs
  fields := fds
  methods := ms
  attributes := attrs
def plain (name : String) (sup : Option ClassId) : Class where
  name := name
  kind := .ordinary
  loader := none
  accessFlags := 33
  super := sup
  interfaces := #[]
  cf := none
  fields := #[]
  methods := #[]
  instanceTypes := #[]
  staticTypes := #[]
  resolved := #[]
  callSites := []
  init := .initialized
  statics := none
  mirror := none

def pool0 : Array CpInfo := pool [(5, u "<init>"), (0, u "()V"), (1, .class_ 10), (1, u "java/lang/Object")] 113

def k0c0 : Code := { maxStack := 0, maxLocals := 1, code := object_method_1_code, exceptionTable := #[], attributes := #[] }
def k0m0 : Method := { name := "<init>", desc := "()V", sig := { parameters := [], returnType := none }, accessFlags := 1, code := some k0c0 }
/-- java/lang/Object -/
def k0 : Class := { plain "java/lang/Object" none with
  accessFlags := 33
  interfaces := #[]
  cf := some (fileOf pool0 8 #[] #[{ accessFlags := 1, nameIndex := 5, descriptorIndex := 6, attributes := #[] }] 33 0 #[] #[])
  fields := #[]
  methods := #[k0m0]
  instanceTypes := #[]
  staticTypes := #[]
  resolved := Array.replicate 124 none
  statics := none }

def pool1 : Array CpInfo := pool [(2, .class_ 4), (0, .nameAndType 5 6), (0, u "java/lang/Object"), (0, u "<init>"), (0, u "()V"), (0, .integer 2147483647), (0, .methodref 9 10), (0, .class_ 11), (0, .nameAndType 12 13), (0, u "java/lang/Math"), (0, u "max"), (0, u "(II)I"), (0, .integer 536870911), (0, .class_ 16), (0, u "com/example/rank_to_reach/ranktoreach/Postings$Writer"), (0, .methodref 15 3), (0, .methodref 15 19), (0, .nameAndType 20 21), (0, u "add"), (0, u "(II)V"), (0, .methodref 15 23), (0, .nameAndType 24 6), (0, u "clear"), (0, .methodref 15 26), (0, .nameAndType 27 28), (0, u "size"), (0, u "()I"), (0, .methodref 15 30), (0, .nameAndType 31 28), (0, u "capacity"), (0, .methodref 15 33), (0, .nameAndType 34 28), (0, u "count"), (0, .methodref 15 36), (0, .nameAndType 37 38), (0, u "bytes"), (0, u "()[B"), (0, .methodref 40 41), (0, .class_ 42), (0, .nameAndType 43 44), (0, u "com/example/rank_to_reach/ranktoreach/WriterClearPinLaw"), (0, u "vlen"), (0, u "(I)I"), (0, .methodref 40 46), (0, .nameAndType 47 48), (0, u "enc"), (0, u "([BII)Z"), (0, .integer 2097152), (0, .integer 268435456), (0, .methodref 40 52), (0, .nameAndType 53 54), (0, u "byteOk"), (0, u "([BIIII)Z"), (2, u "law"), (0, u "(IIIIII)Z")] 9

def k1m0 : Method := { name := "<init>", desc := "()V", sig := { parameters := [], returnType := none }, accessFlags := 1, code := none }
def k1c1 : Code := { maxStack := 3, maxLocals := 19, code := code, exceptionTable := #[], attributes := #[] }
def k1m1 : Method := { name := "law", desc := "(IIIIII)Z", sig := { parameters := [.int, .int, .int, .int, .int, .int], returnType := some .boolean }, accessFlags := 9, code := some k1c1 }
def k1c2 : Code := { maxStack := 2, maxLocals := 1, code := method_3_code, exceptionTable := #[], attributes := #[] }
def k1m2 : Method := { name := "vlen", desc := "(I)I", sig := { parameters := [.int], returnType := some .int }, accessFlags := 10, code := some k1c2 }
def k1c3 : Code := { maxStack := 5, maxLocals := 4, code := method_4_code, exceptionTable := #[], attributes := #[] }
def k1m3 : Method := { name := "enc", desc := "([BII)Z", sig := { parameters := [(.array .byte), .int, .int], returnType := some .boolean }, accessFlags := 10, code := some k1c3 }
def k1c4 : Code := { maxStack := 4, maxLocals := 7, code := method_5_code, exceptionTable := #[], attributes := #[] }
def k1m4 : Method := { name := "byteOk", desc := "([BIIII)Z", sig := { parameters := [(.array .byte), .int, .int, .int, .int], returnType := some .boolean }, accessFlags := 10, code := some k1c4 }
/-- com/example/rank_to_reach/ranktoreach/WriterClearPinLaw -/
def k1 : Class := { plain "com/example/rank_to_reach/ranktoreach/WriterClearPinLaw" (some 0) with
  accessFlags := 49
  interfaces := #[]
  cf := some (fileOf pool1 40 #[] #[{ accessFlags := 1, nameIndex := 5, descriptorIndex := 6, attributes := #[] }, { accessFlags := 9, nameIndex := 57, descriptorIndex := 58, attributes := #[] }, { accessFlags := 10, nameIndex := 43, descriptorIndex := 44, attributes := #[] }, { accessFlags := 10, nameIndex := 47, descriptorIndex := 48, attributes := #[] }, { accessFlags := 10, nameIndex := 53, descriptorIndex := 54, attributes := #[] }] 49 2 #[] #[])
  fields := #[]
  methods := #[k1m0, k1m1, k1m2, k1m3, k1m4]
  instanceTypes := #[]
  staticTypes := #[]
  resolved := Array.replicate 68 none
  statics := none }

def pool2 : Array CpInfo := pool [(1, .class_ 2), (0, u "java/lang/Math"), (1, .class_ 6), (1, u "java/lang/Object"), (0, u "<init>"), (0, u "()V"), (89, .class_ 100), (1, u "java/lang/Math$RandomNumberGeneratorHolder"), (71, u "negativeZeroFloatBits"), (0, u "J"), (2, u "negativeZeroDoubleBits"), (21, u "max"), (2, u "min"), (43, u "$assertionsDisabled"), (0, u "Z"), (88, u "(II)I"), (2, u "twoToTheDoubleScaleDown"), (0, u "D"), (4, u "twoToTheDoubleScaleUp"), (9, u "E"), (3, u "PI"), (2, u "TAU"), (2, u "DEGREES_TO_RADIANS"), (0, u "RADIANS_TO_DEGREES")] 94

def k2m0 : Method := { name := "<init>", desc := "()V", sig := { parameters := [], returnType := none }, accessFlags := 2, code := none }
def k2c1 : Code := { maxStack := 2, maxLocals := 2, code := jdk_29_method_65_code, exceptionTable := #[], attributes := #[] }
def k2m1 : Method := { name := "max", desc := "(II)I", sig := { parameters := [.int, .int], returnType := some .int }, accessFlags := 9, code := some k2c1 }
def k2c2 : Code := { maxStack := 2, maxLocals := 2, code := jdk_29_method_69_code, exceptionTable := #[], attributes := #[] }
def k2m2 : Method := { name := "min", desc := "(II)I", sig := { parameters := [.int, .int], returnType := some .int }, accessFlags := 9, code := some k2c2 }
/-- java/lang/Math -/
def k2 : Class := { plain "java/lang/Math" (some 0) with
  accessFlags := 49
  interfaces := #[]
  cf := some (fileOf pool2 1 #[.nestMembers #[98]] #[{ accessFlags := 2, nameIndex := 7, descriptorIndex := 8, attributes := #[] }, { accessFlags := 9, nameIndex := 198, descriptorIndex := 335, attributes := #[] }, { accessFlags := 9, nameIndex := 201, descriptorIndex := 335, attributes := #[] }] 49 4 #[] #[{ accessFlags := 25, nameIndex := 354, descriptorIndex := 339, attributes := #[] }, { accessFlags := 25, nameIndex := 358, descriptorIndex := 339, attributes := #[] }, { accessFlags := 25, nameIndex := 361, descriptorIndex := 339, attributes := #[] }, { accessFlags := 26, nameIndex := 364, descriptorIndex := 339, attributes := #[] }, { accessFlags := 26, nameIndex := 365, descriptorIndex := 339, attributes := #[] }, { accessFlags := 26, nameIndex := 172, descriptorIndex := 173, attributes := #[] }, { accessFlags := 26, nameIndex := 176, descriptorIndex := 173, attributes := #[] }, { accessFlags := 8, nameIndex := 344, descriptorIndex := 339, attributes := #[] }, { accessFlags := 8, nameIndex := 338, descriptorIndex := 339, attributes := #[] }, { accessFlags := 4120, nameIndex := 245, descriptorIndex := 246, attributes := #[] }])
  fields := #[{ name := "E", type := .double, accessFlags := 25, slot := 0, constantValue := 0 }, { name := "PI", type := .double, accessFlags := 25, slot := 1, constantValue := 0 }, { name := "TAU", type := .double, accessFlags := 25, slot := 2, constantValue := 0 }, { name := "DEGREES_TO_RADIANS", type := .double, accessFlags := 26, slot := 3, constantValue := 0 }, { name := "RADIANS_TO_DEGREES", type := .double, accessFlags := 26, slot := 4, constantValue := 0 }, { name := "negativeZeroFloatBits", type := .long, accessFlags := 26, slot := 5, constantValue := 0 }, { name := "negativeZeroDoubleBits", type := .long, accessFlags := 26, slot := 6, constantValue := 0 }, { name := "twoToTheDoubleScaleUp", type := .double, accessFlags := 8, slot := 7, constantValue := 0 }, { name := "twoToTheDoubleScaleDown", type := .double, accessFlags := 8, slot := 8, constantValue := 0 }, { name := "$assertionsDisabled", type := .boolean, accessFlags := 4120, slot := 9, constantValue := 0 }]
  methods := #[k2m0, k2m1, k2m2]
  instanceTypes := #[]
  staticTypes := #[.double, .double, .double, .double, .double, .long, .long, .double, .double, .boolean]
  resolved := Array.replicate 460 none
  statics := none }

def pool3 : Array CpInfo := pool [(1, .class_ 2), (0, u "com/example/rank_to_reach/ranktoreach/Postings"), (0, .methodref 4 5), (0, .class_ 6), (0, .nameAndType 7 8), (0, u "java/lang/Object"), (0, u "<init>"), (0, u "()V"), (0, .fieldref 10 11), (0, .class_ 12), (0, .nameAndType 13 14), (0, u "com/example/rank_to_reach/ranktoreach/Postings$Writer"), (0, u "NONE"), (0, u "[B"), (0, .fieldref 10 16), (0, .nameAndType 17 14), (0, u "bytes"), (0, .fieldref 10 19), (0, .nameAndType 20 21), (0, u "last"), (0, u "I"), (0, .methodref 10 23), (0, .nameAndType 24 25), (0, u "put"), (0, u "(I)V"), (0, .fieldref 10 27), (0, .nameAndType 28 21), (0, u "count"), (0, .fieldref 10 30), (0, .nameAndType 31 21), (0, u "size"), (0, .methodref 33 34), (0, .class_ 35), (0, .nameAndType 36 37), (0, u "java/lang/Math"), (0, u "max"), (0, u "(II)I"), (0, .methodref 39 40), (0, .class_ 41), (0, .nameAndType 42 43), (0, u "java/util/Arrays"), (0, u "copyOf"), (0, u "([BI)[B"), (2, u "add"), (0, u "(II)V"), (0, u "()I"), (0, u "()[B"), (0, u "capacity"), (0, u "clear")] 7

def k3c0 : Code := { maxStack := 2, maxLocals := 1, code := prog_36_method_1_code, exceptionTable := #[], attributes := #[] }
def k3m0 : Method := { name := "<init>", desc := "()V", sig := { parameters := [], returnType := none }, accessFlags := 0, code := some k3c0 }
def k3c1 : Code := { maxStack := 3, maxLocals := 3, code := prog_36_method_2_code, exceptionTable := #[], attributes := #[] }
def k3m1 : Method := { name := "add", desc := "(II)V", sig := { parameters := [.int, .int], returnType := none }, accessFlags := 0, code := some k3c1 }
def k3c2 : Code := { maxStack := 1, maxLocals := 1, code := prog_36_method_3_code, exceptionTable := #[], attributes := #[] }
def k3m2 : Method := { name := "count", desc := "()I", sig := { parameters := [], returnType := some .int }, accessFlags := 0, code := some k3c2 }
def k3c3 : Code := { maxStack := 1, maxLocals := 1, code := prog_36_method_4_code, exceptionTable := #[], attributes := #[] }
def k3m3 : Method := { name := "bytes", desc := "()[B", sig := { parameters := [], returnType := some (.array .byte) }, accessFlags := 0, code := some k3c3 }
def k3c4 : Code := { maxStack := 1, maxLocals := 1, code := prog_36_method_5_code, exceptionTable := #[], attributes := #[] }
def k3m4 : Method := { name := "size", desc := "()I", sig := { parameters := [], returnType := some .int }, accessFlags := 0, code := some k3c4 }
def k3c5 : Code := { maxStack := 1, maxLocals := 1, code := prog_36_method_6_code, exceptionTable := #[], attributes := #[] }
def k3m5 : Method := { name := "capacity", desc := "()I", sig := { parameters := [], returnType := some .int }, accessFlags := 0, code := some k3c5 }
def k3c6 : Code := { maxStack := 2, maxLocals := 1, code := prog_36_method_7_code, exceptionTable := #[], attributes := #[] }
def k3m6 : Method := { name := "clear", desc := "()V", sig := { parameters := [], returnType := none }, accessFlags := 0, code := some k3c6 }
def k3c7 : Code := { maxStack := 5, maxLocals := 3, code := prog_36_method_8_code, exceptionTable := #[], attributes := #[] }
def k3m7 : Method := { name := "put", desc := "(I)V", sig := { parameters := [.int], returnType := none }, accessFlags := 2, code := some k3c7 }
/-- com/example/rank_to_reach/ranktoreach/Postings$Writer -/
def k3 : Class := { plain "com/example/rank_to_reach/ranktoreach/Postings$Writer" (some 0) with
  accessFlags := 48
  interfaces := #[]
  cf := some (fileOf pool3 10 #[.nestHost 1] #[{ accessFlags := 0, nameIndex := 7, descriptorIndex := 8, attributes := #[] }, { accessFlags := 0, nameIndex := 46, descriptorIndex := 47, attributes := #[] }, { accessFlags := 0, nameIndex := 28, descriptorIndex := 48, attributes := #[] }, { accessFlags := 0, nameIndex := 17, descriptorIndex := 49, attributes := #[] }, { accessFlags := 0, nameIndex := 31, descriptorIndex := 48, attributes := #[] }, { accessFlags := 0, nameIndex := 50, descriptorIndex := 48, attributes := #[] }, { accessFlags := 0, nameIndex := 51, descriptorIndex := 8, attributes := #[] }, { accessFlags := 2, nameIndex := 24, descriptorIndex := 25, attributes := #[] }] 48 4 #[] #[{ accessFlags := 26, nameIndex := 13, descriptorIndex := 14, attributes := #[] }, { accessFlags := 2, nameIndex := 17, descriptorIndex := 14, attributes := #[] }, { accessFlags := 2, nameIndex := 31, descriptorIndex := 21, attributes := #[] }, { accessFlags := 2, nameIndex := 28, descriptorIndex := 21, attributes := #[] }, { accessFlags := 2, nameIndex := 20, descriptorIndex := 21, attributes := #[] }])
  fields := #[{ name := "NONE", type := (.array .byte), accessFlags := 26, slot := 0, constantValue := 0 }, { name := "bytes", type := (.array .byte), accessFlags := 2, slot := 0, constantValue := 0 }, { name := "size", type := .int, accessFlags := 2, slot := 1, constantValue := 0 }, { name := "count", type := .int, accessFlags := 2, slot := 2, constantValue := 0 }, { name := "last", type := .int, accessFlags := 2, slot := 3, constantValue := 0 }]
  methods := #[k3m0, k3m1, k3m2, k3m3, k3m4, k3m5, k3m6, k3m7]
  instanceTypes := #[(.array .byte), .int, .int, .int]
  staticTypes := #[(.array .byte)]
  resolved := Array.replicate 59 none
  statics := some 0 }

def pool4 : Array CpInfo := pool [(2, .class_ 4), (1, u "java/lang/Object"), (0, u "<init>"), (0, u "()V"), (7, .class_ 16), (1, u "java/util/Arrays"), (57, .class_ 76), (1, u "java/util/Arrays$NaturalOrder"), (36, .class_ 115), (1, u "java/util/Arrays$LegacyMergeSort"), (1, u "Z"), (32, .methodref 151 152), (0, .class_ 153), (0, .nameAndType 154 155), (0, u "java/lang/System"), (0, u "arraycopy"), (0, u "(Ljava/lang/Object;ILjava/lang/Object;II)V"), (146, u "copyOf"), (1, .methodref 305 306), (0, .class_ 307), (0, .nameAndType 308 309), (0, u "java/lang/Math"), (0, u "min"), (0, u "(II)I"), (65, .class_ 376), (0, u "java/util/Arrays$ArrayList"), (68, u "$assertionsDisabled"), (269, u "MIN_ARRAY_SORT_GRAN"), (0, u "I"), (2, u "INSERTIONSORT_THRESHOLD"), (149, u "([BI)[B"), (105, .class_ 976), (0, u "java/util/Arrays$ArrayItr")] 52

def k4m0 : Method := { name := "<init>", desc := "()V", sig := { parameters := [], returnType := none }, accessFlags := 2, code := none }
def k4c1 : Code := { maxStack := 6, maxLocals := 3, code := jdk_65_method_121_code, exceptionTable := #[], attributes := #[] }
def k4m1 : Method := { name := "copyOf", desc := "([BI)[B", sig := { parameters := [(.array .byte), .int], returnType := some (.array .byte) }, accessFlags := 9, code := some k4c1 }
/-- java/util/Arrays -/
def k4 : Class := { plain "java/util/Arrays" (some 0) with
  accessFlags := 49
  interfaces := #[]
  cf := some (fileOf pool4 14 #[.nestMembers #[975, 375, 113, 74]] #[{ accessFlags := 2, nameIndex := 5, descriptorIndex := 6, attributes := #[] }, { accessFlags := 9, nameIndex := 302, descriptorIndex := 869, attributes := #[] }] 49 2 #[] #[{ accessFlags := 26, nameIndex := 715, descriptorIndex := 716, attributes := #[] }, { accessFlags := 26, nameIndex := 719, descriptorIndex := 716, attributes := #[] }, { accessFlags := 4120, nameIndex := 445, descriptorIndex := 117, attributes := #[] }])
  fields := #[{ name := "MIN_ARRAY_SORT_GRAN", type := .int, accessFlags := 26, slot := 0, constantValue := 0 }, { name := "INSERTIONSORT_THRESHOLD", type := .int, accessFlags := 26, slot := 1, constantValue := 0 }, { name := "$assertionsDisabled", type := .boolean, accessFlags := 4120, slot := 2, constantValue := 0 }]
  methods := #[k4m0, k4m1]
  instanceTypes := #[]
  staticTypes := #[.int, .int, .boolean]
  resolved := Array.replicate 1029 none
  statics := none }

def pool5 : Array CpInfo := pool [(2, .class_ 4), (1, u "java/lang/Object"), (0, u "<init>"), (0, u "()V"), (1, .class_ 10), (1, u "java/lang/System"), (0, u "allowSecurityManager"), (0, u "I"), (16, u "cons"), (0, u "Ljava/io/Console;"), (77, .class_ 110), (1, u "java/lang/System$CallersHolder"), (43, u "initialErrStream"), (0, u "Ljava/io/PrintStream;"), (19, u "security"), (0, u "Ljava/lang/SecurityManager;"), (31, .class_ 209), (0, u "java/lang/System$1"), (7, u "props"), (0, u "Ljava/util/Properties;"), (2, u "lineSeparator"), (0, u "Ljava/lang/String;"), (96, .class_ 321), (1, u "java/lang/System$LoggerFinder"), (5, .class_ 328), (0, u "java/lang/System$Logger"), (67, u "err"), (2, u "out"), (91, u "notSupportedJnuEncoding"), (15, u "in"), (17, u "initialIn"), (0, u "Ljava/io/InputStream;"), (35, u "bootLayer"), (0, u "Ljava/lang/ModuleLayer;"), (99, .class_ 664), (0, u "java/lang/System$2"), (9, u "NEVER"), (2, u "MAYBE"), (49, u "arraycopy"), (0, u "(Ljava/lang/Object;ILjava/lang/Object;II)V"), (72, .class_ 802), (0, u "java/lang/System$Logger$Level")] 31

def k5m0 : Method := { name := "<init>", desc := "()V", sig := { parameters := [], returnType := none }, accessFlags := 2, code := none }
def k5m1 : Method := { name := "arraycopy", desc := "(Ljava/lang/Object;ILjava/lang/Object;II)V", sig := { parameters := [(.object "java/lang/Object"), .int, (.object "java/lang/Object"), .int, .int], returnType := none }, accessFlags := 265, code := none }
/-- java/lang/System -/
def k5 : Class := { plain "java/lang/System" (some 0) with
  accessFlags := 49
  interfaces := #[]
  cf := some (fileOf pool5 8 #[.nestMembers #[319, 327, 801, 108, 663, 208]] #[{ accessFlags := 2, nameIndex := 5, descriptorIndex := 6, attributes := #[] }, { accessFlags := 265, nameIndex := 727, descriptorIndex := 728, attributes := #[] }] 49 2 #[] #[{ accessFlags := 25, nameIndex := 507, descriptorIndex := 526, attributes := #[] }, { accessFlags := 25, nameIndex := 399, descriptorIndex := 155, attributes := #[] }, { accessFlags := 25, nameIndex := 396, descriptorIndex := 155, attributes := #[] }, { accessFlags := 10, nameIndex := 525, descriptorIndex := 526, attributes := #[] }, { accessFlags := 26, nameIndex := 674, descriptorIndex := 12, attributes := #[] }, { accessFlags := 26, nameIndex := 677, descriptorIndex := 12, attributes := #[] }, { accessFlags := 10, nameIndex := 11, descriptorIndex := 12, attributes := #[] }, { accessFlags := 74, nameIndex := 175, descriptorIndex := 176, attributes := #[] }, { accessFlags := 10, nameIndex := 491, descriptorIndex := 222, attributes := #[] }, { accessFlags := 74, nameIndex := 29, descriptorIndex := 30, attributes := #[] }, { accessFlags := 74, nameIndex := 154, descriptorIndex := 155, attributes := #[] }, { accessFlags := 10, nameIndex := 217, descriptorIndex := 218, attributes := #[] }, { accessFlags := 10, nameIndex := 221, descriptorIndex := 222, attributes := #[] }, { accessFlags := 8, nameIndex := 562, descriptorIndex := 563, attributes := #[] }])
  fields := #[{ name := "in", type := (.object "java/io/InputStream"), accessFlags := 25, slot := 0, constantValue := 0 }, { name := "out", type := (.object "java/io/PrintStream"), accessFlags := 25, slot := 1, constantValue := 0 }, { name := "err", type := (.object "java/io/PrintStream"), accessFlags := 25, slot := 2, constantValue := 0 }, { name := "initialIn", type := (.object "java/io/InputStream"), accessFlags := 10, slot := 3, constantValue := 0 }, { name := "NEVER", type := .int, accessFlags := 26, slot := 4, constantValue := 0 }, { name := "MAYBE", type := .int, accessFlags := 26, slot := 5, constantValue := 0 }, { name := "allowSecurityManager", type := .int, accessFlags := 10, slot := 6, constantValue := 0 }, { name := "security", type := (.object "java/lang/SecurityManager"), accessFlags := 74, slot := 7, constantValue := 0 }, { name := "notSupportedJnuEncoding", type := (.object "java/lang/String"), accessFlags := 10, slot := 8, constantValue := 0 }, { name := "cons", type := (.object "java/io/Console"), accessFlags := 74, slot := 9, constantValue := 0 }, { name := "initialErrStream", type := (.object "java/io/PrintStream"), accessFlags := 74, slot := 10, constantValue := 0 }, { name := "props", type := (.object "java/util/Properties"), accessFlags := 10, slot := 11, constantValue := 0 }, { name := "lineSeparator", type := (.object "java/lang/String"), accessFlags := 10, slot := 12, constantValue := 0 }, { name := "bootLayer", type := (.object "java/lang/ModuleLayer"), accessFlags := 8, slot := 13, constantValue := 0 }]
  methods := #[k5m0, k5m1]
  instanceTypes := #[]
  staticTypes := #[(.object "java/io/InputStream"), (.object "java/io/PrintStream"), (.object "java/io/PrintStream"), (.object "java/io/InputStream"), .int, .int, .int, (.object "java/lang/SecurityManager"), (.object "java/lang/String"), (.object "java/io/Console"), (.object "java/io/PrintStream"), (.object "java/util/Properties"), (.object "java/lang/String"), (.object "java/lang/ModuleLayer")]
  resolved := Array.replicate 834 none
  statics := none }

def pool6 : Array CpInfo := pool [(1, u "java/lang/Cloneable"), (0, .class_ 1), (0, u "java/lang/Object"), (0, .class_ 3)] 3

/-- java/lang/Cloneable -/
def k6 : Class := { plain "java/lang/Cloneable" (some 0) with
  accessFlags := 1537
  interfaces := #[]
  cf := some (fileOf pool6 2 #[] #[] 1537 4 #[] #[])
  fields := #[]
  methods := #[]
  instanceTypes := #[]
  staticTypes := #[]
  resolved := Array.replicate 8 none
  statics := none }

def pool7 : Array CpInfo := pool [(1, u "java/io/Serializable"), (0, .class_ 1), (0, u "java/lang/Object"), (0, .class_ 3)] 3

/-- java/io/Serializable -/
def k7 : Class := { plain "java/io/Serializable" (some 0) with
  accessFlags := 1537
  interfaces := #[]
  cf := some (fileOf pool7 2 #[] #[] 1537 4 #[] #[])
  fields := #[]
  methods := #[]
  instanceTypes := #[]
  staticTypes := #[]
  resolved := Array.replicate 8 none
  statics := none }

/-- the primitive byte -/
def k8 : Class := { plain "byte" none with kind := .primitive 'B', accessFlags := 0x411 }
/-- [B -/
def k9 : Class := { plain "[B" (some 0) with kind := .array 8 .byte, interfaces := #[6, 7], accessFlags := 1041 }

/-- the primitive int -/
def k10 : Class := { plain "int" none with kind := .primitive 'I', accessFlags := 0x411 }
/-- [I -/
def k11 : Class := { plain "[I" (some 0) with kind := .array 10 .int, interfaces := #[6, 7], accessFlags := 1041 }

def heap : Heap := #[{ cls := 3, slots := #[.ref 1], vm := .statics 3 },
  { cls := 9, slots := #[], vm := .none }]
def classes : Array Class := #[k0, k1, k2, k3, k4, k5, k6, k7, k8, k9, k10, k11]
def interned : List (Array UInt16 × Addr) := []
def slotsUsed : Nat := 1
def theMethod : MethodId := ⟨1, 1⟩
def args0 : Array Value := #[.int 1, .int 2, .int 3, .int 4, .int 5, .int 2]
def aboutOver (below : List Frame) : State where
  vm := { classes := classes, interned := interned.toArray }
  heap := heap
  slotsUsed := slotsUsed
  threads := #[{ frames := .invoking theMethod args0 :: below }]
def below0 : List Frame := [.native { method := ⟨0, 0⟩, args := #[] }]
def about1 : State := aboutOver below0
def p0 : Program := .bare "" "" ""
def e0 : Env := launch0.env 0 0 0
theorem w_frames : about1.frames = Frame.invoking theMethod args0 :: below0 := rfl
set_option maxRecDepth 65536 in
theorem w_args : argsFit about1.vm theMethod args0 = true := by decide +kernel
set_option maxRecDepth 65536 in
theorem w_heap : heapFits about1 = true := by decide +kernel
set_option maxRecDepth 65536 in
theorem w_runnable : about1.curStatus? = some .runnable := by decide +kernel
set_option maxRecDepth 65536 in
theorem w_alone : about1.alone = true := by decide +kernel
set_option maxRecDepth 65536 in
theorem w_named : about1.methodNamed? x = some theMethod := by decide +kernel
set_option maxRecDepth 65536 in
theorem w_hears : about1.hears theMethod below0 = true := by decide +kernel
set_option maxRecDepth 65536 in
theorem w_ripe : about1.ripe theMethod args0 below0 = true := by decide +kernel
theorem w_running : about1.status = .running := rfl
set_option maxRecDepth 65536 in
theorem w_room : about1.hasRoom e0.platform room_1 = true :=
  launch0.hasRoom_least _ room_1 (by decide +kernel) (by decide +kernel) (by decide +kernel) (by decide +kernel) (by decide +kernel) (by decide +kernel)
theorem allAtoms_all (ts : List Jvm.Cond) (a : Array Jvm.Value) (st : Jvm.State) : (allAtoms ts).before a st = ts.all (fun c => c.before a st) := by
  induction ts with
  | nil => rfl
  | cons c t ih =>
    show (Jvm.Cond.and c (allAtoms t)).before a st = _
    rw [Jvm.Cond.before_and, ih, List.all_cons]
def words1 : List Jvm.Cond := Jvm.Cond.code x code maxLocals ret :: tables_1
/-- a 'code' word, met by the world's own term for the bytes: nothing is compared byte by byte -/
theorem code_word {y : MethodName} {bytes : ByteArray} {mx : Nat} {rt : Option FieldType} {a : Array Value} {s : State} {m : MethodId} {meth : Method} {c : Code} (h1 : s.methodNamed? y = some m) (h2 : s.vm.method? m = some meth) (h3 : meth.code = some c) (h4 : c.code = bytes)
    (h5 : (c.maxLocals == mx && c.exceptionTable.isEmpty && decide (c.maxStack ≤ mostOperands) && decide (meth.sig.returnType = rt) && !meth.locks && decide (parseMethodDescriptor y.desc = some meth.sig)) = true) : (Jvm.Cond.code y bytes mx rt).before a s = true := by
  simp only [Bool.and_eq_true, beq_iff_eq, Bool.not_eq_true', decide_eq_true_eq] at h5
  obtain ⟨⟨⟨⟨⟨g1, g2⟩, g3⟩, g4⟩, g5⟩, g6⟩ := h5
  simp [Cond.before, Cond.holds, Cond.value, h1, h2, h3, h4, g1, g2, g3, g4, g5, g6]
def isCode : Jvm.Cond → Bool
  | .code _ _ _ _ => true
  | _ => false
theorem all_split {L : List Jvm.Cond} {P : Jvm.Cond → Bool} (h1 : L.all (fun c => isCode c || P c) = true) (h2 : ∀ c ∈ L.filter isCode, P c = true) : L.all P = true := by
  refine List.all_eq_true.mpr fun c hc => ?_
  have h := List.all_eq_true.mp h1 c hc
  rcases Bool.eq_false_or_eq_true (isCode c) with hi | hi
  · exact h2 c (List.mem_filter.mpr ⟨hc, hi⟩)
  · simpa [hi] using h
set_option maxRecDepth 65536 in
theorem w_c0 : (Jvm.Cond.code x code maxLocals ret).before args0 about1 = true := code_word (m := ⟨1, 1⟩) (meth := k1m1) (c := k1c1) (by decide +kernel) rfl rfl rfl (by decide +kernel)
set_option maxRecDepth 65536 in
theorem w_c1 : (Jvm.Cond.code ({ cls := "java/lang/Math", name := "max", desc := "(II)I" } : Jvm.MethodName) jdk_29_method_65_code (2 : Nat) (Option.some Jvm.ClassFile.FieldType.int)).before args0 about1 = true := code_word (m := ⟨2, 1⟩) (meth := k2m1) (c := k2c1) (by decide +kernel) rfl rfl rfl (by decide +kernel)
set_option maxRecDepth 65536 in
theorem w_c2 : (Jvm.Cond.code ({ cls := "com/example/rank_to_reach/ranktoreach/Postings$Writer", name := "<init>", desc := "()V" } : Jvm.MethodName) prog_36_method_1_code (1 : Nat) (Option.none : Option Jvm.ClassFile.FieldType)).before args0 about1 = true := code_word (m := ⟨3, 0⟩) (meth := k3m0) (c := k3c0) (by decide +kernel) rfl rfl rfl (by decide +kernel)
set_option maxRecDepth 65536 in
theorem w_c3 : (Jvm.Cond.code ({ cls := "java/lang/Object", name := "<init>", desc := "()V" } : Jvm.MethodName) object_method_1_code (1 : Nat) (Option.none : Option Jvm.ClassFile.FieldType)).before args0 about1 = true := code_word (m := ⟨0, 0⟩) (meth := k0m0) (c := k0c0) (by decide +kernel) rfl rfl rfl (by decide +kernel)
set_option maxRecDepth 65536 in
theorem w_c4 : (Jvm.Cond.code ({ cls := "com/example/rank_to_reach/ranktoreach/Postings$Writer", name := "clear", desc := "()V" } : Jvm.MethodName) prog_36_method_7_code (1 : Nat) (Option.none : Option Jvm.ClassFile.FieldType)).before args0 about1 = true := code_word (m := ⟨3, 6⟩) (meth := k3m6) (c := k3c6) (by decide +kernel) rfl rfl rfl (by decide +kernel)
set_option maxRecDepth 65536 in
theorem w_c5 : (Jvm.Cond.code ({ cls := "com/example/rank_to_reach/ranktoreach/Postings$Writer", name := "size", desc := "()I" } : Jvm.MethodName) prog_36_method_5_code (1 : Nat) (Option.some Jvm.ClassFile.FieldType.int)).before args0 about1 = true := code_word (m := ⟨3, 4⟩) (meth := k3m4) (c := k3c4) (by decide +kernel) rfl rfl rfl (by decide +kernel)
set_option maxRecDepth 65536 in
theorem w_c6 : (Jvm.Cond.code ({ cls := "com/example/rank_to_reach/ranktoreach/Postings$Writer", name := "capacity", desc := "()I" } : Jvm.MethodName) prog_36_method_6_code (1 : Nat) (Option.some Jvm.ClassFile.FieldType.int)).before args0 about1 = true := code_word (m := ⟨3, 5⟩) (meth := k3m5) (c := k3c5) (by decide +kernel) rfl rfl rfl (by decide +kernel)
set_option maxRecDepth 65536 in
theorem w_c7 : (Jvm.Cond.code ({ cls := "com/example/rank_to_reach/ranktoreach/Postings$Writer", name := "count", desc := "()I" } : Jvm.MethodName) prog_36_method_3_code (1 : Nat) (Option.some Jvm.ClassFile.FieldType.int)).before args0 about1 = true := code_word (m := ⟨3, 2⟩) (meth := k3m2) (c := k3c2) (by decide +kernel) rfl rfl rfl (by decide +kernel)
set_option maxRecDepth 65536 in
theorem w_c8 : (Jvm.Cond.code ({ cls := "com/example/rank_to_reach/ranktoreach/Postings$Writer", name := "add", desc := "(II)V" } : Jvm.MethodName) prog_36_method_2_code (3 : Nat) (Option.none : Option Jvm.ClassFile.FieldType)).before args0 about1 = true := code_word (m := ⟨3, 1⟩) (meth := k3m1) (c := k3c1) (by decide +kernel) rfl rfl rfl (by decide +kernel)
set_option maxRecDepth 65536 in
theorem w_c9 : (Jvm.Cond.code ({ cls := "com/example/rank_to_reach/ranktoreach/Postings$Writer", name := "put", desc := "(I)V" } : Jvm.MethodName) prog_36_method_8_code (3 : Nat) (Option.none : Option Jvm.ClassFile.FieldType)).before args0 about1 = true := code_word (m := ⟨3, 7⟩) (meth := k3m7) (c := k3c7) (by decide +kernel) rfl rfl rfl (by decide +kernel)
set_option maxRecDepth 65536 in
theorem w_c10 : (Jvm.Cond.code ({ cls := "java/util/Arrays", name := "copyOf", desc := "([BI)[B" } : Jvm.MethodName) jdk_65_method_121_code (3 : Nat) (Option.some (Jvm.ClassFile.FieldType.array Jvm.ClassFile.FieldType.byte))).before args0 about1 = true := code_word (m := ⟨4, 1⟩) (meth := k4m1) (c := k4c1) (by decide +kernel) rfl rfl rfl (by decide +kernel)
set_option maxRecDepth 65536 in
theorem w_c11 : (Jvm.Cond.code ({ cls := "java/lang/Math", name := "min", desc := "(II)I" } : Jvm.MethodName) jdk_29_method_69_code (2 : Nat) (Option.some Jvm.ClassFile.FieldType.int)).before args0 about1 = true := code_word (m := ⟨2, 2⟩) (meth := k2m2) (c := k2c2) (by decide +kernel) rfl rfl rfl (by decide +kernel)
set_option maxRecDepth 65536 in
theorem w_c12 : (Jvm.Cond.code ({ cls := "com/example/rank_to_reach/ranktoreach/Postings$Writer", name := "bytes", desc := "()[B" } : Jvm.MethodName) prog_36_method_4_code (1 : Nat) (Option.some (Jvm.ClassFile.FieldType.array Jvm.ClassFile.FieldType.byte))).before args0 about1 = true := code_word (m := ⟨3, 3⟩) (meth := k3m3) (c := k3c3) (by decide +kernel) rfl rfl rfl (by decide +kernel)
set_option maxRecDepth 65536 in
theorem w_c13 : (Jvm.Cond.code ({ cls := "com/example/rank_to_reach/ranktoreach/WriterClearPinLaw", name := "vlen", desc := "(I)I" } : Jvm.MethodName) method_3_code (1 : Nat) (Option.some Jvm.ClassFile.FieldType.int)).before args0 about1 = true := code_word (m := ⟨1, 2⟩) (meth := k1m2) (c := k1c2) (by decide +kernel) rfl rfl rfl (by decide +kernel)
set_option maxRecDepth 65536 in
theorem w_c14 : (Jvm.Cond.code ({ cls := "com/example/rank_to_reach/ranktoreach/WriterClearPinLaw", name := "enc", desc := "([BII)Z" } : Jvm.MethodName) method_4_code (4 : Nat) (Option.some Jvm.ClassFile.FieldType.boolean)).before args0 about1 = true := code_word (m := ⟨1, 3⟩) (meth := k1m3) (c := k1c3) (by decide +kernel) rfl rfl rfl (by decide +kernel)
set_option maxRecDepth 65536 in
theorem w_c15 : (Jvm.Cond.code ({ cls := "com/example/rank_to_reach/ranktoreach/WriterClearPinLaw", name := "byteOk", desc := "([BIIII)Z" } : Jvm.MethodName) method_5_code (7 : Nat) (Option.some Jvm.ClassFile.FieldType.boolean)).before args0 about1 = true := code_word (m := ⟨1, 4⟩) (meth := k1m4) (c := k1c4) (by decide +kernel) rfl rfl rfl (by decide +kernel)
def codes1 : List Jvm.Cond := [Jvm.Cond.code x code maxLocals ret, Jvm.Cond.code ({ cls := "java/lang/Math", name := "max", desc := "(II)I" } : Jvm.MethodName) jdk_29_method_65_code (2 : Nat) (Option.some Jvm.ClassFile.FieldType.int), Jvm.Cond.code ({ cls := "com/example/rank_to_reach/ranktoreach/Postings$Writer", name := "<init>", desc := "()V" } : Jvm.MethodName) prog_36_method_1_code (1 : Nat) (Option.none : Option Jvm.ClassFile.FieldType), Jvm.Cond.code ({ cls := "java/lang/Object", name := "<init>", desc := "()V" } : Jvm.MethodName) object_method_1_code (1 : Nat) (Option.none : Option Jvm.ClassFile.FieldType), Jvm.Cond.code ({ cls := "com/example/rank_to_reach/ranktoreach/Postings$Writer", name := "clear", desc := "()V" } : Jvm.MethodName) prog_36_method_7_code (1 : Nat) (Option.none : Option Jvm.ClassFile.FieldType), Jvm.Cond.code ({ cls := "com/example/rank_to_reach/ranktoreach/Postings$Writer", name := "size", desc := "()I" } : Jvm.MethodName) prog_36_method_5_code (1 : Nat) (Option.some Jvm.ClassFile.FieldType.int), Jvm.Cond.code ({ cls := "com/example/rank_to_reach/ranktoreach/Postings$Writer", name := "capacity", desc := "()I" } : Jvm.MethodName) prog_36_method_6_code (1 : Nat) (Option.some Jvm.ClassFile.FieldType.int), Jvm.Cond.code ({ cls := "com/example/rank_to_reach/ranktoreach/Postings$Writer", name := "count", desc := "()I" } : Jvm.MethodName) prog_36_method_3_code (1 : Nat) (Option.some Jvm.ClassFile.FieldType.int), Jvm.Cond.code ({ cls := "com/example/rank_to_reach/ranktoreach/Postings$Writer", name := "add", desc := "(II)V" } : Jvm.MethodName) prog_36_method_2_code (3 : Nat) (Option.none : Option Jvm.ClassFile.FieldType), Jvm.Cond.code ({ cls := "com/example/rank_to_reach/ranktoreach/Postings$Writer", name := "put", desc := "(I)V" } : Jvm.MethodName) prog_36_method_8_code (3 : Nat) (Option.none : Option Jvm.ClassFile.FieldType), Jvm.Cond.code ({ cls := "java/util/Arrays", name := "copyOf", desc := "([BI)[B" } : Jvm.MethodName) jdk_65_method_121_code (3 : Nat) (Option.some (Jvm.ClassFile.FieldType.array Jvm.ClassFile.FieldType.byte)), Jvm.Cond.code ({ cls := "java/lang/Math", name := "min", desc := "(II)I" } : Jvm.MethodName) jdk_29_method_69_code (2 : Nat) (Option.some Jvm.ClassFile.FieldType.int), Jvm.Cond.code ({ cls := "com/example/rank_to_reach/ranktoreach/Postings$Writer", name := "bytes", desc := "()[B" } : Jvm.MethodName) prog_36_method_4_code (1 : Nat) (Option.some (Jvm.ClassFile.FieldType.array Jvm.ClassFile.FieldType.byte)), Jvm.Cond.code ({ cls := "com/example/rank_to_reach/ranktoreach/WriterClearPinLaw", name := "vlen", desc := "(I)I" } : Jvm.MethodName) method_3_code (1 : Nat) (Option.some Jvm.ClassFile.FieldType.int), Jvm.Cond.code ({ cls := "com/example/rank_to_reach/ranktoreach/WriterClearPinLaw", name := "enc", desc := "([BII)Z" } : Jvm.MethodName) method_4_code (4 : Nat) (Option.some Jvm.ClassFile.FieldType.boolean), Jvm.Cond.code ({ cls := "com/example/rank_to_reach/ranktoreach/WriterClearPinLaw", name := "byteOk", desc := "([BIIII)Z" } : Jvm.MethodName) method_5_code (7 : Nat) (Option.some Jvm.ClassFile.FieldType.boolean)]
set_option maxRecDepth 65536 in
theorem codes_eq : words1.filter isCode = codes1 := rfl
theorem w_codes : ∀ c ∈ words1.filter isCode, c.before args0 about1 = true := by
  rw [codes_eq]
  intro c hc
  simp only [codes1, List.mem_cons, List.not_mem_nil, or_false] at hc
  rcases hc with rfl | rfl | rfl | rfl | rfl | rfl | rfl | rfl | rfl | rfl | rfl | rfl | rfl | rfl | rfl | rfl
  · exact w_c0
  · exact w_c1
  · exact w_c2
  · exact w_c3
  · exact w_c4
  · exact w_c5
  · exact w_c6
  · exact w_c7
  · exact w_c8
  · exact w_c9
  · exact w_c10
  · exact w_c11
  · exact w_c12
  · exact w_c13
  · exact w_c14
  · exact w_c15
set_option maxRecDepth 65536 in
theorem w_t1 : (words1.take 24).all (fun c => isCode c || c.before args0 about1) = true := by decide +kernel
set_option maxRecDepth 65536 in
theorem w_t2 : ((words1.drop 24).take 24).all (fun c => isCode c || c.before args0 about1) = true := by decide +kernel
set_option maxRecDepth 65536 in
theorem w_t3 : (((words1.drop 24).drop 24).take 24).all (fun c => isCode c || c.before args0 about1) = true := by decide +kernel
set_option maxRecDepth 65536 in
theorem w_t4 : (((words1.drop 24).drop 24).drop 24).all (fun c => isCode c || c.before args0 about1) = true := by decide +kernel
theorem w_tables : (allAtoms (Jvm.Cond.code x code maxLocals ret :: tables_1)).before args0 about1 = true := by
  rw [allAtoms_all]
  show words1.all (fun c => c.before args0 about1) = true
  refine all_split ?_ w_codes
  rw [← List.take_append_drop 24 words1, List.all_append, w_t1, ← List.take_append_drop 24 (words1.drop 24), List.all_append, w_t2, ← List.take_append_drop 24 ((words1.drop 24).drop 24), List.all_append, w_t3, w_t4]
  rfl
set_option maxRecDepth 65536 in
theorem w_case : (Jvm.Cond.and given_1 narrow_1).before args0 about1 = true := by decide +kernel
theorem w_applies : (headSpec (Jvm.Cond.code x code maxLocals ret :: tables_1) room_1).applies x e0.platform about1 = true :=
  (Spec.applies_iff w_frames).mpr ⟨w_running, w_runnable, w_alone, w_named, w_hears, w_ripe, w_room, w_tables⟩
theorem atStart : AtStart classFile x code maxLocals ret World_1 tables_1 room_1 Calls_1 rest_1 Pre_1 launch0 p0 e0 about1 theMethod args0 below0 :=
  ⟨lists_1, trivial, launch0.admits_env _ _ _, launch0.least_env, fairChoices_fair.cas, fairChoices_fair.clock, w_frames, w_args, w_heap, w_applies, trivial, trivial, w_case⟩
end start1
theorem witness_1 : WitnessClaimed_1 := ⟨start1.p0, start1.e0, start1.about1, start1.theMethod, start1.args0, start1.below0, start1.atStart⟩
end Jvm.Pilot.@@N@@
