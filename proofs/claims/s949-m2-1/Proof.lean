import JvmDerived
import JvmDerived.Pilot.@@N@@Statement
import JvmDerived.Pilot.@@N@@Code
set_option linter.unusedVariables false
set_option linter.unusedSimpArgs false
namespace Jvm.Pilot.@@N@@
open Jvm Jvm.ClassFile Sem Op Lib Jvm.Free Jvm.Stand Jvm.LawKit Jvm.RoadKit Bundle Jvm.Pilot.@@N@@.Jvm.D
def own_Go (tb : Tables) (e : Env) (below : List Frame) (P : State → Prop) (A : State) : Prop := ∃ t, Steps tb e below A t ∧ P t
theorem own_go {tb : Tables} {e : Env} {below : List Frame} {P : State → Prop} {A B : State} (h : ∀ t, Steps tb e below B t → Steps tb e below A t) (g : own_Go tb e below P B) : own_Go tb e below P A := by
  obtain ⟨t, h1, h2⟩ := g
  exact ⟨t, h t h1, h2⟩
theorem own_fin {tb : Tables} {e : Env} {below : List Frame} {A : State} {Qq : Outcome → State → Prop} (g : own_Go tb e below (fun t => ∃ o, t.status = .running ∧ Ended t below o ∧ Qq o t) A) : ∃ t o, Steps tb e below A t ∧ t.status = .running ∧ Ended t below o ∧ Qq o t := by
  obtain ⟨t, h1, o, h2, h3, h4⟩ := g
  exact ⟨t, o, h1, h2, h3, h4⟩
theorem own_ret {tb : Tables} {e : Env} {below : List Frame} {P : State → Prop} {A t : State} (h : Steps tb e below A t) (q : P t) : own_Go tb e below P A := ⟨t, h, q⟩
def own_M (l : Launch) (y : MethodName) (bytes : ByteArray) (maxL : Nat) (ret : Option FieldType) (ws : List Jvm.Cond) (rm : Room) (Z : State) (as : Array Value) (h0 : Heap) (Q : Option Value → Heap → List Loc → Prop) : Prop := MetFree l y (head1 (Jvm.Cond.code y bytes maxL ret :: ws) rm) (fun aR UR => aR = as ∧ Z.Warmed39 UR.vm ∧ UR.heap = h0) (fun _ _ _ _ _ => True) (fun _ UR oR UR' => ∃ vR LR, oR = .returned vR ∧ Q vR UR'.heap LR ∧ FrameEnd UR oR UR' LR rm.cells rm.slots)
theorem own_body {l : Launch} {y : MethodName} {bytes : ByteArray} {maxL : Nat} {ret : Option FieldType} {ws : List Jvm.Cond} {rm : Room} {Z : State} {as : Array Value} {h0 : Heap} {Q : Option Value → Heap → List Loc → Prop} {own : String} {f : MethodId → JFrame} (ho : y.cls = own) (hx : plainFor y = true) (ef : ∀ m, entryFrame m as maxL = f m) (k : ∀ (p : Program) (e : Env) (s : State) (m : MethodId) (below : List Frame) (meth : Method) (c : Code) (s₁ : State), BodyLoose p l y (head1 (Jvm.Cond.code y bytes maxL ret :: ws) rm) bytes maxL ret e s m as below meth c s₁ → c.maxLocals = maxL → Z.Warmed39 s.vm → s.heap = h0 → p.tables.exec = Jvm.exec → c.code = bytes → s.vm.findClass own = some m.cls → Stand p l e rm s m as below meth c s₁ [] 0 0 → s₁.heap = h0 → own_Go p.tables e below (fun t => ∃ o, t.status = .running ∧ Ended t below o ∧ ∃ vR LR, o = .returned vR ∧ Q vR t.heap LR ∧ FrameEnd s o t LR rm.cells rm.slots) (s₁.setTop (f m))) : own_M l y bytes maxL ret ws rm Z as h0 Q := by
  subst ho
  refine MetFree.of_bodySF hx hisR ?_
  intro p e s m args below meth c s₁ Bd hml hP hK
  obtain ⟨rfl, hZ, hh⟩ := hP
  exact own_fin (own_go (fun tT kK => castTop (ef m) kK) (k p e s m below meth c s₁ Bd hml hZ hh Bd.exec Bd.bytes (findClass_of_methodNamed Bd.named) (Stand.of_body Bd) (by rw [← hh, Bd.state]; rfl)))
def own_MW (l : Launch) (y : MethodName) (bytes : ByteArray) (maxL : Nat) (ret : Option FieldType) (ws : List Jvm.Cond) (rm : Room) (Z : State) (as : Array Value) (h0 : Heap) (Q : Option Value → Heap → List Loc → Prop) : Prop := MetFree l y (head1 (Jvm.Cond.code y bytes maxL ret :: ws) rm) (fun aR UR => aR = as ∧ Z.Warmed39 UR.vm ∧ UR.heap = h0) (fun _ _ _ _ _ => True) (fun _ UR oR UR' => ∃ vR LR, oR = .returned vR ∧ Q vR UR'.heap LR ∧ ReturnedEndW UR oR UR' LR rm.cells rm.slots)
theorem own_bodyW {l : Launch} {y : MethodName} {bytes : ByteArray} {maxL : Nat} {ret : Option FieldType} {ws : List Jvm.Cond} {rm : Room} {Z : State} {as : Array Value} {h0 : Heap} {Q : Option Value → Heap → List Loc → Prop} {own : String} {f : MethodId → JFrame} (ho : y.cls = own) (hx : plainFor y = true) (ef : ∀ m, entryFrame m as maxL = f m) (k : ∀ (p : Program) (e : Env) (s : State) (m : MethodId) (below : List Frame) (meth : Method) (c : Code) (s₁ : State), BodyLoose p l y (head1 (Jvm.Cond.code y bytes maxL ret :: ws) rm) bytes maxL ret e s m as below meth c s₁ → c.maxLocals = maxL → Z.Warmed39 s.vm → s.heap = h0 → p.tables.exec = Jvm.exec → c.code = bytes → s.vm.findClass own = some m.cls → Stand p l e rm s m as below meth c s₁ [] 0 0 → s₁.heap = h0 → s.Since s.vm h0.size → own_Go p.tables e below (fun t => ∃ o, t.status = .running ∧ Ended t below o ∧ ∃ vR LR, o = .returned vR ∧ Q vR t.heap LR ∧ ReturnedEndW s o t LR rm.cells rm.slots) (s₁.setTop (f m))) : own_MW l y bytes maxL ret ws rm Z as h0 Q := by
  subst ho
  refine MetFree.of_bodySF hx hisR ?_
  intro p e s m args below meth c s₁ Bd hml hP hK
  obtain ⟨rfl, hZ, hh⟩ := hP
  exact own_fin (own_go (fun tT kK => castTop (ef m) kK) (k p e s m below meth c s₁ Bd hml hZ hh Bd.exec Bd.bytes (findClass_of_methodNamed Bd.named) (Stand.of_body Bd) (by rw [← hh, Bd.state]; rfl) ((State.WarmedH.refl s).since _)))
theorem own_sh {tb : Tables} {e : Env} {below : List Frame} {P : State → Prop} {T : State} {m : MethodId} (pc : Nat) (Ls : Array Slot) (st : List Value) (g : own_Go tb e below P (T.setTop (mkF m pc Ls st))) : own_Go tb e below P (T.setTop (mkF m pc Ls st)) := g
theorem own_w {Z : State} {a0 : Array Value} {tab : List Jvm.Cond} (hw : ∀ d ∈ tab, d.before a0 Z = true) (i : Nat) {d : Jvm.Cond} (h : tab[i]? = some d) : d.before a0 Z = true := hw d (List.mem_of_getElem? h)
theorem own_iloadN {tb : Tables} [Ours tb] {e : Env} {below : List Frame} {T : State} {m : MethodId} {c : Code} {P : State → Prop} {pc : Nat} {Ls : Array Slot} {st : List Value} {bc : ByteArray} (h : At T m c below) (hx : tb.exec = Jvm.exec) (hby : c.code = bc) {k : Fin 4} {v : Int32} (hd : decode bc pc = .ok (.iload_n k, 1)) (hl : Ls[k.val]? = some (.val (.int v))) (g : own_Go tb e below P (T.setTop (mkF m (pc + 1) Ls ((.int v) :: st)))) : own_Go tb e below P (T.setTop (mkF m pc Ls (st))) := own_go (fun t k => XS.iloadN h hx rfl (hb hby hd) hl k) g
theorem own_lloadN {tb : Tables} [Ours tb] {e : Env} {below : List Frame} {T : State} {m : MethodId} {c : Code} {P : State → Prop} {pc : Nat} {Ls : Array Slot} {st : List Value} {bc : ByteArray} (h : At T m c below) (hx : tb.exec = Jvm.exec) (hby : c.code = bc) {k : Fin 4} {v : Int64} (hd : decode bc pc = .ok (.lload_n k, 1)) (hl : Ls[k.val]? = some (.val (.long v))) (g : own_Go tb e below P (T.setTop (mkF m (pc + 1) Ls ((.long v) :: st)))) : own_Go tb e below P (T.setTop (mkF m pc Ls (st))) := own_go (fun t k => XS.lloadN h hx rfl (hb hby hd) hl k) g
theorem own_iload {tb : Tables} [Ours tb] {e : Env} {below : List Frame} {T : State} {m : MethodId} {c : Code} {P : State → Prop} {pc : Nat} {Ls : Array Slot} {st : List Value} {bc : ByteArray} (h : At T m c below) (hx : tb.exec = Jvm.exec) (hby : c.code = bc) {k : Nat} {v : Int32} (hd : decode bc pc = .ok (.iload k, 2)) (hl : Ls[k]? = some (.val (.int v))) (g : own_Go tb e below P (T.setTop (mkF m (pc + 2) Ls ((.int v) :: st)))) : own_Go tb e below P (T.setTop (mkF m pc Ls (st))) := own_go (fun t k => XS.iload h hx rfl (hb hby hd) hl k) g
theorem own_lload {tb : Tables} [Ours tb] {e : Env} {below : List Frame} {T : State} {m : MethodId} {c : Code} {P : State → Prop} {pc : Nat} {Ls : Array Slot} {st : List Value} {bc : ByteArray} (h : At T m c below) (hx : tb.exec = Jvm.exec) (hby : c.code = bc) {k : Nat} {v : Int64} (hd : decode bc pc = .ok (.lload k, 2)) (hl : Ls[k]? = some (.val (.long v))) (g : own_Go tb e below P (T.setTop (mkF m (pc + 2) Ls ((.long v) :: st)))) : own_Go tb e below P (T.setTop (mkF m pc Ls (st))) := own_go (fun t k => XS.lload h hx rfl (hb hby hd) hl k) g
theorem own_aloadN {tb : Tables} [Ours tb] {e : Env} {below : List Frame} {T : State} {m : MethodId} {c : Code} {P : State → Prop} {pc : Nat} {Ls : Array Slot} {st : List Value} {bc : ByteArray} (h : At T m c below) (hx : tb.exec = Jvm.exec) (hby : c.code = bc) {k : Fin 4} {v : Value} (hd : decode bc pc = .ok (.aload_n k, 1)) (hl : Ls[k.val]? = some (.val v)) (hv : v.isRef = true) (g : own_Go tb e below P (T.setTop (mkF m (pc + 1) Ls (v :: st)))) : own_Go tb e below P (T.setTop (mkF m pc Ls (st))) := own_go (fun t k => XS.aloadN h hx rfl (hb hby hd) hl hv k) g
theorem own_aload {tb : Tables} [Ours tb] {e : Env} {below : List Frame} {T : State} {m : MethodId} {c : Code} {P : State → Prop} {pc : Nat} {Ls : Array Slot} {st : List Value} {bc : ByteArray} (h : At T m c below) (hx : tb.exec = Jvm.exec) (hby : c.code = bc) {k : Nat} {v : Value} (hd : decode bc pc = .ok (.aload k, 2)) (hl : Ls[k]? = some (.val v)) (hv : v.isRef = true) (g : own_Go tb e below P (T.setTop (mkF m (pc + 2) Ls (v :: st)))) : own_Go tb e below P (T.setTop (mkF m pc Ls (st))) := own_go (fun t k => XS.aload h hx rfl (hb hby hd) hl hv k) g
theorem own_istoreN {tb : Tables} [Ours tb] {e : Env} {below : List Frame} {T : State} {m : MethodId} {c : Code} {P : State → Prop} {pc : Nat} {Ls : Array Slot} {st : List Value} {bc : ByteArray} (h : At T m c below) (hx : tb.exec = Jvm.exec) (hby : c.code = bc) {k : Fin 4} {x : Int32} {l' : Array Slot} (hd : decode bc pc = .ok (.istore_n k, 1)) (hl : storeLocals Ls k.val (.int x) = some l') (g : own_Go tb e below P (T.setTop (mkF m (pc + 1) l' (st)))) : own_Go tb e below P (T.setTop (mkF m pc Ls ((.int x) :: st))) := own_go (fun t k => XS.istoreN h hx rfl (hb hby hd) rfl hl k) g
theorem own_lstore {tb : Tables} [Ours tb] {e : Env} {below : List Frame} {T : State} {m : MethodId} {c : Code} {P : State → Prop} {pc : Nat} {Ls : Array Slot} {st : List Value} {bc : ByteArray} (h : At T m c below) (hx : tb.exec = Jvm.exec) (hby : c.code = bc) {k : Nat} {x : Int64} {l' : Array Slot} (hd : decode bc pc = .ok (.lstore k, 2)) (hl : storeLocals Ls k (.long x) = some l') (g : own_Go tb e below P (T.setTop (mkF m (pc + 2) l' (st)))) : own_Go tb e below P (T.setTop (mkF m pc Ls ((.long x) :: st))) := own_go (fun t k => XS.lstore h hx rfl (hb hby hd) rfl hl k) g
theorem own_astore {tb : Tables} [Ours tb] {e : Env} {below : List Frame} {T : State} {m : MethodId} {c : Code} {P : State → Prop} {pc : Nat} {Ls : Array Slot} {st : List Value} {bc : ByteArray} (h : At T m c below) (hx : tb.exec = Jvm.exec) (hby : c.code = bc) {k : Nat} {x : Value} {l' : Array Slot} (hd : decode bc pc = .ok (.astore k, 2)) (hv : x.isRef = true) (hl : storeLocals Ls k x = some l') (g : own_Go tb e below P (T.setTop (mkF m (pc + 2) l' (st)))) : own_Go tb e below P (T.setTop (mkF m pc Ls (x :: st))) := own_go (fun t k => XS.astore h hx rfl (hb hby hd) rfl hv hl k) g
theorem own_iconst {tb : Tables} [Ours tb] {e : Env} {below : List Frame} {T : State} {m : MethodId} {c : Code} {P : State → Prop} {pc : Nat} {Ls : Array Slot} {st : List Value} {bc : ByteArray} (h : At T m c below) (hx : tb.exec = Jvm.exec) (hby : c.code = bc) {i : Int} {v : Int32} (hd : decode bc pc = .ok (.iconst i, 1)) (hv : Int32.ofInt i = v) (g : own_Go tb e below P (T.setTop (mkF m (pc + 1) Ls ((.int v) :: st)))) : own_Go tb e below P (T.setTop (mkF m pc Ls st)) := by
  subst hv
  exact own_go (fun t k => XS.iconst h hx rfl (hb hby hd) k) g
theorem own_bipush {tb : Tables} [Ours tb] {e : Env} {below : List Frame} {T : State} {m : MethodId} {c : Code} {P : State → Prop} {pc : Nat} {Ls : Array Slot} {st : List Value} {bc : ByteArray} (h : At T m c below) (hx : tb.exec = Jvm.exec) (hby : c.code = bc) {i : Int} {v : Int32} (hd : decode bc pc = .ok (.bipush i, 2)) (hv : (Int8.ofInt i).toInt32 = v) (g : own_Go tb e below P (T.setTop (mkF m (pc + 2) Ls ((.int v) :: st)))) : own_Go tb e below P (T.setTop (mkF m pc Ls st)) := by
  subst hv
  exact own_go (fun t k => XS.bipush h hx rfl (hb hby hd) k) g
theorem own_lconst {tb : Tables} [Ours tb] {e : Env} {below : List Frame} {T : State} {m : MethodId} {c : Code} {P : State → Prop} {pc : Nat} {Ls : Array Slot} {st : List Value} {bc : ByteArray} (h : At T m c below) (hx : tb.exec = Jvm.exec) (hby : c.code = bc) {i : Fin 2} {v : Int64} (hd : decode bc pc = .ok (.lconst i, 1)) (hv : Int64.ofNat i = v) (g : own_Go tb e below P (T.setTop (mkF m (pc + 1) Ls ((.long v) :: st)))) : own_Go tb e below P (T.setTop (mkF m pc Ls st)) := by
  subst hv
  exact own_go (fun t k => XS.lconst h hx rfl (hb hby hd) k) g
theorem own_aconstNull {tb : Tables} [Ours tb] {e : Env} {below : List Frame} {T : State} {m : MethodId} {c : Code} {P : State → Prop} {pc : Nat} {Ls : Array Slot} {st : List Value} {bc : ByteArray} (h : At T m c below) (hx : tb.exec = Jvm.exec) (hby : c.code = bc)  (hd : decode bc pc = .ok (.aconst_null, 1)) (g : own_Go tb e below P (T.setTop (mkF m (pc + 1) Ls (.null :: st)))) : own_Go tb e below P (T.setTop (mkF m pc Ls (st))) := own_go (fun t k => XS.aconstNull h hx rfl (hb hby hd)  k) g
theorem own_iand {tb : Tables} [Ours tb] {e : Env} {below : List Frame} {T : State} {m : MethodId} {c : Code} {P : State → Prop} {pc : Nat} {Ls : Array Slot} {st : List Value} {bc : ByteArray} (h : At T m c below) (hx : tb.exec = Jvm.exec) (hby : c.code = bc) {x y v : Int32} (hd : decode bc pc = .ok (.iand, 1)) (hv : (x &&& y) = v) (g : own_Go tb e below P (T.setTop (mkF m (pc + 1) Ls ((.int v) :: st)))) : own_Go tb e below P (T.setTop (mkF m pc Ls ((.int y) :: (.int x) :: st))) := by
  subst hv
  exact own_go (fun t k => XS.iand h hx rfl (hb hby hd) rfl k) g
theorem own_ladd {tb : Tables} [Ours tb] {e : Env} {below : List Frame} {T : State} {m : MethodId} {c : Code} {P : State → Prop} {pc : Nat} {Ls : Array Slot} {st : List Value} {bc : ByteArray} (h : At T m c below) (hx : tb.exec = Jvm.exec) (hby : c.code = bc) {x y v : Int64} (hd : decode bc pc = .ok (.ladd, 1)) (hv : (x + y) = v) (g : own_Go tb e below P (T.setTop (mkF m (pc + 1) Ls ((.long v) :: st)))) : own_Go tb e below P (T.setTop (mkF m pc Ls ((.long y) :: (.long x) :: st))) := by
  subst hv
  exact own_go (fun t k => XS.ladd h hx rfl (hb hby hd) rfl k) g
theorem own_lmul {tb : Tables} [Ours tb] {e : Env} {below : List Frame} {T : State} {m : MethodId} {c : Code} {P : State → Prop} {pc : Nat} {Ls : Array Slot} {st : List Value} {bc : ByteArray} (h : At T m c below) (hx : tb.exec = Jvm.exec) (hby : c.code = bc) {x y v : Int64} (hd : decode bc pc = .ok (.lmul, 1)) (hv : (x * y) = v) (g : own_Go tb e below P (T.setTop (mkF m (pc + 1) Ls ((.long v) :: st)))) : own_Go tb e below P (T.setTop (mkF m pc Ls ((.long y) :: (.long x) :: st))) := by
  subst hv
  exact own_go (fun t k => XS.lmul h hx rfl (hb hby hd) rfl k) g
theorem own_land {tb : Tables} [Ours tb] {e : Env} {below : List Frame} {T : State} {m : MethodId} {c : Code} {P : State → Prop} {pc : Nat} {Ls : Array Slot} {st : List Value} {bc : ByteArray} (h : At T m c below) (hx : tb.exec = Jvm.exec) (hby : c.code = bc) {x y v : Int64} (hd : decode bc pc = .ok (.land, 1)) (hv : (x &&& y) = v) (g : own_Go tb e below P (T.setTop (mkF m (pc + 1) Ls ((.long v) :: st)))) : own_Go tb e below P (T.setTop (mkF m pc Ls ((.long y) :: (.long x) :: st))) := by
  subst hv
  exact own_go (fun t k => XS.land h hx rfl (hb hby hd) rfl k) g
theorem own_lor {tb : Tables} [Ours tb] {e : Env} {below : List Frame} {T : State} {m : MethodId} {c : Code} {P : State → Prop} {pc : Nat} {Ls : Array Slot} {st : List Value} {bc : ByteArray} (h : At T m c below) (hx : tb.exec = Jvm.exec) (hby : c.code = bc) {x y v : Int64} (hd : decode bc pc = .ok (.lor, 1)) (hv : (x ||| y) = v) (g : own_Go tb e below P (T.setTop (mkF m (pc + 1) Ls ((.long v) :: st)))) : own_Go tb e below P (T.setTop (mkF m pc Ls ((.long y) :: (.long x) :: st))) := by
  subst hv
  exact own_go (fun t k => XS.lor h hx rfl (hb hby hd) rfl k) g
theorem own_lushr {tb : Tables} [Ours tb] {e : Env} {below : List Frame} {T : State} {m : MethodId} {c : Code} {P : State → Prop} {pc : Nat} {Ls : Array Slot} {st : List Value} {bc : ByteArray} (h : At T m c below) (hx : tb.exec = Jvm.exec) (hby : c.code = bc) {x v : Int64} {y : Int32} (hd : decode bc pc = .ok (.lushr, 1)) (hv : ((x.toUInt64 >>> (y &&& 0x3f).toInt64.toUInt64).toInt64) = v) (g : own_Go tb e below P (T.setTop (mkF m (pc + 1) Ls ((.long v) :: st)))) : own_Go tb e below P (T.setTop (mkF m pc Ls ((.int y) :: (.long x) :: st))) := by
  subst hv
  exact own_go (fun t k => XS.lushr h hx rfl (hb hby hd) rfl k) g
theorem own_lcmp {tb : Tables} [Ours tb] {e : Env} {below : List Frame} {T : State} {m : MethodId} {c : Code} {P : State → Prop} {pc : Nat} {Ls : Array Slot} {st : List Value} {bc : ByteArray} (h : At T m c below) (hx : tb.exec = Jvm.exec) (hby : c.code = bc) {x y : Int64} (hd : decode bc pc = .ok (.lcmp, 1)) (g : own_Go tb e below P (T.setTop (mkF m (pc + 1) Ls ((.int (lcmpW x y)) :: st)))) : own_Go tb e below P (T.setTop (mkF m pc Ls ((.long y) :: (.long x) :: st))) := own_go (fun t k => XS.lcmp h hx rfl (hb hby hd) rfl k) g
theorem own_ldiv {tb : Tables} [Ours tb] {e : Env} {below : List Frame} {T : State} {m : MethodId} {c : Code} {P : State → Prop} {pc : Nat} {Ls : Array Slot} {st : List Value} {bc : ByteArray} (h : At T m c below) (hx : tb.exec = Jvm.exec) (hby : c.code = bc) {x y v : Int64} (hd : decode bc pc = .ok (.ldiv, 1)) (hy : y ≠ 0) (hv : (x / y) = v) (g : own_Go tb e below P (T.setTop (mkF m (pc + 1) Ls ((.long v) :: st)))) : own_Go tb e below P (T.setTop (mkF m pc Ls ((.long y) :: (.long x) :: st))) := by
  subst hv
  exact own_go (fun t k => XS.ldiv h hx rfl (hb hby hd) rfl hy k) g
theorem own_lrem {tb : Tables} [Ours tb] {e : Env} {below : List Frame} {T : State} {m : MethodId} {c : Code} {P : State → Prop} {pc : Nat} {Ls : Array Slot} {st : List Value} {bc : ByteArray} (h : At T m c below) (hx : tb.exec = Jvm.exec) (hby : c.code = bc) {x y v : Int64} (hd : decode bc pc = .ok (.lrem, 1)) (hy : y ≠ 0) (hv : (x % y) = v) (g : own_Go tb e below P (T.setTop (mkF m (pc + 1) Ls ((.long v) :: st)))) : own_Go tb e below P (T.setTop (mkF m pc Ls ((.long y) :: (.long x) :: st))) := by
  subst hv
  refine own_go (fun t k => XS.lrem h hx rfl (hb hby hd) rfl hy ?_) g
  rw [lrem_mod x y]; exact k
theorem own_dup {tb : Tables} [Ours tb] {e : Env} {below : List Frame} {T : State} {m : MethodId} {c : Code} {P : State → Prop} {pc : Nat} {Ls : Array Slot} {st : List Value} {bc : ByteArray} (h : At T m c below) (hx : tb.exec = Jvm.exec) (hby : c.code = bc) {x : Value} (hd : decode bc pc = .ok (.dup, 1)) (hc : x.category = 1) (g : own_Go tb e below P (T.setTop (mkF m (pc + 1) Ls (x :: x :: st)))) : own_Go tb e below P (T.setTop (mkF m pc Ls (x :: st))) := own_go (fun t k => XS.dup h hx rfl (hb hby hd) rfl hc k) g
theorem own_pop {tb : Tables} [Ours tb] {e : Env} {below : List Frame} {T : State} {m : MethodId} {c : Code} {P : State → Prop} {pc : Nat} {Ls : Array Slot} {st : List Value} {bc : ByteArray} (h : At T m c below) (hx : tb.exec = Jvm.exec) (hby : c.code = bc) {x : Value} (hd : decode bc pc = .ok (.pop, 1)) (hc : x.category = 1) (g : own_Go tb e below P (T.setTop (mkF m (pc + 1) Ls (st)))) : own_Go tb e below P (T.setTop (mkF m pc Ls (x :: st))) := own_go (fun t k => XS.pop h hx rfl (hb hby hd) rfl hc k) g
theorem own_goto {tb : Tables} [Ours tb] {e : Env} {below : List Frame} {T : State} {m : MethodId} {c : Code} {P : State → Prop} {pc : Nat} {Ls : Array Slot} {st : List Value} {bc : ByteArray} (h : At T m c below) (hx : tb.exec = Jvm.exec) (hby : c.code = bc) {o : Int} {pc' : Nat} (hd : decode bc pc = .ok (.goto o, 3)) (ho : 0 ≤ (pc : Int) + o) (hp : ((pc : Int) + o).toNat = pc') (g : own_Go tb e below P (T.setTop (mkF m pc' Ls st))) : own_Go tb e below P (T.setTop (mkF m pc Ls st)) := own_go (fun t k => XS.goto h hx rfl (pc0 := pc) rfl (hb hby hd) ho hp k) g
theorem own_ifYes {tb : Tables} [Ours tb] {e : Env} {below : List Frame} {T : State} {m : MethodId} {c : Code} {P : State → Prop} {pc : Nat} {Ls : Array Slot} {st : List Value} {bc : ByteArray} (h : At T m c below) (hx : tb.exec = Jvm.exec) (hby : c.code = bc) {cd : ClassFile.Cond} {o : Int} {pc' : Nat} {x : Int32} (hd : decode bc pc = .ok (.ifCond cd o, 3)) (hc : ifCond.holds cd x = true) (ho : 0 ≤ (pc : Int) + o) (hp : ((pc : Int) + o).toNat = pc') (g : own_Go tb e below P (T.setTop (mkF m pc' Ls st))) : own_Go tb e below P (T.setTop (mkF m pc Ls ((.int x) :: st))) := own_go (fun t k => XS.ifYes h hx rfl (pc0 := pc) rfl (hb hby hd) rfl hc ho hp k) g
theorem own_ifNo {tb : Tables} [Ours tb] {e : Env} {below : List Frame} {T : State} {m : MethodId} {c : Code} {P : State → Prop} {pc : Nat} {Ls : Array Slot} {st : List Value} {bc : ByteArray} (h : At T m c below) (hx : tb.exec = Jvm.exec) (hby : c.code = bc) {cd : ClassFile.Cond} {o : Int} {x : Int32} (hd : decode bc pc = .ok (.ifCond cd o, 3)) (hc : ifCond.holds cd x = false) (g : own_Go tb e below P (T.setTop (mkF m (pc + 3) Ls st))) : own_Go tb e below P (T.setTop (mkF m pc Ls ((.int x) :: st))) := own_go (fun t k => XS.ifNo h hx rfl (hb hby hd) rfl hc k) g
theorem own_icmpYes {tb : Tables} [Ours tb] {e : Env} {below : List Frame} {T : State} {m : MethodId} {c : Code} {P : State → Prop} {pc : Nat} {Ls : Array Slot} {st : List Value} {bc : ByteArray} (h : At T m c below) (hx : tb.exec = Jvm.exec) (hby : c.code = bc) {cd : ClassFile.Cond} {o : Int} {pc' : Nat} {x y : Int32} (hd : decode bc pc = .ok (.if_icmp cd o, 3)) (hc : if_icmp.holds cd x y = true) (ho : 0 ≤ (pc : Int) + o) (hp : ((pc : Int) + o).toNat = pc') (g : own_Go tb e below P (T.setTop (mkF m pc' Ls st))) : own_Go tb e below P (T.setTop (mkF m pc Ls ((.int y) :: (.int x) :: st))) := own_go (fun t k => XS.icmpYes h hx rfl (pc0 := pc) rfl (hb hby hd) rfl hc ho hp k) g
theorem own_icmpNo {tb : Tables} [Ours tb] {e : Env} {below : List Frame} {T : State} {m : MethodId} {c : Code} {P : State → Prop} {pc : Nat} {Ls : Array Slot} {st : List Value} {bc : ByteArray} (h : At T m c below) (hx : tb.exec = Jvm.exec) (hby : c.code = bc) {cd : ClassFile.Cond} {o : Int} {x y : Int32} (hd : decode bc pc = .ok (.if_icmp cd o, 3)) (hc : if_icmp.holds cd x y = false) (g : own_Go tb e below P (T.setTop (mkF m (pc + 3) Ls st))) : own_Go tb e below P (T.setTop (mkF m pc Ls ((.int y) :: (.int x) :: st))) := own_go (fun t k => XS.icmpNo h hx rfl (hb hby hd) rfl hc k) g
theorem own_ifnullYes {tb : Tables} [Ours tb] {e : Env} {below : List Frame} {T : State} {m : MethodId} {c : Code} {P : State → Prop} {pc : Nat} {Ls : Array Slot} {st : List Value} {bc : ByteArray} (h : At T m c below) (hx : tb.exec = Jvm.exec) (hby : c.code = bc) {o : Int} {pc' : Nat} (hd : decode bc pc = .ok (.ifnull o, 3)) (ho : 0 ≤ (pc : Int) + o) (hp : ((pc : Int) + o).toNat = pc') (g : own_Go tb e below P (T.setTop (mkF m pc' Ls st))) : own_Go tb e below P (T.setTop (mkF m pc Ls (.null :: st))) := own_go (fun t k => XS.ifnullYes h hx rfl (pc0 := pc) rfl (hb hby hd) rfl ho hp k) g
theorem own_ifnonnullYes {tb : Tables} [Ours tb] {e : Env} {below : List Frame} {T : State} {m : MethodId} {c : Code} {P : State → Prop} {pc : Nat} {Ls : Array Slot} {st : List Value} {bc : ByteArray} (h : At T m c below) (hx : tb.exec = Jvm.exec) (hby : c.code = bc) {o : Int} {pc' : Nat} {b : Addr} (hd : decode bc pc = .ok (.ifnonnull o, 3)) (ho : 0 ≤ (pc : Int) + o) (hp : ((pc : Int) + o).toNat = pc') (g : own_Go tb e below P (T.setTop (mkF m pc' Ls st))) : own_Go tb e below P (T.setTop (mkF m pc Ls ((.ref b) :: st))) := own_go (fun t k => XS.ifnonnullYes h hx rfl (pc0 := pc) rfl (hb hby hd) rfl ho hp k) g
section OwnGo
variable {p : Program} {l : Launch} {e : Env} {R : Room} {s : State} {m : MethodId} {args : Array Value} {below : List Frame} {meth : Method} {c : Code} {T : State} {locs : List Loc} {cells slots : Nat} {Z : State} {a0 : Array Value} {h : Heap} {P : State → Prop} {pc : Nat} {Ls : Array Slot} {st : List Value} {bc : ByteArray} {n0 : Nat}
theorem own_getF (X : Stand p l e R s m args below meth c T locs cells slots) (hx : p.tables.exec = Jvm.exec) (hZ : Z.Warmed39 s.vm) {own R0 O n d host : String} {index : Nat} (hown : s.vm.findClass own = some m.cls) (w : (Cond.fieldLink own index R0 n d).before a0 Z = true ∨ (Cond.fieldLinkNest own index R0 n d host).before a0 Z = true) (via : Via Z R0 O n d) (eT : T.heap = h) {a : Addr} {v : Value} (F : Fld Z h a O n d v) (hby : c.code = bc) (hd : decode bc pc = .ok (.getfield index, 3)) (k : ∀ T', Stand p l e R s m args below meth c T' locs cells slots → T'.heap = h → own_Go p.tables e below P (T'.setTop (mkF m (pc + 3) Ls (v :: st)))) : own_Go p.tables e below P (T.setTop (mkF m pc Ls ((.ref a) :: st))) := by
  obtain ⟨T', X', e', sp⟩ := getF X hx hZ hown w via eT F (g := mkF m pc Ls ((.ref a) :: st)) rfl rfl (hb hby hd)
  exact own_go sp (k T' X' e')
theorem own_getS (X : Stand p l e R s m args below meth c T locs cells slots) (hx : p.tables.exec = Jvm.exec) (hZ : Z.Warmed39 s.vm) {own R0 O n d host : String} {index : Nat} (hown : s.vm.findClass own = some m.cls) (w : (Cond.fieldLink own index R0 n d).before a0 Z = true ∨ (Cond.fieldLinkNest own index R0 n d host).before a0 Z = true) (via : Via Z R0 O n d) (eT : T.heap = h) {v : Value} (F : Sta Z h O n d v) (hby : c.code = bc) (hd : decode bc pc = .ok (.getstatic index, 3)) (k : ∀ T', Stand p l e R s m args below meth c T' locs cells slots → T'.heap = h → own_Go p.tables e below P (T'.setTop (mkF m (pc + 3) Ls (v :: st)))) : own_Go p.tables e below P (T.setTop (mkF m pc Ls st)) := by
  obtain ⟨T', X', e', sp⟩ := getS2 X hx hZ hown w via eT F (g := mkF m pc Ls st) rfl (hb hby hd)
  exact own_go sp (k T' X' e')
theorem own_putF (X : Stand p l e R s m args below meth c T locs cells slots) (hx : p.tables.exec = Jvm.exec) (hZ : Z.Warmed39 s.vm) {C : String} {kk : Nat} {ty : FieldType} {own R0 O n d host : String} {index : Nat} (hown : s.vm.findClass own = some m.cls) (w : (Cond.fieldLink own index R0 n d).before a0 Z = true ∨ (Cond.fieldLinkNest own index R0 n d host).before a0 Z = true) (via : Via Z R0 O n d) (eT : T.heap = h) {a : Addr} {v old : Value} (F : Fld Z h a O n d old) (E : Exa Z h a C) (L : (Cond.lays C O n d).before a0 Z = true ∨ ((Cond.laysFinal C O n d).before a0 Z = true ∧ own = O ∧ meth.name = "<init>")) (wi : (Cond.instantiable C kk).before a0 Z = true) (hty : parseFieldDescriptor d = some ty) (hn : narrow ty v = v) (hf : fits ty v = true) (hby : c.code = bc) (hd : decode bc pc = .ok (.putfield index, 3)) (N : Fr n0 locs) (ge : n0 ≤ a) (k : ∀ T' h' locs', Stand p l e R s m args below meth c T' locs' cells slots → T'.heap = h' → Fr n0 locs' → Wr h h' a (Jvm.RoadKit.slotOf Z O n d) v → Fld Z h' a O n d v → h.size ≤ h'.size → own_Go p.tables e below P (T'.setTop (mkF m (pc + 3) Ls st))) : own_Go p.tables e below P (T.setTop (mkF m pc Ls (v :: (.ref a) :: st))) := by
  obtain ⟨T', h', X', e', W, sp⟩ := putF X hx hZ hown w via eT F E L wi hty hn hf (g := mkF m pc Ls (v :: (.ref a) :: st)) rfl rfl (hb hby hd)
  exact own_go sp (k T' h' _ X' e' (Fr.snoc X' N ge) W (F.same W) (Keep.of_wr W).1)
theorem own_newO (X : Stand p l e R s m args below meth c T locs cells slots) (hx : p.tables.exec = Jvm.exec) (hZ : Z.Warmed39 s.vm) {own C : String} {index n : Nat} (hown : s.vm.findClass own = some m.cls) (w : (Cond.classLink own index C).before a0 Z = true) (wi : (Cond.instantiable C n).before a0 Z = true) (wz : (Cond.initialized C).before a0 Z = true) (eT : T.heap = h) (hby : c.code = bc) (hd : decode bc pc = .ok (.new index, 3)) (hc : cells + 1 ≤ R.cells) (hl : slots + n ≤ R.slots) (k : ∀ T' h' b, Stand p l e R s m args below meth c T' locs (cells + 1) (slots + n) → T'.heap = h' → Ext h h' → b = h.size → Exa Z h' b C → (∀ {O nm d : String} {ty : FieldType}, Laid Z a0 C O nm d → parseFieldDescriptor d = some ty → Fld Z h' b O nm d (defaultValue ty)) → b < h'.size → own_Go p.tables e below P (T'.setTop (mkF m (pc + 3) Ls ((.ref b) :: st)))) : own_Go p.tables e below P (T.setTop (mkF m pc Ls st)) := by
  obtain ⟨T', h', X', e', E, A, D, -, sp⟩ := newO X hx hZ hown w wi wz eT (g := mkF m pc Ls st) rfl (hb hby hd) hc hl
  exact own_go sp (k T' h' _ X' e' E rfl A D A.lt)
theorem own_ldc2Long (X : Stand p l e R s m args below meth c T locs cells slots) (hx : p.tables.exec = Jvm.exec) (hZ : Z.Warmed39 s.vm) {own : String} {index : Nat} {v : Int64} (hown : s.vm.findClass own = some m.cls) (w : (Cond.constantLong own index v).before a0 Z = true) (hby : c.code = bc) (hd : decode bc pc = .ok (.ldc2_w index, 3)) (k : own_Go p.tables e below P (T.setTop (mkF m (pc + 3) Ls ((.long v) :: st)))) : own_Go p.tables e below P (T.setTop (mkF m pc Ls st)) := by
  exact own_go (X.ldc2Long hx hown (mvT hZ w) (g := mkF m pc Ls st) rfl (hb hby hd)) k
theorem own_initO (X : Stand p l e R s m args below meth c T locs cells slots) (hx : p.tables.exec = Jvm.exec) (hZ : Z.Warmed39 s.vm) {own : String} {idx : Nat} (hown : s.vm.findClass own = some m.cls) (w1 : (Cond.methodLink own idx Lib.objectInit).before a0 Z = true) (w2 : (Cond.instanceMethod Lib.objectInit).before a0 Z = true) (w3 : (Cond.code Lib.objectInit ⟨#[0xb1]⟩ 1 none).before a0 Z = true) (eT : T.heap = h) (hsize : Ls.size = c.maxLocals) {a : Addr} (hby : c.code = bc) (hd : decode bc pc = .ok (.invokespecial idx, 3)) (hf : 1 ≤ R.frames) (W : Nat) (hW : 2 * 0 + (st.map fun v => v.category).sum ≤ W) (hl : W + 12 ≤ R.locals) (k : ∀ T', Stand p l e R s m args below meth c T' locs cells slots → T'.heap = h → own_Go p.tables e below P (T'.setTop (mkF m (pc + 3) Ls st))) : own_Go p.tables e below P (T.setTop (mkF m pc Ls ((.ref a) :: st))) := by
  obtain ⟨T', X', e', sp⟩ := initO X hx hZ hown w1 w2 w3 eT (g := mkF m pc Ls ((.ref a) :: st)) rfl hsize rfl (hb hby hd) hf (W := W) hW hl
  exact own_go sp (k T' X' e')
theorem own_callS (X : Stand p l e R s m args below meth c T locs cells slots) (hx : p.tables.exec = Jvm.exec) (hZ : Z.Warmed39 s.vm) {own : String} {index : Nat} {y : MethodName} {bytes : ByteArray} {maxL : Nat} {ret : Option FieldType} {rm : Room} {Qc : Option Value → Heap → List Loc → Prop} {as' : Array Value} (hown : s.vm.findClass own = some m.cls) (w1 : (Cond.methodLink own index y).before a0 Z = true) (w2 : (Cond.static y).before a0 Z = true) (w3 : (Cond.initialized y.cls).before a0 Z = true) (w4 : (Cond.code y bytes maxL ret).before a0 Z = true) (hy : y.cls ≠ "java/lang/invoke/MethodHandle" ∧ y.cls ≠ "java/lang/invoke/VarHandle") (hM : MetFree l y (head1 [Cond.code y bytes maxL ret] rm) (fun a U => a = as' ∧ Z.Warmed39 U.vm ∧ U.heap = h) (fun _ _ _ _ _ => True) (fun _ U o U' => ∃ v L, o = .returned v ∧ Qc v U'.heap L ∧ FrameEnd U o U' L rm.cells rm.slots)) (W : Nat) (hW : 2 * 0 + (st.map fun v => v.category).sum ≤ W) (hf : rm.frames + 1 ≤ R.frames) (hl : W + (maxL + 11) + rm.locals ≤ R.locals) (hsize : Ls.size = c.maxLocals) {argsL stk : List Value} (hlen : ∀ sig, parseMethodDescriptor y.desc = some sig → argsL.length = sig.parameters.length) (hstk : stk = argsL.reverse ++ st) (has : argsL.toArray = as') (hc : cells + rm.cells ≤ R.cells) (hs : slots + rm.slots ≤ R.slots) (eT : T.heap = h) (hby : c.code = bc) (hd : decode bc pc = .ok (.invokestatic index, 3)) (k : ∀ T' v L, Stand p l e R s m args below meth c T' (locs ++ L) (cells + rm.cells) (slots + rm.slots) → Qc v T'.heap L → own_Go p.tables e below P (T'.setTop (mkF m (pc + 3) Ls (v.toList ++ st)))) : own_Go p.tables e below P (T.setTop (mkF m pc Ls stk)) := by
  subst hstk
  obtain ⟨v, _, ⟨T', L', k', n'⟩, -, X', ⟨L, hQ, hl', hy', hz'⟩, sp⟩ := Jvm.LawKit.callS X hx hown (mvT hZ w1) (mvT hZ w2) (mvT hZ w3) (mvT hZ w4) hy (backOf (W := W) hM hZ w4 w3 hf hl) (g := mkF m pc Ls (argsL.reverse ++ st)) rfl hsize (argsL := argsL) (rest := st) hlen rfl hW (hb hby hd) (fun _ _ => ⟨has, eT, hc, hs⟩)
  dsimp only [Pt.U, Pt.locs, Pt.cells, Pt.slots] at X' hl' hy' hz' sp hQ
  subst hl' hy' hz'
  exact own_go sp (k T' v L X' hQ)
theorem own_special (X : Stand p l e R s m args below meth c T locs cells slots) (hx : p.tables.exec = Jvm.exec) (hZ : Z.Warmed39 s.vm) {own : String} {index : Nat} {y : MethodName} {bytes : ByteArray} {maxL : Nat} {rm : Room} {Qc : Option Value → Heap → List Loc → Prop} {as' : Array Value} (hy1 : y.name = "<init>") (hown : s.vm.findClass own = some m.cls) (w1 : (Cond.methodLink own index y).before a0 Z = true) (w2 : (Cond.instanceMethod y).before a0 Z = true) (w3 : (Cond.initialized y.cls).before a0 Z = true) (w4 : (Cond.code y bytes maxL none).before a0 Z = true) (hy : y.cls ≠ "java/lang/invoke/MethodHandle" ∧ y.cls ≠ "java/lang/invoke/VarHandle") (hM : MetFree l y (head1 [Cond.code y bytes maxL none] rm) (fun a U => a = as' ∧ Z.Warmed39 U.vm ∧ U.heap = h) (fun _ _ _ _ _ => True) (fun _ U o U' => ∃ v L, o = .returned v ∧ Qc v U'.heap L ∧ FrameEnd U o U' L rm.cells rm.slots)) (W : Nat) (hW : 2 * 0 + (st.map fun v => v.category).sum ≤ W) (hf : rm.frames + 1 ≤ R.frames) (hl : W + (maxL + 11) + rm.locals ≤ R.locals) (hsize : Ls.size = c.maxLocals) {argsL stk : List Value} {a : Addr} (hlen : ∀ sig, parseMethodDescriptor y.desc = some sig → argsL.length = sig.parameters.length) (hstk : stk = argsL.reverse ++ (.ref a) :: st) (has : ((.ref a) :: argsL).toArray = as') (hc : cells + rm.cells ≤ R.cells) (hs : slots + rm.slots ≤ R.slots) (eT : T.heap = h) (hby : c.code = bc) (hd : decode bc pc = .ok (.invokespecial index, 3)) (k : ∀ T' v L, Stand p l e R s m args below meth c T' (locs ++ L) (cells + rm.cells) (slots + rm.slots) → Qc v T'.heap L → own_Go p.tables e below P (T'.setTop (mkF m (pc + 3) Ls (v.toList ++ st)))) : own_Go p.tables e below P (T.setTop (mkF m pc Ls stk)) := by
  subst hstk
  obtain ⟨v, _, ⟨T', L', k', n'⟩, -, X', ⟨L, hQ, hl', hy', hz'⟩, sp⟩ := X.specialBack hx hy1 hown (mvT hZ w1) (mvT hZ w2) (mvT hZ w4) hy (backOf (W := W) hM hZ w4 w3 hf hl) (g := mkF m pc Ls (argsL.reverse ++ (.ref a) :: st)) rfl hsize (Steps.refl _) (a := a) (argsL := argsL) (rest := st) hlen rfl hW (hb hby hd) (fun _ _ => ⟨has, eT, hc, hs⟩)
  dsimp only [Pt.U, Pt.locs, Pt.cells, Pt.slots] at X' hl' hy' hz' sp hQ
  subst hl' hy' hz'
  exact own_go (fun t q => sp.trans q) (k T' v L X' hQ)
theorem own_virtual (X : Stand p l e R s m args below meth c T locs cells slots) (hx : p.tables.exec = Jvm.exec) (hZ : Z.Warmed39 s.vm) {own C : String} {index : Nat} {y z : MethodName} {bytes : ByteArray} {maxL : Nat} {ret : Option FieldType} {rm : Room} {Qc : Option Value → Heap → List Loc → Prop} {as' : Array Value} (hown : s.vm.findClass own = some m.cls) (w1 : (Cond.methodLink own index y).before a0 Z = true) (w2 : (Cond.declares y).before a0 Z = true) (nf : NotFace s y) (w5 : (Cond.selects C y z).before a0 Z = true) (w6 : (Cond.instanceMethod z).before a0 Z = true) (w3 : (Cond.initialized z.cls).before a0 Z = true) (w4 : (Cond.code z bytes maxL ret).before a0 Z = true) (hy : y.cls ≠ "java/lang/invoke/MethodHandle" ∧ y.cls ≠ "java/lang/invoke/VarHandle") (hM : MetFree l z (head1 [Cond.code z bytes maxL ret] rm) (fun a U => a = as' ∧ Z.Warmed39 U.vm ∧ U.heap = h) (fun _ _ _ _ _ => True) (fun _ U o U' => ∃ v L, o = .returned v ∧ Qc v U'.heap L ∧ FrameEnd U o U' L rm.cells rm.slots)) (W : Nat) (hW : 2 * 0 + (st.map fun v => v.category).sum ≤ W) (hf : rm.frames + 1 ≤ R.frames) (hl : W + (maxL + 11) + rm.locals ≤ R.locals) (hsize : Ls.size = c.maxLocals) {argsL stk : List Value} {a : Addr} (E : Exa Z h a C) (hlen : ∀ sig, parseMethodDescriptor y.desc = some sig → argsL.length = sig.parameters.length) (hstk : stk = argsL.reverse ++ (.ref a) :: st) (has : ((.ref a) :: argsL).toArray = as') (hc : cells + rm.cells ≤ R.cells) (hs : slots + rm.slots ≤ R.slots) (eT : T.heap = h) (hby : c.code = bc) (hd : decode bc pc = .ok (.invokevirtual index, 3)) (k : ∀ T' v L, Stand p l e R s m args below meth c T' (locs ++ L) (cells + rm.cells) (slots + rm.slots) → Qc v T'.heap L → own_Go p.tables e below P (T'.setTop (mkF m (pc + 3) Ls (v.toList ++ st)))) : own_Go p.tables e below P (T.setTop (mkF m pc Ls stk)) := by
  subst hstk
  obtain ⟨cq, kq, qa, qb, qc⟩ := isOf hZ eT E
  obtain ⟨v, _, ⟨T', L', k', n'⟩, -, X', ⟨L, hQ, hl', hy', hz'⟩, sp⟩ := X.virtualBack hx hown (mvT hZ w1) (mvT hZ w2) nf (mvT hZ w5) (mvT hZ w6) hy (backOf (W := W) hM hZ w4 w3 hf hl) qa qc (g := mkF m pc Ls (argsL.reverse ++ (.ref a) :: st)) rfl hsize (Steps.refl _) (argsL := argsL) (rest := st) hlen rfl hW (hb hby hd) (fun _ _ => ⟨has, eT, hc, hs⟩)
  dsimp only [Pt.U, Pt.locs, Pt.cells, Pt.slots] at X' hl' hy' hz' sp hQ
  subst hl' hy' hz'
  exact own_go (fun t q => sp.trans q) (k T' v L X' hQ)
theorem own_ldcS {vm0 : Vm} (X : Stand p l e R (s.setVm vm0) m args below meth c T locs cells slots) (hx : p.tables.exec = Jvm.exec) (hZ : Z.Warmed39 vm0) {own text : String} {index : Nat} (hown : vm0.findClass own = some m.cls) (w : (Cond.stringLink own index text).before a0 Z = true) (wS : ∀ a ∈ Bundle.stringAtoms, a.before a0 Z = true) (eT : T.heap = h) {k0 : Nat} (hS : s.Since vm0 k0) (hk : k0 ≤ h.size) (hby : c.code = bc) (hd : decode bc pc = .ok (.ldc index, 2)) (n : Nat) (hn : 4 * text.toList.length ≤ n) (hbig : n ≤ 536870912) (hc : cells + 2 ≤ R.cells) (hl : slots + (n + 4) ≤ R.slots) (k : ∀ a T' h' k1 vm1, Stand p l e R (s.setVm vm1) m args below meth c T' locs (cells + 2) (slots + (n + 4)) → T'.heap = h' → Ext h h' → s.Since vm1 k1 → k1 ≤ h'.size → Z.Warmed39 vm1 → vm1.findClass own = some m.cls → own_Go p.tables e below P (T'.setTop (mkF m (pc + 2) Ls ((.ref a) :: st)))) : own_Go p.tables e below P (T.setTop (mkF m pc Ls st)) := by
  obtain ⟨a, T', h', k1, X', e', E, hS', hk', hZ', hown', sp⟩ := ldcS X hx hZ hown w wS eT hS hk (g := mkF m pc Ls st) rfl (hb hby hd) hn hbig hc hl
  exact own_go sp (k a T' h' k1 T'.vm X' e' E hS' hk' hZ' hown')
theorem own_specialW {vm0 : Vm} (X : Stand p l e R (s.setVm vm0) m args below meth c T locs cells slots) (hx : p.tables.exec = Jvm.exec) (hZ : Z.Warmed39 vm0) {own : String} {index : Nat} {y : MethodName} {bytes : ByteArray} {maxL : Nat} {rm : Room} {Qc : Option Value → Heap → List Loc → Prop} {as' : Array Value} (hy1 : y.name = "<init>") (hown : vm0.findClass own = some m.cls) (w1 : (Cond.methodLink own index y).before a0 Z = true) (w2 : (Cond.instanceMethod y).before a0 Z = true) (w3 : (Cond.initialized y.cls).before a0 Z = true) (w4 : (Cond.code y bytes maxL none).before a0 Z = true) (hy : y.cls ≠ "java/lang/invoke/MethodHandle" ∧ y.cls ≠ "java/lang/invoke/VarHandle") (hM : MetFree l y (head1 [Cond.code y bytes maxL none] rm) (fun a U => a = as' ∧ Z.Warmed39 U.vm ∧ U.heap = h) (fun _ _ _ _ _ => True) (fun _ U o U' => ∃ v L, o = .returned v ∧ Qc v U'.heap L ∧ ReturnedEndW U o U' L rm.cells rm.slots)) (W : Nat) (hW : 2 * 0 + (st.map fun v => v.category).sum ≤ W) (hf : rm.frames + 1 ≤ R.frames) (hl : W + (maxL + 11) + rm.locals ≤ R.locals) (hsize : Ls.size = c.maxLocals) {argsL stk : List Value} {a : Addr} (hlen : ∀ sig, parseMethodDescriptor y.desc = some sig → argsL.length = sig.parameters.length) (hstk : stk = argsL.reverse ++ (.ref a) :: st) (has : ((.ref a) :: argsL).toArray = as') (hc : cells + rm.cells ≤ R.cells) (hs : slots + rm.slots ≤ R.slots) (eT : T.heap = h) (hby : c.code = bc) {k0 : Nat} (hS : s.Since vm0 k0) (hk : k0 ≤ h.size) (hd : decode bc pc = .ok (.invokespecial index, 3)) (k : ∀ T' v L vm1, Stand p l e R (s.setVm vm1) m args below meth c T' (locs ++ L) (cells + rm.cells) (slots + rm.slots) → s.Since vm1 T'.heap.size → Z.Warmed39 vm1 → vm1.findClass own = some m.cls → h.size ≤ T'.heap.size → Qc v T'.heap L → own_Go p.tables e below P (T'.setTop (mkF m (pc + 3) Ls (v.toList ++ st)))) : own_Go p.tables e below P (T.setTop (mkF m pc Ls stk)) := by
  subst hstk
  obtain ⟨v, _, ⟨T', L', k', n'⟩, -, X', h2', hg', ⟨L, hQ, hl', hy', hz'⟩, sp⟩ := X.specialBackS hx hy1 hown (mvT (s := s.setVm vm0) hZ w1) (mvT (s := s.setVm vm0) hZ w2) (mvT (s := s.setVm vm0) hZ w4) hy (backOfS (s := s.setVm vm0) (W := W) hM hZ w4 w3 hf hl) (g := mkF m pc Ls (argsL.reverse ++ (.ref a) :: st)) rfl hsize (Steps.refl _) (a := a) (argsL := argsL) (rest := st) hlen rfl hW (hb hby hd) (fun _ _ => ⟨has, eT, hc, hs⟩)
  dsimp only [Pt.U, Pt.locs, Pt.cells, Pt.slots] at X' h2' hg' hl' hy' hz' sp hQ
  subst hl' hy' hz'
  obtain ⟨r1, r2, r3, r4⟩ := rebS (Z := Z) (own := own) hS hk X' h2' (by rw [← eT]; exact hg') hZ hown
  exact own_go (fun t q => sp.trans q) (k T' v L _ r1 r2 r3 r4 (by rw [← eT]; exact hg') hQ)
end OwnGo
theorem own_lt1 {x : Int64} (h : (1 : Int64) < x) : ¬ (x < (1 : Int64)) := by
  rw [Int64.lt_iff_toInt_lt] at h ⊢
  omega
theorem own_lt0 {x : Int64} (h : ¬ (x < (1 : Int64))) : ¬ (x < (0 : Int64)) := by
  rw [Int64.lt_iff_toInt_lt] at h ⊢
  have h1 : (1 : Int64).toInt = 1 := by decide
  have h0 : (0 : Int64).toInt = 0 := by decide
  omega
theorem own_ushr (a : Int64) (k : UInt64) : ¬ ((((a &&& (9223372036854775807 : Int64)).toUInt64 >>> k).toInt64) < (0 : Int64)) := by
  have hm := c_maskL a (9223372036854775807 : Int64) 63 (by decide) (by decide)
  obtain ⟨x, hx⟩ : ∃ x, x = a &&& (9223372036854775807 : Int64) := ⟨_, rfl⟩
  rw [← hx] at hm ⊢
  have h0 : (0 : Int64).toInt = 0 := by decide
  rw [Int64.lt_iff_toInt_lt, h0]
  have hx0 : 0 ≤ x.toInt := by rw [hm]; exact Int.emod_nonneg _ (by decide)
  have e1 : x.toInt = x.toBitVec.toInt := rfl
  have e2 : ((x.toUInt64 >>> k).toInt64).toInt = (x.toUInt64 >>> k).toBitVec.toInt := rfl
  have e3 : (x.toUInt64 >>> k).toBitVec.toNat = (x.toUInt64 >>> k).toNat := rfl
  have e4 : (x.toUInt64 >>> k).toNat = x.toUInt64.toNat >>> (k.toNat % 64) := UInt64.toNat_shiftRight _ _
  have e5 : x.toUInt64.toNat = x.toBitVec.toNat := rfl
  have e6 : x.toUInt64.toNat >>> (k.toNat % 64) ≤ x.toUInt64.toNat := Nat.shiftRight_le _ _
  rw [e2]
  rw [e1, BitVec.toInt_eq_toNat_cond] at hx0
  rw [BitVec.toInt_eq_toNat_cond]
  have := x.toBitVec.isLt
  split at hx0 <;> split <;> omega
theorem own_q (u b : Int64) (hu : ¬ (u < (0 : Int64))) (hz : ¬ (u = (0 : Int64))) : (9223372036854775807 : Int64) / u ≠ 0 ∧ ∀ q, q = ((1 : Int64) + ((b &&& (9223372036854775807 : Int64)) % ((9223372036854775807 : Int64) / u))) → ¬ (q < (1 : Int64)) ∧ ((q * u) / u) = q ∧ ¬ ((q * u) < (0 : Int64)) ∧ ((q * u) % u) = (0 : Int64) := by
  have h0 : (0 : Int64).toInt = 0 := by decide
  have h1 : (1 : Int64).toInt = 1 := by decide
  have hM : (9223372036854775807 : Int64).toInt = 9223372036854775807 := by decide
  have hU : 0 < u.toInt := by
    have a1 : ¬ u.toInt < 0 := by rw [Int64.lt_iff_toInt_lt, h0] at hu; exact hu
    have a2 : u.toInt ≠ 0 := fun q => hz (Int64.toInt_inj.mp (q.trans h0.symm))
    omega
  have hne : ∀ y : Int64, 0 ≤ y.toInt → y ≠ -1 := fun y hy q => by rw [q] at hy; exact absurd hy (by decide)
  have hD := (c_ldiv (9223372036854775807 : Int64) u u.toInt rfl (hne u (by omega))).1 (by rw [hM]; decide)
  rw [hM] at hD
  have rU := rng64 u
  have hD1 : 1 ≤ 9223372036854775807 / u.toInt := by
    rw [Int.le_ediv_iff_mul_le hU]; omega
  have hDU : 9223372036854775807 / u.toInt * u.toInt ≤ 9223372036854775807 := Int.ediv_mul_le _ (by omega)
  have hB := c_maskL b (9223372036854775807 : Int64) 63 (by decide) (by decide)
  have hB0 : 0 ≤ (b &&& (9223372036854775807 : Int64)).toInt := by rw [hB]; exact Int.emod_nonneg _ (by decide)
  obtain ⟨D, eD⟩ : ∃ D, D = (9223372036854775807 : Int64) / u := ⟨_, rfl⟩
  obtain ⟨B, eB⟩ : ∃ B, B = b &&& (9223372036854775807 : Int64) := ⟨_, rfl⟩
  rw [← eD] at hD ⊢
  rw [← eB] at hB0 ⊢
  obtain ⟨d, ed⟩ : ∃ d, d = 9223372036854775807 / u.toInt := ⟨_, rfl⟩
  rw [← ed] at hD hD1 hDU
  refine ⟨fun q => by rw [q, h0] at hD; omega, fun q eq => ?_⟩
  have hR := (c_lrem B D d hD).1 hB0
  rw [lrem_mod] at hR
  have hR0 : 0 ≤ B.toInt % d := Int.emod_nonneg _ (by omega)
  have hR1 : B.toInt % d < d := Int.emod_lt_of_pos _ (by omega)
  have rD := rng64 D
  have hq : q.toInt = 1 + B.toInt % d := by
    have := c_ladd (1 : Int64) (B % D)
    rw [h1, hR, ← eq] at this
    have := rng64 q
    omega
  have hqu : (q * u).toInt = q.toInt * u.toInt := by
    have a1 := c_lmul q u
    have a2 := rng64 (q * u)
    have a3 : 0 ≤ q.toInt * u.toInt := Int.mul_nonneg (by omega) (by omega)
    have a4 : q.toInt * u.toInt ≤ d * u.toInt := Int.mul_le_mul_of_nonneg_right (by omega) (by omega)
    generalize q.toInt * u.toInt = z at *
    omega
  have a3 : 0 ≤ q.toInt * u.toInt := Int.mul_nonneg (by omega) (by omega)
  refine ⟨by rw [Int64.lt_iff_toInt_lt, h1]; omega, Int64.toInt_inj.mp ?_, by rw [Int64.lt_iff_toInt_lt, h0, hqu]; omega, Int64.toInt_inj.mp ?_⟩
  · rw [(c_ldiv (q * u) u u.toInt rfl (hne u (by omega))).1 (by rw [hqu]; exact a3), hqu]
    exact Int.mul_ediv_cancel _ (by omega)
  · have := (c_lrem (q * u) u u.toInt rfl).1 (by rw [hqu]; exact a3)
    rw [lrem_mod] at this
    rw [this, hqu, h0]
    exact Int.mul_emod_left _ _
theorem ef_type_ (m : MethodId) (x0 : Int32) : entryFrame m #[(.int x0)] 2 = mkF m 0 #[.val (.int x0), .unset] [] := by first | (simp [entryFrame, mkF, argsToLocals, Value.category]; done) | rfl
theorem pn_1 : plainName "com/example/voucher_engine/voucherengine/model/LineItemAmountPinLaw" = true := by first | (simp [plainName, overriddenIn]; done) | decide +kernel
theorem d1_0 : decode method_2_code 0 = .ok (.iload_n 0, 1) := by decide +kernel
theorem d1_1 : decode method_2_code 1 = .ok (.iconst 3, 1) := by decide +kernel
theorem d1_2 : decode method_2_code 2 = .ok (.iand, 1) := by decide +kernel
theorem d1_3 : decode method_2_code 3 = .ok (.istore_n 1, 1) := by decide +kernel
theorem d1_4 : decode method_2_code 4 = .ok (.iload_n 1, 1) := by decide +kernel
theorem d1_5 : decode method_2_code 5 = .ok (.ifCond .ne 7, 3) := by decide +kernel
theorem d1_8 : decode method_2_code 8 = .ok (.getstatic 7, 3) := by decide +kernel
theorem d1_11 : decode method_2_code 11 = .ok (.areturn, 1) := by decide +kernel
theorem d1_12 : decode method_2_code 12 = .ok (.iload_n 1, 1) := by decide +kernel
theorem d1_13 : decode method_2_code 13 = .ok (.iconst 1, 1) := by decide +kernel
theorem d1_14 : decode method_2_code 14 = .ok (.if_icmp .ne 7, 3) := by decide +kernel
theorem d1_17 : decode method_2_code 17 = .ok (.getstatic 13, 3) := by decide +kernel
theorem d1_20 : decode method_2_code 20 = .ok (.areturn, 1) := by decide +kernel
theorem d1_21 : decode method_2_code 21 = .ok (.getstatic 16, 3) := by decide +kernel
theorem d1_24 : decode method_2_code 24 = .ok (.areturn, 1) := by decide +kernel
def Q_type_ (Z : State) (p1 : Int32) (wP : Nat) (wA : Nat) (wC : Nat) (h0 : Heap) (n0 : Nat) (vR : Option Value) (hR : Heap) (LR : List Loc) : Prop := ∃ (w : Nat), vR = some (.ref w) ∧ Fr n0 LR ∧ hR = h0
set_option maxRecDepth 65536 in
set_option maxHeartbeats 40000000 in
theorem type_ (l : Launch) (Z : State) (a0 : Array Value) (hw : ∀ d ∈ tables_1, d.before a0 Z = true) (ws : List Jvm.Cond) (p1 : Int32) (wP : Nat) (wA : Nat) (wC : Nat) (h0 : Heap) (n0 : Nat) (Z0 : n0 ≤ h0.size) (S_PLAN : Sta Z h0 "com/example/voucher_engine/voucherengine/model/ItemType" "PLAN" "Lcom/example/voucher_engine/voucherengine/model/ItemType;" (.ref wP)) (S_ADDON : Sta Z h0 "com/example/voucher_engine/voucherengine/model/ItemType" "ADDON" "Lcom/example/voucher_engine/voucherengine/model/ItemType;" (.ref wA)) (S_CHARGE : Sta Z h0 "com/example/voucher_engine/voucherengine/model/ItemType" "CHARGE" "Lcom/example/voucher_engine/voucherengine/model/ItemType;" (.ref wC)) :
    own_M l (⟨"com/example/voucher_engine/voucherengine/model/LineItemAmountPinLaw", "type", "(I)Lcom/example/voucher_engine/voucherengine/model/ItemType;"⟩ : MethodName) method_2_code 2 (some (.object "com/example/voucher_engine/voucherengine/model/ItemType")) ws ({ frames := 0, cells := 0, slots := 0, locals := 0 } : Room) Z #[(.int p1)] h0 (Q_type_ Z p1 wP wA wC h0 n0) := by
  refine own_body (own := "com/example/voucher_engine/voucherengine/model/LineItemAmountPinLaw") rfl (plainFor_of_name pn_1) (fun m => ef_type_ m p1) ?_
  intro p e s m below meth c s₁ Bd hml hZ hh hx hby hown X0 e0
  have N0 := Fr.nil n0
  refine own_iloadN X0.here hx hby d1_0 rfl ?_
  refine own_iconst X0.here hx hby d1_1 (v := (3 : Int32)) (by decide) ?_
  refine own_iand X0.here hx hby d1_2 rfl ?_
  refine own_istoreN X0.here hx hby d1_3 (l' := #[.val (.int p1), .val (.int (p1 &&& (3 : Int32)))]) rfl ?_
  refine own_iloadN X0.here hx hby d1_4 rfl ?_
  by_cases hc5_2 : (p1 &&& (3 : Int32)) = (0 : Int32)
  · refine own_ifNo X0.here hx hby d1_5 ((if0 _ _).trans (teq hc5_2).2) ?_
    refine own_getS X0 hx hZ hown (host := "") (Or.inl (own_w hw 64 rfl)) Via.refl e0 S_PLAN hby d1_8 ?_
    intro T3 X3 e3
    obtain ⟨fs, hr, hrun, hended, hW, hsame⟩ := X3.leave (v := some (.ref wP)) (fun h => by rw [Bd.returns] at h; cases h)
    refine own_ret (t := T3.setFrames fs) ?_ ⟨_, hrun, hended, _, _, rfl, ?_, ⟨_, rfl⟩, hW, hsame.mono (by decide) (by decide)⟩
    · exact retOut X3 hx Bd.returns rfl (Or.inr (Or.inr (Or.inr (Or.inr ⟨rfl, rfl, rfl⟩)))) (hb hby d1_11) hr
    · show Q_type_ Z p1 wP wA wC h0 n0 _ T3.heap _
      rw [e3]
      exact ⟨wP, rfl, N0, rfl⟩
  · refine own_ifYes X0.here hx hby (pc' := 12) d1_5 ((if0 _ _).trans (feq hc5_2).2) (by decide) (by decide) ?_
    refine own_iloadN X0.here hx hby d1_12 rfl ?_
    refine own_iconst X0.here hx hby d1_13 (v := (1 : Int32)) (by decide) ?_
    by_cases hc14_4 : (p1 &&& (3 : Int32)) = (1 : Int32)
    · refine own_icmpNo X0.here hx hby d1_14 (teq hc14_4).2 ?_
      refine own_getS X0 hx hZ hown (host := "") (Or.inl (own_w hw 66 rfl)) Via.refl e0 S_ADDON hby d1_17 ?_
      intro T5 X5 e5
      obtain ⟨fs, hr, hrun, hended, hW, hsame⟩ := X5.leave (v := some (.ref wA)) (fun h => by rw [Bd.returns] at h; cases h)
      refine own_ret (t := T5.setFrames fs) ?_ ⟨_, hrun, hended, _, _, rfl, ?_, ⟨_, rfl⟩, hW, hsame.mono (by decide) (by decide)⟩
      · exact retOut X5 hx Bd.returns rfl (Or.inr (Or.inr (Or.inr (Or.inr ⟨rfl, rfl, rfl⟩)))) (hb hby d1_20) hr
      · show Q_type_ Z p1 wP wA wC h0 n0 _ T5.heap _
        rw [e5]
        exact ⟨wA, rfl, N0, rfl⟩
    · refine own_icmpYes X0.here hx hby (pc' := 21) d1_14 (feq hc14_4).2 (by decide) (by decide) ?_
      refine own_getS X0 hx hZ hown (host := "") (Or.inl (own_w hw 17 rfl)) Via.refl e0 S_CHARGE hby d1_21 ?_
      intro T6 X6 e6
      obtain ⟨fs, hr, hrun, hended, hW, hsame⟩ := X6.leave (v := some (.ref wC)) (fun h => by rw [Bd.returns] at h; cases h)
      refine own_ret (t := T6.setFrames fs) ?_ ⟨_, hrun, hended, _, _, rfl, ?_, ⟨_, rfl⟩, hW, hsame.mono (by decide) (by decide)⟩
      · exact retOut X6 hx Bd.returns rfl (Or.inr (Or.inr (Or.inr (Or.inr ⟨rfl, rfl, rfl⟩)))) (hb hby d1_24) hr
      · show Q_type_ Z p1 wP wA wC h0 n0 _ T6.heap _
        rw [e6]
        exact ⟨wC, rfl, N0, rfl⟩
theorem ef_recInit (m : MethodId) (x0 : Nat) : entryFrame m #[(.ref x0)] 1 = mkF m 0 #[.val (.ref x0)] [] := by first | (simp [entryFrame, mkF, argsToLocals, Value.category]; done) | rfl
theorem pn_3 : plainName "java/lang/Record" = true := by first | (simp [plainName, overriddenIn]; done) | decide +kernel
theorem d3_0 : decode jdk_30_method_1_code 0 = .ok (.aload_n 0, 1) := by decide +kernel
theorem d3_1 : decode jdk_30_method_1_code 1 = .ok (.invokespecial 1, 3) := by decide +kernel
theorem d3_4 : decode jdk_30_method_1_code 4 = .ok (.return_, 1) := by decide +kernel
def Q_recInit (Z : State) (t : Nat) (h0 : Heap) (n0 : Nat) (vR : Option Value) (hR : Heap) (LR : List Loc) : Prop := vR = none ∧ Fr n0 LR ∧ hR = h0
set_option maxRecDepth 65536 in
set_option maxHeartbeats 40000000 in
theorem recInit (l : Launch) (Z : State) (a0 : Array Value) (hw : ∀ d ∈ tables_1, d.before a0 Z = true) (ws : List Jvm.Cond) (t : Nat) (h0 : Heap) (n0 : Nat) (Z0 : n0 ≤ h0.size)  :
    own_M l (⟨"java/lang/Record", "<init>", "()V"⟩ : MethodName) jdk_30_method_1_code 1 none ws ({ frames := 1, cells := 0, slots := 0, locals := 12 } : Room) Z #[(.ref t)] h0 (Q_recInit Z t h0 n0) := by
  refine own_body (own := "java/lang/Record") rfl (plainFor_of_name pn_3) (fun m => ef_recInit m t) ?_
  intro p e s m below meth c s₁ Bd hml hZ hh hx hby hown X0 e0
  have N0 := Fr.nil n0
  refine own_aloadN X0.here hx hby d3_0 rfl rfl ?_
  refine own_initO X0 hx hZ hown (own_w hw 28 rfl) (own_w hw 29 rfl) (own_w hw 30 rfl) e0 (by rw [hml]; rfl) hby d3_1 (by decide) 0 (Nat.le_of_eq rfl) (by decide) ?_
  intro T1 X1 e1
  obtain ⟨fs, hr, hrun, hended, hW, hsame⟩ := X1.leave (v := none) (fun _ => rfl)
  refine own_ret (t := T1.setFrames fs) ?_ ⟨_, hrun, hended, _, _, rfl, ?_, ⟨_, rfl⟩, hW, hsame.mono (by decide) (by decide)⟩
  · exact X1.returnOut hx Bd.returns (hb hby d3_4) hr
  · show Q_recInit Z t h0 n0 _ T1.heap _
    rw [e1]
    exact ⟨rfl, N0, rfl⟩
theorem ef_rnn_ (m : MethodId) (x0 : Nat) (x1 : Nat) : entryFrame m #[(.ref x0), (.ref x1)] 2 = mkF m 0 #[.val (.ref x0), .val (.ref x1)] [] := by first | (simp [entryFrame, mkF, argsToLocals, Value.category]; done) | rfl
theorem pn_5 : plainName "java/util/Objects" = true := by first | (simp [plainName, overriddenIn]; done) | decide +kernel
theorem d5_0 : decode jdk_31_method_11_code 0 = .ok (.aload_n 0, 1) := by decide +kernel
theorem d5_1 : decode jdk_31_method_11_code 1 = .ok (.ifnonnull 12, 3) := by decide +kernel
theorem d5_13 : decode jdk_31_method_11_code 13 = .ok (.aload_n 0, 1) := by decide +kernel
theorem d5_14 : decode jdk_31_method_11_code 14 = .ok (.areturn, 1) := by decide +kernel
def Q_rnn_ (Z : State) (a1 : Nat) (a2 : Nat) (h0 : Heap) (n0 : Nat) (vR : Option Value) (hR : Heap) (LR : List Loc) : Prop := vR = some (.ref a1) ∧ Fr n0 LR ∧ hR = h0
set_option maxRecDepth 65536 in
set_option maxHeartbeats 40000000 in
theorem rnn_ (l : Launch) (Z : State) (a0 : Array Value) (hw : ∀ d ∈ tables_1, d.before a0 Z = true) (ws : List Jvm.Cond) (a1 : Nat) (a2 : Nat) (h0 : Heap) (n0 : Nat) (Z0 : n0 ≤ h0.size)  :
    own_M l (⟨"java/util/Objects", "requireNonNull", "(Ljava/lang/Object;Ljava/lang/String;)Ljava/lang/Object;"⟩ : MethodName) jdk_31_method_11_code 2 (some (.object "java/lang/Object")) ws ({ frames := 0, cells := 0, slots := 0, locals := 0 } : Room) Z #[(.ref a1), (.ref a2)] h0 (Q_rnn_ Z a1 a2 h0 n0) := by
  refine own_body (own := "java/util/Objects") rfl (plainFor_of_name pn_5) (fun m => ef_rnn_ m a1 a2) ?_
  intro p e s m below meth c s₁ Bd hml hZ hh hx hby hown X0 e0
  have N0 := Fr.nil n0
  refine own_aloadN X0.here hx hby d5_0 rfl rfl ?_
  refine own_ifnonnullYes X0.here hx hby (pc' := 13) d5_1 (by decide) (by decide) ?_
  refine own_aloadN X0.here hx hby d5_13 rfl rfl ?_
  obtain ⟨fs, hr, hrun, hended, hW, hsame⟩ := X0.leave (v := some (.ref a1)) (fun h => by rw [Bd.returns] at h; cases h)
  refine own_ret (t := s₁.setFrames fs) ?_ ⟨_, hrun, hended, _, _, rfl, ?_, ⟨_, rfl⟩, hW, hsame.mono (by decide) (by decide)⟩
  · exact retOut X0 hx Bd.returns rfl (Or.inr (Or.inr (Or.inr (Or.inr ⟨rfl, rfl, rfl⟩)))) (hb hby d5_14) hr
  · show Q_rnn_ Z a1 a2 h0 n0 _ s₁.heap _
    rw [e0]
    exact ⟨rfl, N0, rfl⟩
theorem ef_liInit (m : MethodId) (x0 : Nat) (x1 : Nat) (x2 : Nat) (x3 : Nat) (x4 : Int64) (x5 : Int64) : entryFrame m #[(.ref x0), (.ref x1), (.ref x2), (.ref x3), (.long x4), (.long x5)] 9 = mkF m 0 #[.val (.ref x0), .val (.ref x1), .val (.ref x2), .val (.ref x3), .val (.long x4), .second, .val (.long x5), .second, .unset] [] := by first | (simp [entryFrame, mkF, argsToLocals, Value.category]; done) | rfl
theorem pn_2 : plainName "com/example/voucher_engine/voucherengine/model/LineItem" = true := by first | (simp [plainName, overriddenIn]; done) | decide +kernel
theorem d2_0 : decode prog_36_method_1_code 0 = .ok (.aload_n 0, 1) := by decide +kernel
theorem d2_1 : decode prog_36_method_1_code 1 = .ok (.invokespecial 1, 3) := by decide +kernel
theorem pd_0 : parseMethodDescriptor "()V" = some ⟨[], none⟩ := by decide +kernel
theorem d2_4 : decode prog_36_method_1_code 4 = .ok (.aload_n 1, 1) := by decide +kernel
theorem d2_5 : decode prog_36_method_1_code 5 = .ok (.ldc 7, 2) := by decide +kernel
theorem own_wS {Z : State} {a0 : Array Value} (hw : ∀ d ∈ tables_1, d.before a0 Z = true) : ∀ a ∈ Bundle.stringAtoms, a.before a0 Z = true := by
  intro a ha
  simp only [Bundle.stringAtoms, Bundle.sN, List.mem_cons, List.not_mem_nil, or_false] at ha
  rcases ha with rfl | rfl | rfl | rfl | rfl | rfl | rfl
  · exact own_w hw 5 rfl
  · exact own_w hw 6 rfl
  · exact own_w hw 7 rfl
  · exact own_w hw 8 rfl
  · exact own_w hw 9 rfl
  · exact own_w hw 10 rfl
  · exact own_w hw 11 rfl
theorem d2_7 : decode prog_36_method_1_code 7 = .ok (.invokestatic 9, 3) := by decide +kernel
theorem pd_1 : parseMethodDescriptor "(Ljava/lang/Object;Ljava/lang/String;)Ljava/lang/Object;" = some ⟨[(.object "java/lang/Object"), (.object "java/lang/String")], some (.object "java/lang/Object")⟩ := by decide +kernel
theorem d2_10 : decode prog_36_method_1_code 10 = .ok (.pop, 1) := by decide +kernel
theorem d2_11 : decode prog_36_method_1_code 11 = .ok (.aload_n 2, 1) := by decide +kernel
theorem d2_12 : decode prog_36_method_1_code 12 = .ok (.ldc 15, 2) := by decide +kernel
theorem d2_14 : decode prog_36_method_1_code 14 = .ok (.invokestatic 9, 3) := by decide +kernel
theorem d2_17 : decode prog_36_method_1_code 17 = .ok (.pop, 1) := by decide +kernel
theorem d2_18 : decode prog_36_method_1_code 18 = .ok (.aload_n 3, 1) := by decide +kernel
theorem d2_19 : decode prog_36_method_1_code 19 = .ok (.ldc 17, 2) := by decide +kernel
theorem d2_21 : decode prog_36_method_1_code 21 = .ok (.invokestatic 9, 3) := by decide +kernel
theorem d2_24 : decode prog_36_method_1_code 24 = .ok (.pop, 1) := by decide +kernel
theorem d2_25 : decode prog_36_method_1_code 25 = .ok (.aconst_null, 1) := by decide +kernel
theorem d2_26 : decode prog_36_method_1_code 26 = .ok (.astore 8, 2) := by decide +kernel
theorem d2_28 : decode prog_36_method_1_code 28 = .ok (.lload 4, 2) := by decide +kernel
theorem d2_30 : decode prog_36_method_1_code 30 = .ok (.lconst 1, 1) := by decide +kernel
theorem d2_31 : decode prog_36_method_1_code 31 = .ok (.lcmp, 1) := by decide +kernel
theorem d2_32 : decode prog_36_method_1_code 32 = .ok (.ifCond .ge 15, 3) := by decide +kernel
theorem d2_47 : decode prog_36_method_1_code 47 = .ok (.lload 6, 2) := by decide +kernel
theorem d2_49 : decode prog_36_method_1_code 49 = .ok (.lconst 0, 1) := by decide +kernel
theorem d2_50 : decode prog_36_method_1_code 50 = .ok (.lcmp, 1) := by decide +kernel
theorem d2_51 : decode prog_36_method_1_code 51 = .ok (.ifCond .ge 12, 3) := by decide +kernel
theorem d2_63 : decode prog_36_method_1_code 63 = .ok (.aload 8, 2) := by decide +kernel
theorem d2_65 : decode prog_36_method_1_code 65 = .ok (.ifnull 13, 3) := by decide +kernel
theorem d2_78 : decode prog_36_method_1_code 78 = .ok (.aload_n 0, 1) := by decide +kernel
theorem d2_79 : decode prog_36_method_1_code 79 = .ok (.aload_n 1, 1) := by decide +kernel
theorem d2_80 : decode prog_36_method_1_code 80 = .ok (.putfield 40, 3) := by decide +kernel
theorem d2_83 : decode prog_36_method_1_code 83 = .ok (.aload_n 0, 1) := by decide +kernel
theorem d2_84 : decode prog_36_method_1_code 84 = .ok (.aload_n 2, 1) := by decide +kernel
theorem d2_85 : decode prog_36_method_1_code 85 = .ok (.putfield 43, 3) := by decide +kernel
theorem d2_88 : decode prog_36_method_1_code 88 = .ok (.aload_n 0, 1) := by decide +kernel
theorem d2_89 : decode prog_36_method_1_code 89 = .ok (.aload_n 3, 1) := by decide +kernel
theorem d2_90 : decode prog_36_method_1_code 90 = .ok (.putfield 45, 3) := by decide +kernel
theorem d2_93 : decode prog_36_method_1_code 93 = .ok (.aload_n 0, 1) := by decide +kernel
theorem d2_94 : decode prog_36_method_1_code 94 = .ok (.lload 4, 2) := by decide +kernel
theorem d2_96 : decode prog_36_method_1_code 96 = .ok (.putfield 48, 3) := by decide +kernel
theorem d2_99 : decode prog_36_method_1_code 99 = .ok (.aload_n 0, 1) := by decide +kernel
theorem d2_100 : decode prog_36_method_1_code 100 = .ok (.lload 6, 2) := by decide +kernel
theorem d2_102 : decode prog_36_method_1_code 102 = .ok (.putfield 51, 3) := by decide +kernel
theorem d2_105 : decode prog_36_method_1_code 105 = .ok (.return_, 1) := by decide +kernel
def Q_liInit (Z : State) (t : Nat) (a1 : Nat) (a2 : Nat) (a3 : Nat) (q : Int64) (u : Int64) (h0 : Heap) (n0 : Nat) (vR : Option Value) (hR : Heap) (LR : List Loc) : Prop := vR = none ∧ Fr n0 LR ∧ Keep h0 hR [t] ∧ (Exa Z hR t "com/example/voucher_engine/voucherengine/model/LineItem") ∧ (Fld Z hR t "com/example/voucher_engine/voucherengine/model/LineItem" "quantity" "J" (.long q)) ∧ (Fld Z hR t "com/example/voucher_engine/voucherengine/model/LineItem" "unitAmount" "J" (.long u))
set_option maxRecDepth 65536 in
set_option maxHeartbeats 40000000 in
theorem liInit (l : Launch) (Z : State) (a0 : Array Value) (hw : ∀ d ∈ tables_1, d.before a0 Z = true) (ws : List Jvm.Cond) (t : Nat) (a1 : Nat) (a2 : Nat) (a3 : Nat) (q : Int64) (u : Int64) (h0 : Heap) (n0 : Nat) (Z0 : n0 ≤ h0.size) (E_t : Exa Z h0 t "com/example/voucher_engine/voucherengine/model/LineItem") (F_id_t : Fld Z h0 t "com/example/voucher_engine/voucherengine/model/LineItem" "id" "Ljava/lang/String;" .null) (F_itemPriceId_t : Fld Z h0 t "com/example/voucher_engine/voucherengine/model/LineItem" "itemPriceId" "Ljava/lang/String;" .null) (F_itemType_t : Fld Z h0 t "com/example/voucher_engine/voucherengine/model/LineItem" "itemType" "Lcom/example/voucher_engine/voucherengine/model/ItemType;" .null) (F_quantity_t : Fld Z h0 t "com/example/voucher_engine/voucherengine/model/LineItem" "quantity" "J" (.long (0 : Int64))) (F_unitAmount_t : Fld Z h0 t "com/example/voucher_engine/voucherengine/model/LineItem" "unitAmount" "J" (.long (0 : Int64))) (g_t : n0 ≤ t) (hq : ¬ (q < (1 : Int64))) (hu : ¬ (u < (0 : Int64))) :
    own_MW l (⟨"com/example/voucher_engine/voucherengine/model/LineItem", "<init>", "(Ljava/lang/String;Ljava/lang/String;Lcom/example/voucher_engine/voucherengine/model/ItemType;JJ)V"⟩ : MethodName) prog_36_method_1_code 9 none ws ({ frames := 2, cells := 6, slots := 96, locals := 24 } : Room) Z #[(.ref t), (.ref a1), (.ref a2), (.ref a3), (.long q), (.long u)] h0 (Q_liInit Z t a1 a2 a3 q u h0 n0) := by
  refine own_bodyW (own := "com/example/voucher_engine/voucherengine/model/LineItem") rfl (plainFor_of_name pn_2) (fun m => ef_liInit m t a1 a2 a3 q u) ?_
  intro p e s m below meth c s₁ Bd hml hZ hh hx hby hown X0 e0 hS0
  have N0 := Fr.nil n0
  have hk0 : h0.size ≤ h0.size := Nat.le_refl _
  have Y0 : Stand p l e ({ frames := 2, cells := 6, slots := 96, locals := 24 } : Room) (s.setVm s.vm) m #[(.ref t), (.ref a1), (.ref a2), (.ref a3), (.long q), (.long u)] below meth c s₁ [] 0 0 := X0
  have lt4 : h0.size > t := E_t.lt
  refine own_aloadN Y0.here hx hby d2_0 rfl rfl ?_
  refine own_special Y0 hx hZ rfl hown (own_w hw 23 rfl) (own_w hw 24 rfl) (own_w hw 26 rfl) (own_w hw 27 rfl) (by decide) (recInit l Z a0 hw [] t h0 n0 Z0 ) 0 (Nat.le_of_eq rfl) (by decide) (by decide) (by rw [hml]; rfl) (argsL := []) (st := []) (a := t) (lenOf pd_0 rfl) rfl rfl (by decide) (by decide) e0 hby d2_1 ?_
  intro T5 v5 L5 X5 hQ5
  obtain ⟨rfl, Nq5, eh5⟩ := hQ5
  have N5 := Fr.app N0 Nq5
  refine own_sh (T := T5) 4 #[.val (.ref t), .val (.ref a1), .val (.ref a2), .val (.ref a3), .val (.long q), .second, .val (.long u), .second, .unset] [] ?_
  refine own_aloadN X5.here hx hby d2_4 rfl rfl ?_
  have own_wS0 : ∀ a ∈ Bundle.stringAtoms, a.before a0 Z = true := own_wS hw
  refine own_ldcS X5 hx hZ hown (own_w hw 31 rfl) own_wS0 eh5 hS0 (by omega) hby d2_5 8 (by decide) (by decide) (by decide) (by decide) ?_
  intro a6 T6 h6 kk6 vm6 X6 e6 E6 hS6 hk6 hZ6 hown6
  have z7 : h0.size ≤ h6.size := E6.1
  have z9 : n0 ≤ h6.size := by omega
  refine own_callS X6 hx hZ6 hown6 (own_w hw 32 rfl) (own_w hw 33 rfl) (own_w hw 34 rfl) (own_w hw 35 rfl) (by decide) (rnn_ l Z a0 hw [] a1 a6 h6 n0 z9 ) 0 (Nat.le_of_eq rfl) (by decide) (by decide) (by rw [hml]; rfl) (argsL := [(.ref a1), (.ref a6)]) (st := []) (lenOf pd_1 rfl) rfl rfl (by decide) (by decide) e6 hby d2_7 ?_
  intro T8 v8 L8 X8 hQ8
  obtain ⟨rfl, Nq8, eh8⟩ := hQ8
  have N8 := Fr.app N5 Nq8
  refine own_sh (T := T8) 10 #[.val (.ref t), .val (.ref a1), .val (.ref a2), .val (.ref a3), .val (.long q), .second, .val (.long u), .second, .unset] [(.ref a1)] ?_
  refine own_pop X8.here hx hby d2_10 rfl ?_
  refine own_aloadN X8.here hx hby d2_11 rfl rfl ?_
  refine own_ldcS X8 hx hZ6 hown6 (own_w hw 36 rfl) own_wS0 eh8 hS6 (by omega) hby d2_12 44 (by decide) (by decide) (by decide) (by decide) ?_
  intro a10 T10 h10 kk10 vm10 X10 e10 E10 hS10 hk10 hZ10 hown10
  have z11 : h6.size ≤ h10.size := E10.1
  have z13 : n0 ≤ h10.size := by omega
  refine own_callS X10 hx hZ10 hown10 (own_w hw 32 rfl) (own_w hw 33 rfl) (own_w hw 34 rfl) (own_w hw 35 rfl) (by decide) (rnn_ l Z a0 hw [] a2 a10 h10 n0 z13 ) 0 (Nat.le_of_eq rfl) (by decide) (by decide) (by rw [hml]; rfl) (argsL := [(.ref a2), (.ref a10)]) (st := []) (lenOf pd_1 rfl) rfl rfl (by decide) (by decide) e10 hby d2_14 ?_
  intro T12 v12 L12 X12 hQ12
  obtain ⟨rfl, Nq12, eh12⟩ := hQ12
  have N12 := Fr.app N8 Nq12
  refine own_sh (T := T12) 17 #[.val (.ref t), .val (.ref a1), .val (.ref a2), .val (.ref a3), .val (.long q), .second, .val (.long u), .second, .unset] [(.ref a2)] ?_
  refine own_pop X12.here hx hby d2_17 rfl ?_
  refine own_aloadN X12.here hx hby d2_18 rfl rfl ?_
  refine own_ldcS X12 hx hZ10 hown10 (own_w hw 37 rfl) own_wS0 eh12 hS10 (by omega) hby d2_19 32 (by decide) (by decide) (by decide) (by decide) ?_
  intro a14 T14 h14 kk14 vm14 X14 e14 E14 hS14 hk14 hZ14 hown14
  have z15 : h10.size ≤ h14.size := E14.1
  have z17 : n0 ≤ h14.size := by omega
  refine own_callS X14 hx hZ14 hown14 (own_w hw 32 rfl) (own_w hw 33 rfl) (own_w hw 34 rfl) (own_w hw 35 rfl) (by decide) (rnn_ l Z a0 hw [] a3 a14 h14 n0 z17 ) 0 (Nat.le_of_eq rfl) (by decide) (by decide) (by rw [hml]; rfl) (argsL := [(.ref a3), (.ref a14)]) (st := []) (lenOf pd_1 rfl) rfl rfl (by decide) (by decide) e14 hby d2_21 ?_
  intro T16 v16 L16 X16 hQ16
  obtain ⟨rfl, Nq16, eh16⟩ := hQ16
  have N16 := Fr.app N12 Nq16
  refine own_sh (T := T16) 24 #[.val (.ref t), .val (.ref a1), .val (.ref a2), .val (.ref a3), .val (.long q), .second, .val (.long u), .second, .unset] [(.ref a3)] ?_
  refine own_pop X16.here hx hby d2_24 rfl ?_
  refine own_aconstNull X16.here hx hby d2_25 ?_
  refine own_astore X16.here hx hby d2_26 rfl (l' := #[.val (.ref t), .val (.ref a1), .val (.ref a2), .val (.ref a3), .val (.long q), .second, .val (.long u), .second, .val .null]) rfl ?_
  refine own_lload X16.here hx hby d2_28 rfl ?_
  refine own_lconst X16.here hx hby d2_30 (v := (1 : Int64)) (by decide) ?_
  refine own_lcmp X16.here hx hby d2_31 ?_
  refine own_ifYes X16.here hx hby (pc' := 47) d2_32 ((if0 _ _).trans (flt (fun qq_ => hq ((lw_lt q (1 : Int64)).mp qq_))).2.1) (by decide) (by decide) ?_
  refine own_lload X16.here hx hby d2_47 rfl ?_
  refine own_lconst X16.here hx hby d2_49 (v := (0 : Int64)) (by decide) ?_
  refine own_lcmp X16.here hx hby d2_50 ?_
  refine own_ifYes X16.here hx hby (pc' := 63) d2_51 ((if0 _ _).trans (flt (fun qq_ => hu ((lw_lt u (0 : Int64)).mp qq_))).2.1) (by decide) (by decide) ?_
  refine own_aload X16.here hx hby d2_63 rfl rfl ?_
  refine own_ifnullYes X16.here hx hby (pc' := 78) d2_65 (by decide) (by decide) ?_
  refine own_aloadN X16.here hx hby d2_78 rfl rfl ?_
  refine own_aloadN X16.here hx hby d2_79 rfl rfl ?_
  have f18 : Exa Z h14 t "com/example/voucher_engine/voucherengine/model/LineItem" := (((E_t.ext E6).ext E10).ext E14)
  have f19 : Fld Z h14 t "com/example/voucher_engine/voucherengine/model/LineItem" "id" "Ljava/lang/String;" .null := (((F_id_t.ext E6).ext E10).ext E14)
  refine own_putF X16 hx hZ14 (ty := (.object "java/lang/String")) hown14 (host := "") (Or.inl (own_w hw 38 rfl)) Via.refl eh16 f19 f18 (Or.inr ⟨(own_w hw 39 rfl), rfl, (name_of_methodNamed Bd.named Bd.method).1⟩) (own_w hw 2 rfl) (by decide) rfl rfl hby d2_80 N16 g_t ?_
  intro T20 h20 lo20 X20 e20 N20 W20 F20 z20
  refine own_aloadN X20.here hx hby d2_83 rfl rfl ?_
  refine own_aloadN X20.here hx hby d2_84 rfl rfl ?_
  have f21 : Exa Z h20 t "com/example/voucher_engine/voucherengine/model/LineItem" := (f18.wr W20)
  have f22 : Fld Z h20 t "com/example/voucher_engine/voucherengine/model/LineItem" "itemPriceId" "Ljava/lang/String;" .null := ((((F_itemPriceId_t.ext E6).ext E10).ext E14).other W20 (Or.inr (slot_ne (Or.inr (own_w hw 41 rfl)) (Or.inr (own_w hw 39 rfl)) (by decide) (t := (.object "java/lang/String")) (t' := (.object "java/lang/String")) (by decide) (by decide))))
  refine own_putF X20 hx hZ14 (ty := (.object "java/lang/String")) hown14 (host := "") (Or.inl (own_w hw 40 rfl)) Via.refl e20 f22 f21 (Or.inr ⟨(own_w hw 41 rfl), rfl, (name_of_methodNamed Bd.named Bd.method).1⟩) (own_w hw 2 rfl) (by decide) rfl rfl hby d2_85 N20 g_t ?_
  intro T23 h23 lo23 X23 e23 N23 W23 F23 z23
  refine own_aloadN X23.here hx hby d2_88 rfl rfl ?_
  refine own_aloadN X23.here hx hby d2_89 rfl rfl ?_
  have f24 : Exa Z h23 t "com/example/voucher_engine/voucherengine/model/LineItem" := (f21.wr W23)
  have f25 : Fld Z h23 t "com/example/voucher_engine/voucherengine/model/LineItem" "itemType" "Lcom/example/voucher_engine/voucherengine/model/ItemType;" .null := (((((F_itemType_t.ext E6).ext E10).ext E14).other W20 (Or.inr (slot_ne (Or.inr (own_w hw 43 rfl)) (Or.inr (own_w hw 39 rfl)) (by decide) (t := (.object "com/example/voucher_engine/voucherengine/model/ItemType")) (t' := (.object "java/lang/String")) (by decide) (by decide)))).other W23 (Or.inr (slot_ne (Or.inr (own_w hw 43 rfl)) (Or.inr (own_w hw 41 rfl)) (by decide) (t := (.object "com/example/voucher_engine/voucherengine/model/ItemType")) (t' := (.object "java/lang/String")) (by decide) (by decide))))
  refine own_putF X23 hx hZ14 (ty := (.object "com/example/voucher_engine/voucherengine/model/ItemType")) hown14 (host := "") (Or.inl (own_w hw 42 rfl)) Via.refl e23 f25 f24 (Or.inr ⟨(own_w hw 43 rfl), rfl, (name_of_methodNamed Bd.named Bd.method).1⟩) (own_w hw 2 rfl) (by decide) rfl rfl hby d2_90 N23 g_t ?_
  intro T26 h26 lo26 X26 e26 N26 W26 F26 z26
  refine own_aloadN X26.here hx hby d2_93 rfl rfl ?_
  refine own_lload X26.here hx hby d2_94 rfl ?_
  have f27 : Exa Z h26 t "com/example/voucher_engine/voucherengine/model/LineItem" := (f24.wr W26)
  have f28 : Fld Z h26 t "com/example/voucher_engine/voucherengine/model/LineItem" "quantity" "J" (.long (0 : Int64)) := ((((((F_quantity_t.ext E6).ext E10).ext E14).other W20 (Or.inr (slot_ne (Or.inr (own_w hw 45 rfl)) (Or.inr (own_w hw 39 rfl)) (by decide) (t := .long) (t' := (.object "java/lang/String")) (by decide) (by decide)))).other W23 (Or.inr (slot_ne (Or.inr (own_w hw 45 rfl)) (Or.inr (own_w hw 41 rfl)) (by decide) (t := .long) (t' := (.object "java/lang/String")) (by decide) (by decide)))).other W26 (Or.inr (slot_ne (Or.inr (own_w hw 45 rfl)) (Or.inr (own_w hw 43 rfl)) (by decide) (t := .long) (t' := (.object "com/example/voucher_engine/voucherengine/model/ItemType")) (by decide) (by decide))))
  refine own_putF X26 hx hZ14 (ty := .long) hown14 (host := "") (Or.inl (own_w hw 44 rfl)) Via.refl e26 f28 f27 (Or.inr ⟨(own_w hw 45 rfl), rfl, (name_of_methodNamed Bd.named Bd.method).1⟩) (own_w hw 2 rfl) (by decide) rfl rfl hby d2_96 N26 g_t ?_
  intro T29 h29 lo29 X29 e29 N29 W29 F29 z29
  refine own_aloadN X29.here hx hby d2_99 rfl rfl ?_
  refine own_lload X29.here hx hby d2_100 rfl ?_
  have f30 : Exa Z h29 t "com/example/voucher_engine/voucherengine/model/LineItem" := (f27.wr W29)
  have f31 : Fld Z h29 t "com/example/voucher_engine/voucherengine/model/LineItem" "unitAmount" "J" (.long (0 : Int64)) := (((((((F_unitAmount_t.ext E6).ext E10).ext E14).other W20 (Or.inr (slot_ne (Or.inr (own_w hw 47 rfl)) (Or.inr (own_w hw 39 rfl)) (by decide) (t := .long) (t' := (.object "java/lang/String")) (by decide) (by decide)))).other W23 (Or.inr (slot_ne (Or.inr (own_w hw 47 rfl)) (Or.inr (own_w hw 41 rfl)) (by decide) (t := .long) (t' := (.object "java/lang/String")) (by decide) (by decide)))).other W26 (Or.inr (slot_ne (Or.inr (own_w hw 47 rfl)) (Or.inr (own_w hw 43 rfl)) (by decide) (t := .long) (t' := (.object "com/example/voucher_engine/voucherengine/model/ItemType")) (by decide) (by decide)))).other W29 (Or.inr (slot_ne (Or.inr (own_w hw 47 rfl)) (Or.inr (own_w hw 45 rfl)) (by decide) (t := .long) (t' := .long) (by decide) (by decide))))
  refine own_putF X29 hx hZ14 (ty := .long) hown14 (host := "") (Or.inl (own_w hw 46 rfl)) Via.refl e29 f31 f30 (Or.inr ⟨(own_w hw 47 rfl), rfl, (name_of_methodNamed Bd.named Bd.method).1⟩) (own_w hw 2 rfl) (by decide) rfl rfl hby d2_102 N29 g_t ?_
  intro T32 h32 lo32 X32 e32 N32 W32 F32 z32
  have K33 : Keep h0 h32 [t] := (((((((((Keep.refl h0 [t]).ext E6).ext E10).ext E14).wr W20 (Or.inl (List.mem_of_getElem? (i := 0) rfl))).wr W23 (Or.inl (List.mem_of_getElem? (i := 0) rfl))).wr W26 (Or.inl (List.mem_of_getElem? (i := 0) rfl))).wr W29 (Or.inl (List.mem_of_getElem? (i := 0) rfl))).wr W32 (Or.inl (List.mem_of_getElem? (i := 0) rfl)))
  have f34 : Exa Z h32 t "com/example/voucher_engine/voucherengine/model/LineItem" := (f30.wr W32)
  have f35 : Fld Z h32 t "com/example/voucher_engine/voucherengine/model/LineItem" "quantity" "J" (.long q) := (F29.other W32 (Or.inr (slot_ne (Or.inr (own_w hw 45 rfl)) (Or.inr (own_w hw 47 rfl)) (by decide) (t := .long) (t' := .long) (by decide) (by decide))))
  obtain ⟨fs, hr, hrun, hended, hRW⟩ := X32.leaveW hS14 (by rw [e32]; omega) (v := none) (fun _ => rfl)
  refine own_ret (t := T32.setFrames fs) ?_ ⟨_, hrun, hended, _, _, rfl, ?_, hRW.1, hRW.2.1, hRW.2.2.1, hRW.2.2.2.mono (by decide) (by decide)⟩
  · exact X32.returnOut hx Bd.returns (hb hby d2_105) hr
  · show Q_liInit Z t a1 a2 a3 q u h0 n0 _ T32.heap _
    rw [e32]
    exact ⟨rfl, N32, K33, f34, f35, F32⟩
theorem ef_absP (m : MethodId) (x0 : Int64) : entryFrame m #[(.long x0)] 2 = mkF m 0 #[.val (.long x0), .second] [] := by first | (simp [entryFrame, mkF, argsToLocals, Value.category]; done) | rfl
theorem d8_0 : decode jdk_29_method_61_code 0 = .ok (.lload_n 0, 1) := by decide +kernel
theorem d8_1 : decode jdk_29_method_61_code 1 = .ok (.lconst 0, 1) := by decide +kernel
theorem d8_2 : decode jdk_29_method_61_code 2 = .ok (.lcmp, 1) := by decide +kernel
theorem d8_3 : decode jdk_29_method_61_code 3 = .ok (.ifCond .ge 8, 3) := by decide +kernel
theorem d8_11 : decode jdk_29_method_61_code 11 = .ok (.lload_n 0, 1) := by decide +kernel
theorem d8_12 : decode jdk_29_method_61_code 12 = .ok (.lreturn, 1) := by decide +kernel
def Q_absP (Z : State) (x : Int64) (h0 : Heap) (n0 : Nat) (vR : Option Value) (hR : Heap) (LR : List Loc) : Prop := vR = some (.long x) ∧ Fr n0 LR ∧ hR = h0
set_option maxRecDepth 65536 in
set_option maxHeartbeats 40000000 in
theorem absP (l : Launch) (Z : State) (a0 : Array Value) (hw : ∀ d ∈ tables_1, d.before a0 Z = true) (ws : List Jvm.Cond) (x : Int64) (h0 : Heap) (n0 : Nat) (Z0 : n0 ≤ h0.size) (hx0 : ¬ (x < (0 : Int64))) :
    own_M l (⟨"java/lang/Math", "abs", "(J)J"⟩ : MethodName) jdk_29_method_61_code 2 (some .long) ws ({ frames := 0, cells := 0, slots := 0, locals := 0 } : Room) Z #[(.long x)] h0 (Q_absP Z x h0 n0) := by
  refine own_body (own := "java/lang/Math") rfl (Jvm.Free.JP.mathPlain rfl (by decide +kernel)) (fun m => ef_absP m x) ?_
  intro p e s m below meth c s₁ Bd hml hZ hh hx hby hown X0 e0
  have N0 := Fr.nil n0
  refine own_lloadN X0.here hx hby d8_0 rfl ?_
  refine own_lconst X0.here hx hby d8_1 (v := (0 : Int64)) (by decide) ?_
  refine own_lcmp X0.here hx hby d8_2 ?_
  refine own_ifYes X0.here hx hby (pc' := 11) d8_3 ((if0 _ _).trans (flt (fun qq_ => hx0 ((lw_lt x (0 : Int64)).mp qq_))).2.1) (by decide) (by decide) ?_
  refine own_lloadN X0.here hx hby d8_11 rfl ?_
  obtain ⟨fs, hr, hrun, hended, hW, hsame⟩ := X0.leave (v := some (.long x)) (fun h => by rw [Bd.returns] at h; cases h)
  refine own_ret (t := s₁.setFrames fs) ?_ ⟨_, hrun, hended, _, _, rfl, ?_, ⟨_, rfl⟩, hW, hsame.mono (by decide) (by decide)⟩
  · exact retOut X0 hx Bd.returns rfl (Or.inr (Or.inl ⟨rfl, rfl, _, rfl⟩)) (hb hby d8_12) hr
  · show Q_absP Z x h0 n0 _ s₁.heap _
    rw [e0]
    exact ⟨rfl, N0, rfl⟩
theorem ef_mulX (m : MethodId) (x0 : Int64) (x1 : Int64) : entryFrame m #[(.long x0), (.long x1)] 10 = mkF m 0 #[.val (.long x0), .second, .val (.long x1), .second, .unset, .unset, .unset, .unset, .unset, .unset] [] := by first | (simp [entryFrame, mkF, argsToLocals, Value.category]; done) | rfl
theorem d7_0 : decode jdk_29_method_30_code 0 = .ok (.lload_n 0, 1) := by decide +kernel
theorem d7_1 : decode jdk_29_method_30_code 1 = .ok (.lload_n 2, 1) := by decide +kernel
theorem d7_2 : decode jdk_29_method_30_code 2 = .ok (.lmul, 1) := by decide +kernel
theorem d7_3 : decode jdk_29_method_30_code 3 = .ok (.lstore 4, 2) := by decide +kernel
theorem d7_5 : decode jdk_29_method_30_code 5 = .ok (.lload_n 0, 1) := by decide +kernel
theorem d7_6 : decode jdk_29_method_30_code 6 = .ok (.invokestatic 122, 3) := by decide +kernel
theorem pd_2 : parseMethodDescriptor "(J)J" = some ⟨[.long], some .long⟩ := by decide +kernel
theorem d7_9 : decode jdk_29_method_30_code 9 = .ok (.lstore 6, 2) := by decide +kernel
theorem d7_11 : decode jdk_29_method_30_code 11 = .ok (.lload_n 2, 1) := by decide +kernel
theorem d7_12 : decode jdk_29_method_30_code 12 = .ok (.invokestatic 122, 3) := by decide +kernel
theorem d7_15 : decode jdk_29_method_30_code 15 = .ok (.lstore 8, 2) := by decide +kernel
theorem d7_17 : decode jdk_29_method_30_code 17 = .ok (.lload 6, 2) := by decide +kernel
theorem d7_19 : decode jdk_29_method_30_code 19 = .ok (.lload 8, 2) := by decide +kernel
theorem d7_21 : decode jdk_29_method_30_code 21 = .ok (.lor, 1) := by decide +kernel
theorem d7_22 : decode jdk_29_method_30_code 22 = .ok (.bipush 31, 2) := by decide +kernel
theorem d7_24 : decode jdk_29_method_30_code 24 = .ok (.lushr, 1) := by decide +kernel
theorem d7_25 : decode jdk_29_method_30_code 25 = .ok (.lconst 0, 1) := by decide +kernel
theorem d7_26 : decode jdk_29_method_30_code 26 = .ok (.lcmp, 1) := by decide +kernel
theorem d7_27 : decode jdk_29_method_30_code 27 = .ok (.ifCond .eq 44, 3) := by decide +kernel
theorem d7_71 : decode jdk_29_method_30_code 71 = .ok (.lload 4, 2) := by decide +kernel
theorem d7_73 : decode jdk_29_method_30_code 73 = .ok (.lreturn, 1) := by decide +kernel
theorem d7_30 : decode jdk_29_method_30_code 30 = .ok (.lload_n 2, 1) := by decide +kernel
theorem d7_31 : decode jdk_29_method_30_code 31 = .ok (.lconst 0, 1) := by decide +kernel
theorem d7_32 : decode jdk_29_method_30_code 32 = .ok (.lcmp, 1) := by decide +kernel
theorem d7_33 : decode jdk_29_method_30_code 33 = .ok (.ifCond .eq 12, 3) := by decide +kernel
theorem d7_45 : decode jdk_29_method_30_code 45 = .ok (.lload_n 0, 1) := by decide +kernel
theorem d7_46 : decode jdk_29_method_30_code 46 = .ok (.ldc2_w 128, 3) := by decide +kernel
theorem d7_49 : decode jdk_29_method_30_code 49 = .ok (.lcmp, 1) := by decide +kernel
theorem d7_50 : decode jdk_29_method_30_code 50 = .ok (.ifCond .ne 21, 3) := by decide +kernel
theorem d7_36 : decode jdk_29_method_30_code 36 = .ok (.lload 4, 2) := by decide +kernel
theorem d7_38 : decode jdk_29_method_30_code 38 = .ok (.lload_n 2, 1) := by decide +kernel
theorem d7_39 : decode jdk_29_method_30_code 39 = .ok (.ldiv, 1) := by decide +kernel
theorem d7_40 : decode jdk_29_method_30_code 40 = .ok (.lload_n 0, 1) := by decide +kernel
theorem d7_41 : decode jdk_29_method_30_code 41 = .ok (.lcmp, 1) := by decide +kernel
theorem d7_42 : decode jdk_29_method_30_code 42 = .ok (.ifCond .ne 19, 3) := by decide +kernel
def Q_mulX (Z : State) (x : Int64) (y : Int64) (h0 : Heap) (n0 : Nat) (vR : Option Value) (hR : Heap) (LR : List Loc) : Prop := vR = some (.long (x * y)) ∧ Fr n0 LR ∧ hR = h0
set_option maxRecDepth 65536 in
set_option maxHeartbeats 40000000 in
theorem mulX (l : Launch) (Z : State) (a0 : Array Value) (hw : ∀ d ∈ tables_1, d.before a0 Z = true) (ws : List Jvm.Cond) (x : Int64) (y : Int64) (h0 : Heap) (n0 : Nat) (Z0 : n0 ≤ h0.size) (hx0 : ¬ (x < (0 : Int64))) (hy0 : ¬ (y < (0 : Int64))) (hdiv : ¬ (y = (0 : Int64)) → ((x * y) / y) = x) :
    own_M l (⟨"java/lang/Math", "multiplyExact", "(JJ)J"⟩ : MethodName) jdk_29_method_30_code 10 (some .long) ws ({ frames := 1, cells := 0, slots := 0, locals := 13 } : Room) Z #[(.long x), (.long y)] h0 (Q_mulX Z x y h0 n0) := by
  refine own_body (own := "java/lang/Math") rfl (Jvm.Free.JP.mathPlain rfl (by decide +kernel)) (fun m => ef_mulX m x y) ?_
  intro p e s m below meth c s₁ Bd hml hZ hh hx hby hown X0 e0
  have N0 := Fr.nil n0
  refine own_lloadN X0.here hx hby d7_0 rfl ?_
  refine own_lloadN X0.here hx hby d7_1 rfl ?_
  refine own_lmul X0.here hx hby d7_2 rfl ?_
  refine own_lstore X0.here hx hby d7_3 (l' := #[.val (.long x), .second, .val (.long y), .second, .val (.long (x * y)), .second, .unset, .unset, .unset, .unset]) rfl ?_
  refine own_lloadN X0.here hx hby d7_5 rfl ?_
  refine own_callS X0 hx hZ hown (own_w hw 57 rfl) (own_w hw 58 rfl) (own_w hw 55 rfl) (own_w hw 59 rfl) (by decide) (absP l Z a0 hw [] x h0 n0 Z0 hx0) 0 (Nat.le_of_eq rfl) (by decide) (by decide) (by rw [hml]; rfl) (argsL := [(.long x)]) (st := []) (lenOf pd_2 rfl) rfl rfl (by decide) (by decide) e0 hby d7_6 ?_
  intro T1 v1 L1 X1 hQ1
  obtain ⟨rfl, Nq1, eh1⟩ := hQ1
  have N1 := Fr.app N0 Nq1
  refine own_sh (T := T1) 9 #[.val (.long x), .second, .val (.long y), .second, .val (.long (x * y)), .second, .unset, .unset, .unset, .unset] [(.long x)] ?_
  refine own_lstore X1.here hx hby d7_9 (l' := #[.val (.long x), .second, .val (.long y), .second, .val (.long (x * y)), .second, .val (.long x), .second, .unset, .unset]) rfl ?_
  refine own_lloadN X1.here hx hby d7_11 rfl ?_
  refine own_callS X1 hx hZ hown (own_w hw 57 rfl) (own_w hw 58 rfl) (own_w hw 55 rfl) (own_w hw 59 rfl) (by decide) (absP l Z a0 hw [] y h0 n0 Z0 hy0) 0 (Nat.le_of_eq rfl) (by decide) (by decide) (by rw [hml]; rfl) (argsL := [(.long y)]) (st := []) (lenOf pd_2 rfl) rfl rfl (by decide) (by decide) eh1 hby d7_12 ?_
  intro T2 v2 L2 X2 hQ2
  obtain ⟨rfl, Nq2, eh2⟩ := hQ2
  have N2 := Fr.app N1 Nq2
  refine own_sh (T := T2) 15 #[.val (.long x), .second, .val (.long y), .second, .val (.long (x * y)), .second, .val (.long x), .second, .unset, .unset] [(.long y)] ?_
  refine own_lstore X2.here hx hby d7_15 (l' := #[.val (.long x), .second, .val (.long y), .second, .val (.long (x * y)), .second, .val (.long x), .second, .val (.long y), .second]) rfl ?_
  refine own_lload X2.here hx hby d7_17 rfl ?_
  refine own_lload X2.here hx hby d7_19 rfl ?_
  refine own_lor X2.here hx hby d7_21 rfl ?_
  refine own_bipush X2.here hx hby d7_22 (v := (31 : Int32)) (by decide) ?_
  refine own_lushr X2.here hx hby d7_24 rfl ?_
  refine own_lconst X2.here hx hby d7_25 (v := (0 : Int64)) (by decide) ?_
  refine own_lcmp X2.here hx hby d7_26 ?_
  by_cases hc27_3 : (((x ||| y).toUInt64 >>> ((31 : Int32) &&& 0x3f).toInt64.toUInt64).toInt64) = (0 : Int64)
  · refine own_ifYes X2.here hx hby (pc' := 71) d7_27 ((if0 _ _).trans (teq ((lw_eq (((x ||| y).toUInt64 >>> ((31 : Int32) &&& 0x3f).toInt64.toUInt64).toInt64) (0 : Int64)).mpr hc27_3)).1) (by decide) (by decide) ?_
    refine own_lload X2.here hx hby d7_71 rfl ?_
    obtain ⟨fs, hr, hrun, hended, hW, hsame⟩ := X2.leave (v := some (.long (x * y))) (fun h => by rw [Bd.returns] at h; cases h)
    refine own_ret (t := T2.setFrames fs) ?_ ⟨_, hrun, hended, _, _, rfl, ?_, ⟨_, rfl⟩, hW, hsame.mono (by decide) (by decide)⟩
    · exact retOut X2 hx Bd.returns rfl (Or.inr (Or.inl ⟨rfl, rfl, _, rfl⟩)) (hb hby d7_73) hr
    · show Q_mulX Z x y h0 n0 _ T2.heap _
      rw [eh2]
      exact ⟨rfl, N2, rfl⟩
  · refine own_ifNo X2.here hx hby d7_27 ((if0 _ _).trans (feq (fun qq_ => hc27_3 ((lw_eq (((x ||| y).toUInt64 >>> ((31 : Int32) &&& 0x3f).toInt64.toUInt64).toInt64) (0 : Int64)).mp qq_))).1) ?_
    refine own_lloadN X2.here hx hby d7_30 rfl ?_
    refine own_lconst X2.here hx hby d7_31 (v := (0 : Int64)) (by decide) ?_
    refine own_lcmp X2.here hx hby d7_32 ?_
    by_cases hc33_4 : y = (0 : Int64)
    · refine own_ifYes X2.here hx hby (pc' := 45) d7_33 ((if0 _ _).trans (teq ((lw_eq y (0 : Int64)).mpr hc33_4)).1) (by decide) (by decide) ?_
      refine own_lloadN X2.here hx hby d7_45 rfl ?_
      refine own_ldc2Long X2 hx hZ hown (own_w hw 63 rfl) hby d7_46 ?_
      refine own_lcmp X2.here hx hby d7_49 ?_
      refine own_ifYes X2.here hx hby (pc' := 71) d7_50 ((if0 _ _).trans (feq (fun qq_ => (show ¬ (x = (-9223372036854775808 : Int64)) from (fun q => hx0 (by rw [q]; decide))) ((lw_eq x (-9223372036854775808 : Int64)).mp qq_))).2) (by decide) (by decide) ?_
      refine own_lload X2.here hx hby d7_71 rfl ?_
      obtain ⟨fs, hr, hrun, hended, hW, hsame⟩ := X2.leave (v := some (.long (x * y))) (fun h => by rw [Bd.returns] at h; cases h)
      refine own_ret (t := T2.setFrames fs) ?_ ⟨_, hrun, hended, _, _, rfl, ?_, ⟨_, rfl⟩, hW, hsame.mono (by decide) (by decide)⟩
      · exact retOut X2 hx Bd.returns rfl (Or.inr (Or.inl ⟨rfl, rfl, _, rfl⟩)) (hb hby d7_73) hr
      · show Q_mulX Z x y h0 n0 _ T2.heap _
        rw [eh2]
        exact ⟨rfl, N2, rfl⟩
    · refine own_ifNo X2.here hx hby d7_33 ((if0 _ _).trans (feq (fun qq_ => hc33_4 ((lw_eq y (0 : Int64)).mp qq_))).1) ?_
      refine own_lload X2.here hx hby d7_36 rfl ?_
      refine own_lloadN X2.here hx hby d7_38 rfl ?_
      refine own_ldiv X2.here hx hby d7_39 hc33_4 rfl ?_
      refine own_lloadN X2.here hx hby d7_40 rfl ?_
      refine own_lcmp X2.here hx hby d7_41 ?_
      refine own_ifNo X2.here hx hby d7_42 ((if0 _ _).trans (teq ((lw_eq ((x * y) / y) x).mpr (show ((x * y) / y) = x from (hdiv hc33_4)))).2) ?_
      refine own_lloadN X2.here hx hby d7_45 rfl ?_
      refine own_ldc2Long X2 hx hZ hown (own_w hw 63 rfl) hby d7_46 ?_
      refine own_lcmp X2.here hx hby d7_49 ?_
      refine own_ifYes X2.here hx hby (pc' := 71) d7_50 ((if0 _ _).trans (feq (fun qq_ => (show ¬ (x = (-9223372036854775808 : Int64)) from (fun q => hx0 (by rw [q]; decide))) ((lw_eq x (-9223372036854775808 : Int64)).mp qq_))).2) (by decide) (by decide) ?_
      refine own_lload X2.here hx hby d7_71 rfl ?_
      obtain ⟨fs, hr, hrun, hended, hW, hsame⟩ := X2.leave (v := some (.long (x * y))) (fun h => by rw [Bd.returns] at h; cases h)
      refine own_ret (t := T2.setFrames fs) ?_ ⟨_, hrun, hended, _, _, rfl, ?_, ⟨_, rfl⟩, hW, hsame.mono (by decide) (by decide)⟩
      · exact retOut X2 hx Bd.returns rfl (Or.inr (Or.inl ⟨rfl, rfl, _, rfl⟩)) (hb hby d7_73) hr
      · show Q_mulX Z x y h0 n0 _ T2.heap _
        rw [eh2]
        exact ⟨rfl, N2, rfl⟩
theorem ef_amount_ (m : MethodId) (x0 : Nat) : entryFrame m #[(.ref x0)] 1 = mkF m 0 #[.val (.ref x0)] [] := by first | (simp [entryFrame, mkF, argsToLocals, Value.category]; done) | rfl
theorem pn_6 : plainName "com/example/voucher_engine/voucherengine/model/LineItem" = true := by first | (simp [plainName, overriddenIn]; done) | decide +kernel
theorem d6_0 : decode prog_36_method_2_code 0 = .ok (.aload_n 0, 1) := by decide +kernel
theorem d6_1 : decode prog_36_method_2_code 1 = .ok (.getfield 48, 3) := by decide +kernel
theorem d6_4 : decode prog_36_method_2_code 4 = .ok (.aload_n 0, 1) := by decide +kernel
theorem d6_5 : decode prog_36_method_2_code 5 = .ok (.getfield 51, 3) := by decide +kernel
theorem d6_8 : decode prog_36_method_2_code 8 = .ok (.invokestatic 54, 3) := by decide +kernel
theorem pd_3 : parseMethodDescriptor "(JJ)J" = some ⟨[.long, .long], some .long⟩ := by decide +kernel
theorem d6_11 : decode prog_36_method_2_code 11 = .ok (.lreturn, 1) := by decide +kernel
def Q_amount_ (Z : State) (t : Nat) (q : Int64) (u : Int64) (h0 : Heap) (n0 : Nat) (vR : Option Value) (hR : Heap) (LR : List Loc) : Prop := vR = some (.long (q * u)) ∧ Fr n0 LR ∧ hR = h0
set_option maxRecDepth 65536 in
set_option maxHeartbeats 40000000 in
theorem amount_ (l : Launch) (Z : State) (a0 : Array Value) (hw : ∀ d ∈ tables_1, d.before a0 Z = true) (ws : List Jvm.Cond) (t : Nat) (q : Int64) (u : Int64) (h0 : Heap) (n0 : Nat) (Z0 : n0 ≤ h0.size) (F_quantity_t : Fld Z h0 t "com/example/voucher_engine/voucherengine/model/LineItem" "quantity" "J" (.long q)) (F_unitAmount_t : Fld Z h0 t "com/example/voucher_engine/voucherengine/model/LineItem" "unitAmount" "J" (.long u)) (hx0 : ¬ (q < (0 : Int64))) (hy0 : ¬ (u < (0 : Int64))) (hdiv : ¬ (u = (0 : Int64)) → ((q * u) / u) = q) :
    own_M l (⟨"com/example/voucher_engine/voucherengine/model/LineItem", "amount", "()J"⟩ : MethodName) prog_36_method_2_code 1 (some .long) ws ({ frames := 2, cells := 0, slots := 0, locals := 34 } : Room) Z #[(.ref t)] h0 (Q_amount_ Z t q u h0 n0) := by
  refine own_body (own := "com/example/voucher_engine/voucherengine/model/LineItem") rfl (plainFor_of_name pn_6) (fun m => ef_amount_ m t) ?_
  intro p e s m below meth c s₁ Bd hml hZ hh hx hby hown X0 e0
  have N0 := Fr.nil n0
  have lt1 : h0.size > t := F_quantity_t.lt
  refine own_aloadN X0.here hx hby d6_0 rfl rfl ?_
  refine own_getF X0 hx hZ hown (host := "") (Or.inl (own_w hw 44 rfl)) Via.refl e0 F_quantity_t hby d6_1 ?_
  intro T2 X2 e2
  refine own_aloadN X2.here hx hby d6_4 rfl rfl ?_
  refine own_getF X2 hx hZ hown (host := "") (Or.inl (own_w hw 46 rfl)) Via.refl e2 F_unitAmount_t hby d6_5 ?_
  intro T3 X3 e3
  refine own_callS X3 hx hZ hown (own_w hw 53 rfl) (own_w hw 54 rfl) (own_w hw 55 rfl) (own_w hw 56 rfl) (by decide) (mulX l Z a0 hw [] q u h0 n0 Z0 hx0 hy0 hdiv) 0 (Nat.le_of_eq rfl) (by decide) (by decide) (by rw [hml]; rfl) (argsL := [(.long q), (.long u)]) (st := []) (lenOf pd_3 rfl) rfl rfl (by decide) (by decide) e3 hby d6_8 ?_
  intro T4 v4 L4 X4 hQ4
  obtain ⟨rfl, Nq4, eh4⟩ := hQ4
  have N4 := Fr.app N0 Nq4
  refine own_sh (T := T4) 11 #[.val (.ref t)] [(.long (q * u))] ?_
  obtain ⟨fs, hr, hrun, hended, hW, hsame⟩ := X4.leave (v := some (.long (q * u))) (fun h => by rw [Bd.returns] at h; cases h)
  refine own_ret (t := T4.setFrames fs) ?_ ⟨_, hrun, hended, _, _, rfl, ?_, ⟨_, rfl⟩, hW, hsame.mono (by decide) (by decide)⟩
  · exact retOut X4 hx Bd.returns rfl (Or.inr (Or.inl ⟨rfl, rfl, _, rfl⟩)) (hb hby d6_11) hr
  · show Q_amount_ Z t q u h0 n0 _ T4.heap _
    rw [eh4]
    exact ⟨rfl, N4, rfl⟩
theorem ef_max_y (m : MethodId) (x0 : Int64) (x1 : Int64) : entryFrame m #[(.long x0), (.long x1)] 4 = mkF m 0 #[.val (.long x0), .second, .val (.long x1), .second] [] := by first | (simp [entryFrame, mkF, argsToLocals, Value.category]; done) | rfl
theorem d9_0 : decode jdk_29_method_66_code 0 = .ok (.lload_n 0, 1) := by decide +kernel
theorem d9_1 : decode jdk_29_method_66_code 1 = .ok (.lload_n 2, 1) := by decide +kernel
theorem d9_2 : decode jdk_29_method_66_code 2 = .ok (.lcmp, 1) := by decide +kernel
theorem d9_3 : decode jdk_29_method_66_code 3 = .ok (.ifCond .lt 7, 3) := by decide +kernel
theorem d9_10 : decode jdk_29_method_66_code 10 = .ok (.lload_n 2, 1) := by decide +kernel
theorem d9_11 : decode jdk_29_method_66_code 11 = .ok (.lreturn, 1) := by decide +kernel
def Q_max_y (Z : State) (x : Int64) (y : Int64) (h0 : Heap) (n0 : Nat) (vR : Option Value) (hR : Heap) (LR : List Loc) : Prop := vR = some (.long y) ∧ Fr n0 LR ∧ hR = h0
set_option maxRecDepth 65536 in
set_option maxHeartbeats 40000000 in
theorem max_y (l : Launch) (Z : State) (a0 : Array Value) (hw : ∀ d ∈ tables_1, d.before a0 Z = true) (ws : List Jvm.Cond) (x : Int64) (y : Int64) (h0 : Heap) (n0 : Nat) (Z0 : n0 ≤ h0.size) (h : x < y) :
    own_M l (⟨"java/lang/Math", "max", "(JJ)J"⟩ : MethodName) jdk_29_method_66_code 4 (some .long) ws ({ frames := 0, cells := 0, slots := 0, locals := 0 } : Room) Z #[(.long x), (.long y)] h0 (Q_max_y Z x y h0 n0) := by
  refine own_body (own := "java/lang/Math") rfl (Jvm.Free.JP.mathPlain rfl (by decide +kernel)) (fun m => ef_max_y m x y) ?_
  intro p e s m below meth c s₁ Bd hml hZ hh hx hby hown X0 e0
  have N0 := Fr.nil n0
  refine own_lloadN X0.here hx hby d9_0 rfl ?_
  refine own_lloadN X0.here hx hby d9_1 rfl ?_
  refine own_lcmp X0.here hx hby d9_2 ?_
  refine own_ifYes X0.here hx hby (pc' := 10) d9_3 ((if0 _ _).trans (tlt ((lw_lt x y).mpr h)).1) (by decide) (by decide) ?_
  refine own_lloadN X0.here hx hby d9_10 rfl ?_
  obtain ⟨fs, hr, hrun, hended, hW, hsame⟩ := X0.leave (v := some (.long y)) (fun h => by rw [Bd.returns] at h; cases h)
  refine own_ret (t := s₁.setFrames fs) ?_ ⟨_, hrun, hended, _, _, rfl, ?_, ⟨_, rfl⟩, hW, hsame.mono (by decide) (by decide)⟩
  · exact retOut X0 hx Bd.returns rfl (Or.inr (Or.inl ⟨rfl, rfl, _, rfl⟩)) (hb hby d9_11) hr
  · show Q_max_y Z x y h0 n0 _ s₁.heap _
    rw [e0]
    exact ⟨rfl, N0, rfl⟩
theorem d9_6 : decode jdk_29_method_66_code 6 = .ok (.lload_n 0, 1) := by decide +kernel
theorem d9_7 : decode jdk_29_method_66_code 7 = .ok (.goto 4, 3) := by decide +kernel
def Q_max_x (Z : State) (x : Int64) (y : Int64) (h0 : Heap) (n0 : Nat) (vR : Option Value) (hR : Heap) (LR : List Loc) : Prop := vR = some (.long x) ∧ Fr n0 LR ∧ hR = h0
set_option maxRecDepth 65536 in
set_option maxHeartbeats 40000000 in
theorem max_x (l : Launch) (Z : State) (a0 : Array Value) (hw : ∀ d ∈ tables_1, d.before a0 Z = true) (ws : List Jvm.Cond) (x : Int64) (y : Int64) (h0 : Heap) (n0 : Nat) (Z0 : n0 ≤ h0.size) (h : ¬ (x < y)) :
    own_M l (⟨"java/lang/Math", "max", "(JJ)J"⟩ : MethodName) jdk_29_method_66_code 4 (some .long) ws ({ frames := 0, cells := 0, slots := 0, locals := 0 } : Room) Z #[(.long x), (.long y)] h0 (Q_max_x Z x y h0 n0) := by
  refine own_body (own := "java/lang/Math") rfl (Jvm.Free.JP.mathPlain rfl (by decide +kernel)) (fun m => ef_max_y m x y) ?_
  intro p e s m below meth c s₁ Bd hml hZ hh hx hby hown X0 e0
  have N0 := Fr.nil n0
  refine own_lloadN X0.here hx hby d9_0 rfl ?_
  refine own_lloadN X0.here hx hby d9_1 rfl ?_
  refine own_lcmp X0.here hx hby d9_2 ?_
  refine own_ifNo X0.here hx hby d9_3 ((if0 _ _).trans (flt (fun qq_ => h ((lw_lt x y).mp qq_))).1) ?_
  refine own_lloadN X0.here hx hby d9_6 rfl ?_
  refine own_goto X0.here hx hby (pc' := 11) d9_7 (by decide) (by decide) ?_
  obtain ⟨fs, hr, hrun, hended, hW, hsame⟩ := X0.leave (v := some (.long x)) (fun h => by rw [Bd.returns] at h; cases h)
  refine own_ret (t := s₁.setFrames fs) ?_ ⟨_, hrun, hended, _, _, rfl, ?_, ⟨_, rfl⟩, hW, hsame.mono (by decide) (by decide)⟩
  · exact retOut X0 hx Bd.returns rfl (Or.inr (Or.inl ⟨rfl, rfl, _, rfl⟩)) (hb hby d9_11) hr
  · show Q_max_x Z x y h0 n0 _ s₁.heap _
    rw [e0]
    exact ⟨rfl, N0, rfl⟩
theorem ef_rm0 (m : MethodId) (x0 : Int64) (x1 : Int64) (x2 : Int32) (x3 : Int32) : entryFrame m #[(.long x0), (.long x1), (.int x2), (.int x3)] maxLocals = mkF m 0 #[.val (.long x0), .second, .val (.long x1), .second, .val (.int x2), .val (.int x3), .unset, .unset, .unset, .unset, .unset, .unset, .unset, .unset, .unset] [] := by first | (simp [entryFrame, mkF, argsToLocals, Value.category, maxLocals]; done) | rfl
theorem pn_0 : plainName "com/example/voucher_engine/voucherengine/model/LineItemAmountPinLaw" = true := by first | (simp [plainName, overriddenIn]; done) | decide +kernel
theorem pd_4 : parseMethodDescriptor "(I)Lcom/example/voucher_engine/voucherengine/model/ItemType;" = some ⟨[.int], some (.object "com/example/voucher_engine/voucherengine/model/ItemType")⟩ := by decide +kernel
theorem pd_5 : parseMethodDescriptor "(Ljava/lang/String;Ljava/lang/String;Lcom/example/voucher_engine/voucherengine/model/ItemType;JJ)V" = some ⟨[(.object "java/lang/String"), (.object "java/lang/String"), (.object "com/example/voucher_engine/voucherengine/model/ItemType"), .long, .long], none⟩ := by decide +kernel
theorem pd_6 : parseMethodDescriptor "()J" = some ⟨[], some .long⟩ := by decide +kernel
def Q_rm0 (Z : State) (q1 : Int64) (q2 : Int64) (p3 : Int32) (p4 : Int32) (wP : Nat) (wA : Nat) (wC : Nat) (h0 : Heap) (n0 : Nat) (vR : Option Value) (hR : Heap) (LR : List Loc) : Prop := vR = some (.int 1) ∧ Fr n0 LR ∧ True
set_option maxRecDepth 65536 in
set_option maxHeartbeats 40000000 in
theorem rm0 (l : Launch) (Z : State) (a0 : Array Value) (hw : ∀ d ∈ tables_1, d.before a0 Z = true) (ws : List Jvm.Cond) (q1 : Int64) (q2 : Int64) (p3 : Int32) (p4 : Int32) (wP : Nat) (wA : Nat) (wC : Nat) (h0 : Heap) (n0 : Nat) (Z0 : n0 ≤ h0.size) (S_PLAN : Sta Z h0 "com/example/voucher_engine/voucherengine/model/ItemType" "PLAN" "Lcom/example/voucher_engine/voucherengine/model/ItemType;" (.ref wP)) (S_ADDON : Sta Z h0 "com/example/voucher_engine/voucherengine/model/ItemType" "ADDON" "Lcom/example/voucher_engine/voucherengine/model/ItemType;" (.ref wA)) (S_CHARGE : Sta Z h0 "com/example/voucher_engine/voucherengine/model/ItemType" "CHARGE" "Lcom/example/voucher_engine/voucherengine/model/ItemType;" (.ref wC)) :
    own_MW l x code maxLocals ret ws room_1 Z #[(.long q1), (.long q2), (.int p3), (.int p4)] h0 (Q_rm0 Z q1 q2 p3 p4 wP wA wC h0 n0) := by
  refine own_bodyW (own := "com/example/voucher_engine/voucherengine/model/LineItemAmountPinLaw") rfl (plainFor_of_name pn_0) (fun m => ef_rm0 m q1 q2 p3 p4) ?_
  intro p e s m below meth c s₁ Bd hml hZ hh hx hby hown X0 e0 hS0
  have N0 := Fr.nil n0
  have hk0 : h0.size ≤ h0.size := Nat.le_refl _
  have Y0 : Stand p l e room_1 (s.setVm s.vm) m #[(.long q1), (.long q2), (.int p3), (.int p4)] below meth c s₁ [] 0 0 := X0
  refine own_ldc2Long Y0 hx hZ hown (own_w hw 0 rfl) hby at_0 ?_
  refine own_lstore Y0.here hx hby at_3 (l' := #[.val (.long q1), .second, .val (.long q2), .second, .val (.int p3), .val (.int p4), .val (.long (9223372036854775807 : Int64)), .second, .unset, .unset, .unset, .unset, .unset, .unset, .unset]) rfl ?_
  refine own_lloadN Y0.here hx hby at_5 rfl ?_
  refine own_lload Y0.here hx hby at_6 rfl ?_
  refine own_land Y0.here hx hby at_8 rfl ?_
  refine own_iload Y0.here hx hby at_9 rfl ?_
  refine own_bipush Y0.here hx hby at_11 (v := (63 : Int32)) (by decide) ?_
  refine own_iand Y0.here hx hby at_13 rfl ?_
  refine own_lushr Y0.here hx hby at_14 rfl ?_
  refine own_sh (T := s₁) 15 #[.val (.long q1), .second, .val (.long q2), .second, .val (.int p3), .val (.int p4), .val (.long (9223372036854775807 : Int64)), .second, .unset, .unset, .unset, .unset, .unset, .unset, .unset] [(.long (((q1 &&& (9223372036854775807 : Int64)).toUInt64 >>> ((p3 &&& (63 : Int32)) &&& 0x3f).toInt64.toUInt64).toInt64))] ?_
  obtain ⟨u5, eu5⟩ : ∃ z : Int64, z = (((q1 &&& (9223372036854775807 : Int64)).toUInt64 >>> ((p3 &&& (63 : Int32)) &&& 0x3f).toInt64.toUInt64).toInt64) := ⟨_, rfl⟩
  rw [← eu5]
  have hu0 : ¬ (u5 < (0 : Int64)) := by rw [eu5]; exact own_ushr q1 _
  refine own_lstore Y0.here hx hby at_15 (l' := #[.val (.long q1), .second, .val (.long q2), .second, .val (.int p3), .val (.int p4), .val (.long (9223372036854775807 : Int64)), .second, .val (.long u5), .second, .unset, .unset, .unset, .unset, .unset]) rfl ?_
  refine own_lload Y0.here hx hby at_17 rfl ?_
  refine own_lconst Y0.here hx hby at_19 (v := (0 : Int64)) (by decide) ?_
  refine own_lcmp Y0.here hx hby at_20 ?_
  by_cases hc21_6 : u5 = (0 : Int64)
  · refine own_ifNo Y0.here hx hby at_21 ((if0 _ _).trans (teq ((lw_eq u5 (0 : Int64)).mpr hc21_6)).2) ?_
    refine own_lconst Y0.here hx hby at_24 (v := (1 : Int64)) (by decide) ?_
    refine own_lloadN Y0.here hx hby at_25 rfl ?_
    refine own_lload Y0.here hx hby at_26 rfl ?_
    refine own_land Y0.here hx hby at_28 rfl ?_
    refine own_sh (T := s₁) 29 #[.val (.long q1), .second, .val (.long q2), .second, .val (.int p3), .val (.int p4), .val (.long (9223372036854775807 : Int64)), .second, .val (.long u5), .second, .unset, .unset, .unset, .unset, .unset] [(.long (q2 &&& (9223372036854775807 : Int64))), (.long (1 : Int64))] ?_
    by_cases hm : (1 : Int64) < (q2 &&& (9223372036854775807 : Int64))
    · refine own_callS Y0 hx hZ hown (own_w hw 60 rfl) (own_w hw 61 rfl) (own_w hw 55 rfl) (own_w hw 62 rfl) (by decide) (max_y l Z a0 hw [] (1 : Int64) (q2 &&& (9223372036854775807 : Int64)) h0 n0 Z0 hm) 0 (Nat.le_of_eq rfl) (by decide) (by decide) (by rw [hml]; rfl) (argsL := [(.long (1 : Int64)), (.long (q2 &&& (9223372036854775807 : Int64)))]) (st := []) (lenOf pd_3 rfl) rfl rfl (by decide) (by decide) e0 hby at_29 ?_
      intro T7 v7 L7 X7 hQ7
      obtain ⟨rfl, Nq7, eh7⟩ := hQ7
      have N7 := Fr.app N0 Nq7
      refine own_sh (T := T7) 32 #[.val (.long q1), .second, .val (.long q2), .second, .val (.int p3), .val (.int p4), .val (.long (9223372036854775807 : Int64)), .second, .val (.long u5), .second, .unset, .unset, .unset, .unset, .unset] [(.long (q2 &&& (9223372036854775807 : Int64)))] ?_
      obtain ⟨q8, eq8⟩ : ∃ z : Int64, z = (q2 &&& (9223372036854775807 : Int64)) := ⟨_, rfl⟩
      rw [← eq8]
      have hq1 : ¬ (q8 < (1 : Int64)) := by rw [eq8]; exact own_lt1 hm
      have hr0 : (q8 * u5) = (0 : Int64) := by rw [hc21_6]; exact Int64.mul_zero
      have hdv : ¬ (u5 = (0 : Int64)) → ((q8 * u5) / u5) = q8 := fun z => absurd hc21_6 z
      refine own_lstore X7.here hx hby at_32 (l' := #[.val (.long q1), .second, .val (.long q2), .second, .val (.int p3), .val (.int p4), .val (.long (9223372036854775807 : Int64)), .second, .val (.long u5), .second, .val (.long q8), .second, .unset, .unset, .unset]) rfl ?_
      refine own_goto X7.here hx hby (pc' := 51) at_34 (by decide) (by decide) ?_
      refine own_newO X7 hx hZ hown (own_w hw 1 rfl) (own_w hw 2 rfl) (own_w hw 3 rfl) eh7 hby at_51 (by decide) (by decide) ?_
      intro T9 h9 b9 X9 e9 E9 g9 A9 D9 lt9
      have z10 : h0.size ≤ h9.size := E9.1
      have F11 : Fld Z h9 b9 "com/example/voucher_engine/voucherengine/model/LineItem" "id" "Ljava/lang/String;" .null := D9 (Or.inr (own_w hw 39 rfl)) (ty := (.object "java/lang/String")) (by decide)
      have F12 : Fld Z h9 b9 "com/example/voucher_engine/voucherengine/model/LineItem" "itemPriceId" "Ljava/lang/String;" .null := D9 (Or.inr (own_w hw 41 rfl)) (ty := (.object "java/lang/String")) (by decide)
      have F13 : Fld Z h9 b9 "com/example/voucher_engine/voucherengine/model/LineItem" "itemType" "Lcom/example/voucher_engine/voucherengine/model/ItemType;" .null := D9 (Or.inr (own_w hw 43 rfl)) (ty := (.object "com/example/voucher_engine/voucherengine/model/ItemType")) (by decide)
      have F14 : Fld Z h9 b9 "com/example/voucher_engine/voucherengine/model/LineItem" "quantity" "J" (.long (0 : Int64)) := D9 (Or.inr (own_w hw 45 rfl)) (ty := .long) (by decide)
      have F15 : Fld Z h9 b9 "com/example/voucher_engine/voucherengine/model/LineItem" "unitAmount" "J" (.long (0 : Int64)) := D9 (Or.inr (own_w hw 47 rfl)) (ty := .long) (by decide)
      refine own_dup X9.here hx hby at_54 rfl ?_
      have own_wS0 : ∀ a ∈ Bundle.stringAtoms, a.before a0 Z = true := own_wS hw
      refine own_ldcS X9 hx hZ hown (own_w hw 4 rfl) own_wS0 e9 hS0 (by omega) hby at_55 4 (by decide) (by decide) (by decide) (by decide) ?_
      intro a16 T16 h16 kk16 vm16 X16 e16 E16 hS16 hk16 hZ16 hown16
      have z17 : h9.size ≤ h16.size := E16.1
      refine own_ldcS X16 hx hZ16 hown16 (own_w hw 12 rfl) own_wS0 e16 hS16 (by omega) hby at_57 4 (by decide) (by decide) (by decide) (by decide) ?_
      intro a18 T18 h18 kk18 vm18 X18 e18 E18 hS18 hk18 hZ18 hown18
      have z19 : h16.size ≤ h18.size := E18.1
      refine own_iload X18.here hx hby at_59 rfl ?_
      have f20 : Sta Z h18 "com/example/voucher_engine/voucherengine/model/ItemType" "PLAN" "Lcom/example/voucher_engine/voucherengine/model/ItemType;" (.ref wP) := (((S_PLAN.ext E9).ext E16).ext E18)
      have f21 : Sta Z h18 "com/example/voucher_engine/voucherengine/model/ItemType" "ADDON" "Lcom/example/voucher_engine/voucherengine/model/ItemType;" (.ref wA) := (((S_ADDON.ext E9).ext E16).ext E18)
      have f22 : Sta Z h18 "com/example/voucher_engine/voucherengine/model/ItemType" "CHARGE" "Lcom/example/voucher_engine/voucherengine/model/ItemType;" (.ref wC) := (((S_CHARGE.ext E9).ext E16).ext E18)
      have z24 : n0 ≤ h18.size := by omega
      refine own_callS X18 hx hZ18 hown18 (own_w hw 13 rfl) (own_w hw 14 rfl) (own_w hw 15 rfl) (own_w hw 16 rfl) (by decide) (type_ l Z a0 hw [] p4 wP wA wC h18 n0 z24 f20 f21 f22) 4 (Nat.le_of_eq rfl) (by decide) (by decide) (by rw [hml]; rfl) (argsL := [(.int p4)]) (st := [(.ref a18), (.ref a16), (.ref b9), (.ref b9)]) (lenOf pd_4 rfl) rfl rfl (by decide) (by decide) e18 hby at_61 ?_
      intro T23 v23 L23 X23 hQ23
      obtain ⟨w_23, rfl, Nq23, eh23⟩ := hQ23
      have N23 := Fr.app N7 Nq23
      refine own_sh (T := T23) 64 #[.val (.long q1), .second, .val (.long q2), .second, .val (.int p3), .val (.int p4), .val (.long (9223372036854775807 : Int64)), .second, .val (.long u5), .second, .val (.long q8), .second, .unset, .unset, .unset] [(.ref w_23), (.ref a18), (.ref a16), (.ref b9), (.ref b9)] ?_
      refine own_lload X23.here hx hby at_64 rfl ?_
      refine own_lload X23.here hx hby at_66 rfl ?_
      have f25 : Exa Z h18 b9 "com/example/voucher_engine/voucherengine/model/LineItem" := ((A9.ext E16).ext E18)
      have f26 : Fld Z h18 b9 "com/example/voucher_engine/voucherengine/model/LineItem" "id" "Ljava/lang/String;" .null := ((F11.ext E16).ext E18)
      have f27 : Fld Z h18 b9 "com/example/voucher_engine/voucherengine/model/LineItem" "itemPriceId" "Ljava/lang/String;" .null := ((F12.ext E16).ext E18)
      have f28 : Fld Z h18 b9 "com/example/voucher_engine/voucherengine/model/LineItem" "itemType" "Lcom/example/voucher_engine/voucherengine/model/ItemType;" .null := ((F13.ext E16).ext E18)
      have f29 : Fld Z h18 b9 "com/example/voucher_engine/voucherengine/model/LineItem" "quantity" "J" (.long (0 : Int64)) := ((F14.ext E16).ext E18)
      have f30 : Fld Z h18 b9 "com/example/voucher_engine/voucherengine/model/LineItem" "unitAmount" "J" (.long (0 : Int64)) := ((F15.ext E16).ext E18)
      refine own_specialW X23 hx hZ18 rfl hown18 (own_w hw 20 rfl) (own_w hw 21 rfl) (own_w hw 3 rfl) (own_w hw 22 rfl) (by decide) (liInit l Z a0 hw [] b9 a16 a18 w_23 q8 u5 h18 n0 z24 f25 f26 f27 f28 f29 f30 (by omega) hq1 hu0) 1 (Nat.le_of_eq rfl) (by decide) (by decide) (by rw [hml]; rfl) (argsL := [(.ref a16), (.ref a18), (.ref w_23), (.long q8), (.long u5)]) (st := [(.ref b9)]) (a := b9) (lenOf pd_5 rfl) rfl rfl (by decide) (by decide) eh23 hby hS18 (by omega) at_68 ?_
      intro T31 v31 L31 vm31 X31 hS31 hZ31 hown31 hg31 hQ31
      obtain ⟨rfl, Nq31, K31, P31_0, P31_1, P31_2⟩ := hQ31
      have N31 := Fr.app N23 Nq31
      have z32 : h18.size ≤ T31.heap.size := K31.1
      have lt33 : T31.heap.size > b9 := P31_0.lt
      refine own_sh (T := T31) 71 #[.val (.long q1), .second, .val (.long q2), .second, .val (.int p3), .val (.int p4), .val (.long (9223372036854775807 : Int64)), .second, .val (.long u5), .second, .val (.long q8), .second, .unset, .unset, .unset] [(.ref b9)] ?_
      refine own_astore X31.here hx hby at_71 rfl (l' := #[.val (.long q1), .second, .val (.long q2), .second, .val (.int p3), .val (.int p4), .val (.long (9223372036854775807 : Int64)), .second, .val (.long u5), .second, .val (.long q8), .second, .val (.ref b9), .unset, .unset]) rfl ?_
      refine own_aload X31.here hx hby at_73 rfl rfl ?_
      have z35 : n0 ≤ T31.heap.size := by omega
      refine own_virtual X31 hx hZ31 hown31 (own_w hw 48 rfl) (own_w hw 49 rfl) (notFace_of_selects (args := #[]) (mvT hZ31 (own_w hw 51 rfl))) (own_w hw 51 rfl) (own_w hw 50 rfl) (own_w hw 3 rfl) (own_w hw 52 rfl) (by decide) (amount_ l Z a0 hw [] b9 q8 u5 T31.heap n0 z35 P31_1 P31_2 (own_lt0 hq1) hu0 hdv) 0 (Nat.le_of_eq rfl) (by decide) (by decide) (by rw [hml]; rfl) (argsL := []) (st := []) P31_0 (lenOf pd_6 rfl) rfl rfl (by decide) (by decide) rfl hby at_75 ?_
      intro T34 v34 L34 X34 hQ34
      obtain ⟨rfl, Nq34, eh34⟩ := hQ34
      have N34 := Fr.app N31 Nq34
      refine own_sh (T := T34) 78 #[.val (.long q1), .second, .val (.long q2), .second, .val (.int p3), .val (.int p4), .val (.long (9223372036854775807 : Int64)), .second, .val (.long u5), .second, .val (.long q8), .second, .val (.ref b9), .unset, .unset] [(.long (q8 * u5))] ?_
      refine own_lstore X34.here hx hby at_78 (l' := #[.val (.long q1), .second, .val (.long q2), .second, .val (.int p3), .val (.int p4), .val (.long (9223372036854775807 : Int64)), .second, .val (.long u5), .second, .val (.long q8), .second, .val (.ref b9), .val (.long (q8 * u5)), .second]) rfl ?_
      refine own_lload X34.here hx hby at_80 rfl ?_
      refine own_lconst X34.here hx hby at_82 (v := (0 : Int64)) (by decide) ?_
      refine own_lcmp X34.here hx hby at_83 ?_
      refine own_ifNo X34.here hx hby at_84 ((if0 _ _).trans (teq ((lw_eq u5 (0 : Int64)).mpr hc21_6)).2) ?_
      refine own_lload X34.here hx hby at_87 rfl ?_
      refine own_lconst X34.here hx hby at_89 (v := (0 : Int64)) (by decide) ?_
      refine own_lcmp X34.here hx hby at_90 ?_
      refine own_ifNo X34.here hx hby at_91 ((if0 _ _).trans (teq ((lw_eq (q8 * u5) (0 : Int64)).mpr hr0)).2) ?_
      refine own_iconst X34.here hx hby at_94 (v := (1 : Int32)) (by decide) ?_
      refine own_goto X34.here hx hby (pc' := 99) at_95 (by decide) (by decide) ?_
      obtain ⟨fs, hr, hrun, hended, hRW⟩ := X34.leaveW hS31 (by rw [eh34]; omega) (v := some (.int 1)) (fun h => by rw [Bd.returns] at h; cases h)
      refine own_ret (t := T34.setFrames fs) ?_ ⟨_, hrun, hended, _, _, rfl, ?_, hRW.1, hRW.2.1, hRW.2.2.1, hRW.2.2.2.mono (by decide) (by decide)⟩
      · exact retN X34 hx (t := .boolean) Bd.returns (by simp) (hb hby at_99) hr
      · show Q_rm0 Z q1 q2 p3 p4 wP wA wC h0 n0 _ T34.heap _
        rw [eh34]
        exact ⟨rfl, N34, trivial⟩
    · refine own_callS Y0 hx hZ hown (own_w hw 60 rfl) (own_w hw 61 rfl) (own_w hw 55 rfl) (own_w hw 62 rfl) (by decide) (max_x l Z a0 hw [] (1 : Int64) (q2 &&& (9223372036854775807 : Int64)) h0 n0 Z0 hm) 0 (Nat.le_of_eq rfl) (by decide) (by decide) (by rw [hml]; rfl) (argsL := [(.long (1 : Int64)), (.long (q2 &&& (9223372036854775807 : Int64)))]) (st := []) (lenOf pd_3 rfl) rfl rfl (by decide) (by decide) e0 hby at_29 ?_
      intro T36 v36 L36 X36 hQ36
      obtain ⟨rfl, Nq36, eh36⟩ := hQ36
      have N36 := Fr.app N0 Nq36
      refine own_sh (T := T36) 32 #[.val (.long q1), .second, .val (.long q2), .second, .val (.int p3), .val (.int p4), .val (.long (9223372036854775807 : Int64)), .second, .val (.long u5), .second, .unset, .unset, .unset, .unset, .unset] [(.long (1 : Int64))] ?_
      obtain ⟨q37, eq37⟩ : ∃ z : Int64, z = (1 : Int64) := ⟨_, rfl⟩
      rw [← eq37]
      have hq1 : ¬ (q37 < (1 : Int64)) := by rw [eq37]; decide
      have hr0 : (q37 * u5) = (0 : Int64) := by rw [hc21_6]; exact Int64.mul_zero
      have hdv : ¬ (u5 = (0 : Int64)) → ((q37 * u5) / u5) = q37 := fun z => absurd hc21_6 z
      refine own_lstore X36.here hx hby at_32 (l' := #[.val (.long q1), .second, .val (.long q2), .second, .val (.int p3), .val (.int p4), .val (.long (9223372036854775807 : Int64)), .second, .val (.long u5), .second, .val (.long q37), .second, .unset, .unset, .unset]) rfl ?_
      refine own_goto X36.here hx hby (pc' := 51) at_34 (by decide) (by decide) ?_
      refine own_newO X36 hx hZ hown (own_w hw 1 rfl) (own_w hw 2 rfl) (own_w hw 3 rfl) eh36 hby at_51 (by decide) (by decide) ?_
      intro T38 h38 b38 X38 e38 E38 g38 A38 D38 lt38
      have z39 : h0.size ≤ h38.size := E38.1
      have F40 : Fld Z h38 b38 "com/example/voucher_engine/voucherengine/model/LineItem" "id" "Ljava/lang/String;" .null := D38 (Or.inr (own_w hw 39 rfl)) (ty := (.object "java/lang/String")) (by decide)
      have F41 : Fld Z h38 b38 "com/example/voucher_engine/voucherengine/model/LineItem" "itemPriceId" "Ljava/lang/String;" .null := D38 (Or.inr (own_w hw 41 rfl)) (ty := (.object "java/lang/String")) (by decide)
      have F42 : Fld Z h38 b38 "com/example/voucher_engine/voucherengine/model/LineItem" "itemType" "Lcom/example/voucher_engine/voucherengine/model/ItemType;" .null := D38 (Or.inr (own_w hw 43 rfl)) (ty := (.object "com/example/voucher_engine/voucherengine/model/ItemType")) (by decide)
      have F43 : Fld Z h38 b38 "com/example/voucher_engine/voucherengine/model/LineItem" "quantity" "J" (.long (0 : Int64)) := D38 (Or.inr (own_w hw 45 rfl)) (ty := .long) (by decide)
      have F44 : Fld Z h38 b38 "com/example/voucher_engine/voucherengine/model/LineItem" "unitAmount" "J" (.long (0 : Int64)) := D38 (Or.inr (own_w hw 47 rfl)) (ty := .long) (by decide)
      refine own_dup X38.here hx hby at_54 rfl ?_
      have own_wS0 : ∀ a ∈ Bundle.stringAtoms, a.before a0 Z = true := own_wS hw
      refine own_ldcS X38 hx hZ hown (own_w hw 4 rfl) own_wS0 e38 hS0 (by omega) hby at_55 4 (by decide) (by decide) (by decide) (by decide) ?_
      intro a45 T45 h45 kk45 vm45 X45 e45 E45 hS45 hk45 hZ45 hown45
      have z46 : h38.size ≤ h45.size := E45.1
      refine own_ldcS X45 hx hZ45 hown45 (own_w hw 12 rfl) own_wS0 e45 hS45 (by omega) hby at_57 4 (by decide) (by decide) (by decide) (by decide) ?_
      intro a47 T47 h47 kk47 vm47 X47 e47 E47 hS47 hk47 hZ47 hown47
      have z48 : h45.size ≤ h47.size := E47.1
      refine own_iload X47.here hx hby at_59 rfl ?_
      have f49 : Sta Z h47 "com/example/voucher_engine/voucherengine/model/ItemType" "PLAN" "Lcom/example/voucher_engine/voucherengine/model/ItemType;" (.ref wP) := (((S_PLAN.ext E38).ext E45).ext E47)
      have f50 : Sta Z h47 "com/example/voucher_engine/voucherengine/model/ItemType" "ADDON" "Lcom/example/voucher_engine/voucherengine/model/ItemType;" (.ref wA) := (((S_ADDON.ext E38).ext E45).ext E47)
      have f51 : Sta Z h47 "com/example/voucher_engine/voucherengine/model/ItemType" "CHARGE" "Lcom/example/voucher_engine/voucherengine/model/ItemType;" (.ref wC) := (((S_CHARGE.ext E38).ext E45).ext E47)
      have z53 : n0 ≤ h47.size := by omega
      refine own_callS X47 hx hZ47 hown47 (own_w hw 13 rfl) (own_w hw 14 rfl) (own_w hw 15 rfl) (own_w hw 16 rfl) (by decide) (type_ l Z a0 hw [] p4 wP wA wC h47 n0 z53 f49 f50 f51) 4 (Nat.le_of_eq rfl) (by decide) (by decide) (by rw [hml]; rfl) (argsL := [(.int p4)]) (st := [(.ref a47), (.ref a45), (.ref b38), (.ref b38)]) (lenOf pd_4 rfl) rfl rfl (by decide) (by decide) e47 hby at_61 ?_
      intro T52 v52 L52 X52 hQ52
      obtain ⟨w_52, rfl, Nq52, eh52⟩ := hQ52
      have N52 := Fr.app N36 Nq52
      refine own_sh (T := T52) 64 #[.val (.long q1), .second, .val (.long q2), .second, .val (.int p3), .val (.int p4), .val (.long (9223372036854775807 : Int64)), .second, .val (.long u5), .second, .val (.long q37), .second, .unset, .unset, .unset] [(.ref w_52), (.ref a47), (.ref a45), (.ref b38), (.ref b38)] ?_
      refine own_lload X52.here hx hby at_64 rfl ?_
      refine own_lload X52.here hx hby at_66 rfl ?_
      have f54 : Exa Z h47 b38 "com/example/voucher_engine/voucherengine/model/LineItem" := ((A38.ext E45).ext E47)
      have f55 : Fld Z h47 b38 "com/example/voucher_engine/voucherengine/model/LineItem" "id" "Ljava/lang/String;" .null := ((F40.ext E45).ext E47)
      have f56 : Fld Z h47 b38 "com/example/voucher_engine/voucherengine/model/LineItem" "itemPriceId" "Ljava/lang/String;" .null := ((F41.ext E45).ext E47)
      have f57 : Fld Z h47 b38 "com/example/voucher_engine/voucherengine/model/LineItem" "itemType" "Lcom/example/voucher_engine/voucherengine/model/ItemType;" .null := ((F42.ext E45).ext E47)
      have f58 : Fld Z h47 b38 "com/example/voucher_engine/voucherengine/model/LineItem" "quantity" "J" (.long (0 : Int64)) := ((F43.ext E45).ext E47)
      have f59 : Fld Z h47 b38 "com/example/voucher_engine/voucherengine/model/LineItem" "unitAmount" "J" (.long (0 : Int64)) := ((F44.ext E45).ext E47)
      refine own_specialW X52 hx hZ47 rfl hown47 (own_w hw 20 rfl) (own_w hw 21 rfl) (own_w hw 3 rfl) (own_w hw 22 rfl) (by decide) (liInit l Z a0 hw [] b38 a45 a47 w_52 q37 u5 h47 n0 z53 f54 f55 f56 f57 f58 f59 (by omega) hq1 hu0) 1 (Nat.le_of_eq rfl) (by decide) (by decide) (by rw [hml]; rfl) (argsL := [(.ref a45), (.ref a47), (.ref w_52), (.long q37), (.long u5)]) (st := [(.ref b38)]) (a := b38) (lenOf pd_5 rfl) rfl rfl (by decide) (by decide) eh52 hby hS47 (by omega) at_68 ?_
      intro T60 v60 L60 vm60 X60 hS60 hZ60 hown60 hg60 hQ60
      obtain ⟨rfl, Nq60, K60, P60_0, P60_1, P60_2⟩ := hQ60
      have N60 := Fr.app N52 Nq60
      have z61 : h47.size ≤ T60.heap.size := K60.1
      have lt62 : T60.heap.size > b38 := P60_0.lt
      refine own_sh (T := T60) 71 #[.val (.long q1), .second, .val (.long q2), .second, .val (.int p3), .val (.int p4), .val (.long (9223372036854775807 : Int64)), .second, .val (.long u5), .second, .val (.long q37), .second, .unset, .unset, .unset] [(.ref b38)] ?_
      refine own_astore X60.here hx hby at_71 rfl (l' := #[.val (.long q1), .second, .val (.long q2), .second, .val (.int p3), .val (.int p4), .val (.long (9223372036854775807 : Int64)), .second, .val (.long u5), .second, .val (.long q37), .second, .val (.ref b38), .unset, .unset]) rfl ?_
      refine own_aload X60.here hx hby at_73 rfl rfl ?_
      have z64 : n0 ≤ T60.heap.size := by omega
      refine own_virtual X60 hx hZ60 hown60 (own_w hw 48 rfl) (own_w hw 49 rfl) (notFace_of_selects (args := #[]) (mvT hZ60 (own_w hw 51 rfl))) (own_w hw 51 rfl) (own_w hw 50 rfl) (own_w hw 3 rfl) (own_w hw 52 rfl) (by decide) (amount_ l Z a0 hw [] b38 q37 u5 T60.heap n0 z64 P60_1 P60_2 (own_lt0 hq1) hu0 hdv) 0 (Nat.le_of_eq rfl) (by decide) (by decide) (by rw [hml]; rfl) (argsL := []) (st := []) P60_0 (lenOf pd_6 rfl) rfl rfl (by decide) (by decide) rfl hby at_75 ?_
      intro T63 v63 L63 X63 hQ63
      obtain ⟨rfl, Nq63, eh63⟩ := hQ63
      have N63 := Fr.app N60 Nq63
      refine own_sh (T := T63) 78 #[.val (.long q1), .second, .val (.long q2), .second, .val (.int p3), .val (.int p4), .val (.long (9223372036854775807 : Int64)), .second, .val (.long u5), .second, .val (.long q37), .second, .val (.ref b38), .unset, .unset] [(.long (q37 * u5))] ?_
      refine own_lstore X63.here hx hby at_78 (l' := #[.val (.long q1), .second, .val (.long q2), .second, .val (.int p3), .val (.int p4), .val (.long (9223372036854775807 : Int64)), .second, .val (.long u5), .second, .val (.long q37), .second, .val (.ref b38), .val (.long (q37 * u5)), .second]) rfl ?_
      refine own_lload X63.here hx hby at_80 rfl ?_
      refine own_lconst X63.here hx hby at_82 (v := (0 : Int64)) (by decide) ?_
      refine own_lcmp X63.here hx hby at_83 ?_
      refine own_ifNo X63.here hx hby at_84 ((if0 _ _).trans (teq ((lw_eq u5 (0 : Int64)).mpr hc21_6)).2) ?_
      refine own_lload X63.here hx hby at_87 rfl ?_
      refine own_lconst X63.here hx hby at_89 (v := (0 : Int64)) (by decide) ?_
      refine own_lcmp X63.here hx hby at_90 ?_
      refine own_ifNo X63.here hx hby at_91 ((if0 _ _).trans (teq ((lw_eq (q37 * u5) (0 : Int64)).mpr hr0)).2) ?_
      refine own_iconst X63.here hx hby at_94 (v := (1 : Int32)) (by decide) ?_
      refine own_goto X63.here hx hby (pc' := 99) at_95 (by decide) (by decide) ?_
      obtain ⟨fs, hr, hrun, hended, hRW⟩ := X63.leaveW hS60 (by rw [eh63]; omega) (v := some (.int 1)) (fun h => by rw [Bd.returns] at h; cases h)
      refine own_ret (t := T63.setFrames fs) ?_ ⟨_, hrun, hended, _, _, rfl, ?_, hRW.1, hRW.2.1, hRW.2.2.1, hRW.2.2.2.mono (by decide) (by decide)⟩
      · exact retN X63 hx (t := .boolean) Bd.returns (by simp) (hb hby at_99) hr
      · show Q_rm0 Z q1 q2 p3 p4 wP wA wC h0 n0 _ T63.heap _
        rw [eh63]
        exact ⟨rfl, N63, trivial⟩
  · refine own_ifYes Y0.here hx hby (pc' := 37) at_21 ((if0 _ _).trans (feq (fun qq_ => hc21_6 ((lw_eq u5 (0 : Int64)).mp qq_))).2) (by decide) (by decide) ?_
    refine own_lconst Y0.here hx hby at_37 (v := (1 : Int64)) (by decide) ?_
    refine own_lloadN Y0.here hx hby at_38 rfl ?_
    refine own_lload Y0.here hx hby at_39 rfl ?_
    refine own_land Y0.here hx hby at_41 rfl ?_
    refine own_lload Y0.here hx hby at_42 rfl ?_
    refine own_lload Y0.here hx hby at_44 rfl ?_
    obtain ⟨hMu, hQ0⟩ := own_q u5 q2 hu0 hc21_6
    refine own_ldiv Y0.here hx hby at_46 hc21_6 rfl ?_
    refine own_lrem Y0.here hx hby at_47 hMu rfl ?_
    refine own_ladd Y0.here hx hby at_48 rfl ?_
    refine own_sh (T := s₁) 49 #[.val (.long q1), .second, .val (.long q2), .second, .val (.int p3), .val (.int p4), .val (.long (9223372036854775807 : Int64)), .second, .val (.long u5), .second, .unset, .unset, .unset, .unset, .unset] [(.long ((1 : Int64) + ((q2 &&& (9223372036854775807 : Int64)) % ((9223372036854775807 : Int64) / u5))))] ?_
    obtain ⟨q65, eq65⟩ : ∃ z : Int64, z = ((1 : Int64) + ((q2 &&& (9223372036854775807 : Int64)) % ((9223372036854775807 : Int64) / u5))) := ⟨_, rfl⟩
    rw [← eq65]
    obtain ⟨hq1, hdv0, hr0, hr1⟩ := hQ0 q65 eq65
    have hdv : ¬ (u5 = (0 : Int64)) → ((q65 * u5) / u5) = q65 := fun _ => hdv0
    refine own_lstore Y0.here hx hby at_49 (l' := #[.val (.long q1), .second, .val (.long q2), .second, .val (.int p3), .val (.int p4), .val (.long (9223372036854775807 : Int64)), .second, .val (.long u5), .second, .val (.long q65), .second, .unset, .unset, .unset]) rfl ?_
    refine own_newO Y0 hx hZ hown (own_w hw 1 rfl) (own_w hw 2 rfl) (own_w hw 3 rfl) e0 hby at_51 (by decide) (by decide) ?_
    intro T66 h66 b66 X66 e66 E66 g66 A66 D66 lt66
    have z67 : h0.size ≤ h66.size := E66.1
    have F68 : Fld Z h66 b66 "com/example/voucher_engine/voucherengine/model/LineItem" "id" "Ljava/lang/String;" .null := D66 (Or.inr (own_w hw 39 rfl)) (ty := (.object "java/lang/String")) (by decide)
    have F69 : Fld Z h66 b66 "com/example/voucher_engine/voucherengine/model/LineItem" "itemPriceId" "Ljava/lang/String;" .null := D66 (Or.inr (own_w hw 41 rfl)) (ty := (.object "java/lang/String")) (by decide)
    have F70 : Fld Z h66 b66 "com/example/voucher_engine/voucherengine/model/LineItem" "itemType" "Lcom/example/voucher_engine/voucherengine/model/ItemType;" .null := D66 (Or.inr (own_w hw 43 rfl)) (ty := (.object "com/example/voucher_engine/voucherengine/model/ItemType")) (by decide)
    have F71 : Fld Z h66 b66 "com/example/voucher_engine/voucherengine/model/LineItem" "quantity" "J" (.long (0 : Int64)) := D66 (Or.inr (own_w hw 45 rfl)) (ty := .long) (by decide)
    have F72 : Fld Z h66 b66 "com/example/voucher_engine/voucherengine/model/LineItem" "unitAmount" "J" (.long (0 : Int64)) := D66 (Or.inr (own_w hw 47 rfl)) (ty := .long) (by decide)
    refine own_dup X66.here hx hby at_54 rfl ?_
    have own_wS0 : ∀ a ∈ Bundle.stringAtoms, a.before a0 Z = true := own_wS hw
    refine own_ldcS X66 hx hZ hown (own_w hw 4 rfl) own_wS0 e66 hS0 (by omega) hby at_55 4 (by decide) (by decide) (by decide) (by decide) ?_
    intro a73 T73 h73 kk73 vm73 X73 e73 E73 hS73 hk73 hZ73 hown73
    have z74 : h66.size ≤ h73.size := E73.1
    refine own_ldcS X73 hx hZ73 hown73 (own_w hw 12 rfl) own_wS0 e73 hS73 (by omega) hby at_57 4 (by decide) (by decide) (by decide) (by decide) ?_
    intro a75 T75 h75 kk75 vm75 X75 e75 E75 hS75 hk75 hZ75 hown75
    have z76 : h73.size ≤ h75.size := E75.1
    refine own_iload X75.here hx hby at_59 rfl ?_
    have f77 : Sta Z h75 "com/example/voucher_engine/voucherengine/model/ItemType" "PLAN" "Lcom/example/voucher_engine/voucherengine/model/ItemType;" (.ref wP) := (((S_PLAN.ext E66).ext E73).ext E75)
    have f78 : Sta Z h75 "com/example/voucher_engine/voucherengine/model/ItemType" "ADDON" "Lcom/example/voucher_engine/voucherengine/model/ItemType;" (.ref wA) := (((S_ADDON.ext E66).ext E73).ext E75)
    have f79 : Sta Z h75 "com/example/voucher_engine/voucherengine/model/ItemType" "CHARGE" "Lcom/example/voucher_engine/voucherengine/model/ItemType;" (.ref wC) := (((S_CHARGE.ext E66).ext E73).ext E75)
    have z81 : n0 ≤ h75.size := by omega
    refine own_callS X75 hx hZ75 hown75 (own_w hw 13 rfl) (own_w hw 14 rfl) (own_w hw 15 rfl) (own_w hw 16 rfl) (by decide) (type_ l Z a0 hw [] p4 wP wA wC h75 n0 z81 f77 f78 f79) 4 (Nat.le_of_eq rfl) (by decide) (by decide) (by rw [hml]; rfl) (argsL := [(.int p4)]) (st := [(.ref a75), (.ref a73), (.ref b66), (.ref b66)]) (lenOf pd_4 rfl) rfl rfl (by decide) (by decide) e75 hby at_61 ?_
    intro T80 v80 L80 X80 hQ80
    obtain ⟨w_80, rfl, Nq80, eh80⟩ := hQ80
    have N80 := Fr.app N0 Nq80
    refine own_sh (T := T80) 64 #[.val (.long q1), .second, .val (.long q2), .second, .val (.int p3), .val (.int p4), .val (.long (9223372036854775807 : Int64)), .second, .val (.long u5), .second, .val (.long q65), .second, .unset, .unset, .unset] [(.ref w_80), (.ref a75), (.ref a73), (.ref b66), (.ref b66)] ?_
    refine own_lload X80.here hx hby at_64 rfl ?_
    refine own_lload X80.here hx hby at_66 rfl ?_
    have f82 : Exa Z h75 b66 "com/example/voucher_engine/voucherengine/model/LineItem" := ((A66.ext E73).ext E75)
    have f83 : Fld Z h75 b66 "com/example/voucher_engine/voucherengine/model/LineItem" "id" "Ljava/lang/String;" .null := ((F68.ext E73).ext E75)
    have f84 : Fld Z h75 b66 "com/example/voucher_engine/voucherengine/model/LineItem" "itemPriceId" "Ljava/lang/String;" .null := ((F69.ext E73).ext E75)
    have f85 : Fld Z h75 b66 "com/example/voucher_engine/voucherengine/model/LineItem" "itemType" "Lcom/example/voucher_engine/voucherengine/model/ItemType;" .null := ((F70.ext E73).ext E75)
    have f86 : Fld Z h75 b66 "com/example/voucher_engine/voucherengine/model/LineItem" "quantity" "J" (.long (0 : Int64)) := ((F71.ext E73).ext E75)
    have f87 : Fld Z h75 b66 "com/example/voucher_engine/voucherengine/model/LineItem" "unitAmount" "J" (.long (0 : Int64)) := ((F72.ext E73).ext E75)
    refine own_specialW X80 hx hZ75 rfl hown75 (own_w hw 20 rfl) (own_w hw 21 rfl) (own_w hw 3 rfl) (own_w hw 22 rfl) (by decide) (liInit l Z a0 hw [] b66 a73 a75 w_80 q65 u5 h75 n0 z81 f82 f83 f84 f85 f86 f87 (by omega) hq1 hu0) 1 (Nat.le_of_eq rfl) (by decide) (by decide) (by rw [hml]; rfl) (argsL := [(.ref a73), (.ref a75), (.ref w_80), (.long q65), (.long u5)]) (st := [(.ref b66)]) (a := b66) (lenOf pd_5 rfl) rfl rfl (by decide) (by decide) eh80 hby hS75 (by omega) at_68 ?_
    intro T88 v88 L88 vm88 X88 hS88 hZ88 hown88 hg88 hQ88
    obtain ⟨rfl, Nq88, K88, P88_0, P88_1, P88_2⟩ := hQ88
    have N88 := Fr.app N80 Nq88
    have z89 : h75.size ≤ T88.heap.size := K88.1
    have lt90 : T88.heap.size > b66 := P88_0.lt
    refine own_sh (T := T88) 71 #[.val (.long q1), .second, .val (.long q2), .second, .val (.int p3), .val (.int p4), .val (.long (9223372036854775807 : Int64)), .second, .val (.long u5), .second, .val (.long q65), .second, .unset, .unset, .unset] [(.ref b66)] ?_
    refine own_astore X88.here hx hby at_71 rfl (l' := #[.val (.long q1), .second, .val (.long q2), .second, .val (.int p3), .val (.int p4), .val (.long (9223372036854775807 : Int64)), .second, .val (.long u5), .second, .val (.long q65), .second, .val (.ref b66), .unset, .unset]) rfl ?_
    refine own_aload X88.here hx hby at_73 rfl rfl ?_
    have z92 : n0 ≤ T88.heap.size := by omega
    refine own_virtual X88 hx hZ88 hown88 (own_w hw 48 rfl) (own_w hw 49 rfl) (notFace_of_selects (args := #[]) (mvT hZ88 (own_w hw 51 rfl))) (own_w hw 51 rfl) (own_w hw 50 rfl) (own_w hw 3 rfl) (own_w hw 52 rfl) (by decide) (amount_ l Z a0 hw [] b66 q65 u5 T88.heap n0 z92 P88_1 P88_2 (own_lt0 hq1) hu0 hdv) 0 (Nat.le_of_eq rfl) (by decide) (by decide) (by rw [hml]; rfl) (argsL := []) (st := []) P88_0 (lenOf pd_6 rfl) rfl rfl (by decide) (by decide) rfl hby at_75 ?_
    intro T91 v91 L91 X91 hQ91
    obtain ⟨rfl, Nq91, eh91⟩ := hQ91
    have N91 := Fr.app N88 Nq91
    refine own_sh (T := T91) 78 #[.val (.long q1), .second, .val (.long q2), .second, .val (.int p3), .val (.int p4), .val (.long (9223372036854775807 : Int64)), .second, .val (.long u5), .second, .val (.long q65), .second, .val (.ref b66), .unset, .unset] [(.long (q65 * u5))] ?_
    refine own_lstore X91.here hx hby at_78 (l' := #[.val (.long q1), .second, .val (.long q2), .second, .val (.int p3), .val (.int p4), .val (.long (9223372036854775807 : Int64)), .second, .val (.long u5), .second, .val (.long q65), .second, .val (.ref b66), .val (.long (q65 * u5)), .second]) rfl ?_
    refine own_lload X91.here hx hby at_80 rfl ?_
    refine own_lconst X91.here hx hby at_82 (v := (0 : Int64)) (by decide) ?_
    refine own_lcmp X91.here hx hby at_83 ?_
    refine own_ifYes X91.here hx hby (pc' := 100) at_84 ((if0 _ _).trans (feq (fun qq_ => hc21_6 ((lw_eq u5 (0 : Int64)).mp qq_))).2) (by decide) (by decide) ?_
    refine own_lload X91.here hx hby at_100 rfl ?_
    refine own_lconst X91.here hx hby at_102 (v := (0 : Int64)) (by decide) ?_
    refine own_lcmp X91.here hx hby at_103 ?_
    refine own_ifNo X91.here hx hby at_104 ((if0 _ _).trans (flt (fun qq_ => hr0 ((lw_lt (q65 * u5) (0 : Int64)).mp qq_))).1) ?_
    refine own_lload X91.here hx hby at_107 rfl ?_
    refine own_lload X91.here hx hby at_109 rfl ?_
    refine own_ldiv X91.here hx hby at_111 hc21_6 rfl ?_
    refine own_lload X91.here hx hby at_112 rfl ?_
    refine own_lcmp X91.here hx hby at_114 ?_
    refine own_ifNo X91.here hx hby at_115 ((if0 _ _).trans (teq ((lw_eq ((q65 * u5) / u5) q65).mpr hdv0)).2) ?_
    refine own_lload X91.here hx hby at_118 rfl ?_
    refine own_lload X91.here hx hby at_120 rfl ?_
    refine own_lrem X91.here hx hby at_122 hc21_6 rfl ?_
    refine own_lconst X91.here hx hby at_123 (v := (0 : Int64)) (by decide) ?_
    refine own_lcmp X91.here hx hby at_124 ?_
    refine own_ifNo X91.here hx hby at_125 ((if0 _ _).trans (teq ((lw_eq ((q65 * u5) % u5) (0 : Int64)).mpr hr1)).2) ?_
    refine own_iconst X91.here hx hby at_128 (v := (1 : Int32)) (by decide) ?_
    refine own_goto X91.here hx hby (pc' := 133) at_129 (by decide) (by decide) ?_
    obtain ⟨fs, hr, hrun, hended, hRW⟩ := X91.leaveW hS88 (by rw [eh91]; omega) (v := some (.int 1)) (fun h => by rw [Bd.returns] at h; cases h)
    refine own_ret (t := T91.setFrames fs) ?_ ⟨_, hrun, hended, _, _, rfl, ?_, hRW.1, hRW.2.1, hRW.2.2.1, hRW.2.2.2.mono (by decide) (by decide)⟩
    · exact retN X91 hx (t := .boolean) Bd.returns (by simp) (hb hby at_133) hr
    · show Q_rm0 Z q1 q2 p3 p4 wP wA wC h0 n0 _ T91.heap _
      rw [eh91]
      exact ⟨rfl, N91, trivial⟩
set_option maxRecDepth 65536 in
set_option maxHeartbeats 40000000 in
theorem comes_1 {Post : Tables → Env → Array Value → State → Outcome → State → Prop} (hpost : ∀ tb e args s v u, (limb_1_1.after args s (.returned v) u = true ∧ limb_1_2.after args s (.returned v) u = true ∧ True) → ReturnedEndW s (.returned v) u (Jvm.fieldLocs frame_1_writes args s ++ Jvm.arrayLocs frame_1_arrays args s ++ Jvm.staticLocs frame_1_statics s) 24 5248 → Post tb e args s (.returned v) u) :
    ArmFor flags0 classFile x code maxLocals ret World_1 tables_1 room_1 Calls_1 rest_1 Pre_1 Post := by
  intro l hfl _ _ p e ha hc hk s m args below hf hA hF happ hP
  obtain ⟨hcalls, hrest, hpre⟩ := hP
  obtain ⟨-, -, -, hnamed, -, -, -, hat⟩ := (Spec.applies_iff hf).mp happ
  obtain ⟨hg, hn⟩ := and_e (Cond.before_iff.mp (show (Jvm.Cond.and given_1 narrow_1).before args s = true from hpre))
  obtain ⟨g1, g2⟩ := and_e hg
  obtain ⟨g3, g4⟩ := and_e g2
  obtain ⟨g5, g6⟩ := and_e g4
  obtain ⟨g7, g8⟩ := and_e g6
  obtain ⟨w0, w1, w2, w3, rfl⟩ : ∃ w0 w1 w2 w3 : Value, args = #[w0, w1, w2, w3] := by
    have hs : args.size = 4 := by simpa [Cond.value, given_1] using g1
    obtain ⟨L⟩ := args
    match L, hs with
    | [w0, w1, w2, w3], _ => exact ⟨w0, w1, w2, w3, rfl⟩
  have hw := fun d (hd : d ∈ tables_1) => atoms_spec (ws := Jvm.Cond.code x code maxLocals ret :: tables_1) hat d (List.mem_cons_of_mem _ hd)
  have hfit : Fit s := fun {y c} hc i hi => by
    obtain ⟨ha, rfl⟩ := Array.getElem?_eq_some_iff.mp hc
    have q := List.all_eq_true.mp ((Array.all_eq_true_iff_forall_mem.mp hF) _ (Array.getElem_mem ha)) i (List.mem_range.mpr hi)
    simpa [Array.getElem?_eq_getElem hi] using q
  obtain ⟨i0, ei0⟩ := isL_v g3
  obtain rfl : w0 = (.long i0) := Option.some.inj ei0
  obtain ⟨i1, ei1⟩ := isL_v g5
  obtain rfl : w1 = (.long i1) := Option.some.inj ei1
  obtain ⟨i2, ei2⟩ := is_v g7
  obtain rfl : w2 = (.int i2) := Option.some.inj ei2
  obtain ⟨i3, ei3⟩ := is_v g8
  obtain rfl : w3 = (.int i3) := Option.some.inj ei3
  obtain ⟨nC, hn⟩ := and_e hn
  obtain ⟨nP, nA⟩ := and_e hn
  obtain ⟨xP, evP⟩ := exa_v nP
  have StP := Sta.start evP (Or.inr ⟨(own_w hw 18 rfl), (own_w hw 65 rfl)⟩)
  obtain ⟨xA, evA⟩ := exa_v nA
  have StA := Sta.start evA (Or.inr ⟨(own_w hw 18 rfl), (own_w hw 67 rfl)⟩)
  obtain ⟨xC, evC⟩ := exa_v nC
  have StC := Sta.start evC (Or.inr ⟨(own_w hw 18 rfl), (own_w hw 19 rfl)⟩)
  obtain ⟨n, o, h1, h2, h3, _, L, rfl, ⟨rfl, N, -⟩, hq⟩ := rm0 l s _ hw tables_1 i0 i1 i2 i3 xP xA xC s.heap s.heap.size (Nat.le_refl _) StP StA StC p e ha hc hk s m _ below hf ((Spec.applies_iff_loose hf).mp happ).1 ⟨rfl, State.Warmed39.refl s, rfl⟩ trivial
  refine ⟨n, _, h1, h2, h3, hpost _ _ _ _ _ _ ⟨Cond.after_iff.mpr rfl, Cond.after_iff.mpr (eq_i res_at (Term.int_eval (1)) rfl), trivial⟩ ⟨hq.1, hq.2.1, hq.2.2.1, (hq.2.2.2.sift fun y hy => Or.inr (N y hy)).mono (by decide) (by decide)⟩⟩
theorem main_1_1 : Claimed_1_1 := comes_1 fun _ _ _ _ _ _ h hF => ⟨h.1, hF⟩
theorem main_1_2 : Claimed_1_2 := comes_1 fun _ _ _ _ _ _ h hF => ⟨h.2.1, hF⟩
end Jvm.Pilot.@@N@@
namespace Jvm.Pilot.@@N@@
open Jvm Jvm.ClassFile Sem Op Lib Jvm.Free Jvm.Stand Jvm.Pilot.@@N@@.Jvm.D
/-! MADE BY PROGRAM (witnessworld.py) out of the Statement's table words and the real class files: 19 classes; the members and pool entries that the words name. The judged class is class 1, her method 2. -/
namespace start1
open Jvm.ClassFile
def u (s : String) : CpInfo := .utf8 (stringToUtf16 s)
/-- a pool by its gaps: so many unusable entries, then the entry; so many at the end -/
def gap : Nat → List CpInfo → List CpInfo
  | 0, r => r
  | n + 1, r => .unusable :: gap n r
def poolList (es : List (Nat × CpInfo)) (last : Nat) : List CpInfo := es.foldr (fun e r => gap e.1 (e.2 :: r)) (gap last [])
def pool (es : List (Nat × CpInfo)) (last : Nat) : Array CpInfo := ⟨poolList es last⟩
def fileOf (pool : Array CpInfo) (this : Nat) (attrs : Array Attribute := #[]) (ms : Array MethodInfo := #[]) (fl : Nat := 33) (sup : Nat := 0) (ifs : Array Nat := #[]) (fds : Array FieldInfo := #[]) : ClassFile where
  minorVersion := 0
  majorVersion := 65
  constantPool := pool
  accessFlags := fl
  thisClass := this
  superClass := sup
  interfaces := ifs
  fields := fds
  methods := ms
  attributes := attrs
def plain (name : String) (sup : Option ClassId) : Class where
  name := name
  kind := .ordinary
  loader := none
  accessFlags := 33
  super := sup
  interfaces := #[]
  cf := none
  fields := #[]
  methods := #[]
  instanceTypes := #[]
  staticTypes := #[]
  resolved := #[]
  callSites := []
  init := .initialized
  statics := none
  mirror := none

def pool0 : Array CpInfo := pool [(5, u "<init>"), (0, u "()V"), (1, .class_ 10), (1, u "java/lang/Object")] 113

def k0c0 : Code := { maxStack := 0, maxLocals := 1, code := object_method_1_code, exceptionTable := #[], attributes := #[] }
def k0m0 : Method := { name := "<init>", desc := "()V", sig := { parameters := [], returnType := none }, accessFlags := 1, code := some k0c0 }
/-- java/lang/Object -/
def k0 : Class := { plain "java/lang/Object" none with
  accessFlags := 33
  interfaces := #[]
  cf := some (fileOf pool0 8 #[] #[{ accessFlags := 1, nameIndex := 5, descriptorIndex := 6, attributes := #[] }] 33 0 #[] #[])
  fields := #[]
  methods := #[k0m0]
  instanceTypes := #[]
  staticTypes := #[]
  resolved := Array.replicate 124 none
  statics := none }

def pool1 : Array CpInfo := pool [(2, .class_ 4), (1, u "java/lang/Object"), (0, u "<init>"), (0, u "()V"), (0, .fieldref 8 9), (0, .class_ 10), (0, .nameAndType 11 12), (0, u "com/example/voucher_engine/voucherengine/model/ItemType"), (0, u "PLAN"), (0, u "Lcom/example/voucher_engine/voucherengine/model/ItemType;"), (0, .fieldref 8 14), (0, .nameAndType 15 12), (0, u "ADDON"), (0, .fieldref 8 17), (0, .nameAndType 18 12), (0, u "CHARGE"), (2, .long 9223372036854775807), (1, .methodref 24 25), (0, .class_ 26), (0, .nameAndType 27 28), (0, u "java/lang/Math"), (0, u "max"), (0, u "(JJ)J"), (0, .class_ 30), (0, u "com/example/voucher_engine/voucherengine/model/LineItem"), (0, .string 32), (0, u "i"), (0, .string 34), (0, u "p"), (0, .methodref 36 37), (0, .class_ 38), (0, .nameAndType 39 40), (0, u "com/example/voucher_engine/voucherengine/model/LineItemAmountPinLaw"), (0, u "type"), (0, u "(I)Lcom/example/voucher_engine/voucherengine/model/ItemType;"), (0, .methodref 29 42), (0, .nameAndType 5 43), (0, u "(Ljava/lang/String;Ljava/lang/String;Lcom/example/voucher_engine/voucherengine/model/ItemType;JJ)V"), (0, .methodref 29 45), (0, .nameAndType 46 47), (0, u "amount"), (0, u "()J"), (3, u "law"), (0, u "(JJII)Z")] 2

def k1m0 : Method := { name := "<init>", desc := "()V", sig := { parameters := [], returnType := none }, accessFlags := 1, code := none }
def k1c1 : Code := { maxStack := 2, maxLocals := 2, code := method_2_code, exceptionTable := #[], attributes := #[] }
def k1m1 : Method := { name := "type", desc := "(I)Lcom/example/voucher_engine/voucherengine/model/ItemType;", sig := { parameters := [.int], returnType := some (.object "com/example/voucher_engine/voucherengine/model/ItemType") }, accessFlags := 10, code := some k1c1 }
def k1c2 : Code := { maxStack := 9, maxLocals := 15, code := code, exceptionTable := #[], attributes := #[] }
def k1m2 : Method := { name := "law", desc := "(JJII)Z", sig := { parameters := [.long, .long, .int, .int], returnType := some .boolean }, accessFlags := 9, code := some k1c2 }
/-- com/example/voucher_engine/voucherengine/model/LineItemAmountPinLaw -/
def k1 : Class := { plain "com/example/voucher_engine/voucherengine/model/LineItemAmountPinLaw" (some 0) with
  accessFlags := 49
  interfaces := #[]
  cf := some (fileOf pool1 36 #[] #[{ accessFlags := 1, nameIndex := 5, descriptorIndex := 6, attributes := #[] }, { accessFlags := 10, nameIndex := 39, descriptorIndex := 40, attributes := #[] }, { accessFlags := 9, nameIndex := 51, descriptorIndex := 52, attributes := #[] }] 49 2 #[] #[])
  fields := #[]
  methods := #[k1m0, k1m1, k1m2]
  instanceTypes := #[]
  staticTypes := #[]
  resolved := Array.replicate 55 none
  statics := none }

def pool2 : Array CpInfo := pool [(1, .methodref 2 3), (0, .class_ 4), (0, .nameAndType 5 6), (0, u "java/lang/Object"), (0, u "<init>"), (0, u "()V"), (0, .class_ 8), (0, u "java/lang/Record")] 13

def k2c0 : Code := { maxStack := 1, maxLocals := 1, code := jdk_30_method_1_code, exceptionTable := #[], attributes := #[] }
def k2m0 : Method := { name := "<init>", desc := "()V", sig := { parameters := [], returnType := none }, accessFlags := 4, code := some k2c0 }
/-- java/lang/Record -/
def k2 : Class := { plain "java/lang/Record" (some 0) with
  accessFlags := 1057
  interfaces := #[]
  cf := some (fileOf pool2 7 #[] #[{ accessFlags := 4, nameIndex := 5, descriptorIndex := 6, attributes := #[] }] 1057 2 #[] #[])
  fields := #[]
  methods := #[k2m0]
  instanceTypes := #[]
  staticTypes := #[]
  resolved := Array.replicate 22 none
  statics := none }

def pool3 : Array CpInfo := pool [(1, .methodref 2 3), (0, .class_ 4), (0, .nameAndType 5 6), (0, u "java/lang/Record"), (0, u "<init>"), (0, u "()V"), (0, .string 8), (0, u "id"), (0, .methodref 10 11), (0, .class_ 12), (0, .nameAndType 13 14), (0, u "java/util/Objects"), (0, u "requireNonNull"), (0, u "(Ljava/lang/Object;Ljava/lang/String;)Ljava/lang/Object;"), (0, .string 16), (0, u "itemPriceId"), (0, .string 18), (0, u "itemType"), (0, .class_ 20), (0, u "com/example/voucher_engine/voucherengine/model/LineItem"), (1, u "quantity"), (17, .fieldref 19 41), (0, .nameAndType 8 42), (0, u "Ljava/lang/String;"), (0, .fieldref 19 44), (0, .nameAndType 16 42), (0, .fieldref 19 46), (0, .nameAndType 18 47), (0, u "Lcom/example/voucher_engine/voucherengine/model/ItemType;"), (0, .fieldref 19 49), (0, .nameAndType 22 50), (0, u "J"), (0, .fieldref 19 52), (0, .nameAndType 53 50), (0, u "unitAmount"), (0, .methodref 55 56), (0, .class_ 57), (0, .nameAndType 58 59), (0, u "java/lang/Math"), (0, u "multiplyExact"), (0, u "(JJ)J"), (38, u "MIN_QUANTITY"), (3, u "MIN_UNIT_AMOUNT"), (2, u "(Ljava/lang/String;Ljava/lang/String;Lcom/example/voucher_engine/voucherengine/model/ItemType;JJ)V"), (8, u "amount"), (0, u "()J")] 30

def k3c0 : Code := { maxStack := 4, maxLocals := 9, code := prog_36_method_1_code, exceptionTable := #[], attributes := #[] }
def k3m0 : Method := { name := "<init>", desc := "(Ljava/lang/String;Ljava/lang/String;Lcom/example/voucher_engine/voucherengine/model/ItemType;JJ)V", sig := { parameters := [(.object "java/lang/String"), (.object "java/lang/String"), (.object "com/example/voucher_engine/voucherengine/model/ItemType"), .long, .long], returnType := none }, accessFlags := 1, code := some k3c0 }
def k3c1 : Code := { maxStack := 4, maxLocals := 1, code := prog_36_method_2_code, exceptionTable := #[], attributes := #[] }
def k3m1 : Method := { name := "amount", desc := "()J", sig := { parameters := [], returnType := some .long }, accessFlags := 1, code := some k3c1 }
/-- com/example/voucher_engine/voucherengine/model/LineItem -/
def k3 : Class := { plain "com/example/voucher_engine/voucherengine/model/LineItem" (some 2) with
  accessFlags := 49
  interfaces := #[]
  cf := some (fileOf pool3 19 #[] #[{ accessFlags := 1, nameIndex := 5, descriptorIndex := 105, attributes := #[] }, { accessFlags := 1, nameIndex := 114, descriptorIndex := 115, attributes := #[] }] 49 2 #[] #[{ accessFlags := 18, nameIndex := 8, descriptorIndex := 42, attributes := #[] }, { accessFlags := 18, nameIndex := 16, descriptorIndex := 42, attributes := #[] }, { accessFlags := 18, nameIndex := 18, descriptorIndex := 47, attributes := #[] }, { accessFlags := 18, nameIndex := 22, descriptorIndex := 50, attributes := #[] }, { accessFlags := 18, nameIndex := 53, descriptorIndex := 50, attributes := #[] }, { accessFlags := 25, nameIndex := 98, descriptorIndex := 50, attributes := #[] }, { accessFlags := 25, nameIndex := 102, descriptorIndex := 50, attributes := #[] }])
  fields := #[{ name := "id", type := (.object "java/lang/String"), accessFlags := 18, slot := 0, constantValue := 0 }, { name := "itemPriceId", type := (.object "java/lang/String"), accessFlags := 18, slot := 1, constantValue := 0 }, { name := "itemType", type := (.object "com/example/voucher_engine/voucherengine/model/ItemType"), accessFlags := 18, slot := 2, constantValue := 0 }, { name := "quantity", type := .long, accessFlags := 18, slot := 3, constantValue := 0 }, { name := "unitAmount", type := .long, accessFlags := 18, slot := 4, constantValue := 0 }, { name := "MIN_QUANTITY", type := .long, accessFlags := 25, slot := 0, constantValue := 0 }, { name := "MIN_UNIT_AMOUNT", type := .long, accessFlags := 25, slot := 1, constantValue := 0 }]
  methods := #[k3m0, k3m1]
  instanceTypes := #[(.object "java/lang/String"), (.object "java/lang/String"), (.object "com/example/voucher_engine/voucherengine/model/ItemType"), .long, .long]
  staticTypes := #[.long, .long]
  resolved := Array.replicate 146 none
  statics := none }

def pool4 : Array CpInfo := pool [(1, .class_ 2), (0, u "java/io/Serializable"), (0, .class_ 4), (0, u "java/lang/Object")] 2

/-- java/io/Serializable -/
def k4 : Class := { plain "java/io/Serializable" (some 0) with
  accessFlags := 1537
  interfaces := #[]
  cf := some (fileOf pool4 1 #[] #[] 1537 3 #[] #[])
  fields := #[]
  methods := #[]
  instanceTypes := #[]
  staticTypes := #[]
  resolved := Array.replicate 7 none
  statics := none }

def pool5 : Array CpInfo := pool [(1, .class_ 2), (0, u "java/lang/Comparable"), (0, .class_ 4), (0, u "java/lang/Object")] 7

/-- java/lang/Comparable -/
def k5 : Class := { plain "java/lang/Comparable" (some 0) with
  accessFlags := 1537
  interfaces := #[]
  cf := some (fileOf pool5 1 #[] #[] 1537 3 #[] #[])
  fields := #[]
  methods := #[]
  instanceTypes := #[]
  staticTypes := #[]
  resolved := Array.replicate 12 none
  statics := none }

def pool6 : Array CpInfo := pool [(2, .class_ 4), (1, u "java/lang/CharSequence"), (42, .class_ 48), (0, u "java/lang/CharSequence$1CodePointIterator"), (10, .class_ 60), (0, u "java/lang/CharSequence$1CharIterator"), (5, .class_ 67), (0, u "java/lang/Object")] 63

/-- java/lang/CharSequence -/
def k6 : Class := { plain "java/lang/CharSequence" (some 0) with
  accessFlags := 1537
  interfaces := #[]
  cf := some (fileOf pool6 2 #[.nestMembers #[47, 59]] #[] 1537 66 #[] #[])
  fields := #[]
  methods := #[]
  instanceTypes := #[]
  staticTypes := #[]
  resolved := Array.replicate 131 none
  statics := none }

def pool7 : Array CpInfo := pool [(1, .class_ 2), (0, u "java/lang/constant/Constable"), (0, .class_ 4), (0, u "java/lang/Object")] 6

/-- java/lang/constant/Constable -/
def k7 : Class := { plain "java/lang/constant/Constable" (some 0) with
  accessFlags := 1537
  interfaces := #[]
  cf := some (fileOf pool7 1 #[] #[] 1537 3 #[] #[])
  fields := #[]
  methods := #[]
  instanceTypes := #[]
  staticTypes := #[]
  resolved := Array.replicate 11 none
  statics := none }

def pool8 : Array CpInfo := pool [(1, .class_ 2), (0, u "java/lang/constant/ConstantDesc"), (0, .class_ 4), (0, u "java/lang/Object")] 32

/-- java/lang/constant/ConstantDesc -/
def k8 : Class := { plain "java/lang/constant/ConstantDesc" (some 0) with
  accessFlags := 1537
  interfaces := #[]
  cf := some (fileOf pool8 1 #[] #[] 1537 3 #[] #[])
  fields := #[]
  methods := #[]
  instanceTypes := #[]
  staticTypes := #[]
  resolved := Array.replicate 37 none
  statics := none }

def pool9 : Array CpInfo := pool [(2, .class_ 4), (1, u "java/lang/Object"), (0, u "<init>"), (0, u "()V"), (3, .class_ 12), (1, u "java/lang/String"), (0, u "value"), (0, u "[B"), (2, u "coder"), (0, u "B"), (2, u "hash"), (0, u "I"), (2, u "hashIsZero"), (0, u "Z"), (13, u "COMPACT_STRINGS"), (534, .class_ 576), (0, u "java/lang/CharSequence"), (22, u "CASE_INSENSITIVE_ORDER"), (0, u "Ljava/util/Comparator;"), (500, u "serialPersistentFields"), (0, u "[Ljava/io/ObjectStreamField;"), (0, .class_ 1104), (0, u "java/lang/String$CaseInsensitiveComparator"), (1, .class_ 1107), (0, u "java/io/Serializable"), (0, .class_ 1109), (0, u "java/lang/Comparable"), (0, .class_ 1111), (0, u "java/lang/constant/Constable"), (0, .class_ 1113), (0, u "java/lang/constant/ConstantDesc"), (2, u "serialVersionUID"), (0, u "J"), (3, u "REPL"), (0, u "C"), (2, u "LATIN1"), (1, u "UTF16")] 323

def k9m0 : Method := { name := "<init>", desc := "()V", sig := { parameters := [], returnType := none }, accessFlags := 1, code := none }
/-- java/lang/String -/
def k9 : Class := { plain "java/lang/String" (some 0) with
  accessFlags := 49
  interfaces := #[4, 5, 6, 7, 8]
  cf := some (fileOf pool9 10 #[.nestMembers #[1103]] #[{ accessFlags := 1, nameIndex := 5, descriptorIndex := 6, attributes := #[] }] 49 2 #[1106, 1108, 575, 1110, 1112] #[{ accessFlags := 18, nameIndex := 13, descriptorIndex := 14, attributes := #[] }, { accessFlags := 18, nameIndex := 17, descriptorIndex := 18, attributes := #[] }, { accessFlags := 2, nameIndex := 21, descriptorIndex := 22, attributes := #[] }, { accessFlags := 2, nameIndex := 25, descriptorIndex := 26, attributes := #[] }, { accessFlags := 26, nameIndex := 1116, descriptorIndex := 1117, attributes := #[] }, { accessFlags := 24, nameIndex := 40, descriptorIndex := 26, attributes := #[] }, { accessFlags := 26, nameIndex := 1101, descriptorIndex := 1102, attributes := #[] }, { accessFlags := 26, nameIndex := 1121, descriptorIndex := 1122, attributes := #[] }, { accessFlags := 25, nameIndex := 599, descriptorIndex := 600, attributes := #[] }, { accessFlags := 24, nameIndex := 1125, descriptorIndex := 18, attributes := #[] }, { accessFlags := 24, nameIndex := 1127, descriptorIndex := 18, attributes := #[] }])
  fields := #[{ name := "value", type := (.array .byte), accessFlags := 18, slot := 0, constantValue := 0 }, { name := "coder", type := .byte, accessFlags := 18, slot := 1, constantValue := 0 }, { name := "hash", type := .int, accessFlags := 2, slot := 2, constantValue := 0 }, { name := "hashIsZero", type := .boolean, accessFlags := 2, slot := 3, constantValue := 0 }, { name := "serialVersionUID", type := .long, accessFlags := 26, slot := 0, constantValue := 0 }, { name := "COMPACT_STRINGS", type := .boolean, accessFlags := 24, slot := 1, constantValue := 0 }, { name := "serialPersistentFields", type := (.array (.object "java/io/ObjectStreamField")), accessFlags := 26, slot := 2, constantValue := 0 }, { name := "REPL", type := .char, accessFlags := 26, slot := 3, constantValue := 0 }, { name := "CASE_INSENSITIVE_ORDER", type := (.object "java/util/Comparator"), accessFlags := 25, slot := 4, constantValue := 0 }, { name := "LATIN1", type := .byte, accessFlags := 24, slot := 5, constantValue := 0 }, { name := "UTF16", type := .byte, accessFlags := 24, slot := 6, constantValue := 0 }]
  methods := #[k9m0]
  instanceTypes := #[(.array .byte), .byte, .int, .boolean]
  staticTypes := #[.long, .boolean, (.array (.object "java/io/ObjectStreamField")), .char, (.object "java/util/Comparator"), .byte, .byte]
  resolved := Array.replicate 1451 none
  statics := none }

def pool10 : Array CpInfo := pool [(2, .class_ 4), (1, u "java/lang/Enum"), (0, u "name"), (0, u "Ljava/lang/String;"), (2, u "ordinal"), (0, u "I"), (1, .class_ 14), (1, u "java/lang/Object"), (4, u "hash"), (86, .class_ 108), (1, u "java/lang/Enum$EnumDesc"), (2, .class_ 112), (0, u "java/lang/constant/Constable"), (0, .class_ 114), (0, u "java/lang/Comparable"), (0, .class_ 116), (0, u "java/io/Serializable")] 87

/-- java/lang/Enum -/
def k10 : Class := { plain "java/lang/Enum" (some 0) with
  accessFlags := 1057
  interfaces := #[7, 5, 4]
  cf := some (fileOf pool10 2 #[.nestMembers #[106]] #[] 1057 12 #[111, 113, 115] #[{ accessFlags := 18, nameIndex := 5, descriptorIndex := 6, attributes := #[] }, { accessFlags := 18, nameIndex := 9, descriptorIndex := 10, attributes := #[] }, { accessFlags := 2, nameIndex := 19, descriptorIndex := 10, attributes := #[] }])
  fields := #[{ name := "name", type := (.object "java/lang/String"), accessFlags := 18, slot := 0, constantValue := 0 }, { name := "ordinal", type := .int, accessFlags := 18, slot := 1, constantValue := 0 }, { name := "hash", type := .int, accessFlags := 2, slot := 2, constantValue := 0 }]
  methods := #[]
  instanceTypes := #[(.object "java/lang/String"), .int, .int]
  staticTypes := #[]
  resolved := Array.replicate 204 none
  statics := none }

def pool11 : Array CpInfo := pool [(1, .class_ 2), (0, u "com/example/voucher_engine/voucherengine/model/ItemType"), (2, u "PLAN"), (0, u "Lcom/example/voucher_engine/voucherengine/model/ItemType;"), (2, u "ADDON"), (2, u "CHARGE"), (2, u "$VALUES"), (0, u "[Lcom/example/voucher_engine/voucherengine/model/ItemType;"), (6, .class_ 25), (1, u "java/lang/Enum")] 25

/-- com/example/voucher_engine/voucherengine/model/ItemType -/
def k11 : Class := { plain "com/example/voucher_engine/voucherengine/model/ItemType" (some 10) with
  accessFlags := 16433
  interfaces := #[]
  cf := some (fileOf pool11 1 #[] #[] 16433 23 #[] #[{ accessFlags := 16409, nameIndex := 5, descriptorIndex := 6, attributes := #[] }, { accessFlags := 16409, nameIndex := 9, descriptorIndex := 6, attributes := #[] }, { accessFlags := 16409, nameIndex := 12, descriptorIndex := 6, attributes := #[] }, { accessFlags := 4122, nameIndex := 15, descriptorIndex := 16, attributes := #[] }])
  fields := #[{ name := "PLAN", type := (.object "com/example/voucher_engine/voucherengine/model/ItemType"), accessFlags := 16409, slot := 0, constantValue := 0 }, { name := "ADDON", type := (.object "com/example/voucher_engine/voucherengine/model/ItemType"), accessFlags := 16409, slot := 1, constantValue := 0 }, { name := "CHARGE", type := (.object "com/example/voucher_engine/voucherengine/model/ItemType"), accessFlags := 16409, slot := 2, constantValue := 0 }, { name := "$VALUES", type := (.array (.object "com/example/voucher_engine/voucherengine/model/ItemType")), accessFlags := 4122, slot := 3, constantValue := 0 }]
  methods := #[]
  instanceTypes := #[(.object "java/lang/String"), .int, .int]
  staticTypes := #[(.object "com/example/voucher_engine/voucherengine/model/ItemType"), (.object "com/example/voucher_engine/voucherengine/model/ItemType"), (.object "com/example/voucher_engine/voucherengine/model/ItemType"), (.array (.object "com/example/voucher_engine/voucherengine/model/ItemType"))]
  resolved := Array.replicate 51 none
  statics := some 0 }

def pool12 : Array CpInfo := pool [(2, .class_ 4), (1, u "java/lang/Object"), (0, u "<init>"), (0, u "()V"), (35, .class_ 44), (1, u "java/util/Objects"), (0, u "requireNonNull"), (48, u "(Ljava/lang/Object;Ljava/lang/String;)Ljava/lang/Object;")] 89

def k12m0 : Method := { name := "<init>", desc := "()V", sig := { parameters := [], returnType := none }, accessFlags := 2, code := none }
def k12c1 : Code := { maxStack := 3, maxLocals := 2, code := jdk_31_method_11_code, exceptionTable := #[], attributes := #[] }
def k12m1 : Method := { name := "requireNonNull", desc := "(Ljava/lang/Object;Ljava/lang/String;)Ljava/lang/Object;", sig := { parameters := [(.object "java/lang/Object"), (.object "java/lang/String")], returnType := some (.object "java/lang/Object") }, accessFlags := 9, code := some k12c1 }
/-- java/util/Objects -/
def k12 : Class := { plain "java/util/Objects" (some 0) with
  accessFlags := 49
  interfaces := #[]
  cf := some (fileOf pool12 42 #[] #[{ accessFlags := 2, nameIndex := 5, descriptorIndex := 6, attributes := #[] }, { accessFlags := 9, nameIndex := 45, descriptorIndex := 94, attributes := #[] }] 49 2 #[] #[])
  fields := #[]
  methods := #[k12m0, k12m1]
  instanceTypes := #[]
  staticTypes := #[]
  resolved := Array.replicate 184 none
  statics := none }

def pool13 : Array CpInfo := pool [(1, .class_ 2), (0, u "java/lang/Math"), (1, .class_ 6), (1, u "java/lang/Object"), (0, u "<init>"), (0, u "()V"), (89, .class_ 100), (1, u "java/lang/Math$RandomNumberGeneratorHolder"), (19, u "multiplyExact"), (0, u "(JJ)J"), (0, .methodref 1 123), (0, .nameAndType 124 125), (0, u "abs"), (0, u "(J)J"), (2, .long 9223372036854775808), (43, u "negativeZeroFloatBits"), (0, u "J"), (2, u "negativeZeroDoubleBits"), (21, u "max"), (46, u "$assertionsDisabled"), (0, u "Z"), (91, u "twoToTheDoubleScaleDown"), (0, u "D"), (4, u "twoToTheDoubleScaleUp"), (9, u "E"), (3, u "PI"), (2, u "TAU"), (2, u "DEGREES_TO_RADIANS"), (0, u "RADIANS_TO_DEGREES")] 94

def k13m0 : Method := { name := "<init>", desc := "()V", sig := { parameters := [], returnType := none }, accessFlags := 2, code := none }
def k13c1 : Code := { maxStack := 4, maxLocals := 10, code := jdk_29_method_30_code, exceptionTable := #[], attributes := #[] }
def k13m1 : Method := { name := "multiplyExact", desc := "(JJ)J", sig := { parameters := [.long, .long], returnType := some .long }, accessFlags := 9, code := some k13c1 }
def k13c2 : Code := { maxStack := 4, maxLocals := 2, code := jdk_29_method_61_code, exceptionTable := #[], attributes := #[] }
def k13m2 : Method := { name := "abs", desc := "(J)J", sig := { parameters := [.long], returnType := some .long }, accessFlags := 9, code := some k13c2 }
def k13c3 : Code := { maxStack := 4, maxLocals := 4, code := jdk_29_method_66_code, exceptionTable := #[], attributes := #[] }
def k13m3 : Method := { name := "max", desc := "(JJ)J", sig := { parameters := [.long, .long], returnType := some .long }, accessFlags := 9, code := some k13c3 }
/-- java/lang/Math -/
def k13 : Class := { plain "java/lang/Math" (some 0) with
  accessFlags := 49
  interfaces := #[]
  cf := some (fileOf pool13 1 #[.nestMembers #[98]] #[{ accessFlags := 2, nameIndex := 7, descriptorIndex := 8, attributes := #[] }, { accessFlags := 9, nameIndex := 120, descriptorIndex := 121, attributes := #[] }, { accessFlags := 9, nameIndex := 124, descriptorIndex := 125, attributes := #[] }, { accessFlags := 9, nameIndex := 198, descriptorIndex := 121, attributes := #[] }] 49 4 #[] #[{ accessFlags := 25, nameIndex := 354, descriptorIndex := 339, attributes := #[] }, { accessFlags := 25, nameIndex := 358, descriptorIndex := 339, attributes := #[] }, { accessFlags := 25, nameIndex := 361, descriptorIndex := 339, attributes := #[] }, { accessFlags := 26, nameIndex := 364, descriptorIndex := 339, attributes := #[] }, { accessFlags := 26, nameIndex := 365, descriptorIndex := 339, attributes := #[] }, { accessFlags := 26, nameIndex := 172, descriptorIndex := 173, attributes := #[] }, { accessFlags := 26, nameIndex := 176, descriptorIndex := 173, attributes := #[] }, { accessFlags := 8, nameIndex := 344, descriptorIndex := 339, attributes := #[] }, { accessFlags := 8, nameIndex := 338, descriptorIndex := 339, attributes := #[] }, { accessFlags := 4120, nameIndex := 245, descriptorIndex := 246, attributes := #[] }])
  fields := #[{ name := "E", type := .double, accessFlags := 25, slot := 0, constantValue := 0 }, { name := "PI", type := .double, accessFlags := 25, slot := 1, constantValue := 0 }, { name := "TAU", type := .double, accessFlags := 25, slot := 2, constantValue := 0 }, { name := "DEGREES_TO_RADIANS", type := .double, accessFlags := 26, slot := 3, constantValue := 0 }, { name := "RADIANS_TO_DEGREES", type := .double, accessFlags := 26, slot := 4, constantValue := 0 }, { name := "negativeZeroFloatBits", type := .long, accessFlags := 26, slot := 5, constantValue := 0 }, { name := "negativeZeroDoubleBits", type := .long, accessFlags := 26, slot := 6, constantValue := 0 }, { name := "twoToTheDoubleScaleUp", type := .double, accessFlags := 8, slot := 7, constantValue := 0 }, { name := "twoToTheDoubleScaleDown", type := .double, accessFlags := 8, slot := 8, constantValue := 0 }, { name := "$assertionsDisabled", type := .boolean, accessFlags := 4120, slot := 9, constantValue := 0 }]
  methods := #[k13m0, k13m1, k13m2, k13m3]
  instanceTypes := #[]
  staticTypes := #[.double, .double, .double, .double, .double, .long, .long, .double, .double, .boolean]
  resolved := Array.replicate 460 none
  statics := none }

def pool14 : Array CpInfo := pool [(1, u "java/lang/Cloneable"), (0, .class_ 1), (0, u "java/lang/Object"), (0, .class_ 3)] 3

/-- java/lang/Cloneable -/
def k14 : Class := { plain "java/lang/Cloneable" (some 0) with
  accessFlags := 1537
  interfaces := #[]
  cf := some (fileOf pool14 2 #[] #[] 1537 4 #[] #[])
  fields := #[]
  methods := #[]
  instanceTypes := #[]
  staticTypes := #[]
  resolved := Array.replicate 8 none
  statics := none }

/-- the primitive byte -/
def k15 : Class := { plain "byte" none with kind := .primitive 'B', accessFlags := 0x411 }
/-- [B -/
def k16 : Class := { plain "[B" (some 0) with kind := .array 15 .byte, interfaces := #[14, 4], accessFlags := 1041 }

/-- the primitive int -/
def k17 : Class := { plain "int" none with kind := .primitive 'I', accessFlags := 0x411 }
/-- [I -/
def k18 : Class := { plain "[I" (some 0) with kind := .array 17 .int, interfaces := #[14, 4], accessFlags := 1041 }

def heap : Heap := #[{ cls := 11, slots := #[.ref 1, .ref 2, .ref 3, .null], vm := .statics 11 },
  { cls := 11, slots := #[.null, .int 0, .int 0], vm := .none },
  { cls := 11, slots := #[.null, .int 1, .int 0], vm := .none },
  { cls := 11, slots := #[.null, .int 2, .int 0], vm := .none }]
def classes : Array Class := #[k0, k1, k2, k3, k4, k5, k6, k7, k8, k9, k10, k11, k12, k13, k14, k15, k16, k17, k18]
def interned : List (Array UInt16 × Addr) := []
def slotsUsed : Nat := 13
def theMethod : MethodId := ⟨1, 2⟩
def args0 : Array Value := #[.long 3, .long 5, .int 1, .int 2]
def aboutOver (below : List Frame) : State where
  vm := { classes := classes, interned := interned.toArray }
  heap := heap
  slotsUsed := slotsUsed
  threads := #[{ frames := .invoking theMethod args0 :: below }]
def below0 : List Frame := [.native { method := ⟨0, 0⟩, args := #[] }]
def about1 : State := aboutOver below0
def p0 : Program := .bare "" "" ""
def e0 : Env := launch0.env 0 0 0
theorem w_frames : about1.frames = Frame.invoking theMethod args0 :: below0 := rfl
set_option maxRecDepth 65536 in
theorem w_args : argsFit about1.vm theMethod args0 = true := by decide +kernel
set_option maxRecDepth 65536 in
theorem w_heap : heapFits about1 = true := by decide +kernel
set_option maxRecDepth 65536 in
theorem w_runnable : about1.curStatus? = some .runnable := by decide +kernel
set_option maxRecDepth 65536 in
theorem w_alone : about1.alone = true := by decide +kernel
set_option maxRecDepth 65536 in
theorem w_named : about1.methodNamed? x = some theMethod := by decide +kernel
set_option maxRecDepth 65536 in
theorem w_hears : about1.hears theMethod below0 = true := by decide +kernel
set_option maxRecDepth 65536 in
theorem w_ripe : about1.ripe theMethod args0 below0 = true := by decide +kernel
theorem w_running : about1.status = .running := rfl
set_option maxRecDepth 65536 in
theorem w_room : about1.hasRoom e0.platform room_1 = true :=
  launch0.hasRoom_least _ room_1 (by decide +kernel) (by decide +kernel) (by decide +kernel) (by decide +kernel) (by decide +kernel) (by decide +kernel)
theorem allAtoms_all (ts : List Jvm.Cond) (a : Array Jvm.Value) (st : Jvm.State) : (allAtoms ts).before a st = ts.all (fun c => c.before a st) := by
  induction ts with
  | nil => rfl
  | cons c t ih =>
    show (Jvm.Cond.and c (allAtoms t)).before a st = _
    rw [Jvm.Cond.before_and, ih, List.all_cons]
def words1 : List Jvm.Cond := Jvm.Cond.code x code maxLocals ret :: tables_1
/-- a 'code' word, met by the world's own term for the bytes: nothing is compared byte by byte -/
theorem code_word {y : MethodName} {bytes : ByteArray} {mx : Nat} {rt : Option FieldType} {a : Array Value} {s : State} {m : MethodId} {meth : Method} {c : Code} (h1 : s.methodNamed? y = some m) (h2 : s.vm.method? m = some meth) (h3 : meth.code = some c) (h4 : c.code = bytes)
    (h5 : (c.maxLocals == mx && c.exceptionTable.isEmpty && decide (c.maxStack ≤ mostOperands) && decide (meth.sig.returnType = rt) && !meth.locks && decide (parseMethodDescriptor y.desc = some meth.sig)) = true) : (Jvm.Cond.code y bytes mx rt).before a s = true := by
  simp only [Bool.and_eq_true, beq_iff_eq, Bool.not_eq_true', decide_eq_true_eq] at h5
  obtain ⟨⟨⟨⟨⟨g1, g2⟩, g3⟩, g4⟩, g5⟩, g6⟩ := h5
  simp [Cond.before, Cond.holds, Cond.value, h1, h2, h3, h4, g1, g2, g3, g4, g5, g6]
def isCode : Jvm.Cond → Bool
  | .code _ _ _ _ => true
  | _ => false
theorem all_split {L : List Jvm.Cond} {P : Jvm.Cond → Bool} (h1 : L.all (fun c => isCode c || P c) = true) (h2 : ∀ c ∈ L.filter isCode, P c = true) : L.all P = true := by
  refine List.all_eq_true.mpr fun c hc => ?_
  have h := List.all_eq_true.mp h1 c hc
  rcases Bool.eq_false_or_eq_true (isCode c) with hi | hi
  · exact h2 c (List.mem_filter.mpr ⟨hc, hi⟩)
  · simpa [hi] using h
set_option maxRecDepth 65536 in
theorem w_c0 : (Jvm.Cond.code x code maxLocals ret).before args0 about1 = true := code_word (m := ⟨1, 2⟩) (meth := k1m2) (c := k1c2) (by decide +kernel) rfl rfl rfl (by decide +kernel)
set_option maxRecDepth 65536 in
theorem w_c1 : (Jvm.Cond.code ({ cls := "com/example/voucher_engine/voucherengine/model/LineItemAmountPinLaw", name := "type", desc := "(I)Lcom/example/voucher_engine/voucherengine/model/ItemType;" } : Jvm.MethodName) method_2_code (2 : Nat) (Option.some (Jvm.ClassFile.FieldType.object "com/example/voucher_engine/voucherengine/model/ItemType"))).before args0 about1 = true := code_word (m := ⟨1, 1⟩) (meth := k1m1) (c := k1c1) (by decide +kernel) rfl rfl rfl (by decide +kernel)
set_option maxRecDepth 65536 in
theorem w_c2 : (Jvm.Cond.code ({ cls := "com/example/voucher_engine/voucherengine/model/LineItem", name := "<init>", desc := "(Ljava/lang/String;Ljava/lang/String;Lcom/example/voucher_engine/voucherengine/model/ItemType;JJ)V" } : Jvm.MethodName) prog_36_method_1_code (9 : Nat) (Option.none : Option Jvm.ClassFile.FieldType)).before args0 about1 = true := code_word (m := ⟨3, 0⟩) (meth := k3m0) (c := k3c0) (by decide +kernel) rfl rfl rfl (by decide +kernel)
set_option maxRecDepth 65536 in
theorem w_c3 : (Jvm.Cond.code ({ cls := "java/lang/Record", name := "<init>", desc := "()V" } : Jvm.MethodName) jdk_30_method_1_code (1 : Nat) (Option.none : Option Jvm.ClassFile.FieldType)).before args0 about1 = true := code_word (m := ⟨2, 0⟩) (meth := k2m0) (c := k2c0) (by decide +kernel) rfl rfl rfl (by decide +kernel)
set_option maxRecDepth 65536 in
theorem w_c4 : (Jvm.Cond.code ({ cls := "java/lang/Object", name := "<init>", desc := "()V" } : Jvm.MethodName) object_method_1_code (1 : Nat) (Option.none : Option Jvm.ClassFile.FieldType)).before args0 about1 = true := code_word (m := ⟨0, 0⟩) (meth := k0m0) (c := k0c0) (by decide +kernel) rfl rfl rfl (by decide +kernel)
set_option maxRecDepth 65536 in
theorem w_c5 : (Jvm.Cond.code ({ cls := "java/util/Objects", name := "requireNonNull", desc := "(Ljava/lang/Object;Ljava/lang/String;)Ljava/lang/Object;" } : Jvm.MethodName) jdk_31_method_11_code (2 : Nat) (Option.some (Jvm.ClassFile.FieldType.object "java/lang/Object"))).before args0 about1 = true := code_word (m := ⟨12, 1⟩) (meth := k12m1) (c := k12c1) (by decide +kernel) rfl rfl rfl (by decide +kernel)
set_option maxRecDepth 65536 in
theorem w_c6 : (Jvm.Cond.code ({ cls := "com/example/voucher_engine/voucherengine/model/LineItem", name := "amount", desc := "()J" } : Jvm.MethodName) prog_36_method_2_code (1 : Nat) (Option.some Jvm.ClassFile.FieldType.long)).before args0 about1 = true := code_word (m := ⟨3, 1⟩) (meth := k3m1) (c := k3c1) (by decide +kernel) rfl rfl rfl (by decide +kernel)
set_option maxRecDepth 65536 in
theorem w_c7 : (Jvm.Cond.code ({ cls := "java/lang/Math", name := "multiplyExact", desc := "(JJ)J" } : Jvm.MethodName) jdk_29_method_30_code (10 : Nat) (Option.some Jvm.ClassFile.FieldType.long)).before args0 about1 = true := code_word (m := ⟨13, 1⟩) (meth := k13m1) (c := k13c1) (by decide +kernel) rfl rfl rfl (by decide +kernel)
set_option maxRecDepth 65536 in
theorem w_c8 : (Jvm.Cond.code ({ cls := "java/lang/Math", name := "abs", desc := "(J)J" } : Jvm.MethodName) jdk_29_method_61_code (2 : Nat) (Option.some Jvm.ClassFile.FieldType.long)).before args0 about1 = true := code_word (m := ⟨13, 2⟩) (meth := k13m2) (c := k13c2) (by decide +kernel) rfl rfl rfl (by decide +kernel)
set_option maxRecDepth 65536 in
theorem w_c9 : (Jvm.Cond.code ({ cls := "java/lang/Math", name := "max", desc := "(JJ)J" } : Jvm.MethodName) jdk_29_method_66_code (4 : Nat) (Option.some Jvm.ClassFile.FieldType.long)).before args0 about1 = true := code_word (m := ⟨13, 3⟩) (meth := k13m3) (c := k13c3) (by decide +kernel) rfl rfl rfl (by decide +kernel)
def codes1 : List Jvm.Cond := [Jvm.Cond.code x code maxLocals ret, Jvm.Cond.code ({ cls := "com/example/voucher_engine/voucherengine/model/LineItemAmountPinLaw", name := "type", desc := "(I)Lcom/example/voucher_engine/voucherengine/model/ItemType;" } : Jvm.MethodName) method_2_code (2 : Nat) (Option.some (Jvm.ClassFile.FieldType.object "com/example/voucher_engine/voucherengine/model/ItemType")), Jvm.Cond.code ({ cls := "com/example/voucher_engine/voucherengine/model/LineItem", name := "<init>", desc := "(Ljava/lang/String;Ljava/lang/String;Lcom/example/voucher_engine/voucherengine/model/ItemType;JJ)V" } : Jvm.MethodName) prog_36_method_1_code (9 : Nat) (Option.none : Option Jvm.ClassFile.FieldType), Jvm.Cond.code ({ cls := "java/lang/Record", name := "<init>", desc := "()V" } : Jvm.MethodName) jdk_30_method_1_code (1 : Nat) (Option.none : Option Jvm.ClassFile.FieldType), Jvm.Cond.code ({ cls := "java/lang/Object", name := "<init>", desc := "()V" } : Jvm.MethodName) object_method_1_code (1 : Nat) (Option.none : Option Jvm.ClassFile.FieldType), Jvm.Cond.code ({ cls := "java/util/Objects", name := "requireNonNull", desc := "(Ljava/lang/Object;Ljava/lang/String;)Ljava/lang/Object;" } : Jvm.MethodName) jdk_31_method_11_code (2 : Nat) (Option.some (Jvm.ClassFile.FieldType.object "java/lang/Object")), Jvm.Cond.code ({ cls := "com/example/voucher_engine/voucherengine/model/LineItem", name := "amount", desc := "()J" } : Jvm.MethodName) prog_36_method_2_code (1 : Nat) (Option.some Jvm.ClassFile.FieldType.long), Jvm.Cond.code ({ cls := "java/lang/Math", name := "multiplyExact", desc := "(JJ)J" } : Jvm.MethodName) jdk_29_method_30_code (10 : Nat) (Option.some Jvm.ClassFile.FieldType.long), Jvm.Cond.code ({ cls := "java/lang/Math", name := "abs", desc := "(J)J" } : Jvm.MethodName) jdk_29_method_61_code (2 : Nat) (Option.some Jvm.ClassFile.FieldType.long), Jvm.Cond.code ({ cls := "java/lang/Math", name := "max", desc := "(JJ)J" } : Jvm.MethodName) jdk_29_method_66_code (4 : Nat) (Option.some Jvm.ClassFile.FieldType.long)]
set_option maxRecDepth 65536 in
theorem codes_eq : words1.filter isCode = codes1 := rfl
theorem w_codes : ∀ c ∈ words1.filter isCode, c.before args0 about1 = true := by
  rw [codes_eq]
  intro c hc
  simp only [codes1, List.mem_cons, List.not_mem_nil, or_false] at hc
  rcases hc with rfl | rfl | rfl | rfl | rfl | rfl | rfl | rfl | rfl | rfl
  · exact w_c0
  · exact w_c1
  · exact w_c2
  · exact w_c3
  · exact w_c4
  · exact w_c5
  · exact w_c6
  · exact w_c7
  · exact w_c8
  · exact w_c9
set_option maxRecDepth 65536 in
theorem w_t1 : (words1.take 24).all (fun c => isCode c || c.before args0 about1) = true := by decide +kernel
set_option maxRecDepth 65536 in
theorem w_t2 : ((words1.drop 24).take 24).all (fun c => isCode c || c.before args0 about1) = true := by decide +kernel
set_option maxRecDepth 65536 in
theorem w_t3 : ((words1.drop 24).drop 24).all (fun c => isCode c || c.before args0 about1) = true := by decide +kernel
theorem w_tables : (allAtoms (Jvm.Cond.code x code maxLocals ret :: tables_1)).before args0 about1 = true := by
  rw [allAtoms_all]
  show words1.all (fun c => c.before args0 about1) = true
  refine all_split ?_ w_codes
  rw [← List.take_append_drop 24 words1, List.all_append, w_t1, ← List.take_append_drop 24 (words1.drop 24), List.all_append, w_t2, w_t3]
  rfl
set_option maxRecDepth 65536 in
theorem w_case : (Jvm.Cond.and given_1 narrow_1).before args0 about1 = true := by decide +kernel
theorem w_applies : (headSpec (Jvm.Cond.code x code maxLocals ret :: tables_1) room_1).applies x e0.platform about1 = true :=
  (Spec.applies_iff w_frames).mpr ⟨w_running, w_runnable, w_alone, w_named, w_hears, w_ripe, w_room, w_tables⟩
theorem atStart : AtStart classFile x code maxLocals ret World_1 tables_1 room_1 Calls_1 rest_1 Pre_1 launch0 p0 e0 about1 theMethod args0 below0 :=
  ⟨lists_1, trivial, launch0.admits_env _ _ _, launch0.least_env, fairChoices_fair.cas, fairChoices_fair.clock, w_frames, w_args, w_heap, w_applies, trivial, trivial, w_case⟩
end start1
theorem witness_1 : WitnessClaimed_1 := ⟨start1.p0, start1.e0, start1.about1, start1.theMethod, start1.args0, start1.below0, start1.atStart⟩
end Jvm.Pilot.@@N@@
