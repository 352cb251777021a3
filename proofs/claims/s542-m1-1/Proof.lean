import JvmDerived
import JvmDerived.Pilot.@@N@@Statement
import JvmDerived.Pilot.@@N@@Code
set_option linter.unusedVariables false
set_option linter.unusedSimpArgs false
namespace Jvm.Pilot.@@N@@
open Jvm Jvm.ClassFile Sem Op Lib Jvm.Free Jvm.Stand Jvm.LawKit Jvm.RoadKit Bundle Jvm.Pilot.@@N@@.Jvm.D
def own_Go (tb : Tables) (e : Env) (below : List Frame) (P : State → Prop) (A : State) : Prop := ∃ t, Steps tb e below A t ∧ P t
theorem own_go {tb : Tables} {e : Env} {below : List Frame} {P : State → Prop} {A B : State} (h : ∀ t, Steps tb e below B t → Steps tb e below A t) (g : own_Go tb e below P B) : own_Go tb e below P A := by
  obtain ⟨t, h1, h2⟩ := g
  exact ⟨t, h t h1, h2⟩
theorem own_fin {tb : Tables} {e : Env} {below : List Frame} {A : State} {Qq : Outcome → State → Prop} (g : own_Go tb e below (fun t => ∃ o, t.status = .running ∧ Ended t below o ∧ Qq o t) A) : ∃ t o, Steps tb e below A t ∧ t.status = .running ∧ Ended t below o ∧ Qq o t := by
  obtain ⟨t, h1, o, h2, h3, h4⟩ := g
  exact ⟨t, o, h1, h2, h3, h4⟩
theorem own_ret {tb : Tables} {e : Env} {below : List Frame} {P : State → Prop} {A t : State} (h : Steps tb e below A t) (q : P t) : own_Go tb e below P A := ⟨t, h, q⟩
def own_M (l : Launch) (y : MethodName) (bytes : ByteArray) (maxL : Nat) (ret : Option FieldType) (ws : List Jvm.Cond) (rm : Room) (Z : State) (as : Array Value) (h0 : Heap) (Q : Option Value → Heap → List Loc → Prop) : Prop := MetFree l y (head1 (Jvm.Cond.code y bytes maxL ret :: ws) rm) (fun aR UR => aR = as ∧ Z.Warmed39 UR.vm ∧ UR.heap = h0) (fun _ _ _ _ _ => True) (fun _ UR oR UR' => ∃ vR LR, oR = .returned vR ∧ Q vR UR'.heap LR ∧ FrameEnd UR oR UR' LR rm.cells rm.slots)
theorem own_body {l : Launch} {y : MethodName} {bytes : ByteArray} {maxL : Nat} {ret : Option FieldType} {ws : List Jvm.Cond} {rm : Room} {Z : State} {as : Array Value} {h0 : Heap} {Q : Option Value → Heap → List Loc → Prop} {own : String} {f : MethodId → JFrame} (ho : y.cls = own) (hx : plainFor y = true) (ef : ∀ m, entryFrame m as maxL = f m) (k : ∀ (p : Program) (e : Env) (s : State) (m : MethodId) (below : List Frame) (meth : Method) (c : Code) (s₁ : State), BodyLoose p l y (head1 (Jvm.Cond.code y bytes maxL ret :: ws) rm) bytes maxL ret e s m as below meth c s₁ → c.maxLocals = maxL → Z.Warmed39 s.vm → s.heap = h0 → p.tables.exec = Jvm.exec → c.code = bytes → s.vm.findClass own = some m.cls → Stand p l e rm s m as below meth c s₁ [] 0 0 → s₁.heap = h0 → own_Go p.tables e below (fun t => ∃ o, t.status = .running ∧ Ended t below o ∧ ∃ vR LR, o = .returned vR ∧ Q vR t.heap LR ∧ FrameEnd s o t LR rm.cells rm.slots) (s₁.setTop (f m))) : own_M l y bytes maxL ret ws rm Z as h0 Q := by
  subst ho
  refine MetFree.of_bodySF hx hisR ?_
  intro p e s m args below meth c s₁ Bd hml hP hK
  obtain ⟨rfl, hZ, hh⟩ := hP
  exact own_fin (own_go (fun tT kK => castTop (ef m) kK) (k p e s m below meth c s₁ Bd hml hZ hh Bd.exec Bd.bytes (findClass_of_methodNamed Bd.named) (Stand.of_body Bd) (by rw [← hh, Bd.state]; rfl)))
theorem own_sh {tb : Tables} {e : Env} {below : List Frame} {P : State → Prop} {T : State} {m : MethodId} (pc : Nat) (Ls : Array Slot) (st : List Value) (g : own_Go tb e below P (T.setTop (mkF m pc Ls st))) : own_Go tb e below P (T.setTop (mkF m pc Ls st)) := g
theorem own_w {Z : State} {a0 : Array Value} {tab : List Jvm.Cond} (hw : ∀ d ∈ tab, d.before a0 Z = true) (i : Nat) {d : Jvm.Cond} (h : tab[i]? = some d) : d.before a0 Z = true := hw d (List.mem_of_getElem? h)
theorem own_iloadN {tb : Tables} [Ours tb] {e : Env} {below : List Frame} {T : State} {m : MethodId} {c : Code} {P : State → Prop} {pc : Nat} {Ls : Array Slot} {st : List Value} {bc : ByteArray} (h : At T m c below) (hx : tb.exec = Jvm.exec) (hby : c.code = bc) {k : Fin 4} {v : Int32} (hd : decode bc pc = .ok (.iload_n k, 1)) (hl : Ls[k.val]? = some (.val (.int v))) (g : own_Go tb e below P (T.setTop (mkF m (pc + 1) Ls ((.int v) :: st)))) : own_Go tb e below P (T.setTop (mkF m pc Ls (st))) := own_go (fun t k => XS.iloadN h hx rfl (hb hby hd) hl k) g
theorem own_aloadN {tb : Tables} [Ours tb] {e : Env} {below : List Frame} {T : State} {m : MethodId} {c : Code} {P : State → Prop} {pc : Nat} {Ls : Array Slot} {st : List Value} {bc : ByteArray} (h : At T m c below) (hx : tb.exec = Jvm.exec) (hby : c.code = bc) {k : Fin 4} {v : Value} (hd : decode bc pc = .ok (.aload_n k, 1)) (hl : Ls[k.val]? = some (.val v)) (hv : v.isRef = true) (g : own_Go tb e below P (T.setTop (mkF m (pc + 1) Ls (v :: st)))) : own_Go tb e below P (T.setTop (mkF m pc Ls (st))) := own_go (fun t k => XS.aloadN h hx rfl (hb hby hd) hl hv k) g
theorem own_istoreN {tb : Tables} [Ours tb] {e : Env} {below : List Frame} {T : State} {m : MethodId} {c : Code} {P : State → Prop} {pc : Nat} {Ls : Array Slot} {st : List Value} {bc : ByteArray} (h : At T m c below) (hx : tb.exec = Jvm.exec) (hby : c.code = bc) {k : Fin 4} {x : Int32} {l' : Array Slot} (hd : decode bc pc = .ok (.istore_n k, 1)) (hl : storeLocals Ls k.val (.int x) = some l') (g : own_Go tb e below P (T.setTop (mkF m (pc + 1) l' (st)))) : own_Go tb e below P (T.setTop (mkF m pc Ls ((.int x) :: st))) := own_go (fun t k => XS.istoreN h hx rfl (hb hby hd) rfl hl k) g
theorem own_astoreN {tb : Tables} [Ours tb] {e : Env} {below : List Frame} {T : State} {m : MethodId} {c : Code} {P : State → Prop} {pc : Nat} {Ls : Array Slot} {st : List Value} {bc : ByteArray} (h : At T m c below) (hx : tb.exec = Jvm.exec) (hby : c.code = bc) {k : Fin 4} {x : Value} {l' : Array Slot} (hd : decode bc pc = .ok (.astore_n k, 1)) (hv : x.isRef = true) (hl : storeLocals Ls k.val x = some l') (g : own_Go tb e below P (T.setTop (mkF m (pc + 1) l' (st)))) : own_Go tb e below P (T.setTop (mkF m pc Ls (x :: st))) := own_go (fun t k => XS.astoreN h hx rfl (hb hby hd) rfl hv hl k) g
theorem own_iconst {tb : Tables} [Ours tb] {e : Env} {below : List Frame} {T : State} {m : MethodId} {c : Code} {P : State → Prop} {pc : Nat} {Ls : Array Slot} {st : List Value} {bc : ByteArray} (h : At T m c below) (hx : tb.exec = Jvm.exec) (hby : c.code = bc) {i : Int} {v : Int32} (hd : decode bc pc = .ok (.iconst i, 1)) (hv : Int32.ofInt i = v) (g : own_Go tb e below P (T.setTop (mkF m (pc + 1) Ls ((.int v) :: st)))) : own_Go tb e below P (T.setTop (mkF m pc Ls st)) := by
  subst hv
  exact own_go (fun t k => XS.iconst h hx rfl (hb hby hd) k) g
theorem own_iand {tb : Tables} [Ours tb] {e : Env} {below : List Frame} {T : State} {m : MethodId} {c : Code} {P : State → Prop} {pc : Nat} {Ls : Array Slot} {st : List Value} {bc : ByteArray} (h : At T m c below) (hx : tb.exec = Jvm.exec) (hby : c.code = bc) {x y v : Int32} (hd : decode bc pc = .ok (.iand, 1)) (hv : (x &&& y) = v) (g : own_Go tb e below P (T.setTop (mkF m (pc + 1) Ls ((.int v) :: st)))) : own_Go tb e below P (T.setTop (mkF m pc Ls ((.int y) :: (.int x) :: st))) := by
  subst hv
  exact own_go (fun t k => XS.iand h hx rfl (hb hby hd) rfl k) g
theorem own_goto {tb : Tables} [Ours tb] {e : Env} {below : List Frame} {T : State} {m : MethodId} {c : Code} {P : State → Prop} {pc : Nat} {Ls : Array Slot} {st : List Value} {bc : ByteArray} (h : At T m c below) (hx : tb.exec = Jvm.exec) (hby : c.code = bc) {o : Int} {pc' : Nat} (hd : decode bc pc = .ok (.goto o, 3)) (ho : 0 ≤ (pc : Int) + o) (hp : ((pc : Int) + o).toNat = pc') (g : own_Go tb e below P (T.setTop (mkF m pc' Ls st))) : own_Go tb e below P (T.setTop (mkF m pc Ls st)) := own_go (fun t k => XS.goto h hx rfl (pc0 := pc) rfl (hb hby hd) ho hp k) g
theorem own_ifYes {tb : Tables} [Ours tb] {e : Env} {below : List Frame} {T : State} {m : MethodId} {c : Code} {P : State → Prop} {pc : Nat} {Ls : Array Slot} {st : List Value} {bc : ByteArray} (h : At T m c below) (hx : tb.exec = Jvm.exec) (hby : c.code = bc) {cd : ClassFile.Cond} {o : Int} {pc' : Nat} {x : Int32} (hd : decode bc pc = .ok (.ifCond cd o, 3)) (hc : ifCond.holds cd x = true) (ho : 0 ≤ (pc : Int) + o) (hp : ((pc : Int) + o).toNat = pc') (g : own_Go tb e below P (T.setTop (mkF m pc' Ls st))) : own_Go tb e below P (T.setTop (mkF m pc Ls ((.int x) :: st))) := own_go (fun t k => XS.ifYes h hx rfl (pc0 := pc) rfl (hb hby hd) rfl hc ho hp k) g
theorem own_ifNo {tb : Tables} [Ours tb] {e : Env} {below : List Frame} {T : State} {m : MethodId} {c : Code} {P : State → Prop} {pc : Nat} {Ls : Array Slot} {st : List Value} {bc : ByteArray} (h : At T m c below) (hx : tb.exec = Jvm.exec) (hby : c.code = bc) {cd : ClassFile.Cond} {o : Int} {x : Int32} (hd : decode bc pc = .ok (.ifCond cd o, 3)) (hc : ifCond.holds cd x = false) (g : own_Go tb e below P (T.setTop (mkF m (pc + 3) Ls st))) : own_Go tb e below P (T.setTop (mkF m pc Ls ((.int x) :: st))) := own_go (fun t k => XS.ifNo h hx rfl (hb hby hd) rfl hc k) g
theorem own_icmpYes {tb : Tables} [Ours tb] {e : Env} {below : List Frame} {T : State} {m : MethodId} {c : Code} {P : State → Prop} {pc : Nat} {Ls : Array Slot} {st : List Value} {bc : ByteArray} (h : At T m c below) (hx : tb.exec = Jvm.exec) (hby : c.code = bc) {cd : ClassFile.Cond} {o : Int} {pc' : Nat} {x y : Int32} (hd : decode bc pc = .ok (.if_icmp cd o, 3)) (hc : if_icmp.holds cd x y = true) (ho : 0 ≤ (pc : Int) + o) (hp : ((pc : Int) + o).toNat = pc') (g : own_Go tb e below P (T.setTop (mkF m pc' Ls st))) : own_Go tb e below P (T.setTop (mkF m pc Ls ((.int y) :: (.int x) :: st))) := own_go (fun t k => XS.icmpYes h hx rfl (pc0 := pc) rfl (hb hby hd) rfl hc ho hp k) g
theorem own_icmpNo {tb : Tables} [Ours tb] {e : Env} {below : List Frame} {T : State} {m : MethodId} {c : Code} {P : State → Prop} {pc : Nat} {Ls : Array Slot} {st : List Value} {bc : ByteArray} (h : At T m c below) (hx : tb.exec = Jvm.exec) (hby : c.code = bc) {cd : ClassFile.Cond} {o : Int} {x y : Int32} (hd : decode bc pc = .ok (.if_icmp cd o, 3)) (hc : if_icmp.holds cd x y = false) (g : own_Go tb e below P (T.setTop (mkF m (pc + 3) Ls st))) : own_Go tb e below P (T.setTop (mkF m pc Ls ((.int y) :: (.int x) :: st))) := own_go (fun t k => XS.icmpNo h hx rfl (hb hby hd) rfl hc k) g
section OwnGo
variable {p : Program} {l : Launch} {e : Env} {R : Room} {s : State} {m : MethodId} {args : Array Value} {below : List Frame} {meth : Method} {c : Code} {T : State} {locs : List Loc} {cells slots : Nat} {Z : State} {a0 : Array Value} {h : Heap} {P : State → Prop} {pc : Nat} {Ls : Array Slot} {st : List Value} {bc : ByteArray} {n0 : Nat}
theorem own_acmp (X : Stand p l e R s m args below meth c T locs cells slots) (hx : p.tables.exec = Jvm.exec) {cd : ACond} {x y : Value} {o : Int} {pc' : Nat} {same : Bool} (hby : c.code = bc) (hd : decode bc pc = .ok (.if_acmp cd o, 3)) (h1 : x.isRef = true) (h2 : y.isRef = true) (hq : decide (x = y) = same) (ho : 0 ≤ (pc : Int) + o) (hp : pc' = if acV cd same = true then ((pc : Int) + o).toNat else pc + 3) (k : own_Go p.tables e below P (T.setTop (mkF m pc' Ls st))) : own_Go p.tables e below P (T.setTop (mkF m pc Ls (y :: x :: st))) := by
  exact own_go (fun t k => Jvm.RoadKit.acmp (g := mkF m pc Ls (y :: x :: st)) X hx rfl h1 h2 rfl (hb hby hd) rfl hq ho hp k) k
theorem own_getS (X : Stand p l e R s m args below meth c T locs cells slots) (hx : p.tables.exec = Jvm.exec) (hZ : Z.Warmed39 s.vm) {own R0 O n d host : String} {index : Nat} (hown : s.vm.findClass own = some m.cls) (w : (Cond.fieldLink own index R0 n d).before a0 Z = true ∨ (Cond.fieldLinkNest own index R0 n d host).before a0 Z = true) (via : Via Z R0 O n d) (eT : T.heap = h) {v : Value} (F : Sta Z h O n d v) (hby : c.code = bc) (hd : decode bc pc = .ok (.getstatic index, 3)) (k : ∀ T', Stand p l e R s m args below meth c T' locs cells slots → T'.heap = h → own_Go p.tables e below P (T'.setTop (mkF m (pc + 3) Ls (v :: st)))) : own_Go p.tables e below P (T.setTop (mkF m pc Ls st)) := by
  obtain ⟨T', X', e', sp⟩ := getS2 X hx hZ hown w via eT F (g := mkF m pc Ls st) rfl (hb hby hd)
  exact own_go sp (k T' X' e')
theorem own_callS (X : Stand p l e R s m args below meth c T locs cells slots) (hx : p.tables.exec = Jvm.exec) (hZ : Z.Warmed39 s.vm) {own : String} {index : Nat} {y : MethodName} {bytes : ByteArray} {maxL : Nat} {ret : Option FieldType} {rm : Room} {Qc : Option Value → Heap → List Loc → Prop} {as' : Array Value} (hown : s.vm.findClass own = some m.cls) (w1 : (Cond.methodLink own index y).before a0 Z = true) (w2 : (Cond.static y).before a0 Z = true) (w3 : (Cond.initialized y.cls).before a0 Z = true) (w4 : (Cond.code y bytes maxL ret).before a0 Z = true) (hy : y.cls ≠ "java/lang/invoke/MethodHandle" ∧ y.cls ≠ "java/lang/invoke/VarHandle") (hM : MetFree l y (head1 [Cond.code y bytes maxL ret] rm) (fun a U => a = as' ∧ Z.Warmed39 U.vm ∧ U.heap = h) (fun _ _ _ _ _ => True) (fun _ U o U' => ∃ v L, o = .returned v ∧ Qc v U'.heap L ∧ FrameEnd U o U' L rm.cells rm.slots)) (W : Nat) (hW : 2 * 0 + (st.map fun v => v.category).sum ≤ W) (hf : rm.frames + 1 ≤ R.frames) (hl : W + (maxL + 11) + rm.locals ≤ R.locals) (hsize : Ls.size = c.maxLocals) {argsL stk : List Value} (hlen : ∀ sig, parseMethodDescriptor y.desc = some sig → argsL.length = sig.parameters.length) (hstk : stk = argsL.reverse ++ st) (has : argsL.toArray = as') (hc : cells + rm.cells ≤ R.cells) (hs : slots + rm.slots ≤ R.slots) (eT : T.heap = h) (hby : c.code = bc) (hd : decode bc pc = .ok (.invokestatic index, 3)) (k : ∀ T' v L, Stand p l e R s m args below meth c T' (locs ++ L) (cells + rm.cells) (slots + rm.slots) → Qc v T'.heap L → own_Go p.tables e below P (T'.setTop (mkF m (pc + 3) Ls (v.toList ++ st)))) : own_Go p.tables e below P (T.setTop (mkF m pc Ls stk)) := by
  subst hstk
  obtain ⟨v, _, ⟨T', L', k', n'⟩, -, X', ⟨L, hQ, hl', hy', hz'⟩, sp⟩ := Jvm.LawKit.callS X hx hown (mvT hZ w1) (mvT hZ w2) (mvT hZ w3) (mvT hZ w4) hy (backOf (W := W) hM hZ w4 w3 hf hl) (g := mkF m pc Ls (argsL.reverse ++ st)) rfl hsize (argsL := argsL) (rest := st) hlen rfl hW (hb hby hd) (fun _ _ => ⟨has, eT, hc, hs⟩)
  dsimp only [Pt.U, Pt.locs, Pt.cells, Pt.slots] at X' hl' hy' hz' sp hQ
  subst hl' hy' hz'
  exact own_go sp (k T' v L X' hQ)
theorem own_virtual (X : Stand p l e R s m args below meth c T locs cells slots) (hx : p.tables.exec = Jvm.exec) (hZ : Z.Warmed39 s.vm) {own C : String} {index : Nat} {y z : MethodName} {bytes : ByteArray} {maxL : Nat} {ret : Option FieldType} {rm : Room} {Qc : Option Value → Heap → List Loc → Prop} {as' : Array Value} (hown : s.vm.findClass own = some m.cls) (w1 : (Cond.methodLink own index y).before a0 Z = true) (w2 : (Cond.declares y).before a0 Z = true) (nf : NotFace s y) (w5 : (Cond.selects C y z).before a0 Z = true) (w6 : (Cond.instanceMethod z).before a0 Z = true) (w3 : (Cond.initialized z.cls).before a0 Z = true) (w4 : (Cond.code z bytes maxL ret).before a0 Z = true) (hy : y.cls ≠ "java/lang/invoke/MethodHandle" ∧ y.cls ≠ "java/lang/invoke/VarHandle") (hM : MetFree l z (head1 [Cond.code z bytes maxL ret] rm) (fun a U => a = as' ∧ Z.Warmed39 U.vm ∧ U.heap = h) (fun _ _ _ _ _ => True) (fun _ U o U' => ∃ v L, o = .returned v ∧ Qc v U'.heap L ∧ FrameEnd U o U' L rm.cells rm.slots)) (W : Nat) (hW : 2 * 0 + (st.map fun v => v.category).sum ≤ W) (hf : rm.frames + 1 ≤ R.frames) (hl : W + (maxL + 11) + rm.locals ≤ R.locals) (hsize : Ls.size = c.maxLocals) {argsL stk : List Value} {a : Addr} (E : Exa Z h a C) (hlen : ∀ sig, parseMethodDescriptor y.desc = some sig → argsL.length = sig.parameters.length) (hstk : stk = argsL.reverse ++ (.ref a) :: st) (has : ((.ref a) :: argsL).toArray = as') (hc : cells + rm.cells ≤ R.cells) (hs : slots + rm.slots ≤ R.slots) (eT : T.heap = h) (hby : c.code = bc) (hd : decode bc pc = .ok (.invokevirtual index, 3)) (k : ∀ T' v L, Stand p l e R s m args below meth c T' (locs ++ L) (cells + rm.cells) (slots + rm.slots) → Qc v T'.heap L → own_Go p.tables e below P (T'.setTop (mkF m (pc + 3) Ls (v.toList ++ st)))) : own_Go p.tables e below P (T.setTop (mkF m pc Ls stk)) := by
  subst hstk
  obtain ⟨cq, kq, qa, qb, qc⟩ := isOf hZ eT E
  obtain ⟨v, _, ⟨T', L', k', n'⟩, -, X', ⟨L, hQ, hl', hy', hz'⟩, sp⟩ := X.virtualBack hx hown (mvT hZ w1) (mvT hZ w2) nf (mvT hZ w5) (mvT hZ w6) hy (backOf (W := W) hM hZ w4 w3 hf hl) qa qc (g := mkF m pc Ls (argsL.reverse ++ (.ref a) :: st)) rfl hsize (Steps.refl _) (argsL := argsL) (rest := st) hlen rfl hW (hb hby hd) (fun _ _ => ⟨has, eT, hc, hs⟩)
  dsimp only [Pt.U, Pt.locs, Pt.cells, Pt.slots] at X' hl' hy' hz' sp hQ
  subst hl' hy' hz'
  exact own_go (fun t q => sp.trans q) (k T' v L X' hQ)
end OwnGo
theorem own_and3 (x : Int32) : x &&& (3 : Int32) = (0 : Int32) ∨ x &&& (3 : Int32) = (1 : Int32) ∨ x &&& (3 : Int32) = (2 : Int32) ∨ x &&& (3 : Int32) = (3 : Int32) := by
  obtain ⟨h1, h2⟩ := c_and x 3 (by decide)
  have h3 : (3 : Int32).toInt = 3 := by decide
  rw [h3] at h2
  have h4 : (x &&& 3).toInt = 0 ∨ (x &&& 3).toInt = 1 ∨ (x &&& 3).toInt = 2 ∨ (x &&& 3).toInt = 3 := by omega
  rcases h4 with h | h | h | h
  · exact Or.inl (Int32.toInt_inj.mp (h.trans (by decide)))
  · exact Or.inr (Or.inl (Int32.toInt_inj.mp (h.trans (by decide))))
  · exact Or.inr (Or.inr (Or.inl (Int32.toInt_inj.mp (h.trans (by decide)))))
  · exact Or.inr (Or.inr (Or.inr (Int32.toInt_inj.mp (h.trans (by decide)))))
theorem ef_pick_0 (m : MethodId) (x0 : Int32) : entryFrame m #[(.int x0)] 1 = mkF m 0 #[.val (.int x0)] [] := by first | (simp [entryFrame, mkF, argsToLocals, Value.category]; done) | rfl
theorem pn_1 : plainName "com/example/tiny_context/tinycontext/CachePolicyTimedPinLaw" = true := by first | (simp [plainName, overriddenIn]; done) | decide +kernel
theorem d1_0 : decode method_2_code 0 = .ok (.iload_n 0, 1) := by decide +kernel
theorem d1_1 : decode method_2_code 1 = .ok (.ifCond .ne 7, 3) := by decide +kernel
theorem d1_4 : decode method_2_code 4 = .ok (.getstatic 7, 3) := by decide +kernel
theorem d1_7 : decode method_2_code 7 = .ok (.areturn, 1) := by decide +kernel
def Q_pick_0 (Z : State) (w : Nat) (h0 : Heap) (n0 : Nat) (vR : Option Value) (hR : Heap) (LR : List Loc) : Prop := vR = some (.ref w) ∧ Fr n0 LR ∧ hR = h0
set_option maxRecDepth 65536 in
set_option maxHeartbeats 40000000 in
theorem pick_0 (l : Launch) (Z : State) (a0 : Array Value) (hw : ∀ d ∈ tables_1, d.before a0 Z = true) (ws : List Jvm.Cond) (w : Nat) (h0 : Heap) (n0 : Nat) (Z0 : n0 ≤ h0.size) (S_SESSION_DAILY : Sta Z h0 "com/example/tiny_context/tinycontext/CachePolicy" "SESSION_DAILY" "Lcom/example/tiny_context/tinycontext/CachePolicy;" (.ref w)) :
    own_M l (⟨"com/example/tiny_context/tinycontext/CachePolicyTimedPinLaw", "pick", "(I)Lcom/example/tiny_context/tinycontext/CachePolicy;"⟩ : MethodName) method_2_code 1 (some (.object "com/example/tiny_context/tinycontext/CachePolicy")) ws ({ frames := 0, cells := 0, slots := 0, locals := 0 } : Room) Z #[(.int 0)] h0 (Q_pick_0 Z w h0 n0) := by
  refine own_body (own := "com/example/tiny_context/tinycontext/CachePolicyTimedPinLaw") rfl (plainFor_of_name pn_1) (fun m => ef_pick_0 m (0 : Int32)) ?_
  intro p e s m below meth c s₁ Bd hml hZ hh hx hby hown X0 e0
  have N0 := Fr.nil n0
  refine own_iloadN X0.here hx hby d1_0 rfl ?_
  refine own_ifNo X0.here hx hby d1_1 ((if0 _ _).trans (teq (show (0 : Int32) = (0 : Int32) from (by decide))).2) ?_
  refine own_getS X0 hx hZ hown (host := "") (Or.inl (own_w hw 4 rfl)) Via.refl e0 S_SESSION_DAILY hby d1_4 ?_
  intro T1 X1 e1
  obtain ⟨fs, hr, hrun, hended, hW, hsame⟩ := X1.leave (v := some (.ref w)) (fun h => by rw [Bd.returns] at h; cases h)
  refine own_ret (t := T1.setFrames fs) ?_ ⟨_, hrun, hended, _, _, rfl, ?_, ⟨_, rfl⟩, hW, hsame.mono (by decide) (by decide)⟩
  · exact retOut X1 hx Bd.returns rfl (Or.inr (Or.inr (Or.inr (Or.inr ⟨rfl, rfl, rfl⟩)))) (hb hby d1_7) hr
  · show Q_pick_0 Z w h0 n0 _ T1.heap _
    rw [e1]
    exact ⟨rfl, N0, rfl⟩
theorem d1_8 : decode method_2_code 8 = .ok (.iload_n 0, 1) := by decide +kernel
theorem d1_9 : decode method_2_code 9 = .ok (.iconst 1, 1) := by decide +kernel
theorem d1_10 : decode method_2_code 10 = .ok (.if_icmp .ne 7, 3) := by decide +kernel
theorem d1_13 : decode method_2_code 13 = .ok (.getstatic 13, 3) := by decide +kernel
theorem d1_16 : decode method_2_code 16 = .ok (.areturn, 1) := by decide +kernel
def Q_pick_1 (Z : State) (w : Nat) (h0 : Heap) (n0 : Nat) (vR : Option Value) (hR : Heap) (LR : List Loc) : Prop := vR = some (.ref w) ∧ Fr n0 LR ∧ hR = h0
set_option maxRecDepth 65536 in
set_option maxHeartbeats 40000000 in
theorem pick_1 (l : Launch) (Z : State) (a0 : Array Value) (hw : ∀ d ∈ tables_1, d.before a0 Z = true) (ws : List Jvm.Cond) (w : Nat) (h0 : Heap) (n0 : Nat) (Z0 : n0 ≤ h0.size) (S_SESSION_USER_DAILY : Sta Z h0 "com/example/tiny_context/tinycontext/CachePolicy" "SESSION_USER_DAILY" "Lcom/example/tiny_context/tinycontext/CachePolicy;" (.ref w)) :
    own_M l (⟨"com/example/tiny_context/tinycontext/CachePolicyTimedPinLaw", "pick", "(I)Lcom/example/tiny_context/tinycontext/CachePolicy;"⟩ : MethodName) method_2_code 1 (some (.object "com/example/tiny_context/tinycontext/CachePolicy")) ws ({ frames := 0, cells := 0, slots := 0, locals := 0 } : Room) Z #[(.int 1)] h0 (Q_pick_1 Z w h0 n0) := by
  refine own_body (own := "com/example/tiny_context/tinycontext/CachePolicyTimedPinLaw") rfl (plainFor_of_name pn_1) (fun m => ef_pick_0 m (1 : Int32)) ?_
  intro p e s m below meth c s₁ Bd hml hZ hh hx hby hown X0 e0
  have N0 := Fr.nil n0
  refine own_iloadN X0.here hx hby d1_0 rfl ?_
  refine own_ifYes X0.here hx hby (pc' := 8) d1_1 ((if0 _ _).trans (feq (show ¬ ((1 : Int32) = (0 : Int32)) from (by decide))).2) (by decide) (by decide) ?_
  refine own_iloadN X0.here hx hby d1_8 rfl ?_
  refine own_iconst X0.here hx hby d1_9 (v := (1 : Int32)) (by decide) ?_
  refine own_icmpNo X0.here hx hby d1_10 (teq (show (1 : Int32) = (1 : Int32) from (by decide))).2 ?_
  refine own_getS X0 hx hZ hown (host := "") (Or.inl (own_w hw 19 rfl)) Via.refl e0 S_SESSION_USER_DAILY hby d1_13 ?_
  intro T1 X1 e1
  obtain ⟨fs, hr, hrun, hended, hW, hsame⟩ := X1.leave (v := some (.ref w)) (fun h => by rw [Bd.returns] at h; cases h)
  refine own_ret (t := T1.setFrames fs) ?_ ⟨_, hrun, hended, _, _, rfl, ?_, ⟨_, rfl⟩, hW, hsame.mono (by decide) (by decide)⟩
  · exact retOut X1 hx Bd.returns rfl (Or.inr (Or.inr (Or.inr (Or.inr ⟨rfl, rfl, rfl⟩)))) (hb hby d1_16) hr
  · show Q_pick_1 Z w h0 n0 _ T1.heap _
    rw [e1]
    exact ⟨rfl, N0, rfl⟩
theorem d1_17 : decode method_2_code 17 = .ok (.iload_n 0, 1) := by decide +kernel
theorem d1_18 : decode method_2_code 18 = .ok (.iconst 2, 1) := by decide +kernel
theorem d1_19 : decode method_2_code 19 = .ok (.if_icmp .ne 7, 3) := by decide +kernel
theorem d1_22 : decode method_2_code 22 = .ok (.getstatic 16, 3) := by decide +kernel
theorem d1_25 : decode method_2_code 25 = .ok (.areturn, 1) := by decide +kernel
def Q_pick_2 (Z : State) (w : Nat) (h0 : Heap) (n0 : Nat) (vR : Option Value) (hR : Heap) (LR : List Loc) : Prop := vR = some (.ref w) ∧ Fr n0 LR ∧ hR = h0
set_option maxRecDepth 65536 in
set_option maxHeartbeats 40000000 in
theorem pick_2 (l : Launch) (Z : State) (a0 : Array Value) (hw : ∀ d ∈ tables_1, d.before a0 Z = true) (ws : List Jvm.Cond) (w : Nat) (h0 : Heap) (n0 : Nat) (Z0 : n0 ≤ h0.size) (S_SESSION_INTERVAL : Sta Z h0 "com/example/tiny_context/tinycontext/CachePolicy" "SESSION_INTERVAL" "Lcom/example/tiny_context/tinycontext/CachePolicy;" (.ref w)) :
    own_M l (⟨"com/example/tiny_context/tinycontext/CachePolicyTimedPinLaw", "pick", "(I)Lcom/example/tiny_context/tinycontext/CachePolicy;"⟩ : MethodName) method_2_code 1 (some (.object "com/example/tiny_context/tinycontext/CachePolicy")) ws ({ frames := 0, cells := 0, slots := 0, locals := 0 } : Room) Z #[(.int 2)] h0 (Q_pick_2 Z w h0 n0) := by
  refine own_body (own := "com/example/tiny_context/tinycontext/CachePolicyTimedPinLaw") rfl (plainFor_of_name pn_1) (fun m => ef_pick_0 m (2 : Int32)) ?_
  intro p e s m below meth c s₁ Bd hml hZ hh hx hby hown X0 e0
  have N0 := Fr.nil n0
  refine own_iloadN X0.here hx hby d1_0 rfl ?_
  refine own_ifYes X0.here hx hby (pc' := 8) d1_1 ((if0 _ _).trans (feq (show ¬ ((2 : Int32) = (0 : Int32)) from (by decide))).2) (by decide) (by decide) ?_
  refine own_iloadN X0.here hx hby d1_8 rfl ?_
  refine own_iconst X0.here hx hby d1_9 (v := (1 : Int32)) (by decide) ?_
  refine own_icmpYes X0.here hx hby (pc' := 17) d1_10 (feq (show ¬ ((2 : Int32) = (1 : Int32)) from (by decide))).2 (by decide) (by decide) ?_
  refine own_iloadN X0.here hx hby d1_17 rfl ?_
  refine own_iconst X0.here hx hby d1_18 (v := (2 : Int32)) (by decide) ?_
  refine own_icmpNo X0.here hx hby d1_19 (teq (show (2 : Int32) = (2 : Int32) from (by decide))).2 ?_
  refine own_getS X0 hx hZ hown (host := "") (Or.inl (own_w hw 16 rfl)) Via.refl e0 S_SESSION_INTERVAL hby d1_22 ?_
  intro T1 X1 e1
  obtain ⟨fs, hr, hrun, hended, hW, hsame⟩ := X1.leave (v := some (.ref w)) (fun h => by rw [Bd.returns] at h; cases h)
  refine own_ret (t := T1.setFrames fs) ?_ ⟨_, hrun, hended, _, _, rfl, ?_, ⟨_, rfl⟩, hW, hsame.mono (by decide) (by decide)⟩
  · exact retOut X1 hx Bd.returns rfl (Or.inr (Or.inr (Or.inr (Or.inr ⟨rfl, rfl, rfl⟩)))) (hb hby d1_25) hr
  · show Q_pick_2 Z w h0 n0 _ T1.heap _
    rw [e1]
    exact ⟨rfl, N0, rfl⟩
theorem d1_26 : decode method_2_code 26 = .ok (.getstatic 19, 3) := by decide +kernel
theorem d1_29 : decode method_2_code 29 = .ok (.areturn, 1) := by decide +kernel
def Q_pick_3 (Z : State) (w : Nat) (h0 : Heap) (n0 : Nat) (vR : Option Value) (hR : Heap) (LR : List Loc) : Prop := vR = some (.ref w) ∧ Fr n0 LR ∧ hR = h0
set_option maxRecDepth 65536 in
set_option maxHeartbeats 40000000 in
theorem pick_3 (l : Launch) (Z : State) (a0 : Array Value) (hw : ∀ d ∈ tables_1, d.before a0 Z = true) (ws : List Jvm.Cond) (w : Nat) (h0 : Heap) (n0 : Nat) (Z0 : n0 ≤ h0.size) (S_SESSION_INFINITE : Sta Z h0 "com/example/tiny_context/tinycontext/CachePolicy" "SESSION_INFINITE" "Lcom/example/tiny_context/tinycontext/CachePolicy;" (.ref w)) :
    own_M l (⟨"com/example/tiny_context/tinycontext/CachePolicyTimedPinLaw", "pick", "(I)Lcom/example/tiny_context/tinycontext/CachePolicy;"⟩ : MethodName) method_2_code 1 (some (.object "com/example/tiny_context/tinycontext/CachePolicy")) ws ({ frames := 0, cells := 0, slots := 0, locals := 0 } : Room) Z #[(.int 3)] h0 (Q_pick_3 Z w h0 n0) := by
  refine own_body (own := "com/example/tiny_context/tinycontext/CachePolicyTimedPinLaw") rfl (plainFor_of_name pn_1) (fun m => ef_pick_0 m (3 : Int32)) ?_
  intro p e s m below meth c s₁ Bd hml hZ hh hx hby hown X0 e0
  have N0 := Fr.nil n0
  refine own_iloadN X0.here hx hby d1_0 rfl ?_
  refine own_ifYes X0.here hx hby (pc' := 8) d1_1 ((if0 _ _).trans (feq (show ¬ ((3 : Int32) = (0 : Int32)) from (by decide))).2) (by decide) (by decide) ?_
  refine own_iloadN X0.here hx hby d1_8 rfl ?_
  refine own_iconst X0.here hx hby d1_9 (v := (1 : Int32)) (by decide) ?_
  refine own_icmpYes X0.here hx hby (pc' := 17) d1_10 (feq (show ¬ ((3 : Int32) = (1 : Int32)) from (by decide))).2 (by decide) (by decide) ?_
  refine own_iloadN X0.here hx hby d1_17 rfl ?_
  refine own_iconst X0.here hx hby d1_18 (v := (2 : Int32)) (by decide) ?_
  refine own_icmpYes X0.here hx hby (pc' := 26) d1_19 (feq (show ¬ ((3 : Int32) = (2 : Int32)) from (by decide))).2 (by decide) (by decide) ?_
  refine own_getS X0 hx hZ hown (host := "") (Or.inl (own_w hw 14 rfl)) Via.refl e0 S_SESSION_INFINITE hby d1_26 ?_
  intro T1 X1 e1
  obtain ⟨fs, hr, hrun, hended, hW, hsame⟩ := X1.leave (v := some (.ref w)) (fun h => by rw [Bd.returns] at h; cases h)
  refine own_ret (t := T1.setFrames fs) ?_ ⟨_, hrun, hended, _, _, rfl, ?_, ⟨_, rfl⟩, hW, hsame.mono (by decide) (by decide)⟩
  · exact retOut X1 hx Bd.returns rfl (Or.inr (Or.inr (Or.inr (Or.inr ⟨rfl, rfl, rfl⟩)))) (hb hby d1_29) hr
  · show Q_pick_3 Z w h0 n0 _ T1.heap _
    rw [e1]
    exact ⟨rfl, N0, rfl⟩
theorem ef_timed_no (m : MethodId) (x0 : Nat) : entryFrame m #[(.ref x0)] 1 = mkF m 0 #[.val (.ref x0)] [] := by first | (simp [entryFrame, mkF, argsToLocals, Value.category]; done) | rfl
theorem pn_2 : plainName "com/example/tiny_context/tinycontext/CachePolicy" = true := by first | (simp [plainName, overriddenIn]; done) | decide +kernel
theorem d2_0 : decode prog_2_method_7_code 0 = .ok (.aload_n 0, 1) := by decide +kernel
theorem d2_1 : decode prog_2_method_7_code 1 = .ok (.getstatic 13, 3) := by decide +kernel
theorem d2_4 : decode prog_2_method_7_code 4 = .ok (.if_acmp .eq 7, 3) := by decide +kernel
theorem d2_11 : decode prog_2_method_7_code 11 = .ok (.iconst 0, 1) := by decide +kernel
theorem d2_12 : decode prog_2_method_7_code 12 = .ok (.ireturn, 1) := by decide +kernel
def Q_timed_no (Z : State) (w : Nat) (h0 : Heap) (n0 : Nat) (vR : Option Value) (hR : Heap) (LR : List Loc) : Prop := vR = some (.int 0) ∧ Fr n0 LR ∧ hR = h0
set_option maxRecDepth 65536 in
set_option maxHeartbeats 40000000 in
theorem timed_no (l : Launch) (Z : State) (a0 : Array Value) (hw : ∀ d ∈ tables_1, d.before a0 Z = true) (ws : List Jvm.Cond) (w : Nat) (h0 : Heap) (n0 : Nat) (Z0 : n0 ≤ h0.size) (S_SESSION_INFINITE : Sta Z h0 "com/example/tiny_context/tinycontext/CachePolicy" "SESSION_INFINITE" "Lcom/example/tiny_context/tinycontext/CachePolicy;" (.ref w)) :
    own_M l (⟨"com/example/tiny_context/tinycontext/CachePolicy", "timed", "()Z"⟩ : MethodName) prog_2_method_7_code 1 (some .boolean) ws ({ frames := 0, cells := 0, slots := 0, locals := 0 } : Room) Z #[(.ref w)] h0 (Q_timed_no Z w h0 n0) := by
  refine own_body (own := "com/example/tiny_context/tinycontext/CachePolicy") rfl (plainFor_of_name pn_2) (fun m => ef_timed_no m w) ?_
  intro p e s m below meth c s₁ Bd hml hZ hh hx hby hown X0 e0
  have N0 := Fr.nil n0
  refine own_aloadN X0.here hx hby d2_0 rfl rfl ?_
  refine own_getS X0 hx hZ hown (host := "") (Or.inl (own_w hw 12 rfl)) Via.refl e0 S_SESSION_INFINITE hby d2_1 ?_
  intro T1 X1 e1
  refine own_acmp X1 hx (same := true) (pc' := 11) hby d2_4 rfl rfl (decide_eq_true rfl) (by decide) (by decide) ?_
  refine own_iconst X1.here hx hby d2_11 (v := (0 : Int32)) (by decide) ?_
  obtain ⟨fs, hr, hrun, hended, hW, hsame⟩ := X1.leave (v := some (.int 0)) (fun h => by rw [Bd.returns] at h; cases h)
  refine own_ret (t := T1.setFrames fs) ?_ ⟨_, hrun, hended, _, _, rfl, ?_, ⟨_, rfl⟩, hW, hsame.mono (by decide) (by decide)⟩
  · exact retN X1 hx (t := .boolean) Bd.returns (by simp) (hb hby d2_12) hr
  · show Q_timed_no Z w h0 n0 _ T1.heap _
    rw [e1]
    exact ⟨rfl, N0, rfl⟩
theorem d2_7 : decode prog_2_method_7_code 7 = .ok (.iconst 1, 1) := by decide +kernel
theorem d2_8 : decode prog_2_method_7_code 8 = .ok (.goto 4, 3) := by decide +kernel
def Q_timed_yes (Z : State) (a1 : Nat) (w : Nat) (h0 : Heap) (n0 : Nat) (vR : Option Value) (hR : Heap) (LR : List Loc) : Prop := vR = some (.int 1) ∧ Fr n0 LR ∧ hR = h0
set_option maxRecDepth 65536 in
set_option maxHeartbeats 40000000 in
theorem timed_yes (l : Launch) (Z : State) (a0 : Array Value) (hw : ∀ d ∈ tables_1, d.before a0 Z = true) (ws : List Jvm.Cond) (a1 : Nat) (w : Nat) (h0 : Heap) (n0 : Nat) (Z0 : n0 ≤ h0.size) (S_SESSION_INFINITE : Sta Z h0 "com/example/tiny_context/tinycontext/CachePolicy" "SESSION_INFINITE" "Lcom/example/tiny_context/tinycontext/CachePolicy;" (.ref w)) (hne : a1 ≠ w) :
    own_M l (⟨"com/example/tiny_context/tinycontext/CachePolicy", "timed", "()Z"⟩ : MethodName) prog_2_method_7_code 1 (some .boolean) ws ({ frames := 0, cells := 0, slots := 0, locals := 0 } : Room) Z #[(.ref a1)] h0 (Q_timed_yes Z a1 w h0 n0) := by
  refine own_body (own := "com/example/tiny_context/tinycontext/CachePolicy") rfl (plainFor_of_name pn_2) (fun m => ef_timed_no m a1) ?_
  intro p e s m below meth c s₁ Bd hml hZ hh hx hby hown X0 e0
  have N0 := Fr.nil n0
  refine own_aloadN X0.here hx hby d2_0 rfl rfl ?_
  refine own_getS X0 hx hZ hown (host := "") (Or.inl (own_w hw 12 rfl)) Via.refl e0 S_SESSION_INFINITE hby d2_1 ?_
  intro T2 X2 e2
  refine own_acmp X2 hx (same := false) (pc' := 7) hby d2_4 rfl rfl (decide_eq_false fun q => absurd (Value.ref.inj q) hne) (by decide) (by decide) ?_
  refine own_iconst X2.here hx hby d2_7 (v := (1 : Int32)) (by decide) ?_
  refine own_goto X2.here hx hby (pc' := 12) d2_8 (by decide) (by decide) ?_
  obtain ⟨fs, hr, hrun, hended, hW, hsame⟩ := X2.leave (v := some (.int 1)) (fun h => by rw [Bd.returns] at h; cases h)
  refine own_ret (t := T2.setFrames fs) ?_ ⟨_, hrun, hended, _, _, rfl, ?_, ⟨_, rfl⟩, hW, hsame.mono (by decide) (by decide)⟩
  · exact retN X2 hx (t := .boolean) Bd.returns (by simp) (hb hby d2_12) hr
  · show Q_timed_yes Z a1 w h0 n0 _ T2.heap _
    rw [e2]
    exact ⟨rfl, N0, rfl⟩
theorem ef_rm0 (m : MethodId) (x0 : Int32) : entryFrame m #[(.int x0)] maxLocals = mkF m 0 #[.val (.int x0), .unset, .unset, .unset] [] := by first | (simp [entryFrame, mkF, argsToLocals, Value.category, maxLocals]; done) | rfl
theorem pn_0 : plainName "com/example/tiny_context/tinycontext/CachePolicyTimedPinLaw" = true := by first | (simp [plainName, overriddenIn]; done) | decide +kernel
theorem pd_0 : parseMethodDescriptor "(I)Lcom/example/tiny_context/tinycontext/CachePolicy;" = some ⟨[.int], some (.object "com/example/tiny_context/tinycontext/CachePolicy")⟩ := by decide +kernel
theorem pd_1 : parseMethodDescriptor "()Z" = some ⟨[], some .boolean⟩ := by decide +kernel
def Q_rm0 (Z : State) (p1 : Int32) (w1 : Nat) (w2 : Nat) (w3 : Nat) (w4 : Nat) (h0 : Heap) (n0 : Nat) (vR : Option Value) (hR : Heap) (LR : List Loc) : Prop := vR = some (.int 1) ∧ Fr n0 LR ∧ True
set_option maxRecDepth 65536 in
set_option maxHeartbeats 40000000 in
theorem rm0 (l : Launch) (Z : State) (a0 : Array Value) (hw : ∀ d ∈ tables_1, d.before a0 Z = true) (ws : List Jvm.Cond) (p1 : Int32) (w1 : Nat) (w2 : Nat) (w3 : Nat) (w4 : Nat) (h0 : Heap) (n0 : Nat) (Z0 : n0 ≤ h0.size) (S_SESSION_DAILY : Sta Z h0 "com/example/tiny_context/tinycontext/CachePolicy" "SESSION_DAILY" "Lcom/example/tiny_context/tinycontext/CachePolicy;" (.ref w1)) (S_SESSION_USER_DAILY : Sta Z h0 "com/example/tiny_context/tinycontext/CachePolicy" "SESSION_USER_DAILY" "Lcom/example/tiny_context/tinycontext/CachePolicy;" (.ref w2)) (S_SESSION_INTERVAL : Sta Z h0 "com/example/tiny_context/tinycontext/CachePolicy" "SESSION_INTERVAL" "Lcom/example/tiny_context/tinycontext/CachePolicy;" (.ref w3)) (S_SESSION_INFINITE : Sta Z h0 "com/example/tiny_context/tinycontext/CachePolicy" "SESSION_INFINITE" "Lcom/example/tiny_context/tinycontext/CachePolicy;" (.ref w4)) (E_w1 : Exa Z h0 w1 "com/example/tiny_context/tinycontext/CachePolicy$1") (E_w2 : Exa Z h0 w2 "com/example/tiny_context/tinycontext/CachePolicy$2") (E_w3 : Exa Z h0 w3 "com/example/tiny_context/tinycontext/CachePolicy$3") (E_w4 : Exa Z h0 w4 "com/example/tiny_context/tinycontext/CachePolicy$4") :
    own_M l x code maxLocals ret ws room_1 Z #[(.int p1)] h0 (Q_rm0 Z p1 w1 w2 w3 w4 h0 n0) := by
  refine own_body (own := "com/example/tiny_context/tinycontext/CachePolicyTimedPinLaw") rfl (plainFor_of_name pn_0) (fun m => ef_rm0 m p1) ?_
  intro p e s m below meth c s₁ Bd hml hZ hh hx hby hown X0 e0
  have N0 := Fr.nil n0
  have lt5 : h0.size > w1 := E_w1.lt
  have lt6 : h0.size > w2 := E_w2.lt
  have lt7 : h0.size > w3 := E_w3.lt
  have lt8 : h0.size > w4 := E_w4.lt
  refine own_iloadN X0.here hx hby at_0 rfl ?_
  refine own_iconst X0.here hx hby at_1 (v := (3 : Int32)) (by decide) ?_
  refine own_iand X0.here hx hby at_2 rfl ?_
  refine own_sh (T := s₁) 3 #[.val (.int p1), .unset, .unset, .unset] [(.int (p1 &&& (3 : Int32)))] ?_
  rcases own_and3 p1 with hk | hk | hk | hk
  · rw [hk]
    refine own_istoreN X0.here hx hby at_3 (l' := #[.val (.int p1), .val (.int 0), .unset, .unset]) rfl ?_
    refine own_iloadN X0.here hx hby at_4 rfl ?_
    refine own_callS X0 hx hZ hown (own_w hw 0 rfl) (own_w hw 1 rfl) (own_w hw 2 rfl) (own_w hw 3 rfl) (by decide) (pick_0 l Z a0 hw [] w1 h0 n0 Z0 S_SESSION_DAILY) 0 (Nat.le_of_eq rfl) (by decide) (by decide) (by rw [hml]; rfl) (argsL := [(.int 0)]) (st := []) (lenOf pd_0 rfl) rfl rfl (by decide) (by decide) e0 hby at_5 ?_
    intro T9 v9 L9 X9 hQ9
    obtain ⟨rfl, Nq9, eh9⟩ := hQ9
    have N9 := Fr.app N0 Nq9
    refine own_sh (T := T9) 8 #[.val (.int p1), .val (.int 0), .unset, .unset] [(.ref w1)] ?_
    refine own_astoreN X9.here hx hby at_8 rfl (l' := #[.val (.int p1), .val (.int 0), .val (.ref w1), .unset]) rfl ?_
    refine own_iloadN X9.here hx hby at_9 rfl ?_
    refine own_iconst X9.here hx hby at_10 (v := (3 : Int32)) (by decide) ?_
    refine own_icmpYes X9.here hx hby (pc' := 19) at_11 (feq (show ¬ ((0 : Int32) = (3 : Int32)) from (by decide))).2 (by decide) (by decide) ?_
    refine own_iconst X9.here hx hby at_19 (v := (1 : Int32)) (by decide) ?_
    refine own_istoreN X9.here hx hby at_20 (l' := #[.val (.int p1), .val (.int 0), .val (.ref w1), .val (.int 1)]) rfl ?_
    refine own_aloadN X9.here hx hby at_21 rfl rfl ?_
    refine own_virtual X9 hx hZ hown (own_w hw 7 rfl) (own_w hw 8 rfl) (notFace_of_selects (args := #[]) (mvT hZ (own_w hw 10 rfl))) (own_w hw 10 rfl) (own_w hw 9 rfl) (own_w hw 5 rfl) (own_w hw 11 rfl) (by decide) (timed_yes l Z a0 hw [] w1 w4 h0 n0 Z0 S_SESSION_INFINITE (ne_exa E_w1 E_w4 (by decide))) 0 (Nat.le_of_eq rfl) (by decide) (by decide) (by rw [hml]; rfl) (argsL := []) (st := []) E_w1 (lenOf pd_1 rfl) rfl rfl (by decide) (by decide) eh9 hby at_22 ?_
    intro T10 v10 L10 X10 hQ10
    obtain ⟨rfl, Nq10, eh10⟩ := hQ10
    have N10 := Fr.app N9 Nq10
    refine own_sh (T := T10) 25 #[.val (.int p1), .val (.int 0), .val (.ref w1), .val (.int 1)] [(.int 1)] ?_
    refine own_iloadN X10.here hx hby at_25 rfl ?_
    refine own_icmpNo X10.here hx hby at_26 (teq (show (1 : Int32) = (1 : Int32) from (by decide))).2 ?_
    refine own_iconst X10.here hx hby at_29 (v := (1 : Int32)) (by decide) ?_
    refine own_goto X10.here hx hby (pc' := 34) at_30 (by decide) (by decide) ?_
    obtain ⟨fs, hr, hrun, hended, hW, hsame⟩ := X10.leave (v := some (.int 1)) (fun h => by rw [Bd.returns] at h; cases h)
    refine own_ret (t := T10.setFrames fs) ?_ ⟨_, hrun, hended, _, _, rfl, ?_, ⟨_, rfl⟩, hW, hsame.mono (by decide) (by decide)⟩
    · exact retN X10 hx (t := .boolean) Bd.returns (by simp) (hb hby at_34) hr
    · show Q_rm0 Z p1 w1 w2 w3 w4 h0 n0 _ T10.heap _
      rw [eh10]
      exact ⟨rfl, N10, trivial⟩
  · rw [hk]
    refine own_istoreN X0.here hx hby at_3 (l' := #[.val (.int p1), .val (.int 1), .unset, .unset]) rfl ?_
    refine own_iloadN X0.here hx hby at_4 rfl ?_
    refine own_callS X0 hx hZ hown (own_w hw 0 rfl) (own_w hw 1 rfl) (own_w hw 2 rfl) (own_w hw 3 rfl) (by decide) (pick_1 l Z a0 hw [] w2 h0 n0 Z0 S_SESSION_USER_DAILY) 0 (Nat.le_of_eq rfl) (by decide) (by decide) (by rw [hml]; rfl) (argsL := [(.int 1)]) (st := []) (lenOf pd_0 rfl) rfl rfl (by decide) (by decide) e0 hby at_5 ?_
    intro T11 v11 L11 X11 hQ11
    obtain ⟨rfl, Nq11, eh11⟩ := hQ11
    have N11 := Fr.app N0 Nq11
    refine own_sh (T := T11) 8 #[.val (.int p1), .val (.int 1), .unset, .unset] [(.ref w2)] ?_
    refine own_astoreN X11.here hx hby at_8 rfl (l' := #[.val (.int p1), .val (.int 1), .val (.ref w2), .unset]) rfl ?_
    refine own_iloadN X11.here hx hby at_9 rfl ?_
    refine own_iconst X11.here hx hby at_10 (v := (3 : Int32)) (by decide) ?_
    refine own_icmpYes X11.here hx hby (pc' := 19) at_11 (feq (show ¬ ((1 : Int32) = (3 : Int32)) from (by decide))).2 (by decide) (by decide) ?_
    refine own_iconst X11.here hx hby at_19 (v := (1 : Int32)) (by decide) ?_
    refine own_istoreN X11.here hx hby at_20 (l' := #[.val (.int p1), .val (.int 1), .val (.ref w2), .val (.int 1)]) rfl ?_
    refine own_aloadN X11.here hx hby at_21 rfl rfl ?_
    refine own_virtual X11 hx hZ hown (own_w hw 7 rfl) (own_w hw 8 rfl) (notFace_of_selects (args := #[]) (mvT hZ (own_w hw 21 rfl))) (own_w hw 21 rfl) (own_w hw 9 rfl) (own_w hw 5 rfl) (own_w hw 11 rfl) (by decide) (timed_yes l Z a0 hw [] w2 w4 h0 n0 Z0 S_SESSION_INFINITE (ne_exa E_w2 E_w4 (by decide))) 0 (Nat.le_of_eq rfl) (by decide) (by decide) (by rw [hml]; rfl) (argsL := []) (st := []) E_w2 (lenOf pd_1 rfl) rfl rfl (by decide) (by decide) eh11 hby at_22 ?_
    intro T12 v12 L12 X12 hQ12
    obtain ⟨rfl, Nq12, eh12⟩ := hQ12
    have N12 := Fr.app N11 Nq12
    refine own_sh (T := T12) 25 #[.val (.int p1), .val (.int 1), .val (.ref w2), .val (.int 1)] [(.int 1)] ?_
    refine own_iloadN X12.here hx hby at_25 rfl ?_
    refine own_icmpNo X12.here hx hby at_26 (teq (show (1 : Int32) = (1 : Int32) from (by decide))).2 ?_
    refine own_iconst X12.here hx hby at_29 (v := (1 : Int32)) (by decide) ?_
    refine own_goto X12.here hx hby (pc' := 34) at_30 (by decide) (by decide) ?_
    obtain ⟨fs, hr, hrun, hended, hW, hsame⟩ := X12.leave (v := some (.int 1)) (fun h => by rw [Bd.returns] at h; cases h)
    refine own_ret (t := T12.setFrames fs) ?_ ⟨_, hrun, hended, _, _, rfl, ?_, ⟨_, rfl⟩, hW, hsame.mono (by decide) (by decide)⟩
    · exact retN X12 hx (t := .boolean) Bd.returns (by simp) (hb hby at_34) hr
    · show Q_rm0 Z p1 w1 w2 w3 w4 h0 n0 _ T12.heap _
      rw [eh12]
      exact ⟨rfl, N12, trivial⟩
  · rw [hk]
    refine own_istoreN X0.here hx hby at_3 (l' := #[.val (.int p1), .val (.int 2), .unset, .unset]) rfl ?_
    refine own_iloadN X0.here hx hby at_4 rfl ?_
    refine own_callS X0 hx hZ hown (own_w hw 0 rfl) (own_w hw 1 rfl) (own_w hw 2 rfl) (own_w hw 3 rfl) (by decide) (pick_2 l Z a0 hw [] w3 h0 n0 Z0 S_SESSION_INTERVAL) 0 (Nat.le_of_eq rfl) (by decide) (by decide) (by rw [hml]; rfl) (argsL := [(.int 2)]) (st := []) (lenOf pd_0 rfl) rfl rfl (by decide) (by decide) e0 hby at_5 ?_
    intro T13 v13 L13 X13 hQ13
    obtain ⟨rfl, Nq13, eh13⟩ := hQ13
    have N13 := Fr.app N0 Nq13
    refine own_sh (T := T13) 8 #[.val (.int p1), .val (.int 2), .unset, .unset] [(.ref w3)] ?_
    refine own_astoreN X13.here hx hby at_8 rfl (l' := #[.val (.int p1), .val (.int 2), .val (.ref w3), .unset]) rfl ?_
    refine own_iloadN X13.here hx hby at_9 rfl ?_
    refine own_iconst X13.here hx hby at_10 (v := (3 : Int32)) (by decide) ?_
    refine own_icmpYes X13.here hx hby (pc' := 19) at_11 (feq (show ¬ ((2 : Int32) = (3 : Int32)) from (by decide))).2 (by decide) (by decide) ?_
    refine own_iconst X13.here hx hby at_19 (v := (1 : Int32)) (by decide) ?_
    refine own_istoreN X13.here hx hby at_20 (l' := #[.val (.int p1), .val (.int 2), .val (.ref w3), .val (.int 1)]) rfl ?_
    refine own_aloadN X13.here hx hby at_21 rfl rfl ?_
    refine own_virtual X13 hx hZ hown (own_w hw 7 rfl) (own_w hw 8 rfl) (notFace_of_selects (args := #[]) (mvT hZ (own_w hw 18 rfl))) (own_w hw 18 rfl) (own_w hw 9 rfl) (own_w hw 5 rfl) (own_w hw 11 rfl) (by decide) (timed_yes l Z a0 hw [] w3 w4 h0 n0 Z0 S_SESSION_INFINITE (ne_exa E_w3 E_w4 (by decide))) 0 (Nat.le_of_eq rfl) (by decide) (by decide) (by rw [hml]; rfl) (argsL := []) (st := []) E_w3 (lenOf pd_1 rfl) rfl rfl (by decide) (by decide) eh13 hby at_22 ?_
    intro T14 v14 L14 X14 hQ14
    obtain ⟨rfl, Nq14, eh14⟩ := hQ14
    have N14 := Fr.app N13 Nq14
    refine own_sh (T := T14) 25 #[.val (.int p1), .val (.int 2), .val (.ref w3), .val (.int 1)] [(.int 1)] ?_
    refine own_iloadN X14.here hx hby at_25 rfl ?_
    refine own_icmpNo X14.here hx hby at_26 (teq (show (1 : Int32) = (1 : Int32) from (by decide))).2 ?_
    refine own_iconst X14.here hx hby at_29 (v := (1 : Int32)) (by decide) ?_
    refine own_goto X14.here hx hby (pc' := 34) at_30 (by decide) (by decide) ?_
    obtain ⟨fs, hr, hrun, hended, hW, hsame⟩ := X14.leave (v := some (.int 1)) (fun h => by rw [Bd.returns] at h; cases h)
    refine own_ret (t := T14.setFrames fs) ?_ ⟨_, hrun, hended, _, _, rfl, ?_, ⟨_, rfl⟩, hW, hsame.mono (by decide) (by decide)⟩
    · exact retN X14 hx (t := .boolean) Bd.returns (by simp) (hb hby at_34) hr
    · show Q_rm0 Z p1 w1 w2 w3 w4 h0 n0 _ T14.heap _
      rw [eh14]
      exact ⟨rfl, N14, trivial⟩
  · rw [hk]
    refine own_istoreN X0.here hx hby at_3 (l' := #[.val (.int p1), .val (.int 3), .unset, .unset]) rfl ?_
    refine own_iloadN X0.here hx hby at_4 rfl ?_
    refine own_callS X0 hx hZ hown (own_w hw 0 rfl) (own_w hw 1 rfl) (own_w hw 2 rfl) (own_w hw 3 rfl) (by decide) (pick_3 l Z a0 hw [] w4 h0 n0 Z0 S_SESSION_INFINITE) 0 (Nat.le_of_eq rfl) (by decide) (by decide) (by rw [hml]; rfl) (argsL := [(.int 3)]) (st := []) (lenOf pd_0 rfl) rfl rfl (by decide) (by decide) e0 hby at_5 ?_
    intro T15 v15 L15 X15 hQ15
    obtain ⟨rfl, Nq15, eh15⟩ := hQ15
    have N15 := Fr.app N0 Nq15
    refine own_sh (T := T15) 8 #[.val (.int p1), .val (.int 3), .unset, .unset] [(.ref w4)] ?_
    refine own_astoreN X15.here hx hby at_8 rfl (l' := #[.val (.int p1), .val (.int 3), .val (.ref w4), .unset]) rfl ?_
    refine own_iloadN X15.here hx hby at_9 rfl ?_
    refine own_iconst X15.here hx hby at_10 (v := (3 : Int32)) (by decide) ?_
    refine own_icmpNo X15.here hx hby at_11 (teq (show (3 : Int32) = (3 : Int32) from (by decide))).2 ?_
    refine own_iconst X15.here hx hby at_14 (v := (0 : Int32)) (by decide) ?_
    refine own_istoreN X15.here hx hby at_15 (l' := #[.val (.int p1), .val (.int 3), .val (.ref w4), .val (.int 0)]) rfl ?_
    refine own_goto X15.here hx hby (pc' := 21) at_16 (by decide) (by decide) ?_
    refine own_aloadN X15.here hx hby at_21 rfl rfl ?_
    refine own_virtual X15 hx hZ hown (own_w hw 7 rfl) (own_w hw 8 rfl) (notFace_of_selects (args := #[]) (mvT hZ (own_w hw 15 rfl))) (own_w hw 15 rfl) (own_w hw 9 rfl) (own_w hw 5 rfl) (own_w hw 11 rfl) (by decide) (timed_no l Z a0 hw [] w4 h0 n0 Z0 S_SESSION_INFINITE) 0 (Nat.le_of_eq rfl) (by decide) (by decide) (by rw [hml]; rfl) (argsL := []) (st := []) E_w4 (lenOf pd_1 rfl) rfl rfl (by decide) (by decide) eh15 hby at_22 ?_
    intro T16 v16 L16 X16 hQ16
    obtain ⟨rfl, Nq16, eh16⟩ := hQ16
    have N16 := Fr.app N15 Nq16
    refine own_sh (T := T16) 25 #[.val (.int p1), .val (.int 3), .val (.ref w4), .val (.int 0)] [(.int 0)] ?_
    refine own_iloadN X16.here hx hby at_25 rfl ?_
    refine own_icmpNo X16.here hx hby at_26 (teq (show (0 : Int32) = (0 : Int32) from (by decide))).2 ?_
    refine own_iconst X16.here hx hby at_29 (v := (1 : Int32)) (by decide) ?_
    refine own_goto X16.here hx hby (pc' := 34) at_30 (by decide) (by decide) ?_
    obtain ⟨fs, hr, hrun, hended, hW, hsame⟩ := X16.leave (v := some (.int 1)) (fun h => by rw [Bd.returns] at h; cases h)
    refine own_ret (t := T16.setFrames fs) ?_ ⟨_, hrun, hended, _, _, rfl, ?_, ⟨_, rfl⟩, hW, hsame.mono (by decide) (by decide)⟩
    · exact retN X16 hx (t := .boolean) Bd.returns (by simp) (hb hby at_34) hr
    · show Q_rm0 Z p1 w1 w2 w3 w4 h0 n0 _ T16.heap _
      rw [eh16]
      exact ⟨rfl, N16, trivial⟩
set_option maxRecDepth 65536 in
set_option maxHeartbeats 40000000 in
theorem comes_1 {Post : Tables → Env → Array Value → State → Outcome → State → Prop} (hpost : ∀ tb e args s v u, (limb_1_1.after args s (.returned v) u = true ∧ limb_1_2.after args s (.returned v) u = true ∧ True) → FrameEnd s (.returned v) u (Jvm.fieldLocs frame_1_writes args s ++ Jvm.arrayLocs frame_1_arrays args s ++ Jvm.staticLocs frame_1_statics s) 0 0 → Post tb e args s (.returned v) u) :
    ArmFor flags0 classFile x code maxLocals ret World_1 tables_1 room_1 Calls_1 rest_1 Pre_1 Post := by
  intro l hfl _ _ p e ha hc hk s m args below hf hA hF happ hP
  obtain ⟨hcalls, hrest, hpre⟩ := hP
  obtain ⟨-, -, -, hnamed, -, -, -, hat⟩ := (Spec.applies_iff hf).mp happ
  obtain ⟨hg, hn⟩ := and_e (Cond.before_iff.mp (show (Jvm.Cond.and given_1 narrow_1).before args s = true from hpre))
  obtain ⟨g1, g2⟩ := and_e hg
  obtain ⟨w0, rfl⟩ : ∃ w0 : Value, args = #[w0] := by
    have hs : args.size = 1 := by simpa [Cond.value, given_1] using g1
    obtain ⟨L⟩ := args
    match L, hs with
    | [w0], _ => exact ⟨w0, rfl⟩
  have hw := fun d (hd : d ∈ tables_1) => atoms_spec (ws := Jvm.Cond.code x code maxLocals ret :: tables_1) hat d (List.mem_cons_of_mem _ hd)
  have hfit : Fit s := fun {y c} hc i hi => by
    obtain ⟨ha, rfl⟩ := Array.getElem?_eq_some_iff.mp hc
    have q := List.all_eq_true.mp ((Array.all_eq_true_iff_forall_mem.mp hF) _ (Array.getElem_mem ha)) i (List.mem_range.mpr hi)
    simpa [Array.getElem?_eq_getElem hi] using q
  obtain ⟨i0, ei0⟩ := is_v g2
  obtain rfl : w0 = (.int i0) := Option.some.inj ei0
  obtain ⟨n1, hn⟩ := and_e hn
  obtain ⟨n4, hn⟩ := and_e hn
  obtain ⟨n3, n2⟩ := and_e hn
  obtain ⟨w11, ev1⟩ := exa_v n1
  have Ea1 := Exa.start ev1 n1
  have St1 := Sta.start ev1 (Or.inr ⟨(own_w hw 5 rfl), (own_w hw 6 rfl)⟩)
  obtain ⟨w12, ev2⟩ := exa_v n2
  have Ea2 := Exa.start ev2 n2
  have St2 := Sta.start ev2 (Or.inr ⟨(own_w hw 5 rfl), (own_w hw 20 rfl)⟩)
  obtain ⟨w13, ev3⟩ := exa_v n3
  have Ea3 := Exa.start ev3 n3
  have St3 := Sta.start ev3 (Or.inr ⟨(own_w hw 5 rfl), (own_w hw 17 rfl)⟩)
  obtain ⟨w14, ev4⟩ := exa_v n4
  have Ea4 := Exa.start ev4 n4
  have St4 := Sta.start ev4 (Or.inr ⟨(own_w hw 5 rfl), (own_w hw 13 rfl)⟩)
  obtain ⟨n, o, h1, h2, h3, _, L, rfl, ⟨rfl, N, -⟩, hq⟩ := rm0 l s _ hw tables_1 i0 w11 w12 w13 w14 s.heap s.heap.size (Nat.le_refl _) St1 St2 St3 St4 Ea1 Ea2 Ea3 Ea4 p e ha hc hk s m _ below hf ((Spec.applies_iff_loose hf).mp happ).1 ⟨rfl, State.Warmed39.refl s, rfl⟩ trivial
  refine ⟨n, _, h1, h2, h3, hpost _ _ _ _ _ _ ⟨Cond.after_iff.mpr rfl, Cond.after_iff.mpr (eq_i res_at (Term.int_eval (1)) rfl), trivial⟩ ⟨hq.1, hq.2.1, (hq.2.2.sift fun y hy => Or.inr (N y hy)).mono (by decide) (by decide)⟩⟩
theorem main_1_1 : Claimed_1_1 := comes_1 fun _ _ _ _ _ _ h hF => ⟨h.1, hF⟩
theorem main_1_2 : Claimed_1_2 := comes_1 fun _ _ _ _ _ _ h hF => ⟨h.2.1, hF⟩
end Jvm.Pilot.@@N@@
namespace Jvm.Pilot.@@N@@
open Jvm Jvm.ClassFile Sem Op Lib Jvm.Free Jvm.Stand Jvm.Pilot.@@N@@.Jvm.D
/-! MADE BY PROGRAM (witnessworld.py) out of the Statement's table words and the real class files: 16 classes; the members and pool entries that the words name. The judged class is class 1, her method 2. -/
namespace start1
open Jvm.ClassFile
def u (s : String) : CpInfo := .utf8 (stringToUtf16 s)
/-- a pool by its gaps: so many unusable entries, then the entry; so many at the end -/
def gap : Nat → List CpInfo → List CpInfo
  | 0, r => r
  | n + 1, r => .unusable :: gap n r
def poolList (es : List (Nat × CpInfo)) (last : Nat) : List CpInfo := es.foldr (fun e r => gap e.1 (e.2 :: r)) (gap last [])
def pool (es : List (Nat × CpInfo)) (last : Nat) : Array CpInfo := ⟨poolList es last⟩
def fileOf (pool : Array CpInfo) (this : Nat) (attrs : Array Attribute := #[]) (ms : Array MethodInfo := #[]) (fl : Nat := 33) (sup : Nat := 0) (ifs : Array Nat := #[]) (fds : Array FieldInfo := #[]) : ClassFile where
  minorVersion := 0
  majorVersion := 65
  constantPool := pool
  accessFlags := fl
  thisClass := this
  superClass := sup
  interfaces := ifs
  fields := fds
  methods := ms
  attributes := attrs
def plain (name : String) (sup : Option ClassId) : Class where
  name := name
  kind := .ordinary
  loader := none
  accessFlags := 33
  super := sup
  interfaces := #[]
  cf := none
  fields := #[]
  methods := #[]
  instanceTypes := #[]
  staticTypes := #[]
  resolved := #[]
  callSites := []
  init := .initialized
  statics := none
  mirror := none

def pool0 : Array CpInfo := pool [(5, u "<init>"), (0, u "()V"), (1, .class_ 10), (1, u "java/lang/Object")] 113

def k0m0 : Method := { name := "<init>", desc := "()V", sig := { parameters := [], returnType := none }, accessFlags := 1, code := none }
/-- java/lang/Object -/
def k0 : Class := { plain "java/lang/Object" none with
  accessFlags := 33
  interfaces := #[]
  cf := some (fileOf pool0 8 #[] #[{ accessFlags := 1, nameIndex := 5, descriptorIndex := 6, attributes := #[] }] 33 0 #[] #[])
  fields := #[]
  methods := #[k0m0]
  instanceTypes := #[]
  staticTypes := #[]
  resolved := Array.replicate 124 none
  statics := none }

def pool1 : Array CpInfo := pool [(2, .class_ 4), (1, u "java/lang/Object"), (0, u "<init>"), (0, u "()V"), (0, .fieldref 8 9), (0, .class_ 10), (0, .nameAndType 11 12), (0, u "com/example/tiny_context/tinycontext/CachePolicy"), (0, u "SESSION_DAILY"), (0, u "Lcom/example/tiny_context/tinycontext/CachePolicy;"), (0, .fieldref 8 14), (0, .nameAndType 15 12), (0, u "SESSION_USER_DAILY"), (0, .fieldref 8 17), (0, .nameAndType 18 12), (0, u "SESSION_INTERVAL"), (0, .fieldref 8 20), (0, .nameAndType 21 12), (0, u "SESSION_INFINITE"), (0, .methodref 23 24), (0, .class_ 25), (0, .nameAndType 26 27), (0, u "com/example/tiny_context/tinycontext/CachePolicyTimedPinLaw"), (0, u "pick"), (0, u "(I)Lcom/example/tiny_context/tinycontext/CachePolicy;"), (0, .methodref 8 29), (0, .nameAndType 30 31), (0, u "timed"), (0, u "()Z"), (3, u "law"), (0, u "(I)Z")] 2

def k1m0 : Method := { name := "<init>", desc := "()V", sig := { parameters := [], returnType := none }, accessFlags := 2, code := none }
def k1c1 : Code := { maxStack := 2, maxLocals := 1, code := method_2_code, exceptionTable := #[], attributes := #[] }
def k1m1 : Method := { name := "pick", desc := "(I)Lcom/example/tiny_context/tinycontext/CachePolicy;", sig := { parameters := [.int], returnType := some (.object "com/example/tiny_context/tinycontext/CachePolicy") }, accessFlags := 10, code := some k1c1 }
def k1c2 : Code := { maxStack := 2, maxLocals := 4, code := code, exceptionTable := #[], attributes := #[] }
def k1m2 : Method := { name := "law", desc := "(I)Z", sig := { parameters := [.int], returnType := some .boolean }, accessFlags := 9, code := some k1c2 }
/-- com/example/tiny_context/tinycontext/CachePolicyTimedPinLaw -/
def k1 : Class := { plain "com/example/tiny_context/tinycontext/CachePolicyTimedPinLaw" (some 0) with
  accessFlags := 49
  interfaces := #[]
  cf := some (fileOf pool1 23 #[] #[{ accessFlags := 2, nameIndex := 5, descriptorIndex := 6, attributes := #[] }, { accessFlags := 10, nameIndex := 26, descriptorIndex := 27, attributes := #[] }, { accessFlags := 9, nameIndex := 35, descriptorIndex := 36, attributes := #[] }] 49 2 #[] #[])
  fields := #[]
  methods := #[k1m0, k1m1, k1m2]
  instanceTypes := #[]
  staticTypes := #[]
  resolved := Array.replicate 39 none
  statics := none }

def pool2 : Array CpInfo := pool [(1, .class_ 2), (0, u "java/lang/constant/Constable"), (0, .class_ 4), (0, u "java/lang/Object")] 6

/-- java/lang/constant/Constable -/
def k2 : Class := { plain "java/lang/constant/Constable" (some 0) with
  accessFlags := 1537
  interfaces := #[]
  cf := some (fileOf pool2 1 #[] #[] 1537 3 #[] #[])
  fields := #[]
  methods := #[]
  instanceTypes := #[]
  staticTypes := #[]
  resolved := Array.replicate 11 none
  statics := none }

def pool3 : Array CpInfo := pool [(1, .class_ 2), (0, u "java/lang/Comparable"), (0, .class_ 4), (0, u "java/lang/Object")] 7

/-- java/lang/Comparable -/
def k3 : Class := { plain "java/lang/Comparable" (some 0) with
  accessFlags := 1537
  interfaces := #[]
  cf := some (fileOf pool3 1 #[] #[] 1537 3 #[] #[])
  fields := #[]
  methods := #[]
  instanceTypes := #[]
  staticTypes := #[]
  resolved := Array.replicate 12 none
  statics := none }

def pool4 : Array CpInfo := pool [(1, .class_ 2), (0, u "java/io/Serializable"), (0, .class_ 4), (0, u "java/lang/Object")] 2

/-- java/io/Serializable -/
def k4 : Class := { plain "java/io/Serializable" (some 0) with
  accessFlags := 1537
  interfaces := #[]
  cf := some (fileOf pool4 1 #[] #[] 1537 3 #[] #[])
  fields := #[]
  methods := #[]
  instanceTypes := #[]
  staticTypes := #[]
  resolved := Array.replicate 7 none
  statics := none }

def pool5 : Array CpInfo := pool [(2, .class_ 4), (1, u "java/lang/Enum"), (0, u "name"), (0, u "Ljava/lang/String;"), (2, u "ordinal"), (0, u "I"), (1, .class_ 14), (1, u "java/lang/Object"), (4, u "hash"), (86, .class_ 108), (1, u "java/lang/Enum$EnumDesc"), (2, .class_ 112), (0, u "java/lang/constant/Constable"), (0, .class_ 114), (0, u "java/lang/Comparable"), (0, .class_ 116), (0, u "java/io/Serializable")] 87

/-- java/lang/Enum -/
def k5 : Class := { plain "java/lang/Enum" (some 0) with
  accessFlags := 1057
  interfaces := #[2, 3, 4]
  cf := some (fileOf pool5 2 #[.nestMembers #[106]] #[] 1057 12 #[111, 113, 115] #[{ accessFlags := 18, nameIndex := 5, descriptorIndex := 6, attributes := #[] }, { accessFlags := 18, nameIndex := 9, descriptorIndex := 10, attributes := #[] }, { accessFlags := 2, nameIndex := 19, descriptorIndex := 10, attributes := #[] }])
  fields := #[{ name := "name", type := (.object "java/lang/String"), accessFlags := 18, slot := 0, constantValue := 0 }, { name := "ordinal", type := .int, accessFlags := 18, slot := 1, constantValue := 0 }, { name := "hash", type := .int, accessFlags := 2, slot := 2, constantValue := 0 }]
  methods := #[]
  instanceTypes := #[(.object "java/lang/String"), .int, .int]
  staticTypes := #[]
  resolved := Array.replicate 204 none
  statics := none }

def pool6 : Array CpInfo := pool [(1, .class_ 2), (0, u "com/example/tiny_context/tinycontext/CachePolicy"), (2, u "SESSION_DAILY"), (0, u "Lcom/example/tiny_context/tinycontext/CachePolicy;"), (2, u "SESSION_USER_DAILY"), (2, u "SESSION_INTERVAL"), (0, .fieldref 1 14), (0, .nameAndType 15 6), (0, u "SESSION_INFINITE"), (2, u "$VALUES"), (0, u "[Lcom/example/tiny_context/tinycontext/CachePolicy;"), (6, .class_ 28), (1, u "java/lang/Enum"), (8, u "value"), (0, u "Ljava/lang/String;"), (2, u "inUserTimeZone"), (0, u "Z"), (17, .class_ 61), (0, u "com/example/tiny_context/tinycontext/CachePolicy$1"), (6, .class_ 69), (0, u "com/example/tiny_context/tinycontext/CachePolicy$2"), (4, .class_ 75), (0, u "com/example/tiny_context/tinycontext/CachePolicy$3"), (4, .class_ 81), (0, u "com/example/tiny_context/tinycontext/CachePolicy$4"), (16, u "()Z"), (0, u "timed")] 12

def k6c0 : Code := { maxStack := 2, maxLocals := 1, code := prog_2_method_7_code, exceptionTable := #[], attributes := #[] }
def k6m0 : Method := { name := "timed", desc := "()Z", sig := { parameters := [], returnType := some .boolean }, accessFlags := 0, code := some k6c0 }
/-- com/example/tiny_context/tinycontext/CachePolicy -/
def k6 : Class := { plain "com/example/tiny_context/tinycontext/CachePolicy" (some 5) with
  accessFlags := 17440
  interfaces := #[]
  cf := some (fileOf pool6 1 #[.nestMembers #[80, 74, 68, 60]] #[{ accessFlags := 0, nameIndex := 99, descriptorIndex := 98, attributes := #[] }] 17440 26 #[] #[{ accessFlags := 16409, nameIndex := 5, descriptorIndex := 6, attributes := #[] }, { accessFlags := 16409, nameIndex := 9, descriptorIndex := 6, attributes := #[] }, { accessFlags := 16409, nameIndex := 12, descriptorIndex := 6, attributes := #[] }, { accessFlags := 16409, nameIndex := 15, descriptorIndex := 6, attributes := #[] }, { accessFlags := 18, nameIndex := 37, descriptorIndex := 38, attributes := #[] }, { accessFlags := 18, nameIndex := 41, descriptorIndex := 42, attributes := #[] }, { accessFlags := 4122, nameIndex := 18, descriptorIndex := 19, attributes := #[] }])
  fields := #[{ name := "SESSION_DAILY", type := (.object "com/example/tiny_context/tinycontext/CachePolicy"), accessFlags := 16409, slot := 0, constantValue := 0 }, { name := "SESSION_USER_DAILY", type := (.object "com/example/tiny_context/tinycontext/CachePolicy"), accessFlags := 16409, slot := 1, constantValue := 0 }, { name := "SESSION_INTERVAL", type := (.object "com/example/tiny_context/tinycontext/CachePolicy"), accessFlags := 16409, slot := 2, constantValue := 0 }, { name := "SESSION_INFINITE", type := (.object "com/example/tiny_context/tinycontext/CachePolicy"), accessFlags := 16409, slot := 3, constantValue := 0 }, { name := "value", type := (.object "java/lang/String"), accessFlags := 18, slot := 3, constantValue := 0 }, { name := "inUserTimeZone", type := .boolean, accessFlags := 18, slot := 4, constantValue := 0 }, { name := "$VALUES", type := (.array (.object "com/example/tiny_context/tinycontext/CachePolicy")), accessFlags := 4122, slot := 4, constantValue := 0 }]
  methods := #[k6m0]
  instanceTypes := #[(.object "java/lang/String"), .int, .int, (.object "java/lang/String"), .boolean]
  staticTypes := #[(.object "com/example/tiny_context/tinycontext/CachePolicy"), (.object "com/example/tiny_context/tinycontext/CachePolicy"), (.object "com/example/tiny_context/tinycontext/CachePolicy"), (.object "com/example/tiny_context/tinycontext/CachePolicy"), (.array (.object "com/example/tiny_context/tinycontext/CachePolicy"))]
  resolved := Array.replicate 112 none
  statics := some 0 }

def pool7 : Array CpInfo := pool [(2, .class_ 4), (1, u "com/example/tiny_context/tinycontext/CachePolicy"), (6, .class_ 12), (0, u "com/example/tiny_context/tinycontext/CachePolicy$1")] 10

/-- com/example/tiny_context/tinycontext/CachePolicy$1 -/
def k7 : Class := { plain "com/example/tiny_context/tinycontext/CachePolicy$1" (some 6) with
  accessFlags := 16432
  interfaces := #[]
  cf := some (fileOf pool7 11 #[.nestHost 2] #[] 16432 2 #[] #[])
  fields := #[]
  methods := #[]
  instanceTypes := #[(.object "java/lang/String"), .int, .int, (.object "java/lang/String"), .boolean]
  staticTypes := #[]
  resolved := Array.replicate 23 none
  statics := none }

def pool8 : Array CpInfo := pool [(2, .class_ 4), (1, u "com/example/tiny_context/tinycontext/CachePolicy"), (2, .class_ 8), (0, u "com/example/tiny_context/tinycontext/CachePolicy$4")] 10

/-- com/example/tiny_context/tinycontext/CachePolicy$4 -/
def k8 : Class := { plain "com/example/tiny_context/tinycontext/CachePolicy$4" (some 6) with
  accessFlags := 16432
  interfaces := #[]
  cf := some (fileOf pool8 7 #[.nestHost 2] #[] 16432 2 #[] #[])
  fields := #[]
  methods := #[]
  instanceTypes := #[(.object "java/lang/String"), .int, .int, (.object "java/lang/String"), .boolean]
  staticTypes := #[]
  resolved := Array.replicate 19 none
  statics := none }

def pool9 : Array CpInfo := pool [(2, .class_ 4), (1, u "com/example/tiny_context/tinycontext/CachePolicy"), (12, .class_ 18), (0, u "com/example/tiny_context/tinycontext/CachePolicy$3")] 11

/-- com/example/tiny_context/tinycontext/CachePolicy$3 -/
def k9 : Class := { plain "com/example/tiny_context/tinycontext/CachePolicy$3" (some 6) with
  accessFlags := 16432
  interfaces := #[]
  cf := some (fileOf pool9 17 #[.nestHost 2] #[] 16432 2 #[] #[])
  fields := #[]
  methods := #[]
  instanceTypes := #[(.object "java/lang/String"), .int, .int, (.object "java/lang/String"), .boolean]
  staticTypes := #[]
  resolved := Array.replicate 30 none
  statics := none }

def pool10 : Array CpInfo := pool [(2, .class_ 4), (1, u "com/example/tiny_context/tinycontext/CachePolicy"), (6, .class_ 12), (0, u "com/example/tiny_context/tinycontext/CachePolicy$2")] 10

/-- com/example/tiny_context/tinycontext/CachePolicy$2 -/
def k10 : Class := { plain "com/example/tiny_context/tinycontext/CachePolicy$2" (some 6) with
  accessFlags := 16432
  interfaces := #[]
  cf := some (fileOf pool10 11 #[.nestHost 2] #[] 16432 2 #[] #[])
  fields := #[]
  methods := #[]
  instanceTypes := #[(.object "java/lang/String"), .int, .int, (.object "java/lang/String"), .boolean]
  staticTypes := #[]
  resolved := Array.replicate 23 none
  statics := none }

def pool11 : Array CpInfo := pool [(1, u "java/lang/Cloneable"), (0, .class_ 1), (0, u "java/lang/Object"), (0, .class_ 3)] 3

/-- java/lang/Cloneable -/
def k11 : Class := { plain "java/lang/Cloneable" (some 0) with
  accessFlags := 1537
  interfaces := #[]
  cf := some (fileOf pool11 2 #[] #[] 1537 4 #[] #[])
  fields := #[]
  methods := #[]
  instanceTypes := #[]
  staticTypes := #[]
  resolved := Array.replicate 8 none
  statics := none }

/-- the primitive byte -/
def k12 : Class := { plain "byte" none with kind := .primitive 'B', accessFlags := 0x411 }
/-- [B -/
def k13 : Class := { plain "[B" (some 0) with kind := .array 12 .byte, interfaces := #[11, 4], accessFlags := 1041 }

/-- the primitive int -/
def k14 : Class := { plain "int" none with kind := .primitive 'I', accessFlags := 0x411 }
/-- [I -/
def k15 : Class := { plain "[I" (some 0) with kind := .array 14 .int, interfaces := #[11, 4], accessFlags := 1041 }

def heap : Heap := #[{ cls := 6, slots := #[.ref 1, .ref 2, .ref 3, .ref 4, .null], vm := .statics 6 },
  { cls := 7, slots := #[.null, .int 0, .int 0, .null, .int 0], vm := .none },
  { cls := 10, slots := #[.null, .int 1, .int 0, .null, .int 0], vm := .none },
  { cls := 9, slots := #[.null, .int 2, .int 0, .null, .int 0], vm := .none },
  { cls := 8, slots := #[.null, .int 3, .int 0, .null, .int 0], vm := .none }]
def classes : Array Class := #[k0, k1, k2, k3, k4, k5, k6, k7, k8, k9, k10, k11, k12, k13, k14, k15]
def interned : List (Array UInt16 × Addr) := []
def slotsUsed : Nat := 25
def theMethod : MethodId := ⟨1, 2⟩
def args0 : Array Value := #[.int 5]
def aboutOver (below : List Frame) : State where
  vm := { classes := classes, interned := interned.toArray }
  heap := heap
  slotsUsed := slotsUsed
  threads := #[{ frames := .invoking theMethod args0 :: below }]
def below0 : List Frame := [.native { method := ⟨0, 0⟩, args := #[] }]
def about1 : State := aboutOver below0
def p0 : Program := .bare "" "" ""
def e0 : Env := launch0.env 0 0 0
theorem w_frames : about1.frames = Frame.invoking theMethod args0 :: below0 := rfl
set_option maxRecDepth 65536 in
theorem w_args : argsFit about1.vm theMethod args0 = true := by decide +kernel
set_option maxRecDepth 65536 in
theorem w_heap : heapFits about1 = true := by decide +kernel
set_option maxRecDepth 65536 in
theorem w_runnable : about1.curStatus? = some .runnable := by decide +kernel
set_option maxRecDepth 65536 in
theorem w_alone : about1.alone = true := by decide +kernel
set_option maxRecDepth 65536 in
theorem w_named : about1.methodNamed? x = some theMethod := by decide +kernel
set_option maxRecDepth 65536 in
theorem w_hears : about1.hears theMethod below0 = true := by decide +kernel
set_option maxRecDepth 65536 in
theorem w_ripe : about1.ripe theMethod args0 below0 = true := by decide +kernel
theorem w_running : about1.status = .running := rfl
set_option maxRecDepth 65536 in
theorem w_room : about1.hasRoom e0.platform room_1 = true :=
  launch0.hasRoom_least _ room_1 (by decide +kernel) (by decide +kernel) (by decide +kernel) (by decide +kernel) (by decide +kernel) (by decide +kernel)
theorem allAtoms_all (ts : List Jvm.Cond) (a : Array Jvm.Value) (st : Jvm.State) : (allAtoms ts).before a st = ts.all (fun c => c.before a st) := by
  induction ts with
  | nil => rfl
  | cons c t ih =>
    show (Jvm.Cond.and c (allAtoms t)).before a st = _
    rw [Jvm.Cond.before_and, ih, List.all_cons]
def words1 : List Jvm.Cond := Jvm.Cond.code x code maxLocals ret :: tables_1
/-- a 'code' word, met by the world's own term for the bytes: nothing is compared byte by byte -/
theorem code_word {y : MethodName} {bytes : ByteArray} {mx : Nat} {rt : Option FieldType} {a : Array Value} {s : State} {m : MethodId} {meth : Method} {c : Code} (h1 : s.methodNamed? y = some m) (h2 : s.vm.method? m = some meth) (h3 : meth.code = some c) (h4 : c.code = bytes)
    (h5 : (c.maxLocals == mx && c.exceptionTable.isEmpty && decide (c.maxStack ≤ mostOperands) && decide (meth.sig.returnType = rt) && !meth.locks && decide (parseMethodDescriptor y.desc = some meth.sig)) = true) : (Jvm.Cond.code y bytes mx rt).before a s = true := by
  simp only [Bool.and_eq_true, beq_iff_eq, Bool.not_eq_true', decide_eq_true_eq] at h5
  obtain ⟨⟨⟨⟨⟨g1, g2⟩, g3⟩, g4⟩, g5⟩, g6⟩ := h5
  simp [Cond.before, Cond.holds, Cond.value, h1, h2, h3, h4, g1, g2, g3, g4, g5, g6]
def isCode : Jvm.Cond → Bool
  | .code _ _ _ _ => true
  | _ => false
theorem all_split {L : List Jvm.Cond} {P : Jvm.Cond → Bool} (h1 : L.all (fun c => isCode c || P c) = true) (h2 : ∀ c ∈ L.filter isCode, P c = true) : L.all P = true := by
  refine List.all_eq_true.mpr fun c hc => ?_
  have h := List.all_eq_true.mp h1 c hc
  rcases Bool.eq_false_or_eq_true (isCode c) with hi | hi
  · exact h2 c (List.mem_filter.mpr ⟨hc, hi⟩)
  · simpa [hi] using h
set_option maxRecDepth 65536 in
theorem w_c0 : (Jvm.Cond.code x code maxLocals ret).before args0 about1 = true := code_word (m := ⟨1, 2⟩) (meth := k1m2) (c := k1c2) (by decide +kernel) rfl rfl rfl (by decide +kernel)
set_option maxRecDepth 65536 in
theorem w_c1 : (Jvm.Cond.code ({ cls := "com/example/tiny_context/tinycontext/CachePolicyTimedPinLaw", name := "pick", desc := "(I)Lcom/example/tiny_context/tinycontext/CachePolicy;" } : Jvm.MethodName) method_2_code (1 : Nat) (Option.some (Jvm.ClassFile.FieldType.object "com/example/tiny_context/tinycontext/CachePolicy"))).before args0 about1 = true := code_word (m := ⟨1, 1⟩) (meth := k1m1) (c := k1c1) (by decide +kernel) rfl rfl rfl (by decide +kernel)
set_option maxRecDepth 65536 in
theorem w_c2 : (Jvm.Cond.code ({ cls := "com/example/tiny_context/tinycontext/CachePolicy", name := "timed", desc := "()Z" } : Jvm.MethodName) prog_2_method_7_code (1 : Nat) (Option.some Jvm.ClassFile.FieldType.boolean)).before args0 about1 = true := code_word (m := ⟨6, 0⟩) (meth := k6m0) (c := k6c0) (by decide +kernel) rfl rfl rfl (by decide +kernel)
def codes1 : List Jvm.Cond := [Jvm.Cond.code x code maxLocals ret, Jvm.Cond.code ({ cls := "com/example/tiny_context/tinycontext/CachePolicyTimedPinLaw", name := "pick", desc := "(I)Lcom/example/tiny_context/tinycontext/CachePolicy;" } : Jvm.MethodName) method_2_code (1 : Nat) (Option.some (Jvm.ClassFile.FieldType.object "com/example/tiny_context/tinycontext/CachePolicy")), Jvm.Cond.code ({ cls := "com/example/tiny_context/tinycontext/CachePolicy", name := "timed", desc := "()Z" } : Jvm.MethodName) prog_2_method_7_code (1 : Nat) (Option.some Jvm.ClassFile.FieldType.boolean)]
set_option maxRecDepth 65536 in
theorem codes_eq : words1.filter isCode = codes1 := rfl
theorem w_codes : ∀ c ∈ words1.filter isCode, c.before args0 about1 = true := by
  rw [codes_eq]
  intro c hc
  simp only [codes1, List.mem_cons, List.not_mem_nil, or_false] at hc
  rcases hc with rfl | rfl | rfl
  · exact w_c0
  · exact w_c1
  · exact w_c2
set_option maxRecDepth 65536 in
theorem w_t1 : words1.all (fun c => isCode c || c.before args0 about1) = true := by decide +kernel
theorem w_tables : (allAtoms (Jvm.Cond.code x code maxLocals ret :: tables_1)).before args0 about1 = true := by
  rw [allAtoms_all]
  show words1.all (fun c => c.before args0 about1) = true
  refine all_split ?_ w_codes
  rw [w_t1]
set_option maxRecDepth 65536 in
theorem w_case : (Jvm.Cond.and given_1 narrow_1).before args0 about1 = true := by decide +kernel
theorem w_applies : (headSpec (Jvm.Cond.code x code maxLocals ret :: tables_1) room_1).applies x e0.platform about1 = true :=
  (Spec.applies_iff w_frames).mpr ⟨w_running, w_runnable, w_alone, w_named, w_hears, w_ripe, w_room, w_tables⟩
theorem atStart : AtStart classFile x code maxLocals ret World_1 tables_1 room_1 Calls_1 rest_1 Pre_1 launch0 p0 e0 about1 theMethod args0 below0 :=
  ⟨lists_1, trivial, launch0.admits_env _ _ _, launch0.least_env, fairChoices_fair.cas, fairChoices_fair.clock, w_frames, w_args, w_heap, w_applies, trivial, trivial, w_case⟩
end start1
theorem witness_1 : WitnessClaimed_1 := ⟨start1.p0, start1.e0, start1.about1, start1.theMethod, start1.args0, start1.below0, start1.atStart⟩
end Jvm.Pilot.@@N@@
