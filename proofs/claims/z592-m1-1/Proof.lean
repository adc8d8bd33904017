import JvmDerived
import JvmDerived.Pilot.@@N@@Statement
import JvmDerived.Pilot.@@N@@Code
set_option linter.unusedVariables false
set_option linter.unusedSimpArgs false
namespace Jvm.Pilot.@@N@@
open Jvm Jvm.ClassFile Sem Op Lib Jvm.Free Jvm.Stand Jvm.LawKit Jvm.RoadKit Bundle Jvm.Pilot.@@N@@.Jvm.D
section OwnKit
variable {p : Program} {l : Launch} {e : Env} {R : Room} {s : State} {m : MethodId} {args : Array Value} {below : List Frame} {meth : Method} {c : Code} {T : State} {locs : List Loc} {cells slots : Nat} {Z : State} {a0 : Array Value} {h : Heap} {bs : ByteArray} {own mnm : String} {mx : Nat} {rt : Option FieldType} {G : Outcome → State → Prop} {pc pc' : Nat} {Ls Ls' : Array Slot} {st : List Value}
/-- from T the run comes to an end of which G holds -/
def Go (tb : Tables) (e : Env) (below : List Frame) (G : Outcome → State → Prop) (T : State) : Prop := ∃ s₂ o, Steps tb e below T s₂ ∧ s₂.status = .running ∧ Ended s₂ below o ∧ G o s₂
theorem Go.step {tb : Tables} {T T' : State} (g : Go tb e below G T') (h : ∀ t, Steps tb e below T' t → Steps tb e below T t) : Go tb e below G T := by
  obtain ⟨s₂, o, h1, h2⟩ := g
  exact ⟨s₂, o, h _ h1, h2⟩
/-- what a walk knows of its own body -/
def Cx (p : Program) (s : State) (m : MethodId) (meth : Method) (c : Code) (bs : ByteArray) (mx : Nat) (own mnm : String) (rt : Option FieldType) (Z : State) : Prop :=
  p.tables.exec = Jvm.exec ∧ c.code = bs ∧ c.maxLocals = mx ∧ s.vm.findClass own = some m.cls ∧ meth.name = mnm ∧ meth.sig.returnType = rt ∧ meth.locks = false ∧ Z.Warmed39 s.vm
theorem Cx.hown (C : Cx p s m meth c bs mx own mnm rt Z) : s.vm.findClass own = some m.cls := C.2.2.2.1
theorem Cx.nm (C : Cx p s m meth c bs mx own mnm rt Z) : meth.name = mnm := C.2.2.2.2.1
theorem Cx.ret (C : Cx p s m meth c bs mx own mnm rt Z) : meth.sig.returnType = rt := C.2.2.2.2.2.1
theorem Cx.locks (C : Cx p s m meth c bs mx own mnm rt Z) : meth.locks = false := C.2.2.2.2.2.2.1
theorem Cx.hZ (C : Cx p s m meth c bs mx own mnm rt Z) : Z.Warmed39 s.vm := C.2.2.2.2.2.2.2
/-- the end: returned, Q of the value, the heap and the places written; the frame -/
def End (s : State) (Q : Option Value → Heap → List Loc → Prop) (ce sl : Nat) (o : Outcome) (U' : State) : Prop := ∃ v L, o = .returned v ∧ Q v U'.heap L ∧ FrameEnd s o U' L ce sl
theorem met_of {y : MethodName} {ws : List Jvm.Cond} {rm : Room} {as' : Array Value} {Q : Option Value → Heap → List Loc → Prop} {ce sl : Nat} (hpn : plainFor y = true) (hef : ∀ m, entryFrame m as' mx = mkF m 0 Ls [])
    (hbody : ∀ (p : Program) (e : Env) (s : State) (m : MethodId) (below : List Frame) (meth : Method) (c : Code) (T : State), Cx p s m meth c bs mx y.cls y.name rt Z → Stand p l e rm s m as' below meth c T [] 0 0 → T.heap = h → Go p.tables e below (End s Q ce sl) (T.setTop (mkF m 0 Ls []))) :
    MetFree l y (head1 (Jvm.Cond.code y bs mx rt :: ws) rm) (fun a U => a = as' ∧ Z.Warmed39 U.vm ∧ U.heap = h) (fun _ _ _ _ _ => True) (fun _ U o U' => ∃ v L, o = .returned v ∧ Q v U'.heap L ∧ FrameEnd U o U' L ce sl) := by
  refine MetFree.of_bodySF hpn hisR ?_
  intro p e s m args below meth c s₁ Bd hml0 hP hK
  obtain ⟨rfl, hZ, hh⟩ := hP
  have X0 : Stand p l e rm s m _ below meth c s₁ [] 0 0 := Stand.of_body Bd
  have e0 : s₁.heap = h := by rw [← hh, Bd.state]; rfl
  obtain ⟨s₂, o, h1, h2, h3, h4⟩ := hbody p e s m below meth c s₁ ⟨Bd.exec, Bd.bytes, hml0, findClass_of_methodNamed Bd.named, (name_of_methodNamed Bd.named Bd.method).1, Bd.returns, Bd.notSynchronized, hZ⟩ X0 e0
  exact ⟨s₂, o, castTop (hef m) h1, h2, h3, h4⟩

theorem g_iloadN (C : Cx p s m meth c bs mx own mnm rt Z) (X : Stand p l e R s m args below meth c T locs cells slots) {k : Fin 4} {v : Int32} (hd : decode bs pc = .ok (.iload_n k, 1)) (hl : Ls[k.val]? = some (.val (.int v))) (hn : pc + 1 = pc')
    (hr : Go p.tables e below G (T.setTop (mkF m pc' Ls (.int v :: st)))) : Go p.tables e below G (T.setTop (mkF m pc Ls st)) := by
  subst hn; exact hr.step fun t k => XS.iloadN X.here C.1 rfl (hb C.2.1 hd) hl k
theorem g_iload (C : Cx p s m meth c bs mx own mnm rt Z) (X : Stand p l e R s m args below meth c T locs cells slots) {k : Nat} {v : Int32} (hd : decode bs pc = .ok (.iload k, 2)) (hl : Ls[k]? = some (.val (.int v))) (hn : pc + 2 = pc')
    (hr : Go p.tables e below G (T.setTop (mkF m pc' Ls (.int v :: st)))) : Go p.tables e below G (T.setTop (mkF m pc Ls st)) := by
  subst hn; exact hr.step fun t k => XS.iload X.here C.1 rfl (hb C.2.1 hd) hl k
theorem g_istoreN (C : Cx p s m meth c bs mx own mnm rt Z) (X : Stand p l e R s m args below meth c T locs cells slots) {k : Fin 4} {v : Int32} (hd : decode bs pc = .ok (.istore_n k, 1)) (hl : storeLocals Ls k.val (.int v) = some Ls') (hn : pc + 1 = pc')
    (hr : Go p.tables e below G (T.setTop (mkF m pc' Ls' st))) : Go p.tables e below G (T.setTop (mkF m pc Ls (.int v :: st))) := by
  subst hn; exact hr.step fun t k => XS.istoreN X.here C.1 rfl (hb C.2.1 hd) rfl hl k
theorem g_istore (C : Cx p s m meth c bs mx own mnm rt Z) (X : Stand p l e R s m args below meth c T locs cells slots) {k : Nat} {v : Int32} (hd : decode bs pc = .ok (.istore k, 2)) (hl : storeLocals Ls k (.int v) = some Ls') (hn : pc + 2 = pc')
    (hr : Go p.tables e below G (T.setTop (mkF m pc' Ls' st))) : Go p.tables e below G (T.setTop (mkF m pc Ls (.int v :: st))) := by
  subst hn; exact hr.step fun t k => XS.istore X.here C.1 rfl (hb C.2.1 hd) rfl hl k
theorem g_aloadN (C : Cx p s m meth c bs mx own mnm rt Z) (X : Stand p l e R s m args below meth c T locs cells slots) {k : Fin 4} {v : Value} (hd : decode bs pc = .ok (.aload_n k, 1)) (hl : Ls[k.val]? = some (.val v)) (hv : v.isRef = true) (hn : pc + 1 = pc')
    (hr : Go p.tables e below G (T.setTop (mkF m pc' Ls (v :: st)))) : Go p.tables e below G (T.setTop (mkF m pc Ls st)) := by
  subst hn; exact hr.step fun t k => XS.aloadN X.here C.1 rfl (hb C.2.1 hd) hl hv k
theorem g_astoreN (C : Cx p s m meth c bs mx own mnm rt Z) (X : Stand p l e R s m args below meth c T locs cells slots) {k : Fin 4} {v : Value} (hd : decode bs pc = .ok (.astore_n k, 1)) (hv : v.isRef = true) (hl : storeLocals Ls k.val v = some Ls') (hn : pc + 1 = pc')
    (hr : Go p.tables e below G (T.setTop (mkF m pc' Ls' st))) : Go p.tables e below G (T.setTop (mkF m pc Ls (v :: st))) := by
  subst hn; exact hr.step fun t k => XS.astoreN X.here C.1 rfl (hb C.2.1 hd) rfl hv hl k
theorem g_iconst (C : Cx p s m meth c bs mx own mnm rt Z) (X : Stand p l e R s m args below meth c T locs cells slots) {i : Int} {v : Int32} (hd : decode bs pc = .ok (.iconst i, 1)) (hv : Int32.ofInt i = v) (hn : pc + 1 = pc')
    (hr : Go p.tables e below G (T.setTop (mkF m pc' Ls (.int v :: st)))) : Go p.tables e below G (T.setTop (mkF m pc Ls st)) := by
  subst hn; exact hr.step fun t k => XS.iconst X.here C.1 rfl (hb C.2.1 hd) (by rw [hv]; exact k)
theorem g_iand (C : Cx p s m meth c bs mx own mnm rt Z) (X : Stand p l e R s m args below meth c T locs cells slots) {x y : Int32} (hd : decode bs pc = .ok (.iand, 1)) (hn : pc + 1 = pc')
    (hr : Go p.tables e below G (T.setTop (mkF m pc' Ls (.int (x &&& y) :: st)))) : Go p.tables e below G (T.setTop (mkF m pc Ls (.int y :: .int x :: st))) := by
  subst hn; exact hr.step fun t k => XS.iand X.here C.1 rfl (hb C.2.1 hd) rfl k
theorem g_iinc (C : Cx p s m meth c bs mx own mnm rt Z) (X : Stand p l e R s m args below meth c T locs cells slots) {k : Nat} {i : Int} {x : Int32} (hd : decode bs pc = .ok (.iinc k i, 3)) (hl : Ls[k]? = some (.val (.int x))) (hl' : storeLocals Ls k (.int (x + Int32.ofInt i)) = some Ls') (hn : pc + 3 = pc')
    (hr : Go p.tables e below G (T.setTop (mkF m pc' Ls' st))) : Go p.tables e below G (T.setTop (mkF m pc Ls st)) := by
  subst hn; exact hr.step fun t k => XS.iinc X.here C.1 rfl (hb C.2.1 hd) hl hl' k
theorem g_goto (C : Cx p s m meth c bs mx own mnm rt Z) (X : Stand p l e R s m args below meth c T locs cells slots) {o : Int} (hd : decode bs pc = .ok (.goto o, 3)) (ho : 0 ≤ (pc : Int) + o) (hp : ((pc : Int) + o).toNat = pc')
    (hr : Go p.tables e below G (T.setTop (mkF m pc' Ls st))) : Go p.tables e below G (T.setTop (mkF m pc Ls st)) :=
  hr.step fun t k => XS.goto X.here C.1 rfl rfl (hb C.2.1 hd) ho hp k
theorem g_icmpY (C : Cx p s m meth c bs mx own mnm rt Z) (X : Stand p l e R s m args below meth c T locs cells slots) {cd : ClassFile.Cond} {x y : Int32} {o : Int} (hd : decode bs pc = .ok (.if_icmp cd o, 3)) (hc : if_icmp.holds cd x y = true) (ho : 0 ≤ (pc : Int) + o) (hp : ((pc : Int) + o).toNat = pc')
    (hr : Go p.tables e below G (T.setTop (mkF m pc' Ls st))) : Go p.tables e below G (T.setTop (mkF m pc Ls (.int y :: .int x :: st))) :=
  hr.step fun t k => XS.icmpYes X.here C.1 rfl rfl (hb C.2.1 hd) rfl hc ho hp k
theorem g_icmpN (C : Cx p s m meth c bs mx own mnm rt Z) (X : Stand p l e R s m args below meth c T locs cells slots) {cd : ClassFile.Cond} {x y : Int32} {o : Int} (hd : decode bs pc = .ok (.if_icmp cd o, 3)) (hc : if_icmp.holds cd x y = false) (hn : pc + 3 = pc')
    (hr : Go p.tables e below G (T.setTop (mkF m pc' Ls st))) : Go p.tables e below G (T.setTop (mkF m pc Ls (.int y :: .int x :: st))) := by
  subst hn; exact hr.step fun t k => XS.icmpNo X.here C.1 rfl (hb C.2.1 hd) rfl hc k
theorem g_ifY (C : Cx p s m meth c bs mx own mnm rt Z) (X : Stand p l e R s m args below meth c T locs cells slots) {cd : ClassFile.Cond} {x : Int32} {o : Int} (hd : decode bs pc = .ok (.ifCond cd o, 3)) (hc : if_icmp.holds cd x 0 = true) (ho : 0 ≤ (pc : Int) + o) (hp : ((pc : Int) + o).toNat = pc')
    (hr : Go p.tables e below G (T.setTop (mkF m pc' Ls st))) : Go p.tables e below G (T.setTop (mkF m pc Ls (.int x :: st))) :=
  hr.step fun t k => XS.ifYes X.here C.1 rfl rfl (hb C.2.1 hd) rfl ((if0 _ _).trans hc) ho hp k
theorem g_ifN (C : Cx p s m meth c bs mx own mnm rt Z) (X : Stand p l e R s m args below meth c T locs cells slots) {cd : ClassFile.Cond} {x : Int32} {o : Int} (hd : decode bs pc = .ok (.ifCond cd o, 3)) (hc : if_icmp.holds cd x 0 = false) (hn : pc + 3 = pc')
    (hr : Go p.tables e below G (T.setTop (mkF m pc' Ls st))) : Go p.tables e below G (T.setTop (mkF m pc Ls (.int x :: st))) := by
  subst hn; exact hr.step fun t k => XS.ifNo X.here C.1 rfl (hb C.2.1 hd) rfl ((if0 _ _).trans hc) k
theorem g_acmp (C : Cx p s m meth c bs mx own mnm rt Z) (X : Stand p l e R s m args below meth c T locs cells slots) {cd : ACond} {x y : Value} {o : Int} {same : Bool} (hd : decode bs pc = .ok (.if_acmp cd o, 3)) (h1 : x.isRef = true) (h2 : y.isRef = true) (hq : decide (x = y) = same) (ho : 0 ≤ (pc : Int) + o) (hp : pc' = if acV cd same = true then ((pc : Int) + o).toNat else pc + 3)
    (hr : Go p.tables e below G (T.setTop (mkF m pc' Ls st))) : Go p.tables e below G (T.setTop (mkF m pc Ls (y :: x :: st))) :=
  hr.step fun t k => Jvm.RoadKit.acmp X C.1 rfl h1 h2 rfl (hb C.2.1 hd) rfl hq ho hp k
theorem g_getS (C : Cx p s m meth c bs mx own mnm rt Z) (X : Stand p l e R s m args below meth c T locs cells slots) {O n d R0 host : String} {i : Nat} {v : Value} (hd : decode bs pc = .ok (.getstatic i, 3)) (w : (Jvm.Cond.fieldLink own i R0 n d).before a0 Z = true ∨ (Jvm.Cond.fieldLinkNest own i R0 n d host).before a0 Z = true) (via : Via Z R0 O n d) (eT : T.heap = h) (F : Sta Z h O n d v) (hn : pc + 3 = pc')
    (hr : ∀ T', Stand p l e R s m args below meth c T' locs cells slots → T'.heap = h → Go p.tables e below G (T'.setTop (mkF m pc' Ls (v :: st)))) : Go p.tables e below G (T.setTop (mkF m pc Ls st)) := by
  subst hn
  obtain ⟨T', X', e', st'⟩ := getS2 X C.1 C.hZ C.hown w via eT F (g := mkF m pc Ls st) rfl (hb C.2.1 hd)
  exact (hr T' X' e').step st'
theorem g_getF (C : Cx p s m meth c bs mx own mnm rt Z) (X : Stand p l e R s m args below meth c T locs cells slots) {O n d R0 host : String} {i : Nat} {a : Addr} {v : Value} (hd : decode bs pc = .ok (.getfield i, 3)) (w : (Jvm.Cond.fieldLink own i R0 n d).before a0 Z = true ∨ (Jvm.Cond.fieldLinkNest own i R0 n d host).before a0 Z = true) (via : Via Z R0 O n d) (eT : T.heap = h) (F : Fld Z h a O n d v) (hn : pc + 3 = pc')
    (hr : ∀ T', Stand p l e R s m args below meth c T' locs cells slots → T'.heap = h → Go p.tables e below G (T'.setTop (mkF m pc' Ls (v :: st)))) : Go p.tables e below G (T.setTop (mkF m pc Ls (.ref a :: st))) := by
  subst hn
  obtain ⟨T', X', e', st'⟩ := getF X C.1 C.hZ C.hown w via eT F (g := mkF m pc Ls (.ref a :: st)) rfl rfl (hb C.2.1 hd)
  exact (hr T' X' e').step st'
theorem g_callS (C : Cx p s m meth c bs mx own mnm rt Z) (X : Stand p l e R s m args below meth c T locs cells slots) {rm : Room} {as' : Array Value} {Q : Option Value → Heap → List Loc → Prop} {ml : Nat} {yb : ByteArray} {yr : Option FieldType} {ce sl W : Nat} {argsL : List Value} {ps : List FieldType} {pr : Option FieldType} {y : MethodName} {i : Nat} (hd : decode bs pc = .ok (.invokestatic i, 3)) (w1 : (Jvm.Cond.methodLink own i y).before a0 Z = true) (w2 : (Jvm.Cond.static y).before a0 Z = true) (w3 : (Jvm.Cond.initialized y.cls).before a0 Z = true) (w4 : (Jvm.Cond.code y yb ml yr).before a0 Z = true) (hy : y.cls ≠ "java/lang/invoke/MethodHandle" ∧ y.cls ≠ "java/lang/invoke/VarHandle")
    (hM : MetFree l y (head1 [Jvm.Cond.code y yb ml yr] rm) (fun a U => a = as' ∧ Z.Warmed39 U.vm ∧ U.heap = h) (fun _ _ _ _ _ => True) (fun _ U o U' => ∃ v L, o = .returned v ∧ Q v U'.heap L ∧ FrameEnd U o U' L rm.cells rm.slots)) (hf : rm.frames + 1 ≤ R.frames) (hlo : W + (ml + 11) + rm.locals ≤ R.locals) (hce : cells + rm.cells = ce) (hsl : slots + rm.slots = sl) (hce' : ce ≤ R.cells) (hsl' : sl ≤ R.slots) (has : argsL.toArray = as') (eT : T.heap = h) (hsz : Ls.size = mx) (hpd : parseMethodDescriptor y.desc = some ⟨ps, pr⟩) (hln : argsL.length = ps.length) (hW : (st.map fun v => v.category).sum ≤ W) (hn : pc + 3 = pc')
    (hr : ∀ v T' L, Stand p l e R s m args below meth c T' (locs ++ L) ce sl → Q v T'.heap L → Go p.tables e below G (T'.setTop (mkF m pc' Ls (v.toList ++ st)))) : Go p.tables e below G (T.setTop (mkF m pc Ls (argsL.reverse ++ st))) := by
  subst hn hce hsl has
  obtain ⟨v, vm1, ⟨T', L', k', n'⟩, -, X', ⟨Lc, hQ, l', y', z'⟩, st'⟩ := Jvm.LawKit.callS X C.1 (y := y) C.hown (mvT C.hZ w1) (mvT C.hZ w2) (mvT C.hZ w3) (mvT C.hZ w4) hy (backOf (W := W) hM C.hZ w4 w3 hf hlo) (g := mkF m pc Ls (argsL.reverse ++ st)) rfl (hsz.trans C.2.2.1.symm) (argsL := argsL) (rest := st) (lenOf hpd hln) rfl (by show 2 * 0 + _ ≤ _; omega) (hb C.2.1 hd) (fun _ _ => ⟨rfl, eT, hce', hsl'⟩)
  dsimp only [Pt.U, Pt.locs, Pt.cells, Pt.slots] at X' l' y' z' st' hQ
  subst l' y' z'
  exact (hr v T' Lc X' hQ).step st'
theorem g_callV (C : Cx p s m meth c bs mx own mnm rt Z) (X : Stand p l e R s m args below meth c T locs cells slots) {rm : Room} {as' : Array Value} {Q : Option Value → Heap → List Loc → Prop} {ml : Nat} {yb : ByteArray} {yr : Option FieldType} {ce sl W : Nat} {argsL : List Value} {ps : List FieldType} {pr : Option FieldType} {K : String} {y z : MethodName} {i : Nat} {b : Addr} (hd : decode bs pc = .ok (.invokevirtual i, 3)) (w1 : (Jvm.Cond.methodLink own i y).before a0 Z = true) (w2 : (Jvm.Cond.declares y).before a0 Z = true) (hnf : NotFace s y) (w3 : (Jvm.Cond.selects K y z).before a0 Z = true) (w4 : (Jvm.Cond.instanceMethod z).before a0 Z = true) (w5 : (Jvm.Cond.initialized z.cls).before a0 Z = true) (w6 : (Jvm.Cond.code z yb ml yr).before a0 Z = true) (hy : y.cls ≠ "java/lang/invoke/MethodHandle" ∧ y.cls ≠ "java/lang/invoke/VarHandle")
    (hM : MetFree l z (head1 [Jvm.Cond.code z yb ml yr] rm) (fun a U => a = as' ∧ Z.Warmed39 U.vm ∧ U.heap = h) (fun _ _ _ _ _ => True) (fun _ U o U' => ∃ v L, o = .returned v ∧ Q v U'.heap L ∧ FrameEnd U o U' L rm.cells rm.slots)) (hf : rm.frames + 1 ≤ R.frames) (hlo : W + (ml + 11) + rm.locals ≤ R.locals) (hce : cells + rm.cells = ce) (hsl : slots + rm.slots = sl) (hce' : ce ≤ R.cells) (hsl' : sl ≤ R.slots) (has : (.ref b :: argsL).toArray = as') (E : Exa Z h b K) (eT : T.heap = h) (hsz : Ls.size = mx) (hpd : parseMethodDescriptor y.desc = some ⟨ps, pr⟩) (hln : argsL.length = ps.length) (hW : (st.map fun v => v.category).sum ≤ W) (hn : pc + 3 = pc')
    (hr : ∀ v T' L, Stand p l e R s m args below meth c T' (locs ++ L) ce sl → Q v T'.heap L → Go p.tables e below G (T'.setTop (mkF m pc' Ls (v.toList ++ st)))) : Go p.tables e below G (T.setTop (mkF m pc Ls (argsL.reverse ++ .ref b :: st))) := by
  subst hn hce hsl has
  obtain ⟨cq, kq, qa, qb, qc⟩ := isOf C.hZ eT E
  obtain ⟨v, vm1, ⟨T', L', k', n'⟩, -, X', ⟨Lc, hQ, l', y', z'⟩, st'⟩ := X.virtualBack C.1 (y := y) (z := z) C.hown (mvT C.hZ w1) (mvT C.hZ w2) hnf (mvT C.hZ w3) (mvT C.hZ w4) hy (backOf (W := W) hM C.hZ w6 w5 hf hlo) qa qc (g := mkF m pc Ls (argsL.reverse ++ .ref b :: st)) rfl (hsz.trans C.2.2.1.symm) (Steps.refl _) (argsL := argsL) (rest := st) (lenOf hpd hln) rfl (by show 2 * 0 + _ ≤ _; omega) (hb C.2.1 hd) (fun _ _ => ⟨rfl, eT, hce', hsl'⟩)
  dsimp only [Pt.U, Pt.locs, Pt.cells, Pt.slots] at X' l' y' z' st' hQ
  subst l' y' z'
  exact (hr v T' Lc X' hQ).step fun t k => st'.trans k
theorem g_retA {t : FieldType} (C : Cx p s m meth c bs mx own mnm (some t) Z) (X : Stand p l e R s m args below meth c T locs cells slots) {Q : Option Value → Heap → List Loc → Prop} {ce sl : Nat} {v : Value} (ht : t.isReference = true) (hnw : narrow t v = v) (hv : v.isRef = true) (hd : decode bs pc = .ok (.areturn, 1)) (hc : cells ≤ ce) (hs : slots ≤ sl) (hQ : Q (some v) T.heap locs) : Go p.tables e below (End s Q ce sl) (T.setTop (mkF m pc Ls (v :: st))) := by
  obtain ⟨fs, hr, hrun, hended, hW, hsame⟩ := X.leave (v := (some v)) (fun h => by rw [C.ret] at h; cases h) C.locks
  exact ⟨_, _, retOut X C.1 C.ret hnw (Or.inr (Or.inr (Or.inr (Or.inr ⟨rfl, ht, hv⟩)))) (hb C.2.1 hd) hr, hrun, hended, _, _, rfl, hQ, ⟨_, rfl⟩, hW, hsame.mono hc hs⟩
theorem g_retN {t : FieldType} (C : Cx p s m meth c bs mx own mnm (some t) Z) (X : Stand p l e R s m args below meth c T locs cells slots) {Q : Option Value → Heap → List Loc → Prop} {ce sl : Nat} {z : Int32} (ht : t = .boolean ∨ t = .byte ∨ t = .char ∨ t = .short) (hd : decode bs pc = .ok (.ireturn, 1)) (hc : cells ≤ ce) (hs : slots ≤ sl) (hQ : Q (some (.int (nar t z))) T.heap locs) : Go p.tables e below (End s Q ce sl) (T.setTop (mkF m pc Ls (.int z :: st))) := by
  obtain ⟨fs, hr, hrun, hended, hW, hsame⟩ := X.leave (v := (some (.int (nar t z)))) (fun h => by rw [C.ret] at h; cases h) C.locks
  exact ⟨_, _, retN X C.1 C.ret ht (hb C.2.1 hd) hr, hrun, hended, _, _, rfl, hQ, ⟨_, rfl⟩, hW, hsame.mono hc hs⟩
theorem g_ldB (C : Cx p s m meth c bs mx own mnm rt Z) (X : Stand p l e R s m args below meth c T locs cells slots) {a : Addr} {k : ClassId} {n j : Int32} {vs : List Value} {dv v : Value} (hd : decode bs pc = .ok (.baload, 1)) (eT : T.heap = h) (F : Arv Z h a k .byte n vs dv) (hj : ¬ j < 0 ∧ j < n) (hv : vs.getD j.toNatClampNeg dv = v) (hn : pc + 1 = pc')
    (hr : Go p.tables e below G (T.setTop (mkF m pc' Ls (v :: st)))) : Go p.tables e below G (T.setTop (mkF m pc Ls (.int j :: .ref a :: st))) := by
  subst hn
  obtain ⟨cl, A, q, Sz, N, H, Gf⟩ := F
  have hin := inb_of Sz hj
  exact hr.step fun t k => X.baloadBytes C.1 (j := j) (by rw [eT]; exact A.1) (State.isArrayOf_alike C.hZ.alike A.2.1) A.2.2 hin ((H _ (Nat.lt_of_not_le fun q => hin (Or.inr q))).trans (congrArg some hv)) (g := mkF m pc Ls (.int j :: .ref a :: st)) rfl rfl (hb C.2.1 hd) _ k
theorem g_len (C : Cx p s m meth c bs mx own mnm rt Z) (X : Stand p l e R s m args below meth c T locs cells slots) {a : Addr} {k : ClassId} {n : Int32} {ty : FieldType} {vs : List Value} {dv : Value} (hd : decode bs pc = .ok (.arraylength, 1)) (eT : T.heap = h) (F : Arv Z h a k ty n vs dv) (hn : pc + 1 = pc')
    (hr : Go p.tables e below G (T.setTop (mkF m pc' Ls (.int n :: st)))) : Go p.tables e below G (T.setTop (mkF m pc Ls (.ref a :: st))) := by
  subst hn
  obtain ⟨cl, A, q, Sz, N, H, Gf⟩ := F
  exact hr.step fun t k => X.arraylength C.1 (by rw [eT]; exact A.1) (State.isArrayOf_alike C.hZ.alike A.2.1) (g := mkF m pc Ls (.ref a :: st)) rfl rfl (hb C.2.1 hd) _ (by rw [len_of Sz N]; exact k)
theorem own_fin (n : Nat) (x : Int32) (h0 : 0 ≤ x.toInt) (h1 : x.toInt < n) : ∃ i : Fin n, x = Int32.ofNat i.val :=
  ⟨⟨x.toNatClampNeg, by show x.toInt.toNat < n; omega⟩, (back32 (by rw [Int32.lt_iff_toInt_lt]; show ¬ x.toInt < 0; omega)).1.symm⟩
theorem g_castY (C : Cx p s m meth c bs mx own mnm rt Z) (X : Stand p l e R s m args below meth c T locs cells slots) {i : Nat} {K : String} {a : Addr} (hd : decode bs pc = .ok (.checkcast i, 3)) (w : (Jvm.Cond.classLink own i K).before a0 Z = true) (eT : T.heap = h) (Iy : Ins Z h a K true) (hn : pc + 3 = pc')
    (hr : ∀ T', Stand p l e R s m args below meth c T' locs cells slots → T'.heap = h → Go p.tables e below G (T'.setTop (mkF m pc' Ls (.ref a :: st)))) : Go p.tables e below G (T.setTop (mkF m pc Ls (.ref a :: st))) := by
  subst hn
  obtain ⟨T', X', e', st'⟩ := castY X C.1 C.hZ C.hown w eT Iy (g := mkF m pc Ls (.ref a :: st)) rfl rfl (hb C.2.1 hd)
  exact (hr T' X' e').step st'
theorem g_instY (C : Cx p s m meth c bs mx own mnm rt Z) (X : Stand p l e R s m args below meth c T locs cells slots) {i : Nat} {K : String} {a : Addr} (hd : decode bs pc = .ok (.instanceof i, 3)) (w : (Jvm.Cond.classLink own i K).before a0 Z = true) (eT : T.heap = h) (Iy : Ins Z h a K true) (hn : pc + 3 = pc')
    (hr : ∀ T', Stand p l e R s m args below meth c T' locs cells slots → T'.heap = h → Go p.tables e below G (T'.setTop (mkF m pc' Ls (.int 1 :: st)))) : Go p.tables e below G (T.setTop (mkF m pc Ls (.ref a :: st))) := by
  subst hn
  obtain ⟨T', X', e', st'⟩ := instY X C.1 C.hZ C.hown w eT Iy (g := mkF m pc Ls (.ref a :: st)) rfl rfl (hb C.2.1 hd)
  exact (hr T' X' e').step st'
theorem own_cast {tb : Tables} {S S' : State} (q : S = S') (g : Go tb e below G S') : Go tb e below G S := q ▸ g
/-- the end of a body that may intern -/
def EndW (s : State) (Q : Option Value → Heap → List Loc → Prop) (ce sl : Nat) (o : Outcome) (U' : State) : Prop := ∃ v L, o = .returned v ∧ Q v U'.heap L ∧ ReturnedEndW s o U' L ce sl
theorem met_ofW {y : MethodName} {ws : List Jvm.Cond} {rm : Room} {as' : Array Value} {Q : Option Value → Heap → List Loc → Prop} {ce sl : Nat} {Px : State → Prop} (hpn : plainFor y = true) (hef : ∀ m, entryFrame m as' mx = mkF m 0 Ls [])
    (hbody : ∀ (p : Program) (e : Env) (s : State) (m : MethodId) (below : List Frame) (meth : Method) (c : Code) (T : State), Px s → Cx p (s.setVm s.vm) m meth c bs mx y.cls y.name rt Z → Stand p l e rm (s.setVm s.vm) m as' below meth c T [] 0 0 → s.Since s.vm 0 → T.heap = h → Go p.tables e below (EndW s Q ce sl) (T.setTop (mkF m 0 Ls []))) :
    MetFree l y (head1 (Jvm.Cond.code y bs mx rt :: ws) rm) (fun a U => a = as' ∧ Z.Warmed39 U.vm ∧ U.heap = h ∧ Px U) (fun _ _ _ _ _ => True) (fun _ U o U' => ∃ v L, o = .returned v ∧ Q v U'.heap L ∧ ReturnedEndW U o U' L ce sl) := by
  refine MetFree.of_bodySF hpn hisR ?_
  intro p e s m args below meth c s₁ Bd hml0 hP hK
  obtain ⟨rfl, hZ, hh, hpx⟩ := hP
  have X0 : Stand p l e rm s m _ below meth c s₁ [] 0 0 := Stand.of_body Bd
  have e0 : s₁.heap = h := by rw [← hh, Bd.state]; rfl
  obtain ⟨s₂, o, h1, h2, h3, h4⟩ := hbody p e s m below meth c s₁ hpx ⟨Bd.exec, Bd.bytes, hml0, findClass_of_methodNamed Bd.named, (name_of_methodNamed Bd.named Bd.method).1, Bd.returns, Bd.notSynchronized, hZ⟩ X0 ((State.WarmedH.refl s).since 0) e0
  exact ⟨s₂, o, castTop (hef m) h1, h2, h3, h4⟩
theorem met_ofW0 {y : MethodName} {ws : List Jvm.Cond} {rm : Room} {as' : Array Value} {Q : Option Value → Heap → List Loc → Prop} {ce sl : Nat} (hpn : plainFor y = true) (hef : ∀ m, entryFrame m as' mx = mkF m 0 Ls [])
    (hbody : ∀ (p : Program) (e : Env) (s : State) (m : MethodId) (below : List Frame) (meth : Method) (c : Code) (T : State), Cx p (s.setVm s.vm) m meth c bs mx y.cls y.name rt Z → Stand p l e rm (s.setVm s.vm) m as' below meth c T [] 0 0 → s.Since s.vm 0 → T.heap = h → Go p.tables e below (EndW s Q ce sl) (T.setTop (mkF m 0 Ls []))) :
    MetFree l y (head1 (Jvm.Cond.code y bs mx rt :: ws) rm) (fun a U => a = as' ∧ Z.Warmed39 U.vm ∧ U.heap = h) (fun _ _ _ _ _ => True) (fun _ U o U' => ∃ v L, o = .returned v ∧ Q v U'.heap L ∧ ReturnedEndW U o U' L ce sl) := by
  refine MetFree.of_bodySF hpn hisR ?_
  intro p e s m args below meth c s₁ Bd hml0 hP hK
  obtain ⟨rfl, hZ, hh⟩ := hP
  have X0 : Stand p l e rm s m _ below meth c s₁ [] 0 0 := Stand.of_body Bd
  have e0 : s₁.heap = h := by rw [← hh, Bd.state]; rfl
  obtain ⟨s₂, o, h1, h2, h3, h4⟩ := hbody p e s m below meth c s₁ ⟨Bd.exec, Bd.bytes, hml0, findClass_of_methodNamed Bd.named, (name_of_methodNamed Bd.named Bd.method).1, Bd.returns, Bd.notSynchronized, hZ⟩ X0 ((State.WarmedH.refl s).since 0) e0
  exact ⟨s₂, o, castTop (hef m) h1, h2, h3, h4⟩
theorem Cx.reb {s' : State} (C : Cx p s m meth c bs mx own mnm rt Z) (hZ : Z.Warmed39 s'.vm) (ho : s'.vm.findClass own = some m.cls) : Cx p s' m meth c bs mx own mnm rt Z := ⟨C.1, C.2.1, C.2.2.1, ho, C.nm, C.ret, C.locks, hZ⟩
theorem g_ldcV {vm0 : Vm} {k0 : Nat} (C : Cx p (s.setVm vm0) m meth c bs mx own mnm rt Z) (X : Stand p l e R (s.setVm vm0) m args below meth c T locs cells slots) (hS : s.Since vm0 k0) (hk : k0 ≤ h.size) {i n ce sl : Nat} {text : String} {Ts : List String} {vs : List Value} {z : Int32} (hd : decode bs pc = .ok (.ldc i, 2)) (w : (Jvm.Cond.stringLink own i text).before a0 Z = true) (wS : ∀ a ∈ Bundle.stringAtoms, a.before a0 Z = true) (eT : T.heap = h) (N : Fr s.heap.size locs) (hkeep : ∀ (b : Addr) (cl : Cell), Z.heap[b]? = some cl → s.heap[b]? = some cl) (I : IB Z vm0 Ts) (hnot : text ∉ Ts) (hh : Jvm.Lit.constHeld Z own i) (hcw : Jvm.Lit.compactW.before a0 Z = true) (ht : (∀ c ∈ text.toList, c.toNat < 256) ∧ text.toList.map (fun c => Value.int (Jvm.Lit.byteI c.toNat.toUInt16)) = vs) (hz : ¬ z < 0) (hzl : z.toNatClampNeg = vs.length) (hn4 : 4 * text.toList.length ≤ n) (hbig : n ≤ 536870912) (hce : cells + 2 = ce) (hsl : slots + (n + 4) = sl) (hce' : ce ≤ R.cells) (hsl' : sl ≤ R.slots) (hn : pc + 2 = pc')
    (hr : ∀ a T' h' k1 b k, Cx p (s.setVm T'.vm) m meth c bs mx own mnm rt Z → Stand p l e R (s.setVm T'.vm) m args below meth c T' locs ce sl → T'.heap = h' → Ext h h' → s.Since T'.vm k1 → k1 ≤ h'.size → Exa Z h' a "java/lang/String" → Fld Z h' a "java/lang/String" "coder" "B" (.int 0) → Fld Z h' a "java/lang/String" "value" "[B" (.ref b) → Arv Z h' b k .byte z vs (.int 0) → Go p.tables e below G (T'.setTop (mkF m pc' Ls (.ref a :: st)))) : Go p.tables e below G (T.setTop (mkF m pc Ls st)) := by
  subst hn hce hsl
  obtain ⟨a, T', h', k1, b, k, X', e', E', hS', hk', hZ', ho', A1, A2, A3, A4, -, -, -, st'⟩ := ldcSV X C.1 C.hZ C.hown w wS eT hS hk N hkeep I hnot hh hcw ht hz hzl (g := mkF m pc Ls st) rfl (hb C.2.1 hd) hn4 hbig hce' hsl'
  exact (hr a T' h' k1 b k (C.reb hZ' ho') X' e' E' hS' hk' A1 A2 A3 A4).step st'
theorem g_retNW {vm0 : Vm} {k0 : Nat} {t : FieldType} (C : Cx p (s.setVm vm0) m meth c bs mx own mnm (some t) Z) (X : Stand p l e R (s.setVm vm0) m args below meth c T locs cells slots) (hS : s.Since vm0 k0) (hk : k0 ≤ T.heap.size) {Q : Option Value → Heap → List Loc → Prop} {ce sl : Nat} {z : Int32} (ht : t = .boolean ∨ t = .byte ∨ t = .char ∨ t = .short) (hd : decode bs pc = .ok (.ireturn, 1)) (hc : cells ≤ ce) (hs : slots ≤ sl) (hQ : Q (some (.int (nar t z))) T.heap locs) : Go p.tables e below (EndW s Q ce sl) (T.setTop (mkF m pc Ls (.int z :: st))) := by
  obtain ⟨fs, hr, hrun, hended, q1, q2, q3, q4⟩ := X.leaveW hS hk (v := (some (.int (nar t z)))) (fun h => by rw [C.ret] at h; cases h) C.locks
  exact ⟨_, _, retN X C.1 C.ret ht (hb C.2.1 hd) hr, hrun, hended, _, _, rfl, hQ, q1, q2, q3, q4.mono hc hs⟩
end OwnKit
theorem own_eqi {args : Array Value} {s : State} {t : Term} {v : Int32} (h : (Jvm.Cond.eq t (.int v)).value args s none s [] = some true) : t.eval args s none [] s = some (.int v) := by
  simp only [Cond.value, Term.eval] at h
  cases ht : t.eval args s none [] s with
  | none => simp [ht] at h
  | some x => cases x <;> simp [ht] at h ⊢; exact h
theorem own_eqr {args : Array Value} {s : State} {t u : Term} {a : Addr} (h : (Jvm.Cond.eq t u).value args s none s [] = some true) (hu : u.eval args s none [] s = some (.ref a)) : t.eval args s none [] s = some (.ref a) := by
  simp only [Cond.value, hu] at h
  cases ht : t.eval args s none [] s with
  | none => simp [ht] at h
  | some x => cases x <;> simp [ht] at h ⊢; exact h
theorem own_len {args : Array Value} {s : State} {t : Term} {a : Addr} {cl : Cell} {ty : FieldType} {n : Int32} (ht : t.eval args s none [] s = some (.ref a)) (A : Arr s s.heap a cl ty) (h : (Term.length t).eval args s none [] s = some (.int n)) : cl.slots.size < 2 ^ 31 ∧ cl.slots.size.toInt32 = n := by
  have ha : s.arrayAt? a = some cl := A.fin (Vm.Alike.refl _)
  by_cases q : cl.slots.size < 2 ^ 31
  · rw [len_f ht ha q] at h
    exact ⟨q, Value.int.inj (Option.some.inj h)⟩
  · simp [Term.eval, ht, ha, q] at h
theorem own_fld {args : Array Value} {s : State} {t : Term} {C n d : String} {a : Addr} {v : Value} (ht : t.eval args s none [] s = some (.ref a)) (hv : (Term.field t C n d).eval args s none [] s = some v) : Fld s s.heap a C n d v := Fld.start ((fld_at ht).symm.trans hv)
theorem own_neqi {args : Array Value} {s : State} {t : Term} {x v : Int32} (ht : t.eval args s none [] s = some (.int x)) (h : (Jvm.Cond.not (Jvm.Cond.eq t (.int v))).value args s none s [] = some true) : ¬ (x = v) := by
  have q := not_v h
  intro e
  subst e
  simp [Cond.value, Term.eval, ht] at q
theorem own_arv_ne {Z : State} {h : Heap} {a b : Addr} {k k' : ClassId} {ty ty' : FieldType} {n n' : Int32} {vs vs' : List Value} {d d' : Value} (A : Arv Z h a k ty n vs d) (B : Arv Z h b k' ty' n' vs' d') (q : ¬ (n.toNatClampNeg = n'.toNatClampNeg)) : ¬ (a = b) := by
  rintro rfl
  obtain ⟨c, A1, -, S1, -⟩ := A
  obtain ⟨c', B1, -, S2, -⟩ := B
  cases A1.1.symm.trans B1.1
  exact q (S1.symm.trans S2)
theorem own_wS {a0 : Array Value} {Z : State} (hw : ∀ d ∈ tables_1, d.before a0 Z = true) : ∀ a ∈ Bundle.stringAtoms, a.before a0 Z = true := by
  intro a ha
  simp only [Bundle.stringAtoms, Bundle.sN, List.mem_cons, List.not_mem_nil, or_false] at ha
  rcases ha with rfl | rfl | rfl | rfl | rfl | rfl | rfl
  · exact (hw _ (List.mem_of_getElem? (i := 21) rfl))
  · exact (hw _ (List.mem_of_getElem? (i := 22) rfl))
  · exact (hw _ (List.mem_of_getElem? (i := 23) rfl))
  · exact (hw _ (List.mem_of_getElem? (i := 24) rfl))
  · exact (hw _ (List.mem_of_getElem? (i := 25) rfl))
  · exact (hw _ (List.mem_of_getElem? (i := 26) rfl))
  · exact (hw _ (List.mem_of_getElem? (i := 27) rfl))
def FX (Z : State) (h : Heap) (w_RSA_SHA1 : Addr) (w_RSA_SHA512 : Addr) (w_RSA_SHA384 : Addr) (w_RSA_SHA256 : Addr) (w_code_RSA_SHA1 : Addr) (w_value_code_RSA_SHA1 : Addr) (w_code_RSA_SHA512 : Addr) (w_value_code_RSA_SHA512 : Addr) (w_code_RSA_SHA384 : Addr) (w_value_code_RSA_SHA384 : Addr) (w_code_RSA_SHA256 : Addr) (w_value_code_RSA_SHA256 : Addr) (k_value_code_RSA_SHA1 : ClassId) (k_value_code_RSA_SHA512 : ClassId) (k_value_code_RSA_SHA384 : ClassId) (k_value_code_RSA_SHA256 : ClassId) (cs : Int32) : Prop := (Sta Z h "org/vouchsafe/SignatureAlgorithm" "RSA_SHA1" "Lorg/vouchsafe/SignatureAlgorithm;" (.ref w_RSA_SHA1)) ∧ (Sta Z h "org/vouchsafe/SignatureAlgorithm" "RSA_SHA512" "Lorg/vouchsafe/SignatureAlgorithm;" (.ref w_RSA_SHA512)) ∧ (Sta Z h "org/vouchsafe/SignatureAlgorithm" "RSA_SHA384" "Lorg/vouchsafe/SignatureAlgorithm;" (.ref w_RSA_SHA384)) ∧ (Sta Z h "org/vouchsafe/SignatureAlgorithm" "RSA_SHA256" "Lorg/vouchsafe/SignatureAlgorithm;" (.ref w_RSA_SHA256)) ∧ (Exa Z h w_RSA_SHA1 "org/vouchsafe/SignatureAlgorithm") ∧ (Fld Z h w_RSA_SHA1 "org/vouchsafe/SignatureAlgorithm" "code" "Ljava/lang/String;" (.ref w_code_RSA_SHA1)) ∧ (Exa Z h w_code_RSA_SHA1 "java/lang/String") ∧ (Fld Z h w_code_RSA_SHA1 "java/lang/String" "coder" "B" (.int (0 : Int32))) ∧ (Fld Z h w_code_RSA_SHA1 "java/lang/String" "value" "[B" (.ref w_value_code_RSA_SHA1)) ∧ (Exa Z h w_RSA_SHA512 "org/vouchsafe/SignatureAlgorithm") ∧ (Fld Z h w_RSA_SHA512 "java/lang/Enum" "ordinal" "I" (.int (3 : Int32))) ∧ (Fld Z h w_RSA_SHA1 "java/lang/Enum" "ordinal" "I" (.int (0 : Int32))) ∧ (Fld Z h w_RSA_SHA512 "org/vouchsafe/SignatureAlgorithm" "code" "Ljava/lang/String;" (.ref w_code_RSA_SHA512)) ∧ (Exa Z h w_code_RSA_SHA512 "java/lang/String") ∧ (Fld Z h w_code_RSA_SHA512 "java/lang/String" "coder" "B" (.int (0 : Int32))) ∧ (Fld Z h w_code_RSA_SHA512 "java/lang/String" "value" "[B" (.ref w_value_code_RSA_SHA512)) ∧ (Exa Z h w_RSA_SHA384 "org/vouchsafe/SignatureAlgorithm") ∧ (Fld Z h w_RSA_SHA384 "java/lang/Enum" "ordinal" "I" (.int (2 : Int32))) ∧ (Fld Z h w_RSA_SHA384 "org/vouchsafe/SignatureAlgorithm" "code" "Ljava/lang/String;" (.ref w_code_RSA_SHA384)) ∧ (Exa Z h w_code_RSA_SHA384 "java/lang/String") ∧ (Fld Z h w_code_RSA_SHA384 "java/lang/String" "coder" "B" (.int (0 : Int32))) ∧ (Fld Z h w_code_RSA_SHA384 "java/lang/String" "value" "[B" (.ref w_value_code_RSA_SHA384)) ∧ (Exa Z h w_RSA_SHA256 "org/vouchsafe/SignatureAlgorithm") ∧ (Fld Z h w_RSA_SHA256 "java/lang/Enum" "ordinal" "I" (.int (1 : Int32))) ∧ (Fld Z h w_RSA_SHA256 "org/vouchsafe/SignatureAlgorithm" "code" "Ljava/lang/String;" (.ref w_code_RSA_SHA256)) ∧ (Exa Z h w_code_RSA_SHA256 "java/lang/String") ∧ (Fld Z h w_code_RSA_SHA256 "java/lang/String" "coder" "B" (.int (0 : Int32))) ∧ (Fld Z h w_code_RSA_SHA256 "java/lang/String" "value" "[B" (.ref w_value_code_RSA_SHA256)) ∧ (Arv Z h w_value_code_RSA_SHA1 k_value_code_RSA_SHA1 .byte (8 : Int32) [(.int (114 : Int32)), (.int (115 : Int32)), (.int (97 : Int32)), (.int (45 : Int32)), (.int (115 : Int32)), (.int (104 : Int32)), (.int (97 : Int32)), (.int (49 : Int32))] (.int (0 : Int32))) ∧ (Arv Z h w_value_code_RSA_SHA512 k_value_code_RSA_SHA512 .byte (10 : Int32) [(.int (114 : Int32)), (.int (115 : Int32)), (.int (97 : Int32)), (.int (45 : Int32)), (.int (115 : Int32)), (.int (104 : Int32)), (.int (97 : Int32)), (.int (53 : Int32)), (.int (49 : Int32)), (.int (50 : Int32))] (.int (0 : Int32))) ∧ (Arv Z h w_value_code_RSA_SHA384 k_value_code_RSA_SHA384 .byte (10 : Int32) [(.int (114 : Int32)), (.int (115 : Int32)), (.int (97 : Int32)), (.int (45 : Int32)), (.int (115 : Int32)), (.int (104 : Int32)), (.int (97 : Int32)), (.int (51 : Int32)), (.int (56 : Int32)), (.int (52 : Int32))] (.int (0 : Int32))) ∧ (Arv Z h w_value_code_RSA_SHA256 k_value_code_RSA_SHA256 .byte (10 : Int32) [(.int (114 : Int32)), (.int (115 : Int32)), (.int (97 : Int32)), (.int (45 : Int32)), (.int (115 : Int32)), (.int (104 : Int32)), (.int (97 : Int32)), (.int (50 : Int32)), (.int (53 : Int32)), (.int (54 : Int32))] (.int (0 : Int32))) ∧ (Sta Z h "java/lang/String" "COMPACT_STRINGS" "Z" (.int cs))
theorem d1_0 : decode method_2_code 0 = .ok (.iload_n 0, 1) := by decide +kernel
theorem d1_1 : decode method_2_code 1 = .ok (.ifCond .ne 7, 3) := by decide +kernel
theorem d1_4 : decode method_2_code 4 = .ok (.getstatic 7, 3) := by decide +kernel
theorem d1_7 : decode method_2_code 7 = .ok (.areturn, 1) := by decide +kernel
theorem d1_8 : decode method_2_code 8 = .ok (.iload_n 0, 1) := by decide +kernel
theorem d1_9 : decode method_2_code 9 = .ok (.iconst 1, 1) := by decide +kernel
theorem d1_10 : decode method_2_code 10 = .ok (.if_icmp .ne 7, 3) := by decide +kernel
theorem d1_13 : decode method_2_code 13 = .ok (.getstatic 13, 3) := by decide +kernel
theorem d1_16 : decode method_2_code 16 = .ok (.areturn, 1) := by decide +kernel
theorem d1_17 : decode method_2_code 17 = .ok (.iload_n 0, 1) := by decide +kernel
theorem d1_18 : decode method_2_code 18 = .ok (.iconst 2, 1) := by decide +kernel
theorem d1_19 : decode method_2_code 19 = .ok (.if_icmp .ne 7, 3) := by decide +kernel
theorem d1_22 : decode method_2_code 22 = .ok (.getstatic 16, 3) := by decide +kernel
theorem d1_25 : decode method_2_code 25 = .ok (.areturn, 1) := by decide +kernel
theorem d1_26 : decode method_2_code 26 = .ok (.getstatic 19, 3) := by decide +kernel
theorem d1_29 : decode method_2_code 29 = .ok (.areturn, 1) := by decide +kernel
def F1 (p1 : Int32) (w_RSA_SHA1 : Addr) (w_RSA_SHA512 : Addr) (w_RSA_SHA384 : Addr) (w_RSA_SHA256 : Addr) : Addr := (if p1 = (0 : Int32) then w_RSA_SHA1 else (if p1 = (1 : Int32) then w_RSA_SHA256 else (if p1 = (2 : Int32) then w_RSA_SHA384 else w_RSA_SHA512)))
theorem F1_l0 (p1 : Int32) (w_RSA_SHA1 : Addr) (w_RSA_SHA512 : Addr) (w_RSA_SHA384 : Addr) (w_RSA_SHA256 : Addr) (h0 : p1 = (0 : Int32)) : F1 p1 w_RSA_SHA1 w_RSA_SHA512 w_RSA_SHA384 w_RSA_SHA256 = w_RSA_SHA1 := by
  unfold F1; rw [if_pos h0]
theorem F1_l1 (p1 : Int32) (w_RSA_SHA1 : Addr) (w_RSA_SHA512 : Addr) (w_RSA_SHA384 : Addr) (w_RSA_SHA256 : Addr) (h0 : ¬ (p1 = (0 : Int32))) (h1 : p1 = (1 : Int32)) : F1 p1 w_RSA_SHA1 w_RSA_SHA512 w_RSA_SHA384 w_RSA_SHA256 = w_RSA_SHA256 := by
  unfold F1; rw [if_neg h0, if_pos h1]
theorem F1_l2 (p1 : Int32) (w_RSA_SHA1 : Addr) (w_RSA_SHA512 : Addr) (w_RSA_SHA384 : Addr) (w_RSA_SHA256 : Addr) (h0 : ¬ (p1 = (0 : Int32))) (h1 : ¬ (p1 = (1 : Int32))) (h2 : p1 = (2 : Int32)) : F1 p1 w_RSA_SHA1 w_RSA_SHA512 w_RSA_SHA384 w_RSA_SHA256 = w_RSA_SHA384 := by
  unfold F1; rw [if_neg h0, if_neg h1, if_pos h2]
theorem F1_l3 (p1 : Int32) (w_RSA_SHA1 : Addr) (w_RSA_SHA512 : Addr) (w_RSA_SHA384 : Addr) (w_RSA_SHA256 : Addr) (h0 : ¬ (p1 = (0 : Int32))) (h1 : ¬ (p1 = (1 : Int32))) (h2 : ¬ (p1 = (2 : Int32))) : F1 p1 w_RSA_SHA1 w_RSA_SHA512 w_RSA_SHA384 w_RSA_SHA256 = w_RSA_SHA512 := by
  unfold F1; rw [if_neg h0, if_neg h1, if_neg h2]
theorem ef_1 (m : MethodId) (p1 : Int32) : entryFrame m #[(.int p1)] 1 = mkF m 0 #[.val (.int p1)] [] := by first | (simp [entryFrame, mkF, argsToLocals, Value.category]; done) | rfl
def Q_1 (Z : State) (p1 : Int32) (w_RSA_SHA1 : Addr) (w_RSA_SHA512 : Addr) (w_RSA_SHA384 : Addr) (w_RSA_SHA256 : Addr) (w_code_RSA_SHA1 : Addr) (w_value_code_RSA_SHA1 : Addr) (w_code_RSA_SHA512 : Addr) (w_value_code_RSA_SHA512 : Addr) (w_code_RSA_SHA384 : Addr) (w_value_code_RSA_SHA384 : Addr) (w_code_RSA_SHA256 : Addr) (w_value_code_RSA_SHA256 : Addr) (k_value_code_RSA_SHA1 : ClassId) (k_value_code_RSA_SHA512 : ClassId) (k_value_code_RSA_SHA384 : ClassId) (k_value_code_RSA_SHA256 : ClassId) (cs : Int32) (h0 : Heap) (n0 : Nat) (v : Option Value) (h : Heap) (L : List Loc) : Prop := v = some (.ref (F1 p1 w_RSA_SHA1 w_RSA_SHA512 w_RSA_SHA384 w_RSA_SHA256)) ∧ Fr n0 L ∧ h = h0
set_option maxRecDepth 65536 in
set_option maxHeartbeats 40000000 in
theorem rm1 (l : Launch) (Z : State) (a0 : Array Value) (hw : ∀ d ∈ tables_1, d.before a0 Z = true) (ws : List Jvm.Cond) (p1 : Int32) (w_RSA_SHA1 : Addr) (w_RSA_SHA512 : Addr) (w_RSA_SHA384 : Addr) (w_RSA_SHA256 : Addr) (w_code_RSA_SHA1 : Addr) (w_value_code_RSA_SHA1 : Addr) (w_code_RSA_SHA512 : Addr) (w_value_code_RSA_SHA512 : Addr) (w_code_RSA_SHA384 : Addr) (w_value_code_RSA_SHA384 : Addr) (w_code_RSA_SHA256 : Addr) (w_value_code_RSA_SHA256 : Addr) (k_value_code_RSA_SHA1 : ClassId) (k_value_code_RSA_SHA512 : ClassId) (k_value_code_RSA_SHA384 : ClassId) (k_value_code_RSA_SHA256 : ClassId) (cs : Int32) (h0 : Heap) (n0 : Nat) (hF : FX Z h0 w_RSA_SHA1 w_RSA_SHA512 w_RSA_SHA384 w_RSA_SHA256 w_code_RSA_SHA1 w_value_code_RSA_SHA1 w_code_RSA_SHA512 w_value_code_RSA_SHA512 w_code_RSA_SHA384 w_value_code_RSA_SHA384 w_code_RSA_SHA256 w_value_code_RSA_SHA256 k_value_code_RSA_SHA1 k_value_code_RSA_SHA512 k_value_code_RSA_SHA384 k_value_code_RSA_SHA256 cs) :
    MetFree l (⟨"org/vouchsafe/SignatureAlgorithmSha1PinLaw", "pick", "(I)Lorg/vouchsafe/SignatureAlgorithm;"⟩ : MethodName) (head1 (Jvm.Cond.code (⟨"org/vouchsafe/SignatureAlgorithmSha1PinLaw", "pick", "(I)Lorg/vouchsafe/SignatureAlgorithm;"⟩ : MethodName) method_2_code 1 (some (.object "org/vouchsafe/SignatureAlgorithm")) :: ws) ({ frames := 0, cells := 0, slots := 0, locals := 0 } : Room)) (fun a U => a = #[(.int p1)] ∧ Z.Warmed39 U.vm ∧ U.heap = h0) (fun _ _ _ _ _ => True) (fun _ U o U' => ∃ v L, o = .returned v ∧ Q_1 Z p1 w_RSA_SHA1 w_RSA_SHA512 w_RSA_SHA384 w_RSA_SHA256 w_code_RSA_SHA1 w_value_code_RSA_SHA1 w_code_RSA_SHA512 w_value_code_RSA_SHA512 w_code_RSA_SHA384 w_value_code_RSA_SHA384 w_code_RSA_SHA256 w_value_code_RSA_SHA256 k_value_code_RSA_SHA1 k_value_code_RSA_SHA512 k_value_code_RSA_SHA384 k_value_code_RSA_SHA256 cs h0 n0 v U'.heap L ∧ FrameEnd U o U' L ({ frames := 0, cells := 0, slots := 0, locals := 0 } : Room).cells ({ frames := 0, cells := 0, slots := 0, locals := 0 } : Room).slots) := by
  refine met_of (Ls := #[.val (.int p1)]) (plainFor_of_name (by first | (simp [plainName, overriddenIn]; done) | decide +kernel)) (fun m => ef_1 m p1) ?_
  intro p e s m below meth c T0 C X0 e0
  obtain ⟨S_w_RSA_SHA1, S_w_RSA_SHA512, S_w_RSA_SHA384, S_w_RSA_SHA256, E_w_RSA_SHA1, F_w_code_RSA_SHA1, E_w_code_RSA_SHA1, F_coder_w_code_RSA_SHA1, F_w_value_code_RSA_SHA1, E_w_RSA_SHA512, F_ordinal_w_RSA_SHA512, F_ordinal_w_RSA_SHA1, F_w_code_RSA_SHA512, E_w_code_RSA_SHA512, F_coder_w_code_RSA_SHA512, F_w_value_code_RSA_SHA512, E_w_RSA_SHA384, F_ordinal_w_RSA_SHA384, F_w_code_RSA_SHA384, E_w_code_RSA_SHA384, F_coder_w_code_RSA_SHA384, F_w_value_code_RSA_SHA384, E_w_RSA_SHA256, F_ordinal_w_RSA_SHA256, F_w_code_RSA_SHA256, E_w_code_RSA_SHA256, F_coder_w_code_RSA_SHA256, F_w_value_code_RSA_SHA256, V_w_value_code_RSA_SHA1, V_w_value_code_RSA_SHA512, V_w_value_code_RSA_SHA384, V_w_value_code_RSA_SHA256, S_cs⟩ := id hF
  have N0 := Fr.nil n0
  refine g_iloadN (pc' := 1) C X0 d1_0 rfl rfl ?_
  by_cases c1 : p1 = (0 : Int32)
  · refine g_ifN (pc' := 4) C X0 d1_1 (teq c1).2 rfl ?_
    refine g_getS (pc' := 7) C X0 d1_4 (host := "") (Or.inl (hw _ (List.mem_of_getElem? (i := 4) rfl))) Via.refl e0 S_w_RSA_SHA1 rfl (fun T2 X2 e2 => ?_)
    exact g_retA C X2 rfl rfl rfl d1_7 (by decide) (by decide) ⟨congrArg (fun z => some (Value.ref z)) (F1_l0 p1 w_RSA_SHA1 w_RSA_SHA512 w_RSA_SHA384 w_RSA_SHA256 c1).symm, N0, e2⟩
  · refine g_ifY (pc' := 8) C X0 d1_1 (feq c1).2 (by decide) (by decide) ?_
    refine g_iloadN (pc' := 9) C X0 d1_8 rfl rfl ?_
    refine g_iconst (pc' := 10) (v := (1 : Int32)) C X0 d1_9 rfl rfl ?_
    by_cases c3 : p1 = (1 : Int32)
    · refine g_icmpN (pc' := 13) C X0 d1_10 (teq c3).2 rfl ?_
      refine g_getS (pc' := 16) C X0 d1_13 (host := "") (Or.inl (hw _ (List.mem_of_getElem? (i := 46) rfl))) Via.refl e0 S_w_RSA_SHA256 rfl (fun T4 X4 e4 => ?_)
      exact g_retA C X4 rfl rfl rfl d1_16 (by decide) (by decide) ⟨congrArg (fun z => some (Value.ref z)) (F1_l1 p1 w_RSA_SHA1 w_RSA_SHA512 w_RSA_SHA384 w_RSA_SHA256 c1 c3).symm, N0, e4⟩
    · refine g_icmpY (pc' := 17) C X0 d1_10 (feq c3).2 (by decide) (by decide) ?_
      refine g_iloadN (pc' := 18) C X0 d1_17 rfl rfl ?_
      refine g_iconst (pc' := 19) (v := (2 : Int32)) C X0 d1_18 rfl rfl ?_
      by_cases c5 : p1 = (2 : Int32)
      · refine g_icmpN (pc' := 22) C X0 d1_19 (teq c5).2 rfl ?_
        refine g_getS (pc' := 25) C X0 d1_22 (host := "") (Or.inl (hw _ (List.mem_of_getElem? (i := 44) rfl))) Via.refl e0 S_w_RSA_SHA384 rfl (fun T6 X6 e6 => ?_)
        exact g_retA C X6 rfl rfl rfl d1_25 (by decide) (by decide) ⟨congrArg (fun z => some (Value.ref z)) (F1_l2 p1 w_RSA_SHA1 w_RSA_SHA512 w_RSA_SHA384 w_RSA_SHA256 c1 c3 c5).symm, N0, e6⟩
      · refine g_icmpY (pc' := 26) C X0 d1_19 (feq c5).2 (by decide) (by decide) ?_
        refine g_getS (pc' := 29) C X0 d1_26 (host := "") (Or.inl (hw _ (List.mem_of_getElem? (i := 42) rfl))) Via.refl e0 S_w_RSA_SHA512 rfl (fun T7 X7 e7 => ?_)
        exact g_retA C X7 rfl rfl rfl d1_29 (by decide) (by decide) ⟨congrArg (fun z => some (Value.ref z)) (F1_l3 p1 w_RSA_SHA1 w_RSA_SHA512 w_RSA_SHA384 w_RSA_SHA256 c1 c3 c5).symm, N0, e7⟩
theorem d2_0 : decode prog_28_method_7_code 0 = .ok (.aload_n 0, 1) := by decide +kernel
theorem d2_1 : decode prog_28_method_7_code 1 = .ok (.getstatic 3, 3) := by decide +kernel
theorem d2_4 : decode prog_28_method_7_code 4 = .ok (.if_acmp .ne 7, 3) := by decide +kernel
theorem d2_7 : decode prog_28_method_7_code 7 = .ok (.iconst 1, 1) := by decide +kernel
theorem d2_8 : decode prog_28_method_7_code 8 = .ok (.goto 4, 3) := by decide +kernel
theorem d2_12 : decode prog_28_method_7_code 12 = .ok (.ireturn, 1) := by decide +kernel
theorem d2_11 : decode prog_28_method_7_code 11 = .ok (.iconst 0, 1) := by decide +kernel
def F2 (a1 : Addr) (w_RSA_SHA1 : Addr) : Int32 := (if a1 = w_RSA_SHA1 then (1 : Int32) else (0 : Int32))
theorem F2_l0 (a1 : Addr) (w_RSA_SHA1 : Addr) (h0 : a1 = w_RSA_SHA1) : F2 a1 w_RSA_SHA1 = (1 : Int32) := by
  unfold F2; rw [if_pos h0]
theorem F2_l1 (a1 : Addr) (w_RSA_SHA1 : Addr) (h0 : ¬ (a1 = w_RSA_SHA1)) : F2 a1 w_RSA_SHA1 = (0 : Int32) := by
  unfold F2; rw [if_neg h0]
theorem ef_2 (m : MethodId) (a1 : Addr) : entryFrame m #[(.ref a1)] 1 = mkF m 0 #[.val (.ref a1)] [] := by first | (simp [entryFrame, mkF, argsToLocals, Value.category]; done) | rfl
def Q_2 (Z : State) (a1 : Addr) (w_RSA_SHA1 : Addr) (w_RSA_SHA512 : Addr) (w_RSA_SHA384 : Addr) (w_RSA_SHA256 : Addr) (w_code_RSA_SHA1 : Addr) (w_value_code_RSA_SHA1 : Addr) (w_code_RSA_SHA512 : Addr) (w_value_code_RSA_SHA512 : Addr) (w_code_RSA_SHA384 : Addr) (w_value_code_RSA_SHA384 : Addr) (w_code_RSA_SHA256 : Addr) (w_value_code_RSA_SHA256 : Addr) (k_value_code_RSA_SHA1 : ClassId) (k_value_code_RSA_SHA512 : ClassId) (k_value_code_RSA_SHA384 : ClassId) (k_value_code_RSA_SHA256 : ClassId) (cs : Int32) (h0 : Heap) (n0 : Nat) (v : Option Value) (h : Heap) (L : List Loc) : Prop := v = some (.int (F2 a1 w_RSA_SHA1)) ∧ Fr n0 L ∧ h = h0
set_option maxRecDepth 65536 in
set_option maxHeartbeats 40000000 in
theorem rm2 (l : Launch) (Z : State) (a0 : Array Value) (hw : ∀ d ∈ tables_1, d.before a0 Z = true) (ws : List Jvm.Cond) (a1 : Addr) (w_RSA_SHA1 : Addr) (w_RSA_SHA512 : Addr) (w_RSA_SHA384 : Addr) (w_RSA_SHA256 : Addr) (w_code_RSA_SHA1 : Addr) (w_value_code_RSA_SHA1 : Addr) (w_code_RSA_SHA512 : Addr) (w_value_code_RSA_SHA512 : Addr) (w_code_RSA_SHA384 : Addr) (w_value_code_RSA_SHA384 : Addr) (w_code_RSA_SHA256 : Addr) (w_value_code_RSA_SHA256 : Addr) (k_value_code_RSA_SHA1 : ClassId) (k_value_code_RSA_SHA512 : ClassId) (k_value_code_RSA_SHA384 : ClassId) (k_value_code_RSA_SHA256 : ClassId) (cs : Int32) (h0 : Heap) (n0 : Nat) (hF : FX Z h0 w_RSA_SHA1 w_RSA_SHA512 w_RSA_SHA384 w_RSA_SHA256 w_code_RSA_SHA1 w_value_code_RSA_SHA1 w_code_RSA_SHA512 w_value_code_RSA_SHA512 w_code_RSA_SHA384 w_value_code_RSA_SHA384 w_code_RSA_SHA256 w_value_code_RSA_SHA256 k_value_code_RSA_SHA1 k_value_code_RSA_SHA512 k_value_code_RSA_SHA384 k_value_code_RSA_SHA256 cs) :
    MetFree l (⟨"org/vouchsafe/SignatureAlgorithm", "sha1", "()Z"⟩ : MethodName) (head1 (Jvm.Cond.code (⟨"org/vouchsafe/SignatureAlgorithm", "sha1", "()Z"⟩ : MethodName) prog_28_method_7_code 1 (some .boolean) :: ws) ({ frames := 0, cells := 0, slots := 0, locals := 0 } : Room)) (fun a U => a = #[(.ref a1)] ∧ Z.Warmed39 U.vm ∧ U.heap = h0) (fun _ _ _ _ _ => True) (fun _ U o U' => ∃ v L, o = .returned v ∧ Q_2 Z a1 w_RSA_SHA1 w_RSA_SHA512 w_RSA_SHA384 w_RSA_SHA256 w_code_RSA_SHA1 w_value_code_RSA_SHA1 w_code_RSA_SHA512 w_value_code_RSA_SHA512 w_code_RSA_SHA384 w_value_code_RSA_SHA384 w_code_RSA_SHA256 w_value_code_RSA_SHA256 k_value_code_RSA_SHA1 k_value_code_RSA_SHA512 k_value_code_RSA_SHA384 k_value_code_RSA_SHA256 cs h0 n0 v U'.heap L ∧ FrameEnd U o U' L ({ frames := 0, cells := 0, slots := 0, locals := 0 } : Room).cells ({ frames := 0, cells := 0, slots := 0, locals := 0 } : Room).slots) := by
  refine met_of (Ls := #[.val (.ref a1)]) (plainFor_of_name (by first | (simp [plainName, overriddenIn]; done) | decide +kernel)) (fun m => ef_2 m a1) ?_
  intro p e s m below meth c T0 C X0 e0
  obtain ⟨S_w_RSA_SHA1, S_w_RSA_SHA512, S_w_RSA_SHA384, S_w_RSA_SHA256, E_w_RSA_SHA1, F_w_code_RSA_SHA1, E_w_code_RSA_SHA1, F_coder_w_code_RSA_SHA1, F_w_value_code_RSA_SHA1, E_w_RSA_SHA512, F_ordinal_w_RSA_SHA512, F_ordinal_w_RSA_SHA1, F_w_code_RSA_SHA512, E_w_code_RSA_SHA512, F_coder_w_code_RSA_SHA512, F_w_value_code_RSA_SHA512, E_w_RSA_SHA384, F_ordinal_w_RSA_SHA384, F_w_code_RSA_SHA384, E_w_code_RSA_SHA384, F_coder_w_code_RSA_SHA384, F_w_value_code_RSA_SHA384, E_w_RSA_SHA256, F_ordinal_w_RSA_SHA256, F_w_code_RSA_SHA256, E_w_code_RSA_SHA256, F_coder_w_code_RSA_SHA256, F_w_value_code_RSA_SHA256, V_w_value_code_RSA_SHA1, V_w_value_code_RSA_SHA512, V_w_value_code_RSA_SHA384, V_w_value_code_RSA_SHA256, S_cs⟩ := id hF
  have N0 := Fr.nil n0
  refine g_aloadN (pc' := 1) C X0 d2_0 rfl rfl rfl ?_
  refine g_getS (pc' := 4) C X0 d2_1 (host := "") (Or.inl (hw _ (List.mem_of_getElem? (i := 12) rfl))) Via.refl e0 S_w_RSA_SHA1 rfl (fun T1 X1 e1 => ?_)
  by_cases c2 : a1 = w_RSA_SHA1
  · refine g_acmp (pc' := 7) (same := true) C X1 d2_4 rfl rfl (decide_eq_true (congrArg Value.ref c2)) (by decide) (by decide) ?_
    refine g_iconst (pc' := 8) (v := (1 : Int32)) C X1 d2_7 rfl rfl ?_
    refine g_goto (pc' := 12) C X1 d2_8 (by decide) (by decide) ?_
    exact g_retN C X1 (by simp) d2_12 (by decide) (by decide) ⟨congrArg (fun z => some (Value.int z)) (F2_l0 a1 w_RSA_SHA1 c2).symm, N0, e1⟩
  · refine g_acmp (pc' := 11) (same := false) C X1 d2_4 rfl rfl (decide_eq_false fun q => c2 (Value.ref.inj q)) (by decide) (by decide) ?_
    refine g_iconst (pc' := 12) (v := (0 : Int32)) C X1 d2_11 rfl rfl ?_
    exact g_retN C X1 (by simp) d2_12 (by decide) (by decide) ⟨congrArg (fun z => some (Value.int z)) (F2_l1 a1 w_RSA_SHA1 c2).symm, N0, e1⟩
theorem d3_0 : decode prog_28_method_4_code 0 = .ok (.aload_n 0, 1) := by decide +kernel
theorem d3_1 : decode prog_28_method_4_code 1 = .ok (.getfield 35, 3) := by decide +kernel
theorem d3_4 : decode prog_28_method_4_code 4 = .ok (.areturn, 1) := by decide +kernel
def F3 (wt : Addr) : Addr := wt
theorem F3_l0 (wt : Addr)  : F3 wt = wt := rfl
theorem ef_3 (m : MethodId) (a1 : Addr) : entryFrame m #[(.ref a1)] 1 = mkF m 0 #[.val (.ref a1)] [] := by first | (simp [entryFrame, mkF, argsToLocals, Value.category]; done) | rfl
def Q_3 (Z : State) (a1 : Addr) (wt : Addr) (w_RSA_SHA1 : Addr) (w_RSA_SHA512 : Addr) (w_RSA_SHA384 : Addr) (w_RSA_SHA256 : Addr) (w_code_RSA_SHA1 : Addr) (w_value_code_RSA_SHA1 : Addr) (w_code_RSA_SHA512 : Addr) (w_value_code_RSA_SHA512 : Addr) (w_code_RSA_SHA384 : Addr) (w_value_code_RSA_SHA384 : Addr) (w_code_RSA_SHA256 : Addr) (w_value_code_RSA_SHA256 : Addr) (k_value_code_RSA_SHA1 : ClassId) (k_value_code_RSA_SHA512 : ClassId) (k_value_code_RSA_SHA384 : ClassId) (k_value_code_RSA_SHA256 : ClassId) (cs : Int32) (h0 : Heap) (n0 : Nat) (v : Option Value) (h : Heap) (L : List Loc) : Prop := v = some (.ref (F3 wt)) ∧ Fr n0 L ∧ h = h0
set_option maxRecDepth 65536 in
set_option maxHeartbeats 40000000 in
theorem rm3 (l : Launch) (Z : State) (a0 : Array Value) (hw : ∀ d ∈ tables_1, d.before a0 Z = true) (ws : List Jvm.Cond) (a1 : Addr) (wt : Addr) (w_RSA_SHA1 : Addr) (w_RSA_SHA512 : Addr) (w_RSA_SHA384 : Addr) (w_RSA_SHA256 : Addr) (w_code_RSA_SHA1 : Addr) (w_value_code_RSA_SHA1 : Addr) (w_code_RSA_SHA512 : Addr) (w_value_code_RSA_SHA512 : Addr) (w_code_RSA_SHA384 : Addr) (w_value_code_RSA_SHA384 : Addr) (w_code_RSA_SHA256 : Addr) (w_value_code_RSA_SHA256 : Addr) (k_value_code_RSA_SHA1 : ClassId) (k_value_code_RSA_SHA512 : ClassId) (k_value_code_RSA_SHA384 : ClassId) (k_value_code_RSA_SHA256 : ClassId) (cs : Int32) (h0 : Heap) (n0 : Nat) (hF : FX Z h0 w_RSA_SHA1 w_RSA_SHA512 w_RSA_SHA384 w_RSA_SHA256 w_code_RSA_SHA1 w_value_code_RSA_SHA1 w_code_RSA_SHA512 w_value_code_RSA_SHA512 w_code_RSA_SHA384 w_value_code_RSA_SHA384 w_code_RSA_SHA256 w_value_code_RSA_SHA256 k_value_code_RSA_SHA1 k_value_code_RSA_SHA512 k_value_code_RSA_SHA384 k_value_code_RSA_SHA256 cs) (Fc : Fld Z h0 a1 "org/vouchsafe/SignatureAlgorithm" "code" "Ljava/lang/String;" (.ref wt)) :
    MetFree l (⟨"org/vouchsafe/SignatureAlgorithm", "code", "()Ljava/lang/String;"⟩ : MethodName) (head1 (Jvm.Cond.code (⟨"org/vouchsafe/SignatureAlgorithm", "code", "()Ljava/lang/String;"⟩ : MethodName) prog_28_method_4_code 1 (some (.object "java/lang/String")) :: ws) ({ frames := 0, cells := 0, slots := 0, locals := 0 } : Room)) (fun a U => a = #[(.ref a1)] ∧ Z.Warmed39 U.vm ∧ U.heap = h0) (fun _ _ _ _ _ => True) (fun _ U o U' => ∃ v L, o = .returned v ∧ Q_3 Z a1 wt w_RSA_SHA1 w_RSA_SHA512 w_RSA_SHA384 w_RSA_SHA256 w_code_RSA_SHA1 w_value_code_RSA_SHA1 w_code_RSA_SHA512 w_value_code_RSA_SHA512 w_code_RSA_SHA384 w_value_code_RSA_SHA384 w_code_RSA_SHA256 w_value_code_RSA_SHA256 k_value_code_RSA_SHA1 k_value_code_RSA_SHA512 k_value_code_RSA_SHA384 k_value_code_RSA_SHA256 cs h0 n0 v U'.heap L ∧ FrameEnd U o U' L ({ frames := 0, cells := 0, slots := 0, locals := 0 } : Room).cells ({ frames := 0, cells := 0, slots := 0, locals := 0 } : Room).slots) := by
  refine met_of (Ls := #[.val (.ref a1)]) (plainFor_of_name (by first | (simp [plainName, overriddenIn]; done) | decide +kernel)) (fun m => ef_3 m a1) ?_
  intro p e s m below meth c T0 C X0 e0
  obtain ⟨S_w_RSA_SHA1, S_w_RSA_SHA512, S_w_RSA_SHA384, S_w_RSA_SHA256, E_w_RSA_SHA1, F_w_code_RSA_SHA1, E_w_code_RSA_SHA1, F_coder_w_code_RSA_SHA1, F_w_value_code_RSA_SHA1, E_w_RSA_SHA512, F_ordinal_w_RSA_SHA512, F_ordinal_w_RSA_SHA1, F_w_code_RSA_SHA512, E_w_code_RSA_SHA512, F_coder_w_code_RSA_SHA512, F_w_value_code_RSA_SHA512, E_w_RSA_SHA384, F_ordinal_w_RSA_SHA384, F_w_code_RSA_SHA384, E_w_code_RSA_SHA384, F_coder_w_code_RSA_SHA384, F_w_value_code_RSA_SHA384, E_w_RSA_SHA256, F_ordinal_w_RSA_SHA256, F_w_code_RSA_SHA256, E_w_code_RSA_SHA256, F_coder_w_code_RSA_SHA256, F_w_value_code_RSA_SHA256, V_w_value_code_RSA_SHA1, V_w_value_code_RSA_SHA512, V_w_value_code_RSA_SHA384, V_w_value_code_RSA_SHA256, S_cs⟩ := id hF
  have N0 := Fr.nil n0
  refine g_aloadN (pc' := 1) C X0 d3_0 rfl rfl rfl ?_
  refine g_getF (pc' := 4) C X0 d3_1 (host := "") (Or.inl (hw _ (List.mem_of_getElem? (i := 18) rfl))) Via.refl e0 Fc rfl (fun T1 X1 e1 => ?_)
  exact g_retA C X1 rfl rfl rfl d3_4 (by decide) (by decide) ⟨congrArg (fun z => some (Value.ref z)) (F3_l0 wt ).symm, N0, e1⟩
theorem d5_0 : decode jdk_43_method_13_code 0 = .ok (.aload_n 0, 1) := by decide +kernel
theorem d5_1 : decode jdk_43_method_13_code 1 = .ok (.arraylength, 1) := by decide +kernel
theorem d5_2 : decode jdk_43_method_13_code 2 = .ok (.aload_n 1, 1) := by decide +kernel
theorem d5_3 : decode jdk_43_method_13_code 3 = .ok (.arraylength, 1) := by decide +kernel
theorem d5_4 : decode jdk_43_method_13_code 4 = .ok (.if_icmp .ne 30, 3) := by decide +kernel
theorem d5_7 : decode jdk_43_method_13_code 7 = .ok (.iconst 0, 1) := by decide +kernel
theorem d5_8 : decode jdk_43_method_13_code 8 = .ok (.istore_n 2, 1) := by decide +kernel
theorem d5_9 : decode jdk_43_method_13_code 9 = .ok (.iload_n 2, 1) := by decide +kernel
theorem d5_10 : decode jdk_43_method_13_code 10 = .ok (.aload_n 0, 1) := by decide +kernel
theorem d5_11 : decode jdk_43_method_13_code 11 = .ok (.arraylength, 1) := by decide +kernel
theorem d5_12 : decode jdk_43_method_13_code 12 = .ok (.if_icmp .ge 20, 3) := by decide +kernel
theorem d5_15 : decode jdk_43_method_13_code 15 = .ok (.aload_n 0, 1) := by decide +kernel
theorem d5_16 : decode jdk_43_method_13_code 16 = .ok (.iload_n 2, 1) := by decide +kernel
theorem d5_17 : decode jdk_43_method_13_code 17 = .ok (.baload, 1) := by decide +kernel
theorem d5_18 : decode jdk_43_method_13_code 18 = .ok (.aload_n 1, 1) := by decide +kernel
theorem d5_19 : decode jdk_43_method_13_code 19 = .ok (.iload_n 2, 1) := by decide +kernel
theorem d5_20 : decode jdk_43_method_13_code 20 = .ok (.baload, 1) := by decide +kernel
theorem d5_21 : decode jdk_43_method_13_code 21 = .ok (.if_icmp .eq 5, 3) := by decide +kernel
theorem d5_26 : decode jdk_43_method_13_code 26 = .ok (.iinc 2 1, 3) := by decide +kernel
theorem d5_29 : decode jdk_43_method_13_code 29 = .ok (.goto (-20), 3) := by decide +kernel
theorem d5_32 : decode jdk_43_method_13_code 32 = .ok (.iconst 1, 1) := by decide +kernel
theorem d5_33 : decode jdk_43_method_13_code 33 = .ok (.ireturn, 1) := by decide +kernel
def F5e  : Int32 := (1 : Int32)
theorem F5e_l0   : F5e  = (1 : Int32) := rfl
theorem ef_5e (m : MethodId) (a1 : Addr) (a2 : Addr) : entryFrame m #[(.ref a1), (.ref a2)] 3 = mkF m 0 #[.val (.ref a1), .val (.ref a2), .unset] [] := by first | (simp [entryFrame, mkF, argsToLocals, Value.category]; done) | rfl
def Q_5e (Z : State) (a1 : Addr) (a2 : Addr) (k1 : ClassId) (k2 : ClassId) (w_RSA_SHA1 : Addr) (w_RSA_SHA512 : Addr) (w_RSA_SHA384 : Addr) (w_RSA_SHA256 : Addr) (w_code_RSA_SHA1 : Addr) (w_value_code_RSA_SHA1 : Addr) (w_code_RSA_SHA512 : Addr) (w_value_code_RSA_SHA512 : Addr) (w_code_RSA_SHA384 : Addr) (w_value_code_RSA_SHA384 : Addr) (w_code_RSA_SHA256 : Addr) (w_value_code_RSA_SHA256 : Addr) (k_value_code_RSA_SHA1 : ClassId) (k_value_code_RSA_SHA512 : ClassId) (k_value_code_RSA_SHA384 : ClassId) (k_value_code_RSA_SHA256 : ClassId) (cs : Int32) (h0 : Heap) (n0 : Nat) (v : Option Value) (h : Heap) (L : List Loc) : Prop := v = some (.int (F5e )) ∧ Fr n0 L ∧ h = h0
set_option maxRecDepth 65536 in
set_option maxHeartbeats 40000000 in
theorem rm5e (l : Launch) (Z : State) (a0 : Array Value) (hw : ∀ d ∈ tables_1, d.before a0 Z = true) (ws : List Jvm.Cond) (a1 : Addr) (a2 : Addr) (k1 : ClassId) (k2 : ClassId) (w_RSA_SHA1 : Addr) (w_RSA_SHA512 : Addr) (w_RSA_SHA384 : Addr) (w_RSA_SHA256 : Addr) (w_code_RSA_SHA1 : Addr) (w_value_code_RSA_SHA1 : Addr) (w_code_RSA_SHA512 : Addr) (w_value_code_RSA_SHA512 : Addr) (w_code_RSA_SHA384 : Addr) (w_value_code_RSA_SHA384 : Addr) (w_code_RSA_SHA256 : Addr) (w_value_code_RSA_SHA256 : Addr) (k_value_code_RSA_SHA1 : ClassId) (k_value_code_RSA_SHA512 : ClassId) (k_value_code_RSA_SHA384 : ClassId) (k_value_code_RSA_SHA256 : ClassId) (cs : Int32) (h0 : Heap) (n0 : Nat) (hF : FX Z h0 w_RSA_SHA1 w_RSA_SHA512 w_RSA_SHA384 w_RSA_SHA256 w_code_RSA_SHA1 w_value_code_RSA_SHA1 w_code_RSA_SHA512 w_value_code_RSA_SHA512 w_code_RSA_SHA384 w_value_code_RSA_SHA384 w_code_RSA_SHA256 w_value_code_RSA_SHA256 k_value_code_RSA_SHA1 k_value_code_RSA_SHA512 k_value_code_RSA_SHA384 k_value_code_RSA_SHA256 cs) (V1 : Arv Z h0 a1 k1 .byte (8 : Int32) [(.int (114 : Int32)), (.int (115 : Int32)), (.int (97 : Int32)), (.int (45 : Int32)), (.int (115 : Int32)), (.int (104 : Int32)), (.int (97 : Int32)), (.int (49 : Int32))] (.int (0 : Int32))) (V2 : Arv Z h0 a2 k2 .byte (8 : Int32) [(.int (114 : Int32)), (.int (115 : Int32)), (.int (97 : Int32)), (.int (45 : Int32)), (.int (115 : Int32)), (.int (104 : Int32)), (.int (97 : Int32)), (.int (49 : Int32))] (.int (0 : Int32))) :
    MetFree l (⟨"java/lang/StringLatin1", "equals", "([B[B)Z"⟩ : MethodName) (head1 (Jvm.Cond.code (⟨"java/lang/StringLatin1", "equals", "([B[B)Z"⟩ : MethodName) jdk_43_method_13_code 3 (some .boolean) :: ws) ({ frames := 0, cells := 0, slots := 0, locals := 0 } : Room)) (fun a U => a = #[(.ref a1), (.ref a2)] ∧ Z.Warmed39 U.vm ∧ U.heap = h0) (fun _ _ _ _ _ => True) (fun _ U o U' => ∃ v L, o = .returned v ∧ Q_5e Z a1 a2 k1 k2 w_RSA_SHA1 w_RSA_SHA512 w_RSA_SHA384 w_RSA_SHA256 w_code_RSA_SHA1 w_value_code_RSA_SHA1 w_code_RSA_SHA512 w_value_code_RSA_SHA512 w_code_RSA_SHA384 w_value_code_RSA_SHA384 w_code_RSA_SHA256 w_value_code_RSA_SHA256 k_value_code_RSA_SHA1 k_value_code_RSA_SHA512 k_value_code_RSA_SHA384 k_value_code_RSA_SHA256 cs h0 n0 v U'.heap L ∧ FrameEnd U o U' L ({ frames := 0, cells := 0, slots := 0, locals := 0 } : Room).cells ({ frames := 0, cells := 0, slots := 0, locals := 0 } : Room).slots) := by
  refine met_of (Ls := #[.val (.ref a1), .val (.ref a2), .unset]) (plainFor_of_name (by first | (simp [plainName, overriddenIn]; done) | decide +kernel)) (fun m => ef_5e m a1 a2) ?_
  intro p e s m below meth c T0 C X0 e0
  obtain ⟨S_w_RSA_SHA1, S_w_RSA_SHA512, S_w_RSA_SHA384, S_w_RSA_SHA256, E_w_RSA_SHA1, F_w_code_RSA_SHA1, E_w_code_RSA_SHA1, F_coder_w_code_RSA_SHA1, F_w_value_code_RSA_SHA1, E_w_RSA_SHA512, F_ordinal_w_RSA_SHA512, F_ordinal_w_RSA_SHA1, F_w_code_RSA_SHA512, E_w_code_RSA_SHA512, F_coder_w_code_RSA_SHA512, F_w_value_code_RSA_SHA512, E_w_RSA_SHA384, F_ordinal_w_RSA_SHA384, F_w_code_RSA_SHA384, E_w_code_RSA_SHA384, F_coder_w_code_RSA_SHA384, F_w_value_code_RSA_SHA384, E_w_RSA_SHA256, F_ordinal_w_RSA_SHA256, F_w_code_RSA_SHA256, E_w_code_RSA_SHA256, F_coder_w_code_RSA_SHA256, F_w_value_code_RSA_SHA256, V_w_value_code_RSA_SHA1, V_w_value_code_RSA_SHA512, V_w_value_code_RSA_SHA384, V_w_value_code_RSA_SHA256, S_cs⟩ := id hF
  have N0 := Fr.nil n0
  refine g_aloadN (pc' := 1) C X0 d5_0 rfl rfl rfl ?_
  refine g_len (pc' := 2) C X0 d5_1 e0 V1 rfl ?_
  refine g_aloadN (pc' := 3) C X0 d5_2 rfl rfl rfl ?_
  refine g_len (pc' := 4) C X0 d5_3 e0 V2 rfl ?_
  refine g_icmpN (pc' := 7) C X0 d5_4 (teq (show (8 : Int32) = (8 : Int32) from (by decide))).2 rfl ?_
  refine g_iconst (pc' := 8) (v := (0 : Int32)) C X0 d5_7 rfl rfl ?_
  refine g_istoreN (pc' := 9) (Ls' := #[.val (.ref a1), .val (.ref a2), .val (.int (0 : Int32))]) C X0 d5_8 rfl rfl ?_
  refine g_iloadN (pc' := 10) C X0 d5_9 rfl rfl ?_
  refine g_aloadN (pc' := 11) C X0 d5_10 rfl rfl rfl ?_
  refine g_len (pc' := 12) C X0 d5_11 e0 V1 rfl ?_
  refine g_icmpN (pc' := 15) C X0 d5_12 (tlt (show (0 : Int32) < (8 : Int32) from (by decide))).2.1 rfl ?_
  refine g_aloadN (pc' := 16) C X0 d5_15 rfl rfl rfl ?_
  refine g_iloadN (pc' := 17) C X0 d5_16 rfl rfl ?_
  refine g_ldB (pc' := 18) (v := (.int (114 : Int32))) C X0 d5_17 e0 V1 ⟨by decide, by decide⟩ rfl rfl ?_
  refine g_aloadN (pc' := 19) C X0 d5_18 rfl rfl rfl ?_
  refine g_iloadN (pc' := 20) C X0 d5_19 rfl rfl ?_
  refine g_ldB (pc' := 21) (v := (.int (114 : Int32))) C X0 d5_20 e0 V2 ⟨by decide, by decide⟩ rfl rfl ?_
  refine g_icmpY (pc' := 26) C X0 d5_21 (teq (show (114 : Int32) = (114 : Int32) from (by decide))).1 (by decide) (by decide) ?_
  refine g_iinc (pc' := 29) (Ls' := #[.val (.ref a1), .val (.ref a2), .val (.int ((0 : Int32) + (1 : Int32)))]) C X0 d5_26 rfl rfl rfl ?_
  refine g_goto (pc' := 9) C X0 d5_29 (by decide) (by decide) ?_
  refine g_iloadN (pc' := 10) C X0 d5_9 rfl rfl ?_
  refine g_aloadN (pc' := 11) C X0 d5_10 rfl rfl rfl ?_
  refine g_len (pc' := 12) C X0 d5_11 e0 V1 rfl ?_
  refine g_icmpN (pc' := 15) C X0 d5_12 (tlt (show ((0 : Int32) + (1 : Int32)) < (8 : Int32) from (by decide))).2.1 rfl ?_
  refine g_aloadN (pc' := 16) C X0 d5_15 rfl rfl rfl ?_
  refine g_iloadN (pc' := 17) C X0 d5_16 rfl rfl ?_
  refine g_ldB (pc' := 18) (v := (.int (115 : Int32))) C X0 d5_17 e0 V1 ⟨by decide, by decide⟩ rfl rfl ?_
  refine g_aloadN (pc' := 19) C X0 d5_18 rfl rfl rfl ?_
  refine g_iloadN (pc' := 20) C X0 d5_19 rfl rfl ?_
  refine g_ldB (pc' := 21) (v := (.int (115 : Int32))) C X0 d5_20 e0 V2 ⟨by decide, by decide⟩ rfl rfl ?_
  refine g_icmpY (pc' := 26) C X0 d5_21 (teq (show (115 : Int32) = (115 : Int32) from (by decide))).1 (by decide) (by decide) ?_
  refine g_iinc (pc' := 29) (Ls' := #[.val (.ref a1), .val (.ref a2), .val (.int (((0 : Int32) + (1 : Int32)) + (1 : Int32)))]) C X0 d5_26 rfl rfl rfl ?_
  refine g_goto (pc' := 9) C X0 d5_29 (by decide) (by decide) ?_
  refine g_iloadN (pc' := 10) C X0 d5_9 rfl rfl ?_
  refine g_aloadN (pc' := 11) C X0 d5_10 rfl rfl rfl ?_
  refine g_len (pc' := 12) C X0 d5_11 e0 V1 rfl ?_
  refine g_icmpN (pc' := 15) C X0 d5_12 (tlt (show (((0 : Int32) + (1 : Int32)) + (1 : Int32)) < (8 : Int32) from (by decide))).2.1 rfl ?_
  refine g_aloadN (pc' := 16) C X0 d5_15 rfl rfl rfl ?_
  refine g_iloadN (pc' := 17) C X0 d5_16 rfl rfl ?_
  refine g_ldB (pc' := 18) (v := (.int (97 : Int32))) C X0 d5_17 e0 V1 ⟨by decide, by decide⟩ rfl rfl ?_
  refine g_aloadN (pc' := 19) C X0 d5_18 rfl rfl rfl ?_
  refine g_iloadN (pc' := 20) C X0 d5_19 rfl rfl ?_
  refine g_ldB (pc' := 21) (v := (.int (97 : Int32))) C X0 d5_20 e0 V2 ⟨by decide, by decide⟩ rfl rfl ?_
  refine g_icmpY (pc' := 26) C X0 d5_21 (teq (show (97 : Int32) = (97 : Int32) from (by decide))).1 (by decide) (by decide) ?_
  refine g_iinc (pc' := 29) (Ls' := #[.val (.ref a1), .val (.ref a2), .val (.int ((((0 : Int32) + (1 : Int32)) + (1 : Int32)) + (1 : Int32)))]) C X0 d5_26 rfl rfl rfl ?_
  refine g_goto (pc' := 9) C X0 d5_29 (by decide) (by decide) ?_
  refine g_iloadN (pc' := 10) C X0 d5_9 rfl rfl ?_
  refine g_aloadN (pc' := 11) C X0 d5_10 rfl rfl rfl ?_
  refine g_len (pc' := 12) C X0 d5_11 e0 V1 rfl ?_
  refine g_icmpN (pc' := 15) C X0 d5_12 (tlt (show ((((0 : Int32) + (1 : Int32)) + (1 : Int32)) + (1 : Int32)) < (8 : Int32) from (by decide))).2.1 rfl ?_
  refine g_aloadN (pc' := 16) C X0 d5_15 rfl rfl rfl ?_
  refine g_iloadN (pc' := 17) C X0 d5_16 rfl rfl ?_
  refine g_ldB (pc' := 18) (v := (.int (45 : Int32))) C X0 d5_17 e0 V1 ⟨by decide, by decide⟩ rfl rfl ?_
  refine g_aloadN (pc' := 19) C X0 d5_18 rfl rfl rfl ?_
  refine g_iloadN (pc' := 20) C X0 d5_19 rfl rfl ?_
  refine g_ldB (pc' := 21) (v := (.int (45 : Int32))) C X0 d5_20 e0 V2 ⟨by decide, by decide⟩ rfl rfl ?_
  refine g_icmpY (pc' := 26) C X0 d5_21 (teq (show (45 : Int32) = (45 : Int32) from (by decide))).1 (by decide) (by decide) ?_
  refine g_iinc (pc' := 29) (Ls' := #[.val (.ref a1), .val (.ref a2), .val (.int (((((0 : Int32) + (1 : Int32)) + (1 : Int32)) + (1 : Int32)) + (1 : Int32)))]) C X0 d5_26 rfl rfl rfl ?_
  refine g_goto (pc' := 9) C X0 d5_29 (by decide) (by decide) ?_
  refine g_iloadN (pc' := 10) C X0 d5_9 rfl rfl ?_
  refine g_aloadN (pc' := 11) C X0 d5_10 rfl rfl rfl ?_
  refine g_len (pc' := 12) C X0 d5_11 e0 V1 rfl ?_
  refine g_icmpN (pc' := 15) C X0 d5_12 (tlt (show (((((0 : Int32) + (1 : Int32)) + (1 : Int32)) + (1 : Int32)) + (1 : Int32)) < (8 : Int32) from (by decide))).2.1 rfl ?_
  refine g_aloadN (pc' := 16) C X0 d5_15 rfl rfl rfl ?_
  refine g_iloadN (pc' := 17) C X0 d5_16 rfl rfl ?_
  refine g_ldB (pc' := 18) (v := (.int (115 : Int32))) C X0 d5_17 e0 V1 ⟨by decide, by decide⟩ rfl rfl ?_
  refine g_aloadN (pc' := 19) C X0 d5_18 rfl rfl rfl ?_
  refine g_iloadN (pc' := 20) C X0 d5_19 rfl rfl ?_
  refine g_ldB (pc' := 21) (v := (.int (115 : Int32))) C X0 d5_20 e0 V2 ⟨by decide, by decide⟩ rfl rfl ?_
  refine g_icmpY (pc' := 26) C X0 d5_21 (teq (show (115 : Int32) = (115 : Int32) from (by decide))).1 (by decide) (by decide) ?_
  refine g_iinc (pc' := 29) (Ls' := #[.val (.ref a1), .val (.ref a2), .val (.int ((((((0 : Int32) + (1 : Int32)) + (1 : Int32)) + (1 : Int32)) + (1 : Int32)) + (1 : Int32)))]) C X0 d5_26 rfl rfl rfl ?_
  refine g_goto (pc' := 9) C X0 d5_29 (by decide) (by decide) ?_
  refine g_iloadN (pc' := 10) C X0 d5_9 rfl rfl ?_
  refine g_aloadN (pc' := 11) C X0 d5_10 rfl rfl rfl ?_
  refine g_len (pc' := 12) C X0 d5_11 e0 V1 rfl ?_
  refine g_icmpN (pc' := 15) C X0 d5_12 (tlt (show ((((((0 : Int32) + (1 : Int32)) + (1 : Int32)) + (1 : Int32)) + (1 : Int32)) + (1 : Int32)) < (8 : Int32) from (by decide))).2.1 rfl ?_
  refine g_aloadN (pc' := 16) C X0 d5_15 rfl rfl rfl ?_
  refine g_iloadN (pc' := 17) C X0 d5_16 rfl rfl ?_
  refine g_ldB (pc' := 18) (v := (.int (104 : Int32))) C X0 d5_17 e0 V1 ⟨by decide, by decide⟩ rfl rfl ?_
  refine g_aloadN (pc' := 19) C X0 d5_18 rfl rfl rfl ?_
  refine g_iloadN (pc' := 20) C X0 d5_19 rfl rfl ?_
  refine g_ldB (pc' := 21) (v := (.int (104 : Int32))) C X0 d5_20 e0 V2 ⟨by decide, by decide⟩ rfl rfl ?_
  refine g_icmpY (pc' := 26) C X0 d5_21 (teq (show (104 : Int32) = (104 : Int32) from (by decide))).1 (by decide) (by decide) ?_
  refine g_iinc (pc' := 29) (Ls' := #[.val (.ref a1), .val (.ref a2), .val (.int (((((((0 : Int32) + (1 : Int32)) + (1 : Int32)) + (1 : Int32)) + (1 : Int32)) + (1 : Int32)) + (1 : Int32)))]) C X0 d5_26 rfl rfl rfl ?_
  refine g_goto (pc' := 9) C X0 d5_29 (by decide) (by decide) ?_
  refine g_iloadN (pc' := 10) C X0 d5_9 rfl rfl ?_
  refine g_aloadN (pc' := 11) C X0 d5_10 rfl rfl rfl ?_
  refine g_len (pc' := 12) C X0 d5_11 e0 V1 rfl ?_
  refine g_icmpN (pc' := 15) C X0 d5_12 (tlt (show (((((((0 : Int32) + (1 : Int32)) + (1 : Int32)) + (1 : Int32)) + (1 : Int32)) + (1 : Int32)) + (1 : Int32)) < (8 : Int32) from (by decide))).2.1 rfl ?_
  refine g_aloadN (pc' := 16) C X0 d5_15 rfl rfl rfl ?_
  refine g_iloadN (pc' := 17) C X0 d5_16 rfl rfl ?_
  refine g_ldB (pc' := 18) (v := (.int (97 : Int32))) C X0 d5_17 e0 V1 ⟨by decide, by decide⟩ rfl rfl ?_
  refine g_aloadN (pc' := 19) C X0 d5_18 rfl rfl rfl ?_
  refine g_iloadN (pc' := 20) C X0 d5_19 rfl rfl ?_
  refine g_ldB (pc' := 21) (v := (.int (97 : Int32))) C X0 d5_20 e0 V2 ⟨by decide, by decide⟩ rfl rfl ?_
  refine g_icmpY (pc' := 26) C X0 d5_21 (teq (show (97 : Int32) = (97 : Int32) from (by decide))).1 (by decide) (by decide) ?_
  refine g_iinc (pc' := 29) (Ls' := #[.val (.ref a1), .val (.ref a2), .val (.int ((((((((0 : Int32) + (1 : Int32)) + (1 : Int32)) + (1 : Int32)) + (1 : Int32)) + (1 : Int32)) + (1 : Int32)) + (1 : Int32)))]) C X0 d5_26 rfl rfl rfl ?_
  refine g_goto (pc' := 9) C X0 d5_29 (by decide) (by decide) ?_
  refine g_iloadN (pc' := 10) C X0 d5_9 rfl rfl ?_
  refine g_aloadN (pc' := 11) C X0 d5_10 rfl rfl rfl ?_
  refine g_len (pc' := 12) C X0 d5_11 e0 V1 rfl ?_
  refine g_icmpN (pc' := 15) C X0 d5_12 (tlt (show ((((((((0 : Int32) + (1 : Int32)) + (1 : Int32)) + (1 : Int32)) + (1 : Int32)) + (1 : Int32)) + (1 : Int32)) + (1 : Int32)) < (8 : Int32) from (by decide))).2.1 rfl ?_
  refine g_aloadN (pc' := 16) C X0 d5_15 rfl rfl rfl ?_
  refine g_iloadN (pc' := 17) C X0 d5_16 rfl rfl ?_
  refine g_ldB (pc' := 18) (v := (.int (49 : Int32))) C X0 d5_17 e0 V1 ⟨by decide, by decide⟩ rfl rfl ?_
  refine g_aloadN (pc' := 19) C X0 d5_18 rfl rfl rfl ?_
  refine g_iloadN (pc' := 20) C X0 d5_19 rfl rfl ?_
  refine g_ldB (pc' := 21) (v := (.int (49 : Int32))) C X0 d5_20 e0 V2 ⟨by decide, by decide⟩ rfl rfl ?_
  refine g_icmpY (pc' := 26) C X0 d5_21 (teq (show (49 : Int32) = (49 : Int32) from (by decide))).1 (by decide) (by decide) ?_
  refine g_iinc (pc' := 29) (Ls' := #[.val (.ref a1), .val (.ref a2), .val (.int (((((((((0 : Int32) + (1 : Int32)) + (1 : Int32)) + (1 : Int32)) + (1 : Int32)) + (1 : Int32)) + (1 : Int32)) + (1 : Int32)) + (1 : Int32)))]) C X0 d5_26 rfl rfl rfl ?_
  refine g_goto (pc' := 9) C X0 d5_29 (by decide) (by decide) ?_
  refine g_iloadN (pc' := 10) C X0 d5_9 rfl rfl ?_
  refine g_aloadN (pc' := 11) C X0 d5_10 rfl rfl rfl ?_
  refine g_len (pc' := 12) C X0 d5_11 e0 V1 rfl ?_
  refine g_icmpY (pc' := 32) C X0 d5_12 (flt (show ¬ ((((((((((0 : Int32) + (1 : Int32)) + (1 : Int32)) + (1 : Int32)) + (1 : Int32)) + (1 : Int32)) + (1 : Int32)) + (1 : Int32)) + (1 : Int32)) < (8 : Int32)) from (by decide))).2.1 (by decide) (by decide) ?_
  refine g_iconst (pc' := 33) (v := (1 : Int32)) C X0 d5_32 rfl rfl ?_
  exact g_retN C X0 (by simp) d5_33 (by decide) (by decide) ⟨congrArg (fun z => some (Value.int z)) (F5e_l0  ).symm, N0, e0⟩
theorem d5_34 : decode jdk_43_method_13_code 34 = .ok (.iconst 0, 1) := by decide +kernel
theorem d5_35 : decode jdk_43_method_13_code 35 = .ok (.ireturn, 1) := by decide +kernel
def F5n  : Int32 := (0 : Int32)
theorem F5n_l0   : F5n  = (0 : Int32) := rfl
theorem ef_5n (m : MethodId) (a1 : Addr) (a2 : Addr) : entryFrame m #[(.ref a1), (.ref a2)] 3 = mkF m 0 #[.val (.ref a1), .val (.ref a2), .unset] [] := by first | (simp [entryFrame, mkF, argsToLocals, Value.category]; done) | rfl
def Q_5n (Z : State) (a1 : Addr) (a2 : Addr) (k1 : ClassId) (k2 : ClassId) (x0 : Int32) (x1 : Int32) (x2 : Int32) (x3 : Int32) (x4 : Int32) (x5 : Int32) (x6 : Int32) (x7 : Int32) (x8 : Int32) (x9 : Int32) (w_RSA_SHA1 : Addr) (w_RSA_SHA512 : Addr) (w_RSA_SHA384 : Addr) (w_RSA_SHA256 : Addr) (w_code_RSA_SHA1 : Addr) (w_value_code_RSA_SHA1 : Addr) (w_code_RSA_SHA512 : Addr) (w_value_code_RSA_SHA512 : Addr) (w_code_RSA_SHA384 : Addr) (w_value_code_RSA_SHA384 : Addr) (w_code_RSA_SHA256 : Addr) (w_value_code_RSA_SHA256 : Addr) (k_value_code_RSA_SHA1 : ClassId) (k_value_code_RSA_SHA512 : ClassId) (k_value_code_RSA_SHA384 : ClassId) (k_value_code_RSA_SHA256 : ClassId) (cs : Int32) (h0 : Heap) (n0 : Nat) (v : Option Value) (h : Heap) (L : List Loc) : Prop := v = some (.int (F5n )) ∧ Fr n0 L ∧ h = h0
set_option maxRecDepth 65536 in
set_option maxHeartbeats 40000000 in
theorem rm5n (l : Launch) (Z : State) (a0 : Array Value) (hw : ∀ d ∈ tables_1, d.before a0 Z = true) (ws : List Jvm.Cond) (a1 : Addr) (a2 : Addr) (k1 : ClassId) (k2 : ClassId) (x0 : Int32) (x1 : Int32) (x2 : Int32) (x3 : Int32) (x4 : Int32) (x5 : Int32) (x6 : Int32) (x7 : Int32) (x8 : Int32) (x9 : Int32) (w_RSA_SHA1 : Addr) (w_RSA_SHA512 : Addr) (w_RSA_SHA384 : Addr) (w_RSA_SHA256 : Addr) (w_code_RSA_SHA1 : Addr) (w_value_code_RSA_SHA1 : Addr) (w_code_RSA_SHA512 : Addr) (w_value_code_RSA_SHA512 : Addr) (w_code_RSA_SHA384 : Addr) (w_value_code_RSA_SHA384 : Addr) (w_code_RSA_SHA256 : Addr) (w_value_code_RSA_SHA256 : Addr) (k_value_code_RSA_SHA1 : ClassId) (k_value_code_RSA_SHA512 : ClassId) (k_value_code_RSA_SHA384 : ClassId) (k_value_code_RSA_SHA256 : ClassId) (cs : Int32) (h0 : Heap) (n0 : Nat) (hF : FX Z h0 w_RSA_SHA1 w_RSA_SHA512 w_RSA_SHA384 w_RSA_SHA256 w_code_RSA_SHA1 w_value_code_RSA_SHA1 w_code_RSA_SHA512 w_value_code_RSA_SHA512 w_code_RSA_SHA384 w_value_code_RSA_SHA384 w_code_RSA_SHA256 w_value_code_RSA_SHA256 k_value_code_RSA_SHA1 k_value_code_RSA_SHA512 k_value_code_RSA_SHA384 k_value_code_RSA_SHA256 cs) (V1 : Arv Z h0 a1 k1 .byte (10 : Int32) [(.int x0), (.int x1), (.int x2), (.int x3), (.int x4), (.int x5), (.int x6), (.int x7), (.int x8), (.int x9)] (.int (0 : Int32))) (V2 : Arv Z h0 a2 k2 .byte (8 : Int32) [(.int (114 : Int32)), (.int (115 : Int32)), (.int (97 : Int32)), (.int (45 : Int32)), (.int (115 : Int32)), (.int (104 : Int32)), (.int (97 : Int32)), (.int (49 : Int32))] (.int (0 : Int32))) :
    MetFree l (⟨"java/lang/StringLatin1", "equals", "([B[B)Z"⟩ : MethodName) (head1 (Jvm.Cond.code (⟨"java/lang/StringLatin1", "equals", "([B[B)Z"⟩ : MethodName) jdk_43_method_13_code 3 (some .boolean) :: ws) ({ frames := 0, cells := 0, slots := 0, locals := 0 } : Room)) (fun a U => a = #[(.ref a1), (.ref a2)] ∧ Z.Warmed39 U.vm ∧ U.heap = h0) (fun _ _ _ _ _ => True) (fun _ U o U' => ∃ v L, o = .returned v ∧ Q_5n Z a1 a2 k1 k2 x0 x1 x2 x3 x4 x5 x6 x7 x8 x9 w_RSA_SHA1 w_RSA_SHA512 w_RSA_SHA384 w_RSA_SHA256 w_code_RSA_SHA1 w_value_code_RSA_SHA1 w_code_RSA_SHA512 w_value_code_RSA_SHA512 w_code_RSA_SHA384 w_value_code_RSA_SHA384 w_code_RSA_SHA256 w_value_code_RSA_SHA256 k_value_code_RSA_SHA1 k_value_code_RSA_SHA512 k_value_code_RSA_SHA384 k_value_code_RSA_SHA256 cs h0 n0 v U'.heap L ∧ FrameEnd U o U' L ({ frames := 0, cells := 0, slots := 0, locals := 0 } : Room).cells ({ frames := 0, cells := 0, slots := 0, locals := 0 } : Room).slots) := by
  refine met_of (Ls := #[.val (.ref a1), .val (.ref a2), .unset]) (plainFor_of_name (by first | (simp [plainName, overriddenIn]; done) | decide +kernel)) (fun m => ef_5n m a1 a2) ?_
  intro p e s m below meth c T0 C X0 e0
  obtain ⟨S_w_RSA_SHA1, S_w_RSA_SHA512, S_w_RSA_SHA384, S_w_RSA_SHA256, E_w_RSA_SHA1, F_w_code_RSA_SHA1, E_w_code_RSA_SHA1, F_coder_w_code_RSA_SHA1, F_w_value_code_RSA_SHA1, E_w_RSA_SHA512, F_ordinal_w_RSA_SHA512, F_ordinal_w_RSA_SHA1, F_w_code_RSA_SHA512, E_w_code_RSA_SHA512, F_coder_w_code_RSA_SHA512, F_w_value_code_RSA_SHA512, E_w_RSA_SHA384, F_ordinal_w_RSA_SHA384, F_w_code_RSA_SHA384, E_w_code_RSA_SHA384, F_coder_w_code_RSA_SHA384, F_w_value_code_RSA_SHA384, E_w_RSA_SHA256, F_ordinal_w_RSA_SHA256, F_w_code_RSA_SHA256, E_w_code_RSA_SHA256, F_coder_w_code_RSA_SHA256, F_w_value_code_RSA_SHA256, V_w_value_code_RSA_SHA1, V_w_value_code_RSA_SHA512, V_w_value_code_RSA_SHA384, V_w_value_code_RSA_SHA256, S_cs⟩ := id hF
  have N0 := Fr.nil n0
  refine g_aloadN (pc' := 1) C X0 d5_0 rfl rfl rfl ?_
  refine g_len (pc' := 2) C X0 d5_1 e0 V1 rfl ?_
  refine g_aloadN (pc' := 3) C X0 d5_2 rfl rfl rfl ?_
  refine g_len (pc' := 4) C X0 d5_3 e0 V2 rfl ?_
  refine g_icmpY (pc' := 34) C X0 d5_4 (feq (show ¬ ((10 : Int32) = (8 : Int32)) from (by decide))).2 (by decide) (by decide) ?_
  refine g_iconst (pc' := 35) (v := (0 : Int32)) C X0 d5_34 rfl rfl ?_
  exact g_retN C X0 (by simp) d5_35 (by decide) (by decide) ⟨congrArg (fun z => some (Value.int z)) (F5n_l0  ).symm, N0, e0⟩
theorem d4_0 : decode jdk_42_method_66_code 0 = .ok (.aload_n 0, 1) := by decide +kernel
theorem d4_1 : decode jdk_42_method_66_code 1 = .ok (.aload_n 1, 1) := by decide +kernel
theorem d4_2 : decode jdk_42_method_66_code 2 = .ok (.if_acmp .ne 5, 3) := by decide +kernel
theorem d4_5 : decode jdk_42_method_66_code 5 = .ok (.iconst 1, 1) := by decide +kernel
theorem d4_6 : decode jdk_42_method_66_code 6 = .ok (.ireturn, 1) := by decide +kernel
theorem d4_7 : decode jdk_42_method_66_code 7 = .ok (.aload_n 1, 1) := by decide +kernel
theorem d4_8 : decode jdk_42_method_66_code 8 = .ok (.instanceof 10, 3) := by decide +kernel
theorem d4_11 : decode jdk_42_method_66_code 11 = .ok (.ifCond .eq 43, 3) := by decide +kernel
theorem d4_14 : decode jdk_42_method_66_code 14 = .ok (.aload_n 1, 1) := by decide +kernel
theorem d4_15 : decode jdk_42_method_66_code 15 = .ok (.checkcast 10, 3) := by decide +kernel
theorem d4_18 : decode jdk_42_method_66_code 18 = .ok (.astore_n 2, 1) := by decide +kernel
theorem d4_19 : decode jdk_42_method_66_code 19 = .ok (.getstatic 38, 3) := by decide +kernel
theorem d4_22 : decode jdk_42_method_66_code 22 = .ok (.ifCond .eq 14, 3) := by decide +kernel
theorem d4_25 : decode jdk_42_method_66_code 25 = .ok (.aload_n 0, 1) := by decide +kernel
theorem d4_26 : decode jdk_42_method_66_code 26 = .ok (.getfield 15, 3) := by decide +kernel
theorem d4_29 : decode jdk_42_method_66_code 29 = .ok (.aload_n 2, 1) := by decide +kernel
theorem d4_30 : decode jdk_42_method_66_code 30 = .ok (.getfield 15, 3) := by decide +kernel
theorem d4_33 : decode jdk_42_method_66_code 33 = .ok (.if_icmp .ne 21, 3) := by decide +kernel
theorem d4_36 : decode jdk_42_method_66_code 36 = .ok (.aload_n 0, 1) := by decide +kernel
theorem d4_37 : decode jdk_42_method_66_code 37 = .ok (.getfield 9, 3) := by decide +kernel
theorem d4_40 : decode jdk_42_method_66_code 40 = .ok (.aload_n 2, 1) := by decide +kernel
theorem d4_41 : decode jdk_42_method_66_code 41 = .ok (.getfield 9, 3) := by decide +kernel
theorem d4_44 : decode jdk_42_method_66_code 44 = .ok (.invokestatic 541, 3) := by decide +kernel
theorem pd_0 : parseMethodDescriptor "([B[B)Z" = some ⟨[(.array .byte), (.array .byte)], some .boolean⟩ := by decide +kernel
theorem d4_47 : decode jdk_42_method_66_code 47 = .ok (.ifCond .eq 7, 3) := by decide +kernel
theorem d4_50 : decode jdk_42_method_66_code 50 = .ok (.iconst 1, 1) := by decide +kernel
theorem d4_51 : decode jdk_42_method_66_code 51 = .ok (.goto 4, 3) := by decide +kernel
theorem d4_55 : decode jdk_42_method_66_code 55 = .ok (.ireturn, 1) := by decide +kernel
def F4e (a1 : Addr) (a2 : Addr) : Int32 := (if a1 = a2 then (1 : Int32) else (1 : Int32))
theorem F4e_l0 (a1 : Addr) (a2 : Addr) (h0 : a1 = a2) : F4e a1 a2 = (1 : Int32) := by
  unfold F4e; rw [if_pos h0]
theorem F4e_l1 (a1 : Addr) (a2 : Addr) (h0 : ¬ (a1 = a2)) : F4e a1 a2 = (1 : Int32) := by
  unfold F4e; rw [if_neg h0]
theorem ef_4e (m : MethodId) (a1 : Addr) (a2 : Addr) : entryFrame m #[(.ref a1), (.ref a2)] 3 = mkF m 0 #[.val (.ref a1), .val (.ref a2), .unset] [] := by first | (simp [entryFrame, mkF, argsToLocals, Value.category]; done) | rfl
def Q_4e (Z : State) (a1 : Addr) (a2 : Addr) (v1 : Addr) (v2 : Addr) (k1 : ClassId) (k2 : ClassId) (w_RSA_SHA1 : Addr) (w_RSA_SHA512 : Addr) (w_RSA_SHA384 : Addr) (w_RSA_SHA256 : Addr) (w_code_RSA_SHA1 : Addr) (w_value_code_RSA_SHA1 : Addr) (w_code_RSA_SHA512 : Addr) (w_value_code_RSA_SHA512 : Addr) (w_code_RSA_SHA384 : Addr) (w_value_code_RSA_SHA384 : Addr) (w_code_RSA_SHA256 : Addr) (w_value_code_RSA_SHA256 : Addr) (k_value_code_RSA_SHA1 : ClassId) (k_value_code_RSA_SHA512 : ClassId) (k_value_code_RSA_SHA384 : ClassId) (k_value_code_RSA_SHA256 : ClassId) (cs : Int32) (h0 : Heap) (n0 : Nat) (v : Option Value) (h : Heap) (L : List Loc) : Prop := v = some (.int (F4e a1 a2)) ∧ Fr n0 L ∧ h = h0
set_option maxRecDepth 65536 in
set_option maxHeartbeats 40000000 in
theorem rm4e (l : Launch) (Z : State) (a0 : Array Value) (hw : ∀ d ∈ tables_1, d.before a0 Z = true) (ws : List Jvm.Cond) (a1 : Addr) (a2 : Addr) (v1 : Addr) (v2 : Addr) (k1 : ClassId) (k2 : ClassId) (w_RSA_SHA1 : Addr) (w_RSA_SHA512 : Addr) (w_RSA_SHA384 : Addr) (w_RSA_SHA256 : Addr) (w_code_RSA_SHA1 : Addr) (w_value_code_RSA_SHA1 : Addr) (w_code_RSA_SHA512 : Addr) (w_value_code_RSA_SHA512 : Addr) (w_code_RSA_SHA384 : Addr) (w_value_code_RSA_SHA384 : Addr) (w_code_RSA_SHA256 : Addr) (w_value_code_RSA_SHA256 : Addr) (k_value_code_RSA_SHA1 : ClassId) (k_value_code_RSA_SHA512 : ClassId) (k_value_code_RSA_SHA384 : ClassId) (k_value_code_RSA_SHA256 : ClassId) (cs : Int32) (h0 : Heap) (n0 : Nat) (hF : FX Z h0 w_RSA_SHA1 w_RSA_SHA512 w_RSA_SHA384 w_RSA_SHA256 w_code_RSA_SHA1 w_value_code_RSA_SHA1 w_code_RSA_SHA512 w_value_code_RSA_SHA512 w_code_RSA_SHA384 w_value_code_RSA_SHA384 w_code_RSA_SHA256 w_value_code_RSA_SHA256 k_value_code_RSA_SHA1 k_value_code_RSA_SHA512 k_value_code_RSA_SHA384 k_value_code_RSA_SHA256 cs) (Fc_a1 : Fld Z h0 a1 "java/lang/String" "coder" "B" (.int (0 : Int32))) (Fv_a1 : Fld Z h0 a1 "java/lang/String" "value" "[B" (.ref v1)) (Fc_a2 : Fld Z h0 a2 "java/lang/String" "coder" "B" (.int (0 : Int32))) (Fv_a2 : Fld Z h0 a2 "java/lang/String" "value" "[B" (.ref v2)) (E_a2 : Exa Z h0 a2 "java/lang/String") (V1 : Arv Z h0 v1 k1 .byte (8 : Int32) [(.int (114 : Int32)), (.int (115 : Int32)), (.int (97 : Int32)), (.int (45 : Int32)), (.int (115 : Int32)), (.int (104 : Int32)), (.int (97 : Int32)), (.int (49 : Int32))] (.int (0 : Int32))) (V2 : Arv Z h0 v2 k2 .byte (8 : Int32) [(.int (114 : Int32)), (.int (115 : Int32)), (.int (97 : Int32)), (.int (45 : Int32)), (.int (115 : Int32)), (.int (104 : Int32)), (.int (97 : Int32)), (.int (49 : Int32))] (.int (0 : Int32))) (hcs : ¬ (cs = (0 : Int32))) :
    MetFree l (⟨"java/lang/String", "equals", "(Ljava/lang/Object;)Z"⟩ : MethodName) (head1 (Jvm.Cond.code (⟨"java/lang/String", "equals", "(Ljava/lang/Object;)Z"⟩ : MethodName) jdk_42_method_66_code 3 (some .boolean) :: ws) ({ frames := 1, cells := 0, slots := 0, locals := 14 } : Room)) (fun a U => a = #[(.ref a1), (.ref a2)] ∧ Z.Warmed39 U.vm ∧ U.heap = h0) (fun _ _ _ _ _ => True) (fun _ U o U' => ∃ v L, o = .returned v ∧ Q_4e Z a1 a2 v1 v2 k1 k2 w_RSA_SHA1 w_RSA_SHA512 w_RSA_SHA384 w_RSA_SHA256 w_code_RSA_SHA1 w_value_code_RSA_SHA1 w_code_RSA_SHA512 w_value_code_RSA_SHA512 w_code_RSA_SHA384 w_value_code_RSA_SHA384 w_code_RSA_SHA256 w_value_code_RSA_SHA256 k_value_code_RSA_SHA1 k_value_code_RSA_SHA512 k_value_code_RSA_SHA384 k_value_code_RSA_SHA256 cs h0 n0 v U'.heap L ∧ FrameEnd U o U' L ({ frames := 1, cells := 0, slots := 0, locals := 14 } : Room).cells ({ frames := 1, cells := 0, slots := 0, locals := 14 } : Room).slots) := by
  refine met_of (Ls := #[.val (.ref a1), .val (.ref a2), .unset]) (plainFor_of_name (by first | (simp [plainName, overriddenIn]; done) | decide +kernel)) (fun m => ef_4e m a1 a2) ?_
  intro p e s m below meth c T0 C X0 e0
  obtain ⟨S_w_RSA_SHA1, S_w_RSA_SHA512, S_w_RSA_SHA384, S_w_RSA_SHA256, E_w_RSA_SHA1, F_w_code_RSA_SHA1, E_w_code_RSA_SHA1, F_coder_w_code_RSA_SHA1, F_w_value_code_RSA_SHA1, E_w_RSA_SHA512, F_ordinal_w_RSA_SHA512, F_ordinal_w_RSA_SHA1, F_w_code_RSA_SHA512, E_w_code_RSA_SHA512, F_coder_w_code_RSA_SHA512, F_w_value_code_RSA_SHA512, E_w_RSA_SHA384, F_ordinal_w_RSA_SHA384, F_w_code_RSA_SHA384, E_w_code_RSA_SHA384, F_coder_w_code_RSA_SHA384, F_w_value_code_RSA_SHA384, E_w_RSA_SHA256, F_ordinal_w_RSA_SHA256, F_w_code_RSA_SHA256, E_w_code_RSA_SHA256, F_coder_w_code_RSA_SHA256, F_w_value_code_RSA_SHA256, V_w_value_code_RSA_SHA1, V_w_value_code_RSA_SHA512, V_w_value_code_RSA_SHA384, V_w_value_code_RSA_SHA256, S_cs⟩ := id hF
  have N0 := Fr.nil n0
  refine g_aloadN (pc' := 1) C X0 d4_0 rfl rfl rfl ?_
  refine g_aloadN (pc' := 2) C X0 d4_1 rfl rfl rfl ?_
  by_cases c1 : a1 = a2
  · refine g_acmp (pc' := 5) (same := true) C X0 d4_2 rfl rfl (decide_eq_true (congrArg Value.ref c1)) (by decide) (by decide) ?_
    refine g_iconst (pc' := 6) (v := (1 : Int32)) C X0 d4_5 rfl rfl ?_
    exact g_retN C X0 (by simp) d4_6 (by decide) (by decide) ⟨congrArg (fun z => some (Value.int z)) (F4e_l0 a1 a2 c1).symm, N0, e0⟩
  · refine g_acmp (pc' := 7) (same := false) C X0 d4_2 rfl rfl (decide_eq_false fun q => c1 (Value.ref.inj q)) (by decide) (by decide) ?_
    refine g_aloadN (pc' := 8) C X0 d4_7 rfl rfl rfl ?_
    refine g_instY (pc' := 11) C X0 d4_8 (hw _ (List.mem_of_getElem? (i := 33) rfl)) e0 (Ins.self E_a2) rfl (fun T2 X2 e2 => ?_)
    refine g_ifN (pc' := 14) C X2 d4_11 (feq (show ¬ ((1 : Int32) = (0 : Int32)) from (by decide))).1 rfl ?_
    refine g_aloadN (pc' := 15) C X2 d4_14 rfl rfl rfl ?_
    refine g_castY (pc' := 18) C X2 d4_15 (hw _ (List.mem_of_getElem? (i := 33) rfl)) e2 (Ins.self E_a2) rfl (fun T3 X3 e3 => ?_)
    refine g_astoreN (pc' := 19) (Ls' := #[.val (.ref a1), .val (.ref a2), .val (.ref a2)]) C X3 d4_18 rfl rfl rfl ?_
    refine g_getS (pc' := 22) C X3 d4_19 (host := "") (Or.inl (hw _ (List.mem_of_getElem? (i := 35) rfl))) Via.refl e3 S_cs rfl (fun T4 X4 e4 => ?_)
    refine g_ifN (pc' := 25) C X4 d4_22 (feq hcs).1 rfl ?_
    refine g_aloadN (pc' := 26) C X4 d4_25 rfl rfl rfl ?_
    refine g_getF (pc' := 29) C X4 d4_26 (host := "") (Or.inl (hw _ (List.mem_of_getElem? (i := 36) rfl))) Via.refl e4 Fc_a1 rfl (fun T5 X5 e5 => ?_)
    refine g_aloadN (pc' := 30) C X5 d4_29 rfl rfl rfl ?_
    refine g_getF (pc' := 33) C X5 d4_30 (host := "") (Or.inl (hw _ (List.mem_of_getElem? (i := 36) rfl))) Via.refl e5 Fc_a2 rfl (fun T6 X6 e6 => ?_)
    refine g_icmpN (pc' := 36) C X6 d4_33 (teq (show (0 : Int32) = (0 : Int32) from (by decide))).2 rfl ?_
    refine g_aloadN (pc' := 37) C X6 d4_36 rfl rfl rfl ?_
    refine g_getF (pc' := 40) C X6 d4_37 (host := "") (Or.inl (hw _ (List.mem_of_getElem? (i := 37) rfl))) Via.refl e6 Fv_a1 rfl (fun T7 X7 e7 => ?_)
    refine g_aloadN (pc' := 41) C X7 d4_40 rfl rfl rfl ?_
    refine g_getF (pc' := 44) C X7 d4_41 (host := "") (Or.inl (hw _ (List.mem_of_getElem? (i := 37) rfl))) Via.refl e7 Fv_a2 rfl (fun T8 X8 e8 => ?_)
    refine g_callS (y := (⟨"java/lang/StringLatin1", "equals", "([B[B)Z"⟩ : MethodName)) (argsL := [(.ref v1), (.ref v2)]) (st := []) (pc' := 47) C X8 d4_44 (hw _ (List.mem_of_getElem? (i := 38) rfl)) (hw _ (List.mem_of_getElem? (i := 39) rfl)) (hw _ (List.mem_of_getElem? (i := 40) rfl)) (hw _ (List.mem_of_getElem? (i := 41) rfl)) (by decide) (rm5e l Z a0 hw [] v1 v2 k1 k2 w_RSA_SHA1 w_RSA_SHA512 w_RSA_SHA384 w_RSA_SHA256 w_code_RSA_SHA1 w_value_code_RSA_SHA1 w_code_RSA_SHA512 w_value_code_RSA_SHA512 w_code_RSA_SHA384 w_value_code_RSA_SHA384 w_code_RSA_SHA256 w_value_code_RSA_SHA256 k_value_code_RSA_SHA1 k_value_code_RSA_SHA512 k_value_code_RSA_SHA384 k_value_code_RSA_SHA256 cs h0 n0 hF V1 V2) (W := 0) (by decide) (by decide) (ce := 0) (sl := 0) rfl rfl (by decide) (by decide) rfl e8 rfl pd_0 rfl (Nat.le_refl _) rfl (fun v9 T9 L9 X9 Q9 => ?_)
    obtain ⟨q9, Nq9, e9⟩ := Q9
    have N9 := Fr.app N0 Nq9
    rw [F5e_l0 ] at q9
    subst q9
    show Go p.tables e below _ (T9.setTop (mkF m 47 #[.val (.ref a1), .val (.ref a2), .val (.ref a2)] [(.int (1 : Int32))]))
    refine g_ifN (pc' := 50) C X9 d4_47 (feq (show ¬ ((1 : Int32) = (0 : Int32)) from (by decide))).1 rfl ?_
    refine g_iconst (pc' := 51) (v := (1 : Int32)) C X9 d4_50 rfl rfl ?_
    refine g_goto (pc' := 55) C X9 d4_51 (by decide) (by decide) ?_
    exact g_retN C X9 (by simp) d4_55 (by decide) (by decide) ⟨congrArg (fun z => some (Value.int z)) (F4e_l1 a1 a2 c1).symm, N9, e9⟩
theorem d4_54 : decode jdk_42_method_66_code 54 = .ok (.iconst 0, 1) := by decide +kernel
def F4n  : Int32 := (0 : Int32)
theorem F4n_l0   : F4n  = (0 : Int32) := rfl
theorem ef_4n (m : MethodId) (a1 : Addr) (a2 : Addr) : entryFrame m #[(.ref a1), (.ref a2)] 3 = mkF m 0 #[.val (.ref a1), .val (.ref a2), .unset] [] := by first | (simp [entryFrame, mkF, argsToLocals, Value.category]; done) | rfl
def Q_4n (Z : State) (a1 : Addr) (a2 : Addr) (v1 : Addr) (v2 : Addr) (k1 : ClassId) (k2 : ClassId) (x0 : Int32) (x1 : Int32) (x2 : Int32) (x3 : Int32) (x4 : Int32) (x5 : Int32) (x6 : Int32) (x7 : Int32) (x8 : Int32) (x9 : Int32) (w_RSA_SHA1 : Addr) (w_RSA_SHA512 : Addr) (w_RSA_SHA384 : Addr) (w_RSA_SHA256 : Addr) (w_code_RSA_SHA1 : Addr) (w_value_code_RSA_SHA1 : Addr) (w_code_RSA_SHA512 : Addr) (w_value_code_RSA_SHA512 : Addr) (w_code_RSA_SHA384 : Addr) (w_value_code_RSA_SHA384 : Addr) (w_code_RSA_SHA256 : Addr) (w_value_code_RSA_SHA256 : Addr) (k_value_code_RSA_SHA1 : ClassId) (k_value_code_RSA_SHA512 : ClassId) (k_value_code_RSA_SHA384 : ClassId) (k_value_code_RSA_SHA256 : ClassId) (cs : Int32) (h0 : Heap) (n0 : Nat) (v : Option Value) (h : Heap) (L : List Loc) : Prop := v = some (.int (F4n )) ∧ Fr n0 L ∧ h = h0
set_option maxRecDepth 65536 in
set_option maxHeartbeats 40000000 in
theorem rm4n (l : Launch) (Z : State) (a0 : Array Value) (hw : ∀ d ∈ tables_1, d.before a0 Z = true) (ws : List Jvm.Cond) (a1 : Addr) (a2 : Addr) (v1 : Addr) (v2 : Addr) (k1 : ClassId) (k2 : ClassId) (x0 : Int32) (x1 : Int32) (x2 : Int32) (x3 : Int32) (x4 : Int32) (x5 : Int32) (x6 : Int32) (x7 : Int32) (x8 : Int32) (x9 : Int32) (w_RSA_SHA1 : Addr) (w_RSA_SHA512 : Addr) (w_RSA_SHA384 : Addr) (w_RSA_SHA256 : Addr) (w_code_RSA_SHA1 : Addr) (w_value_code_RSA_SHA1 : Addr) (w_code_RSA_SHA512 : Addr) (w_value_code_RSA_SHA512 : Addr) (w_code_RSA_SHA384 : Addr) (w_value_code_RSA_SHA384 : Addr) (w_code_RSA_SHA256 : Addr) (w_value_code_RSA_SHA256 : Addr) (k_value_code_RSA_SHA1 : ClassId) (k_value_code_RSA_SHA512 : ClassId) (k_value_code_RSA_SHA384 : ClassId) (k_value_code_RSA_SHA256 : ClassId) (cs : Int32) (h0 : Heap) (n0 : Nat) (hF : FX Z h0 w_RSA_SHA1 w_RSA_SHA512 w_RSA_SHA384 w_RSA_SHA256 w_code_RSA_SHA1 w_value_code_RSA_SHA1 w_code_RSA_SHA512 w_value_code_RSA_SHA512 w_code_RSA_SHA384 w_value_code_RSA_SHA384 w_code_RSA_SHA256 w_value_code_RSA_SHA256 k_value_code_RSA_SHA1 k_value_code_RSA_SHA512 k_value_code_RSA_SHA384 k_value_code_RSA_SHA256 cs) (Fc_a1 : Fld Z h0 a1 "java/lang/String" "coder" "B" (.int (0 : Int32))) (Fv_a1 : Fld Z h0 a1 "java/lang/String" "value" "[B" (.ref v1)) (Fc_a2 : Fld Z h0 a2 "java/lang/String" "coder" "B" (.int (0 : Int32))) (Fv_a2 : Fld Z h0 a2 "java/lang/String" "value" "[B" (.ref v2)) (E_a2 : Exa Z h0 a2 "java/lang/String") (V1 : Arv Z h0 v1 k1 .byte (10 : Int32) [(.int x0), (.int x1), (.int x2), (.int x3), (.int x4), (.int x5), (.int x6), (.int x7), (.int x8), (.int x9)] (.int (0 : Int32))) (V2 : Arv Z h0 v2 k2 .byte (8 : Int32) [(.int (114 : Int32)), (.int (115 : Int32)), (.int (97 : Int32)), (.int (45 : Int32)), (.int (115 : Int32)), (.int (104 : Int32)), (.int (97 : Int32)), (.int (49 : Int32))] (.int (0 : Int32))) (hcs : ¬ (cs = (0 : Int32))) (ne12 : ¬ (a1 = a2)) :
    MetFree l (⟨"java/lang/String", "equals", "(Ljava/lang/Object;)Z"⟩ : MethodName) (head1 (Jvm.Cond.code (⟨"java/lang/String", "equals", "(Ljava/lang/Object;)Z"⟩ : MethodName) jdk_42_method_66_code 3 (some .boolean) :: ws) ({ frames := 1, cells := 0, slots := 0, locals := 14 } : Room)) (fun a U => a = #[(.ref a1), (.ref a2)] ∧ Z.Warmed39 U.vm ∧ U.heap = h0) (fun _ _ _ _ _ => True) (fun _ U o U' => ∃ v L, o = .returned v ∧ Q_4n Z a1 a2 v1 v2 k1 k2 x0 x1 x2 x3 x4 x5 x6 x7 x8 x9 w_RSA_SHA1 w_RSA_SHA512 w_RSA_SHA384 w_RSA_SHA256 w_code_RSA_SHA1 w_value_code_RSA_SHA1 w_code_RSA_SHA512 w_value_code_RSA_SHA512 w_code_RSA_SHA384 w_value_code_RSA_SHA384 w_code_RSA_SHA256 w_value_code_RSA_SHA256 k_value_code_RSA_SHA1 k_value_code_RSA_SHA512 k_value_code_RSA_SHA384 k_value_code_RSA_SHA256 cs h0 n0 v U'.heap L ∧ FrameEnd U o U' L ({ frames := 1, cells := 0, slots := 0, locals := 14 } : Room).cells ({ frames := 1, cells := 0, slots := 0, locals := 14 } : Room).slots) := by
  refine met_of (Ls := #[.val (.ref a1), .val (.ref a2), .unset]) (plainFor_of_name (by first | (simp [plainName, overriddenIn]; done) | decide +kernel)) (fun m => ef_4n m a1 a2) ?_
  intro p e s m below meth c T0 C X0 e0
  obtain ⟨S_w_RSA_SHA1, S_w_RSA_SHA512, S_w_RSA_SHA384, S_w_RSA_SHA256, E_w_RSA_SHA1, F_w_code_RSA_SHA1, E_w_code_RSA_SHA1, F_coder_w_code_RSA_SHA1, F_w_value_code_RSA_SHA1, E_w_RSA_SHA512, F_ordinal_w_RSA_SHA512, F_ordinal_w_RSA_SHA1, F_w_code_RSA_SHA512, E_w_code_RSA_SHA512, F_coder_w_code_RSA_SHA512, F_w_value_code_RSA_SHA512, E_w_RSA_SHA384, F_ordinal_w_RSA_SHA384, F_w_code_RSA_SHA384, E_w_code_RSA_SHA384, F_coder_w_code_RSA_SHA384, F_w_value_code_RSA_SHA384, E_w_RSA_SHA256, F_ordinal_w_RSA_SHA256, F_w_code_RSA_SHA256, E_w_code_RSA_SHA256, F_coder_w_code_RSA_SHA256, F_w_value_code_RSA_SHA256, V_w_value_code_RSA_SHA1, V_w_value_code_RSA_SHA512, V_w_value_code_RSA_SHA384, V_w_value_code_RSA_SHA256, S_cs⟩ := id hF
  have N0 := Fr.nil n0
  refine g_aloadN (pc' := 1) C X0 d4_0 rfl rfl rfl ?_
  refine g_aloadN (pc' := 2) C X0 d4_1 rfl rfl rfl ?_
  refine g_acmp (pc' := 7) (same := false) C X0 d4_2 rfl rfl (decide_eq_false fun q => ne12 (Value.ref.inj q)) (by decide) (by decide) ?_
  refine g_aloadN (pc' := 8) C X0 d4_7 rfl rfl rfl ?_
  refine g_instY (pc' := 11) C X0 d4_8 (hw _ (List.mem_of_getElem? (i := 33) rfl)) e0 (Ins.self E_a2) rfl (fun T1 X1 e1 => ?_)
  refine g_ifN (pc' := 14) C X1 d4_11 (feq (show ¬ ((1 : Int32) = (0 : Int32)) from (by decide))).1 rfl ?_
  refine g_aloadN (pc' := 15) C X1 d4_14 rfl rfl rfl ?_
  refine g_castY (pc' := 18) C X1 d4_15 (hw _ (List.mem_of_getElem? (i := 33) rfl)) e1 (Ins.self E_a2) rfl (fun T2 X2 e2 => ?_)
  refine g_astoreN (pc' := 19) (Ls' := #[.val (.ref a1), .val (.ref a2), .val (.ref a2)]) C X2 d4_18 rfl rfl rfl ?_
  refine g_getS (pc' := 22) C X2 d4_19 (host := "") (Or.inl (hw _ (List.mem_of_getElem? (i := 35) rfl))) Via.refl e2 S_cs rfl (fun T3 X3 e3 => ?_)
  refine g_ifN (pc' := 25) C X3 d4_22 (feq hcs).1 rfl ?_
  refine g_aloadN (pc' := 26) C X3 d4_25 rfl rfl rfl ?_
  refine g_getF (pc' := 29) C X3 d4_26 (host := "") (Or.inl (hw _ (List.mem_of_getElem? (i := 36) rfl))) Via.refl e3 Fc_a1 rfl (fun T4 X4 e4 => ?_)
  refine g_aloadN (pc' := 30) C X4 d4_29 rfl rfl rfl ?_
  refine g_getF (pc' := 33) C X4 d4_30 (host := "") (Or.inl (hw _ (List.mem_of_getElem? (i := 36) rfl))) Via.refl e4 Fc_a2 rfl (fun T5 X5 e5 => ?_)
  refine g_icmpN (pc' := 36) C X5 d4_33 (teq (show (0 : Int32) = (0 : Int32) from (by decide))).2 rfl ?_
  refine g_aloadN (pc' := 37) C X5 d4_36 rfl rfl rfl ?_
  refine g_getF (pc' := 40) C X5 d4_37 (host := "") (Or.inl (hw _ (List.mem_of_getElem? (i := 37) rfl))) Via.refl e5 Fv_a1 rfl (fun T6 X6 e6 => ?_)
  refine g_aloadN (pc' := 41) C X6 d4_40 rfl rfl rfl ?_
  refine g_getF (pc' := 44) C X6 d4_41 (host := "") (Or.inl (hw _ (List.mem_of_getElem? (i := 37) rfl))) Via.refl e6 Fv_a2 rfl (fun T7 X7 e7 => ?_)
  refine g_callS (y := (⟨"java/lang/StringLatin1", "equals", "([B[B)Z"⟩ : MethodName)) (argsL := [(.ref v1), (.ref v2)]) (st := []) (pc' := 47) C X7 d4_44 (hw _ (List.mem_of_getElem? (i := 38) rfl)) (hw _ (List.mem_of_getElem? (i := 39) rfl)) (hw _ (List.mem_of_getElem? (i := 40) rfl)) (hw _ (List.mem_of_getElem? (i := 41) rfl)) (by decide) (rm5n l Z a0 hw [] v1 v2 k1 k2 x0 x1 x2 x3 x4 x5 x6 x7 x8 x9 w_RSA_SHA1 w_RSA_SHA512 w_RSA_SHA384 w_RSA_SHA256 w_code_RSA_SHA1 w_value_code_RSA_SHA1 w_code_RSA_SHA512 w_value_code_RSA_SHA512 w_code_RSA_SHA384 w_value_code_RSA_SHA384 w_code_RSA_SHA256 w_value_code_RSA_SHA256 k_value_code_RSA_SHA1 k_value_code_RSA_SHA512 k_value_code_RSA_SHA384 k_value_code_RSA_SHA256 cs h0 n0 hF V1 V2) (W := 0) (by decide) (by decide) (ce := 0) (sl := 0) rfl rfl (by decide) (by decide) rfl e7 rfl pd_0 rfl (Nat.le_refl _) rfl (fun v8 T8 L8 X8 Q8 => ?_)
  obtain ⟨q8, Nq8, e8⟩ := Q8
  have N8 := Fr.app N0 Nq8
  rw [F5n_l0 ] at q8
  subst q8
  show Go p.tables e below _ (T8.setTop (mkF m 47 #[.val (.ref a1), .val (.ref a2), .val (.ref a2)] [(.int (0 : Int32))]))
  refine g_ifY (pc' := 54) C X8 d4_47 (teq (show (0 : Int32) = (0 : Int32) from (by decide))).1 (by decide) (by decide) ?_
  refine g_iconst (pc' := 55) (v := (0 : Int32)) C X8 d4_54 rfl rfl ?_
  exact g_retN C X8 (by simp) d4_55 (by decide) (by decide) ⟨congrArg (fun z => some (Value.int z)) (F4n_l0  ).symm, N8, e8⟩
theorem own_four (p : Int32) : (p &&& (3 : Int32)) = (0 : Int32) ∨ (p &&& (3 : Int32)) = (1 : Int32) ∨ (p &&& (3 : Int32)) = (2 : Int32) ∨ (p &&& (3 : Int32)) = (3 : Int32) := by
  have e : (p &&& (3 : Int32)).toInt = p.toInt % (2 ^ 2 : Nat) := c_mask p _ 2 (by decide) (by decide)
  obtain ⟨i, hi⟩ := own_fin 4 (p &&& (3 : Int32)) (by omega) (by omega)
  rw [hi]; clear hi; revert i; decide
theorem pd_1 : parseMethodDescriptor "(I)Lorg/vouchsafe/SignatureAlgorithm;" = some ⟨[.int], some (.object "org/vouchsafe/SignatureAlgorithm")⟩ := by decide +kernel
theorem pd_2 : parseMethodDescriptor "()Z" = some ⟨[], some .boolean⟩ := by decide +kernel
theorem pd_3 : parseMethodDescriptor "()Ljava/lang/String;" = some ⟨[], some (.object "java/lang/String")⟩ := by decide +kernel
theorem pd_4 : parseMethodDescriptor "(Ljava/lang/Object;)Z" = some ⟨[(.object "java/lang/Object")], some .boolean⟩ := by decide +kernel
theorem ef_0 (m : MethodId) (p1 : Int32) : entryFrame m #[(.int p1)] maxLocals = mkF m 0 #[.val (.int p1), .unset, .unset, .unset, .unset, .unset] [] := by first | (simp [entryFrame, mkF, argsToLocals, Value.category, maxLocals]; done) | rfl
def Q_0 (Z : State) (p1 : Int32) (w_RSA_SHA1 : Addr) (w_RSA_SHA512 : Addr) (w_RSA_SHA384 : Addr) (w_RSA_SHA256 : Addr) (w_code_RSA_SHA1 : Addr) (w_value_code_RSA_SHA1 : Addr) (w_code_RSA_SHA512 : Addr) (w_value_code_RSA_SHA512 : Addr) (w_code_RSA_SHA384 : Addr) (w_value_code_RSA_SHA384 : Addr) (w_code_RSA_SHA256 : Addr) (w_value_code_RSA_SHA256 : Addr) (k_value_code_RSA_SHA1 : ClassId) (k_value_code_RSA_SHA512 : ClassId) (k_value_code_RSA_SHA384 : ClassId) (k_value_code_RSA_SHA256 : ClassId) (cs : Int32) (h0 : Heap) (n0 : Nat) (v : Option Value) (h : Heap) (L : List Loc) : Prop := v = some (.int 1) ∧ Fr n0 L
set_option maxRecDepth 65536 in
set_option maxHeartbeats 40000000 in
theorem rm0 (l : Launch) (Z : State) (a0 : Array Value) (hw : ∀ d ∈ tables_1, d.before a0 Z = true) (ws : List Jvm.Cond) (p1 : Int32) (w_RSA_SHA1 : Addr) (w_RSA_SHA512 : Addr) (w_RSA_SHA384 : Addr) (w_RSA_SHA256 : Addr) (w_code_RSA_SHA1 : Addr) (w_value_code_RSA_SHA1 : Addr) (w_code_RSA_SHA512 : Addr) (w_value_code_RSA_SHA512 : Addr) (w_code_RSA_SHA384 : Addr) (w_value_code_RSA_SHA384 : Addr) (w_code_RSA_SHA256 : Addr) (w_value_code_RSA_SHA256 : Addr) (k_value_code_RSA_SHA1 : ClassId) (k_value_code_RSA_SHA512 : ClassId) (k_value_code_RSA_SHA384 : ClassId) (k_value_code_RSA_SHA256 : ClassId) (cs : Int32) (h0 : Heap) (n0 : Nat) (Z0 : n0 ≤ h0.size) (hF : FX Z h0 w_RSA_SHA1 w_RSA_SHA512 w_RSA_SHA384 w_RSA_SHA256 w_code_RSA_SHA1 w_value_code_RSA_SHA1 w_code_RSA_SHA512 w_value_code_RSA_SHA512 w_code_RSA_SHA384 w_value_code_RSA_SHA384 w_code_RSA_SHA256 w_value_code_RSA_SHA256 k_value_code_RSA_SHA1 k_value_code_RSA_SHA512 k_value_code_RSA_SHA384 k_value_code_RSA_SHA256 cs) (ne_w_RSA_SHA512_w_RSA_SHA1 : ¬ (w_RSA_SHA512 = w_RSA_SHA1)) (ne_w_RSA_SHA512_w_RSA_SHA384 : ¬ (w_RSA_SHA512 = w_RSA_SHA384)) (ne_w_RSA_SHA512_w_RSA_SHA256 : ¬ (w_RSA_SHA512 = w_RSA_SHA256)) (ne_w_RSA_SHA1_w_RSA_SHA384 : ¬ (w_RSA_SHA1 = w_RSA_SHA384)) (ne_w_RSA_SHA1_w_RSA_SHA256 : ¬ (w_RSA_SHA1 = w_RSA_SHA256)) (ne_w_RSA_SHA384_w_RSA_SHA256 : ¬ (w_RSA_SHA384 = w_RSA_SHA256)) (hcs : ¬ (cs = (0 : Int32))) (hhl : Jvm.Lit.constHeld Z "org/vouchsafe/SignatureAlgorithmSha1PinLaw" 36) (hcw : Jvm.Lit.compactW.before a0 Z = true) :
    MetFree l x (head1 (Jvm.Cond.code x code maxLocals ret :: ws) room_1) (fun a U => a = #[(.int p1)] ∧ Z.Warmed39 U.vm ∧ U.heap = h0 ∧ (fun U => U.heap.size = n0 ∧ (∀ (b : Addr) (cl : Cell), Z.heap[b]? = some cl → U.heap[b]? = some cl) ∧ IB Z U.vm []) U) (fun _ _ _ _ _ => True) (fun _ U o U' => ∃ v L, o = .returned v ∧ Q_0 Z p1 w_RSA_SHA1 w_RSA_SHA512 w_RSA_SHA384 w_RSA_SHA256 w_code_RSA_SHA1 w_value_code_RSA_SHA1 w_code_RSA_SHA512 w_value_code_RSA_SHA512 w_code_RSA_SHA384 w_value_code_RSA_SHA384 w_code_RSA_SHA256 w_value_code_RSA_SHA256 k_value_code_RSA_SHA1 k_value_code_RSA_SHA512 k_value_code_RSA_SHA384 k_value_code_RSA_SHA256 cs h0 n0 v U'.heap L ∧ ReturnedEndW U o U' L 2 36) := by
  refine met_ofW (Ls := #[.val (.int p1), .unset, .unset, .unset, .unset, .unset]) (plainFor_of_name (by first | (simp [plainName, overriddenIn]; done) | decide +kernel)) (fun m => ef_0 m p1) ?_
  intro p e s m below meth c T0 hpx C X0 hS e0
  obtain ⟨S_w_RSA_SHA1, S_w_RSA_SHA512, S_w_RSA_SHA384, S_w_RSA_SHA256, E_w_RSA_SHA1, F_w_code_RSA_SHA1, E_w_code_RSA_SHA1, F_coder_w_code_RSA_SHA1, F_w_value_code_RSA_SHA1, E_w_RSA_SHA512, F_ordinal_w_RSA_SHA512, F_ordinal_w_RSA_SHA1, F_w_code_RSA_SHA512, E_w_code_RSA_SHA512, F_coder_w_code_RSA_SHA512, F_w_value_code_RSA_SHA512, E_w_RSA_SHA384, F_ordinal_w_RSA_SHA384, F_w_code_RSA_SHA384, E_w_code_RSA_SHA384, F_coder_w_code_RSA_SHA384, F_w_value_code_RSA_SHA384, E_w_RSA_SHA256, F_ordinal_w_RSA_SHA256, F_w_code_RSA_SHA256, E_w_code_RSA_SHA256, F_coder_w_code_RSA_SHA256, F_w_value_code_RSA_SHA256, V_w_value_code_RSA_SHA1, V_w_value_code_RSA_SHA512, V_w_value_code_RSA_SHA384, V_w_value_code_RSA_SHA256, S_cs⟩ := id hF
  have N0 := Fr.nil n0
  refine g_iloadN (pc' := 1) C X0 at_0 rfl rfl ?_
  refine g_iconst (pc' := 2) (v := (3 : Int32)) C X0 at_1 rfl rfl ?_
  refine g_iand (pc' := 3) C X0 at_2 rfl ?_
  refine g_istoreN (pc' := 4) (Ls' := #[.val (.int p1), .val (.int (p1 &&& (3 : Int32))), .unset, .unset, .unset, .unset]) C X0 at_3 rfl rfl ?_
  rcases own_four p1 with s1 | s1 | s1 | s1
  · refine own_cast (show T0.setTop (mkF m 4 #[.val (.int p1), .val (.int (p1 &&& (3 : Int32))), .unset, .unset, .unset, .unset] []) = T0.setTop (mkF m 4 #[.val (.int p1), .val (.int (0 : Int32)), .unset, .unset, .unset, .unset] []) from by rw [s1]) ?_
    refine g_iloadN (pc' := 5) C X0 at_4 rfl rfl ?_
    refine g_callS (y := (⟨"org/vouchsafe/SignatureAlgorithmSha1PinLaw", "pick", "(I)Lorg/vouchsafe/SignatureAlgorithm;"⟩ : MethodName)) (argsL := [(.int (0 : Int32))]) (st := []) (pc' := 8) C X0 at_5 (hw _ (List.mem_of_getElem? (i := 0) rfl)) (hw _ (List.mem_of_getElem? (i := 1) rfl)) (hw _ (List.mem_of_getElem? (i := 2) rfl)) (hw _ (List.mem_of_getElem? (i := 3) rfl)) (by decide) (rm1 l Z a0 hw [] (0 : Int32) w_RSA_SHA1 w_RSA_SHA512 w_RSA_SHA384 w_RSA_SHA256 w_code_RSA_SHA1 w_value_code_RSA_SHA1 w_code_RSA_SHA512 w_value_code_RSA_SHA512 w_code_RSA_SHA384 w_value_code_RSA_SHA384 w_code_RSA_SHA256 w_value_code_RSA_SHA256 k_value_code_RSA_SHA1 k_value_code_RSA_SHA512 k_value_code_RSA_SHA384 k_value_code_RSA_SHA256 cs h0 n0 hF) (W := 0) (by decide) (by decide) (ce := 0) (sl := 0) rfl rfl (by decide) (by decide) rfl e0 rfl pd_1 rfl (Nat.le_refl _) rfl (fun v2 T2 L2 X2 Q2 => ?_)
    obtain ⟨q2, Nq2, e2⟩ := Q2
    have N2 := Fr.app N0 Nq2
    rw [F1_l0 (0 : Int32) w_RSA_SHA1 w_RSA_SHA512 w_RSA_SHA384 w_RSA_SHA256 (show (0 : Int32) = (0 : Int32) from (by decide))] at q2
    subst q2
    show Go p.tables e below _ (T2.setTop (mkF m 8 #[.val (.int p1), .val (.int (0 : Int32)), .unset, .unset, .unset, .unset] [(.ref w_RSA_SHA1)]))
    refine g_astoreN (pc' := 9) (Ls' := #[.val (.int p1), .val (.int (0 : Int32)), .val (.ref w_RSA_SHA1), .unset, .unset, .unset]) C X2 at_8 rfl rfl rfl ?_
    refine g_aloadN (pc' := 10) C X2 at_9 rfl rfl rfl ?_
    refine g_callV (b := w_RSA_SHA1) (z := (⟨"org/vouchsafe/SignatureAlgorithm", "sha1", "()Z"⟩ : MethodName)) (y := (⟨"org/vouchsafe/SignatureAlgorithm", "sha1", "()Z"⟩ : MethodName)) (argsL := []) (st := []) (pc' := 13) C X2 at_10 (hw _ (List.mem_of_getElem? (i := 7) rfl)) (hw _ (List.mem_of_getElem? (i := 8) rfl)) (notFace_of_selects (args := #[]) (mvT C.hZ (hw _ (List.mem_of_getElem? (i := 10) rfl)))) (hw _ (List.mem_of_getElem? (i := 10) rfl)) (hw _ (List.mem_of_getElem? (i := 9) rfl)) (hw _ (List.mem_of_getElem? (i := 5) rfl)) (hw _ (List.mem_of_getElem? (i := 11) rfl)) (by decide) (rm2 l Z a0 hw [] w_RSA_SHA1 w_RSA_SHA1 w_RSA_SHA512 w_RSA_SHA384 w_RSA_SHA256 w_code_RSA_SHA1 w_value_code_RSA_SHA1 w_code_RSA_SHA512 w_value_code_RSA_SHA512 w_code_RSA_SHA384 w_value_code_RSA_SHA384 w_code_RSA_SHA256 w_value_code_RSA_SHA256 k_value_code_RSA_SHA1 k_value_code_RSA_SHA512 k_value_code_RSA_SHA384 k_value_code_RSA_SHA256 cs h0 n0 hF) (W := 0) (by decide) (by decide) (ce := 0) (sl := 0) rfl rfl (by decide) (by decide) rfl E_w_RSA_SHA1 e2 rfl pd_2 rfl (Nat.le_refl _) rfl (fun v3 T3 L3 X3 Q3 => ?_)
    obtain ⟨q3, Nq3, e3⟩ := Q3
    have N3 := Fr.app N2 Nq3
    rw [F2_l0 w_RSA_SHA1 w_RSA_SHA1 (show w_RSA_SHA1 = w_RSA_SHA1 from (rfl : w_RSA_SHA1 = w_RSA_SHA1))] at q3
    subst q3
    show Go p.tables e below _ (T3.setTop (mkF m 13 #[.val (.int p1), .val (.int (0 : Int32)), .val (.ref w_RSA_SHA1), .unset, .unset, .unset] [(.int (1 : Int32))]))
    refine g_istoreN (pc' := 14) (Ls' := #[.val (.int p1), .val (.int (0 : Int32)), .val (.ref w_RSA_SHA1), .val (.int (1 : Int32)), .unset, .unset]) C X3 at_13 rfl rfl ?_
    refine g_iloadN (pc' := 15) C X3 at_14 rfl rfl ?_
    refine g_ifN (pc' := 18) C X3 at_15 (teq (show (0 : Int32) = (0 : Int32) from (by decide))).2 rfl ?_
    refine g_iconst (pc' := 19) (v := (1 : Int32)) C X3 at_18 rfl rfl ?_
    refine g_goto (pc' := 23) C X3 at_19 (by decide) (by decide) ?_
    refine g_istore (pc' := 25) (Ls' := #[.val (.int p1), .val (.int (0 : Int32)), .val (.ref w_RSA_SHA1), .val (.int (1 : Int32)), .val (.int (1 : Int32)), .unset]) C X3 at_23 rfl rfl ?_
    refine g_aloadN (pc' := 26) C X3 at_25 rfl rfl rfl ?_
    refine g_callV (b := w_RSA_SHA1) (z := (⟨"org/vouchsafe/SignatureAlgorithm", "code", "()Ljava/lang/String;"⟩ : MethodName)) (y := (⟨"org/vouchsafe/SignatureAlgorithm", "code", "()Ljava/lang/String;"⟩ : MethodName)) (argsL := []) (st := []) (pc' := 29) C X3 at_26 (hw _ (List.mem_of_getElem? (i := 13) rfl)) (hw _ (List.mem_of_getElem? (i := 14) rfl)) (notFace_of_selects (args := #[]) (mvT C.hZ (hw _ (List.mem_of_getElem? (i := 16) rfl)))) (hw _ (List.mem_of_getElem? (i := 16) rfl)) (hw _ (List.mem_of_getElem? (i := 15) rfl)) (hw _ (List.mem_of_getElem? (i := 5) rfl)) (hw _ (List.mem_of_getElem? (i := 17) rfl)) (by decide) (rm3 l Z a0 hw [] w_RSA_SHA1 w_code_RSA_SHA1 w_RSA_SHA1 w_RSA_SHA512 w_RSA_SHA384 w_RSA_SHA256 w_code_RSA_SHA1 w_value_code_RSA_SHA1 w_code_RSA_SHA512 w_value_code_RSA_SHA512 w_code_RSA_SHA384 w_value_code_RSA_SHA384 w_code_RSA_SHA256 w_value_code_RSA_SHA256 k_value_code_RSA_SHA1 k_value_code_RSA_SHA512 k_value_code_RSA_SHA384 k_value_code_RSA_SHA256 cs h0 n0 hF F_w_code_RSA_SHA1) (W := 0) (by decide) (by decide) (ce := 0) (sl := 0) rfl rfl (by decide) (by decide) rfl E_w_RSA_SHA1 e3 rfl pd_3 rfl (Nat.le_refl _) rfl (fun v4 T4 L4 X4 Q4 => ?_)
    obtain ⟨q4, Nq4, e4⟩ := Q4
    have N4 := Fr.app N3 Nq4
    rw [F3_l0 w_code_RSA_SHA1] at q4
    subst q4
    show Go p.tables e below _ (T4.setTop (mkF m 29 #[.val (.int p1), .val (.int (0 : Int32)), .val (.ref w_RSA_SHA1), .val (.int (1 : Int32)), .val (.int (1 : Int32)), .unset] [(.ref w_code_RSA_SHA1)]))
    refine g_ldcV (vs := [(.int (114 : Int32)), (.int (115 : Int32)), (.int (97 : Int32)), (.int (45 : Int32)), (.int (115 : Int32)), (.int (104 : Int32)), (.int (97 : Int32)), (.int (49 : Int32))]) (z := (8 : Int32)) (pc' := 31) (n := 32) C X4 hS (Nat.zero_le _) at_29 (hw _ (List.mem_of_getElem? (i := 20) rfl)) (own_wS hw) e4 (hpx.1 ▸ N4) hpx.2.1 hpx.2.2 (by simp) hhl hcw ⟨by decide, rfl⟩ (by decide) rfl (by decide) (by decide) (ce := 2) (sl := 36) rfl rfl (by decide) (by decide) rfl (fun b5 T5 h5 k5 bb5 kk5 C X5 e5 E5 hS Kz5 A5 Fc5 Fv5 V5 => ?_)
    have S_w_RSA_SHA1_5 := S_w_RSA_SHA1.ext E5
    have S_w_RSA_SHA512_5 := S_w_RSA_SHA512.ext E5
    have S_w_RSA_SHA384_5 := S_w_RSA_SHA384.ext E5
    have S_w_RSA_SHA256_5 := S_w_RSA_SHA256.ext E5
    have E_w_RSA_SHA1_5 := E_w_RSA_SHA1.ext E5
    have F_w_code_RSA_SHA1_5 := F_w_code_RSA_SHA1.ext E5
    have E_w_code_RSA_SHA1_5 := E_w_code_RSA_SHA1.ext E5
    have F_coder_w_code_RSA_SHA1_5 := F_coder_w_code_RSA_SHA1.ext E5
    have F_w_value_code_RSA_SHA1_5 := F_w_value_code_RSA_SHA1.ext E5
    have E_w_RSA_SHA512_5 := E_w_RSA_SHA512.ext E5
    have F_ordinal_w_RSA_SHA512_5 := F_ordinal_w_RSA_SHA512.ext E5
    have F_ordinal_w_RSA_SHA1_5 := F_ordinal_w_RSA_SHA1.ext E5
    have F_w_code_RSA_SHA512_5 := F_w_code_RSA_SHA512.ext E5
    have E_w_code_RSA_SHA512_5 := E_w_code_RSA_SHA512.ext E5
    have F_coder_w_code_RSA_SHA512_5 := F_coder_w_code_RSA_SHA512.ext E5
    have F_w_value_code_RSA_SHA512_5 := F_w_value_code_RSA_SHA512.ext E5
    have E_w_RSA_SHA384_5 := E_w_RSA_SHA384.ext E5
    have F_ordinal_w_RSA_SHA384_5 := F_ordinal_w_RSA_SHA384.ext E5
    have F_w_code_RSA_SHA384_5 := F_w_code_RSA_SHA384.ext E5
    have E_w_code_RSA_SHA384_5 := E_w_code_RSA_SHA384.ext E5
    have F_coder_w_code_RSA_SHA384_5 := F_coder_w_code_RSA_SHA384.ext E5
    have F_w_value_code_RSA_SHA384_5 := F_w_value_code_RSA_SHA384.ext E5
    have E_w_RSA_SHA256_5 := E_w_RSA_SHA256.ext E5
    have F_ordinal_w_RSA_SHA256_5 := F_ordinal_w_RSA_SHA256.ext E5
    have F_w_code_RSA_SHA256_5 := F_w_code_RSA_SHA256.ext E5
    have E_w_code_RSA_SHA256_5 := E_w_code_RSA_SHA256.ext E5
    have F_coder_w_code_RSA_SHA256_5 := F_coder_w_code_RSA_SHA256.ext E5
    have F_w_value_code_RSA_SHA256_5 := F_w_value_code_RSA_SHA256.ext E5
    have V_w_value_code_RSA_SHA1_5 := V_w_value_code_RSA_SHA1.ext E5
    have V_w_value_code_RSA_SHA512_5 := V_w_value_code_RSA_SHA512.ext E5
    have V_w_value_code_RSA_SHA384_5 := V_w_value_code_RSA_SHA384.ext E5
    have V_w_value_code_RSA_SHA256_5 := V_w_value_code_RSA_SHA256.ext E5
    have S_cs_5 := S_cs.ext E5
    have Z5 := Nat.le_trans Z0 E5.1
    refine g_callV (b := w_code_RSA_SHA1) (z := (⟨"java/lang/String", "equals", "(Ljava/lang/Object;)Z"⟩ : MethodName)) (y := (⟨"java/lang/String", "equals", "(Ljava/lang/Object;)Z"⟩ : MethodName)) (argsL := [(.ref b5)]) (st := []) (pc' := 34) C X5 at_31 (hw _ (List.mem_of_getElem? (i := 28) rfl)) (hw _ (List.mem_of_getElem? (i := 29) rfl)) (notFace_of_selects (args := #[]) (mvT C.hZ (hw _ (List.mem_of_getElem? (i := 31) rfl)))) (hw _ (List.mem_of_getElem? (i := 31) rfl)) (hw _ (List.mem_of_getElem? (i := 30) rfl)) (hw _ (List.mem_of_getElem? (i := 21) rfl)) (hw _ (List.mem_of_getElem? (i := 32) rfl)) (by decide) (rm4e l Z a0 hw [] w_code_RSA_SHA1 b5 w_value_code_RSA_SHA1 bb5 k_value_code_RSA_SHA1 kk5 w_RSA_SHA1 w_RSA_SHA512 w_RSA_SHA384 w_RSA_SHA256 w_code_RSA_SHA1 w_value_code_RSA_SHA1 w_code_RSA_SHA512 w_value_code_RSA_SHA512 w_code_RSA_SHA384 w_value_code_RSA_SHA384 w_code_RSA_SHA256 w_value_code_RSA_SHA256 k_value_code_RSA_SHA1 k_value_code_RSA_SHA512 k_value_code_RSA_SHA384 k_value_code_RSA_SHA256 cs h5 n0 ⟨S_w_RSA_SHA1_5, S_w_RSA_SHA512_5, S_w_RSA_SHA384_5, S_w_RSA_SHA256_5, E_w_RSA_SHA1_5, F_w_code_RSA_SHA1_5, E_w_code_RSA_SHA1_5, F_coder_w_code_RSA_SHA1_5, F_w_value_code_RSA_SHA1_5, E_w_RSA_SHA512_5, F_ordinal_w_RSA_SHA512_5, F_ordinal_w_RSA_SHA1_5, F_w_code_RSA_SHA512_5, E_w_code_RSA_SHA512_5, F_coder_w_code_RSA_SHA512_5, F_w_value_code_RSA_SHA512_5, E_w_RSA_SHA384_5, F_ordinal_w_RSA_SHA384_5, F_w_code_RSA_SHA384_5, E_w_code_RSA_SHA384_5, F_coder_w_code_RSA_SHA384_5, F_w_value_code_RSA_SHA384_5, E_w_RSA_SHA256_5, F_ordinal_w_RSA_SHA256_5, F_w_code_RSA_SHA256_5, E_w_code_RSA_SHA256_5, F_coder_w_code_RSA_SHA256_5, F_w_value_code_RSA_SHA256_5, V_w_value_code_RSA_SHA1_5, V_w_value_code_RSA_SHA512_5, V_w_value_code_RSA_SHA384_5, V_w_value_code_RSA_SHA256_5, S_cs_5⟩ F_coder_w_code_RSA_SHA1_5 F_w_value_code_RSA_SHA1_5 Fc5 Fv5 A5 V_w_value_code_RSA_SHA1_5 V5 hcs) (W := 0) (by decide) (by decide) (ce := 2) (sl := 36) rfl rfl (by decide) (by decide) rfl E_w_code_RSA_SHA1_5 e5 rfl pd_4 rfl (Nat.le_refl _) rfl (fun v6 T6 L6 X6 Q6 => ?_)
    obtain ⟨q6, Nq6, e6⟩ := Q6
    have N6 := Fr.app N4 Nq6
    by_cases c7 : w_code_RSA_SHA1 = b5
    · rw [F4e_l0 w_code_RSA_SHA1 b5 c7] at q6
      subst q6
      show Go p.tables e below _ (T6.setTop (mkF m 34 #[.val (.int p1), .val (.int (0 : Int32)), .val (.ref w_RSA_SHA1), .val (.int (1 : Int32)), .val (.int (1 : Int32)), .unset] [(.int (1 : Int32))]))
      refine g_istore (pc' := 36) (Ls' := #[.val (.int p1), .val (.int (0 : Int32)), .val (.ref w_RSA_SHA1), .val (.int (1 : Int32)), .val (.int (1 : Int32)), .val (.int (1 : Int32))]) C X6 at_34 rfl rfl ?_
      refine g_iloadN (pc' := 37) C X6 at_36 rfl rfl ?_
      refine g_iload (pc' := 39) C X6 at_37 rfl rfl ?_
      refine g_icmpN (pc' := 42) C X6 at_39 (teq (show (1 : Int32) = (1 : Int32) from (by decide))).2 rfl ?_
      refine g_iloadN (pc' := 43) C X6 at_42 rfl rfl ?_
      refine g_iload (pc' := 45) C X6 at_43 rfl rfl ?_
      refine g_icmpN (pc' := 48) C X6 at_45 (teq (show (1 : Int32) = (1 : Int32) from (by decide))).2 rfl ?_
      refine g_iconst (pc' := 49) (v := (1 : Int32)) C X6 at_48 rfl rfl ?_
      refine g_goto (pc' := 53) C X6 at_49 (by decide) (by decide) ?_
      exact g_retNW C X6 hS (by rw [e6]; exact Kz5) (by simp) at_53 (by decide) (by decide) ⟨rfl, N6⟩
    · rw [F4e_l1 w_code_RSA_SHA1 b5 c7] at q6
      subst q6
      show Go p.tables e below _ (T6.setTop (mkF m 34 #[.val (.int p1), .val (.int (0 : Int32)), .val (.ref w_RSA_SHA1), .val (.int (1 : Int32)), .val (.int (1 : Int32)), .unset] [(.int (1 : Int32))]))
      refine g_istore (pc' := 36) (Ls' := #[.val (.int p1), .val (.int (0 : Int32)), .val (.ref w_RSA_SHA1), .val (.int (1 : Int32)), .val (.int (1 : Int32)), .val (.int (1 : Int32))]) C X6 at_34 rfl rfl ?_
      refine g_iloadN (pc' := 37) C X6 at_36 rfl rfl ?_
      refine g_iload (pc' := 39) C X6 at_37 rfl rfl ?_
      refine g_icmpN (pc' := 42) C X6 at_39 (teq (show (1 : Int32) = (1 : Int32) from (by decide))).2 rfl ?_
      refine g_iloadN (pc' := 43) C X6 at_42 rfl rfl ?_
      refine g_iload (pc' := 45) C X6 at_43 rfl rfl ?_
      refine g_icmpN (pc' := 48) C X6 at_45 (teq (show (1 : Int32) = (1 : Int32) from (by decide))).2 rfl ?_
      refine g_iconst (pc' := 49) (v := (1 : Int32)) C X6 at_48 rfl rfl ?_
      refine g_goto (pc' := 53) C X6 at_49 (by decide) (by decide) ?_
      exact g_retNW C X6 hS (by rw [e6]; exact Kz5) (by simp) at_53 (by decide) (by decide) ⟨rfl, N6⟩
  · refine own_cast (show T0.setTop (mkF m 4 #[.val (.int p1), .val (.int (p1 &&& (3 : Int32))), .unset, .unset, .unset, .unset] []) = T0.setTop (mkF m 4 #[.val (.int p1), .val (.int (1 : Int32)), .unset, .unset, .unset, .unset] []) from by rw [s1]) ?_
    refine g_iloadN (pc' := 5) C X0 at_4 rfl rfl ?_
    refine g_callS (y := (⟨"org/vouchsafe/SignatureAlgorithmSha1PinLaw", "pick", "(I)Lorg/vouchsafe/SignatureAlgorithm;"⟩ : MethodName)) (argsL := [(.int (1 : Int32))]) (st := []) (pc' := 8) C X0 at_5 (hw _ (List.mem_of_getElem? (i := 0) rfl)) (hw _ (List.mem_of_getElem? (i := 1) rfl)) (hw _ (List.mem_of_getElem? (i := 2) rfl)) (hw _ (List.mem_of_getElem? (i := 3) rfl)) (by decide) (rm1 l Z a0 hw [] (1 : Int32) w_RSA_SHA1 w_RSA_SHA512 w_RSA_SHA384 w_RSA_SHA256 w_code_RSA_SHA1 w_value_code_RSA_SHA1 w_code_RSA_SHA512 w_value_code_RSA_SHA512 w_code_RSA_SHA384 w_value_code_RSA_SHA384 w_code_RSA_SHA256 w_value_code_RSA_SHA256 k_value_code_RSA_SHA1 k_value_code_RSA_SHA512 k_value_code_RSA_SHA384 k_value_code_RSA_SHA256 cs h0 n0 hF) (W := 0) (by decide) (by decide) (ce := 0) (sl := 0) rfl rfl (by decide) (by decide) rfl e0 rfl pd_1 rfl (Nat.le_refl _) rfl (fun v8 T8 L8 X8 Q8 => ?_)
    obtain ⟨q8, Nq8, e8⟩ := Q8
    have N8 := Fr.app N0 Nq8
    rw [F1_l1 (1 : Int32) w_RSA_SHA1 w_RSA_SHA512 w_RSA_SHA384 w_RSA_SHA256 (show ¬ ((1 : Int32) = (0 : Int32)) from (by decide)) (show (1 : Int32) = (1 : Int32) from (by decide))] at q8
    subst q8
    show Go p.tables e below _ (T8.setTop (mkF m 8 #[.val (.int p1), .val (.int (1 : Int32)), .unset, .unset, .unset, .unset] [(.ref w_RSA_SHA256)]))
    refine g_astoreN (pc' := 9) (Ls' := #[.val (.int p1), .val (.int (1 : Int32)), .val (.ref w_RSA_SHA256), .unset, .unset, .unset]) C X8 at_8 rfl rfl rfl ?_
    refine g_aloadN (pc' := 10) C X8 at_9 rfl rfl rfl ?_
    refine g_callV (b := w_RSA_SHA256) (z := (⟨"org/vouchsafe/SignatureAlgorithm", "sha1", "()Z"⟩ : MethodName)) (y := (⟨"org/vouchsafe/SignatureAlgorithm", "sha1", "()Z"⟩ : MethodName)) (argsL := []) (st := []) (pc' := 13) C X8 at_10 (hw _ (List.mem_of_getElem? (i := 7) rfl)) (hw _ (List.mem_of_getElem? (i := 8) rfl)) (notFace_of_selects (args := #[]) (mvT C.hZ (hw _ (List.mem_of_getElem? (i := 10) rfl)))) (hw _ (List.mem_of_getElem? (i := 10) rfl)) (hw _ (List.mem_of_getElem? (i := 9) rfl)) (hw _ (List.mem_of_getElem? (i := 5) rfl)) (hw _ (List.mem_of_getElem? (i := 11) rfl)) (by decide) (rm2 l Z a0 hw [] w_RSA_SHA256 w_RSA_SHA1 w_RSA_SHA512 w_RSA_SHA384 w_RSA_SHA256 w_code_RSA_SHA1 w_value_code_RSA_SHA1 w_code_RSA_SHA512 w_value_code_RSA_SHA512 w_code_RSA_SHA384 w_value_code_RSA_SHA384 w_code_RSA_SHA256 w_value_code_RSA_SHA256 k_value_code_RSA_SHA1 k_value_code_RSA_SHA512 k_value_code_RSA_SHA384 k_value_code_RSA_SHA256 cs h0 n0 hF) (W := 0) (by decide) (by decide) (ce := 0) (sl := 0) rfl rfl (by decide) (by decide) rfl E_w_RSA_SHA256 e8 rfl pd_2 rfl (Nat.le_refl _) rfl (fun v9 T9 L9 X9 Q9 => ?_)
    obtain ⟨q9, Nq9, e9⟩ := Q9
    have N9 := Fr.app N8 Nq9
    rw [F2_l1 w_RSA_SHA256 w_RSA_SHA1 (show ¬ (w_RSA_SHA256 = w_RSA_SHA1) from (Ne.symm ne_w_RSA_SHA1_w_RSA_SHA256))] at q9
    subst q9
    show Go p.tables e below _ (T9.setTop (mkF m 13 #[.val (.int p1), .val (.int (1 : Int32)), .val (.ref w_RSA_SHA256), .unset, .unset, .unset] [(.int (0 : Int32))]))
    refine g_istoreN (pc' := 14) (Ls' := #[.val (.int p1), .val (.int (1 : Int32)), .val (.ref w_RSA_SHA256), .val (.int (0 : Int32)), .unset, .unset]) C X9 at_13 rfl rfl ?_
    refine g_iloadN (pc' := 15) C X9 at_14 rfl rfl ?_
    refine g_ifY (pc' := 22) C X9 at_15 (feq (show ¬ ((1 : Int32) = (0 : Int32)) from (by decide))).2 (by decide) (by decide) ?_
    refine g_iconst (pc' := 23) (v := (0 : Int32)) C X9 at_22 rfl rfl ?_
    refine g_istore (pc' := 25) (Ls' := #[.val (.int p1), .val (.int (1 : Int32)), .val (.ref w_RSA_SHA256), .val (.int (0 : Int32)), .val (.int (0 : Int32)), .unset]) C X9 at_23 rfl rfl ?_
    refine g_aloadN (pc' := 26) C X9 at_25 rfl rfl rfl ?_
    refine g_callV (b := w_RSA_SHA256) (z := (⟨"org/vouchsafe/SignatureAlgorithm", "code", "()Ljava/lang/String;"⟩ : MethodName)) (y := (⟨"org/vouchsafe/SignatureAlgorithm", "code", "()Ljava/lang/String;"⟩ : MethodName)) (argsL := []) (st := []) (pc' := 29) C X9 at_26 (hw _ (List.mem_of_getElem? (i := 13) rfl)) (hw _ (List.mem_of_getElem? (i := 14) rfl)) (notFace_of_selects (args := #[]) (mvT C.hZ (hw _ (List.mem_of_getElem? (i := 16) rfl)))) (hw _ (List.mem_of_getElem? (i := 16) rfl)) (hw _ (List.mem_of_getElem? (i := 15) rfl)) (hw _ (List.mem_of_getElem? (i := 5) rfl)) (hw _ (List.mem_of_getElem? (i := 17) rfl)) (by decide) (rm3 l Z a0 hw [] w_RSA_SHA256 w_code_RSA_SHA256 w_RSA_SHA1 w_RSA_SHA512 w_RSA_SHA384 w_RSA_SHA256 w_code_RSA_SHA1 w_value_code_RSA_SHA1 w_code_RSA_SHA512 w_value_code_RSA_SHA512 w_code_RSA_SHA384 w_value_code_RSA_SHA384 w_code_RSA_SHA256 w_value_code_RSA_SHA256 k_value_code_RSA_SHA1 k_value_code_RSA_SHA512 k_value_code_RSA_SHA384 k_value_code_RSA_SHA256 cs h0 n0 hF F_w_code_RSA_SHA256) (W := 0) (by decide) (by decide) (ce := 0) (sl := 0) rfl rfl (by decide) (by decide) rfl E_w_RSA_SHA256 e9 rfl pd_3 rfl (Nat.le_refl _) rfl (fun v10 T10 L10 X10 Q10 => ?_)
    obtain ⟨q10, Nq10, e10⟩ := Q10
    have N10 := Fr.app N9 Nq10
    rw [F3_l0 w_code_RSA_SHA256] at q10
    subst q10
    show Go p.tables e below _ (T10.setTop (mkF m 29 #[.val (.int p1), .val (.int (1 : Int32)), .val (.ref w_RSA_SHA256), .val (.int (0 : Int32)), .val (.int (0 : Int32)), .unset] [(.ref w_code_RSA_SHA256)]))
    refine g_ldcV (vs := [(.int (114 : Int32)), (.int (115 : Int32)), (.int (97 : Int32)), (.int (45 : Int32)), (.int (115 : Int32)), (.int (104 : Int32)), (.int (97 : Int32)), (.int (49 : Int32))]) (z := (8 : Int32)) (pc' := 31) (n := 32) C X10 hS (Nat.zero_le _) at_29 (hw _ (List.mem_of_getElem? (i := 20) rfl)) (own_wS hw) e10 (hpx.1 ▸ N10) hpx.2.1 hpx.2.2 (by simp) hhl hcw ⟨by decide, rfl⟩ (by decide) rfl (by decide) (by decide) (ce := 2) (sl := 36) rfl rfl (by decide) (by decide) rfl (fun b11 T11 h11 k11 bb11 kk11 C X11 e11 E11 hS Kz11 A11 Fc11 Fv11 V11 => ?_)
    have S_w_RSA_SHA1_11 := S_w_RSA_SHA1.ext E11
    have S_w_RSA_SHA512_11 := S_w_RSA_SHA512.ext E11
    have S_w_RSA_SHA384_11 := S_w_RSA_SHA384.ext E11
    have S_w_RSA_SHA256_11 := S_w_RSA_SHA256.ext E11
    have E_w_RSA_SHA1_11 := E_w_RSA_SHA1.ext E11
    have F_w_code_RSA_SHA1_11 := F_w_code_RSA_SHA1.ext E11
    have E_w_code_RSA_SHA1_11 := E_w_code_RSA_SHA1.ext E11
    have F_coder_w_code_RSA_SHA1_11 := F_coder_w_code_RSA_SHA1.ext E11
    have F_w_value_code_RSA_SHA1_11 := F_w_value_code_RSA_SHA1.ext E11
    have E_w_RSA_SHA512_11 := E_w_RSA_SHA512.ext E11
    have F_ordinal_w_RSA_SHA512_11 := F_ordinal_w_RSA_SHA512.ext E11
    have F_ordinal_w_RSA_SHA1_11 := F_ordinal_w_RSA_SHA1.ext E11
    have F_w_code_RSA_SHA512_11 := F_w_code_RSA_SHA512.ext E11
    have E_w_code_RSA_SHA512_11 := E_w_code_RSA_SHA512.ext E11
    have F_coder_w_code_RSA_SHA512_11 := F_coder_w_code_RSA_SHA512.ext E11
    have F_w_value_code_RSA_SHA512_11 := F_w_value_code_RSA_SHA512.ext E11
    have E_w_RSA_SHA384_11 := E_w_RSA_SHA384.ext E11
    have F_ordinal_w_RSA_SHA384_11 := F_ordinal_w_RSA_SHA384.ext E11
    have F_w_code_RSA_SHA384_11 := F_w_code_RSA_SHA384.ext E11
    have E_w_code_RSA_SHA384_11 := E_w_code_RSA_SHA384.ext E11
    have F_coder_w_code_RSA_SHA384_11 := F_coder_w_code_RSA_SHA384.ext E11
    have F_w_value_code_RSA_SHA384_11 := F_w_value_code_RSA_SHA384.ext E11
    have E_w_RSA_SHA256_11 := E_w_RSA_SHA256.ext E11
    have F_ordinal_w_RSA_SHA256_11 := F_ordinal_w_RSA_SHA256.ext E11
    have F_w_code_RSA_SHA256_11 := F_w_code_RSA_SHA256.ext E11
    have E_w_code_RSA_SHA256_11 := E_w_code_RSA_SHA256.ext E11
    have F_coder_w_code_RSA_SHA256_11 := F_coder_w_code_RSA_SHA256.ext E11
    have F_w_value_code_RSA_SHA256_11 := F_w_value_code_RSA_SHA256.ext E11
    have V_w_value_code_RSA_SHA1_11 := V_w_value_code_RSA_SHA1.ext E11
    have V_w_value_code_RSA_SHA512_11 := V_w_value_code_RSA_SHA512.ext E11
    have V_w_value_code_RSA_SHA384_11 := V_w_value_code_RSA_SHA384.ext E11
    have V_w_value_code_RSA_SHA256_11 := V_w_value_code_RSA_SHA256.ext E11
    have S_cs_11 := S_cs.ext E11
    have Z11 := Nat.le_trans Z0 E11.1
    have nl12 : ¬ (w_code_RSA_SHA256 = b11) := Fld.ne F_w_value_code_RSA_SHA256_11 Fv11 (fun q => own_arv_ne V_w_value_code_RSA_SHA256_11 V11 (by decide) (Value.ref.inj q))
    refine g_callV (b := w_code_RSA_SHA256) (z := (⟨"java/lang/String", "equals", "(Ljava/lang/Object;)Z"⟩ : MethodName)) (y := (⟨"java/lang/String", "equals", "(Ljava/lang/Object;)Z"⟩ : MethodName)) (argsL := [(.ref b11)]) (st := []) (pc' := 34) C X11 at_31 (hw _ (List.mem_of_getElem? (i := 28) rfl)) (hw _ (List.mem_of_getElem? (i := 29) rfl)) (notFace_of_selects (args := #[]) (mvT C.hZ (hw _ (List.mem_of_getElem? (i := 31) rfl)))) (hw _ (List.mem_of_getElem? (i := 31) rfl)) (hw _ (List.mem_of_getElem? (i := 30) rfl)) (hw _ (List.mem_of_getElem? (i := 21) rfl)) (hw _ (List.mem_of_getElem? (i := 32) rfl)) (by decide) (rm4n l Z a0 hw [] w_code_RSA_SHA256 b11 w_value_code_RSA_SHA256 bb11 k_value_code_RSA_SHA256 kk11 (114 : Int32) (115 : Int32) (97 : Int32) (45 : Int32) (115 : Int32) (104 : Int32) (97 : Int32) (50 : Int32) (53 : Int32) (54 : Int32) w_RSA_SHA1 w_RSA_SHA512 w_RSA_SHA384 w_RSA_SHA256 w_code_RSA_SHA1 w_value_code_RSA_SHA1 w_code_RSA_SHA512 w_value_code_RSA_SHA512 w_code_RSA_SHA384 w_value_code_RSA_SHA384 w_code_RSA_SHA256 w_value_code_RSA_SHA256 k_value_code_RSA_SHA1 k_value_code_RSA_SHA512 k_value_code_RSA_SHA384 k_value_code_RSA_SHA256 cs h11 n0 ⟨S_w_RSA_SHA1_11, S_w_RSA_SHA512_11, S_w_RSA_SHA384_11, S_w_RSA_SHA256_11, E_w_RSA_SHA1_11, F_w_code_RSA_SHA1_11, E_w_code_RSA_SHA1_11, F_coder_w_code_RSA_SHA1_11, F_w_value_code_RSA_SHA1_11, E_w_RSA_SHA512_11, F_ordinal_w_RSA_SHA512_11, F_ordinal_w_RSA_SHA1_11, F_w_code_RSA_SHA512_11, E_w_code_RSA_SHA512_11, F_coder_w_code_RSA_SHA512_11, F_w_value_code_RSA_SHA512_11, E_w_RSA_SHA384_11, F_ordinal_w_RSA_SHA384_11, F_w_code_RSA_SHA384_11, E_w_code_RSA_SHA384_11, F_coder_w_code_RSA_SHA384_11, F_w_value_code_RSA_SHA384_11, E_w_RSA_SHA256_11, F_ordinal_w_RSA_SHA256_11, F_w_code_RSA_SHA256_11, E_w_code_RSA_SHA256_11, F_coder_w_code_RSA_SHA256_11, F_w_value_code_RSA_SHA256_11, V_w_value_code_RSA_SHA1_11, V_w_value_code_RSA_SHA512_11, V_w_value_code_RSA_SHA384_11, V_w_value_code_RSA_SHA256_11, S_cs_11⟩ F_coder_w_code_RSA_SHA256_11 F_w_value_code_RSA_SHA256_11 Fc11 Fv11 A11 V_w_value_code_RSA_SHA256_11 V11 hcs nl12) (W := 0) (by decide) (by decide) (ce := 2) (sl := 36) rfl rfl (by decide) (by decide) rfl E_w_code_RSA_SHA256_11 e11 rfl pd_4 rfl (Nat.le_refl _) rfl (fun v13 T13 L13 X13 Q13 => ?_)
    obtain ⟨q13, Nq13, e13⟩ := Q13
    have N13 := Fr.app N10 Nq13
    rw [F4n_l0 ] at q13
    subst q13
    show Go p.tables e below _ (T13.setTop (mkF m 34 #[.val (.int p1), .val (.int (1 : Int32)), .val (.ref w_RSA_SHA256), .val (.int (0 : Int32)), .val (.int (0 : Int32)), .unset] [(.int (0 : Int32))]))
    refine g_istore (pc' := 36) (Ls' := #[.val (.int p1), .val (.int (1 : Int32)), .val (.ref w_RSA_SHA256), .val (.int (0 : Int32)), .val (.int (0 : Int32)), .val (.int (0 : Int32))]) C X13 at_34 rfl rfl ?_
    refine g_iloadN (pc' := 37) C X13 at_36 rfl rfl ?_
    refine g_iload (pc' := 39) C X13 at_37 rfl rfl ?_
    refine g_icmpN (pc' := 42) C X13 at_39 (teq (show (0 : Int32) = (0 : Int32) from (by decide))).2 rfl ?_
    refine g_iloadN (pc' := 43) C X13 at_42 rfl rfl ?_
    refine g_iload (pc' := 45) C X13 at_43 rfl rfl ?_
    refine g_icmpN (pc' := 48) C X13 at_45 (teq (show (0 : Int32) = (0 : Int32) from (by decide))).2 rfl ?_
    refine g_iconst (pc' := 49) (v := (1 : Int32)) C X13 at_48 rfl rfl ?_
    refine g_goto (pc' := 53) C X13 at_49 (by decide) (by decide) ?_
    exact g_retNW C X13 hS (by rw [e13]; exact Kz11) (by simp) at_53 (by decide) (by decide) ⟨rfl, N13⟩
  · refine own_cast (show T0.setTop (mkF m 4 #[.val (.int p1), .val (.int (p1 &&& (3 : Int32))), .unset, .unset, .unset, .unset] []) = T0.setTop (mkF m 4 #[.val (.int p1), .val (.int (2 : Int32)), .unset, .unset, .unset, .unset] []) from by rw [s1]) ?_
    refine g_iloadN (pc' := 5) C X0 at_4 rfl rfl ?_
    refine g_callS (y := (⟨"org/vouchsafe/SignatureAlgorithmSha1PinLaw", "pick", "(I)Lorg/vouchsafe/SignatureAlgorithm;"⟩ : MethodName)) (argsL := [(.int (2 : Int32))]) (st := []) (pc' := 8) C X0 at_5 (hw _ (List.mem_of_getElem? (i := 0) rfl)) (hw _ (List.mem_of_getElem? (i := 1) rfl)) (hw _ (List.mem_of_getElem? (i := 2) rfl)) (hw _ (List.mem_of_getElem? (i := 3) rfl)) (by decide) (rm1 l Z a0 hw [] (2 : Int32) w_RSA_SHA1 w_RSA_SHA512 w_RSA_SHA384 w_RSA_SHA256 w_code_RSA_SHA1 w_value_code_RSA_SHA1 w_code_RSA_SHA512 w_value_code_RSA_SHA512 w_code_RSA_SHA384 w_value_code_RSA_SHA384 w_code_RSA_SHA256 w_value_code_RSA_SHA256 k_value_code_RSA_SHA1 k_value_code_RSA_SHA512 k_value_code_RSA_SHA384 k_value_code_RSA_SHA256 cs h0 n0 hF) (W := 0) (by decide) (by decide) (ce := 0) (sl := 0) rfl rfl (by decide) (by decide) rfl e0 rfl pd_1 rfl (Nat.le_refl _) rfl (fun v14 T14 L14 X14 Q14 => ?_)
    obtain ⟨q14, Nq14, e14⟩ := Q14
    have N14 := Fr.app N0 Nq14
    rw [F1_l2 (2 : Int32) w_RSA_SHA1 w_RSA_SHA512 w_RSA_SHA384 w_RSA_SHA256 (show ¬ ((2 : Int32) = (0 : Int32)) from (by decide)) (show ¬ ((2 : Int32) = (1 : Int32)) from (by decide)) (show (2 : Int32) = (2 : Int32) from (by decide))] at q14
    subst q14
    show Go p.tables e below _ (T14.setTop (mkF m 8 #[.val (.int p1), .val (.int (2 : Int32)), .unset, .unset, .unset, .unset] [(.ref w_RSA_SHA384)]))
    refine g_astoreN (pc' := 9) (Ls' := #[.val (.int p1), .val (.int (2 : Int32)), .val (.ref w_RSA_SHA384), .unset, .unset, .unset]) C X14 at_8 rfl rfl rfl ?_
    refine g_aloadN (pc' := 10) C X14 at_9 rfl rfl rfl ?_
    refine g_callV (b := w_RSA_SHA384) (z := (⟨"org/vouchsafe/SignatureAlgorithm", "sha1", "()Z"⟩ : MethodName)) (y := (⟨"org/vouchsafe/SignatureAlgorithm", "sha1", "()Z"⟩ : MethodName)) (argsL := []) (st := []) (pc' := 13) C X14 at_10 (hw _ (List.mem_of_getElem? (i := 7) rfl)) (hw _ (List.mem_of_getElem? (i := 8) rfl)) (notFace_of_selects (args := #[]) (mvT C.hZ (hw _ (List.mem_of_getElem? (i := 10) rfl)))) (hw _ (List.mem_of_getElem? (i := 10) rfl)) (hw _ (List.mem_of_getElem? (i := 9) rfl)) (hw _ (List.mem_of_getElem? (i := 5) rfl)) (hw _ (List.mem_of_getElem? (i := 11) rfl)) (by decide) (rm2 l Z a0 hw [] w_RSA_SHA384 w_RSA_SHA1 w_RSA_SHA512 w_RSA_SHA384 w_RSA_SHA256 w_code_RSA_SHA1 w_value_code_RSA_SHA1 w_code_RSA_SHA512 w_value_code_RSA_SHA512 w_code_RSA_SHA384 w_value_code_RSA_SHA384 w_code_RSA_SHA256 w_value_code_RSA_SHA256 k_value_code_RSA_SHA1 k_value_code_RSA_SHA512 k_value_code_RSA_SHA384 k_value_code_RSA_SHA256 cs h0 n0 hF) (W := 0) (by decide) (by decide) (ce := 0) (sl := 0) rfl rfl (by decide) (by decide) rfl E_w_RSA_SHA384 e14 rfl pd_2 rfl (Nat.le_refl _) rfl (fun v15 T15 L15 X15 Q15 => ?_)
    obtain ⟨q15, Nq15, e15⟩ := Q15
    have N15 := Fr.app N14 Nq15
    rw [F2_l1 w_RSA_SHA384 w_RSA_SHA1 (show ¬ (w_RSA_SHA384 = w_RSA_SHA1) from (Ne.symm ne_w_RSA_SHA1_w_RSA_SHA384))] at q15
    subst q15
    show Go p.tables e below _ (T15.setTop (mkF m 13 #[.val (.int p1), .val (.int (2 : Int32)), .val (.ref w_RSA_SHA384), .unset, .unset, .unset] [(.int (0 : Int32))]))
    refine g_istoreN (pc' := 14) (Ls' := #[.val (.int p1), .val (.int (2 : Int32)), .val (.ref w_RSA_SHA384), .val (.int (0 : Int32)), .unset, .unset]) C X15 at_13 rfl rfl ?_
    refine g_iloadN (pc' := 15) C X15 at_14 rfl rfl ?_
    refine g_ifY (pc' := 22) C X15 at_15 (feq (show ¬ ((2 : Int32) = (0 : Int32)) from (by decide))).2 (by decide) (by decide) ?_
    refine g_iconst (pc' := 23) (v := (0 : Int32)) C X15 at_22 rfl rfl ?_
    refine g_istore (pc' := 25) (Ls' := #[.val (.int p1), .val (.int (2 : Int32)), .val (.ref w_RSA_SHA384), .val (.int (0 : Int32)), .val (.int (0 : Int32)), .unset]) C X15 at_23 rfl rfl ?_
    refine g_aloadN (pc' := 26) C X15 at_25 rfl rfl rfl ?_
    refine g_callV (b := w_RSA_SHA384) (z := (⟨"org/vouchsafe/SignatureAlgorithm", "code", "()Ljava/lang/String;"⟩ : MethodName)) (y := (⟨"org/vouchsafe/SignatureAlgorithm", "code", "()Ljava/lang/String;"⟩ : MethodName)) (argsL := []) (st := []) (pc' := 29) C X15 at_26 (hw _ (List.mem_of_getElem? (i := 13) rfl)) (hw _ (List.mem_of_getElem? (i := 14) rfl)) (notFace_of_selects (args := #[]) (mvT C.hZ (hw _ (List.mem_of_getElem? (i := 16) rfl)))) (hw _ (List.mem_of_getElem? (i := 16) rfl)) (hw _ (List.mem_of_getElem? (i := 15) rfl)) (hw _ (List.mem_of_getElem? (i := 5) rfl)) (hw _ (List.mem_of_getElem? (i := 17) rfl)) (by decide) (rm3 l Z a0 hw [] w_RSA_SHA384 w_code_RSA_SHA384 w_RSA_SHA1 w_RSA_SHA512 w_RSA_SHA384 w_RSA_SHA256 w_code_RSA_SHA1 w_value_code_RSA_SHA1 w_code_RSA_SHA512 w_value_code_RSA_SHA512 w_code_RSA_SHA384 w_value_code_RSA_SHA384 w_code_RSA_SHA256 w_value_code_RSA_SHA256 k_value_code_RSA_SHA1 k_value_code_RSA_SHA512 k_value_code_RSA_SHA384 k_value_code_RSA_SHA256 cs h0 n0 hF F_w_code_RSA_SHA384) (W := 0) (by decide) (by decide) (ce := 0) (sl := 0) rfl rfl (by decide) (by decide) rfl E_w_RSA_SHA384 e15 rfl pd_3 rfl (Nat.le_refl _) rfl (fun v16 T16 L16 X16 Q16 => ?_)
    obtain ⟨q16, Nq16, e16⟩ := Q16
    have N16 := Fr.app N15 Nq16
    rw [F3_l0 w_code_RSA_SHA384] at q16
    subst q16
    show Go p.tables e below _ (T16.setTop (mkF m 29 #[.val (.int p1), .val (.int (2 : Int32)), .val (.ref w_RSA_SHA384), .val (.int (0 : Int32)), .val (.int (0 : Int32)), .unset] [(.ref w_code_RSA_SHA384)]))
    refine g_ldcV (vs := [(.int (114 : Int32)), (.int (115 : Int32)), (.int (97 : Int32)), (.int (45 : Int32)), (.int (115 : Int32)), (.int (104 : Int32)), (.int (97 : Int32)), (.int (49 : Int32))]) (z := (8 : Int32)) (pc' := 31) (n := 32) C X16 hS (Nat.zero_le _) at_29 (hw _ (List.mem_of_getElem? (i := 20) rfl)) (own_wS hw) e16 (hpx.1 ▸ N16) hpx.2.1 hpx.2.2 (by simp) hhl hcw ⟨by decide, rfl⟩ (by decide) rfl (by decide) (by decide) (ce := 2) (sl := 36) rfl rfl (by decide) (by decide) rfl (fun b17 T17 h17 k17 bb17 kk17 C X17 e17 E17 hS Kz17 A17 Fc17 Fv17 V17 => ?_)
    have S_w_RSA_SHA1_17 := S_w_RSA_SHA1.ext E17
    have S_w_RSA_SHA512_17 := S_w_RSA_SHA512.ext E17
    have S_w_RSA_SHA384_17 := S_w_RSA_SHA384.ext E17
    have S_w_RSA_SHA256_17 := S_w_RSA_SHA256.ext E17
    have E_w_RSA_SHA1_17 := E_w_RSA_SHA1.ext E17
    have F_w_code_RSA_SHA1_17 := F_w_code_RSA_SHA1.ext E17
    have E_w_code_RSA_SHA1_17 := E_w_code_RSA_SHA1.ext E17
    have F_coder_w_code_RSA_SHA1_17 := F_coder_w_code_RSA_SHA1.ext E17
    have F_w_value_code_RSA_SHA1_17 := F_w_value_code_RSA_SHA1.ext E17
    have E_w_RSA_SHA512_17 := E_w_RSA_SHA512.ext E17
    have F_ordinal_w_RSA_SHA512_17 := F_ordinal_w_RSA_SHA512.ext E17
    have F_ordinal_w_RSA_SHA1_17 := F_ordinal_w_RSA_SHA1.ext E17
    have F_w_code_RSA_SHA512_17 := F_w_code_RSA_SHA512.ext E17
    have E_w_code_RSA_SHA512_17 := E_w_code_RSA_SHA512.ext E17
    have F_coder_w_code_RSA_SHA512_17 := F_coder_w_code_RSA_SHA512.ext E17
    have F_w_value_code_RSA_SHA512_17 := F_w_value_code_RSA_SHA512.ext E17
    have E_w_RSA_SHA384_17 := E_w_RSA_SHA384.ext E17
    have F_ordinal_w_RSA_SHA384_17 := F_ordinal_w_RSA_SHA384.ext E17
    have F_w_code_RSA_SHA384_17 := F_w_code_RSA_SHA384.ext E17
    have E_w_code_RSA_SHA384_17 := E_w_code_RSA_SHA384.ext E17
    have F_coder_w_code_RSA_SHA384_17 := F_coder_w_code_RSA_SHA384.ext E17
    have F_w_value_code_RSA_SHA384_17 := F_w_value_code_RSA_SHA384.ext E17
    have E_w_RSA_SHA256_17 := E_w_RSA_SHA256.ext E17
    have F_ordinal_w_RSA_SHA256_17 := F_ordinal_w_RSA_SHA256.ext E17
    have F_w_code_RSA_SHA256_17 := F_w_code_RSA_SHA256.ext E17
    have E_w_code_RSA_SHA256_17 := E_w_code_RSA_SHA256.ext E17
    have F_coder_w_code_RSA_SHA256_17 := F_coder_w_code_RSA_SHA256.ext E17
    have F_w_value_code_RSA_SHA256_17 := F_w_value_code_RSA_SHA256.ext E17
    have V_w_value_code_RSA_SHA1_17 := V_w_value_code_RSA_SHA1.ext E17
    have V_w_value_code_RSA_SHA512_17 := V_w_value_code_RSA_SHA512.ext E17
    have V_w_value_code_RSA_SHA384_17 := V_w_value_code_RSA_SHA384.ext E17
    have V_w_value_code_RSA_SHA256_17 := V_w_value_code_RSA_SHA256.ext E17
    have S_cs_17 := S_cs.ext E17
    have Z17 := Nat.le_trans Z0 E17.1
    have nl18 : ¬ (w_code_RSA_SHA384 = b17) := Fld.ne F_w_value_code_RSA_SHA384_17 Fv17 (fun q => own_arv_ne V_w_value_code_RSA_SHA384_17 V17 (by decide) (Value.ref.inj q))
    refine g_callV (b := w_code_RSA_SHA384) (z := (⟨"java/lang/String", "equals", "(Ljava/lang/Object;)Z"⟩ : MethodName)) (y := (⟨"java/lang/String", "equals", "(Ljava/lang/Object;)Z"⟩ : MethodName)) (argsL := [(.ref b17)]) (st := []) (pc' := 34) C X17 at_31 (hw _ (List.mem_of_getElem? (i := 28) rfl)) (hw _ (List.mem_of_getElem? (i := 29) rfl)) (notFace_of_selects (args := #[]) (mvT C.hZ (hw _ (List.mem_of_getElem? (i := 31) rfl)))) (hw _ (List.mem_of_getElem? (i := 31) rfl)) (hw _ (List.mem_of_getElem? (i := 30) rfl)) (hw _ (List.mem_of_getElem? (i := 21) rfl)) (hw _ (List.mem_of_getElem? (i := 32) rfl)) (by decide) (rm4n l Z a0 hw [] w_code_RSA_SHA384 b17 w_value_code_RSA_SHA384 bb17 k_value_code_RSA_SHA384 kk17 (114 : Int32) (115 : Int32) (97 : Int32) (45 : Int32) (115 : Int32) (104 : Int32) (97 : Int32) (51 : Int32) (56 : Int32) (52 : Int32) w_RSA_SHA1 w_RSA_SHA512 w_RSA_SHA384 w_RSA_SHA256 w_code_RSA_SHA1 w_value_code_RSA_SHA1 w_code_RSA_SHA512 w_value_code_RSA_SHA512 w_code_RSA_SHA384 w_value_code_RSA_SHA384 w_code_RSA_SHA256 w_value_code_RSA_SHA256 k_value_code_RSA_SHA1 k_value_code_RSA_SHA512 k_value_code_RSA_SHA384 k_value_code_RSA_SHA256 cs h17 n0 ⟨S_w_RSA_SHA1_17, S_w_RSA_SHA512_17, S_w_RSA_SHA384_17, S_w_RSA_SHA256_17, E_w_RSA_SHA1_17, F_w_code_RSA_SHA1_17, E_w_code_RSA_SHA1_17, F_coder_w_code_RSA_SHA1_17, F_w_value_code_RSA_SHA1_17, E_w_RSA_SHA512_17, F_ordinal_w_RSA_SHA512_17, F_ordinal_w_RSA_SHA1_17, F_w_code_RSA_SHA512_17, E_w_code_RSA_SHA512_17, F_coder_w_code_RSA_SHA512_17, F_w_value_code_RSA_SHA512_17, E_w_RSA_SHA384_17, F_ordinal_w_RSA_SHA384_17, F_w_code_RSA_SHA384_17, E_w_code_RSA_SHA384_17, F_coder_w_code_RSA_SHA384_17, F_w_value_code_RSA_SHA384_17, E_w_RSA_SHA256_17, F_ordinal_w_RSA_SHA256_17, F_w_code_RSA_SHA256_17, E_w_code_RSA_SHA256_17, F_coder_w_code_RSA_SHA256_17, F_w_value_code_RSA_SHA256_17, V_w_value_code_RSA_SHA1_17, V_w_value_code_RSA_SHA512_17, V_w_value_code_RSA_SHA384_17, V_w_value_code_RSA_SHA256_17, S_cs_17⟩ F_coder_w_code_RSA_SHA384_17 F_w_value_code_RSA_SHA384_17 Fc17 Fv17 A17 V_w_value_code_RSA_SHA384_17 V17 hcs nl18) (W := 0) (by decide) (by decide) (ce := 2) (sl := 36) rfl rfl (by decide) (by decide) rfl E_w_code_RSA_SHA384_17 e17 rfl pd_4 rfl (Nat.le_refl _) rfl (fun v19 T19 L19 X19 Q19 => ?_)
    obtain ⟨q19, Nq19, e19⟩ := Q19
    have N19 := Fr.app N16 Nq19
    rw [F4n_l0 ] at q19
    subst q19
    show Go p.tables e below _ (T19.setTop (mkF m 34 #[.val (.int p1), .val (.int (2 : Int32)), .val (.ref w_RSA_SHA384), .val (.int (0 : Int32)), .val (.int (0 : Int32)), .unset] [(.int (0 : Int32))]))
    refine g_istore (pc' := 36) (Ls' := #[.val (.int p1), .val (.int (2 : Int32)), .val (.ref w_RSA_SHA384), .val (.int (0 : Int32)), .val (.int (0 : Int32)), .val (.int (0 : Int32))]) C X19 at_34 rfl rfl ?_
    refine g_iloadN (pc' := 37) C X19 at_36 rfl rfl ?_
    refine g_iload (pc' := 39) C X19 at_37 rfl rfl ?_
    refine g_icmpN (pc' := 42) C X19 at_39 (teq (show (0 : Int32) = (0 : Int32) from (by decide))).2 rfl ?_
    refine g_iloadN (pc' := 43) C X19 at_42 rfl rfl ?_
    refine g_iload (pc' := 45) C X19 at_43 rfl rfl ?_
    refine g_icmpN (pc' := 48) C X19 at_45 (teq (show (0 : Int32) = (0 : Int32) from (by decide))).2 rfl ?_
    refine g_iconst (pc' := 49) (v := (1 : Int32)) C X19 at_48 rfl rfl ?_
    refine g_goto (pc' := 53) C X19 at_49 (by decide) (by decide) ?_
    exact g_retNW C X19 hS (by rw [e19]; exact Kz17) (by simp) at_53 (by decide) (by decide) ⟨rfl, N19⟩
  · refine own_cast (show T0.setTop (mkF m 4 #[.val (.int p1), .val (.int (p1 &&& (3 : Int32))), .unset, .unset, .unset, .unset] []) = T0.setTop (mkF m 4 #[.val (.int p1), .val (.int (3 : Int32)), .unset, .unset, .unset, .unset] []) from by rw [s1]) ?_
    refine g_iloadN (pc' := 5) C X0 at_4 rfl rfl ?_
    refine g_callS (y := (⟨"org/vouchsafe/SignatureAlgorithmSha1PinLaw", "pick", "(I)Lorg/vouchsafe/SignatureAlgorithm;"⟩ : MethodName)) (argsL := [(.int (3 : Int32))]) (st := []) (pc' := 8) C X0 at_5 (hw _ (List.mem_of_getElem? (i := 0) rfl)) (hw _ (List.mem_of_getElem? (i := 1) rfl)) (hw _ (List.mem_of_getElem? (i := 2) rfl)) (hw _ (List.mem_of_getElem? (i := 3) rfl)) (by decide) (rm1 l Z a0 hw [] (3 : Int32) w_RSA_SHA1 w_RSA_SHA512 w_RSA_SHA384 w_RSA_SHA256 w_code_RSA_SHA1 w_value_code_RSA_SHA1 w_code_RSA_SHA512 w_value_code_RSA_SHA512 w_code_RSA_SHA384 w_value_code_RSA_SHA384 w_code_RSA_SHA256 w_value_code_RSA_SHA256 k_value_code_RSA_SHA1 k_value_code_RSA_SHA512 k_value_code_RSA_SHA384 k_value_code_RSA_SHA256 cs h0 n0 hF) (W := 0) (by decide) (by decide) (ce := 0) (sl := 0) rfl rfl (by decide) (by decide) rfl e0 rfl pd_1 rfl (Nat.le_refl _) rfl (fun v20 T20 L20 X20 Q20 => ?_)
    obtain ⟨q20, Nq20, e20⟩ := Q20
    have N20 := Fr.app N0 Nq20
    rw [F1_l3 (3 : Int32) w_RSA_SHA1 w_RSA_SHA512 w_RSA_SHA384 w_RSA_SHA256 (show ¬ ((3 : Int32) = (0 : Int32)) from (by decide)) (show ¬ ((3 : Int32) = (1 : Int32)) from (by decide)) (show ¬ ((3 : Int32) = (2 : Int32)) from (by decide))] at q20
    subst q20
    show Go p.tables e below _ (T20.setTop (mkF m 8 #[.val (.int p1), .val (.int (3 : Int32)), .unset, .unset, .unset, .unset] [(.ref w_RSA_SHA512)]))
    refine g_astoreN (pc' := 9) (Ls' := #[.val (.int p1), .val (.int (3 : Int32)), .val (.ref w_RSA_SHA512), .unset, .unset, .unset]) C X20 at_8 rfl rfl rfl ?_
    refine g_aloadN (pc' := 10) C X20 at_9 rfl rfl rfl ?_
    refine g_callV (b := w_RSA_SHA512) (z := (⟨"org/vouchsafe/SignatureAlgorithm", "sha1", "()Z"⟩ : MethodName)) (y := (⟨"org/vouchsafe/SignatureAlgorithm", "sha1", "()Z"⟩ : MethodName)) (argsL := []) (st := []) (pc' := 13) C X20 at_10 (hw _ (List.mem_of_getElem? (i := 7) rfl)) (hw _ (List.mem_of_getElem? (i := 8) rfl)) (notFace_of_selects (args := #[]) (mvT C.hZ (hw _ (List.mem_of_getElem? (i := 10) rfl)))) (hw _ (List.mem_of_getElem? (i := 10) rfl)) (hw _ (List.mem_of_getElem? (i := 9) rfl)) (hw _ (List.mem_of_getElem? (i := 5) rfl)) (hw _ (List.mem_of_getElem? (i := 11) rfl)) (by decide) (rm2 l Z a0 hw [] w_RSA_SHA512 w_RSA_SHA1 w_RSA_SHA512 w_RSA_SHA384 w_RSA_SHA256 w_code_RSA_SHA1 w_value_code_RSA_SHA1 w_code_RSA_SHA512 w_value_code_RSA_SHA512 w_code_RSA_SHA384 w_value_code_RSA_SHA384 w_code_RSA_SHA256 w_value_code_RSA_SHA256 k_value_code_RSA_SHA1 k_value_code_RSA_SHA512 k_value_code_RSA_SHA384 k_value_code_RSA_SHA256 cs h0 n0 hF) (W := 0) (by decide) (by decide) (ce := 0) (sl := 0) rfl rfl (by decide) (by decide) rfl E_w_RSA_SHA512 e20 rfl pd_2 rfl (Nat.le_refl _) rfl (fun v21 T21 L21 X21 Q21 => ?_)
    obtain ⟨q21, Nq21, e21⟩ := Q21
    have N21 := Fr.app N20 Nq21
    rw [F2_l1 w_RSA_SHA512 w_RSA_SHA1 ne_w_RSA_SHA512_w_RSA_SHA1] at q21
    subst q21
    show Go p.tables e below _ (T21.setTop (mkF m 13 #[.val (.int p1), .val (.int (3 : Int32)), .val (.ref w_RSA_SHA512), .unset, .unset, .unset] [(.int (0 : Int32))]))
    refine g_istoreN (pc' := 14) (Ls' := #[.val (.int p1), .val (.int (3 : Int32)), .val (.ref w_RSA_SHA512), .val (.int (0 : Int32)), .unset, .unset]) C X21 at_13 rfl rfl ?_
    refine g_iloadN (pc' := 15) C X21 at_14 rfl rfl ?_
    refine g_ifY (pc' := 22) C X21 at_15 (feq (show ¬ ((3 : Int32) = (0 : Int32)) from (by decide))).2 (by decide) (by decide) ?_
    refine g_iconst (pc' := 23) (v := (0 : Int32)) C X21 at_22 rfl rfl ?_
    refine g_istore (pc' := 25) (Ls' := #[.val (.int p1), .val (.int (3 : Int32)), .val (.ref w_RSA_SHA512), .val (.int (0 : Int32)), .val (.int (0 : Int32)), .unset]) C X21 at_23 rfl rfl ?_
    refine g_aloadN (pc' := 26) C X21 at_25 rfl rfl rfl ?_
    refine g_callV (b := w_RSA_SHA512) (z := (⟨"org/vouchsafe/SignatureAlgorithm", "code", "()Ljava/lang/String;"⟩ : MethodName)) (y := (⟨"org/vouchsafe/SignatureAlgorithm", "code", "()Ljava/lang/String;"⟩ : MethodName)) (argsL := []) (st := []) (pc' := 29) C X21 at_26 (hw _ (List.mem_of_getElem? (i := 13) rfl)) (hw _ (List.mem_of_getElem? (i := 14) rfl)) (notFace_of_selects (args := #[]) (mvT C.hZ (hw _ (List.mem_of_getElem? (i := 16) rfl)))) (hw _ (List.mem_of_getElem? (i := 16) rfl)) (hw _ (List.mem_of_getElem? (i := 15) rfl)) (hw _ (List.mem_of_getElem? (i := 5) rfl)) (hw _ (List.mem_of_getElem? (i := 17) rfl)) (by decide) (rm3 l Z a0 hw [] w_RSA_SHA512 w_code_RSA_SHA512 w_RSA_SHA1 w_RSA_SHA512 w_RSA_SHA384 w_RSA_SHA256 w_code_RSA_SHA1 w_value_code_RSA_SHA1 w_code_RSA_SHA512 w_value_code_RSA_SHA512 w_code_RSA_SHA384 w_value_code_RSA_SHA384 w_code_RSA_SHA256 w_value_code_RSA_SHA256 k_value_code_RSA_SHA1 k_value_code_RSA_SHA512 k_value_code_RSA_SHA384 k_value_code_RSA_SHA256 cs h0 n0 hF F_w_code_RSA_SHA512) (W := 0) (by decide) (by decide) (ce := 0) (sl := 0) rfl rfl (by decide) (by decide) rfl E_w_RSA_SHA512 e21 rfl pd_3 rfl (Nat.le_refl _) rfl (fun v22 T22 L22 X22 Q22 => ?_)
    obtain ⟨q22, Nq22, e22⟩ := Q22
    have N22 := Fr.app N21 Nq22
    rw [F3_l0 w_code_RSA_SHA512] at q22
    subst q22
    show Go p.tables e below _ (T22.setTop (mkF m 29 #[.val (.int p1), .val (.int (3 : Int32)), .val (.ref w_RSA_SHA512), .val (.int (0 : Int32)), .val (.int (0 : Int32)), .unset] [(.ref w_code_RSA_SHA512)]))
    refine g_ldcV (vs := [(.int (114 : Int32)), (.int (115 : Int32)), (.int (97 : Int32)), (.int (45 : Int32)), (.int (115 : Int32)), (.int (104 : Int32)), (.int (97 : Int32)), (.int (49 : Int32))]) (z := (8 : Int32)) (pc' := 31) (n := 32) C X22 hS (Nat.zero_le _) at_29 (hw _ (List.mem_of_getElem? (i := 20) rfl)) (own_wS hw) e22 (hpx.1 ▸ N22) hpx.2.1 hpx.2.2 (by simp) hhl hcw ⟨by decide, rfl⟩ (by decide) rfl (by decide) (by decide) (ce := 2) (sl := 36) rfl rfl (by decide) (by decide) rfl (fun b23 T23 h23 k23 bb23 kk23 C X23 e23 E23 hS Kz23 A23 Fc23 Fv23 V23 => ?_)
    have S_w_RSA_SHA1_23 := S_w_RSA_SHA1.ext E23
    have S_w_RSA_SHA512_23 := S_w_RSA_SHA512.ext E23
    have S_w_RSA_SHA384_23 := S_w_RSA_SHA384.ext E23
    have S_w_RSA_SHA256_23 := S_w_RSA_SHA256.ext E23
    have E_w_RSA_SHA1_23 := E_w_RSA_SHA1.ext E23
    have F_w_code_RSA_SHA1_23 := F_w_code_RSA_SHA1.ext E23
    have E_w_code_RSA_SHA1_23 := E_w_code_RSA_SHA1.ext E23
    have F_coder_w_code_RSA_SHA1_23 := F_coder_w_code_RSA_SHA1.ext E23
    have F_w_value_code_RSA_SHA1_23 := F_w_value_code_RSA_SHA1.ext E23
    have E_w_RSA_SHA512_23 := E_w_RSA_SHA512.ext E23
    have F_ordinal_w_RSA_SHA512_23 := F_ordinal_w_RSA_SHA512.ext E23
    have F_ordinal_w_RSA_SHA1_23 := F_ordinal_w_RSA_SHA1.ext E23
    have F_w_code_RSA_SHA512_23 := F_w_code_RSA_SHA512.ext E23
    have E_w_code_RSA_SHA512_23 := E_w_code_RSA_SHA512.ext E23
    have F_coder_w_code_RSA_SHA512_23 := F_coder_w_code_RSA_SHA512.ext E23
    have F_w_value_code_RSA_SHA512_23 := F_w_value_code_RSA_SHA512.ext E23
    have E_w_RSA_SHA384_23 := E_w_RSA_SHA384.ext E23
    have F_ordinal_w_RSA_SHA384_23 := F_ordinal_w_RSA_SHA384.ext E23
    have F_w_code_RSA_SHA384_23 := F_w_code_RSA_SHA384.ext E23
    have E_w_code_RSA_SHA384_23 := E_w_code_RSA_SHA384.ext E23
    have F_coder_w_code_RSA_SHA384_23 := F_coder_w_code_RSA_SHA384.ext E23
    have F_w_value_code_RSA_SHA384_23 := F_w_value_code_RSA_SHA384.ext E23
    have E_w_RSA_SHA256_23 := E_w_RSA_SHA256.ext E23
    have F_ordinal_w_RSA_SHA256_23 := F_ordinal_w_RSA_SHA256.ext E23
    have F_w_code_RSA_SHA256_23 := F_w_code_RSA_SHA256.ext E23
    have E_w_code_RSA_SHA256_23 := E_w_code_RSA_SHA256.ext E23
    have F_coder_w_code_RSA_SHA256_23 := F_coder_w_code_RSA_SHA256.ext E23
    have F_w_value_code_RSA_SHA256_23 := F_w_value_code_RSA_SHA256.ext E23
    have V_w_value_code_RSA_SHA1_23 := V_w_value_code_RSA_SHA1.ext E23
    have V_w_value_code_RSA_SHA512_23 := V_w_value_code_RSA_SHA512.ext E23
    have V_w_value_code_RSA_SHA384_23 := V_w_value_code_RSA_SHA384.ext E23
    have V_w_value_code_RSA_SHA256_23 := V_w_value_code_RSA_SHA256.ext E23
    have S_cs_23 := S_cs.ext E23
    have Z23 := Nat.le_trans Z0 E23.1
    have nl24 : ¬ (w_code_RSA_SHA512 = b23) := Fld.ne F_w_value_code_RSA_SHA512_23 Fv23 (fun q => own_arv_ne V_w_value_code_RSA_SHA512_23 V23 (by decide) (Value.ref.inj q))
    refine g_callV (b := w_code_RSA_SHA512) (z := (⟨"java/lang/String", "equals", "(Ljava/lang/Object;)Z"⟩ : MethodName)) (y := (⟨"java/lang/String", "equals", "(Ljava/lang/Object;)Z"⟩ : MethodName)) (argsL := [(.ref b23)]) (st := []) (pc' := 34) C X23 at_31 (hw _ (List.mem_of_getElem? (i := 28) rfl)) (hw _ (List.mem_of_getElem? (i := 29) rfl)) (notFace_of_selects (args := #[]) (mvT C.hZ (hw _ (List.mem_of_getElem? (i := 31) rfl)))) (hw _ (List.mem_of_getElem? (i := 31) rfl)) (hw _ (List.mem_of_getElem? (i := 30) rfl)) (hw _ (List.mem_of_getElem? (i := 21) rfl)) (hw _ (List.mem_of_getElem? (i := 32) rfl)) (by decide) (rm4n l Z a0 hw [] w_code_RSA_SHA512 b23 w_value_code_RSA_SHA512 bb23 k_value_code_RSA_SHA512 kk23 (114 : Int32) (115 : Int32) (97 : Int32) (45 : Int32) (115 : Int32) (104 : Int32) (97 : Int32) (53 : Int32) (49 : Int32) (50 : Int32) w_RSA_SHA1 w_RSA_SHA512 w_RSA_SHA384 w_RSA_SHA256 w_code_RSA_SHA1 w_value_code_RSA_SHA1 w_code_RSA_SHA512 w_value_code_RSA_SHA512 w_code_RSA_SHA384 w_value_code_RSA_SHA384 w_code_RSA_SHA256 w_value_code_RSA_SHA256 k_value_code_RSA_SHA1 k_value_code_RSA_SHA512 k_value_code_RSA_SHA384 k_value_code_RSA_SHA256 cs h23 n0 ⟨S_w_RSA_SHA1_23, S_w_RSA_SHA512_23, S_w_RSA_SHA384_23, S_w_RSA_SHA256_23, E_w_RSA_SHA1_23, F_w_code_RSA_SHA1_23, E_w_code_RSA_SHA1_23, F_coder_w_code_RSA_SHA1_23, F_w_value_code_RSA_SHA1_23, E_w_RSA_SHA512_23, F_ordinal_w_RSA_SHA512_23, F_ordinal_w_RSA_SHA1_23, F_w_code_RSA_SHA512_23, E_w_code_RSA_SHA512_23, F_coder_w_code_RSA_SHA512_23, F_w_value_code_RSA_SHA512_23, E_w_RSA_SHA384_23, F_ordinal_w_RSA_SHA384_23, F_w_code_RSA_SHA384_23, E_w_code_RSA_SHA384_23, F_coder_w_code_RSA_SHA384_23, F_w_value_code_RSA_SHA384_23, E_w_RSA_SHA256_23, F_ordinal_w_RSA_SHA256_23, F_w_code_RSA_SHA256_23, E_w_code_RSA_SHA256_23, F_coder_w_code_RSA_SHA256_23, F_w_value_code_RSA_SHA256_23, V_w_value_code_RSA_SHA1_23, V_w_value_code_RSA_SHA512_23, V_w_value_code_RSA_SHA384_23, V_w_value_code_RSA_SHA256_23, S_cs_23⟩ F_coder_w_code_RSA_SHA512_23 F_w_value_code_RSA_SHA512_23 Fc23 Fv23 A23 V_w_value_code_RSA_SHA512_23 V23 hcs nl24) (W := 0) (by decide) (by decide) (ce := 2) (sl := 36) rfl rfl (by decide) (by decide) rfl E_w_code_RSA_SHA512_23 e23 rfl pd_4 rfl (Nat.le_refl _) rfl (fun v25 T25 L25 X25 Q25 => ?_)
    obtain ⟨q25, Nq25, e25⟩ := Q25
    have N25 := Fr.app N22 Nq25
    rw [F4n_l0 ] at q25
    subst q25
    show Go p.tables e below _ (T25.setTop (mkF m 34 #[.val (.int p1), .val (.int (3 : Int32)), .val (.ref w_RSA_SHA512), .val (.int (0 : Int32)), .val (.int (0 : Int32)), .unset] [(.int (0 : Int32))]))
    refine g_istore (pc' := 36) (Ls' := #[.val (.int p1), .val (.int (3 : Int32)), .val (.ref w_RSA_SHA512), .val (.int (0 : Int32)), .val (.int (0 : Int32)), .val (.int (0 : Int32))]) C X25 at_34 rfl rfl ?_
    refine g_iloadN (pc' := 37) C X25 at_36 rfl rfl ?_
    refine g_iload (pc' := 39) C X25 at_37 rfl rfl ?_
    refine g_icmpN (pc' := 42) C X25 at_39 (teq (show (0 : Int32) = (0 : Int32) from (by decide))).2 rfl ?_
    refine g_iloadN (pc' := 43) C X25 at_42 rfl rfl ?_
    refine g_iload (pc' := 45) C X25 at_43 rfl rfl ?_
    refine g_icmpN (pc' := 48) C X25 at_45 (teq (show (0 : Int32) = (0 : Int32) from (by decide))).2 rfl ?_
    refine g_iconst (pc' := 49) (v := (1 : Int32)) C X25 at_48 rfl rfl ?_
    refine g_goto (pc' := 53) C X25 at_49 (by decide) (by decide) ?_
    exact g_retNW C X25 hS (by rw [e25]; exact Kz23) (by simp) at_53 (by decide) (by decide) ⟨rfl, N25⟩
set_option maxRecDepth 65536 in
set_option maxHeartbeats 40000000 in
theorem comes_1 {Post : Tables → Env → Array Value → State → Outcome → State → Prop} (hpost : ∀ tb e args s v u, (limb_1_1.after args s (.returned v) u = true ∧ limb_1_2.after args s (.returned v) u = true ∧ True) → ReturnedEndW s (.returned v) u (Jvm.fieldLocs frame_1_writes args s ++ Jvm.arrayLocs frame_1_arrays args s ++ Jvm.staticLocs frame_1_statics s) 8 1088 → Post tb e args s (.returned v) u) :
    ArmFor flags0 classFile x code maxLocals ret World_1 tables_1 room_1 Calls_1 rest_1 Pre_1 Post := by
  intro l hfl _ _ p e ha hc hk s m args below hf hA hF happ hP
  obtain ⟨hcalls, hrest, hpre⟩ := hP
  obtain ⟨-, -, -, hnamed, -, -, -, hat⟩ := (Spec.applies_iff hf).mp happ
  obtain ⟨hg, hnr⟩ := and_e (Cond.before_iff.mp (show (Jvm.Cond.and given_1 narrow_1).before args s = true from hpre))
  obtain ⟨gg1, gg2⟩ := and_e hg
  obtain ⟨w0, rfl⟩ : ∃ w0 : Value, args = #[w0] := by
    have hs : args.size = 1 := by simpa [Cond.value, given_1] using gg1
    obtain ⟨L⟩ := args
    match L, hs with
    | [w0], _ => exact ⟨w0, rfl⟩
  have hw := fun d (hd : d ∈ tables_1) => atoms_spec (ws := Jvm.Cond.code x code maxLocals ret :: tables_1) hat d (List.mem_cons_of_mem _ hd)
  have hfit : Fit s := fun {y c} hc i hi => by
    obtain ⟨ha, rfl⟩ := Array.getElem?_eq_some_iff.mp hc
    have q := List.all_eq_true.mp ((Array.all_eq_true_iff_forall_mem.mp hF) _ (Array.getElem_mem ha)) i (List.mem_range.mpr hi)
    simpa [Array.getElem?_eq_getElem hi] using q
  obtain ⟨i0, ei0⟩ := is_v gg2
  obtain rfl : w0 = (.int i0) := Option.some.inj ei0
  obtain ⟨hn0, hnr0⟩ := and_e hnr
  obtain ⟨hn1, hnr1⟩ := and_e hnr0
  obtain ⟨hn2, hnr2⟩ := and_e hnr1
  obtain ⟨hn3, hnr3⟩ := and_e hnr2
  obtain ⟨hn4, hnr4⟩ := and_e hnr3
  obtain ⟨hn5, hnr5⟩ := and_e hnr4
  obtain ⟨hn6, hnr6⟩ := and_e hnr5
  obtain ⟨hn7, hnr7⟩ := and_e hnr6
  obtain ⟨hn8, hnr8⟩ := and_e hnr7
  obtain ⟨hn9, hnr9⟩ := and_e hnr8
  obtain ⟨hn10, hnr10⟩ := and_e hnr9
  obtain ⟨hn11, hnr11⟩ := and_e hnr10
  obtain ⟨hn12, hnr12⟩ := and_e hnr11
  obtain ⟨hn13, hnr13⟩ := and_e hnr12
  obtain ⟨hn14, hnr14⟩ := and_e hnr13
  obtain ⟨hn15, hnr15⟩ := and_e hnr14
  obtain ⟨hn16, hnr16⟩ := and_e hnr15
  obtain ⟨hn17, hnr17⟩ := and_e hnr16
  obtain ⟨hn18, hnr18⟩ := and_e hnr17
  obtain ⟨hn19, hnr19⟩ := and_e hnr18
  obtain ⟨hn20, hnr20⟩ := and_e hnr19
  obtain ⟨hn21, hnr21⟩ := and_e hnr20
  obtain ⟨hn22, hnr22⟩ := and_e hnr21
  obtain ⟨hn23, hnr23⟩ := and_e hnr22
  obtain ⟨hn24, hnr24⟩ := and_e hnr23
  obtain ⟨hn25, hnr25⟩ := and_e hnr24
  obtain ⟨hn26, hnr26⟩ := and_e hnr25
  obtain ⟨hn27, hnr27⟩ := and_e hnr26
  obtain ⟨hn28, hnr28⟩ := and_e hnr27
  obtain ⟨hn29, hnr29⟩ := and_e hnr28
  obtain ⟨hn30, hnr30⟩ := and_e hnr29
  obtain ⟨hn31, hnr31⟩ := and_e hnr30
  obtain ⟨hn32, hnr32⟩ := and_e hnr31
  obtain ⟨hn33, hnr33⟩ := and_e hnr32
  obtain ⟨hn34, hnr34⟩ := and_e hnr33
  obtain ⟨hn35, hnr35⟩ := and_e hnr34
  obtain ⟨hn36, hnr36⟩ := and_e hnr35
  obtain ⟨hn37, hnr37⟩ := and_e hnr36
  obtain ⟨hn38, hnr38⟩ := and_e hnr37
  obtain ⟨hn39, hnr39⟩ := and_e hnr38
  obtain ⟨hn40, hnr40⟩ := and_e hnr39
  obtain ⟨hn41, hnr41⟩ := and_e hnr40
  obtain ⟨hn42, hnr42⟩ := and_e hnr41
  obtain ⟨hn43, hnr43⟩ := and_e hnr42
  obtain ⟨hn44, hnr44⟩ := and_e hnr43
  obtain ⟨hn45, hnr45⟩ := and_e hnr44
  obtain ⟨hn46, hnr46⟩ := and_e hnr45
  obtain ⟨hn47, hnr47⟩ := and_e hnr46
  obtain ⟨hn48, hnr48⟩ := and_e hnr47
  obtain ⟨hn49, hnr49⟩ := and_e hnr48
  obtain ⟨hn50, hnr50⟩ := and_e hnr49
  obtain ⟨hn51, hnr51⟩ := and_e hnr50
  obtain ⟨hn52, hnr52⟩ := and_e hnr51
  obtain ⟨hn53, hnr53⟩ := and_e hnr52
  obtain ⟨hn54, hnr54⟩ := and_e hnr53
  obtain ⟨hn55, hnr55⟩ := and_e hnr54
  obtain ⟨hn56, hnr56⟩ := and_e hnr55
  obtain ⟨hn57, hnr57⟩ := and_e hnr56
  obtain ⟨hn58, hnr58⟩ := and_e hnr57
  obtain ⟨hn59, hnr59⟩ := and_e hnr58
  obtain ⟨hn60, hn61⟩ := and_e hnr59
  obtain ⟨w_RSA_SHA1, ev_w_RSA_SHA1⟩ := exa_v hn0
  have S_w_RSA_SHA1 := Sta.start ev_w_RSA_SHA1 (Or.inr ⟨(hw _ (List.mem_of_getElem? (i := 5) rfl)), (hw _ (List.mem_of_getElem? (i := 6) rfl))⟩)
  obtain ⟨w_RSA_SHA512, ev_w_RSA_SHA512⟩ := exa_v hn5
  have S_w_RSA_SHA512 := Sta.start ev_w_RSA_SHA512 (Or.inr ⟨(hw _ (List.mem_of_getElem? (i := 5) rfl)), (hw _ (List.mem_of_getElem? (i := 43) rfl))⟩)
  obtain ⟨w_RSA_SHA384, ev_w_RSA_SHA384⟩ := exa_v hn12
  have S_w_RSA_SHA384 := Sta.start ev_w_RSA_SHA384 (Or.inr ⟨(hw _ (List.mem_of_getElem? (i := 5) rfl)), (hw _ (List.mem_of_getElem? (i := 45) rfl))⟩)
  obtain ⟨w_RSA_SHA256, ev_w_RSA_SHA256⟩ := exa_v hn18
  have S_w_RSA_SHA256 := Sta.start ev_w_RSA_SHA256 (Or.inr ⟨(hw _ (List.mem_of_getElem? (i := 5) rfl)), (hw _ (List.mem_of_getElem? (i := 47) rfl))⟩)
  have E_w_RSA_SHA1 := Exa.start ev_w_RSA_SHA1 hn0
  obtain ⟨w_code_RSA_SHA1, ev_w_code_RSA_SHA1⟩ := exa_v hn1
  have F_w_code_RSA_SHA1 := own_fld ev_w_RSA_SHA1 ev_w_code_RSA_SHA1
  have E_w_code_RSA_SHA1 := Exa.start ev_w_code_RSA_SHA1 hn1
  have F_coder_w_code_RSA_SHA1 := own_fld ev_w_code_RSA_SHA1 (own_eqi hn2)
  obtain ⟨w_value_code_RSA_SHA1, ev_w_value_code_RSA_SHA1⟩ := arr_v hn3
  have F_w_value_code_RSA_SHA1 := own_fld ev_w_code_RSA_SHA1 ev_w_value_code_RSA_SHA1
  obtain ⟨cl_w_value_code_RSA_SHA1, A_w_value_code_RSA_SHA1⟩ := Arr.start ev_w_value_code_RSA_SHA1 hn3
  have L_w_value_code_RSA_SHA1 := own_len ev_w_value_code_RSA_SHA1 A_w_value_code_RSA_SHA1 (own_eqi hn4)
  have E_w_RSA_SHA512 := Exa.start ev_w_RSA_SHA512 hn5
  have F_ordinal_w_RSA_SHA512 := own_fld ev_w_RSA_SHA512 (own_eqi hn6)
  have F_ordinal_w_RSA_SHA1 := own_fld ev_w_RSA_SHA1 (own_eqi hn7)
  obtain ⟨w_code_RSA_SHA512, ev_w_code_RSA_SHA512⟩ := exa_v hn8
  have F_w_code_RSA_SHA512 := own_fld ev_w_RSA_SHA512 ev_w_code_RSA_SHA512
  have E_w_code_RSA_SHA512 := Exa.start ev_w_code_RSA_SHA512 hn8
  have F_coder_w_code_RSA_SHA512 := own_fld ev_w_code_RSA_SHA512 (own_eqi hn9)
  obtain ⟨w_value_code_RSA_SHA512, ev_w_value_code_RSA_SHA512⟩ := arr_v hn10
  have F_w_value_code_RSA_SHA512 := own_fld ev_w_code_RSA_SHA512 ev_w_value_code_RSA_SHA512
  obtain ⟨cl_w_value_code_RSA_SHA512, A_w_value_code_RSA_SHA512⟩ := Arr.start ev_w_value_code_RSA_SHA512 hn10
  have L_w_value_code_RSA_SHA512 := own_len ev_w_value_code_RSA_SHA512 A_w_value_code_RSA_SHA512 (own_eqi hn11)
  have E_w_RSA_SHA384 := Exa.start ev_w_RSA_SHA384 hn12
  have F_ordinal_w_RSA_SHA384 := own_fld ev_w_RSA_SHA384 (own_eqi hn13)
  obtain ⟨w_code_RSA_SHA384, ev_w_code_RSA_SHA384⟩ := exa_v hn14
  have F_w_code_RSA_SHA384 := own_fld ev_w_RSA_SHA384 ev_w_code_RSA_SHA384
  have E_w_code_RSA_SHA384 := Exa.start ev_w_code_RSA_SHA384 hn14
  have F_coder_w_code_RSA_SHA384 := own_fld ev_w_code_RSA_SHA384 (own_eqi hn15)
  obtain ⟨w_value_code_RSA_SHA384, ev_w_value_code_RSA_SHA384⟩ := arr_v hn16
  have F_w_value_code_RSA_SHA384 := own_fld ev_w_code_RSA_SHA384 ev_w_value_code_RSA_SHA384
  obtain ⟨cl_w_value_code_RSA_SHA384, A_w_value_code_RSA_SHA384⟩ := Arr.start ev_w_value_code_RSA_SHA384 hn16
  have L_w_value_code_RSA_SHA384 := own_len ev_w_value_code_RSA_SHA384 A_w_value_code_RSA_SHA384 (own_eqi hn17)
  have E_w_RSA_SHA256 := Exa.start ev_w_RSA_SHA256 hn18
  have F_ordinal_w_RSA_SHA256 := own_fld ev_w_RSA_SHA256 (own_eqi hn19)
  obtain ⟨w_code_RSA_SHA256, ev_w_code_RSA_SHA256⟩ := exa_v hn20
  have F_w_code_RSA_SHA256 := own_fld ev_w_RSA_SHA256 ev_w_code_RSA_SHA256
  have E_w_code_RSA_SHA256 := Exa.start ev_w_code_RSA_SHA256 hn20
  have F_coder_w_code_RSA_SHA256 := own_fld ev_w_code_RSA_SHA256 (own_eqi hn21)
  obtain ⟨w_value_code_RSA_SHA256, ev_w_value_code_RSA_SHA256⟩ := arr_v hn22
  have F_w_value_code_RSA_SHA256 := own_fld ev_w_code_RSA_SHA256 ev_w_value_code_RSA_SHA256
  obtain ⟨cl_w_value_code_RSA_SHA256, A_w_value_code_RSA_SHA256⟩ := Arr.start ev_w_value_code_RSA_SHA256 hn22
  have L_w_value_code_RSA_SHA256 := own_len ev_w_value_code_RSA_SHA256 A_w_value_code_RSA_SHA256 (own_eqi hn23)
  have e0_w_value_code_RSA_SHA1 := (elem_in (own_eqi hn24) ev_w_value_code_RSA_SHA1 (Term.int_eval 0) A_w_value_code_RSA_SHA1.1).2
  have e1_w_value_code_RSA_SHA1 := (elem_in (own_eqi hn25) ev_w_value_code_RSA_SHA1 (Term.int_eval 1) A_w_value_code_RSA_SHA1.1).2
  have e2_w_value_code_RSA_SHA1 := (elem_in (own_eqi hn26) ev_w_value_code_RSA_SHA1 (Term.int_eval 2) A_w_value_code_RSA_SHA1.1).2
  have e3_w_value_code_RSA_SHA1 := (elem_in (own_eqi hn27) ev_w_value_code_RSA_SHA1 (Term.int_eval 3) A_w_value_code_RSA_SHA1.1).2
  have e4_w_value_code_RSA_SHA1 := (elem_in (own_eqi hn28) ev_w_value_code_RSA_SHA1 (Term.int_eval 4) A_w_value_code_RSA_SHA1.1).2
  have e5_w_value_code_RSA_SHA1 := (elem_in (own_eqi hn29) ev_w_value_code_RSA_SHA1 (Term.int_eval 5) A_w_value_code_RSA_SHA1.1).2
  have e6_w_value_code_RSA_SHA1 := (elem_in (own_eqi hn30) ev_w_value_code_RSA_SHA1 (Term.int_eval 6) A_w_value_code_RSA_SHA1.1).2
  have e7_w_value_code_RSA_SHA1 := (elem_in (own_eqi hn31) ev_w_value_code_RSA_SHA1 (Term.int_eval 7) A_w_value_code_RSA_SHA1.1).2
  have e0_w_value_code_RSA_SHA512 := (elem_in (own_eqi hn32) ev_w_value_code_RSA_SHA512 (Term.int_eval 0) A_w_value_code_RSA_SHA512.1).2
  have e1_w_value_code_RSA_SHA512 := (elem_in (own_eqi hn33) ev_w_value_code_RSA_SHA512 (Term.int_eval 1) A_w_value_code_RSA_SHA512.1).2
  have e2_w_value_code_RSA_SHA512 := (elem_in (own_eqi hn34) ev_w_value_code_RSA_SHA512 (Term.int_eval 2) A_w_value_code_RSA_SHA512.1).2
  have e3_w_value_code_RSA_SHA512 := (elem_in (own_eqi hn35) ev_w_value_code_RSA_SHA512 (Term.int_eval 3) A_w_value_code_RSA_SHA512.1).2
  have e4_w_value_code_RSA_SHA512 := (elem_in (own_eqi hn36) ev_w_value_code_RSA_SHA512 (Term.int_eval 4) A_w_value_code_RSA_SHA512.1).2
  have e5_w_value_code_RSA_SHA512 := (elem_in (own_eqi hn37) ev_w_value_code_RSA_SHA512 (Term.int_eval 5) A_w_value_code_RSA_SHA512.1).2
  have e6_w_value_code_RSA_SHA512 := (elem_in (own_eqi hn38) ev_w_value_code_RSA_SHA512 (Term.int_eval 6) A_w_value_code_RSA_SHA512.1).2
  have e7_w_value_code_RSA_SHA512 := (elem_in (own_eqi hn39) ev_w_value_code_RSA_SHA512 (Term.int_eval 7) A_w_value_code_RSA_SHA512.1).2
  have e8_w_value_code_RSA_SHA512 := (elem_in (own_eqi hn40) ev_w_value_code_RSA_SHA512 (Term.int_eval 8) A_w_value_code_RSA_SHA512.1).2
  have e9_w_value_code_RSA_SHA512 := (elem_in (own_eqi hn41) ev_w_value_code_RSA_SHA512 (Term.int_eval 9) A_w_value_code_RSA_SHA512.1).2
  have e0_w_value_code_RSA_SHA384 := (elem_in (own_eqi hn42) ev_w_value_code_RSA_SHA384 (Term.int_eval 0) A_w_value_code_RSA_SHA384.1).2
  have e1_w_value_code_RSA_SHA384 := (elem_in (own_eqi hn43) ev_w_value_code_RSA_SHA384 (Term.int_eval 1) A_w_value_code_RSA_SHA384.1).2
  have e2_w_value_code_RSA_SHA384 := (elem_in (own_eqi hn44) ev_w_value_code_RSA_SHA384 (Term.int_eval 2) A_w_value_code_RSA_SHA384.1).2
  have e3_w_value_code_RSA_SHA384 := (elem_in (own_eqi hn45) ev_w_value_code_RSA_SHA384 (Term.int_eval 3) A_w_value_code_RSA_SHA384.1).2
  have e4_w_value_code_RSA_SHA384 := (elem_in (own_eqi hn46) ev_w_value_code_RSA_SHA384 (Term.int_eval 4) A_w_value_code_RSA_SHA384.1).2
  have e5_w_value_code_RSA_SHA384 := (elem_in (own_eqi hn47) ev_w_value_code_RSA_SHA384 (Term.int_eval 5) A_w_value_code_RSA_SHA384.1).2
  have e6_w_value_code_RSA_SHA384 := (elem_in (own_eqi hn48) ev_w_value_code_RSA_SHA384 (Term.int_eval 6) A_w_value_code_RSA_SHA384.1).2
  have e7_w_value_code_RSA_SHA384 := (elem_in (own_eqi hn49) ev_w_value_code_RSA_SHA384 (Term.int_eval 7) A_w_value_code_RSA_SHA384.1).2
  have e8_w_value_code_RSA_SHA384 := (elem_in (own_eqi hn50) ev_w_value_code_RSA_SHA384 (Term.int_eval 8) A_w_value_code_RSA_SHA384.1).2
  have e9_w_value_code_RSA_SHA384 := (elem_in (own_eqi hn51) ev_w_value_code_RSA_SHA384 (Term.int_eval 9) A_w_value_code_RSA_SHA384.1).2
  have e0_w_value_code_RSA_SHA256 := (elem_in (own_eqi hn52) ev_w_value_code_RSA_SHA256 (Term.int_eval 0) A_w_value_code_RSA_SHA256.1).2
  have e1_w_value_code_RSA_SHA256 := (elem_in (own_eqi hn53) ev_w_value_code_RSA_SHA256 (Term.int_eval 1) A_w_value_code_RSA_SHA256.1).2
  have e2_w_value_code_RSA_SHA256 := (elem_in (own_eqi hn54) ev_w_value_code_RSA_SHA256 (Term.int_eval 2) A_w_value_code_RSA_SHA256.1).2
  have e3_w_value_code_RSA_SHA256 := (elem_in (own_eqi hn55) ev_w_value_code_RSA_SHA256 (Term.int_eval 3) A_w_value_code_RSA_SHA256.1).2
  have e4_w_value_code_RSA_SHA256 := (elem_in (own_eqi hn56) ev_w_value_code_RSA_SHA256 (Term.int_eval 4) A_w_value_code_RSA_SHA256.1).2
  have e5_w_value_code_RSA_SHA256 := (elem_in (own_eqi hn57) ev_w_value_code_RSA_SHA256 (Term.int_eval 5) A_w_value_code_RSA_SHA256.1).2
  have e6_w_value_code_RSA_SHA256 := (elem_in (own_eqi hn58) ev_w_value_code_RSA_SHA256 (Term.int_eval 6) A_w_value_code_RSA_SHA256.1).2
  have e7_w_value_code_RSA_SHA256 := (elem_in (own_eqi hn59) ev_w_value_code_RSA_SHA256 (Term.int_eval 7) A_w_value_code_RSA_SHA256.1).2
  have e8_w_value_code_RSA_SHA256 := (elem_in (own_eqi hn60) ev_w_value_code_RSA_SHA256 (Term.int_eval 8) A_w_value_code_RSA_SHA256.1).2
  have e9_w_value_code_RSA_SHA256 := (elem_in (own_eqi hn61) ev_w_value_code_RSA_SHA256 (Term.int_eval 9) A_w_value_code_RSA_SHA256.1).2
  obtain ⟨k_value_code_RSA_SHA1, V_w_value_code_RSA_SHA1⟩ : ∃ k, Arv s s.heap w_value_code_RSA_SHA1 k .byte (8 : Int32) [(.int (114 : Int32)), (.int (115 : Int32)), (.int (97 : Int32)), (.int (45 : Int32)), (.int (115 : Int32)), (.int (104 : Int32)), (.int (97 : Int32)), (.int (49 : Int32))] (.int (0 : Int32)) := ⟨_, Arv.start hfit A_w_value_code_RSA_SHA1 L_w_value_code_RSA_SHA1.1 L_w_value_code_RSA_SHA1.2 (by decide) rfl ⟨e0_w_value_code_RSA_SHA1, e1_w_value_code_RSA_SHA1, e2_w_value_code_RSA_SHA1, e3_w_value_code_RSA_SHA1, e4_w_value_code_RSA_SHA1, e5_w_value_code_RSA_SHA1, e6_w_value_code_RSA_SHA1, e7_w_value_code_RSA_SHA1, trivial⟩⟩
  obtain ⟨k_value_code_RSA_SHA512, V_w_value_code_RSA_SHA512⟩ : ∃ k, Arv s s.heap w_value_code_RSA_SHA512 k .byte (10 : Int32) [(.int (114 : Int32)), (.int (115 : Int32)), (.int (97 : Int32)), (.int (45 : Int32)), (.int (115 : Int32)), (.int (104 : Int32)), (.int (97 : Int32)), (.int (53 : Int32)), (.int (49 : Int32)), (.int (50 : Int32))] (.int (0 : Int32)) := ⟨_, Arv.start hfit A_w_value_code_RSA_SHA512 L_w_value_code_RSA_SHA512.1 L_w_value_code_RSA_SHA512.2 (by decide) rfl ⟨e0_w_value_code_RSA_SHA512, e1_w_value_code_RSA_SHA512, e2_w_value_code_RSA_SHA512, e3_w_value_code_RSA_SHA512, e4_w_value_code_RSA_SHA512, e5_w_value_code_RSA_SHA512, e6_w_value_code_RSA_SHA512, e7_w_value_code_RSA_SHA512, e8_w_value_code_RSA_SHA512, e9_w_value_code_RSA_SHA512, trivial⟩⟩
  obtain ⟨k_value_code_RSA_SHA384, V_w_value_code_RSA_SHA384⟩ : ∃ k, Arv s s.heap w_value_code_RSA_SHA384 k .byte (10 : Int32) [(.int (114 : Int32)), (.int (115 : Int32)), (.int (97 : Int32)), (.int (45 : Int32)), (.int (115 : Int32)), (.int (104 : Int32)), (.int (97 : Int32)), (.int (51 : Int32)), (.int (56 : Int32)), (.int (52 : Int32))] (.int (0 : Int32)) := ⟨_, Arv.start hfit A_w_value_code_RSA_SHA384 L_w_value_code_RSA_SHA384.1 L_w_value_code_RSA_SHA384.2 (by decide) rfl ⟨e0_w_value_code_RSA_SHA384, e1_w_value_code_RSA_SHA384, e2_w_value_code_RSA_SHA384, e3_w_value_code_RSA_SHA384, e4_w_value_code_RSA_SHA384, e5_w_value_code_RSA_SHA384, e6_w_value_code_RSA_SHA384, e7_w_value_code_RSA_SHA384, e8_w_value_code_RSA_SHA384, e9_w_value_code_RSA_SHA384, trivial⟩⟩
  obtain ⟨k_value_code_RSA_SHA256, V_w_value_code_RSA_SHA256⟩ : ∃ k, Arv s s.heap w_value_code_RSA_SHA256 k .byte (10 : Int32) [(.int (114 : Int32)), (.int (115 : Int32)), (.int (97 : Int32)), (.int (45 : Int32)), (.int (115 : Int32)), (.int (104 : Int32)), (.int (97 : Int32)), (.int (50 : Int32)), (.int (53 : Int32)), (.int (54 : Int32))] (.int (0 : Int32)) := ⟨_, Arv.start hfit A_w_value_code_RSA_SHA256 L_w_value_code_RSA_SHA256.1 L_w_value_code_RSA_SHA256.2 (by decide) rfl ⟨e0_w_value_code_RSA_SHA256, e1_w_value_code_RSA_SHA256, e2_w_value_code_RSA_SHA256, e3_w_value_code_RSA_SHA256, e4_w_value_code_RSA_SHA256, e5_w_value_code_RSA_SHA256, e6_w_value_code_RSA_SHA256, e7_w_value_code_RSA_SHA256, e8_w_value_code_RSA_SHA256, e9_w_value_code_RSA_SHA256, trivial⟩⟩
  have ne_w_RSA_SHA512_w_RSA_SHA1 : ¬ (w_RSA_SHA512 = w_RSA_SHA1) := Fld.ne F_ordinal_w_RSA_SHA512 F_ordinal_w_RSA_SHA1 (by decide)
  have ne_w_RSA_SHA512_w_RSA_SHA384 : ¬ (w_RSA_SHA512 = w_RSA_SHA384) := Fld.ne F_ordinal_w_RSA_SHA512 F_ordinal_w_RSA_SHA384 (by decide)
  have ne_w_RSA_SHA512_w_RSA_SHA256 : ¬ (w_RSA_SHA512 = w_RSA_SHA256) := Fld.ne F_ordinal_w_RSA_SHA512 F_ordinal_w_RSA_SHA256 (by decide)
  have ne_w_RSA_SHA1_w_RSA_SHA384 : ¬ (w_RSA_SHA1 = w_RSA_SHA384) := Fld.ne F_ordinal_w_RSA_SHA1 F_ordinal_w_RSA_SHA384 (by decide)
  have ne_w_RSA_SHA1_w_RSA_SHA256 : ¬ (w_RSA_SHA1 = w_RSA_SHA256) := Fld.ne F_ordinal_w_RSA_SHA1 F_ordinal_w_RSA_SHA256 (by decide)
  have ne_w_RSA_SHA384_w_RSA_SHA256 : ¬ (w_RSA_SHA384 = w_RSA_SHA256) := Fld.ne F_ordinal_w_RSA_SHA384 F_ordinal_w_RSA_SHA256 (by decide)
  obtain ⟨hsets, hown0⟩ := atoms_of _ (rest_1_c_eq ▸ (show rest_1_c.before _ s = true from hrest))
  obtain ⟨cs, ev_cs⟩ := is_v (Cond.before_iff.mp (hsets _ (List.mem_of_getElem? (i := 1) rfl)))
  have S_cs := Sta.start ev_cs (Or.inl (hsets _ (List.mem_of_getElem? (i := 0) rfl)))
  have hcw := hsets _ (List.mem_of_getElem? (i := 2) rfl)
  have hcs : ¬ (cs = (0 : Int32)) := own_neqi ev_cs (Cond.before_iff.mp hcw)
  have hFX : FX s s.heap w_RSA_SHA1 w_RSA_SHA512 w_RSA_SHA384 w_RSA_SHA256 w_code_RSA_SHA1 w_value_code_RSA_SHA1 w_code_RSA_SHA512 w_value_code_RSA_SHA512 w_code_RSA_SHA384 w_value_code_RSA_SHA384 w_code_RSA_SHA256 w_value_code_RSA_SHA256 k_value_code_RSA_SHA1 k_value_code_RSA_SHA512 k_value_code_RSA_SHA384 k_value_code_RSA_SHA256 cs := ⟨S_w_RSA_SHA1, S_w_RSA_SHA512, S_w_RSA_SHA384, S_w_RSA_SHA256, E_w_RSA_SHA1, F_w_code_RSA_SHA1, E_w_code_RSA_SHA1, F_coder_w_code_RSA_SHA1, F_w_value_code_RSA_SHA1, E_w_RSA_SHA512, F_ordinal_w_RSA_SHA512, F_ordinal_w_RSA_SHA1, F_w_code_RSA_SHA512, E_w_code_RSA_SHA512, F_coder_w_code_RSA_SHA512, F_w_value_code_RSA_SHA512, E_w_RSA_SHA384, F_ordinal_w_RSA_SHA384, F_w_code_RSA_SHA384, E_w_code_RSA_SHA384, F_coder_w_code_RSA_SHA384, F_w_value_code_RSA_SHA384, E_w_RSA_SHA256, F_ordinal_w_RSA_SHA256, F_w_code_RSA_SHA256, E_w_code_RSA_SHA256, F_coder_w_code_RSA_SHA256, F_w_value_code_RSA_SHA256, V_w_value_code_RSA_SHA1, V_w_value_code_RSA_SHA512, V_w_value_code_RSA_SHA384, V_w_value_code_RSA_SHA256, S_cs⟩
  obtain ⟨n, o, h1, h2, h3, _, L, rfl, ⟨hv, N⟩, hq⟩ := rm0 l s _ hw tables_1 i0 w_RSA_SHA1 w_RSA_SHA512 w_RSA_SHA384 w_RSA_SHA256 w_code_RSA_SHA1 w_value_code_RSA_SHA1 w_code_RSA_SHA512 w_value_code_RSA_SHA512 w_code_RSA_SHA384 w_value_code_RSA_SHA384 w_code_RSA_SHA256 w_value_code_RSA_SHA256 k_value_code_RSA_SHA1 k_value_code_RSA_SHA512 k_value_code_RSA_SHA384 k_value_code_RSA_SHA256 cs s.heap s.heap.size (Nat.le_refl _) hFX ne_w_RSA_SHA512_w_RSA_SHA1 ne_w_RSA_SHA512_w_RSA_SHA384 ne_w_RSA_SHA512_w_RSA_SHA256 ne_w_RSA_SHA1_w_RSA_SHA384 ne_w_RSA_SHA1_w_RSA_SHA256 ne_w_RSA_SHA384_w_RSA_SHA256 hcs (hcalls.1 _ (List.mem_of_getElem? (i := 0) rfl)) hcw p e ha hc hk s m _ below hf ((Spec.applies_iff_loose hf).mp happ).1 ⟨rfl, State.Warmed39.refl s, rfl, ⟨rfl, fun _ _ q => q, IB.start⟩⟩ trivial
  subst hv
  refine ⟨n, _, h1, h2, h3, hpost _ _ _ _ _ _ ⟨Cond.after_iff.mpr rfl, Cond.after_iff.mpr (eq_i res_at (Term.int_eval (1)) rfl), trivial⟩ ⟨hq.1, hq.2.1, hq.2.2.1, (hq.2.2.2.sift fun y hy => Or.inr (N y hy)).mono (by decide) (by decide)⟩⟩
theorem main_1_1 : Claimed_1_1 := comes_1 fun _ _ _ _ _ _ h hF => ⟨h.1, hF⟩
theorem main_1_2 : Claimed_1_2 := comes_1 fun _ _ _ _ _ _ h hF => ⟨h.2.1, hF⟩
end Jvm.Pilot.@@N@@
namespace Jvm.Pilot.@@N@@
open Jvm Jvm.ClassFile Sem Op Lib Jvm.Free Jvm.Stand Jvm.Pilot.@@N@@.Jvm.D
/-! MADE BY PROGRAM (witnessworld.py) out of the Statement's table words and the real class files: 18 classes; the members and pool entries that the words name. The judged class is class 1, her method 2. -/
namespace start1
open Jvm.ClassFile
def u (s : String) : CpInfo := .utf8 (stringToUtf16 s)
/-- a pool by its gaps: so many unusable entries, then the entry; so many at the end -/
def gap : Nat → List CpInfo → List CpInfo
  | 0, r => r
  | n + 1, r => .unusable :: gap n r
def poolList (es : List (Nat × CpInfo)) (last : Nat) : List CpInfo := es.foldr (fun e r => gap e.1 (e.2 :: r)) (gap last [])
def pool (es : List (Nat × CpInfo)) (last : Nat) : Array CpInfo := ⟨poolList es last⟩
def fileOf (pool : Array CpInfo) (this : Nat) (attrs : Array Attribute := #[]) (ms : Array MethodInfo := #[]) (fl : Nat := 33) (sup : Nat := 0) (ifs : Array Nat := #[]) (fds : Array FieldInfo := #[]) : ClassFile where
  minorVersion := 0
  majorVersion := 65
  constantPool := pool
  accessFlags := fl
  thisClass := this
  superClass := sup
  interfaces := ifs
  fields := fds
  methods := ms
  attributes := attrs
def plain (name : String) (sup : Option ClassId) : Class where
  name := name
  kind := .ordinary
  loader := none
  accessFlags := 33
  super := sup
  interfaces := #[]
  cf := none
  fields := #[]
  methods := #[]
  instanceTypes := #[]
  staticTypes := #[]
  resolved := #[]
  callSites := []
  init := .initialized
  statics := none
  mirror := none

def pool0 : Array CpInfo := pool [(5, u "<init>"), (0, u "()V"), (1, .class_ 10), (1, u "java/lang/Object")] 113

def k0m0 : Method := { name := "<init>", desc := "()V", sig := { parameters := [], returnType := none }, accessFlags := 1, code := none }
/-- java/lang/Object -/
def k0 : Class := { plain "java/lang/Object" none with
  accessFlags := 33
  interfaces := #[]
  cf := some (fileOf pool0 8 #[] #[{ accessFlags := 1, nameIndex := 5, descriptorIndex := 6, attributes := #[] }] 33 0 #[] #[])
  fields := #[]
  methods := #[k0m0]
  instanceTypes := #[]
  staticTypes := #[]
  resolved := Array.replicate 124 none
  statics := none }

def pool1 : Array CpInfo := pool [(2, .class_ 4), (1, u "java/lang/Object"), (0, u "<init>"), (0, u "()V"), (0, .fieldref 8 9), (0, .class_ 10), (0, .nameAndType 11 12), (0, u "org/vouchsafe/SignatureAlgorithm"), (0, u "RSA_SHA1"), (0, u "Lorg/vouchsafe/SignatureAlgorithm;"), (0, .fieldref 8 14), (0, .nameAndType 15 12), (0, u "RSA_SHA256"), (0, .fieldref 8 17), (0, .nameAndType 18 12), (0, u "RSA_SHA384"), (0, .fieldref 8 20), (0, .nameAndType 21 12), (0, u "RSA_SHA512"), (0, .methodref 23 24), (0, .class_ 25), (0, .nameAndType 26 27), (0, u "org/vouchsafe/SignatureAlgorithmSha1PinLaw"), (0, u "pick"), (0, u "(I)Lorg/vouchsafe/SignatureAlgorithm;"), (0, .methodref 8 29), (0, .nameAndType 30 31), (0, u "sha1"), (0, u "()Z"), (0, .methodref 8 33), (0, .nameAndType 34 35), (0, u "code"), (0, u "()Ljava/lang/String;"), (0, .string 37), (0, u "rsa-sha1"), (0, .methodref 39 40), (0, .class_ 41), (0, .nameAndType 42 43), (0, u "java/lang/String"), (0, u "equals"), (0, u "(Ljava/lang/Object;)Z"), (3, u "law"), (0, u "(I)Z")] 2

def k1m0 : Method := { name := "<init>", desc := "()V", sig := { parameters := [], returnType := none }, accessFlags := 2, code := none }
def k1c1 : Code := { maxStack := 2, maxLocals := 1, code := method_2_code, exceptionTable := #[], attributes := #[] }
def k1m1 : Method := { name := "pick", desc := "(I)Lorg/vouchsafe/SignatureAlgorithm;", sig := { parameters := [.int], returnType := some (.object "org/vouchsafe/SignatureAlgorithm") }, accessFlags := 10, code := some k1c1 }
def k1c2 : Code := { maxStack := 2, maxLocals := 6, code := code, exceptionTable := #[], attributes := #[] }
def k1m2 : Method := { name := "law", desc := "(I)Z", sig := { parameters := [.int], returnType := some .boolean }, accessFlags := 9, code := some k1c2 }
/-- org/vouchsafe/SignatureAlgorithmSha1PinLaw -/
def k1 : Class := { plain "org/vouchsafe/SignatureAlgorithmSha1PinLaw" (some 0) with
  accessFlags := 49
  interfaces := #[]
  cf := some (fileOf pool1 23 #[] #[{ accessFlags := 2, nameIndex := 5, descriptorIndex := 6, attributes := #[] }, { accessFlags := 10, nameIndex := 26, descriptorIndex := 27, attributes := #[] }, { accessFlags := 9, nameIndex := 47, descriptorIndex := 48, attributes := #[] }] 49 2 #[] #[])
  fields := #[]
  methods := #[k1m0, k1m1, k1m2]
  instanceTypes := #[]
  staticTypes := #[]
  resolved := Array.replicate 51 none
  statics := none }

def pool2 : Array CpInfo := pool [(1, .class_ 2), (0, u "java/lang/constant/Constable"), (0, .class_ 4), (0, u "java/lang/Object")] 6

/-- java/lang/constant/Constable -/
def k2 : Class := { plain "java/lang/constant/Constable" (some 0) with
  accessFlags := 1537
  interfaces := #[]
  cf := some (fileOf pool2 1 #[] #[] 1537 3 #[] #[])
  fields := #[]
  methods := #[]
  instanceTypes := #[]
  staticTypes := #[]
  resolved := Array.replicate 11 none
  statics := none }

def pool3 : Array CpInfo := pool [(1, .class_ 2), (0, u "java/lang/Comparable"), (0, .class_ 4), (0, u "java/lang/Object")] 7

/-- java/lang/Comparable -/
def k3 : Class := { plain "java/lang/Comparable" (some 0) with
  accessFlags := 1537
  interfaces := #[]
  cf := some (fileOf pool3 1 #[] #[] 1537 3 #[] #[])
  fields := #[]
  methods := #[]
  instanceTypes := #[]
  staticTypes := #[]
  resolved := Array.replicate 12 none
  statics := none }

def pool4 : Array CpInfo := pool [(1, .class_ 2), (0, u "java/io/Serializable"), (0, .class_ 4), (0, u "java/lang/Object")] 2

/-- java/io/Serializable -/
def k4 : Class := { plain "java/io/Serializable" (some 0) with
  accessFlags := 1537
  interfaces := #[]
  cf := some (fileOf pool4 1 #[] #[] 1537 3 #[] #[])
  fields := #[]
  methods := #[]
  instanceTypes := #[]
  staticTypes := #[]
  resolved := Array.replicate 7 none
  statics := none }

def pool5 : Array CpInfo := pool [(2, .class_ 4), (1, u "java/lang/Enum"), (0, u "name"), (0, u "Ljava/lang/String;"), (2, u "ordinal"), (0, u "I"), (1, .class_ 14), (1, u "java/lang/Object"), (4, u "hash"), (86, .class_ 108), (1, u "java/lang/Enum$EnumDesc"), (2, .class_ 112), (0, u "java/lang/constant/Constable"), (0, .class_ 114), (0, u "java/lang/Comparable"), (0, .class_ 116), (0, u "java/io/Serializable")] 87

/-- java/lang/Enum -/
def k5 : Class := { plain "java/lang/Enum" (some 0) with
  accessFlags := 1057
  interfaces := #[2, 3, 4]
  cf := some (fileOf pool5 2 #[.nestMembers #[106]] #[] 1057 12 #[111, 113, 115] #[{ accessFlags := 18, nameIndex := 5, descriptorIndex := 6, attributes := #[] }, { accessFlags := 18, nameIndex := 9, descriptorIndex := 10, attributes := #[] }, { accessFlags := 2, nameIndex := 19, descriptorIndex := 10, attributes := #[] }])
  fields := #[{ name := "name", type := (.object "java/lang/String"), accessFlags := 18, slot := 0, constantValue := 0 }, { name := "ordinal", type := .int, accessFlags := 18, slot := 1, constantValue := 0 }, { name := "hash", type := .int, accessFlags := 2, slot := 2, constantValue := 0 }]
  methods := #[]
  instanceTypes := #[(.object "java/lang/String"), .int, .int]
  staticTypes := #[]
  resolved := Array.replicate 204 none
  statics := none }

def pool6 : Array CpInfo := pool [(1, .class_ 2), (0, u "org/vouchsafe/SignatureAlgorithm"), (0, .fieldref 1 4), (0, .nameAndType 5 6), (0, u "RSA_SHA1"), (0, u "Lorg/vouchsafe/SignatureAlgorithm;"), (2, u "RSA_SHA256"), (2, u "RSA_SHA384"), (2, u "RSA_SHA512"), (2, u "$VALUES"), (0, u "[Lorg/vouchsafe/SignatureAlgorithm;"), (6, .class_ 28), (1, u "java/lang/Enum"), (6, .fieldref 1 36), (0, .nameAndType 37 38), (0, u "code"), (0, u "Ljava/lang/String;"), (2, u "uri"), (2, u "digestUri"), (79, u "()Ljava/lang/String;"), (0, u "sha1"), (0, u "()Z")] 38

def k6c0 : Code := { maxStack := 1, maxLocals := 1, code := prog_28_method_4_code, exceptionTable := #[], attributes := #[] }
def k6m0 : Method := { name := "code", desc := "()Ljava/lang/String;", sig := { parameters := [], returnType := some (.object "java/lang/String") }, accessFlags := 1, code := some k6c0 }
def k6c1 : Code := { maxStack := 2, maxLocals := 1, code := prog_28_method_7_code, exceptionTable := #[], attributes := #[] }
def k6m1 : Method := { name := "sha1", desc := "()Z", sig := { parameters := [], returnType := some .boolean }, accessFlags := 0, code := some k6c1 }
/-- org/vouchsafe/SignatureAlgorithm -/
def k6 : Class := { plain "org/vouchsafe/SignatureAlgorithm" (some 5) with
  accessFlags := 16433
  interfaces := #[]
  cf := some (fileOf pool6 1 #[] #[{ accessFlags := 1, nameIndex := 37, descriptorIndex := 124, attributes := #[] }, { accessFlags := 0, nameIndex := 125, descriptorIndex := 126, attributes := #[] }] 16433 26 #[] #[{ accessFlags := 16409, nameIndex := 5, descriptorIndex := 6, attributes := #[] }, { accessFlags := 16409, nameIndex := 9, descriptorIndex := 6, attributes := #[] }, { accessFlags := 16409, nameIndex := 12, descriptorIndex := 6, attributes := #[] }, { accessFlags := 16409, nameIndex := 15, descriptorIndex := 6, attributes := #[] }, { accessFlags := 18, nameIndex := 37, descriptorIndex := 38, attributes := #[] }, { accessFlags := 18, nameIndex := 41, descriptorIndex := 38, attributes := #[] }, { accessFlags := 18, nameIndex := 44, descriptorIndex := 38, attributes := #[] }, { accessFlags := 4122, nameIndex := 18, descriptorIndex := 19, attributes := #[] }])
  fields := #[{ name := "RSA_SHA1", type := (.object "org/vouchsafe/SignatureAlgorithm"), accessFlags := 16409, slot := 0, constantValue := 0 }, { name := "RSA_SHA256", type := (.object "org/vouchsafe/SignatureAlgorithm"), accessFlags := 16409, slot := 1, constantValue := 0 }, { name := "RSA_SHA384", type := (.object "org/vouchsafe/SignatureAlgorithm"), accessFlags := 16409, slot := 2, constantValue := 0 }, { name := "RSA_SHA512", type := (.object "org/vouchsafe/SignatureAlgorithm"), accessFlags := 16409, slot := 3, constantValue := 0 }, { name := "code", type := (.object "java/lang/String"), accessFlags := 18, slot := 3, constantValue := 0 }, { name := "uri", type := (.object "java/lang/String"), accessFlags := 18, slot := 4, constantValue := 0 }, { name := "digestUri", type := (.object "java/lang/String"), accessFlags := 18, slot := 5, constantValue := 0 }, { name := "$VALUES", type := (.array (.object "org/vouchsafe/SignatureAlgorithm")), accessFlags := 4122, slot := 4, constantValue := 0 }]
  methods := #[k6m0, k6m1]
  instanceTypes := #[(.object "java/lang/String"), .int, .int, (.object "java/lang/String"), (.object "java/lang/String"), (.object "java/lang/String")]
  staticTypes := #[(.object "org/vouchsafe/SignatureAlgorithm"), (.object "org/vouchsafe/SignatureAlgorithm"), (.object "org/vouchsafe/SignatureAlgorithm"), (.object "org/vouchsafe/SignatureAlgorithm"), (.array (.object "org/vouchsafe/SignatureAlgorithm"))]
  resolved := Array.replicate 165 none
  statics := some 0 }

def pool7 : Array CpInfo := pool [(2, .class_ 4), (1, u "java/lang/CharSequence"), (42, .class_ 48), (0, u "java/lang/CharSequence$1CodePointIterator"), (10, .class_ 60), (0, u "java/lang/CharSequence$1CharIterator"), (5, .class_ 67), (0, u "java/lang/Object")] 63

/-- java/lang/CharSequence -/
def k7 : Class := { plain "java/lang/CharSequence" (some 0) with
  accessFlags := 1537
  interfaces := #[]
  cf := some (fileOf pool7 2 #[.nestMembers #[47, 59]] #[] 1537 66 #[] #[])
  fields := #[]
  methods := #[]
  instanceTypes := #[]
  staticTypes := #[]
  resolved := Array.replicate 131 none
  statics := none }

def pool8 : Array CpInfo := pool [(1, .class_ 2), (0, u "java/lang/constant/ConstantDesc"), (0, .class_ 4), (0, u "java/lang/Object")] 32

/-- java/lang/constant/ConstantDesc -/
def k8 : Class := { plain "java/lang/constant/ConstantDesc" (some 0) with
  accessFlags := 1537
  interfaces := #[]
  cf := some (fileOf pool8 1 #[] #[] 1537 3 #[] #[])
  fields := #[]
  methods := #[]
  instanceTypes := #[]
  staticTypes := #[]
  resolved := Array.replicate 37 none
  statics := none }

def pool9 : Array CpInfo := pool [(2, .class_ 4), (1, u "java/lang/Object"), (0, u "<init>"), (0, u "()V"), (2, .fieldref 10 11), (0, .class_ 12), (0, .nameAndType 13 14), (0, u "java/lang/String"), (0, u "value"), (0, u "[B"), (0, .fieldref 10 16), (0, .nameAndType 17 18), (0, u "coder"), (0, u "B"), (2, u "hash"), (0, u "I"), (2, u "hashIsZero"), (0, u "Z"), (11, .fieldref 10 39), (0, .nameAndType 40 26), (0, u "COMPACT_STRINGS"), (66, .class_ 109), (1, u "java/lang/StringLatin1"), (431, .methodref 107 542), (0, .nameAndType 543 544), (0, u "equals"), (0, u "([B[B)Z"), (28, u "(Ljava/lang/Object;)Z"), (1, .class_ 576), (0, u "java/lang/CharSequence"), (22, u "CASE_INSENSITIVE_ORDER"), (0, u "Ljava/util/Comparator;"), (500, u "serialPersistentFields"), (0, u "[Ljava/io/ObjectStreamField;"), (0, .class_ 1104), (0, u "java/lang/String$CaseInsensitiveComparator"), (1, .class_ 1107), (0, u "java/io/Serializable"), (0, .class_ 1109), (0, u "java/lang/Comparable"), (0, .class_ 1111), (0, u "java/lang/constant/Constable"), (0, .class_ 1113), (0, u "java/lang/constant/ConstantDesc"), (2, u "serialVersionUID"), (0, u "J"), (3, u "REPL"), (0, u "C"), (2, u "LATIN1"), (1, u "UTF16")] 323

def k9m0 : Method := { name := "<init>", desc := "()V", sig := { parameters := [], returnType := none }, accessFlags := 1, code := none }
def k9c1 : Code := { maxStack := 2, maxLocals := 3, code := jdk_42_method_66_code, exceptionTable := #[], attributes := #[] }
def k9m1 : Method := { name := "equals", desc := "(Ljava/lang/Object;)Z", sig := { parameters := [(.object "java/lang/Object")], returnType := some .boolean }, accessFlags := 1, code := some k9c1 }
/-- java/lang/String -/
def k9 : Class := { plain "java/lang/String" (some 0) with
  accessFlags := 49
  interfaces := #[4, 3, 7, 2, 8]
  cf := some (fileOf pool9 10 #[.nestMembers #[1103]] #[{ accessFlags := 1, nameIndex := 5, descriptorIndex := 6, attributes := #[] }, { accessFlags := 1, nameIndex := 543, descriptorIndex := 573, attributes := #[] }] 49 2 #[1106, 1108, 575, 1110, 1112] #[{ accessFlags := 18, nameIndex := 13, descriptorIndex := 14, attributes := #[] }, { accessFlags := 18, nameIndex := 17, descriptorIndex := 18, attributes := #[] }, { accessFlags := 2, nameIndex := 21, descriptorIndex := 22, attributes := #[] }, { accessFlags := 2, nameIndex := 25, descriptorIndex := 26, attributes := #[] }, { accessFlags := 26, nameIndex := 1116, descriptorIndex := 1117, attributes := #[] }, { accessFlags := 24, nameIndex := 40, descriptorIndex := 26, attributes := #[] }, { accessFlags := 26, nameIndex := 1101, descriptorIndex := 1102, attributes := #[] }, { accessFlags := 26, nameIndex := 1121, descriptorIndex := 1122, attributes := #[] }, { accessFlags := 25, nameIndex := 599, descriptorIndex := 600, attributes := #[] }, { accessFlags := 24, nameIndex := 1125, descriptorIndex := 18, attributes := #[] }, { accessFlags := 24, nameIndex := 1127, descriptorIndex := 18, attributes := #[] }])
  fields := #[{ name := "value", type := (.array .byte), accessFlags := 18, slot := 0, constantValue := 0 }, { name := "coder", type := .byte, accessFlags := 18, slot := 1, constantValue := 0 }, { name := "hash", type := .int, accessFlags := 2, slot := 2, constantValue := 0 }, { name := "hashIsZero", type := .boolean, accessFlags := 2, slot := 3, constantValue := 0 }, { name := "serialVersionUID", type := .long, accessFlags := 26, slot := 0, constantValue := 0 }, { name := "COMPACT_STRINGS", type := .boolean, accessFlags := 24, slot := 1, constantValue := 0 }, { name := "serialPersistentFields", type := (.array (.object "java/io/ObjectStreamField")), accessFlags := 26, slot := 2, constantValue := 0 }, { name := "REPL", type := .char, accessFlags := 26, slot := 3, constantValue := 0 }, { name := "CASE_INSENSITIVE_ORDER", type := (.object "java/util/Comparator"), accessFlags := 25, slot := 4, constantValue := 0 }, { name := "LATIN1", type := .byte, accessFlags := 24, slot := 5, constantValue := 0 }, { name := "UTF16", type := .byte, accessFlags := 24, slot := 6, constantValue := 0 }]
  methods := #[k9m0, k9m1]
  instanceTypes := #[(.array .byte), .byte, .int, .boolean]
  staticTypes := #[.long, .boolean, (.array (.object "java/io/ObjectStreamField")), .char, (.object "java/util/Comparator"), .byte, .byte]
  resolved := Array.replicate 1451 none
  statics := some 1 }

def pool10 : Array CpInfo := pool [(4, .class_ 6), (1, u "java/lang/Object"), (0, u "<init>"), (0, u "()V"), (5, .class_ 16), (1, u "java/lang/StringLatin1"), (104, u "$assertionsDisabled"), (0, u "Z"), (98, .class_ 223), (1, u "java/lang/StringLatin1$LinesSpliterator"), (57, u "equals"), (0, u "([B[B)Z"), (107, .class_ 391), (0, u "java/lang/StringLatin1$CharsSpliterator")] 3

def k10m0 : Method := { name := "<init>", desc := "()V", sig := { parameters := [], returnType := none }, accessFlags := 0, code := none }
def k10c1 : Code := { maxStack := 3, maxLocals := 3, code := jdk_43_method_13_code, exceptionTable := #[], attributes := #[] }
def k10m1 : Method := { name := "equals", desc := "([B[B)Z", sig := { parameters := [(.array .byte), (.array .byte)], returnType := some .boolean }, accessFlags := 9, code := some k10c1 }
/-- java/lang/StringLatin1 -/
def k10 : Class := { plain "java/lang/StringLatin1" (some 0) with
  accessFlags := 48
  interfaces := #[]
  cf := some (fileOf pool10 14 #[.nestMembers #[390, 221]] #[{ accessFlags := 0, nameIndex := 7, descriptorIndex := 8, attributes := #[] }, { accessFlags := 9, nameIndex := 281, descriptorIndex := 282, attributes := #[] }] 48 4 #[] #[{ accessFlags := 4120, nameIndex := 121, descriptorIndex := 122, attributes := #[] }])
  fields := #[{ name := "$assertionsDisabled", type := .boolean, accessFlags := 4120, slot := 0, constantValue := 0 }]
  methods := #[k10m0, k10m1]
  instanceTypes := #[]
  staticTypes := #[.boolean]
  resolved := Array.replicate 395 none
  statics := none }

def pool11 : Array CpInfo := pool [(2, .class_ 4), (1, u "java/lang/Object"), (0, u "<init>"), (0, u "()V"), (17, .class_ 26), (1, u "jdk/internal/util/Preconditions"), (28, .class_ 56), (0, u "jdk/internal/util/Preconditions$4"), (57, .class_ 115), (0, u "jdk/internal/util/Preconditions$1"), (7, u "SIOOBE_FORMATTER"), (0, u "Ljava/util/function/BiFunction;"), (0, .class_ 126), (0, u "jdk/internal/util/Preconditions$2"), (3, u "AIOOBE_FORMATTER"), (0, .class_ 132), (0, u "jdk/internal/util/Preconditions$3"), (3, u "IOOBE_FORMATTER")] 57

def k11m0 : Method := { name := "<init>", desc := "()V", sig := { parameters := [], returnType := none }, accessFlags := 1, code := none }
/-- jdk/internal/util/Preconditions -/
def k11 : Class := { plain "jdk/internal/util/Preconditions" (some 0) with
  accessFlags := 33
  interfaces := #[]
  cf := some (fileOf pool11 24 #[.nestMembers #[55, 131, 125, 114]] #[{ accessFlags := 1, nameIndex := 5, descriptorIndex := 6, attributes := #[] }] 33 2 #[] #[{ accessFlags := 25, nameIndex := 123, descriptorIndex := 124, attributes := #[] }, { accessFlags := 25, nameIndex := 130, descriptorIndex := 124, attributes := #[] }, { accessFlags := 25, nameIndex := 136, descriptorIndex := 124, attributes := #[] }])
  fields := #[{ name := "SIOOBE_FORMATTER", type := (.object "java/util/function/BiFunction"), accessFlags := 25, slot := 0, constantValue := 0 }, { name := "AIOOBE_FORMATTER", type := (.object "java/util/function/BiFunction"), accessFlags := 25, slot := 1, constantValue := 0 }, { name := "IOOBE_FORMATTER", type := (.object "java/util/function/BiFunction"), accessFlags := 25, slot := 2, constantValue := 0 }]
  methods := #[k11m0]
  instanceTypes := #[]
  staticTypes := #[(.object "java/util/function/BiFunction"), (.object "java/util/function/BiFunction"), (.object "java/util/function/BiFunction")]
  resolved := Array.replicate 194 none
  statics := some 2 }

def pool12 : Array CpInfo := pool [(9, u "<init>"), (6, .class_ 18), (1, u "java/lang/Object"), (0, u "()V"), (1, .class_ 23), (1, u "jdk/internal/util/ArraysSupport"), (0, u "LOG2_ARRAY_LONG_INDEX_SCALE"), (0, u "I"), (2, u "U"), (0, u "Ljdk/internal/misc/Unsafe;"), (8, u "BIG_ENDIAN"), (0, u "Z"), (8, u "LOG2_BYTE_BIT_SIZE"), (4, u "LOG2_ARRAY_INT_INDEX_SCALE"), (54, u "JLA"), (0, u "Ljdk/internal/access/JavaLangAccess;"), (11, u "LOG2_ARRAY_BOOLEAN_INDEX_SCALE"), (9, u "LOG2_ARRAY_BYTE_INDEX_SCALE"), (5, u "LOG2_ARRAY_CHAR_INDEX_SCALE"), (5, u "LOG2_ARRAY_SHORT_INDEX_SCALE"), (18, u "LOG2_ARRAY_FLOAT_INDEX_SCALE"), (24, u "LOG2_ARRAY_DOUBLE_INDEX_SCALE"), (89, u "T_BOOLEAN"), (2, u "T_CHAR"), (1, u "T_FLOAT"), (1, u "T_DOUBLE"), (1, u "T_BYTE"), (1, u "T_SHORT"), (1, u "T_INT"), (1, u "T_LONG"), (1, u "SOFT_MAX_ARRAY_LENGTH")] 83

def k12m0 : Method := { name := "<init>", desc := "()V", sig := { parameters := [], returnType := none }, accessFlags := 2, code := none }
/-- jdk/internal/util/ArraysSupport -/
def k12 : Class := { plain "jdk/internal/util/ArraysSupport" (some 0) with
  accessFlags := 33
  interfaces := #[]
  cf := some (fileOf pool12 21 #[] #[{ accessFlags := 2, nameIndex := 9, descriptorIndex := 19, attributes := #[] }] 33 16 #[] #[{ accessFlags := 24, nameIndex := 28, descriptorIndex := 29, attributes := #[] }, { accessFlags := 26, nameIndex := 38, descriptorIndex := 39, attributes := #[] }, { accessFlags := 25, nameIndex := 121, descriptorIndex := 25, attributes := #[] }, { accessFlags := 25, nameIndex := 131, descriptorIndex := 25, attributes := #[] }, { accessFlags := 25, nameIndex := 137, descriptorIndex := 25, attributes := #[] }, { accessFlags := 25, nameIndex := 143, descriptorIndex := 25, attributes := #[] }, { accessFlags := 25, nameIndex := 53, descriptorIndex := 25, attributes := #[] }, { accessFlags := 25, nameIndex := 24, descriptorIndex := 25, attributes := #[] }, { accessFlags := 25, nameIndex := 162, descriptorIndex := 25, attributes := #[] }, { accessFlags := 25, nameIndex := 187, descriptorIndex := 25, attributes := #[] }, { accessFlags := 26, nameIndex := 48, descriptorIndex := 25, attributes := #[] }, { accessFlags := 25, nameIndex := 277, descriptorIndex := 25, attributes := #[] }, { accessFlags := 25, nameIndex := 280, descriptorIndex := 25, attributes := #[] }, { accessFlags := 25, nameIndex := 282, descriptorIndex := 25, attributes := #[] }, { accessFlags := 25, nameIndex := 284, descriptorIndex := 25, attributes := #[] }, { accessFlags := 25, nameIndex := 286, descriptorIndex := 25, attributes := #[] }, { accessFlags := 25, nameIndex := 288, descriptorIndex := 25, attributes := #[] }, { accessFlags := 25, nameIndex := 290, descriptorIndex := 25, attributes := #[] }, { accessFlags := 25, nameIndex := 292, descriptorIndex := 25, attributes := #[] }, { accessFlags := 26, nameIndex := 108, descriptorIndex := 109, attributes := #[] }, { accessFlags := 25, nameIndex := 294, descriptorIndex := 25, attributes := #[] }])
  fields := #[{ name := "U", type := (.object "jdk/internal/misc/Unsafe"), accessFlags := 24, slot := 0, constantValue := 0 }, { name := "BIG_ENDIAN", type := .boolean, accessFlags := 26, slot := 1, constantValue := 0 }, { name := "LOG2_ARRAY_BOOLEAN_INDEX_SCALE", type := .int, accessFlags := 25, slot := 2, constantValue := 0 }, { name := "LOG2_ARRAY_BYTE_INDEX_SCALE", type := .int, accessFlags := 25, slot := 3, constantValue := 0 }, { name := "LOG2_ARRAY_CHAR_INDEX_SCALE", type := .int, accessFlags := 25, slot := 4, constantValue := 0 }, { name := "LOG2_ARRAY_SHORT_INDEX_SCALE", type := .int, accessFlags := 25, slot := 5, constantValue := 0 }, { name := "LOG2_ARRAY_INT_INDEX_SCALE", type := .int, accessFlags := 25, slot := 6, constantValue := 0 }, { name := "LOG2_ARRAY_LONG_INDEX_SCALE", type := .int, accessFlags := 25, slot := 7, constantValue := 0 }, { name := "LOG2_ARRAY_FLOAT_INDEX_SCALE", type := .int, accessFlags := 25, slot := 8, constantValue := 0 }, { name := "LOG2_ARRAY_DOUBLE_INDEX_SCALE", type := .int, accessFlags := 25, slot := 9, constantValue := 0 }, { name := "LOG2_BYTE_BIT_SIZE", type := .int, accessFlags := 26, slot := 10, constantValue := 0 }, { name := "T_BOOLEAN", type := .int, accessFlags := 25, slot := 11, constantValue := 0 }, { name := "T_CHAR", type := .int, accessFlags := 25, slot := 12, constantValue := 0 }, { name := "T_FLOAT", type := .int, accessFlags := 25, slot := 13, constantValue := 0 }, { name := "T_DOUBLE", type := .int, accessFlags := 25, slot := 14, constantValue := 0 }, { name := "T_BYTE", type := .int, accessFlags := 25, slot := 15, constantValue := 0 }, { name := "T_SHORT", type := .int, accessFlags := 25, slot := 16, constantValue := 0 }, { name := "T_INT", type := .int, accessFlags := 25, slot := 17, constantValue := 0 }, { name := "T_LONG", type := .int, accessFlags := 25, slot := 18, constantValue := 0 }, { name := "JLA", type := (.object "jdk/internal/access/JavaLangAccess"), accessFlags := 26, slot := 19, constantValue := 0 }, { name := "SOFT_MAX_ARRAY_LENGTH", type := .int, accessFlags := 25, slot := 20, constantValue := 0 }]
  methods := #[k12m0]
  instanceTypes := #[]
  staticTypes := #[(.object "jdk/internal/misc/Unsafe"), .boolean, .int, .int, .int, .int, .int, .int, .int, .int, .int, .int, .int, .int, .int, .int, .int, .int, .int, (.object "jdk/internal/access/JavaLangAccess"), .int]
  resolved := Array.replicate 378 none
  statics := none }

def pool13 : Array CpInfo := pool [(1, u "java/lang/Cloneable"), (0, .class_ 1), (0, u "java/lang/Object"), (0, .class_ 3)] 3

/-- java/lang/Cloneable -/
def k13 : Class := { plain "java/lang/Cloneable" (some 0) with
  accessFlags := 1537
  interfaces := #[]
  cf := some (fileOf pool13 2 #[] #[] 1537 4 #[] #[])
  fields := #[]
  methods := #[]
  instanceTypes := #[]
  staticTypes := #[]
  resolved := Array.replicate 8 none
  statics := none }

/-- the primitive byte -/
def k14 : Class := { plain "byte" none with kind := .primitive 'B', accessFlags := 0x411 }
/-- [B -/
def k15 : Class := { plain "[B" (some 0) with kind := .array 14 .byte, interfaces := #[13, 4], accessFlags := 1041 }

/-- the primitive int -/
def k16 : Class := { plain "int" none with kind := .primitive 'I', accessFlags := 0x411 }
/-- [I -/
def k17 : Class := { plain "[I" (some 0) with kind := .array 16 .int, interfaces := #[13, 4], accessFlags := 1041 }

def heap : Heap := #[{ cls := 6, slots := #[.ref 3, .ref 9, .ref 7, .ref 5, .null], vm := .statics 6 },
  { cls := 9, slots := #[.long 0, .int 1, .null, .int 0, .null, .int 0, .int 0], vm := .statics 9 },
  { cls := 11, slots := #[.null, .null, .null], vm := .statics 11 },
  { cls := 6, slots := #[.null, .int 0, .int 0, .ref 4, .null, .null], vm := .none },
  { cls := 9, slots := #[.ref 11, .int 0, .int 0, .int 0], vm := .none },
  { cls := 6, slots := #[.null, .int 3, .int 0, .ref 6, .null, .null], vm := .none },
  { cls := 9, slots := #[.ref 12, .int 0, .int 0, .int 0], vm := .none },
  { cls := 6, slots := #[.null, .int 2, .int 0, .ref 8, .null, .null], vm := .none },
  { cls := 9, slots := #[.ref 13, .int 0, .int 0, .int 0], vm := .none },
  { cls := 6, slots := #[.null, .int 1, .int 0, .ref 10, .null, .null], vm := .none },
  { cls := 9, slots := #[.ref 14, .int 0, .int 0, .int 0], vm := .none },
  { cls := 15, slots := #[.int 114, .int 115, .int 97, .int 45, .int 115, .int 104, .int 97, .int 49], vm := .none },
  { cls := 15, slots := #[.int 114, .int 115, .int 97, .int 45, .int 115, .int 104, .int 97, .int 53, .int 49, .int 50], vm := .none },
  { cls := 15, slots := #[.int 114, .int 115, .int 97, .int 45, .int 115, .int 104, .int 97, .int 51, .int 56, .int 52], vm := .none },
  { cls := 15, slots := #[.int 114, .int 115, .int 97, .int 45, .int 115, .int 104, .int 97, .int 50, .int 53, .int 54], vm := .none }]
def classes : Array Class := #[k0, k1, k2, k3, k4, k5, k6, k7, k8, k9, k10, k11, k12, k13, k14, k15, k16, k17]
def interned : List (Array UInt16 × Addr) := []
def slotsUsed : Nat := 93
def theMethod : MethodId := ⟨1, 2⟩
def args0 : Array Value := #[.int 5]
def aboutOver (below : List Frame) : State where
  vm := { classes := classes, interned := interned.toArray }
  heap := heap
  slotsUsed := slotsUsed
  threads := #[{ frames := .invoking theMethod args0 :: below }]
def below0 : List Frame := [.native { method := ⟨0, 0⟩, args := #[] }]
def about1 : State := aboutOver below0
def p0 : Program := .bare "" "" ""
def e0 : Env := launch0.env 0 0 0
theorem w_frames : about1.frames = Frame.invoking theMethod args0 :: below0 := rfl
set_option maxRecDepth 65536 in
theorem w_args : argsFit about1.vm theMethod args0 = true := by decide +kernel
set_option maxRecDepth 65536 in
theorem w_heap : heapFits about1 = true := by decide +kernel
set_option maxRecDepth 65536 in
theorem w_runnable : about1.curStatus? = some .runnable := by decide +kernel
set_option maxRecDepth 65536 in
theorem w_alone : about1.alone = true := by decide +kernel
set_option maxRecDepth 65536 in
theorem w_named : about1.methodNamed? x = some theMethod := by decide +kernel
set_option maxRecDepth 65536 in
theorem w_hears : about1.hears theMethod below0 = true := by decide +kernel
set_option maxRecDepth 65536 in
theorem w_ripe : about1.ripe theMethod args0 below0 = true := by decide +kernel
theorem w_running : about1.status = .running := rfl
set_option maxRecDepth 65536 in
theorem w_room : about1.hasRoom e0.platform room_1 = true :=
  launch0.hasRoom_least _ room_1 (by decide +kernel) (by decide +kernel) (by decide +kernel) (by decide +kernel) (by decide +kernel) (by decide +kernel)
theorem allAtoms_all (ts : List Jvm.Cond) (a : Array Jvm.Value) (st : Jvm.State) : (allAtoms ts).before a st = ts.all (fun c => c.before a st) := by
  induction ts with
  | nil => rfl
  | cons c t ih =>
    show (Jvm.Cond.and c (allAtoms t)).before a st = _
    rw [Jvm.Cond.before_and, ih, List.all_cons]
def words1 : List Jvm.Cond := Jvm.Cond.code x code maxLocals ret :: tables_1
/-- a 'code' word, met by the world's own term for the bytes: nothing is compared byte by byte -/
theorem code_word {y : MethodName} {bytes : ByteArray} {mx : Nat} {rt : Option FieldType} {a : Array Value} {s : State} {m : MethodId} {meth : Method} {c : Code} (h1 : s.methodNamed? y = some m) (h2 : s.vm.method? m = some meth) (h3 : meth.code = some c) (h4 : c.code = bytes)
    (h5 : (c.maxLocals == mx && c.exceptionTable.isEmpty && decide (c.maxStack ≤ mostOperands) && decide (meth.sig.returnType = rt) && !meth.locks && decide (parseMethodDescriptor y.desc = some meth.sig)) = true) : (Jvm.Cond.code y bytes mx rt).before a s = true := by
  simp only [Bool.and_eq_true, beq_iff_eq, Bool.not_eq_true', decide_eq_true_eq] at h5
  obtain ⟨⟨⟨⟨⟨g1, g2⟩, g3⟩, g4⟩, g5⟩, g6⟩ := h5
  simp [Cond.before, Cond.holds, Cond.value, h1, h2, h3, h4, g1, g2, g3, g4, g5, g6]
def isCode : Jvm.Cond → Bool
  | .code _ _ _ _ => true
  | _ => false
theorem all_split {L : List Jvm.Cond} {P : Jvm.Cond → Bool} (h1 : L.all (fun c => isCode c || P c) = true) (h2 : ∀ c ∈ L.filter isCode, P c = true) : L.all P = true := by
  refine List.all_eq_true.mpr fun c hc => ?_
  have h := List.all_eq_true.mp h1 c hc
  rcases Bool.eq_false_or_eq_true (isCode c) with hi | hi
  · exact h2 c (List.mem_filter.mpr ⟨hc, hi⟩)
  · simpa [hi] using h
set_option maxRecDepth 65536 in
theorem w_c0 : (Jvm.Cond.code x code maxLocals ret).before args0 about1 = true := code_word (m := ⟨1, 2⟩) (meth := k1m2) (c := k1c2) (by decide +kernel) rfl rfl rfl (by decide +kernel)
set_option maxRecDepth 65536 in
theorem w_c1 : (Jvm.Cond.code ({ cls := "org/vouchsafe/SignatureAlgorithmSha1PinLaw", name := "pick", desc := "(I)Lorg/vouchsafe/SignatureAlgorithm;" } : Jvm.MethodName) method_2_code (1 : Nat) (Option.some (Jvm.ClassFile.FieldType.object "org/vouchsafe/SignatureAlgorithm"))).before args0 about1 = true := code_word (m := ⟨1, 1⟩) (meth := k1m1) (c := k1c1) (by decide +kernel) rfl rfl rfl (by decide +kernel)
set_option maxRecDepth 65536 in
theorem w_c2 : (Jvm.Cond.code ({ cls := "org/vouchsafe/SignatureAlgorithm", name := "sha1", desc := "()Z" } : Jvm.MethodName) prog_28_method_7_code (1 : Nat) (Option.some Jvm.ClassFile.FieldType.boolean)).before args0 about1 = true := code_word (m := ⟨6, 1⟩) (meth := k6m1) (c := k6c1) (by decide +kernel) rfl rfl rfl (by decide +kernel)
set_option maxRecDepth 65536 in
theorem w_c3 : (Jvm.Cond.code ({ cls := "org/vouchsafe/SignatureAlgorithm", name := "code", desc := "()Ljava/lang/String;" } : Jvm.MethodName) prog_28_method_4_code (1 : Nat) (Option.some (Jvm.ClassFile.FieldType.object "java/lang/String"))).before args0 about1 = true := code_word (m := ⟨6, 0⟩) (meth := k6m0) (c := k6c0) (by decide +kernel) rfl rfl rfl (by decide +kernel)
set_option maxRecDepth 65536 in
theorem w_c4 : (Jvm.Cond.code ({ cls := "java/lang/String", name := "equals", desc := "(Ljava/lang/Object;)Z" } : Jvm.MethodName) jdk_42_method_66_code (3 : Nat) (Option.some Jvm.ClassFile.FieldType.boolean)).before args0 about1 = true := code_word (m := ⟨9, 1⟩) (meth := k9m1) (c := k9c1) (by decide +kernel) rfl rfl rfl (by decide +kernel)
set_option maxRecDepth 65536 in
theorem w_c5 : (Jvm.Cond.code ({ cls := "java/lang/StringLatin1", name := "equals", desc := "([B[B)Z" } : Jvm.MethodName) jdk_43_method_13_code (3 : Nat) (Option.some Jvm.ClassFile.FieldType.boolean)).before args0 about1 = true := code_word (m := ⟨10, 1⟩) (meth := k10m1) (c := k10c1) (by decide +kernel) rfl rfl rfl (by decide +kernel)
def codes1 : List Jvm.Cond := [Jvm.Cond.code x code maxLocals ret, Jvm.Cond.code ({ cls := "org/vouchsafe/SignatureAlgorithmSha1PinLaw", name := "pick", desc := "(I)Lorg/vouchsafe/SignatureAlgorithm;" } : Jvm.MethodName) method_2_code (1 : Nat) (Option.some (Jvm.ClassFile.FieldType.object "org/vouchsafe/SignatureAlgorithm")), Jvm.Cond.code ({ cls := "org/vouchsafe/SignatureAlgorithm", name := "sha1", desc := "()Z" } : Jvm.MethodName) prog_28_method_7_code (1 : Nat) (Option.some Jvm.ClassFile.FieldType.boolean), Jvm.Cond.code ({ cls := "org/vouchsafe/SignatureAlgorithm", name := "code", desc := "()Ljava/lang/String;" } : Jvm.MethodName) prog_28_method_4_code (1 : Nat) (Option.some (Jvm.ClassFile.FieldType.object "java/lang/String")), Jvm.Cond.code ({ cls := "java/lang/String", name := "equals", desc := "(Ljava/lang/Object;)Z" } : Jvm.MethodName) jdk_42_method_66_code (3 : Nat) (Option.some Jvm.ClassFile.FieldType.boolean), Jvm.Cond.code ({ cls := "java/lang/StringLatin1", name := "equals", desc := "([B[B)Z" } : Jvm.MethodName) jdk_43_method_13_code (3 : Nat) (Option.some Jvm.ClassFile.FieldType.boolean)]
set_option maxRecDepth 65536 in
theorem codes_eq : words1.filter isCode = codes1 := rfl
theorem w_codes : ∀ c ∈ words1.filter isCode, c.before args0 about1 = true := by
  rw [codes_eq]
  intro c hc
  simp only [codes1, List.mem_cons, List.not_mem_nil, or_false] at hc
  rcases hc with rfl | rfl | rfl | rfl | rfl | rfl
  · exact w_c0
  · exact w_c1
  · exact w_c2
  · exact w_c3
  · exact w_c4
  · exact w_c5
set_option maxRecDepth 65536 in
theorem w_t1 : (words1.take 24).all (fun c => isCode c || c.before args0 about1) = true := by decide +kernel
set_option maxRecDepth 65536 in
theorem w_t2 : ((words1.drop 24).take 24).all (fun c => isCode c || c.before args0 about1) = true := by decide +kernel
set_option maxRecDepth 65536 in
theorem w_t3 : ((words1.drop 24).drop 24).all (fun c => isCode c || c.before args0 about1) = true := by decide +kernel
theorem w_tables : (allAtoms (Jvm.Cond.code x code maxLocals ret :: tables_1)).before args0 about1 = true := by
  rw [allAtoms_all]
  show words1.all (fun c => c.before args0 about1) = true
  refine all_split ?_ w_codes
  rw [← List.take_append_drop 24 words1, List.all_append, w_t1, ← List.take_append_drop 24 (words1.drop 24), List.all_append, w_t2, w_t3]
  rfl
set_option maxRecDepth 65536 in
theorem w_rest : rest_1_c.before args0 about1 = true := by decide +kernel
set_option maxRecDepth 65536 in
theorem w_case : (Jvm.Cond.and given_1 narrow_1).before args0 about1 = true := by decide +kernel
set_option maxRecDepth 65536 in
theorem w_consts : constsHeld consts_1 about1 := Jvm.Lit.constsHeldB_iff.mp (by decide +kernel)
theorem w_applies : (headSpec (Jvm.Cond.code x code maxLocals ret :: tables_1) room_1).applies x e0.platform about1 = true :=
  (Spec.applies_iff w_frames).mpr ⟨w_running, w_runnable, w_alone, w_named, w_hears, w_ripe, w_room, w_tables⟩
theorem atStart : AtStart classFile x code maxLocals ret World_1 tables_1 room_1 Calls_1 rest_1 Pre_1 launch0 p0 e0 about1 theMethod args0 below0 :=
  ⟨lists_1, trivial, launch0.admits_env _ _ _, launch0.least_env, fairChoices_fair.cas, fairChoices_fair.clock, w_frames, w_args, w_heap, w_applies, ⟨w_consts, trivial⟩, w_rest, w_case⟩
end start1
theorem witness_1 : WitnessClaimed_1 := ⟨start1.p0, start1.e0, start1.about1, start1.theMethod, start1.args0, start1.below0, start1.atStart⟩
end Jvm.Pilot.@@N@@
